import JvmDerived
import JvmDerived.Pilot.@@N@@Statement
import JvmDerived.Pilot.@@N@@Code
set_option linter.unusedVariables false
set_option linter.unusedSimpArgs false
namespace Jvm.RoadKit
open Sem ClassFile Op Lib Jvm.Stand Jvm.Free Jvm.LawKit
section New
variable {p : Program} {l : Launch} {e : Env} {R : Room} {s : State} {m : MethodId} {args : Array Value} {below : List Frame} {meth : Method} {c : Code} {T : State} {locs : List Loc} {cells slots : Nat}
theorem retI (X : Stand p l e R s m args below meth c T locs cells slots) (hx : p.tables.exec = Jvm.exec) {pc : Nat} {Ls : Array Slot} {z : Int32} {rest : List Value} (hret : meth.sig.returnType = some .int) (hd : decode c.code pc = .ok (.ireturn, 1)) {fs : List Frame}
    (hl : ∀ (f : JFrame) (acts : List Action), f.method = m → f.locked = none → f.entered = [] → (doReturn e (T.setTop f) acts (some (.int z))).1 = T.setFrames fs) : Steps p.tables e below (T.setTop (mkF m pc Ls (.int z :: rest))) (T.setFrames fs) := by
  have hm' : T.vm.method? m = some meth := X.method'
  have hn : narrow .int (.int z) = .int z := rfl
  show Steps p.tables e below (T.setTop { method := m, pc := pc, locals := Ls, stack := _ :: rest, locked := none }) _
  jvm_step X.here [X.here.top, hx, hd, hm', hret, hn]
  first | (intro acts; rw [hl _ acts rfl rfl rfl]) | rw [hl _ _ rfl rfl rfl]
  exact Steps.refl _
theorem own_retA (X : Stand p l e R s m args below meth c T locs cells slots) (hx : p.tables.exec = Jvm.exec) {pc : Nat} {Ls : Array Slot} {z : Value} {ty : FieldType} {rest : List Value} (hret : meth.sig.returnType = some ty) (hty : ty.isReference = true) (hz : z.isRef = true) (hd : decode c.code pc = .ok (.areturn, 1)) {fs : List Frame}
    (hl : ∀ (f : JFrame) (acts : List Action), f.method = m → f.locked = none → f.entered = [] → (doReturn e (T.setTop f) acts (some z)).1 = T.setFrames fs) : Steps p.tables e below (T.setTop (mkF m pc Ls (z :: rest))) (T.setFrames fs) := by
  have hm' : T.vm.method? m = some meth := X.method'
  show Steps p.tables e below (T.setTop { method := m, pc := pc, locals := Ls, stack := _ :: rest, locked := none }) _
  jvm_step X.here [X.here.top, hx, hd, hm', hret, hz, hty]
  first | (intro acts; rw [hl _ acts rfl rfl rfl]) | rw [hl _ _ rfl rfl rfl]
  exact Steps.refl _
theorem own_lremM {g : JFrame} {target : State} (X : Stand p l e R s m args below meth c T locs cells slots) (hx : p.tables.exec = Jvm.exec) (hg : g.method = m) {x y : Int64} {rest : List Value} (hd : decode c.code g.pc = .ok (.lrem, 1)) (hs : g.stack = .long y :: .long x :: rest) (hy : y ≠ 0)
    (hr : Steps p.tables e below (T.setTop { g with pc := g.pc + 1, stack := .long (x % y) :: rest }) target) : Steps p.tables e below (T.setTop g) target :=
  XS.lrem X.here hx hg hd hs hy (by rw [lrem_mod]; exact hr)
end New
end Jvm.RoadKit
namespace Jvm.Pilot.@@N@@
open Jvm Jvm.ClassFile Sem Op Lib Jvm.Free Jvm.Stand Jvm.LawKit Jvm.RoadKit Bundle Jvm.Pilot.@@N@@.Jvm.D
theorem own_selP {Z s : State} {args a0 : Array Value} {y : MethodName} {n : Nat} (hZ : Z.Warmed39 s.vm) (wi : (Jvm.Cond.instantiable y.cls n).before a0 Z = true) (wp : (Jvm.Cond.privateMethod y).before a0 Z = true) (wm : (Jvm.Cond.instanceMethod y).before a0 Z = true) (hy : y.cls ≠ "java/lang/invoke/MethodHandle" ∧ y.cls ≠ "java/lang/invoke/VarHandle") : (Jvm.Cond.selects y.cls y y).before args s = true := by
  obtain ⟨c, k, h1, h2, -, h3, -⟩ := Cond.instantiable_spec (mv (args := args) hZ wi)
  exact Jvm.Stand.selects_self_of_private h1 h2 (by simp only [Bool.or_eq_false_iff] at h3; exact h3.1) (Cond.privateMethod_at (mvP hZ wp (args := args))) (mv hZ wm) hy
theorem own_fitC {Z : State} {h : Heap} {a : Addr} {cl : Cell} {ty : FieldType} {vs : List Value} {dv : Value} (A : Arr Z h a cl ty) (H : Has cl vs dv) (G : ∀ i, i < cl.slots.size → fits ty (vs.getD i dv) = true) : FitC Z cl := fun i v hv => by
  obtain ⟨hi, -⟩ := Array.getElem?_eq_some_iff.mp hv
  obtain ⟨hs, k, hk, comp, hkind⟩ := A.2.1
  have e : Z.slotType? cl.cls .none i = some ty := by simp [State.slotType?, hk, hkind]
  have q := G i hi
  have hv' : v = vs.getD i dv := Option.some.inj (hv.symm.trans (H i hi))
  rw [State.fitsSlot, e, hv']
  exact q
theorem own_ibW {Z s : State} {vm₁ : Vm} {Ts : List String} (I : IB Z s.vm Ts) (h : s.WarmedH vm₁) : IB Z vm₁ Ts := by
  obtain ⟨more, q1, q2⟩ := I
  exact ⟨more, by rw [h.interned_eq]; exact q1, q2⟩
theorem own_litS {Z s : State} {vm₁ : Vm} {own : String} {i : Nat} {a : Addr} (L : Lit s own i a) (h : s.Warmed39 vm₁) : Lit (Z.setVm vm₁) own i a := State.resolvedAt?_warmed39 (s := s) h L
theorem own_litW {Z s : State} {vm₁ : Vm} {own : String} {i : Nat} {a : Addr} (L : Lit s own i a) (h : s.WarmedH vm₁) : Lit (Z.setVm vm₁) own i a := own_litS L h.wide
theorem own_backOfV {p : Program} {l : Launch} {e : Env} {R : Room} {s : State} {args : Array Value} {below : List Frame} {Z : State} {a0 : Array Value} {h : Heap} {y : MethodName} {bytes : ByteArray} {maxL : Nat} {ret : Option FieldType} {rm : Room} {len W : Nat} {as' : Array Value} {VP : Vm → Prop} {Q : Option Value → Heap → Vm → List Loc → Prop}
    (hM : MetFree l y (head1 [Jvm.Cond.code y bytes maxL ret] rm) (fun a U => a = as' ∧ Z.Warmed39 U.vm ∧ U.heap = h ∧ VP U.vm) (fun _ _ _ _ _ => True) (fun _ U o U' => ∃ v L, o = .returned v ∧ Q v U'.heap U'.vm L ∧ ReturnedEndW U o U' L rm.cells rm.slots))
    (hZ : Z.Warmed39 s.vm) (wc : (Jvm.Cond.code y bytes maxL ret).before a0 Z = true) (wz : (Jvm.Cond.initialized y.cls).before a0 Z = true) (hf : rm.frames + 1 ≤ R.frames) (hl : W + (maxL + 11) + rm.locals ≤ R.locals) :
    BackS l R p e below s args y len W (fun A a => a = as' ∧ A.U.heap = h ∧ VP A.U.vm ∧ A.cells + rm.cells ≤ R.cells ∧ A.slots + rm.slots ≤ R.slots)
      (fun A _ v B => ∃ L, Q v B.U.heap B.U.vm L ∧ B.locs = A.locs ++ L ∧ B.cells = A.cells + rm.cells ∧ B.slots = A.slots + rm.slots) := by
  refine BackS.of_freeW (bytes := bytes) (maxL := maxL) (ret := ret) (E := fun _ _ o t L k n => k = rm.cells ∧ n = rm.slots ∧ ∃ v, o = .returned v ∧ Q v t.heap t.vm L) hM hf hl ?_ ?_ (fun _ _ _ _ _ _ _ _ _ => trivial) ?_ ?_
  · intro m meth c A a Y hp
    have hU : Z.Warmed39 A.U.vm := wtrans hZ Y.warmed
    refine ⟨?_, mv hU wc, mv hU wz, hp.2.2.2.1, hp.2.2.2.2⟩
    show (Jvm.Cond.and _ .tt).before a A.U = true
    rw [Cond.before_and, mv hU wc]
    rfl
  · intro m meth c A a g mk Y hp
    exact ⟨hp.1, wtrans hZ Y.warmed, hp.2.1, hp.2.2.1⟩
  · rintro _ _ _ _ ⟨v, L, h1, h2, h3⟩
    exact ⟨L, _, _, h3, rfl, rfl, v, h1, h2⟩
  · rintro m meth c A a g mk v t L k n Y hp _ _ ⟨e1, e2, v', e3, e4⟩
    cases e3
    subst e1 e2
    exact ⟨L, e4, rfl, rfl, rfl⟩
theorem own_n0 {Z : State} {n0 : Nat} {h : Heap} (X : Old Z n0 h) : n0 ≤ h.size := X.1 ▸ X.2.1
/-- the run comes from U to an end of which P says enough -/
def Go (p : Program) (e : Env) (below : List Frame) (P : Outcome → State → Prop) (U : State) : Prop := ∃ s₂ o, Steps p.tables e below U s₂ ∧ s₂.status = .running ∧ Ended s₂ below o ∧ P o s₂
theorem Go.st {p : Program} {e : Env} {below : List Frame} {P : Outcome → State → Prop} {U V : State} (k : ∀ t, Steps p.tables e below V t → Steps p.tables e below U t) (g : Go p e below P V) : Go p e below P U := by
  obtain ⟨a, b, h, r⟩ := g
  exact ⟨a, b, k _ h, r⟩
theorem Go.tr {p : Program} {e : Env} {below : List Frame} {P : Outcome → State → Prop} {U V : State} (k : Steps p.tables e below U V) (g : Go p e below P V) : Go p e below P U := by
  obtain ⟨a, b, h, r⟩ := g
  exact ⟨a, b, k.trans h, r⟩
theorem Go.start {p : Program} {e : Env} {below : List Frame} {P : Outcome → State → Prop} {U V : State} (k : ∀ {t}, Steps p.tables e below V t → Steps p.tables e below U t) (g : Go p e below P V) : ∃ s₂ o, Steps p.tables e below U s₂ ∧ s₂.status = .running ∧ Ended s₂ below o ∧ P o s₂ := by
  obtain ⟨a, b, h, r⟩ := g
  exact ⟨a, b, k h, r⟩
theorem own_valI {args : Array Value} {s : State} {t : Term} {k : Int32} (h : (Cond.eq t (.int k)).value args s none s [] = some true) : t.eval args s none [] s = some (.int k) := by
  obtain ⟨x, y, h1, h2, h3, -⟩ := cmp_v (Or.inl h)
  have e2 : y = .int k := (Option.some.inj h2).symm
  subst e2
  cases x <;> simp [Kin, Value.isRef] at h3
  simp only [Cond.value, h1, h2] at h
  simp at h
  rw [h1, h]
theorem own_valJ {args : Array Value} {s : State} {t : Term} {k : Int64} (h : (Cond.eq t (.long k)).value args s none s [] = some true) : t.eval args s none [] s = some (.long k) := by
  obtain ⟨x, y, h1, h2, h3, -⟩ := cmp_v (Or.inl h)
  have e2 : y = .long k := (Option.some.inj h2).symm
  subst e2
  cases x <;> simp [Kin, Value.isRef] at h3
  simp only [Cond.value, h1, h2] at h
  simp at h
  rw [h1, h]
theorem own_eqR {args : Array Value} {s : State} {t u : Term} {a : Addr} (ev : t.eval args s none [] s = some (.ref a)) (h : (Cond.eq t u).value args s none s [] = some true) : u.eval args s none [] s = some (.ref a) := by
  obtain ⟨x, y, h1, h2, h3, -⟩ := cmp_v (Or.inl h)
  cases h1.symm.trans ev
  have hy : y.isRef = true := h3.2
  have q := gotT (eq_R h1 h2 rfl hy) h
  rw [h2, ← q]
theorem own_eqL {args : Array Value} {s : State} {t u : Term} {a : Addr} (ev : u.eval args s none [] s = some (.ref a)) (h : (Cond.eq t u).value args s none s [] = some true) : t.eval args s none [] s = some (.ref a) := by
  obtain ⟨x, y, h1, h2, -, h4⟩ := cmp_v (Or.inl h)
  cases h2.symm.trans ev
  have hx : x.isRef = true := h4.2
  have q := gotT (eq_R h1 h2 hx rfl) h
  rw [h1, q]
theorem own_elI {Z : State} {args : Array Value} {t : Term} {a : Addr} {cl : Cell} {ty : FieldType} {i k : Int32} (A : Arr Z Z.heap a cl ty) (ev : t.eval args Z none [] Z = some (.ref a)) (h : (Cond.eq (.elem t (.int i)) (.int k)).value args Z none Z [] = some true) : cl.slots[i.toNatClampNeg]? = some (.int k) := (elem_in (own_valI h) ev rfl A.1).2
theorem own_elJ {Z : State} {args : Array Value} {t : Term} {a : Addr} {cl : Cell} {ty : FieldType} {i : Int32} {k : Int64} (A : Arr Z Z.heap a cl ty) (ev : t.eval args Z none [] Z = some (.ref a)) (h : (Cond.eq (.elem t (.int i)) (.long k)).value args Z none Z [] = some true) : cl.slots[i.toNatClampNeg]? = some (.long k) := (elem_in (own_valJ h) ev rfl A.1).2
theorem own_elR {Z : State} {args : Array Value} {t u : Term} {a b : Addr} {cl : Cell} {ty : FieldType} {i : Int32} (A : Arr Z Z.heap a cl ty) (ev : t.eval args Z none [] Z = some (.ref a)) (eu : u.eval args Z none [] Z = some (.ref b)) (h : (Cond.eq (.elem t (.int i)) u).value args Z none Z [] = some true) : cl.slots[i.toNatClampNeg]? = some (.ref b) := (elem_in (own_eqL eu h) ev rfl A.1).2
theorem own_arv {Z : State} {args : Array Value} {t : Term} {a : Addr} {cl : Cell} {ty : FieldType} {z : Int32} {vs : List Value} {dv : Value} (hf : Fit Z) (A : Arr Z Z.heap a cl ty) (ev : t.eval args Z none [] Z = some (.ref a)) (h : (Cond.eq (.length t) (.int z)).value args Z none Z [] = some true) (hz : ¬ z < 0) (hl : z.toNatClampNeg = vs.length) (H : HasL cl 0 vs) : Arv Z Z.heap a cl.cls ty z vs dv := by
  have hv := own_valI h
  have hA : Z.arrayAt? a = some cl := A.fin (Vm.Alike.refl _)
  have q : cl.slots.size < 2 ^ 31 := by
    simp only [Term.eval, ev, hA] at hv
    by_cases hq : cl.slots.size < 2 ^ 31
    · exact hq
    · simp [hA, hq] at hv
  have e : cl.slots.size.toInt32 = z := by
    have := len_f (args := args) (first := Z) (o := none) (idx := []) ev hA q
    rw [this] at hv
    exact Value.int.inj (Option.some.inj hv)
  exact Arv.start hf A q e hz hl H
theorem own_neI {args : Array Value} {s : State} {t : Term} {x k : Int32} (ev : t.eval args s none [] s = some (.int x)) (h : (Cond.not (Cond.eq t (.int k))).value args s none s [] = some true) : ¬ (x = k) := by
  have h' := not_v h
  intro e
  subst e
  simp [Cond.value, ev, Term.eval] at h'
theorem own_b32 (x : Int32) : -2147483648 ≤ x.toInt ∧ x.toInt < 2147483648 := ⟨Int32.le_toInt x, Int32.toInt_lt x⟩
theorem own_b64 (x : Int64) : -9223372036854775808 ≤ x.toInt ∧ x.toInt < 9223372036854775808 := ⟨Int64.le_toInt x, Int64.toInt_lt x⟩
theorem own_nlt32 {x y : Int32} (h : ¬ x < y) : ¬ x.toInt < y.toInt := fun q => h (Int32.lt_iff_toInt_lt.mpr q)
theorem own_nlt64 {x y : Int64} (h : ¬ x < y) : ¬ x.toInt < y.toInt := fun q => h (Int64.lt_iff_toInt_lt.mpr q)
theorem own_neq32 {x y : Int32} (h : ¬ x = y) : ¬ x.toInt = y.toInt := fun q => h (Int32.toInt_inj.mp q)
theorem own_neq64 {x y : Int64} (h : ¬ x = y) : ¬ x.toInt = y.toInt := fun q => h (Int64.toInt_inj.mp q)
theorem own_mask32 (x m : Int32) (k : Nat) (P : Int) (hk : k ≤ 31) (hm : m.toBitVec.toNat = 2 ^ k - 1) (hP : P = (2 ^ k : Nat)) : (x &&& m).toInt = x.toInt % P := by rw [hP]; exact c_mask x m k hk hm
theorem own_mask64 (x m : Int64) (k : Nat) (P : Int) (hk : k ≤ 63) (hm : m.toBitVec.toNat = 2 ^ k - 1) (hP : P = (2 ^ k : Nat)) : (x &&& m).toInt = x.toInt % P := by rw [hP]; exact c_maskL x m k hk hm
theorem own_rem32 (x y : Int32) (d : Int) (hy : y.toInt = d) : (0 ≤ x.toInt → (x % y).toInt = x.toInt % d) ∧ (x.toInt < 0 → (x % y).toInt = -((-x.toInt) % d)) := c_irem x y d hy
theorem own_rem64 (x y : Int64) (d : Int) (hy : y.toInt = d) : (0 ≤ x.toInt → (x % y).toInt = x.toInt % d) ∧ (x.toInt < 0 → (x % y).toInt = -((-x.toInt) % d)) := by rw [Int64.toInt_mod, hy]; exact tr _ _
theorem own_iushr0 (x q : Int32) (hk : q.toBitVec.toNat % 32 = 0) : ((x.toUInt32 >>> (q &&& 31).toUInt32).toInt32).toInt = x.toInt := by
  have e : q &&& 31 = 0 := by
    apply Int32.toBitVec_inj.mp
    apply BitVec.eq_of_toNat_eq
    rw [Int32.toBitVec_and, BitVec.toNat_and]
    show q.toBitVec.toNat &&& 31 = 0
    rw [show (31 : Nat) = 2 ^ 5 - 1 from rfl, Nat.and_two_pow_sub_one_eq_mod]
    exact hk
  rw [e, show (0 : Int32).toUInt32 = 0 from by decide]
  simp
theorem own_lushr0 (x : Int64) (q : Int32) (hk : q.toBitVec.toNat % 64 = 0) : ((x.toUInt64 >>> (q &&& 0x3f).toInt64.toUInt64).toInt64).toInt = x.toInt := by
  have e : q &&& 0x3f = 0 := by
    apply Int32.toBitVec_inj.mp
    apply BitVec.eq_of_toNat_eq
    rw [Int32.toBitVec_and, BitVec.toNat_and]
    show q.toBitVec.toNat &&& 63 = 0
    rw [show (63 : Nat) = 2 ^ 6 - 1 from rfl, Nat.and_two_pow_sub_one_eq_mod]
    exact hk
  rw [e, show (0 : Int32).toInt64.toUInt64 = 0 from by decide]
  simp
theorem own_ishr (x q : Int32) (k : Nat) (P : Int) (hk : q.toBitVec.toNat % 32 = k) (hP : P = (2 ^ k : Nat)) : (x >>> (q &&& 31)).toInt = x.toInt / P := by rw [hP]; exact c_ishr x q k hk
theorem own_ishl (x q : Int32) (k : Nat) (P : Int) (hk : q.toBitVec.toNat % 32 = k) (hP : P = (2 ^ k : Nat)) : ((x <<< (q &&& 31)).toInt - x.toInt * P) % 4294967296 = 0 := by rw [hP]; exact c_ishl x q k hk
theorem own_iushr (x q : Int32) (k : Nat) (P : Int) (hk : q.toBitVec.toNat % 32 = k) (hP : P = (2 ^ k : Nat)) (h0 : 0 < k) : ((x.toUInt32 >>> (q &&& 31).toUInt32).toInt32).toInt = (x.toInt % 4294967296) / P := by rw [hP]; exact c_iushr x q k hk h0
theorem own_lshr (x : Int64) (q : Int32) (k : Nat) (P : Int) (hk : q.toBitVec.toNat % 64 = k) (hP : P = (2 ^ k : Nat)) : (x >>> (q &&& 0x3f).toInt64).toInt = x.toInt / P := by rw [hP]; exact c_lshr x q k hk
theorem own_lshl (x : Int64) (q : Int32) (k : Nat) (P : Int) (hk : q.toBitVec.toNat % 64 = k) (hP : P = (2 ^ k : Nat)) : ((x <<< (q &&& 0x3f).toInt64).toInt - x.toInt * P) % 18446744073709551616 = 0 := by rw [hP]; exact c_lshl x q k hk
theorem own_lushr (x : Int64) (q : Int32) (k : Nat) (P : Int) (hk : q.toBitVec.toNat % 64 = k) (hP : P = (2 ^ k : Nat)) (h0 : 0 < k) : ((x.toUInt64 >>> (q &&& 0x3f).toInt64.toUInt64).toInt64).toInt = (x.toInt % 18446744073709551616) / P := by rw [hP]; exact c_lushr x q k hk h0
theorem own_addOk64 {x y : Int64} (h : Jvm.Free.XT.fits64 (x.toInt + y.toInt)) : ¬ (((x + y) ^^^ x) &&& ((x + y) ^^^ y)) < 0 := by
  have q := Jvm.Free.XT.addOk64 h
  rw [Int64.xor_comm (x + y) x, Int64.xor_comm (x + y) y]
  exact q
theorem own_0to10 (q : Int64) (h1 : ¬ q < (0 : Int64)) (h2 : q < (11 : Int64)) : q = (0 : Int64) ∨ q = (1 : Int64) ∨ q = (2 : Int64) ∨ q = (3 : Int64) ∨ q = (4 : Int64) ∨ q = (5 : Int64) ∨ q = (6 : Int64) ∨ q = (7 : Int64) ∨ q = (8 : Int64) ∨ q = (9 : Int64) ∨ q = (10 : Int64) := by
  have a := own_nlt64 h1
  have b := Int64.lt_iff_toInt_lt.mp h2
  rw [show (0 : Int64).toInt = 0 from by decide] at a
  rw [show (11 : Int64).toInt = 11 from by decide] at b
  simp only [← Int64.toInt_inj]
  rw [show (0 : Int64).toInt = 0 from by decide, show (1 : Int64).toInt = 1 from by decide, show (2 : Int64).toInt = 2 from by decide, show (3 : Int64).toInt = 3 from by decide, show (4 : Int64).toInt = 4 from by decide, show (5 : Int64).toInt = 5 from by decide, show (6 : Int64).toInt = 6 from by decide, show (7 : Int64).toInt = 7 from by decide, show (8 : Int64).toInt = 8 from by decide, show (9 : Int64).toInt = 9 from by decide, show (10 : Int64).toInt = 10 from by decide]
  omega

theorem w0 {Z : State} {a0 : Array Value} (hw : ∀ d ∈ tables_1, d.before a0 Z = true) : (Jvm.Cond.methodLink "com/example/cropmark/cropmark/SumsAddPinLaw" (7 : Nat) ({ cls := "java/math/BigDecimal", name := "valueOf", desc := "(J)Ljava/math/BigDecimal;" } : Jvm.MethodName)).before a0 Z = true := hw _ (List.mem_of_getElem? (i := 0) rfl)
theorem w1 {Z : State} {a0 : Array Value} (hw : ∀ d ∈ tables_1, d.before a0 Z = true) : (Jvm.Cond.static ({ cls := "java/math/BigDecimal", name := "valueOf", desc := "(J)Ljava/math/BigDecimal;" } : Jvm.MethodName)).before a0 Z = true := hw _ (List.mem_of_getElem? (i := 1) rfl)
theorem w2 {Z : State} {a0 : Array Value} (hw : ∀ d ∈ tables_1, d.before a0 Z = true) : (Jvm.Cond.initialized "java/math/BigDecimal").before a0 Z = true := hw _ (List.mem_of_getElem? (i := 2) rfl)
theorem w3 {Z : State} {a0 : Array Value} (hw : ∀ d ∈ tables_1, d.before a0 Z = true) : (Jvm.Cond.code ({ cls := "java/math/BigDecimal", name := "valueOf", desc := "(J)Ljava/math/BigDecimal;" } : Jvm.MethodName) jdk_17_method_21_code (2 : Nat) (Option.some (Jvm.ClassFile.FieldType.object "java/math/BigDecimal"))).before a0 Z = true := hw _ (List.mem_of_getElem? (i := 3) rfl)
theorem w4 {Z : State} {a0 : Array Value} (hw : ∀ d ∈ tables_1, d.before a0 Z = true) : (Jvm.Cond.fieldLink "java/math/BigDecimal" (246 : Nat) "java/math/BigDecimal" "ZERO_THROUGH_TEN" "[Ljava/math/BigDecimal;").before a0 Z = true := hw _ (List.mem_of_getElem? (i := 4) rfl)
theorem w5 {Z : State} {a0 : Array Value} (hw : ∀ d ∈ tables_1, d.before a0 Z = true) : (Jvm.Cond.classLink "com/example/cropmark/cropmark/SumsAddPinLaw" (13 : Nat) "com/example/cropmark/cropmark/Weights").before a0 Z = true := hw _ (List.mem_of_getElem? (i := 5) rfl)
theorem w6 {Z : State} {a0 : Array Value} (hw : ∀ d ∈ tables_1, d.before a0 Z = true) : (Jvm.Cond.instantiable "com/example/cropmark/cropmark/Weights" (4 : Nat)).before a0 Z = true := hw _ (List.mem_of_getElem? (i := 6) rfl)
theorem w7 {Z : State} {a0 : Array Value} (hw : ∀ d ∈ tables_1, d.before a0 Z = true) : (Jvm.Cond.initialized "com/example/cropmark/cropmark/Weights").before a0 Z = true := hw _ (List.mem_of_getElem? (i := 7) rfl)
theorem w8 {Z : State} {a0 : Array Value} (hw : ∀ d ∈ tables_1, d.before a0 Z = true) : (Jvm.Cond.methodLink "com/example/cropmark/cropmark/SumsAddPinLaw" (15 : Nat) ({ cls := "com/example/cropmark/cropmark/Weights", name := "<init>", desc := "(Ljava/math/BigDecimal;Ljava/math/BigDecimal;Ljava/math/BigDecimal;Ljava/math/BigDecimal;)V" } : Jvm.MethodName)).before a0 Z = true := hw _ (List.mem_of_getElem? (i := 8) rfl)
theorem w9 {Z : State} {a0 : Array Value} (hw : ∀ d ∈ tables_1, d.before a0 Z = true) : (Jvm.Cond.instanceMethod ({ cls := "com/example/cropmark/cropmark/Weights", name := "<init>", desc := "(Ljava/math/BigDecimal;Ljava/math/BigDecimal;Ljava/math/BigDecimal;Ljava/math/BigDecimal;)V" } : Jvm.MethodName)).before a0 Z = true := hw _ (List.mem_of_getElem? (i := 9) rfl)
theorem w10 {Z : State} {a0 : Array Value} (hw : ∀ d ∈ tables_1, d.before a0 Z = true) : (Jvm.Cond.code ({ cls := "com/example/cropmark/cropmark/Weights", name := "<init>", desc := "(Ljava/math/BigDecimal;Ljava/math/BigDecimal;Ljava/math/BigDecimal;Ljava/math/BigDecimal;)V" } : Jvm.MethodName) prog_92_method_2_code (5 : Nat) (Option.none : Option Jvm.ClassFile.FieldType)).before a0 Z = true := hw _ (List.mem_of_getElem? (i := 10) rfl)
theorem w11 {Z : State} {a0 : Array Value} (hw : ∀ d ∈ tables_1, d.before a0 Z = true) : (Jvm.Cond.methodLink "com/example/cropmark/cropmark/Weights" (1 : Nat) ({ cls := "java/lang/Record", name := "<init>", desc := "()V" } : Jvm.MethodName)).before a0 Z = true := hw _ (List.mem_of_getElem? (i := 11) rfl)
theorem w12 {Z : State} {a0 : Array Value} (hw : ∀ d ∈ tables_1, d.before a0 Z = true) : (Jvm.Cond.instanceMethod ({ cls := "java/lang/Record", name := "<init>", desc := "()V" } : Jvm.MethodName)).before a0 Z = true := hw _ (List.mem_of_getElem? (i := 12) rfl)
theorem w14 {Z : State} {a0 : Array Value} (hw : ∀ d ∈ tables_1, d.before a0 Z = true) : (Jvm.Cond.initialized "java/lang/Record").before a0 Z = true := hw _ (List.mem_of_getElem? (i := 14) rfl)
theorem w15 {Z : State} {a0 : Array Value} (hw : ∀ d ∈ tables_1, d.before a0 Z = true) : (Jvm.Cond.code ({ cls := "java/lang/Record", name := "<init>", desc := "()V" } : Jvm.MethodName) jdk_30_method_1_code (1 : Nat) (Option.none : Option Jvm.ClassFile.FieldType)).before a0 Z = true := hw _ (List.mem_of_getElem? (i := 15) rfl)
theorem w16 {Z : State} {a0 : Array Value} (hw : ∀ d ∈ tables_1, d.before a0 Z = true) : (Jvm.Cond.methodLink "java/lang/Record" (1 : Nat) ({ cls := "java/lang/Object", name := "<init>", desc := "()V" } : Jvm.MethodName)).before a0 Z = true := hw _ (List.mem_of_getElem? (i := 16) rfl)
theorem w17 {Z : State} {a0 : Array Value} (hw : ∀ d ∈ tables_1, d.before a0 Z = true) : (Jvm.Cond.instanceMethod ({ cls := "java/lang/Object", name := "<init>", desc := "()V" } : Jvm.MethodName)).before a0 Z = true := hw _ (List.mem_of_getElem? (i := 17) rfl)
theorem w18 {Z : State} {a0 : Array Value} (hw : ∀ d ∈ tables_1, d.before a0 Z = true) : (Jvm.Cond.code ({ cls := "java/lang/Object", name := "<init>", desc := "()V" } : Jvm.MethodName) object_method_1_code (1 : Nat) (Option.none : Option Jvm.ClassFile.FieldType)).before a0 Z = true := hw _ (List.mem_of_getElem? (i := 18) rfl)
theorem w19 {Z : State} {a0 : Array Value} (hw : ∀ d ∈ tables_1, d.before a0 Z = true) : (Jvm.Cond.fieldLink "com/example/cropmark/cropmark/Weights" (7 : Nat) "com/example/cropmark/cropmark/Weights" "edibleLb" "Ljava/math/BigDecimal;").before a0 Z = true := hw _ (List.mem_of_getElem? (i := 19) rfl)
theorem w20 {Z : State} {a0 : Array Value} (hw : ∀ d ∈ tables_1, d.before a0 Z = true) : (Jvm.Cond.laysFinal "com/example/cropmark/cropmark/Weights" "com/example/cropmark/cropmark/Weights" "edibleLb" "Ljava/math/BigDecimal;").before a0 Z = true := hw _ (List.mem_of_getElem? (i := 20) rfl)
theorem w21 {Z : State} {a0 : Array Value} (hw : ∀ d ∈ tables_1, d.before a0 Z = true) : (Jvm.Cond.fieldLink "com/example/cropmark/cropmark/Weights" (13 : Nat) "com/example/cropmark/cropmark/Weights" "inedibleLb" "Ljava/math/BigDecimal;").before a0 Z = true := hw _ (List.mem_of_getElem? (i := 21) rfl)
theorem w22 {Z : State} {a0 : Array Value} (hw : ∀ d ∈ tables_1, d.before a0 Z = true) : (Jvm.Cond.laysFinal "com/example/cropmark/cropmark/Weights" "com/example/cropmark/cropmark/Weights" "inedibleLb" "Ljava/math/BigDecimal;").before a0 Z = true := hw _ (List.mem_of_getElem? (i := 22) rfl)
theorem w23 {Z : State} {a0 : Array Value} (hw : ∀ d ∈ tables_1, d.before a0 Z = true) : (Jvm.Cond.fieldLink "com/example/cropmark/cropmark/Weights" (16 : Nat) "com/example/cropmark/cropmark/Weights" "factor" "Ljava/math/BigDecimal;").before a0 Z = true := hw _ (List.mem_of_getElem? (i := 23) rfl)
theorem w24 {Z : State} {a0 : Array Value} (hw : ∀ d ∈ tables_1, d.before a0 Z = true) : (Jvm.Cond.laysFinal "com/example/cropmark/cropmark/Weights" "com/example/cropmark/cropmark/Weights" "factor" "Ljava/math/BigDecimal;").before a0 Z = true := hw _ (List.mem_of_getElem? (i := 24) rfl)
theorem w25 {Z : State} {a0 : Array Value} (hw : ∀ d ∈ tables_1, d.before a0 Z = true) : (Jvm.Cond.fieldLink "com/example/cropmark/cropmark/Weights" (19 : Nat) "com/example/cropmark/cropmark/Weights" "assessedLb" "Ljava/math/BigDecimal;").before a0 Z = true := hw _ (List.mem_of_getElem? (i := 25) rfl)
theorem w26 {Z : State} {a0 : Array Value} (hw : ∀ d ∈ tables_1, d.before a0 Z = true) : (Jvm.Cond.laysFinal "com/example/cropmark/cropmark/Weights" "com/example/cropmark/cropmark/Weights" "assessedLb" "Ljava/math/BigDecimal;").before a0 Z = true := hw _ (List.mem_of_getElem? (i := 26) rfl)
theorem w27 {Z : State} {a0 : Array Value} (hw : ∀ d ∈ tables_1, d.before a0 Z = true) : (Jvm.Cond.classLink "com/example/cropmark/cropmark/SumsAddPinLaw" (18 : Nat) "com/example/cropmark/cropmark/Assessment$Sums").before a0 Z = true := hw _ (List.mem_of_getElem? (i := 27) rfl)
theorem w28 {Z : State} {a0 : Array Value} (hw : ∀ d ∈ tables_1, d.before a0 Z = true) : (Jvm.Cond.instantiable "com/example/cropmark/cropmark/Assessment$Sums" (3 : Nat)).before a0 Z = true := hw _ (List.mem_of_getElem? (i := 28) rfl)
theorem w29 {Z : State} {a0 : Array Value} (hw : ∀ d ∈ tables_1, d.before a0 Z = true) : (Jvm.Cond.initialized "com/example/cropmark/cropmark/Assessment$Sums").before a0 Z = true := hw _ (List.mem_of_getElem? (i := 29) rfl)
theorem w30 {Z : State} {a0 : Array Value} (hw : ∀ d ∈ tables_1, d.before a0 Z = true) : (Jvm.Cond.methodLink "com/example/cropmark/cropmark/SumsAddPinLaw" (20 : Nat) ({ cls := "com/example/cropmark/cropmark/Assessment$Sums", name := "<init>", desc := "()V" } : Jvm.MethodName)).before a0 Z = true := hw _ (List.mem_of_getElem? (i := 30) rfl)
theorem w31 {Z : State} {a0 : Array Value} (hw : ∀ d ∈ tables_1, d.before a0 Z = true) : (Jvm.Cond.instanceMethod ({ cls := "com/example/cropmark/cropmark/Assessment$Sums", name := "<init>", desc := "()V" } : Jvm.MethodName)).before a0 Z = true := hw _ (List.mem_of_getElem? (i := 31) rfl)
theorem w32 {Z : State} {a0 : Array Value} (hw : ∀ d ∈ tables_1, d.before a0 Z = true) : (Jvm.Cond.code ({ cls := "com/example/cropmark/cropmark/Assessment$Sums", name := "<init>", desc := "()V" } : Jvm.MethodName) prog_12_method_1_code (1 : Nat) (Option.none : Option Jvm.ClassFile.FieldType)).before a0 Z = true := hw _ (List.mem_of_getElem? (i := 32) rfl)
theorem w33 {Z : State} {a0 : Array Value} (hw : ∀ d ∈ tables_1, d.before a0 Z = true) : (Jvm.Cond.methodLink "com/example/cropmark/cropmark/Assessment$Sums" (1 : Nat) ({ cls := "java/lang/Object", name := "<init>", desc := "()V" } : Jvm.MethodName)).before a0 Z = true := hw _ (List.mem_of_getElem? (i := 33) rfl)
theorem w34 {Z : State} {a0 : Array Value} (hw : ∀ d ∈ tables_1, d.before a0 Z = true) : (Jvm.Cond.fieldLink "com/example/cropmark/cropmark/Assessment$Sums" (7 : Nat) "java/math/BigDecimal" "ZERO" "Ljava/math/BigDecimal;").before a0 Z = true := hw _ (List.mem_of_getElem? (i := 34) rfl)
theorem w35 {Z : State} {a0 : Array Value} (hw : ∀ d ∈ tables_1, d.before a0 Z = true) : (Jvm.Cond.fieldLink "com/example/cropmark/cropmark/Assessment$Sums" (13 : Nat) "com/example/cropmark/cropmark/Assessment$Sums" "assessedLb" "Ljava/math/BigDecimal;").before a0 Z = true := hw _ (List.mem_of_getElem? (i := 35) rfl)
theorem w36 {Z : State} {a0 : Array Value} (hw : ∀ d ∈ tables_1, d.before a0 Z = true) : (Jvm.Cond.lays "com/example/cropmark/cropmark/Assessment$Sums" "com/example/cropmark/cropmark/Assessment$Sums" "assessedLb" "Ljava/math/BigDecimal;").before a0 Z = true := hw _ (List.mem_of_getElem? (i := 36) rfl)
theorem w37 {Z : State} {a0 : Array Value} (hw : ∀ d ∈ tables_1, d.before a0 Z = true) : (Jvm.Cond.fieldLink "com/example/cropmark/cropmark/Assessment$Sums" (18 : Nat) "com/example/cropmark/cropmark/Assessment$Sums" "inedibleLb" "Ljava/math/BigDecimal;").before a0 Z = true := hw _ (List.mem_of_getElem? (i := 37) rfl)
theorem w38 {Z : State} {a0 : Array Value} (hw : ∀ d ∈ tables_1, d.before a0 Z = true) : (Jvm.Cond.lays "com/example/cropmark/cropmark/Assessment$Sums" "com/example/cropmark/cropmark/Assessment$Sums" "inedibleLb" "Ljava/math/BigDecimal;").before a0 Z = true := hw _ (List.mem_of_getElem? (i := 38) rfl)
theorem w39 {Z : State} {a0 : Array Value} (hw : ∀ d ∈ tables_1, d.before a0 Z = true) : (Jvm.Cond.methodLink "com/example/cropmark/cropmark/SumsAddPinLaw" (21 : Nat) ({ cls := "com/example/cropmark/cropmark/Assessment$Sums", name := "add", desc := "(Lcom/example/cropmark/cropmark/Weights;)V" } : Jvm.MethodName)).before a0 Z = true := hw _ (List.mem_of_getElem? (i := 39) rfl)
theorem w40 {Z : State} {a0 : Array Value} (hw : ∀ d ∈ tables_1, d.before a0 Z = true) : (Jvm.Cond.declares ({ cls := "com/example/cropmark/cropmark/Assessment$Sums", name := "add", desc := "(Lcom/example/cropmark/cropmark/Weights;)V" } : Jvm.MethodName)).before a0 Z = true := hw _ (List.mem_of_getElem? (i := 40) rfl)
theorem w41 {Z : State} {a0 : Array Value} (hw : ∀ d ∈ tables_1, d.before a0 Z = true) : (Jvm.Cond.instanceMethod ({ cls := "com/example/cropmark/cropmark/Assessment$Sums", name := "add", desc := "(Lcom/example/cropmark/cropmark/Weights;)V" } : Jvm.MethodName)).before a0 Z = true := hw _ (List.mem_of_getElem? (i := 41) rfl)
theorem w42 {Z : State} {a0 : Array Value} (hw : ∀ d ∈ tables_1, d.before a0 Z = true) : (Jvm.Cond.selects "com/example/cropmark/cropmark/Assessment$Sums" ({ cls := "com/example/cropmark/cropmark/Assessment$Sums", name := "add", desc := "(Lcom/example/cropmark/cropmark/Weights;)V" } : Jvm.MethodName) ({ cls := "com/example/cropmark/cropmark/Assessment$Sums", name := "add", desc := "(Lcom/example/cropmark/cropmark/Weights;)V" } : Jvm.MethodName)).before a0 Z = true := hw _ (List.mem_of_getElem? (i := 42) rfl)
theorem w43 {Z : State} {a0 : Array Value} (hw : ∀ d ∈ tables_1, d.before a0 Z = true) : (Jvm.Cond.code ({ cls := "com/example/cropmark/cropmark/Assessment$Sums", name := "add", desc := "(Lcom/example/cropmark/cropmark/Weights;)V" } : Jvm.MethodName) prog_12_method_3_code (2 : Nat) (Option.none : Option Jvm.ClassFile.FieldType)).before a0 Z = true := hw _ (List.mem_of_getElem? (i := 43) rfl)
theorem w44 {Z : State} {a0 : Array Value} (hw : ∀ d ∈ tables_1, d.before a0 Z = true) : (Jvm.Cond.fieldLink "com/example/cropmark/cropmark/Assessment$Sums" (21 : Nat) "com/example/cropmark/cropmark/Assessment$Sums" "lots" "I").before a0 Z = true := hw _ (List.mem_of_getElem? (i := 44) rfl)
theorem w45 {Z : State} {a0 : Array Value} (hw : ∀ d ∈ tables_1, d.before a0 Z = true) : (Jvm.Cond.lays "com/example/cropmark/cropmark/Assessment$Sums" "com/example/cropmark/cropmark/Assessment$Sums" "lots" "I").before a0 Z = true := hw _ (List.mem_of_getElem? (i := 45) rfl)
theorem w46 {Z : State} {a0 : Array Value} (hw : ∀ d ∈ tables_1, d.before a0 Z = true) : (Jvm.Cond.methodLink "com/example/cropmark/cropmark/Assessment$Sums" (25 : Nat) ({ cls := "com/example/cropmark/cropmark/Weights", name := "assessedLb", desc := "()Ljava/math/BigDecimal;" } : Jvm.MethodName)).before a0 Z = true := hw _ (List.mem_of_getElem? (i := 46) rfl)
theorem w47 {Z : State} {a0 : Array Value} (hw : ∀ d ∈ tables_1, d.before a0 Z = true) : (Jvm.Cond.declares ({ cls := "com/example/cropmark/cropmark/Weights", name := "assessedLb", desc := "()Ljava/math/BigDecimal;" } : Jvm.MethodName)).before a0 Z = true := hw _ (List.mem_of_getElem? (i := 47) rfl)
theorem w48 {Z : State} {a0 : Array Value} (hw : ∀ d ∈ tables_1, d.before a0 Z = true) : (Jvm.Cond.instanceMethod ({ cls := "com/example/cropmark/cropmark/Weights", name := "assessedLb", desc := "()Ljava/math/BigDecimal;" } : Jvm.MethodName)).before a0 Z = true := hw _ (List.mem_of_getElem? (i := 48) rfl)
theorem w49 {Z : State} {a0 : Array Value} (hw : ∀ d ∈ tables_1, d.before a0 Z = true) : (Jvm.Cond.selects "com/example/cropmark/cropmark/Weights" ({ cls := "com/example/cropmark/cropmark/Weights", name := "assessedLb", desc := "()Ljava/math/BigDecimal;" } : Jvm.MethodName) ({ cls := "com/example/cropmark/cropmark/Weights", name := "assessedLb", desc := "()Ljava/math/BigDecimal;" } : Jvm.MethodName)).before a0 Z = true := hw _ (List.mem_of_getElem? (i := 49) rfl)
theorem w50 {Z : State} {a0 : Array Value} (hw : ∀ d ∈ tables_1, d.before a0 Z = true) : (Jvm.Cond.code ({ cls := "com/example/cropmark/cropmark/Weights", name := "assessedLb", desc := "()Ljava/math/BigDecimal;" } : Jvm.MethodName) prog_92_method_9_code (1 : Nat) (Option.some (Jvm.ClassFile.FieldType.object "java/math/BigDecimal"))).before a0 Z = true := hw _ (List.mem_of_getElem? (i := 50) rfl)
theorem w51 {Z : State} {a0 : Array Value} (hw : ∀ d ∈ tables_1, d.before a0 Z = true) : (Jvm.Cond.methodLink "com/example/cropmark/cropmark/Assessment$Sums" (30 : Nat) ({ cls := "java/math/BigDecimal", name := "add", desc := "(Ljava/math/BigDecimal;)Ljava/math/BigDecimal;" } : Jvm.MethodName)).before a0 Z = true := hw _ (List.mem_of_getElem? (i := 51) rfl)
theorem w52 {Z : State} {a0 : Array Value} (hw : ∀ d ∈ tables_1, d.before a0 Z = true) : (Jvm.Cond.declares ({ cls := "java/math/BigDecimal", name := "add", desc := "(Ljava/math/BigDecimal;)Ljava/math/BigDecimal;" } : Jvm.MethodName)).before a0 Z = true := hw _ (List.mem_of_getElem? (i := 52) rfl)
theorem w53 {Z : State} {a0 : Array Value} (hw : ∀ d ∈ tables_1, d.before a0 Z = true) : (Jvm.Cond.instanceMethod ({ cls := "java/math/BigDecimal", name := "add", desc := "(Ljava/math/BigDecimal;)Ljava/math/BigDecimal;" } : Jvm.MethodName)).before a0 Z = true := hw _ (List.mem_of_getElem? (i := 53) rfl)
theorem w54 {Z : State} {a0 : Array Value} (hw : ∀ d ∈ tables_1, d.before a0 Z = true) : (Jvm.Cond.selects "java/math/BigDecimal" ({ cls := "java/math/BigDecimal", name := "add", desc := "(Ljava/math/BigDecimal;)Ljava/math/BigDecimal;" } : Jvm.MethodName) ({ cls := "java/math/BigDecimal", name := "add", desc := "(Ljava/math/BigDecimal;)Ljava/math/BigDecimal;" } : Jvm.MethodName)).before a0 Z = true := hw _ (List.mem_of_getElem? (i := 54) rfl)
theorem w55 {Z : State} {a0 : Array Value} (hw : ∀ d ∈ tables_1, d.before a0 Z = true) : (Jvm.Cond.code ({ cls := "java/math/BigDecimal", name := "add", desc := "(Ljava/math/BigDecimal;)Ljava/math/BigDecimal;" } : Jvm.MethodName) jdk_17_method_26_code (2 : Nat) (Option.some (Jvm.ClassFile.FieldType.object "java/math/BigDecimal"))).before a0 Z = true := hw _ (List.mem_of_getElem? (i := 55) rfl)
theorem w56 {Z : State} {a0 : Array Value} (hw : ∀ d ∈ tables_1, d.before a0 Z = true) : (Jvm.Cond.fieldLink "java/math/BigDecimal" (24 : Nat) "java/math/BigDecimal" "intCompact" "J").before a0 Z = true := hw _ (List.mem_of_getElem? (i := 56) rfl)
theorem w57 {Z : State} {a0 : Array Value} (hw : ∀ d ∈ tables_1, d.before a0 Z = true) : (Jvm.Cond.laysFinal "java/math/BigDecimal" "java/math/BigDecimal" "intCompact" "J").before a0 Z = true := hw _ (List.mem_of_getElem? (i := 57) rfl)
theorem w58 {Z : State} {a0 : Array Value} (hw : ∀ d ∈ tables_1, d.before a0 Z = true) : (Jvm.Cond.constantLong "java/math/BigDecimal" (125 : Nat) (-9223372036854775808 : Int64)).before a0 Z = true := hw _ (List.mem_of_getElem? (i := 58) rfl)
theorem w59 {Z : State} {a0 : Array Value} (hw : ∀ d ∈ tables_1, d.before a0 Z = true) : (Jvm.Cond.fieldLink "java/math/BigDecimal" (17 : Nat) "java/math/BigDecimal" "scale" "I").before a0 Z = true := hw _ (List.mem_of_getElem? (i := 59) rfl)
theorem w60 {Z : State} {a0 : Array Value} (hw : ∀ d ∈ tables_1, d.before a0 Z = true) : (Jvm.Cond.laysFinal "java/math/BigDecimal" "java/math/BigDecimal" "scale" "I").before a0 Z = true := hw _ (List.mem_of_getElem? (i := 60) rfl)
theorem w61 {Z : State} {a0 : Array Value} (hw : ∀ d ∈ tables_1, d.before a0 Z = true) : (Jvm.Cond.methodLink "java/math/BigDecimal" (257 : Nat) ({ cls := "java/math/BigDecimal", name := "add", desc := "(JIJI)Ljava/math/BigDecimal;" } : Jvm.MethodName)).before a0 Z = true := hw _ (List.mem_of_getElem? (i := 61) rfl)
theorem w62 {Z : State} {a0 : Array Value} (hw : ∀ d ∈ tables_1, d.before a0 Z = true) : (Jvm.Cond.static ({ cls := "java/math/BigDecimal", name := "add", desc := "(JIJI)Ljava/math/BigDecimal;" } : Jvm.MethodName)).before a0 Z = true := hw _ (List.mem_of_getElem? (i := 62) rfl)
theorem w63 {Z : State} {a0 : Array Value} (hw : ∀ d ∈ tables_1, d.before a0 Z = true) : (Jvm.Cond.code ({ cls := "java/math/BigDecimal", name := "add", desc := "(JIJI)Ljava/math/BigDecimal;" } : Jvm.MethodName) jdk_17_method_134_code (12 : Nat) (Option.some (Jvm.ClassFile.FieldType.object "java/math/BigDecimal"))).before a0 Z = true := hw _ (List.mem_of_getElem? (i := 63) rfl)
theorem w64 {Z : State} {a0 : Array Value} (hw : ∀ d ∈ tables_1, d.before a0 Z = true) : (Jvm.Cond.methodLink "java/math/BigDecimal" (1000 : Nat) ({ cls := "java/math/BigDecimal", name := "add", desc := "(JJI)Ljava/math/BigDecimal;" } : Jvm.MethodName)).before a0 Z = true := hw _ (List.mem_of_getElem? (i := 64) rfl)
theorem w65 {Z : State} {a0 : Array Value} (hw : ∀ d ∈ tables_1, d.before a0 Z = true) : (Jvm.Cond.static ({ cls := "java/math/BigDecimal", name := "add", desc := "(JJI)Ljava/math/BigDecimal;" } : Jvm.MethodName)).before a0 Z = true := hw _ (List.mem_of_getElem? (i := 65) rfl)
theorem w66 {Z : State} {a0 : Array Value} (hw : ∀ d ∈ tables_1, d.before a0 Z = true) : (Jvm.Cond.code ({ cls := "java/math/BigDecimal", name := "add", desc := "(JJI)Ljava/math/BigDecimal;" } : Jvm.MethodName) jdk_17_method_133_code (7 : Nat) (Option.some (Jvm.ClassFile.FieldType.object "java/math/BigDecimal"))).before a0 Z = true := hw _ (List.mem_of_getElem? (i := 66) rfl)
theorem w67 {Z : State} {a0 : Array Value} (hw : ∀ d ∈ tables_1, d.before a0 Z = true) : (Jvm.Cond.methodLink "java/math/BigDecimal" (996 : Nat) ({ cls := "java/math/BigDecimal", name := "add", desc := "(JJ)J" } : Jvm.MethodName)).before a0 Z = true := hw _ (List.mem_of_getElem? (i := 67) rfl)
theorem w68 {Z : State} {a0 : Array Value} (hw : ∀ d ∈ tables_1, d.before a0 Z = true) : (Jvm.Cond.static ({ cls := "java/math/BigDecimal", name := "add", desc := "(JJ)J" } : Jvm.MethodName)).before a0 Z = true := hw _ (List.mem_of_getElem? (i := 68) rfl)
theorem w69 {Z : State} {a0 : Array Value} (hw : ∀ d ∈ tables_1, d.before a0 Z = true) : (Jvm.Cond.code ({ cls := "java/math/BigDecimal", name := "add", desc := "(JJ)J" } : Jvm.MethodName) jdk_17_method_132_code (6 : Nat) (Option.some Jvm.ClassFile.FieldType.long)).before a0 Z = true := hw _ (List.mem_of_getElem? (i := 69) rfl)
theorem w70 {Z : State} {a0 : Array Value} (hw : ∀ d ∈ tables_1, d.before a0 Z = true) : (Jvm.Cond.methodLink "java/math/BigDecimal" (328 : Nat) ({ cls := "java/math/BigDecimal", name := "valueOf", desc := "(JI)Ljava/math/BigDecimal;" } : Jvm.MethodName)).before a0 Z = true := hw _ (List.mem_of_getElem? (i := 70) rfl)
theorem w71 {Z : State} {a0 : Array Value} (hw : ∀ d ∈ tables_1, d.before a0 Z = true) : (Jvm.Cond.static ({ cls := "java/math/BigDecimal", name := "valueOf", desc := "(JI)Ljava/math/BigDecimal;" } : Jvm.MethodName)).before a0 Z = true := hw _ (List.mem_of_getElem? (i := 71) rfl)
theorem w72 {Z : State} {a0 : Array Value} (hw : ∀ d ∈ tables_1, d.before a0 Z = true) : (Jvm.Cond.code ({ cls := "java/math/BigDecimal", name := "valueOf", desc := "(JI)Ljava/math/BigDecimal;" } : Jvm.MethodName) jdk_17_method_20_code (3 : Nat) (Option.some (Jvm.ClassFile.FieldType.object "java/math/BigDecimal"))).before a0 Z = true := hw _ (List.mem_of_getElem? (i := 72) rfl)
theorem w73 {Z : State} {a0 : Array Value} (hw : ∀ d ∈ tables_1, d.before a0 Z = true) : (Jvm.Cond.methodLink "java/math/BigDecimal" (236 : Nat) ({ cls := "java/math/BigDecimal", name := "valueOf", desc := "(J)Ljava/math/BigDecimal;" } : Jvm.MethodName)).before a0 Z = true := hw _ (List.mem_of_getElem? (i := 73) rfl)
theorem w74 {Z : State} {a0 : Array Value} (hw : ∀ d ∈ tables_1, d.before a0 Z = true) : (Jvm.Cond.methodLink "com/example/cropmark/cropmark/Assessment$Sums" (34 : Nat) ({ cls := "com/example/cropmark/cropmark/Weights", name := "inedibleLb", desc := "()Ljava/math/BigDecimal;" } : Jvm.MethodName)).before a0 Z = true := hw _ (List.mem_of_getElem? (i := 74) rfl)
theorem w75 {Z : State} {a0 : Array Value} (hw : ∀ d ∈ tables_1, d.before a0 Z = true) : (Jvm.Cond.declares ({ cls := "com/example/cropmark/cropmark/Weights", name := "inedibleLb", desc := "()Ljava/math/BigDecimal;" } : Jvm.MethodName)).before a0 Z = true := hw _ (List.mem_of_getElem? (i := 75) rfl)
theorem w76 {Z : State} {a0 : Array Value} (hw : ∀ d ∈ tables_1, d.before a0 Z = true) : (Jvm.Cond.instanceMethod ({ cls := "com/example/cropmark/cropmark/Weights", name := "inedibleLb", desc := "()Ljava/math/BigDecimal;" } : Jvm.MethodName)).before a0 Z = true := hw _ (List.mem_of_getElem? (i := 76) rfl)
theorem w77 {Z : State} {a0 : Array Value} (hw : ∀ d ∈ tables_1, d.before a0 Z = true) : (Jvm.Cond.selects "com/example/cropmark/cropmark/Weights" ({ cls := "com/example/cropmark/cropmark/Weights", name := "inedibleLb", desc := "()Ljava/math/BigDecimal;" } : Jvm.MethodName) ({ cls := "com/example/cropmark/cropmark/Weights", name := "inedibleLb", desc := "()Ljava/math/BigDecimal;" } : Jvm.MethodName)).before a0 Z = true := hw _ (List.mem_of_getElem? (i := 77) rfl)
theorem w78 {Z : State} {a0 : Array Value} (hw : ∀ d ∈ tables_1, d.before a0 Z = true) : (Jvm.Cond.code ({ cls := "com/example/cropmark/cropmark/Weights", name := "inedibleLb", desc := "()Ljava/math/BigDecimal;" } : Jvm.MethodName) prog_92_method_7_code (1 : Nat) (Option.some (Jvm.ClassFile.FieldType.object "java/math/BigDecimal"))).before a0 Z = true := hw _ (List.mem_of_getElem? (i := 78) rfl)
theorem w79 {Z : State} {a0 : Array Value} (hw : ∀ d ∈ tables_1, d.before a0 Z = true) : (Jvm.Cond.methodLink "com/example/cropmark/cropmark/SumsAddPinLaw" (25 : Nat) ({ cls := "com/example/cropmark/cropmark/Assessment$Sums", name := "lots", desc := "()I" } : Jvm.MethodName)).before a0 Z = true := hw _ (List.mem_of_getElem? (i := 79) rfl)
theorem w80 {Z : State} {a0 : Array Value} (hw : ∀ d ∈ tables_1, d.before a0 Z = true) : (Jvm.Cond.declares ({ cls := "com/example/cropmark/cropmark/Assessment$Sums", name := "lots", desc := "()I" } : Jvm.MethodName)).before a0 Z = true := hw _ (List.mem_of_getElem? (i := 80) rfl)
theorem w81 {Z : State} {a0 : Array Value} (hw : ∀ d ∈ tables_1, d.before a0 Z = true) : (Jvm.Cond.instanceMethod ({ cls := "com/example/cropmark/cropmark/Assessment$Sums", name := "lots", desc := "()I" } : Jvm.MethodName)).before a0 Z = true := hw _ (List.mem_of_getElem? (i := 81) rfl)
theorem w82 {Z : State} {a0 : Array Value} (hw : ∀ d ∈ tables_1, d.before a0 Z = true) : (Jvm.Cond.selects "com/example/cropmark/cropmark/Assessment$Sums" ({ cls := "com/example/cropmark/cropmark/Assessment$Sums", name := "lots", desc := "()I" } : Jvm.MethodName) ({ cls := "com/example/cropmark/cropmark/Assessment$Sums", name := "lots", desc := "()I" } : Jvm.MethodName)).before a0 Z = true := hw _ (List.mem_of_getElem? (i := 82) rfl)
theorem w83 {Z : State} {a0 : Array Value} (hw : ∀ d ∈ tables_1, d.before a0 Z = true) : (Jvm.Cond.code ({ cls := "com/example/cropmark/cropmark/Assessment$Sums", name := "lots", desc := "()I" } : Jvm.MethodName) prog_12_method_5_code (1 : Nat) (Option.some Jvm.ClassFile.FieldType.int)).before a0 Z = true := hw _ (List.mem_of_getElem? (i := 83) rfl)
theorem w84 {Z : State} {a0 : Array Value} (hw : ∀ d ∈ tables_1, d.before a0 Z = true) : (Jvm.Cond.methodLink "com/example/cropmark/cropmark/SumsAddPinLaw" (29 : Nat) ({ cls := "com/example/cropmark/cropmark/Assessment$Sums", name := "assessedLb", desc := "()Ljava/math/BigDecimal;" } : Jvm.MethodName)).before a0 Z = true := hw _ (List.mem_of_getElem? (i := 84) rfl)
theorem w85 {Z : State} {a0 : Array Value} (hw : ∀ d ∈ tables_1, d.before a0 Z = true) : (Jvm.Cond.declares ({ cls := "com/example/cropmark/cropmark/Assessment$Sums", name := "assessedLb", desc := "()Ljava/math/BigDecimal;" } : Jvm.MethodName)).before a0 Z = true := hw _ (List.mem_of_getElem? (i := 85) rfl)
theorem w86 {Z : State} {a0 : Array Value} (hw : ∀ d ∈ tables_1, d.before a0 Z = true) : (Jvm.Cond.instanceMethod ({ cls := "com/example/cropmark/cropmark/Assessment$Sums", name := "assessedLb", desc := "()Ljava/math/BigDecimal;" } : Jvm.MethodName)).before a0 Z = true := hw _ (List.mem_of_getElem? (i := 86) rfl)
theorem w87 {Z : State} {a0 : Array Value} (hw : ∀ d ∈ tables_1, d.before a0 Z = true) : (Jvm.Cond.selects "com/example/cropmark/cropmark/Assessment$Sums" ({ cls := "com/example/cropmark/cropmark/Assessment$Sums", name := "assessedLb", desc := "()Ljava/math/BigDecimal;" } : Jvm.MethodName) ({ cls := "com/example/cropmark/cropmark/Assessment$Sums", name := "assessedLb", desc := "()Ljava/math/BigDecimal;" } : Jvm.MethodName)).before a0 Z = true := hw _ (List.mem_of_getElem? (i := 87) rfl)
theorem w88 {Z : State} {a0 : Array Value} (hw : ∀ d ∈ tables_1, d.before a0 Z = true) : (Jvm.Cond.code ({ cls := "com/example/cropmark/cropmark/Assessment$Sums", name := "assessedLb", desc := "()Ljava/math/BigDecimal;" } : Jvm.MethodName) prog_12_method_6_code (1 : Nat) (Option.some (Jvm.ClassFile.FieldType.object "java/math/BigDecimal"))).before a0 Z = true := hw _ (List.mem_of_getElem? (i := 88) rfl)
theorem w89 {Z : State} {a0 : Array Value} (hw : ∀ d ∈ tables_1, d.before a0 Z = true) : (Jvm.Cond.methodLink "com/example/cropmark/cropmark/SumsAddPinLaw" (33 : Nat) ({ cls := "java/math/BigDecimal", name := "equals", desc := "(Ljava/lang/Object;)Z" } : Jvm.MethodName)).before a0 Z = true := hw _ (List.mem_of_getElem? (i := 89) rfl)
theorem w90 {Z : State} {a0 : Array Value} (hw : ∀ d ∈ tables_1, d.before a0 Z = true) : (Jvm.Cond.declares ({ cls := "java/math/BigDecimal", name := "equals", desc := "(Ljava/lang/Object;)Z" } : Jvm.MethodName)).before a0 Z = true := hw _ (List.mem_of_getElem? (i := 90) rfl)
theorem w91 {Z : State} {a0 : Array Value} (hw : ∀ d ∈ tables_1, d.before a0 Z = true) : (Jvm.Cond.instanceMethod ({ cls := "java/math/BigDecimal", name := "equals", desc := "(Ljava/lang/Object;)Z" } : Jvm.MethodName)).before a0 Z = true := hw _ (List.mem_of_getElem? (i := 91) rfl)
theorem w92 {Z : State} {a0 : Array Value} (hw : ∀ d ∈ tables_1, d.before a0 Z = true) : (Jvm.Cond.selects "java/math/BigDecimal" ({ cls := "java/math/BigDecimal", name := "equals", desc := "(Ljava/lang/Object;)Z" } : Jvm.MethodName) ({ cls := "java/math/BigDecimal", name := "equals", desc := "(Ljava/lang/Object;)Z" } : Jvm.MethodName)).before a0 Z = true := hw _ (List.mem_of_getElem? (i := 92) rfl)
theorem w93 {Z : State} {a0 : Array Value} (hw : ∀ d ∈ tables_1, d.before a0 Z = true) : (Jvm.Cond.code ({ cls := "java/math/BigDecimal", name := "equals", desc := "(Ljava/lang/Object;)Z" } : Jvm.MethodName) jdk_17_method_72_code (7 : Nat) (Option.some Jvm.ClassFile.FieldType.boolean)).before a0 Z = true := hw _ (List.mem_of_getElem? (i := 93) rfl)
theorem w94 {Z : State} {a0 : Array Value} (hw : ∀ d ∈ tables_1, d.before a0 Z = true) : (Jvm.Cond.classLink "java/math/BigDecimal" (3 : Nat) "java/math/BigDecimal").before a0 Z = true := hw _ (List.mem_of_getElem? (i := 94) rfl)
theorem w96 {Z : State} {a0 : Array Value} (hw : ∀ d ∈ tables_1, d.before a0 Z = true) : (Jvm.Cond.methodLink "com/example/cropmark/cropmark/SumsAddPinLaw" (37 : Nat) ({ cls := "com/example/cropmark/cropmark/Assessment$Sums", name := "inedibleLb", desc := "()Ljava/math/BigDecimal;" } : Jvm.MethodName)).before a0 Z = true := hw _ (List.mem_of_getElem? (i := 96) rfl)
theorem w97 {Z : State} {a0 : Array Value} (hw : ∀ d ∈ tables_1, d.before a0 Z = true) : (Jvm.Cond.declares ({ cls := "com/example/cropmark/cropmark/Assessment$Sums", name := "inedibleLb", desc := "()Ljava/math/BigDecimal;" } : Jvm.MethodName)).before a0 Z = true := hw _ (List.mem_of_getElem? (i := 97) rfl)
theorem w98 {Z : State} {a0 : Array Value} (hw : ∀ d ∈ tables_1, d.before a0 Z = true) : (Jvm.Cond.instanceMethod ({ cls := "com/example/cropmark/cropmark/Assessment$Sums", name := "inedibleLb", desc := "()Ljava/math/BigDecimal;" } : Jvm.MethodName)).before a0 Z = true := hw _ (List.mem_of_getElem? (i := 98) rfl)
theorem w99 {Z : State} {a0 : Array Value} (hw : ∀ d ∈ tables_1, d.before a0 Z = true) : (Jvm.Cond.selects "com/example/cropmark/cropmark/Assessment$Sums" ({ cls := "com/example/cropmark/cropmark/Assessment$Sums", name := "inedibleLb", desc := "()Ljava/math/BigDecimal;" } : Jvm.MethodName) ({ cls := "com/example/cropmark/cropmark/Assessment$Sums", name := "inedibleLb", desc := "()Ljava/math/BigDecimal;" } : Jvm.MethodName)).before a0 Z = true := hw _ (List.mem_of_getElem? (i := 99) rfl)
theorem w100 {Z : State} {a0 : Array Value} (hw : ∀ d ∈ tables_1, d.before a0 Z = true) : (Jvm.Cond.code ({ cls := "com/example/cropmark/cropmark/Assessment$Sums", name := "inedibleLb", desc := "()Ljava/math/BigDecimal;" } : Jvm.MethodName) prog_12_method_7_code (1 : Nat) (Option.some (Jvm.ClassFile.FieldType.object "java/math/BigDecimal"))).before a0 Z = true := hw _ (List.mem_of_getElem? (i := 100) rfl)
theorem w101 {Z : State} {a0 : Array Value} (hw : ∀ d ∈ tables_1, d.before a0 Z = true) : (Jvm.Cond.instantiable "java/math/BigDecimal" (5 : Nat)).before a0 Z = true := hw _ (List.mem_of_getElem? (i := 101) rfl)
theorem w102 {Z : State} {a0 : Array Value} (hw : ∀ d ∈ tables_1, d.before a0 Z = true) : (Jvm.Cond.methodLink "java/math/BigDecimal" (243 : Nat) ({ cls := "java/math/BigDecimal", name := "<init>", desc := "(Ljava/math/BigInteger;JII)V" } : Jvm.MethodName)).before a0 Z = true := hw _ (List.mem_of_getElem? (i := 102) rfl)
theorem w103 {Z : State} {a0 : Array Value} (hw : ∀ d ∈ tables_1, d.before a0 Z = true) : (Jvm.Cond.instanceMethod ({ cls := "java/math/BigDecimal", name := "<init>", desc := "(Ljava/math/BigInteger;JII)V" } : Jvm.MethodName)).before a0 Z = true := hw _ (List.mem_of_getElem? (i := 103) rfl)
theorem w104 {Z : State} {a0 : Array Value} (hw : ∀ d ∈ tables_1, d.before a0 Z = true) : (Jvm.Cond.code ({ cls := "java/math/BigDecimal", name := "<init>", desc := "(Ljava/math/BigInteger;JII)V" } : Jvm.MethodName) jdk_17_method_1_code (6 : Nat) (Option.none : Option Jvm.ClassFile.FieldType)).before a0 Z = true := hw _ (List.mem_of_getElem? (i := 104) rfl)
theorem w105 {Z : State} {a0 : Array Value} (hw : ∀ d ∈ tables_1, d.before a0 Z = true) : (Jvm.Cond.methodLink "java/math/BigDecimal" (11 : Nat) ({ cls := "java/lang/Number", name := "<init>", desc := "()V" } : Jvm.MethodName)).before a0 Z = true := hw _ (List.mem_of_getElem? (i := 105) rfl)
theorem w106 {Z : State} {a0 : Array Value} (hw : ∀ d ∈ tables_1, d.before a0 Z = true) : (Jvm.Cond.instanceMethod ({ cls := "java/lang/Number", name := "<init>", desc := "()V" } : Jvm.MethodName)).before a0 Z = true := hw _ (List.mem_of_getElem? (i := 106) rfl)
theorem w109 {Z : State} {a0 : Array Value} (hw : ∀ d ∈ tables_1, d.before a0 Z = true) : (Jvm.Cond.initialized "java/lang/Number").before a0 Z = true := hw _ (List.mem_of_getElem? (i := 109) rfl)
theorem w110 {Z : State} {a0 : Array Value} (hw : ∀ d ∈ tables_1, d.before a0 Z = true) : (Jvm.Cond.code ({ cls := "java/lang/Number", name := "<init>", desc := "()V" } : Jvm.MethodName) jdk_18_method_1_code (1 : Nat) (Option.none : Option Jvm.ClassFile.FieldType)).before a0 Z = true := hw _ (List.mem_of_getElem? (i := 110) rfl)
theorem w111 {Z : State} {a0 : Array Value} (hw : ∀ d ∈ tables_1, d.before a0 Z = true) : (Jvm.Cond.methodLink "java/lang/Number" (1 : Nat) ({ cls := "java/lang/Object", name := "<init>", desc := "()V" } : Jvm.MethodName)).before a0 Z = true := hw _ (List.mem_of_getElem? (i := 111) rfl)
theorem w112 {Z : State} {a0 : Array Value} (hw : ∀ d ∈ tables_1, d.before a0 Z = true) : (Jvm.Cond.fieldLink "java/math/BigDecimal" (21 : Nat) "java/math/BigDecimal" "precision" "I").before a0 Z = true := hw _ (List.mem_of_getElem? (i := 112) rfl)
theorem w113 {Z : State} {a0 : Array Value} (hw : ∀ d ∈ tables_1, d.before a0 Z = true) : (Jvm.Cond.lays "java/math/BigDecimal" "java/math/BigDecimal" "precision" "I").before a0 Z = true := hw _ (List.mem_of_getElem? (i := 113) rfl)
theorem w114 {Z : State} {a0 : Array Value} (hw : ∀ d ∈ tables_1, d.before a0 Z = true) : (Jvm.Cond.fieldLink "java/math/BigDecimal" (28 : Nat) "java/math/BigDecimal" "intVal" "Ljava/math/BigInteger;").before a0 Z = true := hw _ (List.mem_of_getElem? (i := 114) rfl)
theorem w115 {Z : State} {a0 : Array Value} (hw : ∀ d ∈ tables_1, d.before a0 Z = true) : (Jvm.Cond.laysFinal "java/math/BigDecimal" "java/math/BigDecimal" "intVal" "Ljava/math/BigInteger;").before a0 Z = true := hw _ (List.mem_of_getElem? (i := 115) rfl)
theorem d1_0 : decode jdk_17_method_21_code 0 = .ok (.lload_n 0, 1) := by decide +kernel
theorem d1_1 : decode jdk_17_method_21_code 1 = .ok (.lconst 0, 1) := by decide +kernel
theorem d1_2 : decode jdk_17_method_21_code 2 = .ok (.lcmp, 1) := by decide +kernel
theorem d1_3 : decode jdk_17_method_21_code 3 = .ok (.ifCond .lt 20, 3) := by decide +kernel
theorem d1_6 : decode jdk_17_method_21_code 6 = .ok (.lload_n 0, 1) := by decide +kernel
theorem d1_7 : decode jdk_17_method_21_code 7 = .ok (.getstatic 246, 3) := by decide +kernel
theorem d1_10 : decode jdk_17_method_21_code 10 = .ok (.arraylength, 1) := by decide +kernel
theorem d1_11 : decode jdk_17_method_21_code 11 = .ok (.i2l, 1) := by decide +kernel
theorem d1_12 : decode jdk_17_method_21_code 12 = .ok (.lcmp, 1) := by decide +kernel
theorem d1_13 : decode jdk_17_method_21_code 13 = .ok (.ifCond .ge 10, 3) := by decide +kernel
theorem d1_16 : decode jdk_17_method_21_code 16 = .ok (.getstatic 246, 3) := by decide +kernel
theorem d1_19 : decode jdk_17_method_21_code 19 = .ok (.lload_n 0, 1) := by decide +kernel
theorem d1_20 : decode jdk_17_method_21_code 20 = .ok (.l2i, 1) := by decide +kernel
theorem d1_21 : decode jdk_17_method_21_code 21 = .ok (.aaload, 1) := by decide +kernel
theorem d1_22 : decode jdk_17_method_21_code 22 = .ok (.areturn, 1) := by decide +kernel
theorem d1_23 : decode jdk_17_method_21_code 23 = .ok (.lload_n 0, 1) := by decide +kernel
theorem d1_24 : decode jdk_17_method_21_code 24 = .ok (.ldc2_w 125, 3) := by decide +kernel
theorem d1_27 : decode jdk_17_method_21_code 27 = .ok (.lcmp, 1) := by decide +kernel
theorem d1_28 : decode jdk_17_method_21_code 28 = .ok (.ifCond .eq 15, 3) := by decide +kernel
theorem d1_31 : decode jdk_17_method_21_code 31 = .ok (.new 3, 3) := by decide +kernel
theorem d1_34 : decode jdk_17_method_21_code 34 = .ok (.dup, 1) := by decide +kernel
theorem d1_35 : decode jdk_17_method_21_code 35 = .ok (.aconst_null, 1) := by decide +kernel
theorem d1_36 : decode jdk_17_method_21_code 36 = .ok (.lload_n 0, 1) := by decide +kernel
theorem d1_37 : decode jdk_17_method_21_code 37 = .ok (.iconst 0, 1) := by decide +kernel
theorem d1_38 : decode jdk_17_method_21_code 38 = .ok (.iconst 0, 1) := by decide +kernel
theorem d1_39 : decode jdk_17_method_21_code 39 = .ok (.invokespecial 243, 3) := by decide +kernel
theorem d1_42 : decode jdk_17_method_21_code 42 = .ok (.areturn, 1) := by decide +kernel
theorem d2_0 : decode prog_92_method_2_code 0 = .ok (.aload_n 0, 1) := by decide +kernel
theorem d2_1 : decode prog_92_method_2_code 1 = .ok (.invokespecial 1, 3) := by decide +kernel
theorem d2_4 : decode prog_92_method_2_code 4 = .ok (.aload_n 0, 1) := by decide +kernel
theorem d2_5 : decode prog_92_method_2_code 5 = .ok (.aload_n 1, 1) := by decide +kernel
theorem d2_6 : decode prog_92_method_2_code 6 = .ok (.putfield 7, 3) := by decide +kernel
theorem d2_9 : decode prog_92_method_2_code 9 = .ok (.aload_n 0, 1) := by decide +kernel
theorem d2_10 : decode prog_92_method_2_code 10 = .ok (.aload_n 2, 1) := by decide +kernel
theorem d2_11 : decode prog_92_method_2_code 11 = .ok (.putfield 13, 3) := by decide +kernel
theorem d2_14 : decode prog_92_method_2_code 14 = .ok (.aload_n 0, 1) := by decide +kernel
theorem d2_15 : decode prog_92_method_2_code 15 = .ok (.aload_n 3, 1) := by decide +kernel
theorem d2_16 : decode prog_92_method_2_code 16 = .ok (.putfield 16, 3) := by decide +kernel
theorem d2_19 : decode prog_92_method_2_code 19 = .ok (.aload_n 0, 1) := by decide +kernel
theorem d2_20 : decode prog_92_method_2_code 20 = .ok (.aload 4, 2) := by decide +kernel
theorem d2_22 : decode prog_92_method_2_code 22 = .ok (.putfield 19, 3) := by decide +kernel
theorem d2_25 : decode prog_92_method_2_code 25 = .ok (.return_, 1) := by decide +kernel
theorem d3_0 : decode jdk_30_method_1_code 0 = .ok (.aload_n 0, 1) := by decide +kernel
theorem d3_1 : decode jdk_30_method_1_code 1 = .ok (.invokespecial 1, 3) := by decide +kernel
theorem d3_4 : decode jdk_30_method_1_code 4 = .ok (.return_, 1) := by decide +kernel
theorem d5_0 : decode prog_12_method_1_code 0 = .ok (.aload_n 0, 1) := by decide +kernel
theorem d5_1 : decode prog_12_method_1_code 1 = .ok (.invokespecial 1, 3) := by decide +kernel
theorem d5_4 : decode prog_12_method_1_code 4 = .ok (.aload_n 0, 1) := by decide +kernel
theorem d5_5 : decode prog_12_method_1_code 5 = .ok (.getstatic 7, 3) := by decide +kernel
theorem d5_8 : decode prog_12_method_1_code 8 = .ok (.putfield 13, 3) := by decide +kernel
theorem d5_11 : decode prog_12_method_1_code 11 = .ok (.aload_n 0, 1) := by decide +kernel
theorem d5_12 : decode prog_12_method_1_code 12 = .ok (.getstatic 7, 3) := by decide +kernel
theorem d5_15 : decode prog_12_method_1_code 15 = .ok (.putfield 18, 3) := by decide +kernel
theorem d5_18 : decode prog_12_method_1_code 18 = .ok (.return_, 1) := by decide +kernel
theorem d6_0 : decode prog_12_method_3_code 0 = .ok (.aload_n 0, 1) := by decide +kernel
theorem d6_1 : decode prog_12_method_3_code 1 = .ok (.dup, 1) := by decide +kernel
theorem d6_2 : decode prog_12_method_3_code 2 = .ok (.getfield 21, 3) := by decide +kernel
theorem d6_5 : decode prog_12_method_3_code 5 = .ok (.iconst 1, 1) := by decide +kernel
theorem d6_6 : decode prog_12_method_3_code 6 = .ok (.iadd, 1) := by decide +kernel
theorem d6_7 : decode prog_12_method_3_code 7 = .ok (.putfield 21, 3) := by decide +kernel
theorem d6_10 : decode prog_12_method_3_code 10 = .ok (.aload_n 0, 1) := by decide +kernel
theorem d6_11 : decode prog_12_method_3_code 11 = .ok (.aload_n 0, 1) := by decide +kernel
theorem d6_12 : decode prog_12_method_3_code 12 = .ok (.getfield 13, 3) := by decide +kernel
theorem d6_15 : decode prog_12_method_3_code 15 = .ok (.aload_n 1, 1) := by decide +kernel
theorem d6_16 : decode prog_12_method_3_code 16 = .ok (.invokevirtual 25, 3) := by decide +kernel
theorem d6_19 : decode prog_12_method_3_code 19 = .ok (.invokevirtual 30, 3) := by decide +kernel
theorem d6_22 : decode prog_12_method_3_code 22 = .ok (.putfield 13, 3) := by decide +kernel
theorem d6_25 : decode prog_12_method_3_code 25 = .ok (.aload_n 1, 1) := by decide +kernel
theorem d6_26 : decode prog_12_method_3_code 26 = .ok (.invokevirtual 34, 3) := by decide +kernel
theorem d6_29 : decode prog_12_method_3_code 29 = .ok (.ifnull 18, 3) := by decide +kernel
theorem d6_32 : decode prog_12_method_3_code 32 = .ok (.aload_n 0, 1) := by decide +kernel
theorem d6_33 : decode prog_12_method_3_code 33 = .ok (.aload_n 0, 1) := by decide +kernel
theorem d6_34 : decode prog_12_method_3_code 34 = .ok (.getfield 18, 3) := by decide +kernel
theorem d6_37 : decode prog_12_method_3_code 37 = .ok (.aload_n 1, 1) := by decide +kernel
theorem d6_38 : decode prog_12_method_3_code 38 = .ok (.invokevirtual 34, 3) := by decide +kernel
theorem d6_41 : decode prog_12_method_3_code 41 = .ok (.invokevirtual 30, 3) := by decide +kernel
theorem d6_44 : decode prog_12_method_3_code 44 = .ok (.putfield 18, 3) := by decide +kernel
theorem d6_47 : decode prog_12_method_3_code 47 = .ok (.return_, 1) := by decide +kernel
theorem d7_0 : decode prog_92_method_9_code 0 = .ok (.aload_n 0, 1) := by decide +kernel
theorem d7_1 : decode prog_92_method_9_code 1 = .ok (.getfield 19, 3) := by decide +kernel
theorem d7_4 : decode prog_92_method_9_code 4 = .ok (.areturn, 1) := by decide +kernel
theorem d8_0 : decode jdk_17_method_26_code 0 = .ok (.aload_n 0, 1) := by decide +kernel
theorem d8_1 : decode jdk_17_method_26_code 1 = .ok (.getfield 24, 3) := by decide +kernel
theorem d8_4 : decode jdk_17_method_26_code 4 = .ok (.ldc2_w 125, 3) := by decide +kernel
theorem d8_7 : decode jdk_17_method_26_code 7 = .ok (.lcmp, 1) := by decide +kernel
theorem d8_8 : decode jdk_17_method_26_code 8 = .ok (.ifCond .eq 54, 3) := by decide +kernel
theorem d8_11 : decode jdk_17_method_26_code 11 = .ok (.aload_n 1, 1) := by decide +kernel
theorem d8_12 : decode jdk_17_method_26_code 12 = .ok (.getfield 24, 3) := by decide +kernel
theorem d8_15 : decode jdk_17_method_26_code 15 = .ok (.ldc2_w 125, 3) := by decide +kernel
theorem d8_18 : decode jdk_17_method_26_code 18 = .ok (.lcmp, 1) := by decide +kernel
theorem d8_19 : decode jdk_17_method_26_code 19 = .ok (.ifCond .eq 23, 3) := by decide +kernel
theorem d8_22 : decode jdk_17_method_26_code 22 = .ok (.aload_n 0, 1) := by decide +kernel
theorem d8_23 : decode jdk_17_method_26_code 23 = .ok (.getfield 24, 3) := by decide +kernel
theorem d8_26 : decode jdk_17_method_26_code 26 = .ok (.aload_n 0, 1) := by decide +kernel
theorem d8_27 : decode jdk_17_method_26_code 27 = .ok (.getfield 17, 3) := by decide +kernel
theorem d8_30 : decode jdk_17_method_26_code 30 = .ok (.aload_n 1, 1) := by decide +kernel
theorem d8_31 : decode jdk_17_method_26_code 31 = .ok (.getfield 24, 3) := by decide +kernel
theorem d8_34 : decode jdk_17_method_26_code 34 = .ok (.aload_n 1, 1) := by decide +kernel
theorem d8_35 : decode jdk_17_method_26_code 35 = .ok (.getfield 17, 3) := by decide +kernel
theorem d8_38 : decode jdk_17_method_26_code 38 = .ok (.invokestatic 257, 3) := by decide +kernel
theorem d8_41 : decode jdk_17_method_26_code 41 = .ok (.areturn, 1) := by decide +kernel
theorem d9_0 : decode jdk_17_method_134_code 0 = .ok (.iload_n 2, 1) := by decide +kernel
theorem d9_1 : decode jdk_17_method_134_code 1 = .ok (.i2l, 1) := by decide +kernel
theorem d9_2 : decode jdk_17_method_134_code 2 = .ok (.iload 5, 2) := by decide +kernel
theorem d9_4 : decode jdk_17_method_134_code 4 = .ok (.i2l, 1) := by decide +kernel
theorem d9_5 : decode jdk_17_method_134_code 5 = .ok (.lsub, 1) := by decide +kernel
theorem d9_6 : decode jdk_17_method_134_code 6 = .ok (.lstore 6, 2) := by decide +kernel
theorem d9_8 : decode jdk_17_method_134_code 8 = .ok (.lload 6, 2) := by decide +kernel
theorem d9_10 : decode jdk_17_method_134_code 10 = .ok (.lconst 0, 1) := by decide +kernel
theorem d9_11 : decode jdk_17_method_134_code 11 = .ok (.lcmp, 1) := by decide +kernel
theorem d9_12 : decode jdk_17_method_134_code 12 = .ok (.ifCond .ne 10, 3) := by decide +kernel
theorem d9_15 : decode jdk_17_method_134_code 15 = .ok (.lload_n 0, 1) := by decide +kernel
theorem d9_16 : decode jdk_17_method_134_code 16 = .ok (.lload_n 3, 1) := by decide +kernel
theorem d9_17 : decode jdk_17_method_134_code 17 = .ok (.iload_n 2, 1) := by decide +kernel
theorem d9_18 : decode jdk_17_method_134_code 18 = .ok (.invokestatic 1000, 3) := by decide +kernel
theorem d9_21 : decode jdk_17_method_134_code 21 = .ok (.areturn, 1) := by decide +kernel
theorem d10_0 : decode jdk_17_method_133_code 0 = .ok (.lload_n 0, 1) := by decide +kernel
theorem d10_1 : decode jdk_17_method_133_code 1 = .ok (.lload_n 2, 1) := by decide +kernel
theorem d10_2 : decode jdk_17_method_133_code 2 = .ok (.invokestatic 996, 3) := by decide +kernel
theorem d10_5 : decode jdk_17_method_133_code 5 = .ok (.lstore 5, 2) := by decide +kernel
theorem d10_7 : decode jdk_17_method_133_code 7 = .ok (.lload 5, 2) := by decide +kernel
theorem d10_9 : decode jdk_17_method_133_code 9 = .ok (.ldc2_w 125, 3) := by decide +kernel
theorem d10_12 : decode jdk_17_method_133_code 12 = .ok (.lcmp, 1) := by decide +kernel
theorem d10_13 : decode jdk_17_method_133_code 13 = .ok (.ifCond .eq 11, 3) := by decide +kernel
theorem d10_16 : decode jdk_17_method_133_code 16 = .ok (.lload 5, 2) := by decide +kernel
theorem d10_18 : decode jdk_17_method_133_code 18 = .ok (.iload 4, 2) := by decide +kernel
theorem d10_20 : decode jdk_17_method_133_code 20 = .ok (.invokestatic 328, 3) := by decide +kernel
theorem d10_23 : decode jdk_17_method_133_code 23 = .ok (.areturn, 1) := by decide +kernel
theorem d11_0 : decode jdk_17_method_132_code 0 = .ok (.lload_n 0, 1) := by decide +kernel
theorem d11_1 : decode jdk_17_method_132_code 1 = .ok (.lload_n 2, 1) := by decide +kernel
theorem d11_2 : decode jdk_17_method_132_code 2 = .ok (.ladd, 1) := by decide +kernel
theorem d11_3 : decode jdk_17_method_132_code 3 = .ok (.lstore 4, 2) := by decide +kernel
theorem d11_5 : decode jdk_17_method_132_code 5 = .ok (.lload 4, 2) := by decide +kernel
theorem d11_7 : decode jdk_17_method_132_code 7 = .ok (.lload_n 0, 1) := by decide +kernel
theorem d11_8 : decode jdk_17_method_132_code 8 = .ok (.lxor, 1) := by decide +kernel
theorem d11_9 : decode jdk_17_method_132_code 9 = .ok (.lload 4, 2) := by decide +kernel
theorem d11_11 : decode jdk_17_method_132_code 11 = .ok (.lload_n 2, 1) := by decide +kernel
theorem d11_12 : decode jdk_17_method_132_code 12 = .ok (.lxor, 1) := by decide +kernel
theorem d11_13 : decode jdk_17_method_132_code 13 = .ok (.land, 1) := by decide +kernel
theorem d11_14 : decode jdk_17_method_132_code 14 = .ok (.lconst 0, 1) := by decide +kernel
theorem d11_15 : decode jdk_17_method_132_code 15 = .ok (.lcmp, 1) := by decide +kernel
theorem d11_16 : decode jdk_17_method_132_code 16 = .ok (.ifCond .lt 6, 3) := by decide +kernel
theorem d11_19 : decode jdk_17_method_132_code 19 = .ok (.lload 4, 2) := by decide +kernel
theorem d11_21 : decode jdk_17_method_132_code 21 = .ok (.lreturn, 1) := by decide +kernel
theorem d12_0 : decode jdk_17_method_20_code 0 = .ok (.iload_n 2, 1) := by decide +kernel
theorem d12_1 : decode jdk_17_method_20_code 1 = .ok (.ifCond .ne 8, 3) := by decide +kernel
theorem d12_4 : decode jdk_17_method_20_code 4 = .ok (.lload_n 0, 1) := by decide +kernel
theorem d12_5 : decode jdk_17_method_20_code 5 = .ok (.invokestatic 236, 3) := by decide +kernel
theorem d12_8 : decode jdk_17_method_20_code 8 = .ok (.areturn, 1) := by decide +kernel
theorem d13_0 : decode prog_92_method_7_code 0 = .ok (.aload_n 0, 1) := by decide +kernel
theorem d13_1 : decode prog_92_method_7_code 1 = .ok (.getfield 13, 3) := by decide +kernel
theorem d13_4 : decode prog_92_method_7_code 4 = .ok (.areturn, 1) := by decide +kernel
theorem d14_0 : decode prog_12_method_5_code 0 = .ok (.aload_n 0, 1) := by decide +kernel
theorem d14_1 : decode prog_12_method_5_code 1 = .ok (.getfield 21, 3) := by decide +kernel
theorem d14_4 : decode prog_12_method_5_code 4 = .ok (.ireturn, 1) := by decide +kernel
theorem d15_0 : decode prog_12_method_6_code 0 = .ok (.aload_n 0, 1) := by decide +kernel
theorem d15_1 : decode prog_12_method_6_code 1 = .ok (.getfield 13, 3) := by decide +kernel
theorem d15_4 : decode prog_12_method_6_code 4 = .ok (.areturn, 1) := by decide +kernel
theorem d16_0 : decode jdk_17_method_72_code 0 = .ok (.aload_n 1, 1) := by decide +kernel
theorem d16_1 : decode jdk_17_method_72_code 1 = .ok (.instanceof 3, 3) := by decide +kernel
theorem d16_4 : decode jdk_17_method_72_code 4 = .ok (.ifCond .eq 11, 3) := by decide +kernel
theorem d16_7 : decode jdk_17_method_72_code 7 = .ok (.aload_n 1, 1) := by decide +kernel
theorem d16_8 : decode jdk_17_method_72_code 8 = .ok (.checkcast 3, 3) := by decide +kernel
theorem d16_11 : decode jdk_17_method_72_code 11 = .ok (.astore_n 2, 1) := by decide +kernel
theorem d16_12 : decode jdk_17_method_72_code 12 = .ok (.goto 5, 3) := by decide +kernel
theorem d16_17 : decode jdk_17_method_72_code 17 = .ok (.aload_n 1, 1) := by decide +kernel
theorem d16_18 : decode jdk_17_method_72_code 18 = .ok (.aload_n 0, 1) := by decide +kernel
theorem d16_19 : decode jdk_17_method_72_code 19 = .ok (.if_acmp .ne 5, 3) := by decide +kernel
theorem d16_22 : decode jdk_17_method_72_code 22 = .ok (.iconst 1, 1) := by decide +kernel
theorem d16_23 : decode jdk_17_method_72_code 23 = .ok (.ireturn, 1) := by decide +kernel
theorem d16_24 : decode jdk_17_method_72_code 24 = .ok (.aload_n 0, 1) := by decide +kernel
theorem d16_25 : decode jdk_17_method_72_code 25 = .ok (.getfield 17, 3) := by decide +kernel
theorem d16_28 : decode jdk_17_method_72_code 28 = .ok (.aload_n 2, 1) := by decide +kernel
theorem d16_29 : decode jdk_17_method_72_code 29 = .ok (.getfield 17, 3) := by decide +kernel
theorem d16_32 : decode jdk_17_method_72_code 32 = .ok (.if_icmp .eq 5, 3) := by decide +kernel
theorem d16_37 : decode jdk_17_method_72_code 37 = .ok (.aload_n 0, 1) := by decide +kernel
theorem d16_38 : decode jdk_17_method_72_code 38 = .ok (.getfield 24, 3) := by decide +kernel
theorem d16_41 : decode jdk_17_method_72_code 41 = .ok (.lstore_n 3, 1) := by decide +kernel
theorem d16_42 : decode jdk_17_method_72_code 42 = .ok (.aload_n 2, 1) := by decide +kernel
theorem d16_43 : decode jdk_17_method_72_code 43 = .ok (.getfield 24, 3) := by decide +kernel
theorem d16_46 : decode jdk_17_method_72_code 46 = .ok (.lstore 5, 2) := by decide +kernel
theorem d16_48 : decode jdk_17_method_72_code 48 = .ok (.lload_n 3, 1) := by decide +kernel
theorem d16_49 : decode jdk_17_method_72_code 49 = .ok (.ldc2_w 125, 3) := by decide +kernel
theorem d16_52 : decode jdk_17_method_72_code 52 = .ok (.lcmp, 1) := by decide +kernel
theorem d16_53 : decode jdk_17_method_72_code 53 = .ok (.ifCond .eq 34, 3) := by decide +kernel
theorem d16_56 : decode jdk_17_method_72_code 56 = .ok (.lload 5, 2) := by decide +kernel
theorem d16_58 : decode jdk_17_method_72_code 58 = .ok (.ldc2_w 125, 3) := by decide +kernel
theorem d16_61 : decode jdk_17_method_72_code 61 = .ok (.lcmp, 1) := by decide +kernel
theorem d16_62 : decode jdk_17_method_72_code 62 = .ok (.ifCond .ne 12, 3) := by decide +kernel
theorem d16_74 : decode jdk_17_method_72_code 74 = .ok (.lload 5, 2) := by decide +kernel
theorem d16_76 : decode jdk_17_method_72_code 76 = .ok (.lload_n 3, 1) := by decide +kernel
theorem d16_77 : decode jdk_17_method_72_code 77 = .ok (.lcmp, 1) := by decide +kernel
theorem d16_78 : decode jdk_17_method_72_code 78 = .ok (.ifCond .ne 7, 3) := by decide +kernel
theorem d16_81 : decode jdk_17_method_72_code 81 = .ok (.iconst 1, 1) := by decide +kernel
theorem d16_82 : decode jdk_17_method_72_code 82 = .ok (.goto 4, 3) := by decide +kernel
theorem d16_86 : decode jdk_17_method_72_code 86 = .ok (.ireturn, 1) := by decide +kernel
theorem d17_0 : decode prog_12_method_7_code 0 = .ok (.aload_n 0, 1) := by decide +kernel
theorem d17_1 : decode prog_12_method_7_code 1 = .ok (.getfield 18, 3) := by decide +kernel
theorem d17_4 : decode prog_12_method_7_code 4 = .ok (.areturn, 1) := by decide +kernel
theorem d18_0 : decode jdk_17_method_1_code 0 = .ok (.aload_n 0, 1) := by decide +kernel
theorem d18_1 : decode jdk_17_method_1_code 1 = .ok (.invokespecial 11, 3) := by decide +kernel
theorem d18_4 : decode jdk_17_method_1_code 4 = .ok (.aload_n 0, 1) := by decide +kernel
theorem d18_5 : decode jdk_17_method_1_code 5 = .ok (.iload 4, 2) := by decide +kernel
theorem d18_7 : decode jdk_17_method_1_code 7 = .ok (.putfield 17, 3) := by decide +kernel
theorem d18_10 : decode jdk_17_method_1_code 10 = .ok (.aload_n 0, 1) := by decide +kernel
theorem d18_11 : decode jdk_17_method_1_code 11 = .ok (.iload 5, 2) := by decide +kernel
theorem d18_13 : decode jdk_17_method_1_code 13 = .ok (.putfield 21, 3) := by decide +kernel
theorem d18_16 : decode jdk_17_method_1_code 16 = .ok (.aload_n 0, 1) := by decide +kernel
theorem d18_17 : decode jdk_17_method_1_code 17 = .ok (.lload_n 2, 1) := by decide +kernel
theorem d18_18 : decode jdk_17_method_1_code 18 = .ok (.putfield 24, 3) := by decide +kernel
theorem d18_21 : decode jdk_17_method_1_code 21 = .ok (.aload_n 0, 1) := by decide +kernel
theorem d18_22 : decode jdk_17_method_1_code 22 = .ok (.aload_n 1, 1) := by decide +kernel
theorem d18_23 : decode jdk_17_method_1_code 23 = .ok (.putfield 28, 3) := by decide +kernel
theorem d18_26 : decode jdk_17_method_1_code 26 = .ok (.return_, 1) := by decide +kernel
theorem d19_0 : decode jdk_18_method_1_code 0 = .ok (.aload_n 0, 1) := by decide +kernel
theorem d19_1 : decode jdk_18_method_1_code 1 = .ok (.invokespecial 1, 3) := by decide +kernel
theorem d19_4 : decode jdk_18_method_1_code 4 = .ok (.return_, 1) := by decide +kernel
theorem pd_0 : parseMethodDescriptor "()V" = some ⟨[], none⟩ := by decide +kernel
theorem pd_1 : parseMethodDescriptor "(Ljava/math/BigInteger;JII)V" = some ⟨[(.object "java/math/BigInteger"), .long, .int, .int], none⟩ := by decide +kernel
theorem pd_2 : parseMethodDescriptor "(J)Ljava/math/BigDecimal;" = some ⟨[.long], some (.object "java/math/BigDecimal")⟩ := by decide +kernel
theorem pd_3 : parseMethodDescriptor "(Ljava/math/BigDecimal;Ljava/math/BigDecimal;Ljava/math/BigDecimal;Ljava/math/BigDecimal;)V" = some ⟨[(.object "java/math/BigDecimal"), (.object "java/math/BigDecimal"), (.object "java/math/BigDecimal"), (.object "java/math/BigDecimal")], none⟩ := by decide +kernel
theorem pd_4 : parseMethodDescriptor "()Ljava/math/BigDecimal;" = some ⟨[], some (.object "java/math/BigDecimal")⟩ := by decide +kernel
theorem pd_5 : parseMethodDescriptor "(JJ)J" = some ⟨[.long, .long], some .long⟩ := by decide +kernel
theorem pd_6 : parseMethodDescriptor "(JI)Ljava/math/BigDecimal;" = some ⟨[.long, .int], some (.object "java/math/BigDecimal")⟩ := by decide +kernel
theorem pd_7 : parseMethodDescriptor "(JJI)Ljava/math/BigDecimal;" = some ⟨[.long, .long, .int], some (.object "java/math/BigDecimal")⟩ := by decide +kernel
theorem pd_8 : parseMethodDescriptor "(JIJI)Ljava/math/BigDecimal;" = some ⟨[.long, .int, .long, .int], some (.object "java/math/BigDecimal")⟩ := by decide +kernel
theorem pd_9 : parseMethodDescriptor "(Ljava/math/BigDecimal;)Ljava/math/BigDecimal;" = some ⟨[(.object "java/math/BigDecimal")], some (.object "java/math/BigDecimal")⟩ := by decide +kernel
theorem pd_10 : parseMethodDescriptor "(Lcom/example/cropmark/cropmark/Weights;)V" = some ⟨[(.object "com/example/cropmark/cropmark/Weights")], none⟩ := by decide +kernel
theorem pd_11 : parseMethodDescriptor "()I" = some ⟨[], some .int⟩ := by decide +kernel
theorem pd_12 : parseMethodDescriptor "(Ljava/lang/Object;)Z" = some ⟨[(.object "java/lang/Object")], some .boolean⟩ := by decide +kernel
theorem pn_0 : plainName "java/lang/Number" = true := by first | (simp [plainName, overriddenIn]; done) | decide +kernel
theorem pn_1 : plainName "java/math/BigDecimal" = true := by first | (simp [plainName, overriddenIn]; done) | decide +kernel
theorem pn_2 : plainName "java/lang/Record" = true := by first | (simp [plainName, overriddenIn]; done) | decide +kernel
theorem pn_3 : plainName "com/example/cropmark/cropmark/Weights" = true := by first | (simp [plainName, overriddenIn]; done) | decide +kernel
theorem pn_4 : plainName "com/example/cropmark/cropmark/Assessment$Sums" = true := by first | (simp [plainName, overriddenIn]; done) | decide +kernel
theorem pn_5 : plainName "com/example/cropmark/cropmark/SumsAddPinLaw" = true := by first | (simp [plainName, overriddenIn]; done) | decide +kernel
def Q_rm19_1 (Z : State) (a1 : Addr) (h0 : Heap) (n0 : Nat) (v : Option Value) (h : Heap) (L : List Loc) : Prop := v = none ∧ Fr n0 L ∧ h = h0
set_option maxRecDepth 65536 in
set_option maxHeartbeats 40000000 in
theorem rm19_1 (l : Launch) (Z : State) (a0 : Array Value) (hw : ∀ d ∈ tables_1, d.before a0 Z = true) (ws : List Jvm.Cond) (a1 : Addr) (h0 : Heap) (n0 : Nat) (O0 : Old Z n0 h0) :
    MetFree l (⟨"java/lang/Number", "<init>", "()V"⟩ : MethodName) (head1 (Jvm.Cond.code (⟨"java/lang/Number", "<init>", "()V"⟩ : MethodName) jdk_18_method_1_code 1 none :: ws) ({ frames := 1, cells := 0, slots := 0, locals := 12 } : Room)) (fun a U => a = #[(.ref a1)] ∧ Z.Warmed39 U.vm ∧ U.heap = h0) (fun _ _ _ _ _ => True) (fun _ U o U' => ∃ v L, o = .returned v ∧ Q_rm19_1 Z a1 h0 n0 v U'.heap L ∧ FrameEnd U o U' L ({ frames := 1, cells := 0, slots := 0, locals := 12 } : Room).cells ({ frames := 1, cells := 0, slots := 0, locals := 12 } : Room).slots) := by
  refine MetFree.of_bodySF (plainFor_of_name pn_0) hisR ?_
  intro p e s m args below meth c s₁ Bd hml0 hP hK
  obtain ⟨rfl, hZ, hh⟩ := hP
  have hx := Bd.exec
  have hby := Bd.bytes
  have hml : c.maxLocals = 1 := hml0
  have hown : s.vm.findClass "java/lang/Number" = some m.cls := findClass_of_methodNamed Bd.named
  have hnm := (name_of_methodNamed Bd.named Bd.method).1
  have X0 : Stand p l e ({ frames := 1, cells := 0, slots := 0, locals := 12 } : Room) s m #[(.ref a1)] below meth c s₁ [] 0 0 := Stand.of_body Bd
  have e0 : s₁.heap = h0 := by rw [← hh, Bd.state]; rfl
  have N0 := Fr.nil n0
  refine Go.start (P := (fun o U' => ∃ v L, o = .returned v ∧ Q_rm19_1 Z a1 h0 n0 v U'.heap L ∧ FrameEnd s o U' L ({ frames := 1, cells := 0, slots := 0, locals := 12 } : Room).cells ({ frames := 1, cells := 0, slots := 0, locals := 12 } : Room).slots)) (castTop (g' := (mkF m 0 #[.val (.ref a1)] [])) (by first | rfl | simp [entryFrame, mkF, argsToLocals, Value.category]) (T := s₁)) ?_
  refine Go.st (fun t k => XS.aloadN X0.here hx rfl (hb hby d19_0) rfl rfl k) ?_
  show Go p e below _ (s₁.setTop (mkF m 1 #[.val (.ref a1)] [(.ref a1)]))
  obtain ⟨T1, X1, e1, st1⟩ := initO X0 hx hZ hown (w111 hw) (w17 hw) (w18 hw) e0 (g := (mkF m 1 #[.val (.ref a1)] [(.ref a1)])) rfl (by rw [hml]; rfl) rfl (hb hby d19_1) (by decide) (W := 0) (by show 2 * 0 + _ ≤ _; exact Nat.le_of_eq rfl) (by decide)
  refine Go.st st1 ?_
  show Go p e below _ (T1.setTop (mkF m 4 #[.val (.ref a1)] []))
  obtain ⟨fs, hr, hrun, hended, hWd, hsame⟩ := X1.leave (v := none) (fun _ => rfl)
  refine ⟨_, _, ?_, hrun, hended, _, _, rfl, ?_, ⟨⟨_, rfl⟩, hWd, hsame.mono (by decide) (by decide)⟩⟩
  · exact X1.returnOut hx Bd.returns (hb hby d19_4) hr
  · show Q_rm19_1 Z a1 h0 n0 _ T1.heap _
    rw [e1]
    exact ⟨rfl, N0, rfl⟩
def Q_rm18_1 (Z : State) (a1 : Addr) (q2 : Int64) (h0 : Heap) (n0 : Nat) (v : Option Value) (h : Heap) (L : List Loc) : Prop := v = none ∧ Fr n0 L ∧ Keep h0 h [a1] ∧ Fld Z h a1 "java/math/BigDecimal" "scale" "I" (.int (0 : Int32)) ∧ Fld Z h a1 "java/math/BigDecimal" "precision" "I" (.int (0 : Int32)) ∧ Fld Z h a1 "java/math/BigDecimal" "intCompact" "J" (.long q2) ∧ Fld Z h a1 "java/math/BigDecimal" "intVal" "Ljava/math/BigInteger;" .null
set_option maxRecDepth 65536 in
set_option maxHeartbeats 40000000 in
theorem rm18_1 (l : Launch) (Z : State) (a0 : Array Value) (hw : ∀ d ∈ tables_1, d.before a0 Z = true) (ws : List Jvm.Cond) (a1 : Addr) (q2 : Int64) (h0 : Heap) (n0 : Nat) (O0 : Old Z n0 h0) (P1 : Exa Z h0 a1 "java/math/BigDecimal") (P2 : Fld Z h0 a1 "java/math/BigDecimal" "scale" "I" (.int (0 : Int32))) (P3 : n0 ≤ a1) (P4 : Fld Z h0 a1 "java/math/BigDecimal" "precision" "I" (.int (0 : Int32))) (P5 : Fld Z h0 a1 "java/math/BigDecimal" "intCompact" "J" (.long (0 : Int64))) (P6 : Fld Z h0 a1 "java/math/BigDecimal" "intVal" "Ljava/math/BigInteger;" .null) :
    MetFree l (⟨"java/math/BigDecimal", "<init>", "(Ljava/math/BigInteger;JII)V"⟩ : MethodName) (head1 (Jvm.Cond.code (⟨"java/math/BigDecimal", "<init>", "(Ljava/math/BigInteger;JII)V"⟩ : MethodName) jdk_17_method_1_code 6 none :: ws) ({ frames := 2, cells := 0, slots := 0, locals := 24 } : Room)) (fun a U => a = #[(.ref a1), .null, (.long q2), (.int (0 : Int32)), (.int (0 : Int32))] ∧ Z.Warmed39 U.vm ∧ U.heap = h0) (fun _ _ _ _ _ => True) (fun _ U o U' => ∃ v L, o = .returned v ∧ Q_rm18_1 Z a1 q2 h0 n0 v U'.heap L ∧ FrameEnd U o U' L ({ frames := 2, cells := 0, slots := 0, locals := 24 } : Room).cells ({ frames := 2, cells := 0, slots := 0, locals := 24 } : Room).slots) := by
  refine MetFree.of_bodySF (plainFor_of_name pn_1) hisR ?_
  intro p e s m args below meth c s₁ Bd hml0 hP hK
  obtain ⟨rfl, hZ, hh⟩ := hP
  have hx := Bd.exec
  have hby := Bd.bytes
  have hml : c.maxLocals = 6 := hml0
  have hown : s.vm.findClass "java/math/BigDecimal" = some m.cls := findClass_of_methodNamed Bd.named
  have hnm := (name_of_methodNamed Bd.named Bd.method).1
  have X0 : Stand p l e ({ frames := 2, cells := 0, slots := 0, locals := 24 } : Room) s m #[(.ref a1), .null, (.long q2), (.int (0 : Int32)), (.int (0 : Int32))] below meth c s₁ [] 0 0 := Stand.of_body Bd
  have e0 : s₁.heap = h0 := by rw [← hh, Bd.state]; rfl
  have N0 := Fr.nil n0
  refine Go.start (P := (fun o U' => ∃ v L, o = .returned v ∧ Q_rm18_1 Z a1 q2 h0 n0 v U'.heap L ∧ FrameEnd s o U' L ({ frames := 2, cells := 0, slots := 0, locals := 24 } : Room).cells ({ frames := 2, cells := 0, slots := 0, locals := 24 } : Room).slots)) (castTop (g' := (mkF m 0 #[.val (.ref a1), .val .null, .val (.long q2), .second, .val (.int (0 : Int32)), .val (.int (0 : Int32))] [])) (by first | rfl | simp [entryFrame, mkF, argsToLocals, Value.category]) (T := s₁)) ?_
  refine Go.st (fun t k => XS.aloadN X0.here hx rfl (hb hby d18_0) rfl rfl k) ?_
  show Go p e below _ (s₁.setTop (mkF m 1 #[.val (.ref a1), .val .null, .val (.long q2), .second, .val (.int (0 : Int32)), .val (.int (0 : Int32))] [(.ref a1)]))
  obtain ⟨_, _, ⟨T1, L1, k1, n1⟩, -, X1, ⟨Lc1, hQ1, l1, y1, z1⟩, st1⟩ := X0.specialBack hx (y := (⟨"java/lang/Number", "<init>", "()V"⟩ : MethodName)) rfl hown (mvT hZ (w105 hw)) (mvT hZ (w106 hw)) (mvT hZ (w110 hw)) (by decide) (backOf (W := 0) (rm19_1 l Z a0 hw [] a1 h0 n0 O0 ) hZ (w110 hw) (w109 hw) (by decide) (by decide)) (g := (mkF m 1 #[.val (.ref a1), .val .null, .val (.long q2), .second, .val (.int (0 : Int32)), .val (.int (0 : Int32))] [(.ref a1)])) rfl (by rw [hml]; rfl) (Steps.refl _) (a := a1) (argsL := []) (rest := []) (lenOf pd_0 rfl) rfl (by show 2 * 0 + _ ≤ _; exact Nat.le_of_eq rfl) (hb hby d18_1) (fun vm₁ hw₁ => ⟨rfl, e0, (by decide : 0 + 0 ≤ _), (by decide : 0 + 0 ≤ _)⟩)
  dsimp only [Pt.U, Pt.locs, Pt.cells, Pt.slots] at X1 l1 y1 z1 st1 hQ1
  subst l1 y1 z1
  obtain ⟨rfl, M1, eh1⟩ := hQ1
  have N1 := Fr.app N0 M1
  refine Go.tr st1 ?_
  show Go p e below _ (T1.setTop (mkF m 4 #[.val (.ref a1), .val .null, .val (.long q2), .second, .val (.int (0 : Int32)), .val (.int (0 : Int32))] []))
  refine Go.st (fun t k => XS.aloadN X1.here hx rfl (hb hby d18_4) rfl rfl k) ?_
  show Go p e below _ (T1.setTop (mkF m 5 #[.val (.ref a1), .val .null, .val (.long q2), .second, .val (.int (0 : Int32)), .val (.int (0 : Int32))] [(.ref a1)]))
  refine Go.st (fun t k => XS.iload X1.here hx rfl (hb hby d18_5) rfl k) ?_
  show Go p e below _ (T1.setTop (mkF m 7 #[.val (.ref a1), .val .null, .val (.long q2), .second, .val (.int (0 : Int32)), .val (.int (0 : Int32))] [(.int (0 : Int32)), (.ref a1)]))
  obtain ⟨T2, h2, X2, e2, W2, st2⟩ := putF X1 hx hZ hown (host := "") (Or.inl (w59 hw)) Via.refl eh1 P2 P1 (Or.inr ⟨(w60 hw), rfl, hnm⟩) (w101 hw) (ty := .int) (by decide) rfl rfl (g := (mkF m 7 #[.val (.ref a1), .val .null, .val (.long q2), .second, .val (.int (0 : Int32)), .val (.int (0 : Int32))] [(.int (0 : Int32)), (.ref a1)])) rfl rfl (hb hby d18_7)
  have F2 : Fld Z h2 a1 "java/math/BigDecimal" "scale" "I" (.int (0 : Int32)) := P2.same W2
  have N2 := Fr.snoc X2 N1 P3
  have O2 : Old Z n0 h2 := O0.wr W2 P3
  have K2 : Keep h0 h2 [a1] := (Keep.refl h0 [a1]).wr W2 (Or.inl (List.mem_of_getElem? (i := 0) rfl))
  refine Go.st st2 ?_
  show Go p e below _ (T2.setTop (mkF m 10 #[.val (.ref a1), .val .null, .val (.long q2), .second, .val (.int (0 : Int32)), .val (.int (0 : Int32))] []))
  refine Go.st (fun t k => XS.aloadN X2.here hx rfl (hb hby d18_10) rfl rfl k) ?_
  show Go p e below _ (T2.setTop (mkF m 11 #[.val (.ref a1), .val .null, .val (.long q2), .second, .val (.int (0 : Int32)), .val (.int (0 : Int32))] [(.ref a1)]))
  refine Go.st (fun t k => XS.iload X2.here hx rfl (hb hby d18_11) rfl k) ?_
  show Go p e below _ (T2.setTop (mkF m 13 #[.val (.ref a1), .val .null, .val (.long q2), .second, .val (.int (0 : Int32)), .val (.int (0 : Int32))] [(.int (0 : Int32)), (.ref a1)]))
  have c3 := (P4.other W2 (Or.inr (slot_ne (Or.inl (w113 hw)) (Or.inr (w60 hw)) (by decide) (t := .int) (t' := .int) (by decide) (by decide))))
  obtain ⟨T4, h4, X4, e4, W4, st4⟩ := putF X2 hx hZ hown (host := "") (Or.inl (w112 hw)) Via.refl e2 c3 (P1.wr W2) (Or.inl (w113 hw)) (w101 hw) (ty := .int) (by decide) rfl rfl (g := (mkF m 13 #[.val (.ref a1), .val .null, .val (.long q2), .second, .val (.int (0 : Int32)), .val (.int (0 : Int32))] [(.int (0 : Int32)), (.ref a1)])) rfl rfl (hb hby d18_13)
  have F4 : Fld Z h4 a1 "java/math/BigDecimal" "precision" "I" (.int (0 : Int32)) := c3.same W4
  have N4 := Fr.snoc X4 N2 P3
  have O4 : Old Z n0 h4 := O2.wr W4 P3
  have K4 : Keep h0 h4 [a1] := K2.wr W4 (Or.inl (List.mem_of_getElem? (i := 0) rfl))
  refine Go.st st4 ?_
  show Go p e below _ (T4.setTop (mkF m 16 #[.val (.ref a1), .val .null, .val (.long q2), .second, .val (.int (0 : Int32)), .val (.int (0 : Int32))] []))
  refine Go.st (fun t k => XS.aloadN X4.here hx rfl (hb hby d18_16) rfl rfl k) ?_
  show Go p e below _ (T4.setTop (mkF m 17 #[.val (.ref a1), .val .null, .val (.long q2), .second, .val (.int (0 : Int32)), .val (.int (0 : Int32))] [(.ref a1)]))
  refine Go.st (fun t k => XS.lloadN X4.here hx rfl (hb hby d18_17) rfl k) ?_
  show Go p e below _ (T4.setTop (mkF m 18 #[.val (.ref a1), .val .null, .val (.long q2), .second, .val (.int (0 : Int32)), .val (.int (0 : Int32))] [(.long q2), (.ref a1)]))
  have c5 := ((P5.other W2 (Or.inr (slot_ne (Or.inr (w57 hw)) (Or.inr (w60 hw)) (by decide) (t := .long) (t' := .int) (by decide) (by decide)))).other W4 (Or.inr (slot_ne (Or.inr (w57 hw)) (Or.inl (w113 hw)) (by decide) (t := .long) (t' := .int) (by decide) (by decide))))
  obtain ⟨T6, h6, X6, e6, W6, st6⟩ := putF X4 hx hZ hown (host := "") (Or.inl (w56 hw)) Via.refl e4 c5 ((P1.wr W2).wr W4) (Or.inr ⟨(w57 hw), rfl, hnm⟩) (w101 hw) (ty := .long) (by decide) rfl rfl (g := (mkF m 18 #[.val (.ref a1), .val .null, .val (.long q2), .second, .val (.int (0 : Int32)), .val (.int (0 : Int32))] [(.long q2), (.ref a1)])) rfl rfl (hb hby d18_18)
  have F6 : Fld Z h6 a1 "java/math/BigDecimal" "intCompact" "J" (.long q2) := c5.same W6
  have N6 := Fr.snoc X6 N4 P3
  have O6 : Old Z n0 h6 := O4.wr W6 P3
  have K6 : Keep h0 h6 [a1] := K4.wr W6 (Or.inl (List.mem_of_getElem? (i := 0) rfl))
  refine Go.st st6 ?_
  show Go p e below _ (T6.setTop (mkF m 21 #[.val (.ref a1), .val .null, .val (.long q2), .second, .val (.int (0 : Int32)), .val (.int (0 : Int32))] []))
  refine Go.st (fun t k => XS.aloadN X6.here hx rfl (hb hby d18_21) rfl rfl k) ?_
  show Go p e below _ (T6.setTop (mkF m 22 #[.val (.ref a1), .val .null, .val (.long q2), .second, .val (.int (0 : Int32)), .val (.int (0 : Int32))] [(.ref a1)]))
  refine Go.st (fun t k => XS.aloadN X6.here hx rfl (hb hby d18_22) rfl rfl k) ?_
  show Go p e below _ (T6.setTop (mkF m 23 #[.val (.ref a1), .val .null, .val (.long q2), .second, .val (.int (0 : Int32)), .val (.int (0 : Int32))] [.null, (.ref a1)]))
  have c7 := (((P6.other W2 (Or.inr (slot_ne (Or.inr (w115 hw)) (Or.inr (w60 hw)) (by decide) (t := (.object "java/math/BigInteger")) (t' := .int) (by decide) (by decide)))).other W4 (Or.inr (slot_ne (Or.inr (w115 hw)) (Or.inl (w113 hw)) (by decide) (t := (.object "java/math/BigInteger")) (t' := .int) (by decide) (by decide)))).other W6 (Or.inr (slot_ne (Or.inr (w115 hw)) (Or.inr (w57 hw)) (by decide) (t := (.object "java/math/BigInteger")) (t' := .long) (by decide) (by decide))))
  obtain ⟨T8, h8, X8, e8, W8, st8⟩ := putF X6 hx hZ hown (host := "") (Or.inl (w114 hw)) Via.refl e6 c7 (((P1.wr W2).wr W4).wr W6) (Or.inr ⟨(w115 hw), rfl, hnm⟩) (w101 hw) (ty := (.object "java/math/BigInteger")) (by decide) rfl rfl (g := (mkF m 23 #[.val (.ref a1), .val .null, .val (.long q2), .second, .val (.int (0 : Int32)), .val (.int (0 : Int32))] [.null, (.ref a1)])) rfl rfl (hb hby d18_23)
  have F8 : Fld Z h8 a1 "java/math/BigDecimal" "intVal" "Ljava/math/BigInteger;" .null := c7.same W8
  have N8 := Fr.snoc X8 N6 P3
  have O8 : Old Z n0 h8 := O6.wr W8 P3
  have K8 : Keep h0 h8 [a1] := K6.wr W8 (Or.inl (List.mem_of_getElem? (i := 0) rfl))
  refine Go.st st8 ?_
  show Go p e below _ (T8.setTop (mkF m 26 #[.val (.ref a1), .val .null, .val (.long q2), .second, .val (.int (0 : Int32)), .val (.int (0 : Int32))] []))
  obtain ⟨fs, hr, hrun, hended, hWd, hsame⟩ := X8.leave (v := none) (fun _ => rfl)
  have c9 := (((F2.other W4 (Or.inr (slot_ne (Or.inr (w60 hw)) (Or.inl (w113 hw)) (by decide) (t := .int) (t' := .int) (by decide) (by decide)))).other W6 (Or.inr (slot_ne (Or.inr (w60 hw)) (Or.inr (w57 hw)) (by decide) (t := .int) (t' := .long) (by decide) (by decide)))).other W8 (Or.inr (slot_ne (Or.inr (w60 hw)) (Or.inr (w115 hw)) (by decide) (t := .int) (t' := (.object "java/math/BigInteger")) (by decide) (by decide))))
  have c10 := ((F4.other W6 (Or.inr (slot_ne (Or.inl (w113 hw)) (Or.inr (w57 hw)) (by decide) (t := .int) (t' := .long) (by decide) (by decide)))).other W8 (Or.inr (slot_ne (Or.inl (w113 hw)) (Or.inr (w115 hw)) (by decide) (t := .int) (t' := (.object "java/math/BigInteger")) (by decide) (by decide))))
  have c11 := (F6.other W8 (Or.inr (slot_ne (Or.inr (w57 hw)) (Or.inr (w115 hw)) (by decide) (t := .long) (t' := (.object "java/math/BigInteger")) (by decide) (by decide))))
  refine ⟨_, _, ?_, hrun, hended, _, _, rfl, ?_, ⟨⟨_, rfl⟩, hWd, hsame.mono (by decide) (by decide)⟩⟩
  · exact X8.returnOut hx Bd.returns (hb hby d18_26) hr
  · show Q_rm18_1 Z a1 q2 h0 n0 _ T8.heap _
    rw [e8]
    exact ⟨rfl, N8, K8, c9, c10, c11, F8⟩
def Q_rmV (Z : State) (qv : Int64) (a2 : Addr) (k3 : ClassId) (a4 : Addr) (a5 : Addr) (a6 : Addr) (a7 : Addr) (a8 : Addr) (a9 : Addr) (a10 : Addr) (a11 : Addr) (a12 : Addr) (a13 : Addr) (a14 : Addr) (h0 : Heap) (n0 : Nat) (v : Option Value) (h : Heap) (L : List Loc) : Prop := ∃ (bv : Addr), v = some (.ref bv) ∧ Fr n0 L ∧ Keep h0 h [] ∧ Exa Z h bv "java/math/BigDecimal" ∧ Fld Z h bv "java/math/BigDecimal" "scale" "I" (.int (0 : Int32)) ∧ Fld Z h bv "java/math/BigDecimal" "intCompact" "J" (.long qv)
set_option maxRecDepth 65536 in
set_option maxHeartbeats 40000000 in
theorem rmV (l : Launch) (Z : State) (a0 : Array Value) (hw : ∀ d ∈ tables_1, d.before a0 Z = true) (ws : List Jvm.Cond) (qv : Int64) (a2 : Addr) (k3 : ClassId) (a4 : Addr) (a5 : Addr) (a6 : Addr) (a7 : Addr) (a8 : Addr) (a9 : Addr) (a10 : Addr) (a11 : Addr) (a12 : Addr) (a13 : Addr) (a14 : Addr) (h0 : Heap) (n0 : Nat) (O0 : Old Z n0 h0) (P_lim : ¬ (qv = (-9223372036854775808 : Int64))) (P2 : Sta Z Z.heap "java/math/BigDecimal" "ZERO_THROUGH_TEN" "[Ljava/math/BigDecimal;" (.ref a2)) (P3 : Arv Z Z.heap a2 k3 (.object "java/math/BigDecimal") (11 : Int32) [(.ref a4), (.ref a5), (.ref a6), (.ref a7), (.ref a8), (.ref a9), (.ref a10), (.ref a11), (.ref a12), (.ref a13), (.ref a14)] .null) (P4 : Exa Z Z.heap a4 "java/math/BigDecimal") (P5 : Fld Z Z.heap a4 "java/math/BigDecimal" "scale" "I" (.int (0 : Int32))) (P6 : Fld Z Z.heap a4 "java/math/BigDecimal" "intCompact" "J" (.long (0 : Int64))) (P7 : Exa Z Z.heap a5 "java/math/BigDecimal") (P8 : Fld Z Z.heap a5 "java/math/BigDecimal" "scale" "I" (.int (0 : Int32))) (P9 : Fld Z Z.heap a5 "java/math/BigDecimal" "intCompact" "J" (.long (1 : Int64))) (P10 : Exa Z Z.heap a6 "java/math/BigDecimal") (P11 : Fld Z Z.heap a6 "java/math/BigDecimal" "scale" "I" (.int (0 : Int32))) (P12 : Fld Z Z.heap a6 "java/math/BigDecimal" "intCompact" "J" (.long (2 : Int64))) (P13 : Exa Z Z.heap a7 "java/math/BigDecimal") (P14 : Fld Z Z.heap a7 "java/math/BigDecimal" "scale" "I" (.int (0 : Int32))) (P15 : Fld Z Z.heap a7 "java/math/BigDecimal" "intCompact" "J" (.long (3 : Int64))) (P16 : Exa Z Z.heap a8 "java/math/BigDecimal") (P17 : Fld Z Z.heap a8 "java/math/BigDecimal" "scale" "I" (.int (0 : Int32))) (P18 : Fld Z Z.heap a8 "java/math/BigDecimal" "intCompact" "J" (.long (4 : Int64))) (P19 : Exa Z Z.heap a9 "java/math/BigDecimal") (P20 : Fld Z Z.heap a9 "java/math/BigDecimal" "scale" "I" (.int (0 : Int32))) (P21 : Fld Z Z.heap a9 "java/math/BigDecimal" "intCompact" "J" (.long (5 : Int64))) (P22 : Exa Z Z.heap a10 "java/math/BigDecimal") (P23 : Fld Z Z.heap a10 "java/math/BigDecimal" "scale" "I" (.int (0 : Int32))) (P24 : Fld Z Z.heap a10 "java/math/BigDecimal" "intCompact" "J" (.long (6 : Int64))) (P25 : Exa Z Z.heap a11 "java/math/BigDecimal") (P26 : Fld Z Z.heap a11 "java/math/BigDecimal" "scale" "I" (.int (0 : Int32))) (P27 : Fld Z Z.heap a11 "java/math/BigDecimal" "intCompact" "J" (.long (7 : Int64))) (P28 : Exa Z Z.heap a12 "java/math/BigDecimal") (P29 : Fld Z Z.heap a12 "java/math/BigDecimal" "scale" "I" (.int (0 : Int32))) (P30 : Fld Z Z.heap a12 "java/math/BigDecimal" "intCompact" "J" (.long (8 : Int64))) (P31 : Exa Z Z.heap a13 "java/math/BigDecimal") (P32 : Fld Z Z.heap a13 "java/math/BigDecimal" "scale" "I" (.int (0 : Int32))) (P33 : Fld Z Z.heap a13 "java/math/BigDecimal" "intCompact" "J" (.long (9 : Int64))) (P34 : Exa Z Z.heap a14 "java/math/BigDecimal") (P35 : Fld Z Z.heap a14 "java/math/BigDecimal" "scale" "I" (.int (0 : Int32))) (P36 : Fld Z Z.heap a14 "java/math/BigDecimal" "intCompact" "J" (.long (10 : Int64))) :
    MetFree l (⟨"java/math/BigDecimal", "valueOf", "(J)Ljava/math/BigDecimal;"⟩ : MethodName) (head1 (Jvm.Cond.code (⟨"java/math/BigDecimal", "valueOf", "(J)Ljava/math/BigDecimal;"⟩ : MethodName) jdk_17_method_21_code 2 (some (.object "java/math/BigDecimal")) :: ws) ({ frames := 3, cells := 1, slots := 5, locals := 42 } : Room)) (fun a U => a = #[(.long qv)] ∧ Z.Warmed39 U.vm ∧ U.heap = h0) (fun _ _ _ _ _ => True) (fun _ U o U' => ∃ v L, o = .returned v ∧ Q_rmV Z qv a2 k3 a4 a5 a6 a7 a8 a9 a10 a11 a12 a13 a14 h0 n0 v U'.heap L ∧ FrameEnd U o U' L ({ frames := 3, cells := 1, slots := 5, locals := 42 } : Room).cells ({ frames := 3, cells := 1, slots := 5, locals := 42 } : Room).slots) := by
  refine MetFree.of_bodySF (plainFor_of_name pn_1) hisR ?_
  intro p e s m args below meth c s₁ Bd hml0 hP hK
  obtain ⟨rfl, hZ, hh⟩ := hP
  have hx := Bd.exec
  have hby := Bd.bytes
  have hml : c.maxLocals = 2 := hml0
  have hown : s.vm.findClass "java/math/BigDecimal" = some m.cls := findClass_of_methodNamed Bd.named
  have hnm := (name_of_methodNamed Bd.named Bd.method).1
  have X0 : Stand p l e ({ frames := 3, cells := 1, slots := 5, locals := 42 } : Room) s m #[(.long qv)] below meth c s₁ [] 0 0 := Stand.of_body Bd
  have e0 : s₁.heap = h0 := by rw [← hh, Bd.state]; rfl
  have N0 := Fr.nil n0
  refine Go.start (P := (fun o U' => ∃ v L, o = .returned v ∧ Q_rmV Z qv a2 k3 a4 a5 a6 a7 a8 a9 a10 a11 a12 a13 a14 h0 n0 v U'.heap L ∧ FrameEnd s o U' L ({ frames := 3, cells := 1, slots := 5, locals := 42 } : Room).cells ({ frames := 3, cells := 1, slots := 5, locals := 42 } : Room).slots)) (castTop (g' := (mkF m 0 #[.val (.long qv), .second] [])) (by first | rfl | simp [entryFrame, mkF, argsToLocals, Value.category]) (T := s₁)) ?_
  refine Go.st (fun t k => XS.lloadN X0.here hx rfl (hb hby d1_0) rfl k) ?_
  show Go p e below _ (s₁.setTop (mkF m 1 #[.val (.long qv), .second] [(.long qv)]))
  refine Go.st (fun t k => XS.lconst X0.here hx rfl (hb hby d1_1) k) ?_
  show Go p e below _ (s₁.setTop (mkF m 2 #[.val (.long qv), .second] [(.long (0 : Int64)), (.long qv)]))
  refine Go.st (fun t k => Jvm.Free.XT.lcmp X0.here hx rfl (hb hby d1_2) rfl k) ?_
  show Go p e below _ (s₁.setTop (mkF m 3 #[.val (.long qv), .second] [(.int (Jvm.Free.XT.cmpL qv (0 : Int64)))]))
  by_cases hc1 : qv < (0 : Int64)
  · refine Go.st (fun t k => XS.ifYes X0.here hx rfl (pc0 := 3) (pc' := 23) rfl (hb hby d1_3) rfl (Jvm.Free.XT.ll_lt_t hc1) (by decide) (by decide) k) ?_
    show Go p e below _ (s₁.setTop (mkF m 23 #[.val (.long qv), .second] []))
    refine Go.st (fun t k => XS.lloadN X0.here hx rfl (hb hby d1_23) rfl k) ?_
    show Go p e below _ (s₁.setTop (mkF m 24 #[.val (.long qv), .second] [(.long qv)]))
    refine Go.st (fun t k => X0.ldc2J hx hown (mvT hZ (w58 hw)) (g := (mkF m 24 #[.val (.long qv), .second] [(.long qv)])) rfl (hb hby d1_24) k) ?_
    show Go p e below _ (s₁.setTop (mkF m 27 #[.val (.long qv), .second] [(.long (-9223372036854775808 : Int64)), (.long qv)]))
    refine Go.st (fun t k => Jvm.Free.XT.lcmp X0.here hx rfl (hb hby d1_27) rfl k) ?_
    show Go p e below _ (s₁.setTop (mkF m 28 #[.val (.long qv), .second] [(.int (Jvm.Free.XT.cmpL qv (-9223372036854775808 : Int64)))]))
    refine Go.st (fun t k => XS.ifNo X0.here hx rfl (hb hby d1_28) rfl (Jvm.Free.XT.ll_eq_f P_lim) k) ?_
    show Go p e below _ (s₁.setTop (mkF m 31 #[.val (.long qv), .second] []))
    obtain ⟨T2, h2, X2, e2, E2, A2, D2, -, st2⟩ := newO X0 hx hZ hown (w94 hw) (w101 hw) (w2 hw) e0 (g := (mkF m 31 #[.val (.long qv), .second] [])) rfl (hb hby d1_31) (by decide) (by decide)
    obtain ⟨b2, z2⟩ : ∃ z, z = h0.size := ⟨_, rfl⟩
    rw [← z2] at A2 D2 st2
    have g_b2 : n0 ≤ b2 := Nat.le_trans (own_n0 O0) (Nat.le_of_eq z2.symm)
    have s_b2 : h0.size ≤ b2 := Nat.le_trans (Keep.refl h0 []).1 (Nat.le_of_eq z2.symm)
    have O2 : Old Z n0 h2 := O0.ext E2
    have K2 : Keep h0 h2 [] := (Keep.refl h0 []).ext E2
    have f2_57 : Fld Z h2 b2 "java/math/BigDecimal" "intCompact" "J" (.long (0 : Int64)) := D2 (Or.inr (w57 hw)) (ty := .long) (by decide)
    have f2_60 : Fld Z h2 b2 "java/math/BigDecimal" "scale" "I" (.int (0 : Int32)) := D2 (Or.inr (w60 hw)) (ty := .int) (by decide)
    have f2_113 : Fld Z h2 b2 "java/math/BigDecimal" "precision" "I" (.int (0 : Int32)) := D2 (Or.inl (w113 hw)) (ty := .int) (by decide)
    have f2_115 : Fld Z h2 b2 "java/math/BigDecimal" "intVal" "Ljava/math/BigInteger;" .null := D2 (Or.inr (w115 hw)) (ty := (.object "java/math/BigInteger")) (by decide)
    refine Go.st st2 ?_
    show Go p e below _ (T2.setTop (mkF m 34 #[.val (.long qv), .second] [(.ref b2)]))
    refine Go.st (fun t k => XS.dup X2.here hx rfl (hb hby d1_34) rfl rfl k) ?_
    show Go p e below _ (T2.setTop (mkF m 35 #[.val (.long qv), .second] [(.ref b2), (.ref b2)]))
    refine Go.st (fun t k => XS.aconstNull X2.here hx rfl (hb hby d1_35) k) ?_
    show Go p e below _ (T2.setTop (mkF m 36 #[.val (.long qv), .second] [.null, (.ref b2), (.ref b2)]))
    refine Go.st (fun t k => XS.lloadN X2.here hx rfl (hb hby d1_36) rfl k) ?_
    show Go p e below _ (T2.setTop (mkF m 37 #[.val (.long qv), .second] [(.long qv), .null, (.ref b2), (.ref b2)]))
    refine Go.st (fun t k => XS.iconst X2.here hx rfl (hb hby d1_37) k) ?_
    show Go p e below _ (T2.setTop (mkF m 38 #[.val (.long qv), .second] [(.int (0 : Int32)), (.long qv), .null, (.ref b2), (.ref b2)]))
    refine Go.st (fun t k => XS.iconst X2.here hx rfl (hb hby d1_38) k) ?_
    show Go p e below _ (T2.setTop (mkF m 39 #[.val (.long qv), .second] [(.int (0 : Int32)), (.int (0 : Int32)), (.long qv), .null, (.ref b2), (.ref b2)]))
    obtain ⟨_, _, ⟨T3, L3, k3, n3⟩, -, X3, ⟨Lc3, hQ3, l3, y3, z3⟩, st3⟩ := X2.specialBack hx (y := (⟨"java/math/BigDecimal", "<init>", "(Ljava/math/BigInteger;JII)V"⟩ : MethodName)) rfl hown (mvT hZ (w102 hw)) (mvT hZ (w103 hw)) (mvT hZ (w104 hw)) (by decide) (backOf (W := 1) (rm18_1 l Z a0 hw [] b2 qv h2 n0 O2 A2 f2_60 g_b2 f2_113 f2_57 f2_115) hZ (w104 hw) (w2 hw) (by decide) (by decide)) (g := (mkF m 39 #[.val (.long qv), .second] [(.int (0 : Int32)), (.int (0 : Int32)), (.long qv), .null, (.ref b2), (.ref b2)])) rfl (by rw [hml]; rfl) (Steps.refl _) (a := b2) (argsL := [.null, (.long qv), (.int (0 : Int32)), (.int (0 : Int32))]) (rest := [(.ref b2)]) (lenOf pd_1 rfl) rfl (by show 2 * 0 + _ ≤ _; exact Nat.le_of_eq rfl) (hb hby d1_39) (fun vm₁ hw₁ => ⟨rfl, e2, (by decide : 1 + 0 ≤ _), (by decide : 5 + 0 ≤ _)⟩)
    dsimp only [Pt.U, Pt.locs, Pt.cells, Pt.slots] at X3 l3 y3 z3 st3 hQ3
    subst l3 y3 z3
    obtain ⟨rfl, M3, K3c, r3_0, r3_1, r3_2, r3_3⟩ := hQ3
    have N3 := Fr.app N0 M3
    have O3 : Old Z n0 T3.heap := O2.keep K3c (allS g_b2 all0)
    have K3 : Keep h0 T3.heap [] := K2.trans K3c (allS (Or.inr s_b2) all0)
    refine Go.tr st3 ?_
    show Go p e below _ (T3.setTop (mkF m 42 #[.val (.long qv), .second] [(.ref b2)]))
    obtain ⟨fs, hr, hrun, hended, hWd, hsame⟩ := X3.leave (v := some (.ref b2)) (fun h => by rw [Bd.returns] at h; cases h)
    refine ⟨_, _, ?_, hrun, hended, _, _, rfl, ?_, ⟨⟨_, rfl⟩, hWd, hsame.mono (by decide) (by decide)⟩⟩
    · exact own_retA X3 hx Bd.returns rfl rfl (hb hby d1_42) hr
    · show Q_rmV Z qv a2 k3 a4 a5 a6 a7 a8 a9 a10 a11 a12 a13 a14 h0 n0 _ T3.heap _
      exact ⟨b2, rfl, N3, K3, (A2.keep K3c), r3_0, r3_2⟩
  · refine Go.st (fun t k => XS.ifNo X0.here hx rfl (hb hby d1_3) rfl (Jvm.Free.XT.ll_lt_f hc1) k) ?_
    show Go p e below _ (s₁.setTop (mkF m 6 #[.val (.long qv), .second] []))
    refine Go.st (fun t k => XS.lloadN X0.here hx rfl (hb hby d1_6) rfl k) ?_
    show Go p e below _ (s₁.setTop (mkF m 7 #[.val (.long qv), .second] [(.long qv)]))
    obtain ⟨T4, X4, e4, st4⟩ := getS2 X0 hx hZ hown (host := "") (Or.inl (w4 hw)) Via.refl e0 (P2.ext O0.2) (g := (mkF m 7 #[.val (.long qv), .second] [(.long qv)])) rfl (hb hby d1_7)
    refine Go.st st4 ?_
    show Go p e below _ (T4.setTop (mkF m 10 #[.val (.long qv), .second] [(.ref a2), (.long qv)]))
    obtain ⟨cl5, Ar5, -, S5, M5, -, -⟩ := id (P3.ext O0.2)
    refine Go.st (fun t k => X4.arraylength hx (by rw [e4]; exact Ar5.1) (State.isArrayOf_alike hZ.alike Ar5.2.1) (g := (mkF m 10 #[.val (.long qv), .second] [(.ref a2), (.long qv)])) rfl rfl (hb hby d1_10) t k) ?_
    rw [len_of S5 M5]
    show Go p e below _ (T4.setTop (mkF m 11 #[.val (.long qv), .second] [(.int (11 : Int32)), (.long qv)]))
    refine Go.st (fun t k => XS.i2l X4.here hx rfl (hb hby d1_11) rfl k) ?_
    show Go p e below _ (T4.setTop (mkF m 12 #[.val (.long qv), .second] [(.long (11 : Int64)), (.long qv)]))
    refine Go.st (fun t k => Jvm.Free.XT.lcmp X4.here hx rfl (hb hby d1_12) rfl k) ?_
    show Go p e below _ (T4.setTop (mkF m 13 #[.val (.long qv), .second] [(.int (Jvm.Free.XT.cmpL qv (11 : Int64)))]))
    by_cases hc6 : qv < (11 : Int64)
    · refine Go.st (fun t k => XS.ifNo X4.here hx rfl (hb hby d1_13) rfl (Jvm.Free.XT.ll_ge_f hc6) k) ?_
      show Go p e below _ (T4.setTop (mkF m 16 #[.val (.long qv), .second] []))
      rcases own_0to10 qv hc1 hc6 with hq | hq | hq | hq | hq | hq | hq | hq | hq | hq | hq
      · refine Go.st (fun t k => castTop (g' := (mkF m 16 #[.val (.long (0 : Int64)), .second] [])) (by rw [hq]) k) ?_
        show Go p e below _ (T4.setTop (mkF m 16 #[.val (.long (0 : Int64)), .second] []))
        obtain ⟨T7, X7, e7, st7⟩ := getS2 X4 hx hZ hown (host := "") (Or.inl (w4 hw)) Via.refl e4 (P2.ext O0.2) (g := (mkF m 16 #[.val (.long (0 : Int64)), .second] [])) rfl (hb hby d1_16)
        refine Go.st st7 ?_
        show Go p e below _ (T7.setTop (mkF m 19 #[.val (.long (0 : Int64)), .second] [(.ref a2)]))
        refine Go.st (fun t k => XS.lloadN X7.here hx rfl (hb hby d1_19) rfl k) ?_
        show Go p e below _ (T7.setTop (mkF m 20 #[.val (.long (0 : Int64)), .second] [(.long (0 : Int64)), (.ref a2)]))
        refine Go.st (fun t k => XS.l2i X7.here hx rfl (hb hby d1_20) rfl k) ?_
        show Go p e below _ (T7.setTop (mkF m 21 #[.val (.long (0 : Int64)), .second] [(.int (0 : Int32)), (.ref a2)]))
        obtain ⟨cl8, Ar8, q8, S8, M8, H8, G8⟩ := id (P3.ext O0.2)
        have hin8 : ¬ ((0 : Int32) < 0 ∨ cl8.slots.size ≤ ((0 : Int32)).toNatClampNeg) := inb_of S8 ⟨by decide, by decide⟩
        have hat8 : cl8.slots[((0 : Int32)).toNatClampNeg]? = some (.ref a4) := H8.at hin8 rfl
        refine Go.st (fun t k => X7.aaload hx (j := (0 : Int32)) (v := (.ref a4)) (by rw [e7]; exact Ar8.1) (State.isArrayOf_alike hZ.alike Ar8.2.1) rfl Ar8.2.2 hin8 hat8 (g := (mkF m 21 #[.val (.long (0 : Int64)), .second] [(.int (0 : Int32)), (.ref a2)])) rfl rfl (hb hby d1_21) t k) ?_
        show Go p e below _ (T7.setTop (mkF m 22 #[.val (.long (0 : Int64)), .second] [(.ref a4)]))
        obtain ⟨fs, hr, hrun, hended, hWd, hsame⟩ := X7.leave (v := some (.ref a4)) (fun h => by rw [Bd.returns] at h; cases h)
        refine ⟨_, _, ?_, hrun, hended, _, _, rfl, ?_, ⟨⟨_, rfl⟩, hWd, hsame.mono (by decide) (by decide)⟩⟩
        · exact own_retA X7 hx Bd.returns rfl rfl (hb hby d1_22) hr
        · show Q_rmV Z qv a2 k3 a4 a5 a6 a7 a8 a9 a10 a11 a12 a13 a14 h0 n0 _ T7.heap _
          rw [e7]
          rw [hq]
          exact ⟨a4, rfl, N0, (Keep.refl h0 []), (P4.ext O0.2), (P5.ext O0.2), (P6.ext O0.2)⟩
      · refine Go.st (fun t k => castTop (g' := (mkF m 16 #[.val (.long (1 : Int64)), .second] [])) (by rw [hq]) k) ?_
        show Go p e below _ (T4.setTop (mkF m 16 #[.val (.long (1 : Int64)), .second] []))
        obtain ⟨T9, X9, e9, st9⟩ := getS2 X4 hx hZ hown (host := "") (Or.inl (w4 hw)) Via.refl e4 (P2.ext O0.2) (g := (mkF m 16 #[.val (.long (1 : Int64)), .second] [])) rfl (hb hby d1_16)
        refine Go.st st9 ?_
        show Go p e below _ (T9.setTop (mkF m 19 #[.val (.long (1 : Int64)), .second] [(.ref a2)]))
        refine Go.st (fun t k => XS.lloadN X9.here hx rfl (hb hby d1_19) rfl k) ?_
        show Go p e below _ (T9.setTop (mkF m 20 #[.val (.long (1 : Int64)), .second] [(.long (1 : Int64)), (.ref a2)]))
        refine Go.st (fun t k => XS.l2i X9.here hx rfl (hb hby d1_20) rfl k) ?_
        show Go p e below _ (T9.setTop (mkF m 21 #[.val (.long (1 : Int64)), .second] [(.int (1 : Int32)), (.ref a2)]))
        obtain ⟨cl10, Ar10, q10, S10, M10, H10, G10⟩ := id (P3.ext O0.2)
        have hin10 : ¬ ((1 : Int32) < 0 ∨ cl10.slots.size ≤ ((1 : Int32)).toNatClampNeg) := inb_of S10 ⟨by decide, by decide⟩
        have hat10 : cl10.slots[((1 : Int32)).toNatClampNeg]? = some (.ref a5) := H10.at hin10 rfl
        refine Go.st (fun t k => X9.aaload hx (j := (1 : Int32)) (v := (.ref a5)) (by rw [e9]; exact Ar10.1) (State.isArrayOf_alike hZ.alike Ar10.2.1) rfl Ar10.2.2 hin10 hat10 (g := (mkF m 21 #[.val (.long (1 : Int64)), .second] [(.int (1 : Int32)), (.ref a2)])) rfl rfl (hb hby d1_21) t k) ?_
        show Go p e below _ (T9.setTop (mkF m 22 #[.val (.long (1 : Int64)), .second] [(.ref a5)]))
        obtain ⟨fs, hr, hrun, hended, hWd, hsame⟩ := X9.leave (v := some (.ref a5)) (fun h => by rw [Bd.returns] at h; cases h)
        refine ⟨_, _, ?_, hrun, hended, _, _, rfl, ?_, ⟨⟨_, rfl⟩, hWd, hsame.mono (by decide) (by decide)⟩⟩
        · exact own_retA X9 hx Bd.returns rfl rfl (hb hby d1_22) hr
        · show Q_rmV Z qv a2 k3 a4 a5 a6 a7 a8 a9 a10 a11 a12 a13 a14 h0 n0 _ T9.heap _
          rw [e9]
          rw [hq]
          exact ⟨a5, rfl, N0, (Keep.refl h0 []), (P7.ext O0.2), (P8.ext O0.2), (P9.ext O0.2)⟩
      · refine Go.st (fun t k => castTop (g' := (mkF m 16 #[.val (.long (2 : Int64)), .second] [])) (by rw [hq]) k) ?_
        show Go p e below _ (T4.setTop (mkF m 16 #[.val (.long (2 : Int64)), .second] []))
        obtain ⟨T11, X11, e11, st11⟩ := getS2 X4 hx hZ hown (host := "") (Or.inl (w4 hw)) Via.refl e4 (P2.ext O0.2) (g := (mkF m 16 #[.val (.long (2 : Int64)), .second] [])) rfl (hb hby d1_16)
        refine Go.st st11 ?_
        show Go p e below _ (T11.setTop (mkF m 19 #[.val (.long (2 : Int64)), .second] [(.ref a2)]))
        refine Go.st (fun t k => XS.lloadN X11.here hx rfl (hb hby d1_19) rfl k) ?_
        show Go p e below _ (T11.setTop (mkF m 20 #[.val (.long (2 : Int64)), .second] [(.long (2 : Int64)), (.ref a2)]))
        refine Go.st (fun t k => XS.l2i X11.here hx rfl (hb hby d1_20) rfl k) ?_
        show Go p e below _ (T11.setTop (mkF m 21 #[.val (.long (2 : Int64)), .second] [(.int (2 : Int32)), (.ref a2)]))
        obtain ⟨cl12, Ar12, q12, S12, M12, H12, G12⟩ := id (P3.ext O0.2)
        have hin12 : ¬ ((2 : Int32) < 0 ∨ cl12.slots.size ≤ ((2 : Int32)).toNatClampNeg) := inb_of S12 ⟨by decide, by decide⟩
        have hat12 : cl12.slots[((2 : Int32)).toNatClampNeg]? = some (.ref a6) := H12.at hin12 rfl
        refine Go.st (fun t k => X11.aaload hx (j := (2 : Int32)) (v := (.ref a6)) (by rw [e11]; exact Ar12.1) (State.isArrayOf_alike hZ.alike Ar12.2.1) rfl Ar12.2.2 hin12 hat12 (g := (mkF m 21 #[.val (.long (2 : Int64)), .second] [(.int (2 : Int32)), (.ref a2)])) rfl rfl (hb hby d1_21) t k) ?_
        show Go p e below _ (T11.setTop (mkF m 22 #[.val (.long (2 : Int64)), .second] [(.ref a6)]))
        obtain ⟨fs, hr, hrun, hended, hWd, hsame⟩ := X11.leave (v := some (.ref a6)) (fun h => by rw [Bd.returns] at h; cases h)
        refine ⟨_, _, ?_, hrun, hended, _, _, rfl, ?_, ⟨⟨_, rfl⟩, hWd, hsame.mono (by decide) (by decide)⟩⟩
        · exact own_retA X11 hx Bd.returns rfl rfl (hb hby d1_22) hr
        · show Q_rmV Z qv a2 k3 a4 a5 a6 a7 a8 a9 a10 a11 a12 a13 a14 h0 n0 _ T11.heap _
          rw [e11]
          rw [hq]
          exact ⟨a6, rfl, N0, (Keep.refl h0 []), (P10.ext O0.2), (P11.ext O0.2), (P12.ext O0.2)⟩
      · refine Go.st (fun t k => castTop (g' := (mkF m 16 #[.val (.long (3 : Int64)), .second] [])) (by rw [hq]) k) ?_
        show Go p e below _ (T4.setTop (mkF m 16 #[.val (.long (3 : Int64)), .second] []))
        obtain ⟨T13, X13, e13, st13⟩ := getS2 X4 hx hZ hown (host := "") (Or.inl (w4 hw)) Via.refl e4 (P2.ext O0.2) (g := (mkF m 16 #[.val (.long (3 : Int64)), .second] [])) rfl (hb hby d1_16)
        refine Go.st st13 ?_
        show Go p e below _ (T13.setTop (mkF m 19 #[.val (.long (3 : Int64)), .second] [(.ref a2)]))
        refine Go.st (fun t k => XS.lloadN X13.here hx rfl (hb hby d1_19) rfl k) ?_
        show Go p e below _ (T13.setTop (mkF m 20 #[.val (.long (3 : Int64)), .second] [(.long (3 : Int64)), (.ref a2)]))
        refine Go.st (fun t k => XS.l2i X13.here hx rfl (hb hby d1_20) rfl k) ?_
        show Go p e below _ (T13.setTop (mkF m 21 #[.val (.long (3 : Int64)), .second] [(.int (3 : Int32)), (.ref a2)]))
        obtain ⟨cl14, Ar14, q14, S14, M14, H14, G14⟩ := id (P3.ext O0.2)
        have hin14 : ¬ ((3 : Int32) < 0 ∨ cl14.slots.size ≤ ((3 : Int32)).toNatClampNeg) := inb_of S14 ⟨by decide, by decide⟩
        have hat14 : cl14.slots[((3 : Int32)).toNatClampNeg]? = some (.ref a7) := H14.at hin14 rfl
        refine Go.st (fun t k => X13.aaload hx (j := (3 : Int32)) (v := (.ref a7)) (by rw [e13]; exact Ar14.1) (State.isArrayOf_alike hZ.alike Ar14.2.1) rfl Ar14.2.2 hin14 hat14 (g := (mkF m 21 #[.val (.long (3 : Int64)), .second] [(.int (3 : Int32)), (.ref a2)])) rfl rfl (hb hby d1_21) t k) ?_
        show Go p e below _ (T13.setTop (mkF m 22 #[.val (.long (3 : Int64)), .second] [(.ref a7)]))
        obtain ⟨fs, hr, hrun, hended, hWd, hsame⟩ := X13.leave (v := some (.ref a7)) (fun h => by rw [Bd.returns] at h; cases h)
        refine ⟨_, _, ?_, hrun, hended, _, _, rfl, ?_, ⟨⟨_, rfl⟩, hWd, hsame.mono (by decide) (by decide)⟩⟩
        · exact own_retA X13 hx Bd.returns rfl rfl (hb hby d1_22) hr
        · show Q_rmV Z qv a2 k3 a4 a5 a6 a7 a8 a9 a10 a11 a12 a13 a14 h0 n0 _ T13.heap _
          rw [e13]
          rw [hq]
          exact ⟨a7, rfl, N0, (Keep.refl h0 []), (P13.ext O0.2), (P14.ext O0.2), (P15.ext O0.2)⟩
      · refine Go.st (fun t k => castTop (g' := (mkF m 16 #[.val (.long (4 : Int64)), .second] [])) (by rw [hq]) k) ?_
        show Go p e below _ (T4.setTop (mkF m 16 #[.val (.long (4 : Int64)), .second] []))
        obtain ⟨T15, X15, e15, st15⟩ := getS2 X4 hx hZ hown (host := "") (Or.inl (w4 hw)) Via.refl e4 (P2.ext O0.2) (g := (mkF m 16 #[.val (.long (4 : Int64)), .second] [])) rfl (hb hby d1_16)
        refine Go.st st15 ?_
        show Go p e below _ (T15.setTop (mkF m 19 #[.val (.long (4 : Int64)), .second] [(.ref a2)]))
        refine Go.st (fun t k => XS.lloadN X15.here hx rfl (hb hby d1_19) rfl k) ?_
        show Go p e below _ (T15.setTop (mkF m 20 #[.val (.long (4 : Int64)), .second] [(.long (4 : Int64)), (.ref a2)]))
        refine Go.st (fun t k => XS.l2i X15.here hx rfl (hb hby d1_20) rfl k) ?_
        show Go p e below _ (T15.setTop (mkF m 21 #[.val (.long (4 : Int64)), .second] [(.int (4 : Int32)), (.ref a2)]))
        obtain ⟨cl16, Ar16, q16, S16, M16, H16, G16⟩ := id (P3.ext O0.2)
        have hin16 : ¬ ((4 : Int32) < 0 ∨ cl16.slots.size ≤ ((4 : Int32)).toNatClampNeg) := inb_of S16 ⟨by decide, by decide⟩
        have hat16 : cl16.slots[((4 : Int32)).toNatClampNeg]? = some (.ref a8) := H16.at hin16 rfl
        refine Go.st (fun t k => X15.aaload hx (j := (4 : Int32)) (v := (.ref a8)) (by rw [e15]; exact Ar16.1) (State.isArrayOf_alike hZ.alike Ar16.2.1) rfl Ar16.2.2 hin16 hat16 (g := (mkF m 21 #[.val (.long (4 : Int64)), .second] [(.int (4 : Int32)), (.ref a2)])) rfl rfl (hb hby d1_21) t k) ?_
        show Go p e below _ (T15.setTop (mkF m 22 #[.val (.long (4 : Int64)), .second] [(.ref a8)]))
        obtain ⟨fs, hr, hrun, hended, hWd, hsame⟩ := X15.leave (v := some (.ref a8)) (fun h => by rw [Bd.returns] at h; cases h)
        refine ⟨_, _, ?_, hrun, hended, _, _, rfl, ?_, ⟨⟨_, rfl⟩, hWd, hsame.mono (by decide) (by decide)⟩⟩
        · exact own_retA X15 hx Bd.returns rfl rfl (hb hby d1_22) hr
        · show Q_rmV Z qv a2 k3 a4 a5 a6 a7 a8 a9 a10 a11 a12 a13 a14 h0 n0 _ T15.heap _
          rw [e15]
          rw [hq]
          exact ⟨a8, rfl, N0, (Keep.refl h0 []), (P16.ext O0.2), (P17.ext O0.2), (P18.ext O0.2)⟩
      · refine Go.st (fun t k => castTop (g' := (mkF m 16 #[.val (.long (5 : Int64)), .second] [])) (by rw [hq]) k) ?_
        show Go p e below _ (T4.setTop (mkF m 16 #[.val (.long (5 : Int64)), .second] []))
        obtain ⟨T17, X17, e17, st17⟩ := getS2 X4 hx hZ hown (host := "") (Or.inl (w4 hw)) Via.refl e4 (P2.ext O0.2) (g := (mkF m 16 #[.val (.long (5 : Int64)), .second] [])) rfl (hb hby d1_16)
        refine Go.st st17 ?_
        show Go p e below _ (T17.setTop (mkF m 19 #[.val (.long (5 : Int64)), .second] [(.ref a2)]))
        refine Go.st (fun t k => XS.lloadN X17.here hx rfl (hb hby d1_19) rfl k) ?_
        show Go p e below _ (T17.setTop (mkF m 20 #[.val (.long (5 : Int64)), .second] [(.long (5 : Int64)), (.ref a2)]))
        refine Go.st (fun t k => XS.l2i X17.here hx rfl (hb hby d1_20) rfl k) ?_
        show Go p e below _ (T17.setTop (mkF m 21 #[.val (.long (5 : Int64)), .second] [(.int (5 : Int32)), (.ref a2)]))
        obtain ⟨cl18, Ar18, q18, S18, M18, H18, G18⟩ := id (P3.ext O0.2)
        have hin18 : ¬ ((5 : Int32) < 0 ∨ cl18.slots.size ≤ ((5 : Int32)).toNatClampNeg) := inb_of S18 ⟨by decide, by decide⟩
        have hat18 : cl18.slots[((5 : Int32)).toNatClampNeg]? = some (.ref a9) := H18.at hin18 rfl
        refine Go.st (fun t k => X17.aaload hx (j := (5 : Int32)) (v := (.ref a9)) (by rw [e17]; exact Ar18.1) (State.isArrayOf_alike hZ.alike Ar18.2.1) rfl Ar18.2.2 hin18 hat18 (g := (mkF m 21 #[.val (.long (5 : Int64)), .second] [(.int (5 : Int32)), (.ref a2)])) rfl rfl (hb hby d1_21) t k) ?_
        show Go p e below _ (T17.setTop (mkF m 22 #[.val (.long (5 : Int64)), .second] [(.ref a9)]))
        obtain ⟨fs, hr, hrun, hended, hWd, hsame⟩ := X17.leave (v := some (.ref a9)) (fun h => by rw [Bd.returns] at h; cases h)
        refine ⟨_, _, ?_, hrun, hended, _, _, rfl, ?_, ⟨⟨_, rfl⟩, hWd, hsame.mono (by decide) (by decide)⟩⟩
        · exact own_retA X17 hx Bd.returns rfl rfl (hb hby d1_22) hr
        · show Q_rmV Z qv a2 k3 a4 a5 a6 a7 a8 a9 a10 a11 a12 a13 a14 h0 n0 _ T17.heap _
          rw [e17]
          rw [hq]
          exact ⟨a9, rfl, N0, (Keep.refl h0 []), (P19.ext O0.2), (P20.ext O0.2), (P21.ext O0.2)⟩
      · refine Go.st (fun t k => castTop (g' := (mkF m 16 #[.val (.long (6 : Int64)), .second] [])) (by rw [hq]) k) ?_
        show Go p e below _ (T4.setTop (mkF m 16 #[.val (.long (6 : Int64)), .second] []))
        obtain ⟨T19, X19, e19, st19⟩ := getS2 X4 hx hZ hown (host := "") (Or.inl (w4 hw)) Via.refl e4 (P2.ext O0.2) (g := (mkF m 16 #[.val (.long (6 : Int64)), .second] [])) rfl (hb hby d1_16)
        refine Go.st st19 ?_
        show Go p e below _ (T19.setTop (mkF m 19 #[.val (.long (6 : Int64)), .second] [(.ref a2)]))
        refine Go.st (fun t k => XS.lloadN X19.here hx rfl (hb hby d1_19) rfl k) ?_
        show Go p e below _ (T19.setTop (mkF m 20 #[.val (.long (6 : Int64)), .second] [(.long (6 : Int64)), (.ref a2)]))
        refine Go.st (fun t k => XS.l2i X19.here hx rfl (hb hby d1_20) rfl k) ?_
        show Go p e below _ (T19.setTop (mkF m 21 #[.val (.long (6 : Int64)), .second] [(.int (6 : Int32)), (.ref a2)]))
        obtain ⟨cl20, Ar20, q20, S20, M20, H20, G20⟩ := id (P3.ext O0.2)
        have hin20 : ¬ ((6 : Int32) < 0 ∨ cl20.slots.size ≤ ((6 : Int32)).toNatClampNeg) := inb_of S20 ⟨by decide, by decide⟩
        have hat20 : cl20.slots[((6 : Int32)).toNatClampNeg]? = some (.ref a10) := H20.at hin20 rfl
        refine Go.st (fun t k => X19.aaload hx (j := (6 : Int32)) (v := (.ref a10)) (by rw [e19]; exact Ar20.1) (State.isArrayOf_alike hZ.alike Ar20.2.1) rfl Ar20.2.2 hin20 hat20 (g := (mkF m 21 #[.val (.long (6 : Int64)), .second] [(.int (6 : Int32)), (.ref a2)])) rfl rfl (hb hby d1_21) t k) ?_
        show Go p e below _ (T19.setTop (mkF m 22 #[.val (.long (6 : Int64)), .second] [(.ref a10)]))
        obtain ⟨fs, hr, hrun, hended, hWd, hsame⟩ := X19.leave (v := some (.ref a10)) (fun h => by rw [Bd.returns] at h; cases h)
        refine ⟨_, _, ?_, hrun, hended, _, _, rfl, ?_, ⟨⟨_, rfl⟩, hWd, hsame.mono (by decide) (by decide)⟩⟩
        · exact own_retA X19 hx Bd.returns rfl rfl (hb hby d1_22) hr
        · show Q_rmV Z qv a2 k3 a4 a5 a6 a7 a8 a9 a10 a11 a12 a13 a14 h0 n0 _ T19.heap _
          rw [e19]
          rw [hq]
          exact ⟨a10, rfl, N0, (Keep.refl h0 []), (P22.ext O0.2), (P23.ext O0.2), (P24.ext O0.2)⟩
      · refine Go.st (fun t k => castTop (g' := (mkF m 16 #[.val (.long (7 : Int64)), .second] [])) (by rw [hq]) k) ?_
        show Go p e below _ (T4.setTop (mkF m 16 #[.val (.long (7 : Int64)), .second] []))
        obtain ⟨T21, X21, e21, st21⟩ := getS2 X4 hx hZ hown (host := "") (Or.inl (w4 hw)) Via.refl e4 (P2.ext O0.2) (g := (mkF m 16 #[.val (.long (7 : Int64)), .second] [])) rfl (hb hby d1_16)
        refine Go.st st21 ?_
        show Go p e below _ (T21.setTop (mkF m 19 #[.val (.long (7 : Int64)), .second] [(.ref a2)]))
        refine Go.st (fun t k => XS.lloadN X21.here hx rfl (hb hby d1_19) rfl k) ?_
        show Go p e below _ (T21.setTop (mkF m 20 #[.val (.long (7 : Int64)), .second] [(.long (7 : Int64)), (.ref a2)]))
        refine Go.st (fun t k => XS.l2i X21.here hx rfl (hb hby d1_20) rfl k) ?_
        show Go p e below _ (T21.setTop (mkF m 21 #[.val (.long (7 : Int64)), .second] [(.int (7 : Int32)), (.ref a2)]))
        obtain ⟨cl22, Ar22, q22, S22, M22, H22, G22⟩ := id (P3.ext O0.2)
        have hin22 : ¬ ((7 : Int32) < 0 ∨ cl22.slots.size ≤ ((7 : Int32)).toNatClampNeg) := inb_of S22 ⟨by decide, by decide⟩
        have hat22 : cl22.slots[((7 : Int32)).toNatClampNeg]? = some (.ref a11) := H22.at hin22 rfl
        refine Go.st (fun t k => X21.aaload hx (j := (7 : Int32)) (v := (.ref a11)) (by rw [e21]; exact Ar22.1) (State.isArrayOf_alike hZ.alike Ar22.2.1) rfl Ar22.2.2 hin22 hat22 (g := (mkF m 21 #[.val (.long (7 : Int64)), .second] [(.int (7 : Int32)), (.ref a2)])) rfl rfl (hb hby d1_21) t k) ?_
        show Go p e below _ (T21.setTop (mkF m 22 #[.val (.long (7 : Int64)), .second] [(.ref a11)]))
        obtain ⟨fs, hr, hrun, hended, hWd, hsame⟩ := X21.leave (v := some (.ref a11)) (fun h => by rw [Bd.returns] at h; cases h)
        refine ⟨_, _, ?_, hrun, hended, _, _, rfl, ?_, ⟨⟨_, rfl⟩, hWd, hsame.mono (by decide) (by decide)⟩⟩
        · exact own_retA X21 hx Bd.returns rfl rfl (hb hby d1_22) hr
        · show Q_rmV Z qv a2 k3 a4 a5 a6 a7 a8 a9 a10 a11 a12 a13 a14 h0 n0 _ T21.heap _
          rw [e21]
          rw [hq]
          exact ⟨a11, rfl, N0, (Keep.refl h0 []), (P25.ext O0.2), (P26.ext O0.2), (P27.ext O0.2)⟩
      · refine Go.st (fun t k => castTop (g' := (mkF m 16 #[.val (.long (8 : Int64)), .second] [])) (by rw [hq]) k) ?_
        show Go p e below _ (T4.setTop (mkF m 16 #[.val (.long (8 : Int64)), .second] []))
        obtain ⟨T23, X23, e23, st23⟩ := getS2 X4 hx hZ hown (host := "") (Or.inl (w4 hw)) Via.refl e4 (P2.ext O0.2) (g := (mkF m 16 #[.val (.long (8 : Int64)), .second] [])) rfl (hb hby d1_16)
        refine Go.st st23 ?_
        show Go p e below _ (T23.setTop (mkF m 19 #[.val (.long (8 : Int64)), .second] [(.ref a2)]))
        refine Go.st (fun t k => XS.lloadN X23.here hx rfl (hb hby d1_19) rfl k) ?_
        show Go p e below _ (T23.setTop (mkF m 20 #[.val (.long (8 : Int64)), .second] [(.long (8 : Int64)), (.ref a2)]))
        refine Go.st (fun t k => XS.l2i X23.here hx rfl (hb hby d1_20) rfl k) ?_
        show Go p e below _ (T23.setTop (mkF m 21 #[.val (.long (8 : Int64)), .second] [(.int (8 : Int32)), (.ref a2)]))
        obtain ⟨cl24, Ar24, q24, S24, M24, H24, G24⟩ := id (P3.ext O0.2)
        have hin24 : ¬ ((8 : Int32) < 0 ∨ cl24.slots.size ≤ ((8 : Int32)).toNatClampNeg) := inb_of S24 ⟨by decide, by decide⟩
        have hat24 : cl24.slots[((8 : Int32)).toNatClampNeg]? = some (.ref a12) := H24.at hin24 rfl
        refine Go.st (fun t k => X23.aaload hx (j := (8 : Int32)) (v := (.ref a12)) (by rw [e23]; exact Ar24.1) (State.isArrayOf_alike hZ.alike Ar24.2.1) rfl Ar24.2.2 hin24 hat24 (g := (mkF m 21 #[.val (.long (8 : Int64)), .second] [(.int (8 : Int32)), (.ref a2)])) rfl rfl (hb hby d1_21) t k) ?_
        show Go p e below _ (T23.setTop (mkF m 22 #[.val (.long (8 : Int64)), .second] [(.ref a12)]))
        obtain ⟨fs, hr, hrun, hended, hWd, hsame⟩ := X23.leave (v := some (.ref a12)) (fun h => by rw [Bd.returns] at h; cases h)
        refine ⟨_, _, ?_, hrun, hended, _, _, rfl, ?_, ⟨⟨_, rfl⟩, hWd, hsame.mono (by decide) (by decide)⟩⟩
        · exact own_retA X23 hx Bd.returns rfl rfl (hb hby d1_22) hr
        · show Q_rmV Z qv a2 k3 a4 a5 a6 a7 a8 a9 a10 a11 a12 a13 a14 h0 n0 _ T23.heap _
          rw [e23]
          rw [hq]
          exact ⟨a12, rfl, N0, (Keep.refl h0 []), (P28.ext O0.2), (P29.ext O0.2), (P30.ext O0.2)⟩
      · refine Go.st (fun t k => castTop (g' := (mkF m 16 #[.val (.long (9 : Int64)), .second] [])) (by rw [hq]) k) ?_
        show Go p e below _ (T4.setTop (mkF m 16 #[.val (.long (9 : Int64)), .second] []))
        obtain ⟨T25, X25, e25, st25⟩ := getS2 X4 hx hZ hown (host := "") (Or.inl (w4 hw)) Via.refl e4 (P2.ext O0.2) (g := (mkF m 16 #[.val (.long (9 : Int64)), .second] [])) rfl (hb hby d1_16)
        refine Go.st st25 ?_
        show Go p e below _ (T25.setTop (mkF m 19 #[.val (.long (9 : Int64)), .second] [(.ref a2)]))
        refine Go.st (fun t k => XS.lloadN X25.here hx rfl (hb hby d1_19) rfl k) ?_
        show Go p e below _ (T25.setTop (mkF m 20 #[.val (.long (9 : Int64)), .second] [(.long (9 : Int64)), (.ref a2)]))
        refine Go.st (fun t k => XS.l2i X25.here hx rfl (hb hby d1_20) rfl k) ?_
        show Go p e below _ (T25.setTop (mkF m 21 #[.val (.long (9 : Int64)), .second] [(.int (9 : Int32)), (.ref a2)]))
        obtain ⟨cl26, Ar26, q26, S26, M26, H26, G26⟩ := id (P3.ext O0.2)
        have hin26 : ¬ ((9 : Int32) < 0 ∨ cl26.slots.size ≤ ((9 : Int32)).toNatClampNeg) := inb_of S26 ⟨by decide, by decide⟩
        have hat26 : cl26.slots[((9 : Int32)).toNatClampNeg]? = some (.ref a13) := H26.at hin26 rfl
        refine Go.st (fun t k => X25.aaload hx (j := (9 : Int32)) (v := (.ref a13)) (by rw [e25]; exact Ar26.1) (State.isArrayOf_alike hZ.alike Ar26.2.1) rfl Ar26.2.2 hin26 hat26 (g := (mkF m 21 #[.val (.long (9 : Int64)), .second] [(.int (9 : Int32)), (.ref a2)])) rfl rfl (hb hby d1_21) t k) ?_
        show Go p e below _ (T25.setTop (mkF m 22 #[.val (.long (9 : Int64)), .second] [(.ref a13)]))
        obtain ⟨fs, hr, hrun, hended, hWd, hsame⟩ := X25.leave (v := some (.ref a13)) (fun h => by rw [Bd.returns] at h; cases h)
        refine ⟨_, _, ?_, hrun, hended, _, _, rfl, ?_, ⟨⟨_, rfl⟩, hWd, hsame.mono (by decide) (by decide)⟩⟩
        · exact own_retA X25 hx Bd.returns rfl rfl (hb hby d1_22) hr
        · show Q_rmV Z qv a2 k3 a4 a5 a6 a7 a8 a9 a10 a11 a12 a13 a14 h0 n0 _ T25.heap _
          rw [e25]
          rw [hq]
          exact ⟨a13, rfl, N0, (Keep.refl h0 []), (P31.ext O0.2), (P32.ext O0.2), (P33.ext O0.2)⟩
      · refine Go.st (fun t k => castTop (g' := (mkF m 16 #[.val (.long (10 : Int64)), .second] [])) (by rw [hq]) k) ?_
        show Go p e below _ (T4.setTop (mkF m 16 #[.val (.long (10 : Int64)), .second] []))
        obtain ⟨T27, X27, e27, st27⟩ := getS2 X4 hx hZ hown (host := "") (Or.inl (w4 hw)) Via.refl e4 (P2.ext O0.2) (g := (mkF m 16 #[.val (.long (10 : Int64)), .second] [])) rfl (hb hby d1_16)
        refine Go.st st27 ?_
        show Go p e below _ (T27.setTop (mkF m 19 #[.val (.long (10 : Int64)), .second] [(.ref a2)]))
        refine Go.st (fun t k => XS.lloadN X27.here hx rfl (hb hby d1_19) rfl k) ?_
        show Go p e below _ (T27.setTop (mkF m 20 #[.val (.long (10 : Int64)), .second] [(.long (10 : Int64)), (.ref a2)]))
        refine Go.st (fun t k => XS.l2i X27.here hx rfl (hb hby d1_20) rfl k) ?_
        show Go p e below _ (T27.setTop (mkF m 21 #[.val (.long (10 : Int64)), .second] [(.int (10 : Int32)), (.ref a2)]))
        obtain ⟨cl28, Ar28, q28, S28, M28, H28, G28⟩ := id (P3.ext O0.2)
        have hin28 : ¬ ((10 : Int32) < 0 ∨ cl28.slots.size ≤ ((10 : Int32)).toNatClampNeg) := inb_of S28 ⟨by decide, by decide⟩
        have hat28 : cl28.slots[((10 : Int32)).toNatClampNeg]? = some (.ref a14) := H28.at hin28 rfl
        refine Go.st (fun t k => X27.aaload hx (j := (10 : Int32)) (v := (.ref a14)) (by rw [e27]; exact Ar28.1) (State.isArrayOf_alike hZ.alike Ar28.2.1) rfl Ar28.2.2 hin28 hat28 (g := (mkF m 21 #[.val (.long (10 : Int64)), .second] [(.int (10 : Int32)), (.ref a2)])) rfl rfl (hb hby d1_21) t k) ?_
        show Go p e below _ (T27.setTop (mkF m 22 #[.val (.long (10 : Int64)), .second] [(.ref a14)]))
        obtain ⟨fs, hr, hrun, hended, hWd, hsame⟩ := X27.leave (v := some (.ref a14)) (fun h => by rw [Bd.returns] at h; cases h)
        refine ⟨_, _, ?_, hrun, hended, _, _, rfl, ?_, ⟨⟨_, rfl⟩, hWd, hsame.mono (by decide) (by decide)⟩⟩
        · exact own_retA X27 hx Bd.returns rfl rfl (hb hby d1_22) hr
        · show Q_rmV Z qv a2 k3 a4 a5 a6 a7 a8 a9 a10 a11 a12 a13 a14 h0 n0 _ T27.heap _
          rw [e27]
          rw [hq]
          exact ⟨a14, rfl, N0, (Keep.refl h0 []), (P34.ext O0.2), (P35.ext O0.2), (P36.ext O0.2)⟩
    · refine Go.st (fun t k => XS.ifYes X4.here hx rfl (pc0 := 13) (pc' := 23) rfl (hb hby d1_13) rfl (Jvm.Free.XT.ll_ge_t hc6) (by decide) (by decide) k) ?_
      show Go p e below _ (T4.setTop (mkF m 23 #[.val (.long qv), .second] []))
      refine Go.st (fun t k => XS.lloadN X4.here hx rfl (hb hby d1_23) rfl k) ?_
      show Go p e below _ (T4.setTop (mkF m 24 #[.val (.long qv), .second] [(.long qv)]))
      refine Go.st (fun t k => X4.ldc2J hx hown (mvT hZ (w58 hw)) (g := (mkF m 24 #[.val (.long qv), .second] [(.long qv)])) rfl (hb hby d1_24) k) ?_
      show Go p e below _ (T4.setTop (mkF m 27 #[.val (.long qv), .second] [(.long (-9223372036854775808 : Int64)), (.long qv)]))
      refine Go.st (fun t k => Jvm.Free.XT.lcmp X4.here hx rfl (hb hby d1_27) rfl k) ?_
      show Go p e below _ (T4.setTop (mkF m 28 #[.val (.long qv), .second] [(.int (Jvm.Free.XT.cmpL qv (-9223372036854775808 : Int64)))]))
      refine Go.st (fun t k => XS.ifNo X4.here hx rfl (hb hby d1_28) rfl (Jvm.Free.XT.ll_eq_f P_lim) k) ?_
      show Go p e below _ (T4.setTop (mkF m 31 #[.val (.long qv), .second] []))
      obtain ⟨T29, h29, X29, e29, E29, A29, D29, -, st29⟩ := newO X4 hx hZ hown (w94 hw) (w101 hw) (w2 hw) e4 (g := (mkF m 31 #[.val (.long qv), .second] [])) rfl (hb hby d1_31) (by decide) (by decide)
      obtain ⟨b29, z29⟩ : ∃ z, z = h0.size := ⟨_, rfl⟩
      rw [← z29] at A29 D29 st29
      have g_b29 : n0 ≤ b29 := Nat.le_trans (own_n0 O0) (Nat.le_of_eq z29.symm)
      have s_b29 : h0.size ≤ b29 := Nat.le_trans (Keep.refl h0 []).1 (Nat.le_of_eq z29.symm)
      have O29 : Old Z n0 h29 := O0.ext E29
      have K29 : Keep h0 h29 [] := (Keep.refl h0 []).ext E29
      have f29_57 : Fld Z h29 b29 "java/math/BigDecimal" "intCompact" "J" (.long (0 : Int64)) := D29 (Or.inr (w57 hw)) (ty := .long) (by decide)
      have f29_60 : Fld Z h29 b29 "java/math/BigDecimal" "scale" "I" (.int (0 : Int32)) := D29 (Or.inr (w60 hw)) (ty := .int) (by decide)
      have f29_113 : Fld Z h29 b29 "java/math/BigDecimal" "precision" "I" (.int (0 : Int32)) := D29 (Or.inl (w113 hw)) (ty := .int) (by decide)
      have f29_115 : Fld Z h29 b29 "java/math/BigDecimal" "intVal" "Ljava/math/BigInteger;" .null := D29 (Or.inr (w115 hw)) (ty := (.object "java/math/BigInteger")) (by decide)
      refine Go.st st29 ?_
      show Go p e below _ (T29.setTop (mkF m 34 #[.val (.long qv), .second] [(.ref b29)]))
      refine Go.st (fun t k => XS.dup X29.here hx rfl (hb hby d1_34) rfl rfl k) ?_
      show Go p e below _ (T29.setTop (mkF m 35 #[.val (.long qv), .second] [(.ref b29), (.ref b29)]))
      refine Go.st (fun t k => XS.aconstNull X29.here hx rfl (hb hby d1_35) k) ?_
      show Go p e below _ (T29.setTop (mkF m 36 #[.val (.long qv), .second] [.null, (.ref b29), (.ref b29)]))
      refine Go.st (fun t k => XS.lloadN X29.here hx rfl (hb hby d1_36) rfl k) ?_
      show Go p e below _ (T29.setTop (mkF m 37 #[.val (.long qv), .second] [(.long qv), .null, (.ref b29), (.ref b29)]))
      refine Go.st (fun t k => XS.iconst X29.here hx rfl (hb hby d1_37) k) ?_
      show Go p e below _ (T29.setTop (mkF m 38 #[.val (.long qv), .second] [(.int (0 : Int32)), (.long qv), .null, (.ref b29), (.ref b29)]))
      refine Go.st (fun t k => XS.iconst X29.here hx rfl (hb hby d1_38) k) ?_
      show Go p e below _ (T29.setTop (mkF m 39 #[.val (.long qv), .second] [(.int (0 : Int32)), (.int (0 : Int32)), (.long qv), .null, (.ref b29), (.ref b29)]))
      obtain ⟨_, _, ⟨T30, L30, k30, n30⟩, -, X30, ⟨Lc30, hQ30, l30, y30, z30⟩, st30⟩ := X29.specialBack hx (y := (⟨"java/math/BigDecimal", "<init>", "(Ljava/math/BigInteger;JII)V"⟩ : MethodName)) rfl hown (mvT hZ (w102 hw)) (mvT hZ (w103 hw)) (mvT hZ (w104 hw)) (by decide) (backOf (W := 1) (rm18_1 l Z a0 hw [] b29 qv h29 n0 O29 A29 f29_60 g_b29 f29_113 f29_57 f29_115) hZ (w104 hw) (w2 hw) (by decide) (by decide)) (g := (mkF m 39 #[.val (.long qv), .second] [(.int (0 : Int32)), (.int (0 : Int32)), (.long qv), .null, (.ref b29), (.ref b29)])) rfl (by rw [hml]; rfl) (Steps.refl _) (a := b29) (argsL := [.null, (.long qv), (.int (0 : Int32)), (.int (0 : Int32))]) (rest := [(.ref b29)]) (lenOf pd_1 rfl) rfl (by show 2 * 0 + _ ≤ _; exact Nat.le_of_eq rfl) (hb hby d1_39) (fun vm₁ hw₁ => ⟨rfl, e29, (by decide : 1 + 0 ≤ _), (by decide : 5 + 0 ≤ _)⟩)
      dsimp only [Pt.U, Pt.locs, Pt.cells, Pt.slots] at X30 l30 y30 z30 st30 hQ30
      subst l30 y30 z30
      obtain ⟨rfl, M30, K30c, r30_0, r30_1, r30_2, r30_3⟩ := hQ30
      have N30 := Fr.app N0 M30
      have O30 : Old Z n0 T30.heap := O29.keep K30c (allS g_b29 all0)
      have K30 : Keep h0 T30.heap [] := K29.trans K30c (allS (Or.inr s_b29) all0)
      refine Go.tr st30 ?_
      show Go p e below _ (T30.setTop (mkF m 42 #[.val (.long qv), .second] [(.ref b29)]))
      obtain ⟨fs, hr, hrun, hended, hWd, hsame⟩ := X30.leave (v := some (.ref b29)) (fun h => by rw [Bd.returns] at h; cases h)
      refine ⟨_, _, ?_, hrun, hended, _, _, rfl, ?_, ⟨⟨_, rfl⟩, hWd, hsame.mono (by decide) (by decide)⟩⟩
      · exact own_retA X30 hx Bd.returns rfl rfl (hb hby d1_42) hr
      · show Q_rmV Z qv a2 k3 a4 a5 a6 a7 a8 a9 a10 a11 a12 a13 a14 h0 n0 _ T30.heap _
        exact ⟨b29, rfl, N30, K30, (A29.keep K30c), r30_0, r30_2⟩
def Q_rm3_1 (Z : State) (a1 : Addr) (h0 : Heap) (n0 : Nat) (v : Option Value) (h : Heap) (L : List Loc) : Prop := v = none ∧ Fr n0 L ∧ h = h0
set_option maxRecDepth 65536 in
set_option maxHeartbeats 40000000 in
theorem rm3_1 (l : Launch) (Z : State) (a0 : Array Value) (hw : ∀ d ∈ tables_1, d.before a0 Z = true) (ws : List Jvm.Cond) (a1 : Addr) (h0 : Heap) (n0 : Nat) (O0 : Old Z n0 h0) :
    MetFree l (⟨"java/lang/Record", "<init>", "()V"⟩ : MethodName) (head1 (Jvm.Cond.code (⟨"java/lang/Record", "<init>", "()V"⟩ : MethodName) jdk_30_method_1_code 1 none :: ws) ({ frames := 1, cells := 0, slots := 0, locals := 12 } : Room)) (fun a U => a = #[(.ref a1)] ∧ Z.Warmed39 U.vm ∧ U.heap = h0) (fun _ _ _ _ _ => True) (fun _ U o U' => ∃ v L, o = .returned v ∧ Q_rm3_1 Z a1 h0 n0 v U'.heap L ∧ FrameEnd U o U' L ({ frames := 1, cells := 0, slots := 0, locals := 12 } : Room).cells ({ frames := 1, cells := 0, slots := 0, locals := 12 } : Room).slots) := by
  refine MetFree.of_bodySF (plainFor_of_name pn_2) hisR ?_
  intro p e s m args below meth c s₁ Bd hml0 hP hK
  obtain ⟨rfl, hZ, hh⟩ := hP
  have hx := Bd.exec
  have hby := Bd.bytes
  have hml : c.maxLocals = 1 := hml0
  have hown : s.vm.findClass "java/lang/Record" = some m.cls := findClass_of_methodNamed Bd.named
  have hnm := (name_of_methodNamed Bd.named Bd.method).1
  have X0 : Stand p l e ({ frames := 1, cells := 0, slots := 0, locals := 12 } : Room) s m #[(.ref a1)] below meth c s₁ [] 0 0 := Stand.of_body Bd
  have e0 : s₁.heap = h0 := by rw [← hh, Bd.state]; rfl
  have N0 := Fr.nil n0
  refine Go.start (P := (fun o U' => ∃ v L, o = .returned v ∧ Q_rm3_1 Z a1 h0 n0 v U'.heap L ∧ FrameEnd s o U' L ({ frames := 1, cells := 0, slots := 0, locals := 12 } : Room).cells ({ frames := 1, cells := 0, slots := 0, locals := 12 } : Room).slots)) (castTop (g' := (mkF m 0 #[.val (.ref a1)] [])) (by first | rfl | simp [entryFrame, mkF, argsToLocals, Value.category]) (T := s₁)) ?_
  refine Go.st (fun t k => XS.aloadN X0.here hx rfl (hb hby d3_0) rfl rfl k) ?_
  show Go p e below _ (s₁.setTop (mkF m 1 #[.val (.ref a1)] [(.ref a1)]))
  obtain ⟨T1, X1, e1, st1⟩ := initO X0 hx hZ hown (w16 hw) (w17 hw) (w18 hw) e0 (g := (mkF m 1 #[.val (.ref a1)] [(.ref a1)])) rfl (by rw [hml]; rfl) rfl (hb hby d3_1) (by decide) (W := 0) (by show 2 * 0 + _ ≤ _; exact Nat.le_of_eq rfl) (by decide)
  refine Go.st st1 ?_
  show Go p e below _ (T1.setTop (mkF m 4 #[.val (.ref a1)] []))
  obtain ⟨fs, hr, hrun, hended, hWd, hsame⟩ := X1.leave (v := none) (fun _ => rfl)
  refine ⟨_, _, ?_, hrun, hended, _, _, rfl, ?_, ⟨⟨_, rfl⟩, hWd, hsame.mono (by decide) (by decide)⟩⟩
  · exact X1.returnOut hx Bd.returns (hb hby d3_4) hr
  · show Q_rm3_1 Z a1 h0 n0 _ T1.heap _
    rw [e1]
    exact ⟨rfl, N0, rfl⟩
def Q_rm2_1 (Z : State) (a1 : Addr) (a2 : Addr) (a3 : Addr) (h0 : Heap) (n0 : Nat) (v : Option Value) (h : Heap) (L : List Loc) : Prop := v = none ∧ Fr n0 L ∧ Keep h0 h [a1] ∧ Fld Z h a1 "com/example/cropmark/cropmark/Weights" "edibleLb" "Ljava/math/BigDecimal;" (.ref a2) ∧ Fld Z h a1 "com/example/cropmark/cropmark/Weights" "inedibleLb" "Ljava/math/BigDecimal;" .null ∧ Fld Z h a1 "com/example/cropmark/cropmark/Weights" "factor" "Ljava/math/BigDecimal;" .null ∧ Fld Z h a1 "com/example/cropmark/cropmark/Weights" "assessedLb" "Ljava/math/BigDecimal;" (.ref a3)
set_option maxRecDepth 65536 in
set_option maxHeartbeats 40000000 in
theorem rm2_1 (l : Launch) (Z : State) (a0 : Array Value) (hw : ∀ d ∈ tables_1, d.before a0 Z = true) (ws : List Jvm.Cond) (a1 : Addr) (a2 : Addr) (a3 : Addr) (h0 : Heap) (n0 : Nat) (O0 : Old Z n0 h0) (P1 : Exa Z h0 a1 "com/example/cropmark/cropmark/Weights") (P2 : Fld Z h0 a1 "com/example/cropmark/cropmark/Weights" "edibleLb" "Ljava/math/BigDecimal;" .null) (P3 : n0 ≤ a1) (P4 : Fld Z h0 a1 "com/example/cropmark/cropmark/Weights" "inedibleLb" "Ljava/math/BigDecimal;" .null) (P5 : Fld Z h0 a1 "com/example/cropmark/cropmark/Weights" "factor" "Ljava/math/BigDecimal;" .null) (P6 : Fld Z h0 a1 "com/example/cropmark/cropmark/Weights" "assessedLb" "Ljava/math/BigDecimal;" .null) :
    MetFree l (⟨"com/example/cropmark/cropmark/Weights", "<init>", "(Ljava/math/BigDecimal;Ljava/math/BigDecimal;Ljava/math/BigDecimal;Ljava/math/BigDecimal;)V"⟩ : MethodName) (head1 (Jvm.Cond.code (⟨"com/example/cropmark/cropmark/Weights", "<init>", "(Ljava/math/BigDecimal;Ljava/math/BigDecimal;Ljava/math/BigDecimal;Ljava/math/BigDecimal;)V"⟩ : MethodName) prog_92_method_2_code 5 none :: ws) ({ frames := 2, cells := 0, slots := 0, locals := 24 } : Room)) (fun a U => a = #[(.ref a1), (.ref a2), .null, .null, (.ref a3)] ∧ Z.Warmed39 U.vm ∧ U.heap = h0) (fun _ _ _ _ _ => True) (fun _ U o U' => ∃ v L, o = .returned v ∧ Q_rm2_1 Z a1 a2 a3 h0 n0 v U'.heap L ∧ FrameEnd U o U' L ({ frames := 2, cells := 0, slots := 0, locals := 24 } : Room).cells ({ frames := 2, cells := 0, slots := 0, locals := 24 } : Room).slots) := by
  refine MetFree.of_bodySF (plainFor_of_name pn_3) hisR ?_
  intro p e s m args below meth c s₁ Bd hml0 hP hK
  obtain ⟨rfl, hZ, hh⟩ := hP
  have hx := Bd.exec
  have hby := Bd.bytes
  have hml : c.maxLocals = 5 := hml0
  have hown : s.vm.findClass "com/example/cropmark/cropmark/Weights" = some m.cls := findClass_of_methodNamed Bd.named
  have hnm := (name_of_methodNamed Bd.named Bd.method).1
  have X0 : Stand p l e ({ frames := 2, cells := 0, slots := 0, locals := 24 } : Room) s m #[(.ref a1), (.ref a2), .null, .null, (.ref a3)] below meth c s₁ [] 0 0 := Stand.of_body Bd
  have e0 : s₁.heap = h0 := by rw [← hh, Bd.state]; rfl
  have N0 := Fr.nil n0
  refine Go.start (P := (fun o U' => ∃ v L, o = .returned v ∧ Q_rm2_1 Z a1 a2 a3 h0 n0 v U'.heap L ∧ FrameEnd s o U' L ({ frames := 2, cells := 0, slots := 0, locals := 24 } : Room).cells ({ frames := 2, cells := 0, slots := 0, locals := 24 } : Room).slots)) (castTop (g' := (mkF m 0 #[.val (.ref a1), .val (.ref a2), .val .null, .val .null, .val (.ref a3)] [])) (by first | rfl | simp [entryFrame, mkF, argsToLocals, Value.category]) (T := s₁)) ?_
  refine Go.st (fun t k => XS.aloadN X0.here hx rfl (hb hby d2_0) rfl rfl k) ?_
  show Go p e below _ (s₁.setTop (mkF m 1 #[.val (.ref a1), .val (.ref a2), .val .null, .val .null, .val (.ref a3)] [(.ref a1)]))
  obtain ⟨_, _, ⟨T1, L1, k1, n1⟩, -, X1, ⟨Lc1, hQ1, l1, y1, z1⟩, st1⟩ := X0.specialBack hx (y := (⟨"java/lang/Record", "<init>", "()V"⟩ : MethodName)) rfl hown (mvT hZ (w11 hw)) (mvT hZ (w12 hw)) (mvT hZ (w15 hw)) (by decide) (backOf (W := 0) (rm3_1 l Z a0 hw [] a1 h0 n0 O0 ) hZ (w15 hw) (w14 hw) (by decide) (by decide)) (g := (mkF m 1 #[.val (.ref a1), .val (.ref a2), .val .null, .val .null, .val (.ref a3)] [(.ref a1)])) rfl (by rw [hml]; rfl) (Steps.refl _) (a := a1) (argsL := []) (rest := []) (lenOf pd_0 rfl) rfl (by show 2 * 0 + _ ≤ _; exact Nat.le_of_eq rfl) (hb hby d2_1) (fun vm₁ hw₁ => ⟨rfl, e0, (by decide : 0 + 0 ≤ _), (by decide : 0 + 0 ≤ _)⟩)
  dsimp only [Pt.U, Pt.locs, Pt.cells, Pt.slots] at X1 l1 y1 z1 st1 hQ1
  subst l1 y1 z1
  obtain ⟨rfl, M1, eh1⟩ := hQ1
  have N1 := Fr.app N0 M1
  refine Go.tr st1 ?_
  show Go p e below _ (T1.setTop (mkF m 4 #[.val (.ref a1), .val (.ref a2), .val .null, .val .null, .val (.ref a3)] []))
  refine Go.st (fun t k => XS.aloadN X1.here hx rfl (hb hby d2_4) rfl rfl k) ?_
  show Go p e below _ (T1.setTop (mkF m 5 #[.val (.ref a1), .val (.ref a2), .val .null, .val .null, .val (.ref a3)] [(.ref a1)]))
  refine Go.st (fun t k => XS.aloadN X1.here hx rfl (hb hby d2_5) rfl rfl k) ?_
  show Go p e below _ (T1.setTop (mkF m 6 #[.val (.ref a1), .val (.ref a2), .val .null, .val .null, .val (.ref a3)] [(.ref a2), (.ref a1)]))
  obtain ⟨T2, h2, X2, e2, W2, st2⟩ := putF X1 hx hZ hown (host := "") (Or.inl (w19 hw)) Via.refl eh1 P2 P1 (Or.inr ⟨(w20 hw), rfl, hnm⟩) (w6 hw) (ty := (.object "java/math/BigDecimal")) (by decide) rfl rfl (g := (mkF m 6 #[.val (.ref a1), .val (.ref a2), .val .null, .val .null, .val (.ref a3)] [(.ref a2), (.ref a1)])) rfl rfl (hb hby d2_6)
  have F2 : Fld Z h2 a1 "com/example/cropmark/cropmark/Weights" "edibleLb" "Ljava/math/BigDecimal;" (.ref a2) := P2.same W2
  have N2 := Fr.snoc X2 N1 P3
  have O2 : Old Z n0 h2 := O0.wr W2 P3
  have K2 : Keep h0 h2 [a1] := (Keep.refl h0 [a1]).wr W2 (Or.inl (List.mem_of_getElem? (i := 0) rfl))
  refine Go.st st2 ?_
  show Go p e below _ (T2.setTop (mkF m 9 #[.val (.ref a1), .val (.ref a2), .val .null, .val .null, .val (.ref a3)] []))
  refine Go.st (fun t k => XS.aloadN X2.here hx rfl (hb hby d2_9) rfl rfl k) ?_
  show Go p e below _ (T2.setTop (mkF m 10 #[.val (.ref a1), .val (.ref a2), .val .null, .val .null, .val (.ref a3)] [(.ref a1)]))
  refine Go.st (fun t k => XS.aloadN X2.here hx rfl (hb hby d2_10) rfl rfl k) ?_
  show Go p e below _ (T2.setTop (mkF m 11 #[.val (.ref a1), .val (.ref a2), .val .null, .val .null, .val (.ref a3)] [.null, (.ref a1)]))
  have c3 := (P4.other W2 (Or.inr (slot_ne (Or.inr (w22 hw)) (Or.inr (w20 hw)) (by decide) (t := (.object "java/math/BigDecimal")) (t' := (.object "java/math/BigDecimal")) (by decide) (by decide))))
  obtain ⟨T4, h4, X4, e4, W4, st4⟩ := putF X2 hx hZ hown (host := "") (Or.inl (w21 hw)) Via.refl e2 c3 (P1.wr W2) (Or.inr ⟨(w22 hw), rfl, hnm⟩) (w6 hw) (ty := (.object "java/math/BigDecimal")) (by decide) rfl rfl (g := (mkF m 11 #[.val (.ref a1), .val (.ref a2), .val .null, .val .null, .val (.ref a3)] [.null, (.ref a1)])) rfl rfl (hb hby d2_11)
  have F4 : Fld Z h4 a1 "com/example/cropmark/cropmark/Weights" "inedibleLb" "Ljava/math/BigDecimal;" .null := c3.same W4
  have N4 := Fr.snoc X4 N2 P3
  have O4 : Old Z n0 h4 := O2.wr W4 P3
  have K4 : Keep h0 h4 [a1] := K2.wr W4 (Or.inl (List.mem_of_getElem? (i := 0) rfl))
  refine Go.st st4 ?_
  show Go p e below _ (T4.setTop (mkF m 14 #[.val (.ref a1), .val (.ref a2), .val .null, .val .null, .val (.ref a3)] []))
  refine Go.st (fun t k => XS.aloadN X4.here hx rfl (hb hby d2_14) rfl rfl k) ?_
  show Go p e below _ (T4.setTop (mkF m 15 #[.val (.ref a1), .val (.ref a2), .val .null, .val .null, .val (.ref a3)] [(.ref a1)]))
  refine Go.st (fun t k => XS.aloadN X4.here hx rfl (hb hby d2_15) rfl rfl k) ?_
  show Go p e below _ (T4.setTop (mkF m 16 #[.val (.ref a1), .val (.ref a2), .val .null, .val .null, .val (.ref a3)] [.null, (.ref a1)]))
  have c5 := ((P5.other W2 (Or.inr (slot_ne (Or.inr (w24 hw)) (Or.inr (w20 hw)) (by decide) (t := (.object "java/math/BigDecimal")) (t' := (.object "java/math/BigDecimal")) (by decide) (by decide)))).other W4 (Or.inr (slot_ne (Or.inr (w24 hw)) (Or.inr (w22 hw)) (by decide) (t := (.object "java/math/BigDecimal")) (t' := (.object "java/math/BigDecimal")) (by decide) (by decide))))
  obtain ⟨T6, h6, X6, e6, W6, st6⟩ := putF X4 hx hZ hown (host := "") (Or.inl (w23 hw)) Via.refl e4 c5 ((P1.wr W2).wr W4) (Or.inr ⟨(w24 hw), rfl, hnm⟩) (w6 hw) (ty := (.object "java/math/BigDecimal")) (by decide) rfl rfl (g := (mkF m 16 #[.val (.ref a1), .val (.ref a2), .val .null, .val .null, .val (.ref a3)] [.null, (.ref a1)])) rfl rfl (hb hby d2_16)
  have F6 : Fld Z h6 a1 "com/example/cropmark/cropmark/Weights" "factor" "Ljava/math/BigDecimal;" .null := c5.same W6
  have N6 := Fr.snoc X6 N4 P3
  have O6 : Old Z n0 h6 := O4.wr W6 P3
  have K6 : Keep h0 h6 [a1] := K4.wr W6 (Or.inl (List.mem_of_getElem? (i := 0) rfl))
  refine Go.st st6 ?_
  show Go p e below _ (T6.setTop (mkF m 19 #[.val (.ref a1), .val (.ref a2), .val .null, .val .null, .val (.ref a3)] []))
  refine Go.st (fun t k => XS.aloadN X6.here hx rfl (hb hby d2_19) rfl rfl k) ?_
  show Go p e below _ (T6.setTop (mkF m 20 #[.val (.ref a1), .val (.ref a2), .val .null, .val .null, .val (.ref a3)] [(.ref a1)]))
  refine Go.st (fun t k => XS.aload X6.here hx rfl (hb hby d2_20) rfl rfl k) ?_
  show Go p e below _ (T6.setTop (mkF m 22 #[.val (.ref a1), .val (.ref a2), .val .null, .val .null, .val (.ref a3)] [(.ref a3), (.ref a1)]))
  have c7 := (((P6.other W2 (Or.inr (slot_ne (Or.inr (w26 hw)) (Or.inr (w20 hw)) (by decide) (t := (.object "java/math/BigDecimal")) (t' := (.object "java/math/BigDecimal")) (by decide) (by decide)))).other W4 (Or.inr (slot_ne (Or.inr (w26 hw)) (Or.inr (w22 hw)) (by decide) (t := (.object "java/math/BigDecimal")) (t' := (.object "java/math/BigDecimal")) (by decide) (by decide)))).other W6 (Or.inr (slot_ne (Or.inr (w26 hw)) (Or.inr (w24 hw)) (by decide) (t := (.object "java/math/BigDecimal")) (t' := (.object "java/math/BigDecimal")) (by decide) (by decide))))
  obtain ⟨T8, h8, X8, e8, W8, st8⟩ := putF X6 hx hZ hown (host := "") (Or.inl (w25 hw)) Via.refl e6 c7 (((P1.wr W2).wr W4).wr W6) (Or.inr ⟨(w26 hw), rfl, hnm⟩) (w6 hw) (ty := (.object "java/math/BigDecimal")) (by decide) rfl rfl (g := (mkF m 22 #[.val (.ref a1), .val (.ref a2), .val .null, .val .null, .val (.ref a3)] [(.ref a3), (.ref a1)])) rfl rfl (hb hby d2_22)
  have F8 : Fld Z h8 a1 "com/example/cropmark/cropmark/Weights" "assessedLb" "Ljava/math/BigDecimal;" (.ref a3) := c7.same W8
  have N8 := Fr.snoc X8 N6 P3
  have O8 : Old Z n0 h8 := O6.wr W8 P3
  have K8 : Keep h0 h8 [a1] := K6.wr W8 (Or.inl (List.mem_of_getElem? (i := 0) rfl))
  refine Go.st st8 ?_
  show Go p e below _ (T8.setTop (mkF m 25 #[.val (.ref a1), .val (.ref a2), .val .null, .val .null, .val (.ref a3)] []))
  obtain ⟨fs, hr, hrun, hended, hWd, hsame⟩ := X8.leave (v := none) (fun _ => rfl)
  have c9 := (((F2.other W4 (Or.inr (slot_ne (Or.inr (w20 hw)) (Or.inr (w22 hw)) (by decide) (t := (.object "java/math/BigDecimal")) (t' := (.object "java/math/BigDecimal")) (by decide) (by decide)))).other W6 (Or.inr (slot_ne (Or.inr (w20 hw)) (Or.inr (w24 hw)) (by decide) (t := (.object "java/math/BigDecimal")) (t' := (.object "java/math/BigDecimal")) (by decide) (by decide)))).other W8 (Or.inr (slot_ne (Or.inr (w20 hw)) (Or.inr (w26 hw)) (by decide) (t := (.object "java/math/BigDecimal")) (t' := (.object "java/math/BigDecimal")) (by decide) (by decide))))
  have c10 := ((F4.other W6 (Or.inr (slot_ne (Or.inr (w22 hw)) (Or.inr (w24 hw)) (by decide) (t := (.object "java/math/BigDecimal")) (t' := (.object "java/math/BigDecimal")) (by decide) (by decide)))).other W8 (Or.inr (slot_ne (Or.inr (w22 hw)) (Or.inr (w26 hw)) (by decide) (t := (.object "java/math/BigDecimal")) (t' := (.object "java/math/BigDecimal")) (by decide) (by decide))))
  have c11 := (F6.other W8 (Or.inr (slot_ne (Or.inr (w24 hw)) (Or.inr (w26 hw)) (by decide) (t := (.object "java/math/BigDecimal")) (t' := (.object "java/math/BigDecimal")) (by decide) (by decide))))
  refine ⟨_, _, ?_, hrun, hended, _, _, rfl, ?_, ⟨⟨_, rfl⟩, hWd, hsame.mono (by decide) (by decide)⟩⟩
  · exact X8.returnOut hx Bd.returns (hb hby d2_25) hr
  · show Q_rm2_1 Z a1 a2 a3 h0 n0 _ T8.heap _
    rw [e8]
    exact ⟨rfl, N8, K8, c9, c10, c11, F8⟩
def Q_rm5_1 (Z : State) (a1 : Addr) (a2 : Addr) (h0 : Heap) (n0 : Nat) (v : Option Value) (h : Heap) (L : List Loc) : Prop := v = none ∧ Fr n0 L ∧ Keep h0 h [a1] ∧ Fld Z h a1 "com/example/cropmark/cropmark/Assessment$Sums" "assessedLb" "Ljava/math/BigDecimal;" (.ref a2) ∧ Fld Z h a1 "com/example/cropmark/cropmark/Assessment$Sums" "inedibleLb" "Ljava/math/BigDecimal;" (.ref a2) ∧ Fld Z h a1 "com/example/cropmark/cropmark/Assessment$Sums" "lots" "I" (.int (0 : Int32))
set_option maxRecDepth 65536 in
set_option maxHeartbeats 40000000 in
theorem rm5_1 (l : Launch) (Z : State) (a0 : Array Value) (hw : ∀ d ∈ tables_1, d.before a0 Z = true) (ws : List Jvm.Cond) (a1 : Addr) (a2 : Addr) (h0 : Heap) (n0 : Nat) (O0 : Old Z n0 h0) (P1 : Sta Z Z.heap "java/math/BigDecimal" "ZERO" "Ljava/math/BigDecimal;" (.ref a2)) (P2 : Exa Z h0 a1 "com/example/cropmark/cropmark/Assessment$Sums") (P3 : Fld Z h0 a1 "com/example/cropmark/cropmark/Assessment$Sums" "assessedLb" "Ljava/math/BigDecimal;" .null) (P4 : n0 ≤ a1) (P5 : Fld Z h0 a1 "com/example/cropmark/cropmark/Assessment$Sums" "inedibleLb" "Ljava/math/BigDecimal;" .null) (P6 : Fld Z h0 a1 "com/example/cropmark/cropmark/Assessment$Sums" "lots" "I" (.int (0 : Int32))) :
    MetFree l (⟨"com/example/cropmark/cropmark/Assessment$Sums", "<init>", "()V"⟩ : MethodName) (head1 (Jvm.Cond.code (⟨"com/example/cropmark/cropmark/Assessment$Sums", "<init>", "()V"⟩ : MethodName) prog_12_method_1_code 1 none :: ws) ({ frames := 1, cells := 0, slots := 0, locals := 12 } : Room)) (fun a U => a = #[(.ref a1)] ∧ Z.Warmed39 U.vm ∧ U.heap = h0) (fun _ _ _ _ _ => True) (fun _ U o U' => ∃ v L, o = .returned v ∧ Q_rm5_1 Z a1 a2 h0 n0 v U'.heap L ∧ FrameEnd U o U' L ({ frames := 1, cells := 0, slots := 0, locals := 12 } : Room).cells ({ frames := 1, cells := 0, slots := 0, locals := 12 } : Room).slots) := by
  refine MetFree.of_bodySF (plainFor_of_name pn_4) hisR ?_
  intro p e s m args below meth c s₁ Bd hml0 hP hK
  obtain ⟨rfl, hZ, hh⟩ := hP
  have hx := Bd.exec
  have hby := Bd.bytes
  have hml : c.maxLocals = 1 := hml0
  have hown : s.vm.findClass "com/example/cropmark/cropmark/Assessment$Sums" = some m.cls := findClass_of_methodNamed Bd.named
  have hnm := (name_of_methodNamed Bd.named Bd.method).1
  have X0 : Stand p l e ({ frames := 1, cells := 0, slots := 0, locals := 12 } : Room) s m #[(.ref a1)] below meth c s₁ [] 0 0 := Stand.of_body Bd
  have e0 : s₁.heap = h0 := by rw [← hh, Bd.state]; rfl
  have N0 := Fr.nil n0
  refine Go.start (P := (fun o U' => ∃ v L, o = .returned v ∧ Q_rm5_1 Z a1 a2 h0 n0 v U'.heap L ∧ FrameEnd s o U' L ({ frames := 1, cells := 0, slots := 0, locals := 12 } : Room).cells ({ frames := 1, cells := 0, slots := 0, locals := 12 } : Room).slots)) (castTop (g' := (mkF m 0 #[.val (.ref a1)] [])) (by first | rfl | simp [entryFrame, mkF, argsToLocals, Value.category]) (T := s₁)) ?_
  refine Go.st (fun t k => XS.aloadN X0.here hx rfl (hb hby d5_0) rfl rfl k) ?_
  show Go p e below _ (s₁.setTop (mkF m 1 #[.val (.ref a1)] [(.ref a1)]))
  obtain ⟨T1, X1, e1, st1⟩ := initO X0 hx hZ hown (w33 hw) (w17 hw) (w18 hw) e0 (g := (mkF m 1 #[.val (.ref a1)] [(.ref a1)])) rfl (by rw [hml]; rfl) rfl (hb hby d5_1) (by decide) (W := 0) (by show 2 * 0 + _ ≤ _; exact Nat.le_of_eq rfl) (by decide)
  refine Go.st st1 ?_
  show Go p e below _ (T1.setTop (mkF m 4 #[.val (.ref a1)] []))
  refine Go.st (fun t k => XS.aloadN X1.here hx rfl (hb hby d5_4) rfl rfl k) ?_
  show Go p e below _ (T1.setTop (mkF m 5 #[.val (.ref a1)] [(.ref a1)]))
  obtain ⟨T2, X2, e2, st2⟩ := getS2 X1 hx hZ hown (host := "") (Or.inl (w34 hw)) Via.refl e1 (P1.ext O0.2) (g := (mkF m 5 #[.val (.ref a1)] [(.ref a1)])) rfl (hb hby d5_5)
  refine Go.st st2 ?_
  show Go p e below _ (T2.setTop (mkF m 8 #[.val (.ref a1)] [(.ref a2), (.ref a1)]))
  obtain ⟨T3, h3, X3, e3, W3, st3⟩ := putF X2 hx hZ hown (host := "") (Or.inl (w35 hw)) Via.refl e2 P3 P2 (Or.inl (w36 hw)) (w28 hw) (ty := (.object "java/math/BigDecimal")) (by decide) rfl rfl (g := (mkF m 8 #[.val (.ref a1)] [(.ref a2), (.ref a1)])) rfl rfl (hb hby d5_8)
  have F3 : Fld Z h3 a1 "com/example/cropmark/cropmark/Assessment$Sums" "assessedLb" "Ljava/math/BigDecimal;" (.ref a2) := P3.same W3
  have N3 := Fr.snoc X3 N0 P4
  have O3 : Old Z n0 h3 := O0.wr W3 P4
  have K3 : Keep h0 h3 [a1] := (Keep.refl h0 [a1]).wr W3 (Or.inl (List.mem_of_getElem? (i := 0) rfl))
  refine Go.st st3 ?_
  show Go p e below _ (T3.setTop (mkF m 11 #[.val (.ref a1)] []))
  refine Go.st (fun t k => XS.aloadN X3.here hx rfl (hb hby d5_11) rfl rfl k) ?_
  show Go p e below _ (T3.setTop (mkF m 12 #[.val (.ref a1)] [(.ref a1)]))
  obtain ⟨T4, X4, e4, st4⟩ := getS2 X3 hx hZ hown (host := "") (Or.inl (w34 hw)) Via.refl e3 (P1.ext O3.2) (g := (mkF m 12 #[.val (.ref a1)] [(.ref a1)])) rfl (hb hby d5_12)
  refine Go.st st4 ?_
  show Go p e below _ (T4.setTop (mkF m 15 #[.val (.ref a1)] [(.ref a2), (.ref a1)]))
  have c5 := (P5.other W3 (Or.inr (slot_ne (Or.inl (w38 hw)) (Or.inl (w36 hw)) (by decide) (t := (.object "java/math/BigDecimal")) (t' := (.object "java/math/BigDecimal")) (by decide) (by decide))))
  obtain ⟨T6, h6, X6, e6, W6, st6⟩ := putF X4 hx hZ hown (host := "") (Or.inl (w37 hw)) Via.refl e4 c5 (P2.wr W3) (Or.inl (w38 hw)) (w28 hw) (ty := (.object "java/math/BigDecimal")) (by decide) rfl rfl (g := (mkF m 15 #[.val (.ref a1)] [(.ref a2), (.ref a1)])) rfl rfl (hb hby d5_15)
  have F6 : Fld Z h6 a1 "com/example/cropmark/cropmark/Assessment$Sums" "inedibleLb" "Ljava/math/BigDecimal;" (.ref a2) := c5.same W6
  have N6 := Fr.snoc X6 N3 P4
  have O6 : Old Z n0 h6 := O3.wr W6 P4
  have K6 : Keep h0 h6 [a1] := K3.wr W6 (Or.inl (List.mem_of_getElem? (i := 0) rfl))
  refine Go.st st6 ?_
  show Go p e below _ (T6.setTop (mkF m 18 #[.val (.ref a1)] []))
  obtain ⟨fs, hr, hrun, hended, hWd, hsame⟩ := X6.leave (v := none) (fun _ => rfl)
  have c7 := (F3.other W6 (Or.inr (slot_ne (Or.inl (w36 hw)) (Or.inl (w38 hw)) (by decide) (t := (.object "java/math/BigDecimal")) (t' := (.object "java/math/BigDecimal")) (by decide) (by decide))))
  have c8 := ((P6.other W3 (Or.inr (slot_ne (Or.inl (w45 hw)) (Or.inl (w36 hw)) (by decide) (t := .int) (t' := (.object "java/math/BigDecimal")) (by decide) (by decide)))).other W6 (Or.inr (slot_ne (Or.inl (w45 hw)) (Or.inl (w38 hw)) (by decide) (t := .int) (t' := (.object "java/math/BigDecimal")) (by decide) (by decide))))
  refine ⟨_, _, ?_, hrun, hended, _, _, rfl, ?_, ⟨⟨_, rfl⟩, hWd, hsame.mono (by decide) (by decide)⟩⟩
  · exact X6.returnOut hx Bd.returns (hb hby d5_18) hr
  · show Q_rm5_1 Z a1 a2 h0 n0 _ T6.heap _
    rw [e6]
    exact ⟨rfl, N6, K6, c7, F6, c8⟩
def Q_rm7_1 (Z : State) (a1 : Addr) (a2 : Addr) (h0 : Heap) (n0 : Nat) (v : Option Value) (h : Heap) (L : List Loc) : Prop := v = some (.ref a2) ∧ Fr n0 L ∧ h = h0
set_option maxRecDepth 65536 in
set_option maxHeartbeats 40000000 in
theorem rm7_1 (l : Launch) (Z : State) (a0 : Array Value) (hw : ∀ d ∈ tables_1, d.before a0 Z = true) (ws : List Jvm.Cond) (a1 : Addr) (a2 : Addr) (h0 : Heap) (n0 : Nat) (O0 : Old Z n0 h0) (P1 : Fld Z h0 a1 "com/example/cropmark/cropmark/Weights" "assessedLb" "Ljava/math/BigDecimal;" (.ref a2)) :
    MetFree l (⟨"com/example/cropmark/cropmark/Weights", "assessedLb", "()Ljava/math/BigDecimal;"⟩ : MethodName) (head1 (Jvm.Cond.code (⟨"com/example/cropmark/cropmark/Weights", "assessedLb", "()Ljava/math/BigDecimal;"⟩ : MethodName) prog_92_method_9_code 1 (some (.object "java/math/BigDecimal")) :: ws) ({ frames := 0, cells := 0, slots := 0, locals := 0 } : Room)) (fun a U => a = #[(.ref a1)] ∧ Z.Warmed39 U.vm ∧ U.heap = h0) (fun _ _ _ _ _ => True) (fun _ U o U' => ∃ v L, o = .returned v ∧ Q_rm7_1 Z a1 a2 h0 n0 v U'.heap L ∧ FrameEnd U o U' L ({ frames := 0, cells := 0, slots := 0, locals := 0 } : Room).cells ({ frames := 0, cells := 0, slots := 0, locals := 0 } : Room).slots) := by
  refine MetFree.of_bodySF (plainFor_of_name pn_3) hisR ?_
  intro p e s m args below meth c s₁ Bd hml0 hP hK
  obtain ⟨rfl, hZ, hh⟩ := hP
  have hx := Bd.exec
  have hby := Bd.bytes
  have hml : c.maxLocals = 1 := hml0
  have hown : s.vm.findClass "com/example/cropmark/cropmark/Weights" = some m.cls := findClass_of_methodNamed Bd.named
  have hnm := (name_of_methodNamed Bd.named Bd.method).1
  have X0 : Stand p l e ({ frames := 0, cells := 0, slots := 0, locals := 0 } : Room) s m #[(.ref a1)] below meth c s₁ [] 0 0 := Stand.of_body Bd
  have e0 : s₁.heap = h0 := by rw [← hh, Bd.state]; rfl
  have N0 := Fr.nil n0
  refine Go.start (P := (fun o U' => ∃ v L, o = .returned v ∧ Q_rm7_1 Z a1 a2 h0 n0 v U'.heap L ∧ FrameEnd s o U' L ({ frames := 0, cells := 0, slots := 0, locals := 0 } : Room).cells ({ frames := 0, cells := 0, slots := 0, locals := 0 } : Room).slots)) (castTop (g' := (mkF m 0 #[.val (.ref a1)] [])) (by first | rfl | simp [entryFrame, mkF, argsToLocals, Value.category]) (T := s₁)) ?_
  refine Go.st (fun t k => XS.aloadN X0.here hx rfl (hb hby d7_0) rfl rfl k) ?_
  show Go p e below _ (s₁.setTop (mkF m 1 #[.val (.ref a1)] [(.ref a1)]))
  obtain ⟨T1, X1, e1, st1⟩ := getF X0 hx hZ hown (host := "") (Or.inl (w25 hw)) Via.refl e0 P1 (g := (mkF m 1 #[.val (.ref a1)] [(.ref a1)])) rfl rfl (hb hby d7_1)
  refine Go.st st1 ?_
  show Go p e below _ (T1.setTop (mkF m 4 #[.val (.ref a1)] [(.ref a2)]))
  obtain ⟨fs, hr, hrun, hended, hWd, hsame⟩ := X1.leave (v := some (.ref a2)) (fun h => by rw [Bd.returns] at h; cases h)
  refine ⟨_, _, ?_, hrun, hended, _, _, rfl, ?_, ⟨⟨_, rfl⟩, hWd, hsame.mono (by decide) (by decide)⟩⟩
  · exact own_retA X1 hx Bd.returns rfl rfl (hb hby d7_4) hr
  · show Q_rm7_1 Z a1 a2 h0 n0 _ T1.heap _
    rw [e1]
    exact ⟨rfl, N0, rfl⟩
def Q_rm11_1 (Z : State) (q1 : Int64) (h0 : Heap) (n0 : Nat) (v : Option Value) (h : Heap) (L : List Loc) : Prop := v = some (.long ((0 : Int64) + q1)) ∧ Fr n0 L ∧ h = h0
set_option maxRecDepth 65536 in
set_option maxHeartbeats 40000000 in
theorem rm11_1 (l : Launch) (Z : State) (a0 : Array Value) (hw : ∀ d ∈ tables_1, d.before a0 Z = true) (ws : List Jvm.Cond) (q1 : Int64) (h0 : Heap) (n0 : Nat) (O0 : Old Z n0 h0) (P1 : ¬ (((((0 : Int64) + q1) ^^^ (0 : Int64)) &&& (((0 : Int64) + q1) ^^^ q1)) < (0 : Int64))) :
    MetFree l (⟨"java/math/BigDecimal", "add", "(JJ)J"⟩ : MethodName) (head1 (Jvm.Cond.code (⟨"java/math/BigDecimal", "add", "(JJ)J"⟩ : MethodName) jdk_17_method_132_code 6 (some .long) :: ws) ({ frames := 0, cells := 0, slots := 0, locals := 0 } : Room)) (fun a U => a = #[(.long (0 : Int64)), (.long q1)] ∧ Z.Warmed39 U.vm ∧ U.heap = h0) (fun _ _ _ _ _ => True) (fun _ U o U' => ∃ v L, o = .returned v ∧ Q_rm11_1 Z q1 h0 n0 v U'.heap L ∧ FrameEnd U o U' L ({ frames := 0, cells := 0, slots := 0, locals := 0 } : Room).cells ({ frames := 0, cells := 0, slots := 0, locals := 0 } : Room).slots) := by
  refine MetFree.of_bodySF (plainFor_of_name pn_1) hisR ?_
  intro p e s m args below meth c s₁ Bd hml0 hP hK
  obtain ⟨rfl, hZ, hh⟩ := hP
  have hx := Bd.exec
  have hby := Bd.bytes
  have hml : c.maxLocals = 6 := hml0
  have hown : s.vm.findClass "java/math/BigDecimal" = some m.cls := findClass_of_methodNamed Bd.named
  have hnm := (name_of_methodNamed Bd.named Bd.method).1
  have X0 : Stand p l e ({ frames := 0, cells := 0, slots := 0, locals := 0 } : Room) s m #[(.long (0 : Int64)), (.long q1)] below meth c s₁ [] 0 0 := Stand.of_body Bd
  have e0 : s₁.heap = h0 := by rw [← hh, Bd.state]; rfl
  have N0 := Fr.nil n0
  refine Go.start (P := (fun o U' => ∃ v L, o = .returned v ∧ Q_rm11_1 Z q1 h0 n0 v U'.heap L ∧ FrameEnd s o U' L ({ frames := 0, cells := 0, slots := 0, locals := 0 } : Room).cells ({ frames := 0, cells := 0, slots := 0, locals := 0 } : Room).slots)) (castTop (g' := (mkF m 0 #[.val (.long (0 : Int64)), .second, .val (.long q1), .second, .unset, .unset] [])) (by first | rfl | simp [entryFrame, mkF, argsToLocals, Value.category]) (T := s₁)) ?_
  refine Go.st (fun t k => XS.lloadN X0.here hx rfl (hb hby d11_0) rfl k) ?_
  show Go p e below _ (s₁.setTop (mkF m 1 #[.val (.long (0 : Int64)), .second, .val (.long q1), .second, .unset, .unset] [(.long (0 : Int64))]))
  refine Go.st (fun t k => XS.lloadN X0.here hx rfl (hb hby d11_1) rfl k) ?_
  show Go p e below _ (s₁.setTop (mkF m 2 #[.val (.long (0 : Int64)), .second, .val (.long q1), .second, .unset, .unset] [(.long q1), (.long (0 : Int64))]))
  refine Go.st (fun t k => XS.ladd X0.here hx rfl (hb hby d11_2) rfl k) ?_
  show Go p e below _ (s₁.setTop (mkF m 3 #[.val (.long (0 : Int64)), .second, .val (.long q1), .second, .unset, .unset] [(.long ((0 : Int64) + q1))]))
  refine Go.st (fun t k => XS.lstore X0.here hx rfl (hb hby d11_3) rfl (l' := #[.val (.long (0 : Int64)), .second, .val (.long q1), .second, .val (.long ((0 : Int64) + q1)), .second]) rfl k) ?_
  show Go p e below _ (s₁.setTop (mkF m 5 #[.val (.long (0 : Int64)), .second, .val (.long q1), .second, .val (.long ((0 : Int64) + q1)), .second] []))
  refine Go.st (fun t k => XS.lload X0.here hx rfl (hb hby d11_5) rfl k) ?_
  show Go p e below _ (s₁.setTop (mkF m 7 #[.val (.long (0 : Int64)), .second, .val (.long q1), .second, .val (.long ((0 : Int64) + q1)), .second] [(.long ((0 : Int64) + q1))]))
  refine Go.st (fun t k => XS.lloadN X0.here hx rfl (hb hby d11_7) rfl k) ?_
  show Go p e below _ (s₁.setTop (mkF m 8 #[.val (.long (0 : Int64)), .second, .val (.long q1), .second, .val (.long ((0 : Int64) + q1)), .second] [(.long (0 : Int64)), (.long ((0 : Int64) + q1))]))
  refine Go.st (fun t k => XS.lxor X0.here hx rfl (hb hby d11_8) rfl k) ?_
  show Go p e below _ (s₁.setTop (mkF m 9 #[.val (.long (0 : Int64)), .second, .val (.long q1), .second, .val (.long ((0 : Int64) + q1)), .second] [(.long (((0 : Int64) + q1) ^^^ (0 : Int64)))]))
  refine Go.st (fun t k => XS.lload X0.here hx rfl (hb hby d11_9) rfl k) ?_
  show Go p e below _ (s₁.setTop (mkF m 11 #[.val (.long (0 : Int64)), .second, .val (.long q1), .second, .val (.long ((0 : Int64) + q1)), .second] [(.long ((0 : Int64) + q1)), (.long (((0 : Int64) + q1) ^^^ (0 : Int64)))]))
  refine Go.st (fun t k => XS.lloadN X0.here hx rfl (hb hby d11_11) rfl k) ?_
  show Go p e below _ (s₁.setTop (mkF m 12 #[.val (.long (0 : Int64)), .second, .val (.long q1), .second, .val (.long ((0 : Int64) + q1)), .second] [(.long q1), (.long ((0 : Int64) + q1)), (.long (((0 : Int64) + q1) ^^^ (0 : Int64)))]))
  refine Go.st (fun t k => XS.lxor X0.here hx rfl (hb hby d11_12) rfl k) ?_
  show Go p e below _ (s₁.setTop (mkF m 13 #[.val (.long (0 : Int64)), .second, .val (.long q1), .second, .val (.long ((0 : Int64) + q1)), .second] [(.long (((0 : Int64) + q1) ^^^ q1)), (.long (((0 : Int64) + q1) ^^^ (0 : Int64)))]))
  refine Go.st (fun t k => XS.land X0.here hx rfl (hb hby d11_13) rfl k) ?_
  show Go p e below _ (s₁.setTop (mkF m 14 #[.val (.long (0 : Int64)), .second, .val (.long q1), .second, .val (.long ((0 : Int64) + q1)), .second] [(.long ((((0 : Int64) + q1) ^^^ (0 : Int64)) &&& (((0 : Int64) + q1) ^^^ q1)))]))
  refine Go.st (fun t k => XS.lconst X0.here hx rfl (hb hby d11_14) k) ?_
  show Go p e below _ (s₁.setTop (mkF m 15 #[.val (.long (0 : Int64)), .second, .val (.long q1), .second, .val (.long ((0 : Int64) + q1)), .second] [(.long (0 : Int64)), (.long ((((0 : Int64) + q1) ^^^ (0 : Int64)) &&& (((0 : Int64) + q1) ^^^ q1)))]))
  refine Go.st (fun t k => Jvm.Free.XT.lcmp X0.here hx rfl (hb hby d11_15) rfl k) ?_
  show Go p e below _ (s₁.setTop (mkF m 16 #[.val (.long (0 : Int64)), .second, .val (.long q1), .second, .val (.long ((0 : Int64) + q1)), .second] [(.int (Jvm.Free.XT.cmpL ((((0 : Int64) + q1) ^^^ (0 : Int64)) &&& (((0 : Int64) + q1) ^^^ q1)) (0 : Int64)))]))
  refine Go.st (fun t k => XS.ifNo X0.here hx rfl (hb hby d11_16) rfl (Jvm.Free.XT.ll_lt_f P1) k) ?_
  show Go p e below _ (s₁.setTop (mkF m 19 #[.val (.long (0 : Int64)), .second, .val (.long q1), .second, .val (.long ((0 : Int64) + q1)), .second] []))
  refine Go.st (fun t k => XS.lload X0.here hx rfl (hb hby d11_19) rfl k) ?_
  show Go p e below _ (s₁.setTop (mkF m 21 #[.val (.long (0 : Int64)), .second, .val (.long q1), .second, .val (.long ((0 : Int64) + q1)), .second] [(.long ((0 : Int64) + q1))]))
  obtain ⟨fs, hr, hrun, hended, hWd, hsame⟩ := X0.leave (v := some (.long ((0 : Int64) + q1))) (fun h => by rw [Bd.returns] at h; cases h)
  refine ⟨_, _, ?_, hrun, hended, _, _, rfl, ?_, ⟨⟨_, rfl⟩, hWd, hsame.mono (by decide) (by decide)⟩⟩
  · exact X0.lreturnOut hx Bd.returns (hb hby d11_21) hr
  · show Q_rm11_1 Z q1 h0 n0 _ s₁.heap _
    rw [e0]
    exact ⟨rfl, N0, rfl⟩
def Q_rm12_1 (Z : State) (q1 : Int64) (a2 : Addr) (k3 : ClassId) (a4 : Addr) (a5 : Addr) (a6 : Addr) (a7 : Addr) (a8 : Addr) (a9 : Addr) (a10 : Addr) (a11 : Addr) (a12 : Addr) (a13 : Addr) (a14 : Addr) (h0 : Heap) (n0 : Nat) (v : Option Value) (h : Heap) (L : List Loc) : Prop := ∃ (bv_1 : Addr), v = some (.ref bv_1) ∧ Fr n0 L ∧ Keep h0 h [] ∧ Exa Z h bv_1 "java/math/BigDecimal" ∧ Fld Z h bv_1 "java/math/BigDecimal" "scale" "I" (.int (0 : Int32)) ∧ Fld Z h bv_1 "java/math/BigDecimal" "intCompact" "J" (.long q1)
set_option maxRecDepth 65536 in
set_option maxHeartbeats 40000000 in
theorem rm12_1 (l : Launch) (Z : State) (a0 : Array Value) (hw : ∀ d ∈ tables_1, d.before a0 Z = true) (ws : List Jvm.Cond) (q1 : Int64) (a2 : Addr) (k3 : ClassId) (a4 : Addr) (a5 : Addr) (a6 : Addr) (a7 : Addr) (a8 : Addr) (a9 : Addr) (a10 : Addr) (a11 : Addr) (a12 : Addr) (a13 : Addr) (a14 : Addr) (h0 : Heap) (n0 : Nat) (O0 : Old Z n0 h0) (P1 : ¬ (q1 = (-9223372036854775808 : Int64))) (P2 : Sta Z Z.heap "java/math/BigDecimal" "ZERO_THROUGH_TEN" "[Ljava/math/BigDecimal;" (.ref a2)) (P3 : Arv Z Z.heap a2 k3 (.object "java/math/BigDecimal") (11 : Int32) [(.ref a4), (.ref a5), (.ref a6), (.ref a7), (.ref a8), (.ref a9), (.ref a10), (.ref a11), (.ref a12), (.ref a13), (.ref a14)] .null) (P4 : Exa Z Z.heap a4 "java/math/BigDecimal") (P5 : Fld Z Z.heap a4 "java/math/BigDecimal" "scale" "I" (.int (0 : Int32))) (P6 : Fld Z Z.heap a4 "java/math/BigDecimal" "intCompact" "J" (.long (0 : Int64))) (P7 : Exa Z Z.heap a5 "java/math/BigDecimal") (P8 : Fld Z Z.heap a5 "java/math/BigDecimal" "scale" "I" (.int (0 : Int32))) (P9 : Fld Z Z.heap a5 "java/math/BigDecimal" "intCompact" "J" (.long (1 : Int64))) (P10 : Exa Z Z.heap a6 "java/math/BigDecimal") (P11 : Fld Z Z.heap a6 "java/math/BigDecimal" "scale" "I" (.int (0 : Int32))) (P12 : Fld Z Z.heap a6 "java/math/BigDecimal" "intCompact" "J" (.long (2 : Int64))) (P13 : Exa Z Z.heap a7 "java/math/BigDecimal") (P14 : Fld Z Z.heap a7 "java/math/BigDecimal" "scale" "I" (.int (0 : Int32))) (P15 : Fld Z Z.heap a7 "java/math/BigDecimal" "intCompact" "J" (.long (3 : Int64))) (P16 : Exa Z Z.heap a8 "java/math/BigDecimal") (P17 : Fld Z Z.heap a8 "java/math/BigDecimal" "scale" "I" (.int (0 : Int32))) (P18 : Fld Z Z.heap a8 "java/math/BigDecimal" "intCompact" "J" (.long (4 : Int64))) (P19 : Exa Z Z.heap a9 "java/math/BigDecimal") (P20 : Fld Z Z.heap a9 "java/math/BigDecimal" "scale" "I" (.int (0 : Int32))) (P21 : Fld Z Z.heap a9 "java/math/BigDecimal" "intCompact" "J" (.long (5 : Int64))) (P22 : Exa Z Z.heap a10 "java/math/BigDecimal") (P23 : Fld Z Z.heap a10 "java/math/BigDecimal" "scale" "I" (.int (0 : Int32))) (P24 : Fld Z Z.heap a10 "java/math/BigDecimal" "intCompact" "J" (.long (6 : Int64))) (P25 : Exa Z Z.heap a11 "java/math/BigDecimal") (P26 : Fld Z Z.heap a11 "java/math/BigDecimal" "scale" "I" (.int (0 : Int32))) (P27 : Fld Z Z.heap a11 "java/math/BigDecimal" "intCompact" "J" (.long (7 : Int64))) (P28 : Exa Z Z.heap a12 "java/math/BigDecimal") (P29 : Fld Z Z.heap a12 "java/math/BigDecimal" "scale" "I" (.int (0 : Int32))) (P30 : Fld Z Z.heap a12 "java/math/BigDecimal" "intCompact" "J" (.long (8 : Int64))) (P31 : Exa Z Z.heap a13 "java/math/BigDecimal") (P32 : Fld Z Z.heap a13 "java/math/BigDecimal" "scale" "I" (.int (0 : Int32))) (P33 : Fld Z Z.heap a13 "java/math/BigDecimal" "intCompact" "J" (.long (9 : Int64))) (P34 : Exa Z Z.heap a14 "java/math/BigDecimal") (P35 : Fld Z Z.heap a14 "java/math/BigDecimal" "scale" "I" (.int (0 : Int32))) (P36 : Fld Z Z.heap a14 "java/math/BigDecimal" "intCompact" "J" (.long (10 : Int64))) :
    MetFree l (⟨"java/math/BigDecimal", "valueOf", "(JI)Ljava/math/BigDecimal;"⟩ : MethodName) (head1 (Jvm.Cond.code (⟨"java/math/BigDecimal", "valueOf", "(JI)Ljava/math/BigDecimal;"⟩ : MethodName) jdk_17_method_20_code 3 (some (.object "java/math/BigDecimal")) :: ws) ({ frames := 4, cells := 1, slots := 5, locals := 55 } : Room)) (fun a U => a = #[(.long q1), (.int (0 : Int32))] ∧ Z.Warmed39 U.vm ∧ U.heap = h0) (fun _ _ _ _ _ => True) (fun _ U o U' => ∃ v L, o = .returned v ∧ Q_rm12_1 Z q1 a2 k3 a4 a5 a6 a7 a8 a9 a10 a11 a12 a13 a14 h0 n0 v U'.heap L ∧ FrameEnd U o U' L ({ frames := 4, cells := 1, slots := 5, locals := 55 } : Room).cells ({ frames := 4, cells := 1, slots := 5, locals := 55 } : Room).slots) := by
  refine MetFree.of_bodySF (plainFor_of_name pn_1) hisR ?_
  intro p e s m args below meth c s₁ Bd hml0 hP hK
  obtain ⟨rfl, hZ, hh⟩ := hP
  have hx := Bd.exec
  have hby := Bd.bytes
  have hml : c.maxLocals = 3 := hml0
  have hown : s.vm.findClass "java/math/BigDecimal" = some m.cls := findClass_of_methodNamed Bd.named
  have hnm := (name_of_methodNamed Bd.named Bd.method).1
  have X0 : Stand p l e ({ frames := 4, cells := 1, slots := 5, locals := 55 } : Room) s m #[(.long q1), (.int (0 : Int32))] below meth c s₁ [] 0 0 := Stand.of_body Bd
  have e0 : s₁.heap = h0 := by rw [← hh, Bd.state]; rfl
  have N0 := Fr.nil n0
  refine Go.start (P := (fun o U' => ∃ v L, o = .returned v ∧ Q_rm12_1 Z q1 a2 k3 a4 a5 a6 a7 a8 a9 a10 a11 a12 a13 a14 h0 n0 v U'.heap L ∧ FrameEnd s o U' L ({ frames := 4, cells := 1, slots := 5, locals := 55 } : Room).cells ({ frames := 4, cells := 1, slots := 5, locals := 55 } : Room).slots)) (castTop (g' := (mkF m 0 #[.val (.long q1), .second, .val (.int (0 : Int32))] [])) (by first | rfl | simp [entryFrame, mkF, argsToLocals, Value.category]) (T := s₁)) ?_
  refine Go.st (fun t k => XS.iloadN X0.here hx rfl (hb hby d12_0) rfl k) ?_
  show Go p e below _ (s₁.setTop (mkF m 1 #[.val (.long q1), .second, .val (.int (0 : Int32))] [(.int (0 : Int32))]))
  refine Go.st (fun t k => XS.ifNo X0.here hx rfl (hb hby d12_1) rfl (Jvm.Free.XT.i0_ne_f (by decide : (0 : Int32) = (0 : Int32))) k) ?_
  show Go p e below _ (s₁.setTop (mkF m 4 #[.val (.long q1), .second, .val (.int (0 : Int32))] []))
  refine Go.st (fun t k => XS.lloadN X0.here hx rfl (hb hby d12_4) rfl k) ?_
  show Go p e below _ (s₁.setTop (mkF m 5 #[.val (.long q1), .second, .val (.int (0 : Int32))] [(.long q1)]))
  obtain ⟨_, _, ⟨T1, L1, k1, n1⟩, -, X1, ⟨Lc1, hQ1, l1, y1, z1⟩, st1⟩ := Jvm.LawKit.callS X0 hx (y := (⟨"java/math/BigDecimal", "valueOf", "(J)Ljava/math/BigDecimal;"⟩ : MethodName)) hown (mvT hZ (w73 hw)) (mvT hZ (w1 hw)) (mvT hZ (w2 hw)) (mvT hZ (w3 hw)) (by decide) (backOf (W := 0) (rmV l Z a0 hw [] q1 a2 k3 a4 a5 a6 a7 a8 a9 a10 a11 a12 a13 a14 h0 n0 O0 P1 P2 P3 P4 P5 P6 P7 P8 P9 P10 P11 P12 P13 P14 P15 P16 P17 P18 P19 P20 P21 P22 P23 P24 P25 P26 P27 P28 P29 P30 P31 P32 P33 P34 P35 P36) hZ (w3 hw) (w2 hw) (by decide) (by decide)) (g := (mkF m 5 #[.val (.long q1), .second, .val (.int (0 : Int32))] [(.long q1)])) rfl (by rw [hml]; rfl) (argsL := [(.long q1)]) (rest := []) (lenOf pd_2 rfl) rfl (by show 2 * 0 + _ ≤ _; exact Nat.le_of_eq rfl) (hb hby d12_5) (fun vm₁ hw₁ => ⟨rfl, e0, (by decide : 0 + 1 ≤ _), (by decide : 0 + 5 ≤ _)⟩)
  dsimp only [Pt.U, Pt.locs, Pt.cells, Pt.slots] at X1 l1 y1 z1 st1 hQ1
  subst l1 y1 z1
  obtain ⟨bv_1, rfl, M1, K1c, r1_0, r1_1, r1_2⟩ := hQ1
  have N1 := Fr.app N0 M1
  have O1 : Old Z n0 T1.heap := O0.keep K1c all0
  have K1 : Keep h0 T1.heap [] := (Keep.refl h0 []).trans K1c all0
  refine Go.st st1 ?_
  show Go p e below _ (T1.setTop (mkF m 8 #[.val (.long q1), .second, .val (.int (0 : Int32))] [(.ref bv_1)]))
  obtain ⟨fs, hr, hrun, hended, hWd, hsame⟩ := X1.leave (v := some (.ref bv_1)) (fun h => by rw [Bd.returns] at h; cases h)
  refine ⟨_, _, ?_, hrun, hended, _, _, rfl, ?_, ⟨⟨_, rfl⟩, hWd, hsame.mono (by decide) (by decide)⟩⟩
  · exact own_retA X1 hx Bd.returns rfl rfl (hb hby d12_8) hr
  · show Q_rm12_1 Z q1 a2 k3 a4 a5 a6 a7 a8 a9 a10 a11 a12 a13 a14 h0 n0 _ T1.heap _
    exact ⟨bv_1, rfl, N1, K1, r1_0, r1_1, r1_2⟩
def Q_rm10_1 (Z : State) (q1 : Int64) (a2 : Addr) (k3 : ClassId) (a4 : Addr) (a5 : Addr) (a6 : Addr) (a7 : Addr) (a8 : Addr) (a9 : Addr) (a10 : Addr) (a11 : Addr) (a12 : Addr) (a13 : Addr) (a14 : Addr) (h0 : Heap) (n0 : Nat) (v : Option Value) (h : Heap) (L : List Loc) : Prop := ∃ (bv_1_2 : Addr), v = some (.ref bv_1_2) ∧ Fr n0 L ∧ Keep h0 h [] ∧ Exa Z h bv_1_2 "java/math/BigDecimal" ∧ Fld Z h bv_1_2 "java/math/BigDecimal" "scale" "I" (.int (0 : Int32)) ∧ Fld Z h bv_1_2 "java/math/BigDecimal" "intCompact" "J" (.long ((0 : Int64) + q1))
set_option maxRecDepth 65536 in
set_option maxHeartbeats 40000000 in
theorem rm10_1 (l : Launch) (Z : State) (a0 : Array Value) (hw : ∀ d ∈ tables_1, d.before a0 Z = true) (ws : List Jvm.Cond) (q1 : Int64) (a2 : Addr) (k3 : ClassId) (a4 : Addr) (a5 : Addr) (a6 : Addr) (a7 : Addr) (a8 : Addr) (a9 : Addr) (a10 : Addr) (a11 : Addr) (a12 : Addr) (a13 : Addr) (a14 : Addr) (h0 : Heap) (n0 : Nat) (O0 : Old Z n0 h0) (P1 : ¬ (((((0 : Int64) + q1) ^^^ (0 : Int64)) &&& (((0 : Int64) + q1) ^^^ q1)) < (0 : Int64))) (P2 : ¬ (((0 : Int64) + q1) = (-9223372036854775808 : Int64))) (P3 : Sta Z Z.heap "java/math/BigDecimal" "ZERO_THROUGH_TEN" "[Ljava/math/BigDecimal;" (.ref a2)) (P4 : Arv Z Z.heap a2 k3 (.object "java/math/BigDecimal") (11 : Int32) [(.ref a4), (.ref a5), (.ref a6), (.ref a7), (.ref a8), (.ref a9), (.ref a10), (.ref a11), (.ref a12), (.ref a13), (.ref a14)] .null) (P5 : Exa Z Z.heap a4 "java/math/BigDecimal") (P6 : Fld Z Z.heap a4 "java/math/BigDecimal" "scale" "I" (.int (0 : Int32))) (P7 : Fld Z Z.heap a4 "java/math/BigDecimal" "intCompact" "J" (.long (0 : Int64))) (P8 : Exa Z Z.heap a5 "java/math/BigDecimal") (P9 : Fld Z Z.heap a5 "java/math/BigDecimal" "scale" "I" (.int (0 : Int32))) (P10 : Fld Z Z.heap a5 "java/math/BigDecimal" "intCompact" "J" (.long (1 : Int64))) (P11 : Exa Z Z.heap a6 "java/math/BigDecimal") (P12 : Fld Z Z.heap a6 "java/math/BigDecimal" "scale" "I" (.int (0 : Int32))) (P13 : Fld Z Z.heap a6 "java/math/BigDecimal" "intCompact" "J" (.long (2 : Int64))) (P14 : Exa Z Z.heap a7 "java/math/BigDecimal") (P15 : Fld Z Z.heap a7 "java/math/BigDecimal" "scale" "I" (.int (0 : Int32))) (P16 : Fld Z Z.heap a7 "java/math/BigDecimal" "intCompact" "J" (.long (3 : Int64))) (P17 : Exa Z Z.heap a8 "java/math/BigDecimal") (P18 : Fld Z Z.heap a8 "java/math/BigDecimal" "scale" "I" (.int (0 : Int32))) (P19 : Fld Z Z.heap a8 "java/math/BigDecimal" "intCompact" "J" (.long (4 : Int64))) (P20 : Exa Z Z.heap a9 "java/math/BigDecimal") (P21 : Fld Z Z.heap a9 "java/math/BigDecimal" "scale" "I" (.int (0 : Int32))) (P22 : Fld Z Z.heap a9 "java/math/BigDecimal" "intCompact" "J" (.long (5 : Int64))) (P23 : Exa Z Z.heap a10 "java/math/BigDecimal") (P24 : Fld Z Z.heap a10 "java/math/BigDecimal" "scale" "I" (.int (0 : Int32))) (P25 : Fld Z Z.heap a10 "java/math/BigDecimal" "intCompact" "J" (.long (6 : Int64))) (P26 : Exa Z Z.heap a11 "java/math/BigDecimal") (P27 : Fld Z Z.heap a11 "java/math/BigDecimal" "scale" "I" (.int (0 : Int32))) (P28 : Fld Z Z.heap a11 "java/math/BigDecimal" "intCompact" "J" (.long (7 : Int64))) (P29 : Exa Z Z.heap a12 "java/math/BigDecimal") (P30 : Fld Z Z.heap a12 "java/math/BigDecimal" "scale" "I" (.int (0 : Int32))) (P31 : Fld Z Z.heap a12 "java/math/BigDecimal" "intCompact" "J" (.long (8 : Int64))) (P32 : Exa Z Z.heap a13 "java/math/BigDecimal") (P33 : Fld Z Z.heap a13 "java/math/BigDecimal" "scale" "I" (.int (0 : Int32))) (P34 : Fld Z Z.heap a13 "java/math/BigDecimal" "intCompact" "J" (.long (9 : Int64))) (P35 : Exa Z Z.heap a14 "java/math/BigDecimal") (P36 : Fld Z Z.heap a14 "java/math/BigDecimal" "scale" "I" (.int (0 : Int32))) (P37 : Fld Z Z.heap a14 "java/math/BigDecimal" "intCompact" "J" (.long (10 : Int64))) :
    MetFree l (⟨"java/math/BigDecimal", "add", "(JJI)Ljava/math/BigDecimal;"⟩ : MethodName) (head1 (Jvm.Cond.code (⟨"java/math/BigDecimal", "add", "(JJI)Ljava/math/BigDecimal;"⟩ : MethodName) jdk_17_method_133_code 7 (some (.object "java/math/BigDecimal")) :: ws) ({ frames := 5, cells := 1, slots := 5, locals := 69 } : Room)) (fun a U => a = #[(.long (0 : Int64)), (.long q1), (.int (0 : Int32))] ∧ Z.Warmed39 U.vm ∧ U.heap = h0) (fun _ _ _ _ _ => True) (fun _ U o U' => ∃ v L, o = .returned v ∧ Q_rm10_1 Z q1 a2 k3 a4 a5 a6 a7 a8 a9 a10 a11 a12 a13 a14 h0 n0 v U'.heap L ∧ FrameEnd U o U' L ({ frames := 5, cells := 1, slots := 5, locals := 69 } : Room).cells ({ frames := 5, cells := 1, slots := 5, locals := 69 } : Room).slots) := by
  refine MetFree.of_bodySF (plainFor_of_name pn_1) hisR ?_
  intro p e s m args below meth c s₁ Bd hml0 hP hK
  obtain ⟨rfl, hZ, hh⟩ := hP
  have hx := Bd.exec
  have hby := Bd.bytes
  have hml : c.maxLocals = 7 := hml0
  have hown : s.vm.findClass "java/math/BigDecimal" = some m.cls := findClass_of_methodNamed Bd.named
  have hnm := (name_of_methodNamed Bd.named Bd.method).1
  have X0 : Stand p l e ({ frames := 5, cells := 1, slots := 5, locals := 69 } : Room) s m #[(.long (0 : Int64)), (.long q1), (.int (0 : Int32))] below meth c s₁ [] 0 0 := Stand.of_body Bd
  have e0 : s₁.heap = h0 := by rw [← hh, Bd.state]; rfl
  have N0 := Fr.nil n0
  refine Go.start (P := (fun o U' => ∃ v L, o = .returned v ∧ Q_rm10_1 Z q1 a2 k3 a4 a5 a6 a7 a8 a9 a10 a11 a12 a13 a14 h0 n0 v U'.heap L ∧ FrameEnd s o U' L ({ frames := 5, cells := 1, slots := 5, locals := 69 } : Room).cells ({ frames := 5, cells := 1, slots := 5, locals := 69 } : Room).slots)) (castTop (g' := (mkF m 0 #[.val (.long (0 : Int64)), .second, .val (.long q1), .second, .val (.int (0 : Int32)), .unset, .unset] [])) (by first | rfl | simp [entryFrame, mkF, argsToLocals, Value.category]) (T := s₁)) ?_
  refine Go.st (fun t k => XS.lloadN X0.here hx rfl (hb hby d10_0) rfl k) ?_
  show Go p e below _ (s₁.setTop (mkF m 1 #[.val (.long (0 : Int64)), .second, .val (.long q1), .second, .val (.int (0 : Int32)), .unset, .unset] [(.long (0 : Int64))]))
  refine Go.st (fun t k => XS.lloadN X0.here hx rfl (hb hby d10_1) rfl k) ?_
  show Go p e below _ (s₁.setTop (mkF m 2 #[.val (.long (0 : Int64)), .second, .val (.long q1), .second, .val (.int (0 : Int32)), .unset, .unset] [(.long q1), (.long (0 : Int64))]))
  obtain ⟨_, _, ⟨T1, L1, k1, n1⟩, -, X1, ⟨Lc1, hQ1, l1, y1, z1⟩, st1⟩ := Jvm.LawKit.callS X0 hx (y := (⟨"java/math/BigDecimal", "add", "(JJ)J"⟩ : MethodName)) hown (mvT hZ (w67 hw)) (mvT hZ (w68 hw)) (mvT hZ (w2 hw)) (mvT hZ (w69 hw)) (by decide) (backOf (W := 0) (rm11_1 l Z a0 hw [] q1 h0 n0 O0 P1) hZ (w69 hw) (w2 hw) (by decide) (by decide)) (g := (mkF m 2 #[.val (.long (0 : Int64)), .second, .val (.long q1), .second, .val (.int (0 : Int32)), .unset, .unset] [(.long q1), (.long (0 : Int64))])) rfl (by rw [hml]; rfl) (argsL := [(.long (0 : Int64)), (.long q1)]) (rest := []) (lenOf pd_5 rfl) rfl (by show 2 * 0 + _ ≤ _; exact Nat.le_of_eq rfl) (hb hby d10_2) (fun vm₁ hw₁ => ⟨rfl, e0, (by decide : 0 + 0 ≤ _), (by decide : 0 + 0 ≤ _)⟩)
  dsimp only [Pt.U, Pt.locs, Pt.cells, Pt.slots] at X1 l1 y1 z1 st1 hQ1
  subst l1 y1 z1
  obtain ⟨rfl, M1, eh1⟩ := hQ1
  have N1 := Fr.app N0 M1
  refine Go.st st1 ?_
  show Go p e below _ (T1.setTop (mkF m 5 #[.val (.long (0 : Int64)), .second, .val (.long q1), .second, .val (.int (0 : Int32)), .unset, .unset] [(.long ((0 : Int64) + q1))]))
  refine Go.st (fun t k => XS.lstore X1.here hx rfl (hb hby d10_5) rfl (l' := #[.val (.long (0 : Int64)), .second, .val (.long q1), .second, .val (.int (0 : Int32)), .val (.long ((0 : Int64) + q1)), .second]) rfl k) ?_
  show Go p e below _ (T1.setTop (mkF m 7 #[.val (.long (0 : Int64)), .second, .val (.long q1), .second, .val (.int (0 : Int32)), .val (.long ((0 : Int64) + q1)), .second] []))
  refine Go.st (fun t k => XS.lload X1.here hx rfl (hb hby d10_7) rfl k) ?_
  show Go p e below _ (T1.setTop (mkF m 9 #[.val (.long (0 : Int64)), .second, .val (.long q1), .second, .val (.int (0 : Int32)), .val (.long ((0 : Int64) + q1)), .second] [(.long ((0 : Int64) + q1))]))
  refine Go.st (fun t k => X1.ldc2J hx hown (mvT hZ (w58 hw)) (g := (mkF m 9 #[.val (.long (0 : Int64)), .second, .val (.long q1), .second, .val (.int (0 : Int32)), .val (.long ((0 : Int64) + q1)), .second] [(.long ((0 : Int64) + q1))])) rfl (hb hby d10_9) k) ?_
  show Go p e below _ (T1.setTop (mkF m 12 #[.val (.long (0 : Int64)), .second, .val (.long q1), .second, .val (.int (0 : Int32)), .val (.long ((0 : Int64) + q1)), .second] [(.long (-9223372036854775808 : Int64)), (.long ((0 : Int64) + q1))]))
  refine Go.st (fun t k => Jvm.Free.XT.lcmp X1.here hx rfl (hb hby d10_12) rfl k) ?_
  show Go p e below _ (T1.setTop (mkF m 13 #[.val (.long (0 : Int64)), .second, .val (.long q1), .second, .val (.int (0 : Int32)), .val (.long ((0 : Int64) + q1)), .second] [(.int (Jvm.Free.XT.cmpL ((0 : Int64) + q1) (-9223372036854775808 : Int64)))]))
  refine Go.st (fun t k => XS.ifNo X1.here hx rfl (hb hby d10_13) rfl (Jvm.Free.XT.ll_eq_f P2) k) ?_
  show Go p e below _ (T1.setTop (mkF m 16 #[.val (.long (0 : Int64)), .second, .val (.long q1), .second, .val (.int (0 : Int32)), .val (.long ((0 : Int64) + q1)), .second] []))
  refine Go.st (fun t k => XS.lload X1.here hx rfl (hb hby d10_16) rfl k) ?_
  show Go p e below _ (T1.setTop (mkF m 18 #[.val (.long (0 : Int64)), .second, .val (.long q1), .second, .val (.int (0 : Int32)), .val (.long ((0 : Int64) + q1)), .second] [(.long ((0 : Int64) + q1))]))
  refine Go.st (fun t k => XS.iload X1.here hx rfl (hb hby d10_18) rfl k) ?_
  show Go p e below _ (T1.setTop (mkF m 20 #[.val (.long (0 : Int64)), .second, .val (.long q1), .second, .val (.int (0 : Int32)), .val (.long ((0 : Int64) + q1)), .second] [(.int (0 : Int32)), (.long ((0 : Int64) + q1))]))
  obtain ⟨_, _, ⟨T2, L2, k2, n2⟩, -, X2, ⟨Lc2, hQ2, l2, y2, z2⟩, st2⟩ := Jvm.LawKit.callS X1 hx (y := (⟨"java/math/BigDecimal", "valueOf", "(JI)Ljava/math/BigDecimal;"⟩ : MethodName)) hown (mvT hZ (w70 hw)) (mvT hZ (w71 hw)) (mvT hZ (w2 hw)) (mvT hZ (w72 hw)) (by decide) (backOf (W := 0) (rm12_1 l Z a0 hw [] ((0 : Int64) + q1) a2 k3 a4 a5 a6 a7 a8 a9 a10 a11 a12 a13 a14 h0 n0 O0 P2 P3 P4 P5 P6 P7 P8 P9 P10 P11 P12 P13 P14 P15 P16 P17 P18 P19 P20 P21 P22 P23 P24 P25 P26 P27 P28 P29 P30 P31 P32 P33 P34 P35 P36 P37) hZ (w72 hw) (w2 hw) (by decide) (by decide)) (g := (mkF m 20 #[.val (.long (0 : Int64)), .second, .val (.long q1), .second, .val (.int (0 : Int32)), .val (.long ((0 : Int64) + q1)), .second] [(.int (0 : Int32)), (.long ((0 : Int64) + q1))])) rfl (by rw [hml]; rfl) (argsL := [(.long ((0 : Int64) + q1)), (.int (0 : Int32))]) (rest := []) (lenOf pd_6 rfl) rfl (by show 2 * 0 + _ ≤ _; exact Nat.le_of_eq rfl) (hb hby d10_20) (fun vm₁ hw₁ => ⟨rfl, eh1, (by decide : 0 + 1 ≤ _), (by decide : 0 + 5 ≤ _)⟩)
  dsimp only [Pt.U, Pt.locs, Pt.cells, Pt.slots] at X2 l2 y2 z2 st2 hQ2
  subst l2 y2 z2
  obtain ⟨bv_1_2, rfl, M2, K2c, r2_0, r2_1, r2_2⟩ := hQ2
  have N2 := Fr.app N1 M2
  have O2 : Old Z n0 T2.heap := O0.keep K2c all0
  have K2 : Keep h0 T2.heap [] := (Keep.refl h0 []).trans K2c all0
  refine Go.st st2 ?_
  show Go p e below _ (T2.setTop (mkF m 23 #[.val (.long (0 : Int64)), .second, .val (.long q1), .second, .val (.int (0 : Int32)), .val (.long ((0 : Int64) + q1)), .second] [(.ref bv_1_2)]))
  obtain ⟨fs, hr, hrun, hended, hWd, hsame⟩ := X2.leave (v := some (.ref bv_1_2)) (fun h => by rw [Bd.returns] at h; cases h)
  refine ⟨_, _, ?_, hrun, hended, _, _, rfl, ?_, ⟨⟨_, rfl⟩, hWd, hsame.mono (by decide) (by decide)⟩⟩
  · exact own_retA X2 hx Bd.returns rfl rfl (hb hby d10_23) hr
  · show Q_rm10_1 Z q1 a2 k3 a4 a5 a6 a7 a8 a9 a10 a11 a12 a13 a14 h0 n0 _ T2.heap _
    exact ⟨bv_1_2, rfl, N2, K2, r2_0, r2_1, r2_2⟩
def Q_rm9_1 (Z : State) (q1 : Int64) (a2 : Addr) (k3 : ClassId) (a4 : Addr) (a5 : Addr) (a6 : Addr) (a7 : Addr) (a8 : Addr) (a9 : Addr) (a10 : Addr) (a11 : Addr) (a12 : Addr) (a13 : Addr) (a14 : Addr) (h0 : Heap) (n0 : Nat) (v : Option Value) (h : Heap) (L : List Loc) : Prop := ∃ (bv_1_2_1 : Addr), v = some (.ref bv_1_2_1) ∧ Fr n0 L ∧ Keep h0 h [] ∧ Exa Z h bv_1_2_1 "java/math/BigDecimal" ∧ Fld Z h bv_1_2_1 "java/math/BigDecimal" "scale" "I" (.int (0 : Int32)) ∧ Fld Z h bv_1_2_1 "java/math/BigDecimal" "intCompact" "J" (.long ((0 : Int64) + q1))
set_option maxRecDepth 65536 in
set_option maxHeartbeats 40000000 in
theorem rm9_1 (l : Launch) (Z : State) (a0 : Array Value) (hw : ∀ d ∈ tables_1, d.before a0 Z = true) (ws : List Jvm.Cond) (q1 : Int64) (a2 : Addr) (k3 : ClassId) (a4 : Addr) (a5 : Addr) (a6 : Addr) (a7 : Addr) (a8 : Addr) (a9 : Addr) (a10 : Addr) (a11 : Addr) (a12 : Addr) (a13 : Addr) (a14 : Addr) (h0 : Heap) (n0 : Nat) (O0 : Old Z n0 h0) (P1 : ¬ (((((0 : Int64) + q1) ^^^ (0 : Int64)) &&& (((0 : Int64) + q1) ^^^ q1)) < (0 : Int64))) (P2 : ¬ (((0 : Int64) + q1) = (-9223372036854775808 : Int64))) (P3 : Sta Z Z.heap "java/math/BigDecimal" "ZERO_THROUGH_TEN" "[Ljava/math/BigDecimal;" (.ref a2)) (P4 : Arv Z Z.heap a2 k3 (.object "java/math/BigDecimal") (11 : Int32) [(.ref a4), (.ref a5), (.ref a6), (.ref a7), (.ref a8), (.ref a9), (.ref a10), (.ref a11), (.ref a12), (.ref a13), (.ref a14)] .null) (P5 : Exa Z Z.heap a4 "java/math/BigDecimal") (P6 : Fld Z Z.heap a4 "java/math/BigDecimal" "scale" "I" (.int (0 : Int32))) (P7 : Fld Z Z.heap a4 "java/math/BigDecimal" "intCompact" "J" (.long (0 : Int64))) (P8 : Exa Z Z.heap a5 "java/math/BigDecimal") (P9 : Fld Z Z.heap a5 "java/math/BigDecimal" "scale" "I" (.int (0 : Int32))) (P10 : Fld Z Z.heap a5 "java/math/BigDecimal" "intCompact" "J" (.long (1 : Int64))) (P11 : Exa Z Z.heap a6 "java/math/BigDecimal") (P12 : Fld Z Z.heap a6 "java/math/BigDecimal" "scale" "I" (.int (0 : Int32))) (P13 : Fld Z Z.heap a6 "java/math/BigDecimal" "intCompact" "J" (.long (2 : Int64))) (P14 : Exa Z Z.heap a7 "java/math/BigDecimal") (P15 : Fld Z Z.heap a7 "java/math/BigDecimal" "scale" "I" (.int (0 : Int32))) (P16 : Fld Z Z.heap a7 "java/math/BigDecimal" "intCompact" "J" (.long (3 : Int64))) (P17 : Exa Z Z.heap a8 "java/math/BigDecimal") (P18 : Fld Z Z.heap a8 "java/math/BigDecimal" "scale" "I" (.int (0 : Int32))) (P19 : Fld Z Z.heap a8 "java/math/BigDecimal" "intCompact" "J" (.long (4 : Int64))) (P20 : Exa Z Z.heap a9 "java/math/BigDecimal") (P21 : Fld Z Z.heap a9 "java/math/BigDecimal" "scale" "I" (.int (0 : Int32))) (P22 : Fld Z Z.heap a9 "java/math/BigDecimal" "intCompact" "J" (.long (5 : Int64))) (P23 : Exa Z Z.heap a10 "java/math/BigDecimal") (P24 : Fld Z Z.heap a10 "java/math/BigDecimal" "scale" "I" (.int (0 : Int32))) (P25 : Fld Z Z.heap a10 "java/math/BigDecimal" "intCompact" "J" (.long (6 : Int64))) (P26 : Exa Z Z.heap a11 "java/math/BigDecimal") (P27 : Fld Z Z.heap a11 "java/math/BigDecimal" "scale" "I" (.int (0 : Int32))) (P28 : Fld Z Z.heap a11 "java/math/BigDecimal" "intCompact" "J" (.long (7 : Int64))) (P29 : Exa Z Z.heap a12 "java/math/BigDecimal") (P30 : Fld Z Z.heap a12 "java/math/BigDecimal" "scale" "I" (.int (0 : Int32))) (P31 : Fld Z Z.heap a12 "java/math/BigDecimal" "intCompact" "J" (.long (8 : Int64))) (P32 : Exa Z Z.heap a13 "java/math/BigDecimal") (P33 : Fld Z Z.heap a13 "java/math/BigDecimal" "scale" "I" (.int (0 : Int32))) (P34 : Fld Z Z.heap a13 "java/math/BigDecimal" "intCompact" "J" (.long (9 : Int64))) (P35 : Exa Z Z.heap a14 "java/math/BigDecimal") (P36 : Fld Z Z.heap a14 "java/math/BigDecimal" "scale" "I" (.int (0 : Int32))) (P37 : Fld Z Z.heap a14 "java/math/BigDecimal" "intCompact" "J" (.long (10 : Int64))) :
    MetFree l (⟨"java/math/BigDecimal", "add", "(JIJI)Ljava/math/BigDecimal;"⟩ : MethodName) (head1 (Jvm.Cond.code (⟨"java/math/BigDecimal", "add", "(JIJI)Ljava/math/BigDecimal;"⟩ : MethodName) jdk_17_method_134_code 12 (some (.object "java/math/BigDecimal")) :: ws) ({ frames := 6, cells := 1, slots := 5, locals := 87 } : Room)) (fun a U => a = #[(.long (0 : Int64)), (.int (0 : Int32)), (.long q1), (.int (0 : Int32))] ∧ Z.Warmed39 U.vm ∧ U.heap = h0) (fun _ _ _ _ _ => True) (fun _ U o U' => ∃ v L, o = .returned v ∧ Q_rm9_1 Z q1 a2 k3 a4 a5 a6 a7 a8 a9 a10 a11 a12 a13 a14 h0 n0 v U'.heap L ∧ FrameEnd U o U' L ({ frames := 6, cells := 1, slots := 5, locals := 87 } : Room).cells ({ frames := 6, cells := 1, slots := 5, locals := 87 } : Room).slots) := by
  refine MetFree.of_bodySF (plainFor_of_name pn_1) hisR ?_
  intro p e s m args below meth c s₁ Bd hml0 hP hK
  obtain ⟨rfl, hZ, hh⟩ := hP
  have hx := Bd.exec
  have hby := Bd.bytes
  have hml : c.maxLocals = 12 := hml0
  have hown : s.vm.findClass "java/math/BigDecimal" = some m.cls := findClass_of_methodNamed Bd.named
  have hnm := (name_of_methodNamed Bd.named Bd.method).1
  have X0 : Stand p l e ({ frames := 6, cells := 1, slots := 5, locals := 87 } : Room) s m #[(.long (0 : Int64)), (.int (0 : Int32)), (.long q1), (.int (0 : Int32))] below meth c s₁ [] 0 0 := Stand.of_body Bd
  have e0 : s₁.heap = h0 := by rw [← hh, Bd.state]; rfl
  have N0 := Fr.nil n0
  refine Go.start (P := (fun o U' => ∃ v L, o = .returned v ∧ Q_rm9_1 Z q1 a2 k3 a4 a5 a6 a7 a8 a9 a10 a11 a12 a13 a14 h0 n0 v U'.heap L ∧ FrameEnd s o U' L ({ frames := 6, cells := 1, slots := 5, locals := 87 } : Room).cells ({ frames := 6, cells := 1, slots := 5, locals := 87 } : Room).slots)) (castTop (g' := (mkF m 0 #[.val (.long (0 : Int64)), .second, .val (.int (0 : Int32)), .val (.long q1), .second, .val (.int (0 : Int32)), .unset, .unset, .unset, .unset, .unset, .unset] [])) (by first | rfl | simp [entryFrame, mkF, argsToLocals, Value.category]) (T := s₁)) ?_
  refine Go.st (fun t k => XS.iloadN X0.here hx rfl (hb hby d9_0) rfl k) ?_
  show Go p e below _ (s₁.setTop (mkF m 1 #[.val (.long (0 : Int64)), .second, .val (.int (0 : Int32)), .val (.long q1), .second, .val (.int (0 : Int32)), .unset, .unset, .unset, .unset, .unset, .unset] [(.int (0 : Int32))]))
  refine Go.st (fun t k => XS.i2l X0.here hx rfl (hb hby d9_1) rfl k) ?_
  show Go p e below _ (s₁.setTop (mkF m 2 #[.val (.long (0 : Int64)), .second, .val (.int (0 : Int32)), .val (.long q1), .second, .val (.int (0 : Int32)), .unset, .unset, .unset, .unset, .unset, .unset] [(.long (0 : Int64))]))
  refine Go.st (fun t k => XS.iload X0.here hx rfl (hb hby d9_2) rfl k) ?_
  show Go p e below _ (s₁.setTop (mkF m 4 #[.val (.long (0 : Int64)), .second, .val (.int (0 : Int32)), .val (.long q1), .second, .val (.int (0 : Int32)), .unset, .unset, .unset, .unset, .unset, .unset] [(.int (0 : Int32)), (.long (0 : Int64))]))
  refine Go.st (fun t k => XS.i2l X0.here hx rfl (hb hby d9_4) rfl k) ?_
  show Go p e below _ (s₁.setTop (mkF m 5 #[.val (.long (0 : Int64)), .second, .val (.int (0 : Int32)), .val (.long q1), .second, .val (.int (0 : Int32)), .unset, .unset, .unset, .unset, .unset, .unset] [(.long (0 : Int64)), (.long (0 : Int64))]))
  refine Go.st (fun t k => XS.lsub X0.here hx rfl (hb hby d9_5) rfl k) ?_
  show Go p e below _ (s₁.setTop (mkF m 6 #[.val (.long (0 : Int64)), .second, .val (.int (0 : Int32)), .val (.long q1), .second, .val (.int (0 : Int32)), .unset, .unset, .unset, .unset, .unset, .unset] [(.long (0 : Int64))]))
  refine Go.st (fun t k => XS.lstore X0.here hx rfl (hb hby d9_6) rfl (l' := #[.val (.long (0 : Int64)), .second, .val (.int (0 : Int32)), .val (.long q1), .second, .val (.int (0 : Int32)), .val (.long (0 : Int64)), .second, .unset, .unset, .unset, .unset]) rfl k) ?_
  show Go p e below _ (s₁.setTop (mkF m 8 #[.val (.long (0 : Int64)), .second, .val (.int (0 : Int32)), .val (.long q1), .second, .val (.int (0 : Int32)), .val (.long (0 : Int64)), .second, .unset, .unset, .unset, .unset] []))
  refine Go.st (fun t k => XS.lload X0.here hx rfl (hb hby d9_8) rfl k) ?_
  show Go p e below _ (s₁.setTop (mkF m 10 #[.val (.long (0 : Int64)), .second, .val (.int (0 : Int32)), .val (.long q1), .second, .val (.int (0 : Int32)), .val (.long (0 : Int64)), .second, .unset, .unset, .unset, .unset] [(.long (0 : Int64))]))
  refine Go.st (fun t k => XS.lconst X0.here hx rfl (hb hby d9_10) k) ?_
  show Go p e below _ (s₁.setTop (mkF m 11 #[.val (.long (0 : Int64)), .second, .val (.int (0 : Int32)), .val (.long q1), .second, .val (.int (0 : Int32)), .val (.long (0 : Int64)), .second, .unset, .unset, .unset, .unset] [(.long (0 : Int64)), (.long (0 : Int64))]))
  refine Go.st (fun t k => Jvm.Free.XT.lcmp X0.here hx rfl (hb hby d9_11) rfl k) ?_
  show Go p e below _ (s₁.setTop (mkF m 12 #[.val (.long (0 : Int64)), .second, .val (.int (0 : Int32)), .val (.long q1), .second, .val (.int (0 : Int32)), .val (.long (0 : Int64)), .second, .unset, .unset, .unset, .unset] [(.int (Jvm.Free.XT.cmpL (0 : Int64) (0 : Int64)))]))
  refine Go.st (fun t k => XS.ifNo X0.here hx rfl (hb hby d9_12) rfl (Jvm.Free.XT.ll_ne_f (by decide : (0 : Int64) = (0 : Int64))) k) ?_
  show Go p e below _ (s₁.setTop (mkF m 15 #[.val (.long (0 : Int64)), .second, .val (.int (0 : Int32)), .val (.long q1), .second, .val (.int (0 : Int32)), .val (.long (0 : Int64)), .second, .unset, .unset, .unset, .unset] []))
  refine Go.st (fun t k => XS.lloadN X0.here hx rfl (hb hby d9_15) rfl k) ?_
  show Go p e below _ (s₁.setTop (mkF m 16 #[.val (.long (0 : Int64)), .second, .val (.int (0 : Int32)), .val (.long q1), .second, .val (.int (0 : Int32)), .val (.long (0 : Int64)), .second, .unset, .unset, .unset, .unset] [(.long (0 : Int64))]))
  refine Go.st (fun t k => XS.lloadN X0.here hx rfl (hb hby d9_16) rfl k) ?_
  show Go p e below _ (s₁.setTop (mkF m 17 #[.val (.long (0 : Int64)), .second, .val (.int (0 : Int32)), .val (.long q1), .second, .val (.int (0 : Int32)), .val (.long (0 : Int64)), .second, .unset, .unset, .unset, .unset] [(.long q1), (.long (0 : Int64))]))
  refine Go.st (fun t k => XS.iloadN X0.here hx rfl (hb hby d9_17) rfl k) ?_
  show Go p e below _ (s₁.setTop (mkF m 18 #[.val (.long (0 : Int64)), .second, .val (.int (0 : Int32)), .val (.long q1), .second, .val (.int (0 : Int32)), .val (.long (0 : Int64)), .second, .unset, .unset, .unset, .unset] [(.int (0 : Int32)), (.long q1), (.long (0 : Int64))]))
  obtain ⟨_, _, ⟨T1, L1, k1, n1⟩, -, X1, ⟨Lc1, hQ1, l1, y1, z1⟩, st1⟩ := Jvm.LawKit.callS X0 hx (y := (⟨"java/math/BigDecimal", "add", "(JJI)Ljava/math/BigDecimal;"⟩ : MethodName)) hown (mvT hZ (w64 hw)) (mvT hZ (w65 hw)) (mvT hZ (w2 hw)) (mvT hZ (w66 hw)) (by decide) (backOf (W := 0) (rm10_1 l Z a0 hw [] q1 a2 k3 a4 a5 a6 a7 a8 a9 a10 a11 a12 a13 a14 h0 n0 O0 P1 P2 P3 P4 P5 P6 P7 P8 P9 P10 P11 P12 P13 P14 P15 P16 P17 P18 P19 P20 P21 P22 P23 P24 P25 P26 P27 P28 P29 P30 P31 P32 P33 P34 P35 P36 P37) hZ (w66 hw) (w2 hw) (by decide) (by decide)) (g := (mkF m 18 #[.val (.long (0 : Int64)), .second, .val (.int (0 : Int32)), .val (.long q1), .second, .val (.int (0 : Int32)), .val (.long (0 : Int64)), .second, .unset, .unset, .unset, .unset] [(.int (0 : Int32)), (.long q1), (.long (0 : Int64))])) rfl (by rw [hml]; rfl) (argsL := [(.long (0 : Int64)), (.long q1), (.int (0 : Int32))]) (rest := []) (lenOf pd_7 rfl) rfl (by show 2 * 0 + _ ≤ _; exact Nat.le_of_eq rfl) (hb hby d9_18) (fun vm₁ hw₁ => ⟨rfl, e0, (by decide : 0 + 1 ≤ _), (by decide : 0 + 5 ≤ _)⟩)
  dsimp only [Pt.U, Pt.locs, Pt.cells, Pt.slots] at X1 l1 y1 z1 st1 hQ1
  subst l1 y1 z1
  obtain ⟨bv_1_2_1, rfl, M1, K1c, r1_0, r1_1, r1_2⟩ := hQ1
  have N1 := Fr.app N0 M1
  have O1 : Old Z n0 T1.heap := O0.keep K1c all0
  have K1 : Keep h0 T1.heap [] := (Keep.refl h0 []).trans K1c all0
  refine Go.st st1 ?_
  show Go p e below _ (T1.setTop (mkF m 21 #[.val (.long (0 : Int64)), .second, .val (.int (0 : Int32)), .val (.long q1), .second, .val (.int (0 : Int32)), .val (.long (0 : Int64)), .second, .unset, .unset, .unset, .unset] [(.ref bv_1_2_1)]))
  obtain ⟨fs, hr, hrun, hended, hWd, hsame⟩ := X1.leave (v := some (.ref bv_1_2_1)) (fun h => by rw [Bd.returns] at h; cases h)
  refine ⟨_, _, ?_, hrun, hended, _, _, rfl, ?_, ⟨⟨_, rfl⟩, hWd, hsame.mono (by decide) (by decide)⟩⟩
  · exact own_retA X1 hx Bd.returns rfl rfl (hb hby d9_21) hr
  · show Q_rm9_1 Z q1 a2 k3 a4 a5 a6 a7 a8 a9 a10 a11 a12 a13 a14 h0 n0 _ T1.heap _
    exact ⟨bv_1_2_1, rfl, N1, K1, r1_0, r1_1, r1_2⟩
def Q_rm8_1 (Z : State) (a1 : Addr) (a2 : Addr) (q3 : Int64) (a4 : Addr) (k5 : ClassId) (a6 : Addr) (a7 : Addr) (a8 : Addr) (a9 : Addr) (a10 : Addr) (a11 : Addr) (a12 : Addr) (a13 : Addr) (a14 : Addr) (a15 : Addr) (h0 : Heap) (n0 : Nat) (v : Option Value) (h : Heap) (L : List Loc) : Prop := ∃ (bv_1_2_1_7 : Addr), v = some (.ref bv_1_2_1_7) ∧ Fr n0 L ∧ Keep h0 h [] ∧ Exa Z h bv_1_2_1_7 "java/math/BigDecimal" ∧ Fld Z h bv_1_2_1_7 "java/math/BigDecimal" "scale" "I" (.int (0 : Int32)) ∧ Fld Z h bv_1_2_1_7 "java/math/BigDecimal" "intCompact" "J" (.long ((0 : Int64) + q3))
set_option maxRecDepth 65536 in
set_option maxHeartbeats 40000000 in
theorem rm8_1 (l : Launch) (Z : State) (a0 : Array Value) (hw : ∀ d ∈ tables_1, d.before a0 Z = true) (ws : List Jvm.Cond) (a1 : Addr) (a2 : Addr) (q3 : Int64) (a4 : Addr) (k5 : ClassId) (a6 : Addr) (a7 : Addr) (a8 : Addr) (a9 : Addr) (a10 : Addr) (a11 : Addr) (a12 : Addr) (a13 : Addr) (a14 : Addr) (a15 : Addr) (h0 : Heap) (n0 : Nat) (O0 : Old Z n0 h0) (P1 : Fld Z Z.heap a1 "java/math/BigDecimal" "intCompact" "J" (.long (0 : Int64))) (P2 : Fld Z h0 a2 "java/math/BigDecimal" "intCompact" "J" (.long q3)) (P3 : ¬ (q3 = (-9223372036854775808 : Int64))) (P4 : Fld Z Z.heap a1 "java/math/BigDecimal" "scale" "I" (.int (0 : Int32))) (P5 : Fld Z h0 a2 "java/math/BigDecimal" "scale" "I" (.int (0 : Int32))) (P6 : ¬ (((((0 : Int64) + q3) ^^^ (0 : Int64)) &&& (((0 : Int64) + q3) ^^^ q3)) < (0 : Int64))) (P7 : ¬ (((0 : Int64) + q3) = (-9223372036854775808 : Int64))) (P8 : Sta Z Z.heap "java/math/BigDecimal" "ZERO_THROUGH_TEN" "[Ljava/math/BigDecimal;" (.ref a4)) (P9 : Arv Z Z.heap a4 k5 (.object "java/math/BigDecimal") (11 : Int32) [(.ref a1), (.ref a6), (.ref a7), (.ref a8), (.ref a9), (.ref a10), (.ref a11), (.ref a12), (.ref a13), (.ref a14), (.ref a15)] .null) (P10 : Exa Z Z.heap a1 "java/math/BigDecimal") (P11 : Exa Z Z.heap a6 "java/math/BigDecimal") (P12 : Fld Z Z.heap a6 "java/math/BigDecimal" "scale" "I" (.int (0 : Int32))) (P13 : Fld Z Z.heap a6 "java/math/BigDecimal" "intCompact" "J" (.long (1 : Int64))) (P14 : Exa Z Z.heap a7 "java/math/BigDecimal") (P15 : Fld Z Z.heap a7 "java/math/BigDecimal" "scale" "I" (.int (0 : Int32))) (P16 : Fld Z Z.heap a7 "java/math/BigDecimal" "intCompact" "J" (.long (2 : Int64))) (P17 : Exa Z Z.heap a8 "java/math/BigDecimal") (P18 : Fld Z Z.heap a8 "java/math/BigDecimal" "scale" "I" (.int (0 : Int32))) (P19 : Fld Z Z.heap a8 "java/math/BigDecimal" "intCompact" "J" (.long (3 : Int64))) (P20 : Exa Z Z.heap a9 "java/math/BigDecimal") (P21 : Fld Z Z.heap a9 "java/math/BigDecimal" "scale" "I" (.int (0 : Int32))) (P22 : Fld Z Z.heap a9 "java/math/BigDecimal" "intCompact" "J" (.long (4 : Int64))) (P23 : Exa Z Z.heap a10 "java/math/BigDecimal") (P24 : Fld Z Z.heap a10 "java/math/BigDecimal" "scale" "I" (.int (0 : Int32))) (P25 : Fld Z Z.heap a10 "java/math/BigDecimal" "intCompact" "J" (.long (5 : Int64))) (P26 : Exa Z Z.heap a11 "java/math/BigDecimal") (P27 : Fld Z Z.heap a11 "java/math/BigDecimal" "scale" "I" (.int (0 : Int32))) (P28 : Fld Z Z.heap a11 "java/math/BigDecimal" "intCompact" "J" (.long (6 : Int64))) (P29 : Exa Z Z.heap a12 "java/math/BigDecimal") (P30 : Fld Z Z.heap a12 "java/math/BigDecimal" "scale" "I" (.int (0 : Int32))) (P31 : Fld Z Z.heap a12 "java/math/BigDecimal" "intCompact" "J" (.long (7 : Int64))) (P32 : Exa Z Z.heap a13 "java/math/BigDecimal") (P33 : Fld Z Z.heap a13 "java/math/BigDecimal" "scale" "I" (.int (0 : Int32))) (P34 : Fld Z Z.heap a13 "java/math/BigDecimal" "intCompact" "J" (.long (8 : Int64))) (P35 : Exa Z Z.heap a14 "java/math/BigDecimal") (P36 : Fld Z Z.heap a14 "java/math/BigDecimal" "scale" "I" (.int (0 : Int32))) (P37 : Fld Z Z.heap a14 "java/math/BigDecimal" "intCompact" "J" (.long (9 : Int64))) (P38 : Exa Z Z.heap a15 "java/math/BigDecimal") (P39 : Fld Z Z.heap a15 "java/math/BigDecimal" "scale" "I" (.int (0 : Int32))) (P40 : Fld Z Z.heap a15 "java/math/BigDecimal" "intCompact" "J" (.long (10 : Int64))) :
    MetFree l (⟨"java/math/BigDecimal", "add", "(Ljava/math/BigDecimal;)Ljava/math/BigDecimal;"⟩ : MethodName) (head1 (Jvm.Cond.code (⟨"java/math/BigDecimal", "add", "(Ljava/math/BigDecimal;)Ljava/math/BigDecimal;"⟩ : MethodName) jdk_17_method_26_code 2 (some (.object "java/math/BigDecimal")) :: ws) ({ frames := 7, cells := 1, slots := 5, locals := 110 } : Room)) (fun a U => a = #[(.ref a1), (.ref a2)] ∧ Z.Warmed39 U.vm ∧ U.heap = h0) (fun _ _ _ _ _ => True) (fun _ U o U' => ∃ v L, o = .returned v ∧ Q_rm8_1 Z a1 a2 q3 a4 k5 a6 a7 a8 a9 a10 a11 a12 a13 a14 a15 h0 n0 v U'.heap L ∧ FrameEnd U o U' L ({ frames := 7, cells := 1, slots := 5, locals := 110 } : Room).cells ({ frames := 7, cells := 1, slots := 5, locals := 110 } : Room).slots) := by
  refine MetFree.of_bodySF (plainFor_of_name pn_1) hisR ?_
  intro p e s m args below meth c s₁ Bd hml0 hP hK
  obtain ⟨rfl, hZ, hh⟩ := hP
  have hx := Bd.exec
  have hby := Bd.bytes
  have hml : c.maxLocals = 2 := hml0
  have hown : s.vm.findClass "java/math/BigDecimal" = some m.cls := findClass_of_methodNamed Bd.named
  have hnm := (name_of_methodNamed Bd.named Bd.method).1
  have X0 : Stand p l e ({ frames := 7, cells := 1, slots := 5, locals := 110 } : Room) s m #[(.ref a1), (.ref a2)] below meth c s₁ [] 0 0 := Stand.of_body Bd
  have e0 : s₁.heap = h0 := by rw [← hh, Bd.state]; rfl
  have N0 := Fr.nil n0
  refine Go.start (P := (fun o U' => ∃ v L, o = .returned v ∧ Q_rm8_1 Z a1 a2 q3 a4 k5 a6 a7 a8 a9 a10 a11 a12 a13 a14 a15 h0 n0 v U'.heap L ∧ FrameEnd s o U' L ({ frames := 7, cells := 1, slots := 5, locals := 110 } : Room).cells ({ frames := 7, cells := 1, slots := 5, locals := 110 } : Room).slots)) (castTop (g' := (mkF m 0 #[.val (.ref a1), .val (.ref a2)] [])) (by first | rfl | simp [entryFrame, mkF, argsToLocals, Value.category]) (T := s₁)) ?_
  refine Go.st (fun t k => XS.aloadN X0.here hx rfl (hb hby d8_0) rfl rfl k) ?_
  show Go p e below _ (s₁.setTop (mkF m 1 #[.val (.ref a1), .val (.ref a2)] [(.ref a1)]))
  obtain ⟨T1, X1, e1, st1⟩ := getF X0 hx hZ hown (host := "") (Or.inl (w56 hw)) Via.refl e0 (P1.ext O0.2) (g := (mkF m 1 #[.val (.ref a1), .val (.ref a2)] [(.ref a1)])) rfl rfl (hb hby d8_1)
  refine Go.st st1 ?_
  show Go p e below _ (T1.setTop (mkF m 4 #[.val (.ref a1), .val (.ref a2)] [(.long (0 : Int64))]))
  refine Go.st (fun t k => X1.ldc2J hx hown (mvT hZ (w58 hw)) (g := (mkF m 4 #[.val (.ref a1), .val (.ref a2)] [(.long (0 : Int64))])) rfl (hb hby d8_4) k) ?_
  show Go p e below _ (T1.setTop (mkF m 7 #[.val (.ref a1), .val (.ref a2)] [(.long (-9223372036854775808 : Int64)), (.long (0 : Int64))]))
  refine Go.st (fun t k => Jvm.Free.XT.lcmp X1.here hx rfl (hb hby d8_7) rfl k) ?_
  show Go p e below _ (T1.setTop (mkF m 8 #[.val (.ref a1), .val (.ref a2)] [(.int (Jvm.Free.XT.cmpL (0 : Int64) (-9223372036854775808 : Int64)))]))
  refine Go.st (fun t k => XS.ifNo X1.here hx rfl (hb hby d8_8) rfl (Jvm.Free.XT.ll_eq_f (by decide : ¬ ((0 : Int64) = (-9223372036854775808 : Int64)))) k) ?_
  show Go p e below _ (T1.setTop (mkF m 11 #[.val (.ref a1), .val (.ref a2)] []))
  refine Go.st (fun t k => XS.aloadN X1.here hx rfl (hb hby d8_11) rfl rfl k) ?_
  show Go p e below _ (T1.setTop (mkF m 12 #[.val (.ref a1), .val (.ref a2)] [(.ref a2)]))
  obtain ⟨T2, X2, e2, st2⟩ := getF X1 hx hZ hown (host := "") (Or.inl (w56 hw)) Via.refl e1 P2 (g := (mkF m 12 #[.val (.ref a1), .val (.ref a2)] [(.ref a2)])) rfl rfl (hb hby d8_12)
  refine Go.st st2 ?_
  show Go p e below _ (T2.setTop (mkF m 15 #[.val (.ref a1), .val (.ref a2)] [(.long q3)]))
  refine Go.st (fun t k => X2.ldc2J hx hown (mvT hZ (w58 hw)) (g := (mkF m 15 #[.val (.ref a1), .val (.ref a2)] [(.long q3)])) rfl (hb hby d8_15) k) ?_
  show Go p e below _ (T2.setTop (mkF m 18 #[.val (.ref a1), .val (.ref a2)] [(.long (-9223372036854775808 : Int64)), (.long q3)]))
  refine Go.st (fun t k => Jvm.Free.XT.lcmp X2.here hx rfl (hb hby d8_18) rfl k) ?_
  show Go p e below _ (T2.setTop (mkF m 19 #[.val (.ref a1), .val (.ref a2)] [(.int (Jvm.Free.XT.cmpL q3 (-9223372036854775808 : Int64)))]))
  refine Go.st (fun t k => XS.ifNo X2.here hx rfl (hb hby d8_19) rfl (Jvm.Free.XT.ll_eq_f P3) k) ?_
  show Go p e below _ (T2.setTop (mkF m 22 #[.val (.ref a1), .val (.ref a2)] []))
  refine Go.st (fun t k => XS.aloadN X2.here hx rfl (hb hby d8_22) rfl rfl k) ?_
  show Go p e below _ (T2.setTop (mkF m 23 #[.val (.ref a1), .val (.ref a2)] [(.ref a1)]))
  obtain ⟨T3, X3, e3, st3⟩ := getF X2 hx hZ hown (host := "") (Or.inl (w56 hw)) Via.refl e2 (P1.ext O0.2) (g := (mkF m 23 #[.val (.ref a1), .val (.ref a2)] [(.ref a1)])) rfl rfl (hb hby d8_23)
  refine Go.st st3 ?_
  show Go p e below _ (T3.setTop (mkF m 26 #[.val (.ref a1), .val (.ref a2)] [(.long (0 : Int64))]))
  refine Go.st (fun t k => XS.aloadN X3.here hx rfl (hb hby d8_26) rfl rfl k) ?_
  show Go p e below _ (T3.setTop (mkF m 27 #[.val (.ref a1), .val (.ref a2)] [(.ref a1), (.long (0 : Int64))]))
  obtain ⟨T4, X4, e4, st4⟩ := getF X3 hx hZ hown (host := "") (Or.inl (w59 hw)) Via.refl e3 (P4.ext O0.2) (g := (mkF m 27 #[.val (.ref a1), .val (.ref a2)] [(.ref a1), (.long (0 : Int64))])) rfl rfl (hb hby d8_27)
  refine Go.st st4 ?_
  show Go p e below _ (T4.setTop (mkF m 30 #[.val (.ref a1), .val (.ref a2)] [(.int (0 : Int32)), (.long (0 : Int64))]))
  refine Go.st (fun t k => XS.aloadN X4.here hx rfl (hb hby d8_30) rfl rfl k) ?_
  show Go p e below _ (T4.setTop (mkF m 31 #[.val (.ref a1), .val (.ref a2)] [(.ref a2), (.int (0 : Int32)), (.long (0 : Int64))]))
  obtain ⟨T5, X5, e5, st5⟩ := getF X4 hx hZ hown (host := "") (Or.inl (w56 hw)) Via.refl e4 P2 (g := (mkF m 31 #[.val (.ref a1), .val (.ref a2)] [(.ref a2), (.int (0 : Int32)), (.long (0 : Int64))])) rfl rfl (hb hby d8_31)
  refine Go.st st5 ?_
  show Go p e below _ (T5.setTop (mkF m 34 #[.val (.ref a1), .val (.ref a2)] [(.long q3), (.int (0 : Int32)), (.long (0 : Int64))]))
  refine Go.st (fun t k => XS.aloadN X5.here hx rfl (hb hby d8_34) rfl rfl k) ?_
  show Go p e below _ (T5.setTop (mkF m 35 #[.val (.ref a1), .val (.ref a2)] [(.ref a2), (.long q3), (.int (0 : Int32)), (.long (0 : Int64))]))
  obtain ⟨T6, X6, e6, st6⟩ := getF X5 hx hZ hown (host := "") (Or.inl (w59 hw)) Via.refl e5 P5 (g := (mkF m 35 #[.val (.ref a1), .val (.ref a2)] [(.ref a2), (.long q3), (.int (0 : Int32)), (.long (0 : Int64))])) rfl rfl (hb hby d8_35)
  refine Go.st st6 ?_
  show Go p e below _ (T6.setTop (mkF m 38 #[.val (.ref a1), .val (.ref a2)] [(.int (0 : Int32)), (.long q3), (.int (0 : Int32)), (.long (0 : Int64))]))
  obtain ⟨_, _, ⟨T7, L7, k7, n7⟩, -, X7, ⟨Lc7, hQ7, l7, y7, z7⟩, st7⟩ := Jvm.LawKit.callS X6 hx (y := (⟨"java/math/BigDecimal", "add", "(JIJI)Ljava/math/BigDecimal;"⟩ : MethodName)) hown (mvT hZ (w61 hw)) (mvT hZ (w62 hw)) (mvT hZ (w2 hw)) (mvT hZ (w63 hw)) (by decide) (backOf (W := 0) (rm9_1 l Z a0 hw [] q3 a4 k5 a1 a6 a7 a8 a9 a10 a11 a12 a13 a14 a15 h0 n0 O0 P6 P7 P8 P9 P10 P4 P1 P11 P12 P13 P14 P15 P16 P17 P18 P19 P20 P21 P22 P23 P24 P25 P26 P27 P28 P29 P30 P31 P32 P33 P34 P35 P36 P37 P38 P39 P40) hZ (w63 hw) (w2 hw) (by decide) (by decide)) (g := (mkF m 38 #[.val (.ref a1), .val (.ref a2)] [(.int (0 : Int32)), (.long q3), (.int (0 : Int32)), (.long (0 : Int64))])) rfl (by rw [hml]; rfl) (argsL := [(.long (0 : Int64)), (.int (0 : Int32)), (.long q3), (.int (0 : Int32))]) (rest := []) (lenOf pd_8 rfl) rfl (by show 2 * 0 + _ ≤ _; exact Nat.le_of_eq rfl) (hb hby d8_38) (fun vm₁ hw₁ => ⟨rfl, e6, (by decide : 0 + 1 ≤ _), (by decide : 0 + 5 ≤ _)⟩)
  dsimp only [Pt.U, Pt.locs, Pt.cells, Pt.slots] at X7 l7 y7 z7 st7 hQ7
  subst l7 y7 z7
  obtain ⟨bv_1_2_1_7, rfl, M7, K7c, r7_0, r7_1, r7_2⟩ := hQ7
  have N7 := Fr.app N0 M7
  have O7 : Old Z n0 T7.heap := O0.keep K7c all0
  have K7 : Keep h0 T7.heap [] := (Keep.refl h0 []).trans K7c all0
  refine Go.st st7 ?_
  show Go p e below _ (T7.setTop (mkF m 41 #[.val (.ref a1), .val (.ref a2)] [(.ref bv_1_2_1_7)]))
  obtain ⟨fs, hr, hrun, hended, hWd, hsame⟩ := X7.leave (v := some (.ref bv_1_2_1_7)) (fun h => by rw [Bd.returns] at h; cases h)
  refine ⟨_, _, ?_, hrun, hended, _, _, rfl, ?_, ⟨⟨_, rfl⟩, hWd, hsame.mono (by decide) (by decide)⟩⟩
  · exact own_retA X7 hx Bd.returns rfl rfl (hb hby d8_41) hr
  · show Q_rm8_1 Z a1 a2 q3 a4 k5 a6 a7 a8 a9 a10 a11 a12 a13 a14 a15 h0 n0 _ T7.heap _
    exact ⟨bv_1_2_1_7, rfl, N7, K7, r7_0, r7_1, r7_2⟩
def Q_rm13_1 (Z : State) (a1 : Addr) (h0 : Heap) (n0 : Nat) (v : Option Value) (h : Heap) (L : List Loc) : Prop := v = some .null ∧ Fr n0 L ∧ h = h0
set_option maxRecDepth 65536 in
set_option maxHeartbeats 40000000 in
theorem rm13_1 (l : Launch) (Z : State) (a0 : Array Value) (hw : ∀ d ∈ tables_1, d.before a0 Z = true) (ws : List Jvm.Cond) (a1 : Addr) (h0 : Heap) (n0 : Nat) (O0 : Old Z n0 h0) (P1 : Fld Z h0 a1 "com/example/cropmark/cropmark/Weights" "inedibleLb" "Ljava/math/BigDecimal;" .null) :
    MetFree l (⟨"com/example/cropmark/cropmark/Weights", "inedibleLb", "()Ljava/math/BigDecimal;"⟩ : MethodName) (head1 (Jvm.Cond.code (⟨"com/example/cropmark/cropmark/Weights", "inedibleLb", "()Ljava/math/BigDecimal;"⟩ : MethodName) prog_92_method_7_code 1 (some (.object "java/math/BigDecimal")) :: ws) ({ frames := 0, cells := 0, slots := 0, locals := 0 } : Room)) (fun a U => a = #[(.ref a1)] ∧ Z.Warmed39 U.vm ∧ U.heap = h0) (fun _ _ _ _ _ => True) (fun _ U o U' => ∃ v L, o = .returned v ∧ Q_rm13_1 Z a1 h0 n0 v U'.heap L ∧ FrameEnd U o U' L ({ frames := 0, cells := 0, slots := 0, locals := 0 } : Room).cells ({ frames := 0, cells := 0, slots := 0, locals := 0 } : Room).slots) := by
  refine MetFree.of_bodySF (plainFor_of_name pn_3) hisR ?_
  intro p e s m args below meth c s₁ Bd hml0 hP hK
  obtain ⟨rfl, hZ, hh⟩ := hP
  have hx := Bd.exec
  have hby := Bd.bytes
  have hml : c.maxLocals = 1 := hml0
  have hown : s.vm.findClass "com/example/cropmark/cropmark/Weights" = some m.cls := findClass_of_methodNamed Bd.named
  have hnm := (name_of_methodNamed Bd.named Bd.method).1
  have X0 : Stand p l e ({ frames := 0, cells := 0, slots := 0, locals := 0 } : Room) s m #[(.ref a1)] below meth c s₁ [] 0 0 := Stand.of_body Bd
  have e0 : s₁.heap = h0 := by rw [← hh, Bd.state]; rfl
  have N0 := Fr.nil n0
  refine Go.start (P := (fun o U' => ∃ v L, o = .returned v ∧ Q_rm13_1 Z a1 h0 n0 v U'.heap L ∧ FrameEnd s o U' L ({ frames := 0, cells := 0, slots := 0, locals := 0 } : Room).cells ({ frames := 0, cells := 0, slots := 0, locals := 0 } : Room).slots)) (castTop (g' := (mkF m 0 #[.val (.ref a1)] [])) (by first | rfl | simp [entryFrame, mkF, argsToLocals, Value.category]) (T := s₁)) ?_
  refine Go.st (fun t k => XS.aloadN X0.here hx rfl (hb hby d13_0) rfl rfl k) ?_
  show Go p e below _ (s₁.setTop (mkF m 1 #[.val (.ref a1)] [(.ref a1)]))
  obtain ⟨T1, X1, e1, st1⟩ := getF X0 hx hZ hown (host := "") (Or.inl (w21 hw)) Via.refl e0 P1 (g := (mkF m 1 #[.val (.ref a1)] [(.ref a1)])) rfl rfl (hb hby d13_1)
  refine Go.st st1 ?_
  show Go p e below _ (T1.setTop (mkF m 4 #[.val (.ref a1)] [.null]))
  obtain ⟨fs, hr, hrun, hended, hWd, hsame⟩ := X1.leave (v := some .null) (fun h => by rw [Bd.returns] at h; cases h)
  refine ⟨_, _, ?_, hrun, hended, _, _, rfl, ?_, ⟨⟨_, rfl⟩, hWd, hsame.mono (by decide) (by decide)⟩⟩
  · exact own_retA X1 hx Bd.returns rfl rfl (hb hby d13_4) hr
  · show Q_rm13_1 Z a1 h0 n0 _ T1.heap _
    rw [e1]
    exact ⟨rfl, N0, rfl⟩
def Q_rm6_1 (Z : State) (a1 : Addr) (a2 : Addr) (a3 : Addr) (a4 : Addr) (q5 : Int64) (a6 : Addr) (k7 : ClassId) (a8 : Addr) (a9 : Addr) (a10 : Addr) (a11 : Addr) (a12 : Addr) (a13 : Addr) (a14 : Addr) (a15 : Addr) (a16 : Addr) (a17 : Addr) (h0 : Heap) (n0 : Nat) (v : Option Value) (h : Heap) (L : List Loc) : Prop := ∃ (bv_1_2_1_7_6 : Addr), v = none ∧ Fr n0 L ∧ Keep h0 h [a1] ∧ Fld Z h a1 "com/example/cropmark/cropmark/Assessment$Sums" "lots" "I" (.int (1 : Int32)) ∧ Fld Z h a1 "com/example/cropmark/cropmark/Assessment$Sums" "assessedLb" "Ljava/math/BigDecimal;" (.ref bv_1_2_1_7_6) ∧ Fld Z h a1 "com/example/cropmark/cropmark/Assessment$Sums" "inedibleLb" "Ljava/math/BigDecimal;" (.ref a3) ∧ Exa Z h bv_1_2_1_7_6 "java/math/BigDecimal" ∧ Fld Z h bv_1_2_1_7_6 "java/math/BigDecimal" "scale" "I" (.int (0 : Int32)) ∧ Fld Z h bv_1_2_1_7_6 "java/math/BigDecimal" "intCompact" "J" (.long ((0 : Int64) + q5))
set_option maxRecDepth 65536 in
set_option maxHeartbeats 40000000 in
theorem rm6_1 (l : Launch) (Z : State) (a0 : Array Value) (hw : ∀ d ∈ tables_1, d.before a0 Z = true) (ws : List Jvm.Cond) (a1 : Addr) (a2 : Addr) (a3 : Addr) (a4 : Addr) (q5 : Int64) (a6 : Addr) (k7 : ClassId) (a8 : Addr) (a9 : Addr) (a10 : Addr) (a11 : Addr) (a12 : Addr) (a13 : Addr) (a14 : Addr) (a15 : Addr) (a16 : Addr) (a17 : Addr) (h0 : Heap) (n0 : Nat) (O0 : Old Z n0 h0) (P1 : Fld Z h0 a1 "com/example/cropmark/cropmark/Assessment$Sums" "lots" "I" (.int (0 : Int32))) (P2 : Exa Z h0 a1 "com/example/cropmark/cropmark/Assessment$Sums") (P3 : n0 ≤ a1) (P4 : Fld Z h0 a1 "com/example/cropmark/cropmark/Assessment$Sums" "assessedLb" "Ljava/math/BigDecimal;" (.ref a3)) (P5 : Exa Z h0 a2 "com/example/cropmark/cropmark/Weights") (P6 : Fld Z h0 a2 "com/example/cropmark/cropmark/Weights" "assessedLb" "Ljava/math/BigDecimal;" (.ref a4)) (P7 : a2 ≠ a1) (P8 : Exa Z Z.heap a3 "java/math/BigDecimal") (P9 : Fld Z Z.heap a3 "java/math/BigDecimal" "intCompact" "J" (.long (0 : Int64))) (P10 : Fld Z h0 a4 "java/math/BigDecimal" "intCompact" "J" (.long q5)) (P11 : ¬ (q5 = (-9223372036854775808 : Int64))) (P12 : Fld Z Z.heap a3 "java/math/BigDecimal" "scale" "I" (.int (0 : Int32))) (P13 : Fld Z h0 a4 "java/math/BigDecimal" "scale" "I" (.int (0 : Int32))) (P14 : ¬ (((((0 : Int64) + q5) ^^^ (0 : Int64)) &&& (((0 : Int64) + q5) ^^^ q5)) < (0 : Int64))) (P15 : ¬ (((0 : Int64) + q5) = (-9223372036854775808 : Int64))) (P16 : Sta Z Z.heap "java/math/BigDecimal" "ZERO_THROUGH_TEN" "[Ljava/math/BigDecimal;" (.ref a6)) (P17 : Arv Z Z.heap a6 k7 (.object "java/math/BigDecimal") (11 : Int32) [(.ref a3), (.ref a8), (.ref a9), (.ref a10), (.ref a11), (.ref a12), (.ref a13), (.ref a14), (.ref a15), (.ref a16), (.ref a17)] .null) (P18 : Exa Z Z.heap a8 "java/math/BigDecimal") (P19 : Fld Z Z.heap a8 "java/math/BigDecimal" "scale" "I" (.int (0 : Int32))) (P20 : Fld Z Z.heap a8 "java/math/BigDecimal" "intCompact" "J" (.long (1 : Int64))) (P21 : Exa Z Z.heap a9 "java/math/BigDecimal") (P22 : Fld Z Z.heap a9 "java/math/BigDecimal" "scale" "I" (.int (0 : Int32))) (P23 : Fld Z Z.heap a9 "java/math/BigDecimal" "intCompact" "J" (.long (2 : Int64))) (P24 : Exa Z Z.heap a10 "java/math/BigDecimal") (P25 : Fld Z Z.heap a10 "java/math/BigDecimal" "scale" "I" (.int (0 : Int32))) (P26 : Fld Z Z.heap a10 "java/math/BigDecimal" "intCompact" "J" (.long (3 : Int64))) (P27 : Exa Z Z.heap a11 "java/math/BigDecimal") (P28 : Fld Z Z.heap a11 "java/math/BigDecimal" "scale" "I" (.int (0 : Int32))) (P29 : Fld Z Z.heap a11 "java/math/BigDecimal" "intCompact" "J" (.long (4 : Int64))) (P30 : Exa Z Z.heap a12 "java/math/BigDecimal") (P31 : Fld Z Z.heap a12 "java/math/BigDecimal" "scale" "I" (.int (0 : Int32))) (P32 : Fld Z Z.heap a12 "java/math/BigDecimal" "intCompact" "J" (.long (5 : Int64))) (P33 : Exa Z Z.heap a13 "java/math/BigDecimal") (P34 : Fld Z Z.heap a13 "java/math/BigDecimal" "scale" "I" (.int (0 : Int32))) (P35 : Fld Z Z.heap a13 "java/math/BigDecimal" "intCompact" "J" (.long (6 : Int64))) (P36 : Exa Z Z.heap a14 "java/math/BigDecimal") (P37 : Fld Z Z.heap a14 "java/math/BigDecimal" "scale" "I" (.int (0 : Int32))) (P38 : Fld Z Z.heap a14 "java/math/BigDecimal" "intCompact" "J" (.long (7 : Int64))) (P39 : Exa Z Z.heap a15 "java/math/BigDecimal") (P40 : Fld Z Z.heap a15 "java/math/BigDecimal" "scale" "I" (.int (0 : Int32))) (P41 : Fld Z Z.heap a15 "java/math/BigDecimal" "intCompact" "J" (.long (8 : Int64))) (P42 : Exa Z Z.heap a16 "java/math/BigDecimal") (P43 : Fld Z Z.heap a16 "java/math/BigDecimal" "scale" "I" (.int (0 : Int32))) (P44 : Fld Z Z.heap a16 "java/math/BigDecimal" "intCompact" "J" (.long (9 : Int64))) (P45 : Exa Z Z.heap a17 "java/math/BigDecimal") (P46 : Fld Z Z.heap a17 "java/math/BigDecimal" "scale" "I" (.int (0 : Int32))) (P47 : Fld Z Z.heap a17 "java/math/BigDecimal" "intCompact" "J" (.long (10 : Int64))) (P48 : a4 ≠ a1) (P49 : Fld Z h0 a2 "com/example/cropmark/cropmark/Weights" "inedibleLb" "Ljava/math/BigDecimal;" .null) (P50 : Fld Z h0 a1 "com/example/cropmark/cropmark/Assessment$Sums" "inedibleLb" "Ljava/math/BigDecimal;" (.ref a3)) :
    MetFree l (⟨"com/example/cropmark/cropmark/Assessment$Sums", "add", "(Lcom/example/cropmark/cropmark/Weights;)V"⟩ : MethodName) (head1 (Jvm.Cond.code (⟨"com/example/cropmark/cropmark/Assessment$Sums", "add", "(Lcom/example/cropmark/cropmark/Weights;)V"⟩ : MethodName) prog_12_method_3_code 2 none :: ws) ({ frames := 8, cells := 1, slots := 5, locals := 124 } : Room)) (fun a U => a = #[(.ref a1), (.ref a2)] ∧ Z.Warmed39 U.vm ∧ U.heap = h0) (fun _ _ _ _ _ => True) (fun _ U o U' => ∃ v L, o = .returned v ∧ Q_rm6_1 Z a1 a2 a3 a4 q5 a6 k7 a8 a9 a10 a11 a12 a13 a14 a15 a16 a17 h0 n0 v U'.heap L ∧ FrameEnd U o U' L ({ frames := 8, cells := 1, slots := 5, locals := 124 } : Room).cells ({ frames := 8, cells := 1, slots := 5, locals := 124 } : Room).slots) := by
  refine MetFree.of_bodySF (plainFor_of_name pn_4) hisR ?_
  intro p e s m args below meth c s₁ Bd hml0 hP hK
  obtain ⟨rfl, hZ, hh⟩ := hP
  have hx := Bd.exec
  have hby := Bd.bytes
  have hml : c.maxLocals = 2 := hml0
  have hown : s.vm.findClass "com/example/cropmark/cropmark/Assessment$Sums" = some m.cls := findClass_of_methodNamed Bd.named
  have hnm := (name_of_methodNamed Bd.named Bd.method).1
  have X0 : Stand p l e ({ frames := 8, cells := 1, slots := 5, locals := 124 } : Room) s m #[(.ref a1), (.ref a2)] below meth c s₁ [] 0 0 := Stand.of_body Bd
  have e0 : s₁.heap = h0 := by rw [← hh, Bd.state]; rfl
  have N0 := Fr.nil n0
  refine Go.start (P := (fun o U' => ∃ v L, o = .returned v ∧ Q_rm6_1 Z a1 a2 a3 a4 q5 a6 k7 a8 a9 a10 a11 a12 a13 a14 a15 a16 a17 h0 n0 v U'.heap L ∧ FrameEnd s o U' L ({ frames := 8, cells := 1, slots := 5, locals := 124 } : Room).cells ({ frames := 8, cells := 1, slots := 5, locals := 124 } : Room).slots)) (castTop (g' := (mkF m 0 #[.val (.ref a1), .val (.ref a2)] [])) (by first | rfl | simp [entryFrame, mkF, argsToLocals, Value.category]) (T := s₁)) ?_
  refine Go.st (fun t k => XS.aloadN X0.here hx rfl (hb hby d6_0) rfl rfl k) ?_
  show Go p e below _ (s₁.setTop (mkF m 1 #[.val (.ref a1), .val (.ref a2)] [(.ref a1)]))
  refine Go.st (fun t k => XS.dup X0.here hx rfl (hb hby d6_1) rfl rfl k) ?_
  show Go p e below _ (s₁.setTop (mkF m 2 #[.val (.ref a1), .val (.ref a2)] [(.ref a1), (.ref a1)]))
  obtain ⟨T1, X1, e1, st1⟩ := getF X0 hx hZ hown (host := "") (Or.inl (w44 hw)) Via.refl e0 P1 (g := (mkF m 2 #[.val (.ref a1), .val (.ref a2)] [(.ref a1), (.ref a1)])) rfl rfl (hb hby d6_2)
  refine Go.st st1 ?_
  show Go p e below _ (T1.setTop (mkF m 5 #[.val (.ref a1), .val (.ref a2)] [(.int (0 : Int32)), (.ref a1)]))
  refine Go.st (fun t k => XS.iconst X1.here hx rfl (hb hby d6_5) k) ?_
  show Go p e below _ (T1.setTop (mkF m 6 #[.val (.ref a1), .val (.ref a2)] [(.int (1 : Int32)), (.int (0 : Int32)), (.ref a1)]))
  refine Go.st (fun t k => XS.iadd X1.here hx rfl (hb hby d6_6) rfl k) ?_
  show Go p e below _ (T1.setTop (mkF m 7 #[.val (.ref a1), .val (.ref a2)] [(.int (1 : Int32)), (.ref a1)]))
  obtain ⟨T2, h2, X2, e2, W2, st2⟩ := putF X1 hx hZ hown (host := "") (Or.inl (w44 hw)) Via.refl e1 P1 P2 (Or.inl (w45 hw)) (w28 hw) (ty := .int) (by decide) rfl rfl (g := (mkF m 7 #[.val (.ref a1), .val (.ref a2)] [(.int (1 : Int32)), (.ref a1)])) rfl rfl (hb hby d6_7)
  have F2 : Fld Z h2 a1 "com/example/cropmark/cropmark/Assessment$Sums" "lots" "I" (.int (1 : Int32)) := P1.same W2
  have N2 := Fr.snoc X2 N0 P3
  have O2 : Old Z n0 h2 := O0.wr W2 P3
  have K2 : Keep h0 h2 [a1] := (Keep.refl h0 [a1]).wr W2 (Or.inl (List.mem_of_getElem? (i := 0) rfl))
  refine Go.st st2 ?_
  show Go p e below _ (T2.setTop (mkF m 10 #[.val (.ref a1), .val (.ref a2)] []))
  refine Go.st (fun t k => XS.aloadN X2.here hx rfl (hb hby d6_10) rfl rfl k) ?_
  show Go p e below _ (T2.setTop (mkF m 11 #[.val (.ref a1), .val (.ref a2)] [(.ref a1)]))
  refine Go.st (fun t k => XS.aloadN X2.here hx rfl (hb hby d6_11) rfl rfl k) ?_
  show Go p e below _ (T2.setTop (mkF m 12 #[.val (.ref a1), .val (.ref a2)] [(.ref a1), (.ref a1)]))
  have c3 := (P4.other W2 (Or.inr (slot_ne (Or.inl (w36 hw)) (Or.inl (w45 hw)) (by decide) (t := (.object "java/math/BigDecimal")) (t' := .int) (by decide) (by decide))))
  obtain ⟨T4, X4, e4, st4⟩ := getF X2 hx hZ hown (host := "") (Or.inl (w35 hw)) Via.refl e2 c3 (g := (mkF m 12 #[.val (.ref a1), .val (.ref a2)] [(.ref a1), (.ref a1)])) rfl rfl (hb hby d6_12)
  refine Go.st st4 ?_
  show Go p e below _ (T4.setTop (mkF m 15 #[.val (.ref a1), .val (.ref a2)] [(.ref a3), (.ref a1)]))
  refine Go.st (fun t k => XS.aloadN X4.here hx rfl (hb hby d6_15) rfl rfl k) ?_
  show Go p e below _ (T4.setTop (mkF m 16 #[.val (.ref a1), .val (.ref a2)] [(.ref a2), (.ref a3), (.ref a1)]))
  obtain ⟨cq5, kq5, q5a, q5b, q5c⟩ := isOf hZ e4 (P5.wr W2)
  obtain ⟨_, _, ⟨T5, L5, k5, n5⟩, -, X5, ⟨Lc5, hQ5, l5, y5, z5⟩, st5⟩ := X4.virtualBack hx (y := (⟨"com/example/cropmark/cropmark/Weights", "assessedLb", "()Ljava/math/BigDecimal;"⟩ : MethodName)) (z := (⟨"com/example/cropmark/cropmark/Weights", "assessedLb", "()Ljava/math/BigDecimal;"⟩ : MethodName)) hown (mvT hZ (w46 hw)) (mvT hZ (w47 hw)) (notFace_of_selects (args := #[]) (mvT hZ (w49 hw))) (mvT hZ (w49 hw)) (mvT hZ (w48 hw)) (by decide) (backOf (W := 2) (rm7_1 l Z a0 hw [] a2 a4 h2 n0 O2 (P6.other W2 (Or.inl P7))) hZ (w50 hw) (w7 hw) (by decide) (by decide)) q5a q5c (g := (mkF m 16 #[.val (.ref a1), .val (.ref a2)] [(.ref a2), (.ref a3), (.ref a1)])) rfl (by rw [hml]; rfl) (Steps.refl _) (argsL := []) (rest := [(.ref a3), (.ref a1)]) (lenOf pd_4 rfl) rfl (by show 2 * 0 + _ ≤ _; exact Nat.le_of_eq rfl) (hb hby d6_16) (fun vm₁ hw₁ => ⟨rfl, e4, (by decide : 0 + 0 ≤ _), (by decide : 0 + 0 ≤ _)⟩)
  dsimp only [Pt.U, Pt.locs, Pt.cells, Pt.slots] at X5 l5 y5 z5 st5 hQ5
  subst l5 y5 z5
  obtain ⟨rfl, M5, eh5⟩ := hQ5
  have N5 := Fr.app N2 M5
  refine Go.tr st5 ?_
  show Go p e below _ (T5.setTop (mkF m 19 #[.val (.ref a1), .val (.ref a2)] [(.ref a4), (.ref a3), (.ref a1)]))
  obtain ⟨cq6, kq6, q6a, q6b, q6c⟩ := isOf hZ eh5 (P8.ext O2.2)
  obtain ⟨_, _, ⟨T6, L6, k6, n6⟩, -, X6, ⟨Lc6, hQ6, l6, y6, z6⟩, st6⟩ := X5.virtualBack hx (y := (⟨"java/math/BigDecimal", "add", "(Ljava/math/BigDecimal;)Ljava/math/BigDecimal;"⟩ : MethodName)) (z := (⟨"java/math/BigDecimal", "add", "(Ljava/math/BigDecimal;)Ljava/math/BigDecimal;"⟩ : MethodName)) hown (mvT hZ (w51 hw)) (mvT hZ (w52 hw)) (notFace_of_selects (args := #[]) (mvT hZ (w54 hw))) (mvT hZ (w54 hw)) (mvT hZ (w53 hw)) (by decide) (backOf (W := 1) (rm8_1 l Z a0 hw [] a3 a4 q5 a6 k7 a8 a9 a10 a11 a12 a13 a14 a15 a16 a17 h2 n0 O2 P9 (P10.other W2 (Or.inl P48)) P11 P12 (P13.other W2 (Or.inl P48)) P14 P15 P16 P17 P8 P18 P19 P20 P21 P22 P23 P24 P25 P26 P27 P28 P29 P30 P31 P32 P33 P34 P35 P36 P37 P38 P39 P40 P41 P42 P43 P44 P45 P46 P47) hZ (w55 hw) (w2 hw) (by decide) (by decide)) q6a q6c (g := (mkF m 19 #[.val (.ref a1), .val (.ref a2)] [(.ref a4), (.ref a3), (.ref a1)])) rfl (by rw [hml]; rfl) (Steps.refl _) (argsL := [(.ref a4)]) (rest := [(.ref a1)]) (lenOf pd_9 rfl) rfl (by show 2 * 0 + _ ≤ _; exact Nat.le_of_eq rfl) (hb hby d6_19) (fun vm₁ hw₁ => ⟨rfl, eh5, (by decide : 0 + 1 ≤ _), (by decide : 0 + 5 ≤ _)⟩)
  dsimp only [Pt.U, Pt.locs, Pt.cells, Pt.slots] at X6 l6 y6 z6 st6 hQ6
  subst l6 y6 z6
  obtain ⟨bv_1_2_1_7_6, rfl, M6, K6c, r6_0, r6_1, r6_2⟩ := hQ6
  have N6 := Fr.app N5 M6
  have O6 : Old Z n0 T6.heap := O2.keep K6c all0
  have K6 : Keep h0 T6.heap [a1] := K2.trans K6c all0
  refine Go.tr st6 ?_
  show Go p e below _ (T6.setTop (mkF m 22 #[.val (.ref a1), .val (.ref a2)] [(.ref bv_1_2_1_7_6), (.ref a1)]))
  obtain ⟨T7, h7, X7, e7, W7, st7⟩ := putF X6 hx hZ hown (host := "") (Or.inl (w35 hw)) Via.refl rfl (c3.keep K6c nin0) ((P2.wr W2).keep K6c) (Or.inl (w36 hw)) (w28 hw) (ty := (.object "java/math/BigDecimal")) (by decide) rfl rfl (g := (mkF m 22 #[.val (.ref a1), .val (.ref a2)] [(.ref bv_1_2_1_7_6), (.ref a1)])) rfl rfl (hb hby d6_22)
  have F7 : Fld Z h7 a1 "com/example/cropmark/cropmark/Assessment$Sums" "assessedLb" "Ljava/math/BigDecimal;" (.ref bv_1_2_1_7_6) := (c3.keep K6c nin0).same W7
  have N7 := Fr.snoc X7 N6 P3
  have O7 : Old Z n0 h7 := O6.wr W7 P3
  have K7 : Keep h0 h7 [a1] := K6.wr W7 (Or.inl (List.mem_of_getElem? (i := 0) rfl))
  refine Go.st st7 ?_
  show Go p e below _ (T7.setTop (mkF m 25 #[.val (.ref a1), .val (.ref a2)] []))
  refine Go.st (fun t k => XS.aloadN X7.here hx rfl (hb hby d6_25) rfl rfl k) ?_
  show Go p e below _ (T7.setTop (mkF m 26 #[.val (.ref a1), .val (.ref a2)] [(.ref a2)]))
  have c8 := (((P49.other W2 (Or.inl P7)).keep K6c nin0).other W7 (Or.inl P7))
  obtain ⟨cq9, kq9, q9a, q9b, q9c⟩ := isOf hZ e7 (((P5.wr W2).keep K6c).wr W7)
  obtain ⟨_, _, ⟨T9, L9, k9, n9⟩, -, X9, ⟨Lc9, hQ9, l9, y9, z9⟩, st9⟩ := X7.virtualBack hx (y := (⟨"com/example/cropmark/cropmark/Weights", "inedibleLb", "()Ljava/math/BigDecimal;"⟩ : MethodName)) (z := (⟨"com/example/cropmark/cropmark/Weights", "inedibleLb", "()Ljava/math/BigDecimal;"⟩ : MethodName)) hown (mvT hZ (w74 hw)) (mvT hZ (w75 hw)) (notFace_of_selects (args := #[]) (mvT hZ (w77 hw))) (mvT hZ (w77 hw)) (mvT hZ (w76 hw)) (by decide) (backOf (W := 0) (rm13_1 l Z a0 hw [] a2 h7 n0 O7 c8) hZ (w78 hw) (w7 hw) (by decide) (by decide)) q9a q9c (g := (mkF m 26 #[.val (.ref a1), .val (.ref a2)] [(.ref a2)])) rfl (by rw [hml]; rfl) (Steps.refl _) (argsL := []) (rest := []) (lenOf pd_4 rfl) rfl (by show 2 * 0 + _ ≤ _; exact Nat.le_of_eq rfl) (hb hby d6_26) (fun vm₁ hw₁ => ⟨rfl, e7, (by decide : 1 + 0 ≤ _), (by decide : 5 + 0 ≤ _)⟩)
  dsimp only [Pt.U, Pt.locs, Pt.cells, Pt.slots] at X9 l9 y9 z9 st9 hQ9
  subst l9 y9 z9
  obtain ⟨rfl, M9, eh9⟩ := hQ9
  have N9 := Fr.app N7 M9
  refine Go.tr st9 ?_
  show Go p e below _ (T9.setTop (mkF m 29 #[.val (.ref a1), .val (.ref a2)] [.null]))
  refine Go.st (fun t k => XS.ifnullYes X9.here hx rfl (pc0 := 29) (pc' := 47) rfl (hb hby d6_29) rfl (by decide) (by decide) k) ?_
  show Go p e below _ (T9.setTop (mkF m 47 #[.val (.ref a1), .val (.ref a2)] []))
  obtain ⟨fs, hr, hrun, hended, hWd, hsame⟩ := X9.leave (v := none) (fun _ => rfl)
  have c10 := ((F2.keep K6c nin0).other W7 (Or.inr (slot_ne (Or.inl (w45 hw)) (Or.inl (w36 hw)) (by decide) (t := .int) (t' := (.object "java/math/BigDecimal")) (by decide) (by decide))))
  have c11 := (((P50.other W2 (Or.inr (slot_ne (Or.inl (w38 hw)) (Or.inl (w45 hw)) (by decide) (t := (.object "java/math/BigDecimal")) (t' := .int) (by decide) (by decide)))).keep K6c nin0).other W7 (Or.inr (slot_ne (Or.inl (w38 hw)) (Or.inl (w36 hw)) (by decide) (t := (.object "java/math/BigDecimal")) (t' := (.object "java/math/BigDecimal")) (by decide) (by decide))))
  have c12 := (r6_1.other W7 (Or.inl (ne_exa (r6_0.wr W7) (((P2.wr W2).keep K6c).wr W7) (by decide))))
  have c13 := (r6_2.other W7 (Or.inl (ne_exa (r6_0.wr W7) (((P2.wr W2).keep K6c).wr W7) (by decide))))
  refine ⟨_, _, ?_, hrun, hended, _, _, rfl, ?_, ⟨⟨_, rfl⟩, hWd, hsame.mono (by decide) (by decide)⟩⟩
  · exact X9.returnOut hx Bd.returns (hb hby d6_47) hr
  · show Q_rm6_1 Z a1 a2 a3 a4 q5 a6 k7 a8 a9 a10 a11 a12 a13 a14 a15 a16 a17 h0 n0 _ T9.heap _
    rw [eh9]
    exact ⟨bv_1_2_1_7_6, rfl, N9, K7, c10, F7, c11, (r6_0.wr W7), c12, c13⟩
def Q_rm11_2 (Z : State) (q1 : Int64) (q2 : Int64) (h0 : Heap) (n0 : Nat) (v : Option Value) (h : Heap) (L : List Loc) : Prop := v = some (.long (q1 + q2)) ∧ Fr n0 L ∧ h = h0
set_option maxRecDepth 65536 in
set_option maxHeartbeats 40000000 in
theorem rm11_2 (l : Launch) (Z : State) (a0 : Array Value) (hw : ∀ d ∈ tables_1, d.before a0 Z = true) (ws : List Jvm.Cond) (q1 : Int64) (q2 : Int64) (h0 : Heap) (n0 : Nat) (O0 : Old Z n0 h0) (P1 : ¬ ((((q1 + q2) ^^^ q1) &&& ((q1 + q2) ^^^ q2)) < (0 : Int64))) :
    MetFree l (⟨"java/math/BigDecimal", "add", "(JJ)J"⟩ : MethodName) (head1 (Jvm.Cond.code (⟨"java/math/BigDecimal", "add", "(JJ)J"⟩ : MethodName) jdk_17_method_132_code 6 (some .long) :: ws) ({ frames := 0, cells := 0, slots := 0, locals := 0 } : Room)) (fun a U => a = #[(.long q1), (.long q2)] ∧ Z.Warmed39 U.vm ∧ U.heap = h0) (fun _ _ _ _ _ => True) (fun _ U o U' => ∃ v L, o = .returned v ∧ Q_rm11_2 Z q1 q2 h0 n0 v U'.heap L ∧ FrameEnd U o U' L ({ frames := 0, cells := 0, slots := 0, locals := 0 } : Room).cells ({ frames := 0, cells := 0, slots := 0, locals := 0 } : Room).slots) := by
  refine MetFree.of_bodySF (plainFor_of_name pn_1) hisR ?_
  intro p e s m args below meth c s₁ Bd hml0 hP hK
  obtain ⟨rfl, hZ, hh⟩ := hP
  have hx := Bd.exec
  have hby := Bd.bytes
  have hml : c.maxLocals = 6 := hml0
  have hown : s.vm.findClass "java/math/BigDecimal" = some m.cls := findClass_of_methodNamed Bd.named
  have hnm := (name_of_methodNamed Bd.named Bd.method).1
  have X0 : Stand p l e ({ frames := 0, cells := 0, slots := 0, locals := 0 } : Room) s m #[(.long q1), (.long q2)] below meth c s₁ [] 0 0 := Stand.of_body Bd
  have e0 : s₁.heap = h0 := by rw [← hh, Bd.state]; rfl
  have N0 := Fr.nil n0
  refine Go.start (P := (fun o U' => ∃ v L, o = .returned v ∧ Q_rm11_2 Z q1 q2 h0 n0 v U'.heap L ∧ FrameEnd s o U' L ({ frames := 0, cells := 0, slots := 0, locals := 0 } : Room).cells ({ frames := 0, cells := 0, slots := 0, locals := 0 } : Room).slots)) (castTop (g' := (mkF m 0 #[.val (.long q1), .second, .val (.long q2), .second, .unset, .unset] [])) (by first | rfl | simp [entryFrame, mkF, argsToLocals, Value.category]) (T := s₁)) ?_
  refine Go.st (fun t k => XS.lloadN X0.here hx rfl (hb hby d11_0) rfl k) ?_
  show Go p e below _ (s₁.setTop (mkF m 1 #[.val (.long q1), .second, .val (.long q2), .second, .unset, .unset] [(.long q1)]))
  refine Go.st (fun t k => XS.lloadN X0.here hx rfl (hb hby d11_1) rfl k) ?_
  show Go p e below _ (s₁.setTop (mkF m 2 #[.val (.long q1), .second, .val (.long q2), .second, .unset, .unset] [(.long q2), (.long q1)]))
  refine Go.st (fun t k => XS.ladd X0.here hx rfl (hb hby d11_2) rfl k) ?_
  show Go p e below _ (s₁.setTop (mkF m 3 #[.val (.long q1), .second, .val (.long q2), .second, .unset, .unset] [(.long (q1 + q2))]))
  refine Go.st (fun t k => XS.lstore X0.here hx rfl (hb hby d11_3) rfl (l' := #[.val (.long q1), .second, .val (.long q2), .second, .val (.long (q1 + q2)), .second]) rfl k) ?_
  show Go p e below _ (s₁.setTop (mkF m 5 #[.val (.long q1), .second, .val (.long q2), .second, .val (.long (q1 + q2)), .second] []))
  refine Go.st (fun t k => XS.lload X0.here hx rfl (hb hby d11_5) rfl k) ?_
  show Go p e below _ (s₁.setTop (mkF m 7 #[.val (.long q1), .second, .val (.long q2), .second, .val (.long (q1 + q2)), .second] [(.long (q1 + q2))]))
  refine Go.st (fun t k => XS.lloadN X0.here hx rfl (hb hby d11_7) rfl k) ?_
  show Go p e below _ (s₁.setTop (mkF m 8 #[.val (.long q1), .second, .val (.long q2), .second, .val (.long (q1 + q2)), .second] [(.long q1), (.long (q1 + q2))]))
  refine Go.st (fun t k => XS.lxor X0.here hx rfl (hb hby d11_8) rfl k) ?_
  show Go p e below _ (s₁.setTop (mkF m 9 #[.val (.long q1), .second, .val (.long q2), .second, .val (.long (q1 + q2)), .second] [(.long ((q1 + q2) ^^^ q1))]))
  refine Go.st (fun t k => XS.lload X0.here hx rfl (hb hby d11_9) rfl k) ?_
  show Go p e below _ (s₁.setTop (mkF m 11 #[.val (.long q1), .second, .val (.long q2), .second, .val (.long (q1 + q2)), .second] [(.long (q1 + q2)), (.long ((q1 + q2) ^^^ q1))]))
  refine Go.st (fun t k => XS.lloadN X0.here hx rfl (hb hby d11_11) rfl k) ?_
  show Go p e below _ (s₁.setTop (mkF m 12 #[.val (.long q1), .second, .val (.long q2), .second, .val (.long (q1 + q2)), .second] [(.long q2), (.long (q1 + q2)), (.long ((q1 + q2) ^^^ q1))]))
  refine Go.st (fun t k => XS.lxor X0.here hx rfl (hb hby d11_12) rfl k) ?_
  show Go p e below _ (s₁.setTop (mkF m 13 #[.val (.long q1), .second, .val (.long q2), .second, .val (.long (q1 + q2)), .second] [(.long ((q1 + q2) ^^^ q2)), (.long ((q1 + q2) ^^^ q1))]))
  refine Go.st (fun t k => XS.land X0.here hx rfl (hb hby d11_13) rfl k) ?_
  show Go p e below _ (s₁.setTop (mkF m 14 #[.val (.long q1), .second, .val (.long q2), .second, .val (.long (q1 + q2)), .second] [(.long (((q1 + q2) ^^^ q1) &&& ((q1 + q2) ^^^ q2)))]))
  refine Go.st (fun t k => XS.lconst X0.here hx rfl (hb hby d11_14) k) ?_
  show Go p e below _ (s₁.setTop (mkF m 15 #[.val (.long q1), .second, .val (.long q2), .second, .val (.long (q1 + q2)), .second] [(.long (0 : Int64)), (.long (((q1 + q2) ^^^ q1) &&& ((q1 + q2) ^^^ q2)))]))
  refine Go.st (fun t k => Jvm.Free.XT.lcmp X0.here hx rfl (hb hby d11_15) rfl k) ?_
  show Go p e below _ (s₁.setTop (mkF m 16 #[.val (.long q1), .second, .val (.long q2), .second, .val (.long (q1 + q2)), .second] [(.int (Jvm.Free.XT.cmpL (((q1 + q2) ^^^ q1) &&& ((q1 + q2) ^^^ q2)) (0 : Int64)))]))
  refine Go.st (fun t k => XS.ifNo X0.here hx rfl (hb hby d11_16) rfl (Jvm.Free.XT.ll_lt_f P1) k) ?_
  show Go p e below _ (s₁.setTop (mkF m 19 #[.val (.long q1), .second, .val (.long q2), .second, .val (.long (q1 + q2)), .second] []))
  refine Go.st (fun t k => XS.lload X0.here hx rfl (hb hby d11_19) rfl k) ?_
  show Go p e below _ (s₁.setTop (mkF m 21 #[.val (.long q1), .second, .val (.long q2), .second, .val (.long (q1 + q2)), .second] [(.long (q1 + q2))]))
  obtain ⟨fs, hr, hrun, hended, hWd, hsame⟩ := X0.leave (v := some (.long (q1 + q2))) (fun h => by rw [Bd.returns] at h; cases h)
  refine ⟨_, _, ?_, hrun, hended, _, _, rfl, ?_, ⟨⟨_, rfl⟩, hWd, hsame.mono (by decide) (by decide)⟩⟩
  · exact X0.lreturnOut hx Bd.returns (hb hby d11_21) hr
  · show Q_rm11_2 Z q1 q2 h0 n0 _ s₁.heap _
    rw [e0]
    exact ⟨rfl, N0, rfl⟩
def Q_rm10_2 (Z : State) (q1 : Int64) (q2 : Int64) (a3 : Addr) (k4 : ClassId) (a5 : Addr) (a6 : Addr) (a7 : Addr) (a8 : Addr) (a9 : Addr) (a10 : Addr) (a11 : Addr) (a12 : Addr) (a13 : Addr) (a14 : Addr) (a15 : Addr) (h0 : Heap) (n0 : Nat) (v : Option Value) (h : Heap) (L : List Loc) : Prop := ∃ (bv_1_2 : Addr), v = some (.ref bv_1_2) ∧ Fr n0 L ∧ Keep h0 h [] ∧ Exa Z h bv_1_2 "java/math/BigDecimal" ∧ Fld Z h bv_1_2 "java/math/BigDecimal" "scale" "I" (.int (0 : Int32)) ∧ Fld Z h bv_1_2 "java/math/BigDecimal" "intCompact" "J" (.long (q1 + q2))
set_option maxRecDepth 65536 in
set_option maxHeartbeats 40000000 in
theorem rm10_2 (l : Launch) (Z : State) (a0 : Array Value) (hw : ∀ d ∈ tables_1, d.before a0 Z = true) (ws : List Jvm.Cond) (q1 : Int64) (q2 : Int64) (a3 : Addr) (k4 : ClassId) (a5 : Addr) (a6 : Addr) (a7 : Addr) (a8 : Addr) (a9 : Addr) (a10 : Addr) (a11 : Addr) (a12 : Addr) (a13 : Addr) (a14 : Addr) (a15 : Addr) (h0 : Heap) (n0 : Nat) (O0 : Old Z n0 h0) (P1 : ¬ ((((q1 + q2) ^^^ q1) &&& ((q1 + q2) ^^^ q2)) < (0 : Int64))) (P2 : ¬ ((q1 + q2) = (-9223372036854775808 : Int64))) (P3 : Sta Z Z.heap "java/math/BigDecimal" "ZERO_THROUGH_TEN" "[Ljava/math/BigDecimal;" (.ref a3)) (P4 : Arv Z Z.heap a3 k4 (.object "java/math/BigDecimal") (11 : Int32) [(.ref a5), (.ref a6), (.ref a7), (.ref a8), (.ref a9), (.ref a10), (.ref a11), (.ref a12), (.ref a13), (.ref a14), (.ref a15)] .null) (P5 : Exa Z Z.heap a5 "java/math/BigDecimal") (P6 : Fld Z Z.heap a5 "java/math/BigDecimal" "scale" "I" (.int (0 : Int32))) (P7 : Fld Z Z.heap a5 "java/math/BigDecimal" "intCompact" "J" (.long (0 : Int64))) (P8 : Exa Z Z.heap a6 "java/math/BigDecimal") (P9 : Fld Z Z.heap a6 "java/math/BigDecimal" "scale" "I" (.int (0 : Int32))) (P10 : Fld Z Z.heap a6 "java/math/BigDecimal" "intCompact" "J" (.long (1 : Int64))) (P11 : Exa Z Z.heap a7 "java/math/BigDecimal") (P12 : Fld Z Z.heap a7 "java/math/BigDecimal" "scale" "I" (.int (0 : Int32))) (P13 : Fld Z Z.heap a7 "java/math/BigDecimal" "intCompact" "J" (.long (2 : Int64))) (P14 : Exa Z Z.heap a8 "java/math/BigDecimal") (P15 : Fld Z Z.heap a8 "java/math/BigDecimal" "scale" "I" (.int (0 : Int32))) (P16 : Fld Z Z.heap a8 "java/math/BigDecimal" "intCompact" "J" (.long (3 : Int64))) (P17 : Exa Z Z.heap a9 "java/math/BigDecimal") (P18 : Fld Z Z.heap a9 "java/math/BigDecimal" "scale" "I" (.int (0 : Int32))) (P19 : Fld Z Z.heap a9 "java/math/BigDecimal" "intCompact" "J" (.long (4 : Int64))) (P20 : Exa Z Z.heap a10 "java/math/BigDecimal") (P21 : Fld Z Z.heap a10 "java/math/BigDecimal" "scale" "I" (.int (0 : Int32))) (P22 : Fld Z Z.heap a10 "java/math/BigDecimal" "intCompact" "J" (.long (5 : Int64))) (P23 : Exa Z Z.heap a11 "java/math/BigDecimal") (P24 : Fld Z Z.heap a11 "java/math/BigDecimal" "scale" "I" (.int (0 : Int32))) (P25 : Fld Z Z.heap a11 "java/math/BigDecimal" "intCompact" "J" (.long (6 : Int64))) (P26 : Exa Z Z.heap a12 "java/math/BigDecimal") (P27 : Fld Z Z.heap a12 "java/math/BigDecimal" "scale" "I" (.int (0 : Int32))) (P28 : Fld Z Z.heap a12 "java/math/BigDecimal" "intCompact" "J" (.long (7 : Int64))) (P29 : Exa Z Z.heap a13 "java/math/BigDecimal") (P30 : Fld Z Z.heap a13 "java/math/BigDecimal" "scale" "I" (.int (0 : Int32))) (P31 : Fld Z Z.heap a13 "java/math/BigDecimal" "intCompact" "J" (.long (8 : Int64))) (P32 : Exa Z Z.heap a14 "java/math/BigDecimal") (P33 : Fld Z Z.heap a14 "java/math/BigDecimal" "scale" "I" (.int (0 : Int32))) (P34 : Fld Z Z.heap a14 "java/math/BigDecimal" "intCompact" "J" (.long (9 : Int64))) (P35 : Exa Z Z.heap a15 "java/math/BigDecimal") (P36 : Fld Z Z.heap a15 "java/math/BigDecimal" "scale" "I" (.int (0 : Int32))) (P37 : Fld Z Z.heap a15 "java/math/BigDecimal" "intCompact" "J" (.long (10 : Int64))) :
    MetFree l (⟨"java/math/BigDecimal", "add", "(JJI)Ljava/math/BigDecimal;"⟩ : MethodName) (head1 (Jvm.Cond.code (⟨"java/math/BigDecimal", "add", "(JJI)Ljava/math/BigDecimal;"⟩ : MethodName) jdk_17_method_133_code 7 (some (.object "java/math/BigDecimal")) :: ws) ({ frames := 5, cells := 1, slots := 5, locals := 69 } : Room)) (fun a U => a = #[(.long q1), (.long q2), (.int (0 : Int32))] ∧ Z.Warmed39 U.vm ∧ U.heap = h0) (fun _ _ _ _ _ => True) (fun _ U o U' => ∃ v L, o = .returned v ∧ Q_rm10_2 Z q1 q2 a3 k4 a5 a6 a7 a8 a9 a10 a11 a12 a13 a14 a15 h0 n0 v U'.heap L ∧ FrameEnd U o U' L ({ frames := 5, cells := 1, slots := 5, locals := 69 } : Room).cells ({ frames := 5, cells := 1, slots := 5, locals := 69 } : Room).slots) := by
  refine MetFree.of_bodySF (plainFor_of_name pn_1) hisR ?_
  intro p e s m args below meth c s₁ Bd hml0 hP hK
  obtain ⟨rfl, hZ, hh⟩ := hP
  have hx := Bd.exec
  have hby := Bd.bytes
  have hml : c.maxLocals = 7 := hml0
  have hown : s.vm.findClass "java/math/BigDecimal" = some m.cls := findClass_of_methodNamed Bd.named
  have hnm := (name_of_methodNamed Bd.named Bd.method).1
  have X0 : Stand p l e ({ frames := 5, cells := 1, slots := 5, locals := 69 } : Room) s m #[(.long q1), (.long q2), (.int (0 : Int32))] below meth c s₁ [] 0 0 := Stand.of_body Bd
  have e0 : s₁.heap = h0 := by rw [← hh, Bd.state]; rfl
  have N0 := Fr.nil n0
  refine Go.start (P := (fun o U' => ∃ v L, o = .returned v ∧ Q_rm10_2 Z q1 q2 a3 k4 a5 a6 a7 a8 a9 a10 a11 a12 a13 a14 a15 h0 n0 v U'.heap L ∧ FrameEnd s o U' L ({ frames := 5, cells := 1, slots := 5, locals := 69 } : Room).cells ({ frames := 5, cells := 1, slots := 5, locals := 69 } : Room).slots)) (castTop (g' := (mkF m 0 #[.val (.long q1), .second, .val (.long q2), .second, .val (.int (0 : Int32)), .unset, .unset] [])) (by first | rfl | simp [entryFrame, mkF, argsToLocals, Value.category]) (T := s₁)) ?_
  refine Go.st (fun t k => XS.lloadN X0.here hx rfl (hb hby d10_0) rfl k) ?_
  show Go p e below _ (s₁.setTop (mkF m 1 #[.val (.long q1), .second, .val (.long q2), .second, .val (.int (0 : Int32)), .unset, .unset] [(.long q1)]))
  refine Go.st (fun t k => XS.lloadN X0.here hx rfl (hb hby d10_1) rfl k) ?_
  show Go p e below _ (s₁.setTop (mkF m 2 #[.val (.long q1), .second, .val (.long q2), .second, .val (.int (0 : Int32)), .unset, .unset] [(.long q2), (.long q1)]))
  obtain ⟨_, _, ⟨T1, L1, k1, n1⟩, -, X1, ⟨Lc1, hQ1, l1, y1, z1⟩, st1⟩ := Jvm.LawKit.callS X0 hx (y := (⟨"java/math/BigDecimal", "add", "(JJ)J"⟩ : MethodName)) hown (mvT hZ (w67 hw)) (mvT hZ (w68 hw)) (mvT hZ (w2 hw)) (mvT hZ (w69 hw)) (by decide) (backOf (W := 0) (rm11_2 l Z a0 hw [] q1 q2 h0 n0 O0 P1) hZ (w69 hw) (w2 hw) (by decide) (by decide)) (g := (mkF m 2 #[.val (.long q1), .second, .val (.long q2), .second, .val (.int (0 : Int32)), .unset, .unset] [(.long q2), (.long q1)])) rfl (by rw [hml]; rfl) (argsL := [(.long q1), (.long q2)]) (rest := []) (lenOf pd_5 rfl) rfl (by show 2 * 0 + _ ≤ _; exact Nat.le_of_eq rfl) (hb hby d10_2) (fun vm₁ hw₁ => ⟨rfl, e0, (by decide : 0 + 0 ≤ _), (by decide : 0 + 0 ≤ _)⟩)
  dsimp only [Pt.U, Pt.locs, Pt.cells, Pt.slots] at X1 l1 y1 z1 st1 hQ1
  subst l1 y1 z1
  obtain ⟨rfl, M1, eh1⟩ := hQ1
  have N1 := Fr.app N0 M1
  refine Go.st st1 ?_
  show Go p e below _ (T1.setTop (mkF m 5 #[.val (.long q1), .second, .val (.long q2), .second, .val (.int (0 : Int32)), .unset, .unset] [(.long (q1 + q2))]))
  refine Go.st (fun t k => XS.lstore X1.here hx rfl (hb hby d10_5) rfl (l' := #[.val (.long q1), .second, .val (.long q2), .second, .val (.int (0 : Int32)), .val (.long (q1 + q2)), .second]) rfl k) ?_
  show Go p e below _ (T1.setTop (mkF m 7 #[.val (.long q1), .second, .val (.long q2), .second, .val (.int (0 : Int32)), .val (.long (q1 + q2)), .second] []))
  refine Go.st (fun t k => XS.lload X1.here hx rfl (hb hby d10_7) rfl k) ?_
  show Go p e below _ (T1.setTop (mkF m 9 #[.val (.long q1), .second, .val (.long q2), .second, .val (.int (0 : Int32)), .val (.long (q1 + q2)), .second] [(.long (q1 + q2))]))
  refine Go.st (fun t k => X1.ldc2J hx hown (mvT hZ (w58 hw)) (g := (mkF m 9 #[.val (.long q1), .second, .val (.long q2), .second, .val (.int (0 : Int32)), .val (.long (q1 + q2)), .second] [(.long (q1 + q2))])) rfl (hb hby d10_9) k) ?_
  show Go p e below _ (T1.setTop (mkF m 12 #[.val (.long q1), .second, .val (.long q2), .second, .val (.int (0 : Int32)), .val (.long (q1 + q2)), .second] [(.long (-9223372036854775808 : Int64)), (.long (q1 + q2))]))
  refine Go.st (fun t k => Jvm.Free.XT.lcmp X1.here hx rfl (hb hby d10_12) rfl k) ?_
  show Go p e below _ (T1.setTop (mkF m 13 #[.val (.long q1), .second, .val (.long q2), .second, .val (.int (0 : Int32)), .val (.long (q1 + q2)), .second] [(.int (Jvm.Free.XT.cmpL (q1 + q2) (-9223372036854775808 : Int64)))]))
  refine Go.st (fun t k => XS.ifNo X1.here hx rfl (hb hby d10_13) rfl (Jvm.Free.XT.ll_eq_f P2) k) ?_
  show Go p e below _ (T1.setTop (mkF m 16 #[.val (.long q1), .second, .val (.long q2), .second, .val (.int (0 : Int32)), .val (.long (q1 + q2)), .second] []))
  refine Go.st (fun t k => XS.lload X1.here hx rfl (hb hby d10_16) rfl k) ?_
  show Go p e below _ (T1.setTop (mkF m 18 #[.val (.long q1), .second, .val (.long q2), .second, .val (.int (0 : Int32)), .val (.long (q1 + q2)), .second] [(.long (q1 + q2))]))
  refine Go.st (fun t k => XS.iload X1.here hx rfl (hb hby d10_18) rfl k) ?_
  show Go p e below _ (T1.setTop (mkF m 20 #[.val (.long q1), .second, .val (.long q2), .second, .val (.int (0 : Int32)), .val (.long (q1 + q2)), .second] [(.int (0 : Int32)), (.long (q1 + q2))]))
  obtain ⟨_, _, ⟨T2, L2, k2, n2⟩, -, X2, ⟨Lc2, hQ2, l2, y2, z2⟩, st2⟩ := Jvm.LawKit.callS X1 hx (y := (⟨"java/math/BigDecimal", "valueOf", "(JI)Ljava/math/BigDecimal;"⟩ : MethodName)) hown (mvT hZ (w70 hw)) (mvT hZ (w71 hw)) (mvT hZ (w2 hw)) (mvT hZ (w72 hw)) (by decide) (backOf (W := 0) (rm12_1 l Z a0 hw [] (q1 + q2) a3 k4 a5 a6 a7 a8 a9 a10 a11 a12 a13 a14 a15 h0 n0 O0 P2 P3 P4 P5 P6 P7 P8 P9 P10 P11 P12 P13 P14 P15 P16 P17 P18 P19 P20 P21 P22 P23 P24 P25 P26 P27 P28 P29 P30 P31 P32 P33 P34 P35 P36 P37) hZ (w72 hw) (w2 hw) (by decide) (by decide)) (g := (mkF m 20 #[.val (.long q1), .second, .val (.long q2), .second, .val (.int (0 : Int32)), .val (.long (q1 + q2)), .second] [(.int (0 : Int32)), (.long (q1 + q2))])) rfl (by rw [hml]; rfl) (argsL := [(.long (q1 + q2)), (.int (0 : Int32))]) (rest := []) (lenOf pd_6 rfl) rfl (by show 2 * 0 + _ ≤ _; exact Nat.le_of_eq rfl) (hb hby d10_20) (fun vm₁ hw₁ => ⟨rfl, eh1, (by decide : 0 + 1 ≤ _), (by decide : 0 + 5 ≤ _)⟩)
  dsimp only [Pt.U, Pt.locs, Pt.cells, Pt.slots] at X2 l2 y2 z2 st2 hQ2
  subst l2 y2 z2
  obtain ⟨bv_1_2, rfl, M2, K2c, r2_0, r2_1, r2_2⟩ := hQ2
  have N2 := Fr.app N1 M2
  have O2 : Old Z n0 T2.heap := O0.keep K2c all0
  have K2 : Keep h0 T2.heap [] := (Keep.refl h0 []).trans K2c all0
  refine Go.st st2 ?_
  show Go p e below _ (T2.setTop (mkF m 23 #[.val (.long q1), .second, .val (.long q2), .second, .val (.int (0 : Int32)), .val (.long (q1 + q2)), .second] [(.ref bv_1_2)]))
  obtain ⟨fs, hr, hrun, hended, hWd, hsame⟩ := X2.leave (v := some (.ref bv_1_2)) (fun h => by rw [Bd.returns] at h; cases h)
  refine ⟨_, _, ?_, hrun, hended, _, _, rfl, ?_, ⟨⟨_, rfl⟩, hWd, hsame.mono (by decide) (by decide)⟩⟩
  · exact own_retA X2 hx Bd.returns rfl rfl (hb hby d10_23) hr
  · show Q_rm10_2 Z q1 q2 a3 k4 a5 a6 a7 a8 a9 a10 a11 a12 a13 a14 a15 h0 n0 _ T2.heap _
    exact ⟨bv_1_2, rfl, N2, K2, r2_0, r2_1, r2_2⟩
def Q_rm9_2 (Z : State) (q1 : Int64) (q2 : Int64) (a3 : Addr) (k4 : ClassId) (a5 : Addr) (a6 : Addr) (a7 : Addr) (a8 : Addr) (a9 : Addr) (a10 : Addr) (a11 : Addr) (a12 : Addr) (a13 : Addr) (a14 : Addr) (a15 : Addr) (h0 : Heap) (n0 : Nat) (v : Option Value) (h : Heap) (L : List Loc) : Prop := ∃ (bv_1_2_1 : Addr), v = some (.ref bv_1_2_1) ∧ Fr n0 L ∧ Keep h0 h [] ∧ Exa Z h bv_1_2_1 "java/math/BigDecimal" ∧ Fld Z h bv_1_2_1 "java/math/BigDecimal" "scale" "I" (.int (0 : Int32)) ∧ Fld Z h bv_1_2_1 "java/math/BigDecimal" "intCompact" "J" (.long (q1 + q2))
set_option maxRecDepth 65536 in
set_option maxHeartbeats 40000000 in
theorem rm9_2 (l : Launch) (Z : State) (a0 : Array Value) (hw : ∀ d ∈ tables_1, d.before a0 Z = true) (ws : List Jvm.Cond) (q1 : Int64) (q2 : Int64) (a3 : Addr) (k4 : ClassId) (a5 : Addr) (a6 : Addr) (a7 : Addr) (a8 : Addr) (a9 : Addr) (a10 : Addr) (a11 : Addr) (a12 : Addr) (a13 : Addr) (a14 : Addr) (a15 : Addr) (h0 : Heap) (n0 : Nat) (O0 : Old Z n0 h0) (P1 : ¬ ((((q1 + q2) ^^^ q1) &&& ((q1 + q2) ^^^ q2)) < (0 : Int64))) (P2 : ¬ ((q1 + q2) = (-9223372036854775808 : Int64))) (P3 : Sta Z Z.heap "java/math/BigDecimal" "ZERO_THROUGH_TEN" "[Ljava/math/BigDecimal;" (.ref a3)) (P4 : Arv Z Z.heap a3 k4 (.object "java/math/BigDecimal") (11 : Int32) [(.ref a5), (.ref a6), (.ref a7), (.ref a8), (.ref a9), (.ref a10), (.ref a11), (.ref a12), (.ref a13), (.ref a14), (.ref a15)] .null) (P5 : Exa Z Z.heap a5 "java/math/BigDecimal") (P6 : Fld Z Z.heap a5 "java/math/BigDecimal" "scale" "I" (.int (0 : Int32))) (P7 : Fld Z Z.heap a5 "java/math/BigDecimal" "intCompact" "J" (.long (0 : Int64))) (P8 : Exa Z Z.heap a6 "java/math/BigDecimal") (P9 : Fld Z Z.heap a6 "java/math/BigDecimal" "scale" "I" (.int (0 : Int32))) (P10 : Fld Z Z.heap a6 "java/math/BigDecimal" "intCompact" "J" (.long (1 : Int64))) (P11 : Exa Z Z.heap a7 "java/math/BigDecimal") (P12 : Fld Z Z.heap a7 "java/math/BigDecimal" "scale" "I" (.int (0 : Int32))) (P13 : Fld Z Z.heap a7 "java/math/BigDecimal" "intCompact" "J" (.long (2 : Int64))) (P14 : Exa Z Z.heap a8 "java/math/BigDecimal") (P15 : Fld Z Z.heap a8 "java/math/BigDecimal" "scale" "I" (.int (0 : Int32))) (P16 : Fld Z Z.heap a8 "java/math/BigDecimal" "intCompact" "J" (.long (3 : Int64))) (P17 : Exa Z Z.heap a9 "java/math/BigDecimal") (P18 : Fld Z Z.heap a9 "java/math/BigDecimal" "scale" "I" (.int (0 : Int32))) (P19 : Fld Z Z.heap a9 "java/math/BigDecimal" "intCompact" "J" (.long (4 : Int64))) (P20 : Exa Z Z.heap a10 "java/math/BigDecimal") (P21 : Fld Z Z.heap a10 "java/math/BigDecimal" "scale" "I" (.int (0 : Int32))) (P22 : Fld Z Z.heap a10 "java/math/BigDecimal" "intCompact" "J" (.long (5 : Int64))) (P23 : Exa Z Z.heap a11 "java/math/BigDecimal") (P24 : Fld Z Z.heap a11 "java/math/BigDecimal" "scale" "I" (.int (0 : Int32))) (P25 : Fld Z Z.heap a11 "java/math/BigDecimal" "intCompact" "J" (.long (6 : Int64))) (P26 : Exa Z Z.heap a12 "java/math/BigDecimal") (P27 : Fld Z Z.heap a12 "java/math/BigDecimal" "scale" "I" (.int (0 : Int32))) (P28 : Fld Z Z.heap a12 "java/math/BigDecimal" "intCompact" "J" (.long (7 : Int64))) (P29 : Exa Z Z.heap a13 "java/math/BigDecimal") (P30 : Fld Z Z.heap a13 "java/math/BigDecimal" "scale" "I" (.int (0 : Int32))) (P31 : Fld Z Z.heap a13 "java/math/BigDecimal" "intCompact" "J" (.long (8 : Int64))) (P32 : Exa Z Z.heap a14 "java/math/BigDecimal") (P33 : Fld Z Z.heap a14 "java/math/BigDecimal" "scale" "I" (.int (0 : Int32))) (P34 : Fld Z Z.heap a14 "java/math/BigDecimal" "intCompact" "J" (.long (9 : Int64))) (P35 : Exa Z Z.heap a15 "java/math/BigDecimal") (P36 : Fld Z Z.heap a15 "java/math/BigDecimal" "scale" "I" (.int (0 : Int32))) (P37 : Fld Z Z.heap a15 "java/math/BigDecimal" "intCompact" "J" (.long (10 : Int64))) :
    MetFree l (⟨"java/math/BigDecimal", "add", "(JIJI)Ljava/math/BigDecimal;"⟩ : MethodName) (head1 (Jvm.Cond.code (⟨"java/math/BigDecimal", "add", "(JIJI)Ljava/math/BigDecimal;"⟩ : MethodName) jdk_17_method_134_code 12 (some (.object "java/math/BigDecimal")) :: ws) ({ frames := 6, cells := 1, slots := 5, locals := 87 } : Room)) (fun a U => a = #[(.long q1), (.int (0 : Int32)), (.long q2), (.int (0 : Int32))] ∧ Z.Warmed39 U.vm ∧ U.heap = h0) (fun _ _ _ _ _ => True) (fun _ U o U' => ∃ v L, o = .returned v ∧ Q_rm9_2 Z q1 q2 a3 k4 a5 a6 a7 a8 a9 a10 a11 a12 a13 a14 a15 h0 n0 v U'.heap L ∧ FrameEnd U o U' L ({ frames := 6, cells := 1, slots := 5, locals := 87 } : Room).cells ({ frames := 6, cells := 1, slots := 5, locals := 87 } : Room).slots) := by
  refine MetFree.of_bodySF (plainFor_of_name pn_1) hisR ?_
  intro p e s m args below meth c s₁ Bd hml0 hP hK
  obtain ⟨rfl, hZ, hh⟩ := hP
  have hx := Bd.exec
  have hby := Bd.bytes
  have hml : c.maxLocals = 12 := hml0
  have hown : s.vm.findClass "java/math/BigDecimal" = some m.cls := findClass_of_methodNamed Bd.named
  have hnm := (name_of_methodNamed Bd.named Bd.method).1
  have X0 : Stand p l e ({ frames := 6, cells := 1, slots := 5, locals := 87 } : Room) s m #[(.long q1), (.int (0 : Int32)), (.long q2), (.int (0 : Int32))] below meth c s₁ [] 0 0 := Stand.of_body Bd
  have e0 : s₁.heap = h0 := by rw [← hh, Bd.state]; rfl
  have N0 := Fr.nil n0
  refine Go.start (P := (fun o U' => ∃ v L, o = .returned v ∧ Q_rm9_2 Z q1 q2 a3 k4 a5 a6 a7 a8 a9 a10 a11 a12 a13 a14 a15 h0 n0 v U'.heap L ∧ FrameEnd s o U' L ({ frames := 6, cells := 1, slots := 5, locals := 87 } : Room).cells ({ frames := 6, cells := 1, slots := 5, locals := 87 } : Room).slots)) (castTop (g' := (mkF m 0 #[.val (.long q1), .second, .val (.int (0 : Int32)), .val (.long q2), .second, .val (.int (0 : Int32)), .unset, .unset, .unset, .unset, .unset, .unset] [])) (by first | rfl | simp [entryFrame, mkF, argsToLocals, Value.category]) (T := s₁)) ?_
  refine Go.st (fun t k => XS.iloadN X0.here hx rfl (hb hby d9_0) rfl k) ?_
  show Go p e below _ (s₁.setTop (mkF m 1 #[.val (.long q1), .second, .val (.int (0 : Int32)), .val (.long q2), .second, .val (.int (0 : Int32)), .unset, .unset, .unset, .unset, .unset, .unset] [(.int (0 : Int32))]))
  refine Go.st (fun t k => XS.i2l X0.here hx rfl (hb hby d9_1) rfl k) ?_
  show Go p e below _ (s₁.setTop (mkF m 2 #[.val (.long q1), .second, .val (.int (0 : Int32)), .val (.long q2), .second, .val (.int (0 : Int32)), .unset, .unset, .unset, .unset, .unset, .unset] [(.long (0 : Int64))]))
  refine Go.st (fun t k => XS.iload X0.here hx rfl (hb hby d9_2) rfl k) ?_
  show Go p e below _ (s₁.setTop (mkF m 4 #[.val (.long q1), .second, .val (.int (0 : Int32)), .val (.long q2), .second, .val (.int (0 : Int32)), .unset, .unset, .unset, .unset, .unset, .unset] [(.int (0 : Int32)), (.long (0 : Int64))]))
  refine Go.st (fun t k => XS.i2l X0.here hx rfl (hb hby d9_4) rfl k) ?_
  show Go p e below _ (s₁.setTop (mkF m 5 #[.val (.long q1), .second, .val (.int (0 : Int32)), .val (.long q2), .second, .val (.int (0 : Int32)), .unset, .unset, .unset, .unset, .unset, .unset] [(.long (0 : Int64)), (.long (0 : Int64))]))
  refine Go.st (fun t k => XS.lsub X0.here hx rfl (hb hby d9_5) rfl k) ?_
  show Go p e below _ (s₁.setTop (mkF m 6 #[.val (.long q1), .second, .val (.int (0 : Int32)), .val (.long q2), .second, .val (.int (0 : Int32)), .unset, .unset, .unset, .unset, .unset, .unset] [(.long (0 : Int64))]))
  refine Go.st (fun t k => XS.lstore X0.here hx rfl (hb hby d9_6) rfl (l' := #[.val (.long q1), .second, .val (.int (0 : Int32)), .val (.long q2), .second, .val (.int (0 : Int32)), .val (.long (0 : Int64)), .second, .unset, .unset, .unset, .unset]) rfl k) ?_
  show Go p e below _ (s₁.setTop (mkF m 8 #[.val (.long q1), .second, .val (.int (0 : Int32)), .val (.long q2), .second, .val (.int (0 : Int32)), .val (.long (0 : Int64)), .second, .unset, .unset, .unset, .unset] []))
  refine Go.st (fun t k => XS.lload X0.here hx rfl (hb hby d9_8) rfl k) ?_
  show Go p e below _ (s₁.setTop (mkF m 10 #[.val (.long q1), .second, .val (.int (0 : Int32)), .val (.long q2), .second, .val (.int (0 : Int32)), .val (.long (0 : Int64)), .second, .unset, .unset, .unset, .unset] [(.long (0 : Int64))]))
  refine Go.st (fun t k => XS.lconst X0.here hx rfl (hb hby d9_10) k) ?_
  show Go p e below _ (s₁.setTop (mkF m 11 #[.val (.long q1), .second, .val (.int (0 : Int32)), .val (.long q2), .second, .val (.int (0 : Int32)), .val (.long (0 : Int64)), .second, .unset, .unset, .unset, .unset] [(.long (0 : Int64)), (.long (0 : Int64))]))
  refine Go.st (fun t k => Jvm.Free.XT.lcmp X0.here hx rfl (hb hby d9_11) rfl k) ?_
  show Go p e below _ (s₁.setTop (mkF m 12 #[.val (.long q1), .second, .val (.int (0 : Int32)), .val (.long q2), .second, .val (.int (0 : Int32)), .val (.long (0 : Int64)), .second, .unset, .unset, .unset, .unset] [(.int (Jvm.Free.XT.cmpL (0 : Int64) (0 : Int64)))]))
  refine Go.st (fun t k => XS.ifNo X0.here hx rfl (hb hby d9_12) rfl (Jvm.Free.XT.ll_ne_f (by decide : (0 : Int64) = (0 : Int64))) k) ?_
  show Go p e below _ (s₁.setTop (mkF m 15 #[.val (.long q1), .second, .val (.int (0 : Int32)), .val (.long q2), .second, .val (.int (0 : Int32)), .val (.long (0 : Int64)), .second, .unset, .unset, .unset, .unset] []))
  refine Go.st (fun t k => XS.lloadN X0.here hx rfl (hb hby d9_15) rfl k) ?_
  show Go p e below _ (s₁.setTop (mkF m 16 #[.val (.long q1), .second, .val (.int (0 : Int32)), .val (.long q2), .second, .val (.int (0 : Int32)), .val (.long (0 : Int64)), .second, .unset, .unset, .unset, .unset] [(.long q1)]))
  refine Go.st (fun t k => XS.lloadN X0.here hx rfl (hb hby d9_16) rfl k) ?_
  show Go p e below _ (s₁.setTop (mkF m 17 #[.val (.long q1), .second, .val (.int (0 : Int32)), .val (.long q2), .second, .val (.int (0 : Int32)), .val (.long (0 : Int64)), .second, .unset, .unset, .unset, .unset] [(.long q2), (.long q1)]))
  refine Go.st (fun t k => XS.iloadN X0.here hx rfl (hb hby d9_17) rfl k) ?_
  show Go p e below _ (s₁.setTop (mkF m 18 #[.val (.long q1), .second, .val (.int (0 : Int32)), .val (.long q2), .second, .val (.int (0 : Int32)), .val (.long (0 : Int64)), .second, .unset, .unset, .unset, .unset] [(.int (0 : Int32)), (.long q2), (.long q1)]))
  obtain ⟨_, _, ⟨T1, L1, k1, n1⟩, -, X1, ⟨Lc1, hQ1, l1, y1, z1⟩, st1⟩ := Jvm.LawKit.callS X0 hx (y := (⟨"java/math/BigDecimal", "add", "(JJI)Ljava/math/BigDecimal;"⟩ : MethodName)) hown (mvT hZ (w64 hw)) (mvT hZ (w65 hw)) (mvT hZ (w2 hw)) (mvT hZ (w66 hw)) (by decide) (backOf (W := 0) (rm10_2 l Z a0 hw [] q1 q2 a3 k4 a5 a6 a7 a8 a9 a10 a11 a12 a13 a14 a15 h0 n0 O0 P1 P2 P3 P4 P5 P6 P7 P8 P9 P10 P11 P12 P13 P14 P15 P16 P17 P18 P19 P20 P21 P22 P23 P24 P25 P26 P27 P28 P29 P30 P31 P32 P33 P34 P35 P36 P37) hZ (w66 hw) (w2 hw) (by decide) (by decide)) (g := (mkF m 18 #[.val (.long q1), .second, .val (.int (0 : Int32)), .val (.long q2), .second, .val (.int (0 : Int32)), .val (.long (0 : Int64)), .second, .unset, .unset, .unset, .unset] [(.int (0 : Int32)), (.long q2), (.long q1)])) rfl (by rw [hml]; rfl) (argsL := [(.long q1), (.long q2), (.int (0 : Int32))]) (rest := []) (lenOf pd_7 rfl) rfl (by show 2 * 0 + _ ≤ _; exact Nat.le_of_eq rfl) (hb hby d9_18) (fun vm₁ hw₁ => ⟨rfl, e0, (by decide : 0 + 1 ≤ _), (by decide : 0 + 5 ≤ _)⟩)
  dsimp only [Pt.U, Pt.locs, Pt.cells, Pt.slots] at X1 l1 y1 z1 st1 hQ1
  subst l1 y1 z1
  obtain ⟨bv_1_2_1, rfl, M1, K1c, r1_0, r1_1, r1_2⟩ := hQ1
  have N1 := Fr.app N0 M1
  have O1 : Old Z n0 T1.heap := O0.keep K1c all0
  have K1 : Keep h0 T1.heap [] := (Keep.refl h0 []).trans K1c all0
  refine Go.st st1 ?_
  show Go p e below _ (T1.setTop (mkF m 21 #[.val (.long q1), .second, .val (.int (0 : Int32)), .val (.long q2), .second, .val (.int (0 : Int32)), .val (.long (0 : Int64)), .second, .unset, .unset, .unset, .unset] [(.ref bv_1_2_1)]))
  obtain ⟨fs, hr, hrun, hended, hWd, hsame⟩ := X1.leave (v := some (.ref bv_1_2_1)) (fun h => by rw [Bd.returns] at h; cases h)
  refine ⟨_, _, ?_, hrun, hended, _, _, rfl, ?_, ⟨⟨_, rfl⟩, hWd, hsame.mono (by decide) (by decide)⟩⟩
  · exact own_retA X1 hx Bd.returns rfl rfl (hb hby d9_21) hr
  · show Q_rm9_2 Z q1 q2 a3 k4 a5 a6 a7 a8 a9 a10 a11 a12 a13 a14 a15 h0 n0 _ T1.heap _
    exact ⟨bv_1_2_1, rfl, N1, K1, r1_0, r1_1, r1_2⟩
def Q_rm8_2 (Z : State) (a1 : Addr) (a2 : Addr) (q3 : Int64) (q4 : Int64) (a5 : Addr) (k6 : ClassId) (a7 : Addr) (a8 : Addr) (a9 : Addr) (a10 : Addr) (a11 : Addr) (a12 : Addr) (a13 : Addr) (a14 : Addr) (a15 : Addr) (a16 : Addr) (a17 : Addr) (h0 : Heap) (n0 : Nat) (v : Option Value) (h : Heap) (L : List Loc) : Prop := ∃ (bv_1_2_1_7 : Addr), v = some (.ref bv_1_2_1_7) ∧ Fr n0 L ∧ Keep h0 h [] ∧ Exa Z h bv_1_2_1_7 "java/math/BigDecimal" ∧ Fld Z h bv_1_2_1_7 "java/math/BigDecimal" "scale" "I" (.int (0 : Int32)) ∧ Fld Z h bv_1_2_1_7 "java/math/BigDecimal" "intCompact" "J" (.long (q3 + q4))
set_option maxRecDepth 65536 in
set_option maxHeartbeats 40000000 in
theorem rm8_2 (l : Launch) (Z : State) (a0 : Array Value) (hw : ∀ d ∈ tables_1, d.before a0 Z = true) (ws : List Jvm.Cond) (a1 : Addr) (a2 : Addr) (q3 : Int64) (q4 : Int64) (a5 : Addr) (k6 : ClassId) (a7 : Addr) (a8 : Addr) (a9 : Addr) (a10 : Addr) (a11 : Addr) (a12 : Addr) (a13 : Addr) (a14 : Addr) (a15 : Addr) (a16 : Addr) (a17 : Addr) (h0 : Heap) (n0 : Nat) (O0 : Old Z n0 h0) (P1 : Fld Z h0 a1 "java/math/BigDecimal" "intCompact" "J" (.long q3)) (P2 : ¬ (q3 = (-9223372036854775808 : Int64))) (P3 : Fld Z h0 a2 "java/math/BigDecimal" "intCompact" "J" (.long q4)) (P4 : ¬ (q4 = (-9223372036854775808 : Int64))) (P5 : Fld Z h0 a1 "java/math/BigDecimal" "scale" "I" (.int (0 : Int32))) (P6 : Fld Z h0 a2 "java/math/BigDecimal" "scale" "I" (.int (0 : Int32))) (P7 : ¬ ((((q3 + q4) ^^^ q3) &&& ((q3 + q4) ^^^ q4)) < (0 : Int64))) (P8 : ¬ ((q3 + q4) = (-9223372036854775808 : Int64))) (P9 : Sta Z Z.heap "java/math/BigDecimal" "ZERO_THROUGH_TEN" "[Ljava/math/BigDecimal;" (.ref a5)) (P10 : Arv Z Z.heap a5 k6 (.object "java/math/BigDecimal") (11 : Int32) [(.ref a7), (.ref a8), (.ref a9), (.ref a10), (.ref a11), (.ref a12), (.ref a13), (.ref a14), (.ref a15), (.ref a16), (.ref a17)] .null) (P11 : Exa Z Z.heap a7 "java/math/BigDecimal") (P12 : Fld Z Z.heap a7 "java/math/BigDecimal" "scale" "I" (.int (0 : Int32))) (P13 : Fld Z Z.heap a7 "java/math/BigDecimal" "intCompact" "J" (.long (0 : Int64))) (P14 : Exa Z Z.heap a8 "java/math/BigDecimal") (P15 : Fld Z Z.heap a8 "java/math/BigDecimal" "scale" "I" (.int (0 : Int32))) (P16 : Fld Z Z.heap a8 "java/math/BigDecimal" "intCompact" "J" (.long (1 : Int64))) (P17 : Exa Z Z.heap a9 "java/math/BigDecimal") (P18 : Fld Z Z.heap a9 "java/math/BigDecimal" "scale" "I" (.int (0 : Int32))) (P19 : Fld Z Z.heap a9 "java/math/BigDecimal" "intCompact" "J" (.long (2 : Int64))) (P20 : Exa Z Z.heap a10 "java/math/BigDecimal") (P21 : Fld Z Z.heap a10 "java/math/BigDecimal" "scale" "I" (.int (0 : Int32))) (P22 : Fld Z Z.heap a10 "java/math/BigDecimal" "intCompact" "J" (.long (3 : Int64))) (P23 : Exa Z Z.heap a11 "java/math/BigDecimal") (P24 : Fld Z Z.heap a11 "java/math/BigDecimal" "scale" "I" (.int (0 : Int32))) (P25 : Fld Z Z.heap a11 "java/math/BigDecimal" "intCompact" "J" (.long (4 : Int64))) (P26 : Exa Z Z.heap a12 "java/math/BigDecimal") (P27 : Fld Z Z.heap a12 "java/math/BigDecimal" "scale" "I" (.int (0 : Int32))) (P28 : Fld Z Z.heap a12 "java/math/BigDecimal" "intCompact" "J" (.long (5 : Int64))) (P29 : Exa Z Z.heap a13 "java/math/BigDecimal") (P30 : Fld Z Z.heap a13 "java/math/BigDecimal" "scale" "I" (.int (0 : Int32))) (P31 : Fld Z Z.heap a13 "java/math/BigDecimal" "intCompact" "J" (.long (6 : Int64))) (P32 : Exa Z Z.heap a14 "java/math/BigDecimal") (P33 : Fld Z Z.heap a14 "java/math/BigDecimal" "scale" "I" (.int (0 : Int32))) (P34 : Fld Z Z.heap a14 "java/math/BigDecimal" "intCompact" "J" (.long (7 : Int64))) (P35 : Exa Z Z.heap a15 "java/math/BigDecimal") (P36 : Fld Z Z.heap a15 "java/math/BigDecimal" "scale" "I" (.int (0 : Int32))) (P37 : Fld Z Z.heap a15 "java/math/BigDecimal" "intCompact" "J" (.long (8 : Int64))) (P38 : Exa Z Z.heap a16 "java/math/BigDecimal") (P39 : Fld Z Z.heap a16 "java/math/BigDecimal" "scale" "I" (.int (0 : Int32))) (P40 : Fld Z Z.heap a16 "java/math/BigDecimal" "intCompact" "J" (.long (9 : Int64))) (P41 : Exa Z Z.heap a17 "java/math/BigDecimal") (P42 : Fld Z Z.heap a17 "java/math/BigDecimal" "scale" "I" (.int (0 : Int32))) (P43 : Fld Z Z.heap a17 "java/math/BigDecimal" "intCompact" "J" (.long (10 : Int64))) :
    MetFree l (⟨"java/math/BigDecimal", "add", "(Ljava/math/BigDecimal;)Ljava/math/BigDecimal;"⟩ : MethodName) (head1 (Jvm.Cond.code (⟨"java/math/BigDecimal", "add", "(Ljava/math/BigDecimal;)Ljava/math/BigDecimal;"⟩ : MethodName) jdk_17_method_26_code 2 (some (.object "java/math/BigDecimal")) :: ws) ({ frames := 7, cells := 1, slots := 5, locals := 110 } : Room)) (fun a U => a = #[(.ref a1), (.ref a2)] ∧ Z.Warmed39 U.vm ∧ U.heap = h0) (fun _ _ _ _ _ => True) (fun _ U o U' => ∃ v L, o = .returned v ∧ Q_rm8_2 Z a1 a2 q3 q4 a5 k6 a7 a8 a9 a10 a11 a12 a13 a14 a15 a16 a17 h0 n0 v U'.heap L ∧ FrameEnd U o U' L ({ frames := 7, cells := 1, slots := 5, locals := 110 } : Room).cells ({ frames := 7, cells := 1, slots := 5, locals := 110 } : Room).slots) := by
  refine MetFree.of_bodySF (plainFor_of_name pn_1) hisR ?_
  intro p e s m args below meth c s₁ Bd hml0 hP hK
  obtain ⟨rfl, hZ, hh⟩ := hP
  have hx := Bd.exec
  have hby := Bd.bytes
  have hml : c.maxLocals = 2 := hml0
  have hown : s.vm.findClass "java/math/BigDecimal" = some m.cls := findClass_of_methodNamed Bd.named
  have hnm := (name_of_methodNamed Bd.named Bd.method).1
  have X0 : Stand p l e ({ frames := 7, cells := 1, slots := 5, locals := 110 } : Room) s m #[(.ref a1), (.ref a2)] below meth c s₁ [] 0 0 := Stand.of_body Bd
  have e0 : s₁.heap = h0 := by rw [← hh, Bd.state]; rfl
  have N0 := Fr.nil n0
  refine Go.start (P := (fun o U' => ∃ v L, o = .returned v ∧ Q_rm8_2 Z a1 a2 q3 q4 a5 k6 a7 a8 a9 a10 a11 a12 a13 a14 a15 a16 a17 h0 n0 v U'.heap L ∧ FrameEnd s o U' L ({ frames := 7, cells := 1, slots := 5, locals := 110 } : Room).cells ({ frames := 7, cells := 1, slots := 5, locals := 110 } : Room).slots)) (castTop (g' := (mkF m 0 #[.val (.ref a1), .val (.ref a2)] [])) (by first | rfl | simp [entryFrame, mkF, argsToLocals, Value.category]) (T := s₁)) ?_
  refine Go.st (fun t k => XS.aloadN X0.here hx rfl (hb hby d8_0) rfl rfl k) ?_
  show Go p e below _ (s₁.setTop (mkF m 1 #[.val (.ref a1), .val (.ref a2)] [(.ref a1)]))
  obtain ⟨T1, X1, e1, st1⟩ := getF X0 hx hZ hown (host := "") (Or.inl (w56 hw)) Via.refl e0 P1 (g := (mkF m 1 #[.val (.ref a1), .val (.ref a2)] [(.ref a1)])) rfl rfl (hb hby d8_1)
  refine Go.st st1 ?_
  show Go p e below _ (T1.setTop (mkF m 4 #[.val (.ref a1), .val (.ref a2)] [(.long q3)]))
  refine Go.st (fun t k => X1.ldc2J hx hown (mvT hZ (w58 hw)) (g := (mkF m 4 #[.val (.ref a1), .val (.ref a2)] [(.long q3)])) rfl (hb hby d8_4) k) ?_
  show Go p e below _ (T1.setTop (mkF m 7 #[.val (.ref a1), .val (.ref a2)] [(.long (-9223372036854775808 : Int64)), (.long q3)]))
  refine Go.st (fun t k => Jvm.Free.XT.lcmp X1.here hx rfl (hb hby d8_7) rfl k) ?_
  show Go p e below _ (T1.setTop (mkF m 8 #[.val (.ref a1), .val (.ref a2)] [(.int (Jvm.Free.XT.cmpL q3 (-9223372036854775808 : Int64)))]))
  refine Go.st (fun t k => XS.ifNo X1.here hx rfl (hb hby d8_8) rfl (Jvm.Free.XT.ll_eq_f P2) k) ?_
  show Go p e below _ (T1.setTop (mkF m 11 #[.val (.ref a1), .val (.ref a2)] []))
  refine Go.st (fun t k => XS.aloadN X1.here hx rfl (hb hby d8_11) rfl rfl k) ?_
  show Go p e below _ (T1.setTop (mkF m 12 #[.val (.ref a1), .val (.ref a2)] [(.ref a2)]))
  obtain ⟨T2, X2, e2, st2⟩ := getF X1 hx hZ hown (host := "") (Or.inl (w56 hw)) Via.refl e1 P3 (g := (mkF m 12 #[.val (.ref a1), .val (.ref a2)] [(.ref a2)])) rfl rfl (hb hby d8_12)
  refine Go.st st2 ?_
  show Go p e below _ (T2.setTop (mkF m 15 #[.val (.ref a1), .val (.ref a2)] [(.long q4)]))
  refine Go.st (fun t k => X2.ldc2J hx hown (mvT hZ (w58 hw)) (g := (mkF m 15 #[.val (.ref a1), .val (.ref a2)] [(.long q4)])) rfl (hb hby d8_15) k) ?_
  show Go p e below _ (T2.setTop (mkF m 18 #[.val (.ref a1), .val (.ref a2)] [(.long (-9223372036854775808 : Int64)), (.long q4)]))
  refine Go.st (fun t k => Jvm.Free.XT.lcmp X2.here hx rfl (hb hby d8_18) rfl k) ?_
  show Go p e below _ (T2.setTop (mkF m 19 #[.val (.ref a1), .val (.ref a2)] [(.int (Jvm.Free.XT.cmpL q4 (-9223372036854775808 : Int64)))]))
  refine Go.st (fun t k => XS.ifNo X2.here hx rfl (hb hby d8_19) rfl (Jvm.Free.XT.ll_eq_f P4) k) ?_
  show Go p e below _ (T2.setTop (mkF m 22 #[.val (.ref a1), .val (.ref a2)] []))
  refine Go.st (fun t k => XS.aloadN X2.here hx rfl (hb hby d8_22) rfl rfl k) ?_
  show Go p e below _ (T2.setTop (mkF m 23 #[.val (.ref a1), .val (.ref a2)] [(.ref a1)]))
  obtain ⟨T3, X3, e3, st3⟩ := getF X2 hx hZ hown (host := "") (Or.inl (w56 hw)) Via.refl e2 P1 (g := (mkF m 23 #[.val (.ref a1), .val (.ref a2)] [(.ref a1)])) rfl rfl (hb hby d8_23)
  refine Go.st st3 ?_
  show Go p e below _ (T3.setTop (mkF m 26 #[.val (.ref a1), .val (.ref a2)] [(.long q3)]))
  refine Go.st (fun t k => XS.aloadN X3.here hx rfl (hb hby d8_26) rfl rfl k) ?_
  show Go p e below _ (T3.setTop (mkF m 27 #[.val (.ref a1), .val (.ref a2)] [(.ref a1), (.long q3)]))
  obtain ⟨T4, X4, e4, st4⟩ := getF X3 hx hZ hown (host := "") (Or.inl (w59 hw)) Via.refl e3 P5 (g := (mkF m 27 #[.val (.ref a1), .val (.ref a2)] [(.ref a1), (.long q3)])) rfl rfl (hb hby d8_27)
  refine Go.st st4 ?_
  show Go p e below _ (T4.setTop (mkF m 30 #[.val (.ref a1), .val (.ref a2)] [(.int (0 : Int32)), (.long q3)]))
  refine Go.st (fun t k => XS.aloadN X4.here hx rfl (hb hby d8_30) rfl rfl k) ?_
  show Go p e below _ (T4.setTop (mkF m 31 #[.val (.ref a1), .val (.ref a2)] [(.ref a2), (.int (0 : Int32)), (.long q3)]))
  obtain ⟨T5, X5, e5, st5⟩ := getF X4 hx hZ hown (host := "") (Or.inl (w56 hw)) Via.refl e4 P3 (g := (mkF m 31 #[.val (.ref a1), .val (.ref a2)] [(.ref a2), (.int (0 : Int32)), (.long q3)])) rfl rfl (hb hby d8_31)
  refine Go.st st5 ?_
  show Go p e below _ (T5.setTop (mkF m 34 #[.val (.ref a1), .val (.ref a2)] [(.long q4), (.int (0 : Int32)), (.long q3)]))
  refine Go.st (fun t k => XS.aloadN X5.here hx rfl (hb hby d8_34) rfl rfl k) ?_
  show Go p e below _ (T5.setTop (mkF m 35 #[.val (.ref a1), .val (.ref a2)] [(.ref a2), (.long q4), (.int (0 : Int32)), (.long q3)]))
  obtain ⟨T6, X6, e6, st6⟩ := getF X5 hx hZ hown (host := "") (Or.inl (w59 hw)) Via.refl e5 P6 (g := (mkF m 35 #[.val (.ref a1), .val (.ref a2)] [(.ref a2), (.long q4), (.int (0 : Int32)), (.long q3)])) rfl rfl (hb hby d8_35)
  refine Go.st st6 ?_
  show Go p e below _ (T6.setTop (mkF m 38 #[.val (.ref a1), .val (.ref a2)] [(.int (0 : Int32)), (.long q4), (.int (0 : Int32)), (.long q3)]))
  obtain ⟨_, _, ⟨T7, L7, k7, n7⟩, -, X7, ⟨Lc7, hQ7, l7, y7, z7⟩, st7⟩ := Jvm.LawKit.callS X6 hx (y := (⟨"java/math/BigDecimal", "add", "(JIJI)Ljava/math/BigDecimal;"⟩ : MethodName)) hown (mvT hZ (w61 hw)) (mvT hZ (w62 hw)) (mvT hZ (w2 hw)) (mvT hZ (w63 hw)) (by decide) (backOf (W := 0) (rm9_2 l Z a0 hw [] q3 q4 a5 k6 a7 a8 a9 a10 a11 a12 a13 a14 a15 a16 a17 h0 n0 O0 P7 P8 P9 P10 P11 P12 P13 P14 P15 P16 P17 P18 P19 P20 P21 P22 P23 P24 P25 P26 P27 P28 P29 P30 P31 P32 P33 P34 P35 P36 P37 P38 P39 P40 P41 P42 P43) hZ (w63 hw) (w2 hw) (by decide) (by decide)) (g := (mkF m 38 #[.val (.ref a1), .val (.ref a2)] [(.int (0 : Int32)), (.long q4), (.int (0 : Int32)), (.long q3)])) rfl (by rw [hml]; rfl) (argsL := [(.long q3), (.int (0 : Int32)), (.long q4), (.int (0 : Int32))]) (rest := []) (lenOf pd_8 rfl) rfl (by show 2 * 0 + _ ≤ _; exact Nat.le_of_eq rfl) (hb hby d8_38) (fun vm₁ hw₁ => ⟨rfl, e6, (by decide : 0 + 1 ≤ _), (by decide : 0 + 5 ≤ _)⟩)
  dsimp only [Pt.U, Pt.locs, Pt.cells, Pt.slots] at X7 l7 y7 z7 st7 hQ7
  subst l7 y7 z7
  obtain ⟨bv_1_2_1_7, rfl, M7, K7c, r7_0, r7_1, r7_2⟩ := hQ7
  have N7 := Fr.app N0 M7
  have O7 : Old Z n0 T7.heap := O0.keep K7c all0
  have K7 : Keep h0 T7.heap [] := (Keep.refl h0 []).trans K7c all0
  refine Go.st st7 ?_
  show Go p e below _ (T7.setTop (mkF m 41 #[.val (.ref a1), .val (.ref a2)] [(.ref bv_1_2_1_7)]))
  obtain ⟨fs, hr, hrun, hended, hWd, hsame⟩ := X7.leave (v := some (.ref bv_1_2_1_7)) (fun h => by rw [Bd.returns] at h; cases h)
  refine ⟨_, _, ?_, hrun, hended, _, _, rfl, ?_, ⟨⟨_, rfl⟩, hWd, hsame.mono (by decide) (by decide)⟩⟩
  · exact own_retA X7 hx Bd.returns rfl rfl (hb hby d8_41) hr
  · show Q_rm8_2 Z a1 a2 q3 q4 a5 k6 a7 a8 a9 a10 a11 a12 a13 a14 a15 a16 a17 h0 n0 _ T7.heap _
    exact ⟨bv_1_2_1_7, rfl, N7, K7, r7_0, r7_1, r7_2⟩
def Q_rm6_2 (Z : State) (a1 : Addr) (a2 : Addr) (a3 : Addr) (a4 : Addr) (q5 : Int64) (q6 : Int64) (a7 : Addr) (k8 : ClassId) (a9 : Addr) (a10 : Addr) (a11 : Addr) (a12 : Addr) (a13 : Addr) (a14 : Addr) (a15 : Addr) (a16 : Addr) (a17 : Addr) (a18 : Addr) (a19 : Addr) (h0 : Heap) (n0 : Nat) (v : Option Value) (h : Heap) (L : List Loc) : Prop := ∃ (bv_1_2_1_7_6 : Addr), v = none ∧ Fr n0 L ∧ Keep h0 h [a1] ∧ Fld Z h a1 "com/example/cropmark/cropmark/Assessment$Sums" "lots" "I" (.int (2 : Int32)) ∧ Fld Z h a1 "com/example/cropmark/cropmark/Assessment$Sums" "assessedLb" "Ljava/math/BigDecimal;" (.ref bv_1_2_1_7_6) ∧ Fld Z h a1 "com/example/cropmark/cropmark/Assessment$Sums" "inedibleLb" "Ljava/math/BigDecimal;" (.ref a9) ∧ Exa Z h bv_1_2_1_7_6 "java/math/BigDecimal" ∧ Fld Z h bv_1_2_1_7_6 "java/math/BigDecimal" "scale" "I" (.int (0 : Int32)) ∧ Fld Z h bv_1_2_1_7_6 "java/math/BigDecimal" "intCompact" "J" (.long (q5 + q6))
set_option maxRecDepth 65536 in
set_option maxHeartbeats 40000000 in
theorem rm6_2 (l : Launch) (Z : State) (a0 : Array Value) (hw : ∀ d ∈ tables_1, d.before a0 Z = true) (ws : List Jvm.Cond) (a1 : Addr) (a2 : Addr) (a3 : Addr) (a4 : Addr) (q5 : Int64) (q6 : Int64) (a7 : Addr) (k8 : ClassId) (a9 : Addr) (a10 : Addr) (a11 : Addr) (a12 : Addr) (a13 : Addr) (a14 : Addr) (a15 : Addr) (a16 : Addr) (a17 : Addr) (a18 : Addr) (a19 : Addr) (h0 : Heap) (n0 : Nat) (O0 : Old Z n0 h0) (P1 : Fld Z h0 a1 "com/example/cropmark/cropmark/Assessment$Sums" "lots" "I" (.int (1 : Int32))) (P2 : Exa Z h0 a1 "com/example/cropmark/cropmark/Assessment$Sums") (P3 : n0 ≤ a1) (P4 : Fld Z h0 a1 "com/example/cropmark/cropmark/Assessment$Sums" "assessedLb" "Ljava/math/BigDecimal;" (.ref a3)) (P5 : Exa Z h0 a2 "com/example/cropmark/cropmark/Weights") (P6 : Fld Z h0 a2 "com/example/cropmark/cropmark/Weights" "assessedLb" "Ljava/math/BigDecimal;" (.ref a4)) (P7 : a2 ≠ a1) (P8 : Exa Z h0 a3 "java/math/BigDecimal") (P9 : Fld Z h0 a3 "java/math/BigDecimal" "intCompact" "J" (.long q5)) (P10 : ¬ (q5 = (-9223372036854775808 : Int64))) (P11 : Fld Z h0 a4 "java/math/BigDecimal" "intCompact" "J" (.long q6)) (P12 : ¬ (q6 = (-9223372036854775808 : Int64))) (P13 : Fld Z h0 a3 "java/math/BigDecimal" "scale" "I" (.int (0 : Int32))) (P14 : Fld Z h0 a4 "java/math/BigDecimal" "scale" "I" (.int (0 : Int32))) (P15 : ¬ ((((q5 + q6) ^^^ q5) &&& ((q5 + q6) ^^^ q6)) < (0 : Int64))) (P16 : ¬ ((q5 + q6) = (-9223372036854775808 : Int64))) (P17 : Sta Z Z.heap "java/math/BigDecimal" "ZERO_THROUGH_TEN" "[Ljava/math/BigDecimal;" (.ref a7)) (P18 : Arv Z Z.heap a7 k8 (.object "java/math/BigDecimal") (11 : Int32) [(.ref a9), (.ref a10), (.ref a11), (.ref a12), (.ref a13), (.ref a14), (.ref a15), (.ref a16), (.ref a17), (.ref a18), (.ref a19)] .null) (P19 : Exa Z Z.heap a9 "java/math/BigDecimal") (P20 : Fld Z Z.heap a9 "java/math/BigDecimal" "scale" "I" (.int (0 : Int32))) (P21 : Fld Z Z.heap a9 "java/math/BigDecimal" "intCompact" "J" (.long (0 : Int64))) (P22 : Exa Z Z.heap a10 "java/math/BigDecimal") (P23 : Fld Z Z.heap a10 "java/math/BigDecimal" "scale" "I" (.int (0 : Int32))) (P24 : Fld Z Z.heap a10 "java/math/BigDecimal" "intCompact" "J" (.long (1 : Int64))) (P25 : Exa Z Z.heap a11 "java/math/BigDecimal") (P26 : Fld Z Z.heap a11 "java/math/BigDecimal" "scale" "I" (.int (0 : Int32))) (P27 : Fld Z Z.heap a11 "java/math/BigDecimal" "intCompact" "J" (.long (2 : Int64))) (P28 : Exa Z Z.heap a12 "java/math/BigDecimal") (P29 : Fld Z Z.heap a12 "java/math/BigDecimal" "scale" "I" (.int (0 : Int32))) (P30 : Fld Z Z.heap a12 "java/math/BigDecimal" "intCompact" "J" (.long (3 : Int64))) (P31 : Exa Z Z.heap a13 "java/math/BigDecimal") (P32 : Fld Z Z.heap a13 "java/math/BigDecimal" "scale" "I" (.int (0 : Int32))) (P33 : Fld Z Z.heap a13 "java/math/BigDecimal" "intCompact" "J" (.long (4 : Int64))) (P34 : Exa Z Z.heap a14 "java/math/BigDecimal") (P35 : Fld Z Z.heap a14 "java/math/BigDecimal" "scale" "I" (.int (0 : Int32))) (P36 : Fld Z Z.heap a14 "java/math/BigDecimal" "intCompact" "J" (.long (5 : Int64))) (P37 : Exa Z Z.heap a15 "java/math/BigDecimal") (P38 : Fld Z Z.heap a15 "java/math/BigDecimal" "scale" "I" (.int (0 : Int32))) (P39 : Fld Z Z.heap a15 "java/math/BigDecimal" "intCompact" "J" (.long (6 : Int64))) (P40 : Exa Z Z.heap a16 "java/math/BigDecimal") (P41 : Fld Z Z.heap a16 "java/math/BigDecimal" "scale" "I" (.int (0 : Int32))) (P42 : Fld Z Z.heap a16 "java/math/BigDecimal" "intCompact" "J" (.long (7 : Int64))) (P43 : Exa Z Z.heap a17 "java/math/BigDecimal") (P44 : Fld Z Z.heap a17 "java/math/BigDecimal" "scale" "I" (.int (0 : Int32))) (P45 : Fld Z Z.heap a17 "java/math/BigDecimal" "intCompact" "J" (.long (8 : Int64))) (P46 : Exa Z Z.heap a18 "java/math/BigDecimal") (P47 : Fld Z Z.heap a18 "java/math/BigDecimal" "scale" "I" (.int (0 : Int32))) (P48 : Fld Z Z.heap a18 "java/math/BigDecimal" "intCompact" "J" (.long (9 : Int64))) (P49 : Exa Z Z.heap a19 "java/math/BigDecimal") (P50 : Fld Z Z.heap a19 "java/math/BigDecimal" "scale" "I" (.int (0 : Int32))) (P51 : Fld Z Z.heap a19 "java/math/BigDecimal" "intCompact" "J" (.long (10 : Int64))) (P52 : a3 ≠ a1) (P53 : a4 ≠ a1) (P54 : Fld Z h0 a2 "com/example/cropmark/cropmark/Weights" "inedibleLb" "Ljava/math/BigDecimal;" .null) (P55 : Fld Z h0 a1 "com/example/cropmark/cropmark/Assessment$Sums" "inedibleLb" "Ljava/math/BigDecimal;" (.ref a9)) :
    MetFree l (⟨"com/example/cropmark/cropmark/Assessment$Sums", "add", "(Lcom/example/cropmark/cropmark/Weights;)V"⟩ : MethodName) (head1 (Jvm.Cond.code (⟨"com/example/cropmark/cropmark/Assessment$Sums", "add", "(Lcom/example/cropmark/cropmark/Weights;)V"⟩ : MethodName) prog_12_method_3_code 2 none :: ws) ({ frames := 8, cells := 1, slots := 5, locals := 124 } : Room)) (fun a U => a = #[(.ref a1), (.ref a2)] ∧ Z.Warmed39 U.vm ∧ U.heap = h0) (fun _ _ _ _ _ => True) (fun _ U o U' => ∃ v L, o = .returned v ∧ Q_rm6_2 Z a1 a2 a3 a4 q5 q6 a7 k8 a9 a10 a11 a12 a13 a14 a15 a16 a17 a18 a19 h0 n0 v U'.heap L ∧ FrameEnd U o U' L ({ frames := 8, cells := 1, slots := 5, locals := 124 } : Room).cells ({ frames := 8, cells := 1, slots := 5, locals := 124 } : Room).slots) := by
  refine MetFree.of_bodySF (plainFor_of_name pn_4) hisR ?_
  intro p e s m args below meth c s₁ Bd hml0 hP hK
  obtain ⟨rfl, hZ, hh⟩ := hP
  have hx := Bd.exec
  have hby := Bd.bytes
  have hml : c.maxLocals = 2 := hml0
  have hown : s.vm.findClass "com/example/cropmark/cropmark/Assessment$Sums" = some m.cls := findClass_of_methodNamed Bd.named
  have hnm := (name_of_methodNamed Bd.named Bd.method).1
  have X0 : Stand p l e ({ frames := 8, cells := 1, slots := 5, locals := 124 } : Room) s m #[(.ref a1), (.ref a2)] below meth c s₁ [] 0 0 := Stand.of_body Bd
  have e0 : s₁.heap = h0 := by rw [← hh, Bd.state]; rfl
  have N0 := Fr.nil n0
  refine Go.start (P := (fun o U' => ∃ v L, o = .returned v ∧ Q_rm6_2 Z a1 a2 a3 a4 q5 q6 a7 k8 a9 a10 a11 a12 a13 a14 a15 a16 a17 a18 a19 h0 n0 v U'.heap L ∧ FrameEnd s o U' L ({ frames := 8, cells := 1, slots := 5, locals := 124 } : Room).cells ({ frames := 8, cells := 1, slots := 5, locals := 124 } : Room).slots)) (castTop (g' := (mkF m 0 #[.val (.ref a1), .val (.ref a2)] [])) (by first | rfl | simp [entryFrame, mkF, argsToLocals, Value.category]) (T := s₁)) ?_
  refine Go.st (fun t k => XS.aloadN X0.here hx rfl (hb hby d6_0) rfl rfl k) ?_
  show Go p e below _ (s₁.setTop (mkF m 1 #[.val (.ref a1), .val (.ref a2)] [(.ref a1)]))
  refine Go.st (fun t k => XS.dup X0.here hx rfl (hb hby d6_1) rfl rfl k) ?_
  show Go p e below _ (s₁.setTop (mkF m 2 #[.val (.ref a1), .val (.ref a2)] [(.ref a1), (.ref a1)]))
  obtain ⟨T1, X1, e1, st1⟩ := getF X0 hx hZ hown (host := "") (Or.inl (w44 hw)) Via.refl e0 P1 (g := (mkF m 2 #[.val (.ref a1), .val (.ref a2)] [(.ref a1), (.ref a1)])) rfl rfl (hb hby d6_2)
  refine Go.st st1 ?_
  show Go p e below _ (T1.setTop (mkF m 5 #[.val (.ref a1), .val (.ref a2)] [(.int (1 : Int32)), (.ref a1)]))
  refine Go.st (fun t k => XS.iconst X1.here hx rfl (hb hby d6_5) k) ?_
  show Go p e below _ (T1.setTop (mkF m 6 #[.val (.ref a1), .val (.ref a2)] [(.int (1 : Int32)), (.int (1 : Int32)), (.ref a1)]))
  refine Go.st (fun t k => XS.iadd X1.here hx rfl (hb hby d6_6) rfl k) ?_
  show Go p e below _ (T1.setTop (mkF m 7 #[.val (.ref a1), .val (.ref a2)] [(.int (2 : Int32)), (.ref a1)]))
  obtain ⟨T2, h2, X2, e2, W2, st2⟩ := putF X1 hx hZ hown (host := "") (Or.inl (w44 hw)) Via.refl e1 P1 P2 (Or.inl (w45 hw)) (w28 hw) (ty := .int) (by decide) rfl rfl (g := (mkF m 7 #[.val (.ref a1), .val (.ref a2)] [(.int (2 : Int32)), (.ref a1)])) rfl rfl (hb hby d6_7)
  have F2 : Fld Z h2 a1 "com/example/cropmark/cropmark/Assessment$Sums" "lots" "I" (.int (2 : Int32)) := P1.same W2
  have N2 := Fr.snoc X2 N0 P3
  have O2 : Old Z n0 h2 := O0.wr W2 P3
  have K2 : Keep h0 h2 [a1] := (Keep.refl h0 [a1]).wr W2 (Or.inl (List.mem_of_getElem? (i := 0) rfl))
  refine Go.st st2 ?_
  show Go p e below _ (T2.setTop (mkF m 10 #[.val (.ref a1), .val (.ref a2)] []))
  refine Go.st (fun t k => XS.aloadN X2.here hx rfl (hb hby d6_10) rfl rfl k) ?_
  show Go p e below _ (T2.setTop (mkF m 11 #[.val (.ref a1), .val (.ref a2)] [(.ref a1)]))
  refine Go.st (fun t k => XS.aloadN X2.here hx rfl (hb hby d6_11) rfl rfl k) ?_
  show Go p e below _ (T2.setTop (mkF m 12 #[.val (.ref a1), .val (.ref a2)] [(.ref a1), (.ref a1)]))
  have c3 := (P4.other W2 (Or.inr (slot_ne (Or.inl (w36 hw)) (Or.inl (w45 hw)) (by decide) (t := (.object "java/math/BigDecimal")) (t' := .int) (by decide) (by decide))))
  obtain ⟨T4, X4, e4, st4⟩ := getF X2 hx hZ hown (host := "") (Or.inl (w35 hw)) Via.refl e2 c3 (g := (mkF m 12 #[.val (.ref a1), .val (.ref a2)] [(.ref a1), (.ref a1)])) rfl rfl (hb hby d6_12)
  refine Go.st st4 ?_
  show Go p e below _ (T4.setTop (mkF m 15 #[.val (.ref a1), .val (.ref a2)] [(.ref a3), (.ref a1)]))
  refine Go.st (fun t k => XS.aloadN X4.here hx rfl (hb hby d6_15) rfl rfl k) ?_
  show Go p e below _ (T4.setTop (mkF m 16 #[.val (.ref a1), .val (.ref a2)] [(.ref a2), (.ref a3), (.ref a1)]))
  obtain ⟨cq5, kq5, q5a, q5b, q5c⟩ := isOf hZ e4 (P5.wr W2)
  obtain ⟨_, _, ⟨T5, L5, k5, n5⟩, -, X5, ⟨Lc5, hQ5, l5, y5, z5⟩, st5⟩ := X4.virtualBack hx (y := (⟨"com/example/cropmark/cropmark/Weights", "assessedLb", "()Ljava/math/BigDecimal;"⟩ : MethodName)) (z := (⟨"com/example/cropmark/cropmark/Weights", "assessedLb", "()Ljava/math/BigDecimal;"⟩ : MethodName)) hown (mvT hZ (w46 hw)) (mvT hZ (w47 hw)) (notFace_of_selects (args := #[]) (mvT hZ (w49 hw))) (mvT hZ (w49 hw)) (mvT hZ (w48 hw)) (by decide) (backOf (W := 2) (rm7_1 l Z a0 hw [] a2 a4 h2 n0 O2 (P6.other W2 (Or.inl P7))) hZ (w50 hw) (w7 hw) (by decide) (by decide)) q5a q5c (g := (mkF m 16 #[.val (.ref a1), .val (.ref a2)] [(.ref a2), (.ref a3), (.ref a1)])) rfl (by rw [hml]; rfl) (Steps.refl _) (argsL := []) (rest := [(.ref a3), (.ref a1)]) (lenOf pd_4 rfl) rfl (by show 2 * 0 + _ ≤ _; exact Nat.le_of_eq rfl) (hb hby d6_16) (fun vm₁ hw₁ => ⟨rfl, e4, (by decide : 0 + 0 ≤ _), (by decide : 0 + 0 ≤ _)⟩)
  dsimp only [Pt.U, Pt.locs, Pt.cells, Pt.slots] at X5 l5 y5 z5 st5 hQ5
  subst l5 y5 z5
  obtain ⟨rfl, M5, eh5⟩ := hQ5
  have N5 := Fr.app N2 M5
  refine Go.tr st5 ?_
  show Go p e below _ (T5.setTop (mkF m 19 #[.val (.ref a1), .val (.ref a2)] [(.ref a4), (.ref a3), (.ref a1)]))
  obtain ⟨cq6, kq6, q6a, q6b, q6c⟩ := isOf hZ eh5 (P8.wr W2)
  obtain ⟨_, _, ⟨T6, L6, k6, n6⟩, -, X6, ⟨Lc6, hQ6, l6, y6, z6⟩, st6⟩ := X5.virtualBack hx (y := (⟨"java/math/BigDecimal", "add", "(Ljava/math/BigDecimal;)Ljava/math/BigDecimal;"⟩ : MethodName)) (z := (⟨"java/math/BigDecimal", "add", "(Ljava/math/BigDecimal;)Ljava/math/BigDecimal;"⟩ : MethodName)) hown (mvT hZ (w51 hw)) (mvT hZ (w52 hw)) (notFace_of_selects (args := #[]) (mvT hZ (w54 hw))) (mvT hZ (w54 hw)) (mvT hZ (w53 hw)) (by decide) (backOf (W := 1) (rm8_2 l Z a0 hw [] a3 a4 q5 q6 a7 k8 a9 a10 a11 a12 a13 a14 a15 a16 a17 a18 a19 h2 n0 O2 (P9.other W2 (Or.inl P52)) P10 (P11.other W2 (Or.inl P53)) P12 (P13.other W2 (Or.inl P52)) (P14.other W2 (Or.inl P53)) P15 P16 P17 P18 P19 P20 P21 P22 P23 P24 P25 P26 P27 P28 P29 P30 P31 P32 P33 P34 P35 P36 P37 P38 P39 P40 P41 P42 P43 P44 P45 P46 P47 P48 P49 P50 P51) hZ (w55 hw) (w2 hw) (by decide) (by decide)) q6a q6c (g := (mkF m 19 #[.val (.ref a1), .val (.ref a2)] [(.ref a4), (.ref a3), (.ref a1)])) rfl (by rw [hml]; rfl) (Steps.refl _) (argsL := [(.ref a4)]) (rest := [(.ref a1)]) (lenOf pd_9 rfl) rfl (by show 2 * 0 + _ ≤ _; exact Nat.le_of_eq rfl) (hb hby d6_19) (fun vm₁ hw₁ => ⟨rfl, eh5, (by decide : 0 + 1 ≤ _), (by decide : 0 + 5 ≤ _)⟩)
  dsimp only [Pt.U, Pt.locs, Pt.cells, Pt.slots] at X6 l6 y6 z6 st6 hQ6
  subst l6 y6 z6
  obtain ⟨bv_1_2_1_7_6, rfl, M6, K6c, r6_0, r6_1, r6_2⟩ := hQ6
  have N6 := Fr.app N5 M6
  have O6 : Old Z n0 T6.heap := O2.keep K6c all0
  have K6 : Keep h0 T6.heap [a1] := K2.trans K6c all0
  refine Go.tr st6 ?_
  show Go p e below _ (T6.setTop (mkF m 22 #[.val (.ref a1), .val (.ref a2)] [(.ref bv_1_2_1_7_6), (.ref a1)]))
  obtain ⟨T7, h7, X7, e7, W7, st7⟩ := putF X6 hx hZ hown (host := "") (Or.inl (w35 hw)) Via.refl rfl (c3.keep K6c nin0) ((P2.wr W2).keep K6c) (Or.inl (w36 hw)) (w28 hw) (ty := (.object "java/math/BigDecimal")) (by decide) rfl rfl (g := (mkF m 22 #[.val (.ref a1), .val (.ref a2)] [(.ref bv_1_2_1_7_6), (.ref a1)])) rfl rfl (hb hby d6_22)
  have F7 : Fld Z h7 a1 "com/example/cropmark/cropmark/Assessment$Sums" "assessedLb" "Ljava/math/BigDecimal;" (.ref bv_1_2_1_7_6) := (c3.keep K6c nin0).same W7
  have N7 := Fr.snoc X7 N6 P3
  have O7 : Old Z n0 h7 := O6.wr W7 P3
  have K7 : Keep h0 h7 [a1] := K6.wr W7 (Or.inl (List.mem_of_getElem? (i := 0) rfl))
  refine Go.st st7 ?_
  show Go p e below _ (T7.setTop (mkF m 25 #[.val (.ref a1), .val (.ref a2)] []))
  refine Go.st (fun t k => XS.aloadN X7.here hx rfl (hb hby d6_25) rfl rfl k) ?_
  show Go p e below _ (T7.setTop (mkF m 26 #[.val (.ref a1), .val (.ref a2)] [(.ref a2)]))
  have c8 := (((P54.other W2 (Or.inl P7)).keep K6c nin0).other W7 (Or.inl P7))
  obtain ⟨cq9, kq9, q9a, q9b, q9c⟩ := isOf hZ e7 (((P5.wr W2).keep K6c).wr W7)
  obtain ⟨_, _, ⟨T9, L9, k9, n9⟩, -, X9, ⟨Lc9, hQ9, l9, y9, z9⟩, st9⟩ := X7.virtualBack hx (y := (⟨"com/example/cropmark/cropmark/Weights", "inedibleLb", "()Ljava/math/BigDecimal;"⟩ : MethodName)) (z := (⟨"com/example/cropmark/cropmark/Weights", "inedibleLb", "()Ljava/math/BigDecimal;"⟩ : MethodName)) hown (mvT hZ (w74 hw)) (mvT hZ (w75 hw)) (notFace_of_selects (args := #[]) (mvT hZ (w77 hw))) (mvT hZ (w77 hw)) (mvT hZ (w76 hw)) (by decide) (backOf (W := 0) (rm13_1 l Z a0 hw [] a2 h7 n0 O7 c8) hZ (w78 hw) (w7 hw) (by decide) (by decide)) q9a q9c (g := (mkF m 26 #[.val (.ref a1), .val (.ref a2)] [(.ref a2)])) rfl (by rw [hml]; rfl) (Steps.refl _) (argsL := []) (rest := []) (lenOf pd_4 rfl) rfl (by show 2 * 0 + _ ≤ _; exact Nat.le_of_eq rfl) (hb hby d6_26) (fun vm₁ hw₁ => ⟨rfl, e7, (by decide : 1 + 0 ≤ _), (by decide : 5 + 0 ≤ _)⟩)
  dsimp only [Pt.U, Pt.locs, Pt.cells, Pt.slots] at X9 l9 y9 z9 st9 hQ9
  subst l9 y9 z9
  obtain ⟨rfl, M9, eh9⟩ := hQ9
  have N9 := Fr.app N7 M9
  refine Go.tr st9 ?_
  show Go p e below _ (T9.setTop (mkF m 29 #[.val (.ref a1), .val (.ref a2)] [.null]))
  refine Go.st (fun t k => XS.ifnullYes X9.here hx rfl (pc0 := 29) (pc' := 47) rfl (hb hby d6_29) rfl (by decide) (by decide) k) ?_
  show Go p e below _ (T9.setTop (mkF m 47 #[.val (.ref a1), .val (.ref a2)] []))
  obtain ⟨fs, hr, hrun, hended, hWd, hsame⟩ := X9.leave (v := none) (fun _ => rfl)
  have c10 := ((F2.keep K6c nin0).other W7 (Or.inr (slot_ne (Or.inl (w45 hw)) (Or.inl (w36 hw)) (by decide) (t := .int) (t' := (.object "java/math/BigDecimal")) (by decide) (by decide))))
  have c11 := (((P55.other W2 (Or.inr (slot_ne (Or.inl (w38 hw)) (Or.inl (w45 hw)) (by decide) (t := (.object "java/math/BigDecimal")) (t' := .int) (by decide) (by decide)))).keep K6c nin0).other W7 (Or.inr (slot_ne (Or.inl (w38 hw)) (Or.inl (w36 hw)) (by decide) (t := (.object "java/math/BigDecimal")) (t' := (.object "java/math/BigDecimal")) (by decide) (by decide))))
  have c12 := (r6_1.other W7 (Or.inl (ne_exa (r6_0.wr W7) (((P2.wr W2).keep K6c).wr W7) (by decide))))
  have c13 := (r6_2.other W7 (Or.inl (ne_exa (r6_0.wr W7) (((P2.wr W2).keep K6c).wr W7) (by decide))))
  refine ⟨_, _, ?_, hrun, hended, _, _, rfl, ?_, ⟨⟨_, rfl⟩, hWd, hsame.mono (by decide) (by decide)⟩⟩
  · exact X9.returnOut hx Bd.returns (hb hby d6_47) hr
  · show Q_rm6_2 Z a1 a2 a3 a4 q5 q6 a7 k8 a9 a10 a11 a12 a13 a14 a15 a16 a17 a18 a19 h0 n0 _ T9.heap _
    rw [eh9]
    exact ⟨bv_1_2_1_7_6, rfl, N9, K7, c10, F7, c11, (r6_0.wr W7), c12, c13⟩
def Q_rm14_1 (Z : State) (a1 : Addr) (h0 : Heap) (n0 : Nat) (v : Option Value) (h : Heap) (L : List Loc) : Prop := v = some (.int (2 : Int32)) ∧ Fr n0 L ∧ h = h0
set_option maxRecDepth 65536 in
set_option maxHeartbeats 40000000 in
theorem rm14_1 (l : Launch) (Z : State) (a0 : Array Value) (hw : ∀ d ∈ tables_1, d.before a0 Z = true) (ws : List Jvm.Cond) (a1 : Addr) (h0 : Heap) (n0 : Nat) (O0 : Old Z n0 h0) (P1 : Fld Z h0 a1 "com/example/cropmark/cropmark/Assessment$Sums" "lots" "I" (.int (2 : Int32))) :
    MetFree l (⟨"com/example/cropmark/cropmark/Assessment$Sums", "lots", "()I"⟩ : MethodName) (head1 (Jvm.Cond.code (⟨"com/example/cropmark/cropmark/Assessment$Sums", "lots", "()I"⟩ : MethodName) prog_12_method_5_code 1 (some .int) :: ws) ({ frames := 0, cells := 0, slots := 0, locals := 0 } : Room)) (fun a U => a = #[(.ref a1)] ∧ Z.Warmed39 U.vm ∧ U.heap = h0) (fun _ _ _ _ _ => True) (fun _ U o U' => ∃ v L, o = .returned v ∧ Q_rm14_1 Z a1 h0 n0 v U'.heap L ∧ FrameEnd U o U' L ({ frames := 0, cells := 0, slots := 0, locals := 0 } : Room).cells ({ frames := 0, cells := 0, slots := 0, locals := 0 } : Room).slots) := by
  refine MetFree.of_bodySF (plainFor_of_name pn_4) hisR ?_
  intro p e s m args below meth c s₁ Bd hml0 hP hK
  obtain ⟨rfl, hZ, hh⟩ := hP
  have hx := Bd.exec
  have hby := Bd.bytes
  have hml : c.maxLocals = 1 := hml0
  have hown : s.vm.findClass "com/example/cropmark/cropmark/Assessment$Sums" = some m.cls := findClass_of_methodNamed Bd.named
  have hnm := (name_of_methodNamed Bd.named Bd.method).1
  have X0 : Stand p l e ({ frames := 0, cells := 0, slots := 0, locals := 0 } : Room) s m #[(.ref a1)] below meth c s₁ [] 0 0 := Stand.of_body Bd
  have e0 : s₁.heap = h0 := by rw [← hh, Bd.state]; rfl
  have N0 := Fr.nil n0
  refine Go.start (P := (fun o U' => ∃ v L, o = .returned v ∧ Q_rm14_1 Z a1 h0 n0 v U'.heap L ∧ FrameEnd s o U' L ({ frames := 0, cells := 0, slots := 0, locals := 0 } : Room).cells ({ frames := 0, cells := 0, slots := 0, locals := 0 } : Room).slots)) (castTop (g' := (mkF m 0 #[.val (.ref a1)] [])) (by first | rfl | simp [entryFrame, mkF, argsToLocals, Value.category]) (T := s₁)) ?_
  refine Go.st (fun t k => XS.aloadN X0.here hx rfl (hb hby d14_0) rfl rfl k) ?_
  show Go p e below _ (s₁.setTop (mkF m 1 #[.val (.ref a1)] [(.ref a1)]))
  obtain ⟨T1, X1, e1, st1⟩ := getF X0 hx hZ hown (host := "") (Or.inl (w44 hw)) Via.refl e0 P1 (g := (mkF m 1 #[.val (.ref a1)] [(.ref a1)])) rfl rfl (hb hby d14_1)
  refine Go.st st1 ?_
  show Go p e below _ (T1.setTop (mkF m 4 #[.val (.ref a1)] [(.int (2 : Int32))]))
  obtain ⟨fs, hr, hrun, hended, hWd, hsame⟩ := X1.leave (v := some (.int (2 : Int32))) (fun h => by rw [Bd.returns] at h; cases h)
  refine ⟨_, _, ?_, hrun, hended, _, _, rfl, ?_, ⟨⟨_, rfl⟩, hWd, hsame.mono (by decide) (by decide)⟩⟩
  · exact retI X1 hx Bd.returns (hb hby d14_4) hr
  · show Q_rm14_1 Z a1 h0 n0 _ T1.heap _
    rw [e1]
    exact ⟨rfl, N0, rfl⟩
def Q_rm15_1 (Z : State) (a1 : Addr) (a2 : Addr) (h0 : Heap) (n0 : Nat) (v : Option Value) (h : Heap) (L : List Loc) : Prop := v = some (.ref a2) ∧ Fr n0 L ∧ h = h0
set_option maxRecDepth 65536 in
set_option maxHeartbeats 40000000 in
theorem rm15_1 (l : Launch) (Z : State) (a0 : Array Value) (hw : ∀ d ∈ tables_1, d.before a0 Z = true) (ws : List Jvm.Cond) (a1 : Addr) (a2 : Addr) (h0 : Heap) (n0 : Nat) (O0 : Old Z n0 h0) (P1 : Fld Z h0 a1 "com/example/cropmark/cropmark/Assessment$Sums" "assessedLb" "Ljava/math/BigDecimal;" (.ref a2)) :
    MetFree l (⟨"com/example/cropmark/cropmark/Assessment$Sums", "assessedLb", "()Ljava/math/BigDecimal;"⟩ : MethodName) (head1 (Jvm.Cond.code (⟨"com/example/cropmark/cropmark/Assessment$Sums", "assessedLb", "()Ljava/math/BigDecimal;"⟩ : MethodName) prog_12_method_6_code 1 (some (.object "java/math/BigDecimal")) :: ws) ({ frames := 0, cells := 0, slots := 0, locals := 0 } : Room)) (fun a U => a = #[(.ref a1)] ∧ Z.Warmed39 U.vm ∧ U.heap = h0) (fun _ _ _ _ _ => True) (fun _ U o U' => ∃ v L, o = .returned v ∧ Q_rm15_1 Z a1 a2 h0 n0 v U'.heap L ∧ FrameEnd U o U' L ({ frames := 0, cells := 0, slots := 0, locals := 0 } : Room).cells ({ frames := 0, cells := 0, slots := 0, locals := 0 } : Room).slots) := by
  refine MetFree.of_bodySF (plainFor_of_name pn_4) hisR ?_
  intro p e s m args below meth c s₁ Bd hml0 hP hK
  obtain ⟨rfl, hZ, hh⟩ := hP
  have hx := Bd.exec
  have hby := Bd.bytes
  have hml : c.maxLocals = 1 := hml0
  have hown : s.vm.findClass "com/example/cropmark/cropmark/Assessment$Sums" = some m.cls := findClass_of_methodNamed Bd.named
  have hnm := (name_of_methodNamed Bd.named Bd.method).1
  have X0 : Stand p l e ({ frames := 0, cells := 0, slots := 0, locals := 0 } : Room) s m #[(.ref a1)] below meth c s₁ [] 0 0 := Stand.of_body Bd
  have e0 : s₁.heap = h0 := by rw [← hh, Bd.state]; rfl
  have N0 := Fr.nil n0
  refine Go.start (P := (fun o U' => ∃ v L, o = .returned v ∧ Q_rm15_1 Z a1 a2 h0 n0 v U'.heap L ∧ FrameEnd s o U' L ({ frames := 0, cells := 0, slots := 0, locals := 0 } : Room).cells ({ frames := 0, cells := 0, slots := 0, locals := 0 } : Room).slots)) (castTop (g' := (mkF m 0 #[.val (.ref a1)] [])) (by first | rfl | simp [entryFrame, mkF, argsToLocals, Value.category]) (T := s₁)) ?_
  refine Go.st (fun t k => XS.aloadN X0.here hx rfl (hb hby d15_0) rfl rfl k) ?_
  show Go p e below _ (s₁.setTop (mkF m 1 #[.val (.ref a1)] [(.ref a1)]))
  obtain ⟨T1, X1, e1, st1⟩ := getF X0 hx hZ hown (host := "") (Or.inl (w35 hw)) Via.refl e0 P1 (g := (mkF m 1 #[.val (.ref a1)] [(.ref a1)])) rfl rfl (hb hby d15_1)
  refine Go.st st1 ?_
  show Go p e below _ (T1.setTop (mkF m 4 #[.val (.ref a1)] [(.ref a2)]))
  obtain ⟨fs, hr, hrun, hended, hWd, hsame⟩ := X1.leave (v := some (.ref a2)) (fun h => by rw [Bd.returns] at h; cases h)
  refine ⟨_, _, ?_, hrun, hended, _, _, rfl, ?_, ⟨⟨_, rfl⟩, hWd, hsame.mono (by decide) (by decide)⟩⟩
  · exact own_retA X1 hx Bd.returns rfl rfl (hb hby d15_4) hr
  · show Q_rm15_1 Z a1 a2 h0 n0 _ T1.heap _
    rw [e1]
    exact ⟨rfl, N0, rfl⟩
def Q_rm16_1 (Z : State) (a1 : Addr) (a2 : Addr) (h0 : Heap) (n0 : Nat) (v : Option Value) (h : Heap) (L : List Loc) : Prop := v = some (.int (1 : Int32)) ∧ Fr n0 L ∧ h = h0
set_option maxRecDepth 65536 in
set_option maxHeartbeats 40000000 in
theorem rm16_1 (l : Launch) (Z : State) (a0 : Array Value) (hw : ∀ d ∈ tables_1, d.before a0 Z = true) (ws : List Jvm.Cond) (a1 : Addr) (a2 : Addr) (h0 : Heap) (n0 : Nat) (O0 : Old Z n0 h0) (P1 : Exa Z h0 a2 "java/math/BigDecimal") (P2 : Exa Z h0 a1 "java/math/BigDecimal") (P3 : a2 = a1) :
    MetFree l (⟨"java/math/BigDecimal", "equals", "(Ljava/lang/Object;)Z"⟩ : MethodName) (head1 (Jvm.Cond.code (⟨"java/math/BigDecimal", "equals", "(Ljava/lang/Object;)Z"⟩ : MethodName) jdk_17_method_72_code 7 (some .boolean) :: ws) ({ frames := 0, cells := 0, slots := 0, locals := 0 } : Room)) (fun a U => a = #[(.ref a1), (.ref a2)] ∧ Z.Warmed39 U.vm ∧ U.heap = h0) (fun _ _ _ _ _ => True) (fun _ U o U' => ∃ v L, o = .returned v ∧ Q_rm16_1 Z a1 a2 h0 n0 v U'.heap L ∧ FrameEnd U o U' L ({ frames := 0, cells := 0, slots := 0, locals := 0 } : Room).cells ({ frames := 0, cells := 0, slots := 0, locals := 0 } : Room).slots) := by
  refine MetFree.of_bodySF (plainFor_of_name pn_1) hisR ?_
  intro p e s m args below meth c s₁ Bd hml0 hP hK
  obtain ⟨rfl, hZ, hh⟩ := hP
  have hx := Bd.exec
  have hby := Bd.bytes
  have hml : c.maxLocals = 7 := hml0
  have hown : s.vm.findClass "java/math/BigDecimal" = some m.cls := findClass_of_methodNamed Bd.named
  have hnm := (name_of_methodNamed Bd.named Bd.method).1
  have X0 : Stand p l e ({ frames := 0, cells := 0, slots := 0, locals := 0 } : Room) s m #[(.ref a1), (.ref a2)] below meth c s₁ [] 0 0 := Stand.of_body Bd
  have e0 : s₁.heap = h0 := by rw [← hh, Bd.state]; rfl
  have N0 := Fr.nil n0
  refine Go.start (P := (fun o U' => ∃ v L, o = .returned v ∧ Q_rm16_1 Z a1 a2 h0 n0 v U'.heap L ∧ FrameEnd s o U' L ({ frames := 0, cells := 0, slots := 0, locals := 0 } : Room).cells ({ frames := 0, cells := 0, slots := 0, locals := 0 } : Room).slots)) (castTop (g' := (mkF m 0 #[.val (.ref a1), .val (.ref a2), .unset, .unset, .unset, .unset, .unset] [])) (by first | rfl | simp [entryFrame, mkF, argsToLocals, Value.category]) (T := s₁)) ?_
  refine Go.st (fun t k => XS.aloadN X0.here hx rfl (hb hby d16_0) rfl rfl k) ?_
  show Go p e below _ (s₁.setTop (mkF m 1 #[.val (.ref a1), .val (.ref a2), .unset, .unset, .unset, .unset, .unset] [(.ref a2)]))
  obtain ⟨T1, X1, e1, st1⟩ := instY X0 hx hZ hown (w94 hw) e0 (Ins.self P1) (g := (mkF m 1 #[.val (.ref a1), .val (.ref a2), .unset, .unset, .unset, .unset, .unset] [(.ref a2)])) rfl rfl (hb hby d16_1)
  refine Go.st st1 ?_
  show Go p e below _ (T1.setTop (mkF m 4 #[.val (.ref a1), .val (.ref a2), .unset, .unset, .unset, .unset, .unset] [(.int (1 : Int32))]))
  refine Go.st (fun t k => XS.ifNo X1.here hx rfl (hb hby d16_4) rfl (Jvm.Free.XT.i0_eq_f (by decide : ¬ ((1 : Int32) = (0 : Int32)))) k) ?_
  show Go p e below _ (T1.setTop (mkF m 7 #[.val (.ref a1), .val (.ref a2), .unset, .unset, .unset, .unset, .unset] []))
  refine Go.st (fun t k => XS.aloadN X1.here hx rfl (hb hby d16_7) rfl rfl k) ?_
  show Go p e below _ (T1.setTop (mkF m 8 #[.val (.ref a1), .val (.ref a2), .unset, .unset, .unset, .unset, .unset] [(.ref a2)]))
  obtain ⟨T2, X2, e2, st2⟩ := castY X1 hx hZ hown (w94 hw) e1 (Ins.self P1) (g := (mkF m 8 #[.val (.ref a1), .val (.ref a2), .unset, .unset, .unset, .unset, .unset] [(.ref a2)])) rfl rfl (hb hby d16_8)
  refine Go.st st2 ?_
  show Go p e below _ (T2.setTop (mkF m 11 #[.val (.ref a1), .val (.ref a2), .unset, .unset, .unset, .unset, .unset] [(.ref a2)]))
  refine Go.st (fun t k => XS.astoreN X2.here hx rfl (hb hby d16_11) rfl rfl (l' := #[.val (.ref a1), .val (.ref a2), .val (.ref a2), .unset, .unset, .unset, .unset]) rfl k) ?_
  show Go p e below _ (T2.setTop (mkF m 12 #[.val (.ref a1), .val (.ref a2), .val (.ref a2), .unset, .unset, .unset, .unset] []))
  refine Go.st (fun t k => XS.goto X2.here hx rfl (pc0 := 12) (pc' := 17) rfl (hb hby d16_12) (by decide) (by decide) k) ?_
  show Go p e below _ (T2.setTop (mkF m 17 #[.val (.ref a1), .val (.ref a2), .val (.ref a2), .unset, .unset, .unset, .unset] []))
  refine Go.st (fun t k => XS.aloadN X2.here hx rfl (hb hby d16_17) rfl rfl k) ?_
  show Go p e below _ (T2.setTop (mkF m 18 #[.val (.ref a1), .val (.ref a2), .val (.ref a2), .unset, .unset, .unset, .unset] [(.ref a2)]))
  refine Go.st (fun t k => XS.aloadN X2.here hx rfl (hb hby d16_18) rfl rfl k) ?_
  show Go p e below _ (T2.setTop (mkF m 19 #[.val (.ref a1), .val (.ref a2), .val (.ref a2), .unset, .unset, .unset, .unset] [(.ref a1), (.ref a2)]))
  refine Go.st (fun t k => Jvm.RoadKit.acmp (g := (mkF m 19 #[.val (.ref a1), .val (.ref a2), .val (.ref a2), .unset, .unset, .unset, .unset] [(.ref a1), (.ref a2)])) X2 hx rfl rfl rfl (pc0 := 19) (pc' := 22) (same := true) rfl (hb hby d16_19) rfl (decide_eq_true (congrArg Value.ref P3)) (by decide) (by decide) k) ?_
  show Go p e below _ (T2.setTop (mkF m 22 #[.val (.ref a1), .val (.ref a2), .val (.ref a2), .unset, .unset, .unset, .unset] []))
  refine Go.st (fun t k => XS.iconst X2.here hx rfl (hb hby d16_22) k) ?_
  show Go p e below _ (T2.setTop (mkF m 23 #[.val (.ref a1), .val (.ref a2), .val (.ref a2), .unset, .unset, .unset, .unset] [(.int (1 : Int32))]))
  obtain ⟨fs, hr, hrun, hended, hWd, hsame⟩ := X2.leave (v := some (.int (1 : Int32))) (fun h => by rw [Bd.returns] at h; cases h)
  refine ⟨_, _, ?_, hrun, hended, _, _, rfl, ?_, ⟨⟨_, rfl⟩, hWd, hsame.mono (by decide) (by decide)⟩⟩
  · exact retN X2 hx (t := .boolean) Bd.returns (by simp) (hb hby d16_23) hr
  · show Q_rm16_1 Z a1 a2 h0 n0 _ T2.heap _
    rw [e2]
    exact ⟨rfl, N0, rfl⟩
def Q_rm17_1 (Z : State) (a1 : Addr) (a2 : Addr) (h0 : Heap) (n0 : Nat) (v : Option Value) (h : Heap) (L : List Loc) : Prop := v = some (.ref a2) ∧ Fr n0 L ∧ h = h0
set_option maxRecDepth 65536 in
set_option maxHeartbeats 40000000 in
theorem rm17_1 (l : Launch) (Z : State) (a0 : Array Value) (hw : ∀ d ∈ tables_1, d.before a0 Z = true) (ws : List Jvm.Cond) (a1 : Addr) (a2 : Addr) (h0 : Heap) (n0 : Nat) (O0 : Old Z n0 h0) (P1 : Fld Z h0 a1 "com/example/cropmark/cropmark/Assessment$Sums" "inedibleLb" "Ljava/math/BigDecimal;" (.ref a2)) :
    MetFree l (⟨"com/example/cropmark/cropmark/Assessment$Sums", "inedibleLb", "()Ljava/math/BigDecimal;"⟩ : MethodName) (head1 (Jvm.Cond.code (⟨"com/example/cropmark/cropmark/Assessment$Sums", "inedibleLb", "()Ljava/math/BigDecimal;"⟩ : MethodName) prog_12_method_7_code 1 (some (.object "java/math/BigDecimal")) :: ws) ({ frames := 0, cells := 0, slots := 0, locals := 0 } : Room)) (fun a U => a = #[(.ref a1)] ∧ Z.Warmed39 U.vm ∧ U.heap = h0) (fun _ _ _ _ _ => True) (fun _ U o U' => ∃ v L, o = .returned v ∧ Q_rm17_1 Z a1 a2 h0 n0 v U'.heap L ∧ FrameEnd U o U' L ({ frames := 0, cells := 0, slots := 0, locals := 0 } : Room).cells ({ frames := 0, cells := 0, slots := 0, locals := 0 } : Room).slots) := by
  refine MetFree.of_bodySF (plainFor_of_name pn_4) hisR ?_
  intro p e s m args below meth c s₁ Bd hml0 hP hK
  obtain ⟨rfl, hZ, hh⟩ := hP
  have hx := Bd.exec
  have hby := Bd.bytes
  have hml : c.maxLocals = 1 := hml0
  have hown : s.vm.findClass "com/example/cropmark/cropmark/Assessment$Sums" = some m.cls := findClass_of_methodNamed Bd.named
  have hnm := (name_of_methodNamed Bd.named Bd.method).1
  have X0 : Stand p l e ({ frames := 0, cells := 0, slots := 0, locals := 0 } : Room) s m #[(.ref a1)] below meth c s₁ [] 0 0 := Stand.of_body Bd
  have e0 : s₁.heap = h0 := by rw [← hh, Bd.state]; rfl
  have N0 := Fr.nil n0
  refine Go.start (P := (fun o U' => ∃ v L, o = .returned v ∧ Q_rm17_1 Z a1 a2 h0 n0 v U'.heap L ∧ FrameEnd s o U' L ({ frames := 0, cells := 0, slots := 0, locals := 0 } : Room).cells ({ frames := 0, cells := 0, slots := 0, locals := 0 } : Room).slots)) (castTop (g' := (mkF m 0 #[.val (.ref a1)] [])) (by first | rfl | simp [entryFrame, mkF, argsToLocals, Value.category]) (T := s₁)) ?_
  refine Go.st (fun t k => XS.aloadN X0.here hx rfl (hb hby d17_0) rfl rfl k) ?_
  show Go p e below _ (s₁.setTop (mkF m 1 #[.val (.ref a1)] [(.ref a1)]))
  obtain ⟨T1, X1, e1, st1⟩ := getF X0 hx hZ hown (host := "") (Or.inl (w37 hw)) Via.refl e0 P1 (g := (mkF m 1 #[.val (.ref a1)] [(.ref a1)])) rfl rfl (hb hby d17_1)
  refine Go.st st1 ?_
  show Go p e below _ (T1.setTop (mkF m 4 #[.val (.ref a1)] [(.ref a2)]))
  obtain ⟨fs, hr, hrun, hended, hWd, hsame⟩ := X1.leave (v := some (.ref a2)) (fun h => by rw [Bd.returns] at h; cases h)
  refine ⟨_, _, ?_, hrun, hended, _, _, rfl, ?_, ⟨⟨_, rfl⟩, hWd, hsame.mono (by decide) (by decide)⟩⟩
  · exact own_retA X1 hx Bd.returns rfl rfl (hb hby d17_4) hr
  · show Q_rm17_1 Z a1 a2 h0 n0 _ T1.heap _
    rw [e1]
    exact ⟨rfl, N0, rfl⟩
def Q_rm16_2 (Z : State) (a1 : Addr) (a2 : Addr) (h0 : Heap) (n0 : Nat) (v : Option Value) (h : Heap) (L : List Loc) : Prop := v = some (.int (1 : Int32)) ∧ Fr n0 L ∧ h = h0
set_option maxRecDepth 65536 in
set_option maxHeartbeats 40000000 in
theorem rm16_2 (l : Launch) (Z : State) (a0 : Array Value) (hw : ∀ d ∈ tables_1, d.before a0 Z = true) (ws : List Jvm.Cond) (a1 : Addr) (a2 : Addr) (h0 : Heap) (n0 : Nat) (O0 : Old Z n0 h0) (P1 : Exa Z h0 a2 "java/math/BigDecimal") (P2 : Exa Z Z.heap a1 "java/math/BigDecimal") (P3 : a2 = a1) :
    MetFree l (⟨"java/math/BigDecimal", "equals", "(Ljava/lang/Object;)Z"⟩ : MethodName) (head1 (Jvm.Cond.code (⟨"java/math/BigDecimal", "equals", "(Ljava/lang/Object;)Z"⟩ : MethodName) jdk_17_method_72_code 7 (some .boolean) :: ws) ({ frames := 0, cells := 0, slots := 0, locals := 0 } : Room)) (fun a U => a = #[(.ref a1), (.ref a2)] ∧ Z.Warmed39 U.vm ∧ U.heap = h0) (fun _ _ _ _ _ => True) (fun _ U o U' => ∃ v L, o = .returned v ∧ Q_rm16_2 Z a1 a2 h0 n0 v U'.heap L ∧ FrameEnd U o U' L ({ frames := 0, cells := 0, slots := 0, locals := 0 } : Room).cells ({ frames := 0, cells := 0, slots := 0, locals := 0 } : Room).slots) := by
  refine MetFree.of_bodySF (plainFor_of_name pn_1) hisR ?_
  intro p e s m args below meth c s₁ Bd hml0 hP hK
  obtain ⟨rfl, hZ, hh⟩ := hP
  have hx := Bd.exec
  have hby := Bd.bytes
  have hml : c.maxLocals = 7 := hml0
  have hown : s.vm.findClass "java/math/BigDecimal" = some m.cls := findClass_of_methodNamed Bd.named
  have hnm := (name_of_methodNamed Bd.named Bd.method).1
  have X0 : Stand p l e ({ frames := 0, cells := 0, slots := 0, locals := 0 } : Room) s m #[(.ref a1), (.ref a2)] below meth c s₁ [] 0 0 := Stand.of_body Bd
  have e0 : s₁.heap = h0 := by rw [← hh, Bd.state]; rfl
  have N0 := Fr.nil n0
  refine Go.start (P := (fun o U' => ∃ v L, o = .returned v ∧ Q_rm16_2 Z a1 a2 h0 n0 v U'.heap L ∧ FrameEnd s o U' L ({ frames := 0, cells := 0, slots := 0, locals := 0 } : Room).cells ({ frames := 0, cells := 0, slots := 0, locals := 0 } : Room).slots)) (castTop (g' := (mkF m 0 #[.val (.ref a1), .val (.ref a2), .unset, .unset, .unset, .unset, .unset] [])) (by first | rfl | simp [entryFrame, mkF, argsToLocals, Value.category]) (T := s₁)) ?_
  refine Go.st (fun t k => XS.aloadN X0.here hx rfl (hb hby d16_0) rfl rfl k) ?_
  show Go p e below _ (s₁.setTop (mkF m 1 #[.val (.ref a1), .val (.ref a2), .unset, .unset, .unset, .unset, .unset] [(.ref a2)]))
  obtain ⟨T1, X1, e1, st1⟩ := instY X0 hx hZ hown (w94 hw) e0 (Ins.self P1) (g := (mkF m 1 #[.val (.ref a1), .val (.ref a2), .unset, .unset, .unset, .unset, .unset] [(.ref a2)])) rfl rfl (hb hby d16_1)
  refine Go.st st1 ?_
  show Go p e below _ (T1.setTop (mkF m 4 #[.val (.ref a1), .val (.ref a2), .unset, .unset, .unset, .unset, .unset] [(.int (1 : Int32))]))
  refine Go.st (fun t k => XS.ifNo X1.here hx rfl (hb hby d16_4) rfl (Jvm.Free.XT.i0_eq_f (by decide : ¬ ((1 : Int32) = (0 : Int32)))) k) ?_
  show Go p e below _ (T1.setTop (mkF m 7 #[.val (.ref a1), .val (.ref a2), .unset, .unset, .unset, .unset, .unset] []))
  refine Go.st (fun t k => XS.aloadN X1.here hx rfl (hb hby d16_7) rfl rfl k) ?_
  show Go p e below _ (T1.setTop (mkF m 8 #[.val (.ref a1), .val (.ref a2), .unset, .unset, .unset, .unset, .unset] [(.ref a2)]))
  obtain ⟨T2, X2, e2, st2⟩ := castY X1 hx hZ hown (w94 hw) e1 (Ins.self P1) (g := (mkF m 8 #[.val (.ref a1), .val (.ref a2), .unset, .unset, .unset, .unset, .unset] [(.ref a2)])) rfl rfl (hb hby d16_8)
  refine Go.st st2 ?_
  show Go p e below _ (T2.setTop (mkF m 11 #[.val (.ref a1), .val (.ref a2), .unset, .unset, .unset, .unset, .unset] [(.ref a2)]))
  refine Go.st (fun t k => XS.astoreN X2.here hx rfl (hb hby d16_11) rfl rfl (l' := #[.val (.ref a1), .val (.ref a2), .val (.ref a2), .unset, .unset, .unset, .unset]) rfl k) ?_
  show Go p e below _ (T2.setTop (mkF m 12 #[.val (.ref a1), .val (.ref a2), .val (.ref a2), .unset, .unset, .unset, .unset] []))
  refine Go.st (fun t k => XS.goto X2.here hx rfl (pc0 := 12) (pc' := 17) rfl (hb hby d16_12) (by decide) (by decide) k) ?_
  show Go p e below _ (T2.setTop (mkF m 17 #[.val (.ref a1), .val (.ref a2), .val (.ref a2), .unset, .unset, .unset, .unset] []))
  refine Go.st (fun t k => XS.aloadN X2.here hx rfl (hb hby d16_17) rfl rfl k) ?_
  show Go p e below _ (T2.setTop (mkF m 18 #[.val (.ref a1), .val (.ref a2), .val (.ref a2), .unset, .unset, .unset, .unset] [(.ref a2)]))
  refine Go.st (fun t k => XS.aloadN X2.here hx rfl (hb hby d16_18) rfl rfl k) ?_
  show Go p e below _ (T2.setTop (mkF m 19 #[.val (.ref a1), .val (.ref a2), .val (.ref a2), .unset, .unset, .unset, .unset] [(.ref a1), (.ref a2)]))
  refine Go.st (fun t k => Jvm.RoadKit.acmp (g := (mkF m 19 #[.val (.ref a1), .val (.ref a2), .val (.ref a2), .unset, .unset, .unset, .unset] [(.ref a1), (.ref a2)])) X2 hx rfl rfl rfl (pc0 := 19) (pc' := 22) (same := true) rfl (hb hby d16_19) rfl (decide_eq_true (congrArg Value.ref P3)) (by decide) (by decide) k) ?_
  show Go p e below _ (T2.setTop (mkF m 22 #[.val (.ref a1), .val (.ref a2), .val (.ref a2), .unset, .unset, .unset, .unset] []))
  refine Go.st (fun t k => XS.iconst X2.here hx rfl (hb hby d16_22) k) ?_
  show Go p e below _ (T2.setTop (mkF m 23 #[.val (.ref a1), .val (.ref a2), .val (.ref a2), .unset, .unset, .unset, .unset] [(.int (1 : Int32))]))
  obtain ⟨fs, hr, hrun, hended, hWd, hsame⟩ := X2.leave (v := some (.int (1 : Int32))) (fun h => by rw [Bd.returns] at h; cases h)
  refine ⟨_, _, ?_, hrun, hended, _, _, rfl, ?_, ⟨⟨_, rfl⟩, hWd, hsame.mono (by decide) (by decide)⟩⟩
  · exact retN X2 hx (t := .boolean) Bd.returns (by simp) (hb hby d16_23) hr
  · show Q_rm16_2 Z a1 a2 h0 n0 _ T2.heap _
    rw [e2]
    exact ⟨rfl, N0, rfl⟩
def Q_rm16_3 (Z : State) (a1 : Addr) (a2 : Addr) (h0 : Heap) (n0 : Nat) (v : Option Value) (h : Heap) (L : List Loc) : Prop := v = some (.int (1 : Int32)) ∧ Fr n0 L ∧ h = h0
set_option maxRecDepth 65536 in
set_option maxHeartbeats 40000000 in
theorem rm16_3 (l : Launch) (Z : State) (a0 : Array Value) (hw : ∀ d ∈ tables_1, d.before a0 Z = true) (ws : List Jvm.Cond) (a1 : Addr) (a2 : Addr) (h0 : Heap) (n0 : Nat) (O0 : Old Z n0 h0) (P1 : Exa Z h0 a2 "java/math/BigDecimal") (P2 : Exa Z Z.heap a1 "java/math/BigDecimal") (P3 : ¬ (a2 = a1)) (P4 : Fld Z Z.heap a1 "java/math/BigDecimal" "scale" "I" (.int (0 : Int32))) (P5 : Fld Z h0 a2 "java/math/BigDecimal" "scale" "I" (.int (0 : Int32))) (P6 : Fld Z Z.heap a1 "java/math/BigDecimal" "intCompact" "J" (.long (0 : Int64))) (P7 : Fld Z h0 a2 "java/math/BigDecimal" "intCompact" "J" (.long (0 : Int64))) :
    MetFree l (⟨"java/math/BigDecimal", "equals", "(Ljava/lang/Object;)Z"⟩ : MethodName) (head1 (Jvm.Cond.code (⟨"java/math/BigDecimal", "equals", "(Ljava/lang/Object;)Z"⟩ : MethodName) jdk_17_method_72_code 7 (some .boolean) :: ws) ({ frames := 0, cells := 0, slots := 0, locals := 0 } : Room)) (fun a U => a = #[(.ref a1), (.ref a2)] ∧ Z.Warmed39 U.vm ∧ U.heap = h0) (fun _ _ _ _ _ => True) (fun _ U o U' => ∃ v L, o = .returned v ∧ Q_rm16_3 Z a1 a2 h0 n0 v U'.heap L ∧ FrameEnd U o U' L ({ frames := 0, cells := 0, slots := 0, locals := 0 } : Room).cells ({ frames := 0, cells := 0, slots := 0, locals := 0 } : Room).slots) := by
  refine MetFree.of_bodySF (plainFor_of_name pn_1) hisR ?_
  intro p e s m args below meth c s₁ Bd hml0 hP hK
  obtain ⟨rfl, hZ, hh⟩ := hP
  have hx := Bd.exec
  have hby := Bd.bytes
  have hml : c.maxLocals = 7 := hml0
  have hown : s.vm.findClass "java/math/BigDecimal" = some m.cls := findClass_of_methodNamed Bd.named
  have hnm := (name_of_methodNamed Bd.named Bd.method).1
  have X0 : Stand p l e ({ frames := 0, cells := 0, slots := 0, locals := 0 } : Room) s m #[(.ref a1), (.ref a2)] below meth c s₁ [] 0 0 := Stand.of_body Bd
  have e0 : s₁.heap = h0 := by rw [← hh, Bd.state]; rfl
  have N0 := Fr.nil n0
  refine Go.start (P := (fun o U' => ∃ v L, o = .returned v ∧ Q_rm16_3 Z a1 a2 h0 n0 v U'.heap L ∧ FrameEnd s o U' L ({ frames := 0, cells := 0, slots := 0, locals := 0 } : Room).cells ({ frames := 0, cells := 0, slots := 0, locals := 0 } : Room).slots)) (castTop (g' := (mkF m 0 #[.val (.ref a1), .val (.ref a2), .unset, .unset, .unset, .unset, .unset] [])) (by first | rfl | simp [entryFrame, mkF, argsToLocals, Value.category]) (T := s₁)) ?_
  refine Go.st (fun t k => XS.aloadN X0.here hx rfl (hb hby d16_0) rfl rfl k) ?_
  show Go p e below _ (s₁.setTop (mkF m 1 #[.val (.ref a1), .val (.ref a2), .unset, .unset, .unset, .unset, .unset] [(.ref a2)]))
  obtain ⟨T1, X1, e1, st1⟩ := instY X0 hx hZ hown (w94 hw) e0 (Ins.self P1) (g := (mkF m 1 #[.val (.ref a1), .val (.ref a2), .unset, .unset, .unset, .unset, .unset] [(.ref a2)])) rfl rfl (hb hby d16_1)
  refine Go.st st1 ?_
  show Go p e below _ (T1.setTop (mkF m 4 #[.val (.ref a1), .val (.ref a2), .unset, .unset, .unset, .unset, .unset] [(.int (1 : Int32))]))
  refine Go.st (fun t k => XS.ifNo X1.here hx rfl (hb hby d16_4) rfl (Jvm.Free.XT.i0_eq_f (by decide : ¬ ((1 : Int32) = (0 : Int32)))) k) ?_
  show Go p e below _ (T1.setTop (mkF m 7 #[.val (.ref a1), .val (.ref a2), .unset, .unset, .unset, .unset, .unset] []))
  refine Go.st (fun t k => XS.aloadN X1.here hx rfl (hb hby d16_7) rfl rfl k) ?_
  show Go p e below _ (T1.setTop (mkF m 8 #[.val (.ref a1), .val (.ref a2), .unset, .unset, .unset, .unset, .unset] [(.ref a2)]))
  obtain ⟨T2, X2, e2, st2⟩ := castY X1 hx hZ hown (w94 hw) e1 (Ins.self P1) (g := (mkF m 8 #[.val (.ref a1), .val (.ref a2), .unset, .unset, .unset, .unset, .unset] [(.ref a2)])) rfl rfl (hb hby d16_8)
  refine Go.st st2 ?_
  show Go p e below _ (T2.setTop (mkF m 11 #[.val (.ref a1), .val (.ref a2), .unset, .unset, .unset, .unset, .unset] [(.ref a2)]))
  refine Go.st (fun t k => XS.astoreN X2.here hx rfl (hb hby d16_11) rfl rfl (l' := #[.val (.ref a1), .val (.ref a2), .val (.ref a2), .unset, .unset, .unset, .unset]) rfl k) ?_
  show Go p e below _ (T2.setTop (mkF m 12 #[.val (.ref a1), .val (.ref a2), .val (.ref a2), .unset, .unset, .unset, .unset] []))
  refine Go.st (fun t k => XS.goto X2.here hx rfl (pc0 := 12) (pc' := 17) rfl (hb hby d16_12) (by decide) (by decide) k) ?_
  show Go p e below _ (T2.setTop (mkF m 17 #[.val (.ref a1), .val (.ref a2), .val (.ref a2), .unset, .unset, .unset, .unset] []))
  refine Go.st (fun t k => XS.aloadN X2.here hx rfl (hb hby d16_17) rfl rfl k) ?_
  show Go p e below _ (T2.setTop (mkF m 18 #[.val (.ref a1), .val (.ref a2), .val (.ref a2), .unset, .unset, .unset, .unset] [(.ref a2)]))
  refine Go.st (fun t k => XS.aloadN X2.here hx rfl (hb hby d16_18) rfl rfl k) ?_
  show Go p e below _ (T2.setTop (mkF m 19 #[.val (.ref a1), .val (.ref a2), .val (.ref a2), .unset, .unset, .unset, .unset] [(.ref a1), (.ref a2)]))
  refine Go.st (fun t k => Jvm.RoadKit.acmp (g := (mkF m 19 #[.val (.ref a1), .val (.ref a2), .val (.ref a2), .unset, .unset, .unset, .unset] [(.ref a1), (.ref a2)])) X2 hx rfl rfl rfl (pc0 := 19) (pc' := 24) (same := false) rfl (hb hby d16_19) rfl (decide_eq_false fun q => P3 (Value.ref.inj q)) (by decide) (by decide) k) ?_
  show Go p e below _ (T2.setTop (mkF m 24 #[.val (.ref a1), .val (.ref a2), .val (.ref a2), .unset, .unset, .unset, .unset] []))
  refine Go.st (fun t k => XS.aloadN X2.here hx rfl (hb hby d16_24) rfl rfl k) ?_
  show Go p e below _ (T2.setTop (mkF m 25 #[.val (.ref a1), .val (.ref a2), .val (.ref a2), .unset, .unset, .unset, .unset] [(.ref a1)]))
  obtain ⟨T3, X3, e3, st3⟩ := getF X2 hx hZ hown (host := "") (Or.inl (w59 hw)) Via.refl e2 (P4.ext O0.2) (g := (mkF m 25 #[.val (.ref a1), .val (.ref a2), .val (.ref a2), .unset, .unset, .unset, .unset] [(.ref a1)])) rfl rfl (hb hby d16_25)
  refine Go.st st3 ?_
  show Go p e below _ (T3.setTop (mkF m 28 #[.val (.ref a1), .val (.ref a2), .val (.ref a2), .unset, .unset, .unset, .unset] [(.int (0 : Int32))]))
  refine Go.st (fun t k => XS.aloadN X3.here hx rfl (hb hby d16_28) rfl rfl k) ?_
  show Go p e below _ (T3.setTop (mkF m 29 #[.val (.ref a1), .val (.ref a2), .val (.ref a2), .unset, .unset, .unset, .unset] [(.ref a2), (.int (0 : Int32))]))
  obtain ⟨T4, X4, e4, st4⟩ := getF X3 hx hZ hown (host := "") (Or.inl (w59 hw)) Via.refl e3 P5 (g := (mkF m 29 #[.val (.ref a1), .val (.ref a2), .val (.ref a2), .unset, .unset, .unset, .unset] [(.ref a2), (.int (0 : Int32))])) rfl rfl (hb hby d16_29)
  refine Go.st st4 ?_
  show Go p e below _ (T4.setTop (mkF m 32 #[.val (.ref a1), .val (.ref a2), .val (.ref a2), .unset, .unset, .unset, .unset] [(.int (0 : Int32)), (.int (0 : Int32))]))
  refine Go.st (fun t k => XS.icmpYes X4.here hx rfl (pc0 := 32) (pc' := 37) rfl (hb hby d16_32) rfl (Jvm.Free.XT.ii_eq_t (by decide : (0 : Int32) = (0 : Int32))) (by decide) (by decide) k) ?_
  show Go p e below _ (T4.setTop (mkF m 37 #[.val (.ref a1), .val (.ref a2), .val (.ref a2), .unset, .unset, .unset, .unset] []))
  refine Go.st (fun t k => XS.aloadN X4.here hx rfl (hb hby d16_37) rfl rfl k) ?_
  show Go p e below _ (T4.setTop (mkF m 38 #[.val (.ref a1), .val (.ref a2), .val (.ref a2), .unset, .unset, .unset, .unset] [(.ref a1)]))
  obtain ⟨T5, X5, e5, st5⟩ := getF X4 hx hZ hown (host := "") (Or.inl (w56 hw)) Via.refl e4 (P6.ext O0.2) (g := (mkF m 38 #[.val (.ref a1), .val (.ref a2), .val (.ref a2), .unset, .unset, .unset, .unset] [(.ref a1)])) rfl rfl (hb hby d16_38)
  refine Go.st st5 ?_
  show Go p e below _ (T5.setTop (mkF m 41 #[.val (.ref a1), .val (.ref a2), .val (.ref a2), .unset, .unset, .unset, .unset] [(.long (0 : Int64))]))
  refine Go.st (fun t k => XS.lstoreN X5.here hx rfl (hb hby d16_41) rfl (l' := #[.val (.ref a1), .val (.ref a2), .val (.ref a2), .val (.long (0 : Int64)), .second, .unset, .unset]) rfl k) ?_
  show Go p e below _ (T5.setTop (mkF m 42 #[.val (.ref a1), .val (.ref a2), .val (.ref a2), .val (.long (0 : Int64)), .second, .unset, .unset] []))
  refine Go.st (fun t k => XS.aloadN X5.here hx rfl (hb hby d16_42) rfl rfl k) ?_
  show Go p e below _ (T5.setTop (mkF m 43 #[.val (.ref a1), .val (.ref a2), .val (.ref a2), .val (.long (0 : Int64)), .second, .unset, .unset] [(.ref a2)]))
  obtain ⟨T6, X6, e6, st6⟩ := getF X5 hx hZ hown (host := "") (Or.inl (w56 hw)) Via.refl e5 P7 (g := (mkF m 43 #[.val (.ref a1), .val (.ref a2), .val (.ref a2), .val (.long (0 : Int64)), .second, .unset, .unset] [(.ref a2)])) rfl rfl (hb hby d16_43)
  refine Go.st st6 ?_
  show Go p e below _ (T6.setTop (mkF m 46 #[.val (.ref a1), .val (.ref a2), .val (.ref a2), .val (.long (0 : Int64)), .second, .unset, .unset] [(.long (0 : Int64))]))
  refine Go.st (fun t k => XS.lstore X6.here hx rfl (hb hby d16_46) rfl (l' := #[.val (.ref a1), .val (.ref a2), .val (.ref a2), .val (.long (0 : Int64)), .second, .val (.long (0 : Int64)), .second]) rfl k) ?_
  show Go p e below _ (T6.setTop (mkF m 48 #[.val (.ref a1), .val (.ref a2), .val (.ref a2), .val (.long (0 : Int64)), .second, .val (.long (0 : Int64)), .second] []))
  refine Go.st (fun t k => XS.lloadN X6.here hx rfl (hb hby d16_48) rfl k) ?_
  show Go p e below _ (T6.setTop (mkF m 49 #[.val (.ref a1), .val (.ref a2), .val (.ref a2), .val (.long (0 : Int64)), .second, .val (.long (0 : Int64)), .second] [(.long (0 : Int64))]))
  refine Go.st (fun t k => X6.ldc2J hx hown (mvT hZ (w58 hw)) (g := (mkF m 49 #[.val (.ref a1), .val (.ref a2), .val (.ref a2), .val (.long (0 : Int64)), .second, .val (.long (0 : Int64)), .second] [(.long (0 : Int64))])) rfl (hb hby d16_49) k) ?_
  show Go p e below _ (T6.setTop (mkF m 52 #[.val (.ref a1), .val (.ref a2), .val (.ref a2), .val (.long (0 : Int64)), .second, .val (.long (0 : Int64)), .second] [(.long (-9223372036854775808 : Int64)), (.long (0 : Int64))]))
  refine Go.st (fun t k => Jvm.Free.XT.lcmp X6.here hx rfl (hb hby d16_52) rfl k) ?_
  show Go p e below _ (T6.setTop (mkF m 53 #[.val (.ref a1), .val (.ref a2), .val (.ref a2), .val (.long (0 : Int64)), .second, .val (.long (0 : Int64)), .second] [(.int (Jvm.Free.XT.cmpL (0 : Int64) (-9223372036854775808 : Int64)))]))
  refine Go.st (fun t k => XS.ifNo X6.here hx rfl (hb hby d16_53) rfl (Jvm.Free.XT.ll_eq_f (by decide : ¬ ((0 : Int64) = (-9223372036854775808 : Int64)))) k) ?_
  show Go p e below _ (T6.setTop (mkF m 56 #[.val (.ref a1), .val (.ref a2), .val (.ref a2), .val (.long (0 : Int64)), .second, .val (.long (0 : Int64)), .second] []))
  refine Go.st (fun t k => XS.lload X6.here hx rfl (hb hby d16_56) rfl k) ?_
  show Go p e below _ (T6.setTop (mkF m 58 #[.val (.ref a1), .val (.ref a2), .val (.ref a2), .val (.long (0 : Int64)), .second, .val (.long (0 : Int64)), .second] [(.long (0 : Int64))]))
  refine Go.st (fun t k => X6.ldc2J hx hown (mvT hZ (w58 hw)) (g := (mkF m 58 #[.val (.ref a1), .val (.ref a2), .val (.ref a2), .val (.long (0 : Int64)), .second, .val (.long (0 : Int64)), .second] [(.long (0 : Int64))])) rfl (hb hby d16_58) k) ?_
  show Go p e below _ (T6.setTop (mkF m 61 #[.val (.ref a1), .val (.ref a2), .val (.ref a2), .val (.long (0 : Int64)), .second, .val (.long (0 : Int64)), .second] [(.long (-9223372036854775808 : Int64)), (.long (0 : Int64))]))
  refine Go.st (fun t k => Jvm.Free.XT.lcmp X6.here hx rfl (hb hby d16_61) rfl k) ?_
  show Go p e below _ (T6.setTop (mkF m 62 #[.val (.ref a1), .val (.ref a2), .val (.ref a2), .val (.long (0 : Int64)), .second, .val (.long (0 : Int64)), .second] [(.int (Jvm.Free.XT.cmpL (0 : Int64) (-9223372036854775808 : Int64)))]))
  refine Go.st (fun t k => XS.ifYes X6.here hx rfl (pc0 := 62) (pc' := 74) rfl (hb hby d16_62) rfl (Jvm.Free.XT.ll_ne_t (by decide : ¬ ((0 : Int64) = (-9223372036854775808 : Int64)))) (by decide) (by decide) k) ?_
  show Go p e below _ (T6.setTop (mkF m 74 #[.val (.ref a1), .val (.ref a2), .val (.ref a2), .val (.long (0 : Int64)), .second, .val (.long (0 : Int64)), .second] []))
  refine Go.st (fun t k => XS.lload X6.here hx rfl (hb hby d16_74) rfl k) ?_
  show Go p e below _ (T6.setTop (mkF m 76 #[.val (.ref a1), .val (.ref a2), .val (.ref a2), .val (.long (0 : Int64)), .second, .val (.long (0 : Int64)), .second] [(.long (0 : Int64))]))
  refine Go.st (fun t k => XS.lloadN X6.here hx rfl (hb hby d16_76) rfl k) ?_
  show Go p e below _ (T6.setTop (mkF m 77 #[.val (.ref a1), .val (.ref a2), .val (.ref a2), .val (.long (0 : Int64)), .second, .val (.long (0 : Int64)), .second] [(.long (0 : Int64)), (.long (0 : Int64))]))
  refine Go.st (fun t k => Jvm.Free.XT.lcmp X6.here hx rfl (hb hby d16_77) rfl k) ?_
  show Go p e below _ (T6.setTop (mkF m 78 #[.val (.ref a1), .val (.ref a2), .val (.ref a2), .val (.long (0 : Int64)), .second, .val (.long (0 : Int64)), .second] [(.int (Jvm.Free.XT.cmpL (0 : Int64) (0 : Int64)))]))
  refine Go.st (fun t k => XS.ifNo X6.here hx rfl (hb hby d16_78) rfl (Jvm.Free.XT.ll_ne_f (by decide : (0 : Int64) = (0 : Int64))) k) ?_
  show Go p e below _ (T6.setTop (mkF m 81 #[.val (.ref a1), .val (.ref a2), .val (.ref a2), .val (.long (0 : Int64)), .second, .val (.long (0 : Int64)), .second] []))
  refine Go.st (fun t k => XS.iconst X6.here hx rfl (hb hby d16_81) k) ?_
  show Go p e below _ (T6.setTop (mkF m 82 #[.val (.ref a1), .val (.ref a2), .val (.ref a2), .val (.long (0 : Int64)), .second, .val (.long (0 : Int64)), .second] [(.int (1 : Int32))]))
  refine Go.st (fun t k => XS.goto X6.here hx rfl (pc0 := 82) (pc' := 86) rfl (hb hby d16_82) (by decide) (by decide) k) ?_
  show Go p e below _ (T6.setTop (mkF m 86 #[.val (.ref a1), .val (.ref a2), .val (.ref a2), .val (.long (0 : Int64)), .second, .val (.long (0 : Int64)), .second] [(.int (1 : Int32))]))
  obtain ⟨fs, hr, hrun, hended, hWd, hsame⟩ := X6.leave (v := some (.int (1 : Int32))) (fun h => by rw [Bd.returns] at h; cases h)
  refine ⟨_, _, ?_, hrun, hended, _, _, rfl, ?_, ⟨⟨_, rfl⟩, hWd, hsame.mono (by decide) (by decide)⟩⟩
  · exact retN X6 hx (t := .boolean) Bd.returns (by simp) (hb hby d16_86) hr
  · show Q_rm16_3 Z a1 a2 h0 n0 _ T6.heap _
    rw [e6]
    exact ⟨rfl, N0, rfl⟩
def Q_rm16_4 (Z : State) (a1 : Addr) (a2 : Addr) (q3 : Int64) (q4 : Int64) (h0 : Heap) (n0 : Nat) (v : Option Value) (h : Heap) (L : List Loc) : Prop := v = some (.int (1 : Int32)) ∧ Fr n0 L ∧ h = h0
set_option maxRecDepth 65536 in
set_option maxHeartbeats 40000000 in
theorem rm16_4 (l : Launch) (Z : State) (a0 : Array Value) (hw : ∀ d ∈ tables_1, d.before a0 Z = true) (ws : List Jvm.Cond) (a1 : Addr) (a2 : Addr) (q3 : Int64) (q4 : Int64) (h0 : Heap) (n0 : Nat) (O0 : Old Z n0 h0) (P1 : Exa Z h0 a2 "java/math/BigDecimal") (P2 : Exa Z h0 a1 "java/math/BigDecimal") (P3 : ¬ (a2 = a1)) (P4 : Fld Z h0 a1 "java/math/BigDecimal" "scale" "I" (.int (0 : Int32))) (P5 : Fld Z h0 a2 "java/math/BigDecimal" "scale" "I" (.int (0 : Int32))) (P6 : Fld Z h0 a1 "java/math/BigDecimal" "intCompact" "J" (.long q3)) (P7 : Fld Z h0 a2 "java/math/BigDecimal" "intCompact" "J" (.long q4)) (P8 : ¬ (q3 = (-9223372036854775808 : Int64))) (P9 : ¬ (q4 = (-9223372036854775808 : Int64))) (P10 : q4 = q3) :
    MetFree l (⟨"java/math/BigDecimal", "equals", "(Ljava/lang/Object;)Z"⟩ : MethodName) (head1 (Jvm.Cond.code (⟨"java/math/BigDecimal", "equals", "(Ljava/lang/Object;)Z"⟩ : MethodName) jdk_17_method_72_code 7 (some .boolean) :: ws) ({ frames := 0, cells := 0, slots := 0, locals := 0 } : Room)) (fun a U => a = #[(.ref a1), (.ref a2)] ∧ Z.Warmed39 U.vm ∧ U.heap = h0) (fun _ _ _ _ _ => True) (fun _ U o U' => ∃ v L, o = .returned v ∧ Q_rm16_4 Z a1 a2 q3 q4 h0 n0 v U'.heap L ∧ FrameEnd U o U' L ({ frames := 0, cells := 0, slots := 0, locals := 0 } : Room).cells ({ frames := 0, cells := 0, slots := 0, locals := 0 } : Room).slots) := by
  refine MetFree.of_bodySF (plainFor_of_name pn_1) hisR ?_
  intro p e s m args below meth c s₁ Bd hml0 hP hK
  obtain ⟨rfl, hZ, hh⟩ := hP
  have hx := Bd.exec
  have hby := Bd.bytes
  have hml : c.maxLocals = 7 := hml0
  have hown : s.vm.findClass "java/math/BigDecimal" = some m.cls := findClass_of_methodNamed Bd.named
  have hnm := (name_of_methodNamed Bd.named Bd.method).1
  have X0 : Stand p l e ({ frames := 0, cells := 0, slots := 0, locals := 0 } : Room) s m #[(.ref a1), (.ref a2)] below meth c s₁ [] 0 0 := Stand.of_body Bd
  have e0 : s₁.heap = h0 := by rw [← hh, Bd.state]; rfl
  have N0 := Fr.nil n0
  refine Go.start (P := (fun o U' => ∃ v L, o = .returned v ∧ Q_rm16_4 Z a1 a2 q3 q4 h0 n0 v U'.heap L ∧ FrameEnd s o U' L ({ frames := 0, cells := 0, slots := 0, locals := 0 } : Room).cells ({ frames := 0, cells := 0, slots := 0, locals := 0 } : Room).slots)) (castTop (g' := (mkF m 0 #[.val (.ref a1), .val (.ref a2), .unset, .unset, .unset, .unset, .unset] [])) (by first | rfl | simp [entryFrame, mkF, argsToLocals, Value.category]) (T := s₁)) ?_
  refine Go.st (fun t k => XS.aloadN X0.here hx rfl (hb hby d16_0) rfl rfl k) ?_
  show Go p e below _ (s₁.setTop (mkF m 1 #[.val (.ref a1), .val (.ref a2), .unset, .unset, .unset, .unset, .unset] [(.ref a2)]))
  obtain ⟨T1, X1, e1, st1⟩ := instY X0 hx hZ hown (w94 hw) e0 (Ins.self P1) (g := (mkF m 1 #[.val (.ref a1), .val (.ref a2), .unset, .unset, .unset, .unset, .unset] [(.ref a2)])) rfl rfl (hb hby d16_1)
  refine Go.st st1 ?_
  show Go p e below _ (T1.setTop (mkF m 4 #[.val (.ref a1), .val (.ref a2), .unset, .unset, .unset, .unset, .unset] [(.int (1 : Int32))]))
  refine Go.st (fun t k => XS.ifNo X1.here hx rfl (hb hby d16_4) rfl (Jvm.Free.XT.i0_eq_f (by decide : ¬ ((1 : Int32) = (0 : Int32)))) k) ?_
  show Go p e below _ (T1.setTop (mkF m 7 #[.val (.ref a1), .val (.ref a2), .unset, .unset, .unset, .unset, .unset] []))
  refine Go.st (fun t k => XS.aloadN X1.here hx rfl (hb hby d16_7) rfl rfl k) ?_
  show Go p e below _ (T1.setTop (mkF m 8 #[.val (.ref a1), .val (.ref a2), .unset, .unset, .unset, .unset, .unset] [(.ref a2)]))
  obtain ⟨T2, X2, e2, st2⟩ := castY X1 hx hZ hown (w94 hw) e1 (Ins.self P1) (g := (mkF m 8 #[.val (.ref a1), .val (.ref a2), .unset, .unset, .unset, .unset, .unset] [(.ref a2)])) rfl rfl (hb hby d16_8)
  refine Go.st st2 ?_
  show Go p e below _ (T2.setTop (mkF m 11 #[.val (.ref a1), .val (.ref a2), .unset, .unset, .unset, .unset, .unset] [(.ref a2)]))
  refine Go.st (fun t k => XS.astoreN X2.here hx rfl (hb hby d16_11) rfl rfl (l' := #[.val (.ref a1), .val (.ref a2), .val (.ref a2), .unset, .unset, .unset, .unset]) rfl k) ?_
  show Go p e below _ (T2.setTop (mkF m 12 #[.val (.ref a1), .val (.ref a2), .val (.ref a2), .unset, .unset, .unset, .unset] []))
  refine Go.st (fun t k => XS.goto X2.here hx rfl (pc0 := 12) (pc' := 17) rfl (hb hby d16_12) (by decide) (by decide) k) ?_
  show Go p e below _ (T2.setTop (mkF m 17 #[.val (.ref a1), .val (.ref a2), .val (.ref a2), .unset, .unset, .unset, .unset] []))
  refine Go.st (fun t k => XS.aloadN X2.here hx rfl (hb hby d16_17) rfl rfl k) ?_
  show Go p e below _ (T2.setTop (mkF m 18 #[.val (.ref a1), .val (.ref a2), .val (.ref a2), .unset, .unset, .unset, .unset] [(.ref a2)]))
  refine Go.st (fun t k => XS.aloadN X2.here hx rfl (hb hby d16_18) rfl rfl k) ?_
  show Go p e below _ (T2.setTop (mkF m 19 #[.val (.ref a1), .val (.ref a2), .val (.ref a2), .unset, .unset, .unset, .unset] [(.ref a1), (.ref a2)]))
  refine Go.st (fun t k => Jvm.RoadKit.acmp (g := (mkF m 19 #[.val (.ref a1), .val (.ref a2), .val (.ref a2), .unset, .unset, .unset, .unset] [(.ref a1), (.ref a2)])) X2 hx rfl rfl rfl (pc0 := 19) (pc' := 24) (same := false) rfl (hb hby d16_19) rfl (decide_eq_false fun q => P3 (Value.ref.inj q)) (by decide) (by decide) k) ?_
  show Go p e below _ (T2.setTop (mkF m 24 #[.val (.ref a1), .val (.ref a2), .val (.ref a2), .unset, .unset, .unset, .unset] []))
  refine Go.st (fun t k => XS.aloadN X2.here hx rfl (hb hby d16_24) rfl rfl k) ?_
  show Go p e below _ (T2.setTop (mkF m 25 #[.val (.ref a1), .val (.ref a2), .val (.ref a2), .unset, .unset, .unset, .unset] [(.ref a1)]))
  obtain ⟨T3, X3, e3, st3⟩ := getF X2 hx hZ hown (host := "") (Or.inl (w59 hw)) Via.refl e2 P4 (g := (mkF m 25 #[.val (.ref a1), .val (.ref a2), .val (.ref a2), .unset, .unset, .unset, .unset] [(.ref a1)])) rfl rfl (hb hby d16_25)
  refine Go.st st3 ?_
  show Go p e below _ (T3.setTop (mkF m 28 #[.val (.ref a1), .val (.ref a2), .val (.ref a2), .unset, .unset, .unset, .unset] [(.int (0 : Int32))]))
  refine Go.st (fun t k => XS.aloadN X3.here hx rfl (hb hby d16_28) rfl rfl k) ?_
  show Go p e below _ (T3.setTop (mkF m 29 #[.val (.ref a1), .val (.ref a2), .val (.ref a2), .unset, .unset, .unset, .unset] [(.ref a2), (.int (0 : Int32))]))
  obtain ⟨T4, X4, e4, st4⟩ := getF X3 hx hZ hown (host := "") (Or.inl (w59 hw)) Via.refl e3 P5 (g := (mkF m 29 #[.val (.ref a1), .val (.ref a2), .val (.ref a2), .unset, .unset, .unset, .unset] [(.ref a2), (.int (0 : Int32))])) rfl rfl (hb hby d16_29)
  refine Go.st st4 ?_
  show Go p e below _ (T4.setTop (mkF m 32 #[.val (.ref a1), .val (.ref a2), .val (.ref a2), .unset, .unset, .unset, .unset] [(.int (0 : Int32)), (.int (0 : Int32))]))
  refine Go.st (fun t k => XS.icmpYes X4.here hx rfl (pc0 := 32) (pc' := 37) rfl (hb hby d16_32) rfl (Jvm.Free.XT.ii_eq_t (by decide : (0 : Int32) = (0 : Int32))) (by decide) (by decide) k) ?_
  show Go p e below _ (T4.setTop (mkF m 37 #[.val (.ref a1), .val (.ref a2), .val (.ref a2), .unset, .unset, .unset, .unset] []))
  refine Go.st (fun t k => XS.aloadN X4.here hx rfl (hb hby d16_37) rfl rfl k) ?_
  show Go p e below _ (T4.setTop (mkF m 38 #[.val (.ref a1), .val (.ref a2), .val (.ref a2), .unset, .unset, .unset, .unset] [(.ref a1)]))
  obtain ⟨T5, X5, e5, st5⟩ := getF X4 hx hZ hown (host := "") (Or.inl (w56 hw)) Via.refl e4 P6 (g := (mkF m 38 #[.val (.ref a1), .val (.ref a2), .val (.ref a2), .unset, .unset, .unset, .unset] [(.ref a1)])) rfl rfl (hb hby d16_38)
  refine Go.st st5 ?_
  show Go p e below _ (T5.setTop (mkF m 41 #[.val (.ref a1), .val (.ref a2), .val (.ref a2), .unset, .unset, .unset, .unset] [(.long q3)]))
  refine Go.st (fun t k => XS.lstoreN X5.here hx rfl (hb hby d16_41) rfl (l' := #[.val (.ref a1), .val (.ref a2), .val (.ref a2), .val (.long q3), .second, .unset, .unset]) rfl k) ?_
  show Go p e below _ (T5.setTop (mkF m 42 #[.val (.ref a1), .val (.ref a2), .val (.ref a2), .val (.long q3), .second, .unset, .unset] []))
  refine Go.st (fun t k => XS.aloadN X5.here hx rfl (hb hby d16_42) rfl rfl k) ?_
  show Go p e below _ (T5.setTop (mkF m 43 #[.val (.ref a1), .val (.ref a2), .val (.ref a2), .val (.long q3), .second, .unset, .unset] [(.ref a2)]))
  obtain ⟨T6, X6, e6, st6⟩ := getF X5 hx hZ hown (host := "") (Or.inl (w56 hw)) Via.refl e5 P7 (g := (mkF m 43 #[.val (.ref a1), .val (.ref a2), .val (.ref a2), .val (.long q3), .second, .unset, .unset] [(.ref a2)])) rfl rfl (hb hby d16_43)
  refine Go.st st6 ?_
  show Go p e below _ (T6.setTop (mkF m 46 #[.val (.ref a1), .val (.ref a2), .val (.ref a2), .val (.long q3), .second, .unset, .unset] [(.long q4)]))
  refine Go.st (fun t k => XS.lstore X6.here hx rfl (hb hby d16_46) rfl (l' := #[.val (.ref a1), .val (.ref a2), .val (.ref a2), .val (.long q3), .second, .val (.long q4), .second]) rfl k) ?_
  show Go p e below _ (T6.setTop (mkF m 48 #[.val (.ref a1), .val (.ref a2), .val (.ref a2), .val (.long q3), .second, .val (.long q4), .second] []))
  refine Go.st (fun t k => XS.lloadN X6.here hx rfl (hb hby d16_48) rfl k) ?_
  show Go p e below _ (T6.setTop (mkF m 49 #[.val (.ref a1), .val (.ref a2), .val (.ref a2), .val (.long q3), .second, .val (.long q4), .second] [(.long q3)]))
  refine Go.st (fun t k => X6.ldc2J hx hown (mvT hZ (w58 hw)) (g := (mkF m 49 #[.val (.ref a1), .val (.ref a2), .val (.ref a2), .val (.long q3), .second, .val (.long q4), .second] [(.long q3)])) rfl (hb hby d16_49) k) ?_
  show Go p e below _ (T6.setTop (mkF m 52 #[.val (.ref a1), .val (.ref a2), .val (.ref a2), .val (.long q3), .second, .val (.long q4), .second] [(.long (-9223372036854775808 : Int64)), (.long q3)]))
  refine Go.st (fun t k => Jvm.Free.XT.lcmp X6.here hx rfl (hb hby d16_52) rfl k) ?_
  show Go p e below _ (T6.setTop (mkF m 53 #[.val (.ref a1), .val (.ref a2), .val (.ref a2), .val (.long q3), .second, .val (.long q4), .second] [(.int (Jvm.Free.XT.cmpL q3 (-9223372036854775808 : Int64)))]))
  refine Go.st (fun t k => XS.ifNo X6.here hx rfl (hb hby d16_53) rfl (Jvm.Free.XT.ll_eq_f P8) k) ?_
  show Go p e below _ (T6.setTop (mkF m 56 #[.val (.ref a1), .val (.ref a2), .val (.ref a2), .val (.long q3), .second, .val (.long q4), .second] []))
  refine Go.st (fun t k => XS.lload X6.here hx rfl (hb hby d16_56) rfl k) ?_
  show Go p e below _ (T6.setTop (mkF m 58 #[.val (.ref a1), .val (.ref a2), .val (.ref a2), .val (.long q3), .second, .val (.long q4), .second] [(.long q4)]))
  refine Go.st (fun t k => X6.ldc2J hx hown (mvT hZ (w58 hw)) (g := (mkF m 58 #[.val (.ref a1), .val (.ref a2), .val (.ref a2), .val (.long q3), .second, .val (.long q4), .second] [(.long q4)])) rfl (hb hby d16_58) k) ?_
  show Go p e below _ (T6.setTop (mkF m 61 #[.val (.ref a1), .val (.ref a2), .val (.ref a2), .val (.long q3), .second, .val (.long q4), .second] [(.long (-9223372036854775808 : Int64)), (.long q4)]))
  refine Go.st (fun t k => Jvm.Free.XT.lcmp X6.here hx rfl (hb hby d16_61) rfl k) ?_
  show Go p e below _ (T6.setTop (mkF m 62 #[.val (.ref a1), .val (.ref a2), .val (.ref a2), .val (.long q3), .second, .val (.long q4), .second] [(.int (Jvm.Free.XT.cmpL q4 (-9223372036854775808 : Int64)))]))
  refine Go.st (fun t k => XS.ifYes X6.here hx rfl (pc0 := 62) (pc' := 74) rfl (hb hby d16_62) rfl (Jvm.Free.XT.ll_ne_t P9) (by decide) (by decide) k) ?_
  show Go p e below _ (T6.setTop (mkF m 74 #[.val (.ref a1), .val (.ref a2), .val (.ref a2), .val (.long q3), .second, .val (.long q4), .second] []))
  refine Go.st (fun t k => XS.lload X6.here hx rfl (hb hby d16_74) rfl k) ?_
  show Go p e below _ (T6.setTop (mkF m 76 #[.val (.ref a1), .val (.ref a2), .val (.ref a2), .val (.long q3), .second, .val (.long q4), .second] [(.long q4)]))
  refine Go.st (fun t k => XS.lloadN X6.here hx rfl (hb hby d16_76) rfl k) ?_
  show Go p e below _ (T6.setTop (mkF m 77 #[.val (.ref a1), .val (.ref a2), .val (.ref a2), .val (.long q3), .second, .val (.long q4), .second] [(.long q3), (.long q4)]))
  refine Go.st (fun t k => Jvm.Free.XT.lcmp X6.here hx rfl (hb hby d16_77) rfl k) ?_
  show Go p e below _ (T6.setTop (mkF m 78 #[.val (.ref a1), .val (.ref a2), .val (.ref a2), .val (.long q3), .second, .val (.long q4), .second] [(.int (Jvm.Free.XT.cmpL q4 q3))]))
  refine Go.st (fun t k => XS.ifNo X6.here hx rfl (hb hby d16_78) rfl (Jvm.Free.XT.ll_ne_f P10) k) ?_
  show Go p e below _ (T6.setTop (mkF m 81 #[.val (.ref a1), .val (.ref a2), .val (.ref a2), .val (.long q3), .second, .val (.long q4), .second] []))
  refine Go.st (fun t k => XS.iconst X6.here hx rfl (hb hby d16_81) k) ?_
  show Go p e below _ (T6.setTop (mkF m 82 #[.val (.ref a1), .val (.ref a2), .val (.ref a2), .val (.long q3), .second, .val (.long q4), .second] [(.int (1 : Int32))]))
  refine Go.st (fun t k => XS.goto X6.here hx rfl (pc0 := 82) (pc' := 86) rfl (hb hby d16_82) (by decide) (by decide) k) ?_
  show Go p e below _ (T6.setTop (mkF m 86 #[.val (.ref a1), .val (.ref a2), .val (.ref a2), .val (.long q3), .second, .val (.long q4), .second] [(.int (1 : Int32))]))
  obtain ⟨fs, hr, hrun, hended, hWd, hsame⟩ := X6.leave (v := some (.int (1 : Int32))) (fun h => by rw [Bd.returns] at h; cases h)
  refine ⟨_, _, ?_, hrun, hended, _, _, rfl, ?_, ⟨⟨_, rfl⟩, hWd, hsame.mono (by decide) (by decide)⟩⟩
  · exact retN X6 hx (t := .boolean) Bd.returns (by simp) (hb hby d16_86) hr
  · show Q_rm16_4 Z a1 a2 q3 q4 h0 n0 _ T6.heap _
    rw [e6]
    exact ⟨rfl, N0, rfl⟩
def Q_rm2_2 (Z : State) (a1 : Addr) (a2 : Addr) (a3 : Addr) (a4 : Addr) (h0 : Heap) (n0 : Nat) (v : Option Value) (h : Heap) (L : List Loc) : Prop := v = none ∧ Fr n0 L ∧ Keep h0 h [a1] ∧ Fld Z h a1 "com/example/cropmark/cropmark/Weights" "edibleLb" "Ljava/math/BigDecimal;" (.ref a2) ∧ Fld Z h a1 "com/example/cropmark/cropmark/Weights" "inedibleLb" "Ljava/math/BigDecimal;" (.ref a3) ∧ Fld Z h a1 "com/example/cropmark/cropmark/Weights" "factor" "Ljava/math/BigDecimal;" .null ∧ Fld Z h a1 "com/example/cropmark/cropmark/Weights" "assessedLb" "Ljava/math/BigDecimal;" (.ref a4)
set_option maxRecDepth 65536 in
set_option maxHeartbeats 40000000 in
theorem rm2_2 (l : Launch) (Z : State) (a0 : Array Value) (hw : ∀ d ∈ tables_1, d.before a0 Z = true) (ws : List Jvm.Cond) (a1 : Addr) (a2 : Addr) (a3 : Addr) (a4 : Addr) (h0 : Heap) (n0 : Nat) (O0 : Old Z n0 h0) (P1 : Exa Z h0 a1 "com/example/cropmark/cropmark/Weights") (P2 : Fld Z h0 a1 "com/example/cropmark/cropmark/Weights" "edibleLb" "Ljava/math/BigDecimal;" .null) (P3 : n0 ≤ a1) (P4 : Fld Z h0 a1 "com/example/cropmark/cropmark/Weights" "inedibleLb" "Ljava/math/BigDecimal;" .null) (P5 : Fld Z h0 a1 "com/example/cropmark/cropmark/Weights" "factor" "Ljava/math/BigDecimal;" .null) (P6 : Fld Z h0 a1 "com/example/cropmark/cropmark/Weights" "assessedLb" "Ljava/math/BigDecimal;" .null) :
    MetFree l (⟨"com/example/cropmark/cropmark/Weights", "<init>", "(Ljava/math/BigDecimal;Ljava/math/BigDecimal;Ljava/math/BigDecimal;Ljava/math/BigDecimal;)V"⟩ : MethodName) (head1 (Jvm.Cond.code (⟨"com/example/cropmark/cropmark/Weights", "<init>", "(Ljava/math/BigDecimal;Ljava/math/BigDecimal;Ljava/math/BigDecimal;Ljava/math/BigDecimal;)V"⟩ : MethodName) prog_92_method_2_code 5 none :: ws) ({ frames := 2, cells := 0, slots := 0, locals := 24 } : Room)) (fun a U => a = #[(.ref a1), (.ref a2), (.ref a3), .null, (.ref a4)] ∧ Z.Warmed39 U.vm ∧ U.heap = h0) (fun _ _ _ _ _ => True) (fun _ U o U' => ∃ v L, o = .returned v ∧ Q_rm2_2 Z a1 a2 a3 a4 h0 n0 v U'.heap L ∧ FrameEnd U o U' L ({ frames := 2, cells := 0, slots := 0, locals := 24 } : Room).cells ({ frames := 2, cells := 0, slots := 0, locals := 24 } : Room).slots) := by
  refine MetFree.of_bodySF (plainFor_of_name pn_3) hisR ?_
  intro p e s m args below meth c s₁ Bd hml0 hP hK
  obtain ⟨rfl, hZ, hh⟩ := hP
  have hx := Bd.exec
  have hby := Bd.bytes
  have hml : c.maxLocals = 5 := hml0
  have hown : s.vm.findClass "com/example/cropmark/cropmark/Weights" = some m.cls := findClass_of_methodNamed Bd.named
  have hnm := (name_of_methodNamed Bd.named Bd.method).1
  have X0 : Stand p l e ({ frames := 2, cells := 0, slots := 0, locals := 24 } : Room) s m #[(.ref a1), (.ref a2), (.ref a3), .null, (.ref a4)] below meth c s₁ [] 0 0 := Stand.of_body Bd
  have e0 : s₁.heap = h0 := by rw [← hh, Bd.state]; rfl
  have N0 := Fr.nil n0
  refine Go.start (P := (fun o U' => ∃ v L, o = .returned v ∧ Q_rm2_2 Z a1 a2 a3 a4 h0 n0 v U'.heap L ∧ FrameEnd s o U' L ({ frames := 2, cells := 0, slots := 0, locals := 24 } : Room).cells ({ frames := 2, cells := 0, slots := 0, locals := 24 } : Room).slots)) (castTop (g' := (mkF m 0 #[.val (.ref a1), .val (.ref a2), .val (.ref a3), .val .null, .val (.ref a4)] [])) (by first | rfl | simp [entryFrame, mkF, argsToLocals, Value.category]) (T := s₁)) ?_
  refine Go.st (fun t k => XS.aloadN X0.here hx rfl (hb hby d2_0) rfl rfl k) ?_
  show Go p e below _ (s₁.setTop (mkF m 1 #[.val (.ref a1), .val (.ref a2), .val (.ref a3), .val .null, .val (.ref a4)] [(.ref a1)]))
  obtain ⟨_, _, ⟨T1, L1, k1, n1⟩, -, X1, ⟨Lc1, hQ1, l1, y1, z1⟩, st1⟩ := X0.specialBack hx (y := (⟨"java/lang/Record", "<init>", "()V"⟩ : MethodName)) rfl hown (mvT hZ (w11 hw)) (mvT hZ (w12 hw)) (mvT hZ (w15 hw)) (by decide) (backOf (W := 0) (rm3_1 l Z a0 hw [] a1 h0 n0 O0 ) hZ (w15 hw) (w14 hw) (by decide) (by decide)) (g := (mkF m 1 #[.val (.ref a1), .val (.ref a2), .val (.ref a3), .val .null, .val (.ref a4)] [(.ref a1)])) rfl (by rw [hml]; rfl) (Steps.refl _) (a := a1) (argsL := []) (rest := []) (lenOf pd_0 rfl) rfl (by show 2 * 0 + _ ≤ _; exact Nat.le_of_eq rfl) (hb hby d2_1) (fun vm₁ hw₁ => ⟨rfl, e0, (by decide : 0 + 0 ≤ _), (by decide : 0 + 0 ≤ _)⟩)
  dsimp only [Pt.U, Pt.locs, Pt.cells, Pt.slots] at X1 l1 y1 z1 st1 hQ1
  subst l1 y1 z1
  obtain ⟨rfl, M1, eh1⟩ := hQ1
  have N1 := Fr.app N0 M1
  refine Go.tr st1 ?_
  show Go p e below _ (T1.setTop (mkF m 4 #[.val (.ref a1), .val (.ref a2), .val (.ref a3), .val .null, .val (.ref a4)] []))
  refine Go.st (fun t k => XS.aloadN X1.here hx rfl (hb hby d2_4) rfl rfl k) ?_
  show Go p e below _ (T1.setTop (mkF m 5 #[.val (.ref a1), .val (.ref a2), .val (.ref a3), .val .null, .val (.ref a4)] [(.ref a1)]))
  refine Go.st (fun t k => XS.aloadN X1.here hx rfl (hb hby d2_5) rfl rfl k) ?_
  show Go p e below _ (T1.setTop (mkF m 6 #[.val (.ref a1), .val (.ref a2), .val (.ref a3), .val .null, .val (.ref a4)] [(.ref a2), (.ref a1)]))
  obtain ⟨T2, h2, X2, e2, W2, st2⟩ := putF X1 hx hZ hown (host := "") (Or.inl (w19 hw)) Via.refl eh1 P2 P1 (Or.inr ⟨(w20 hw), rfl, hnm⟩) (w6 hw) (ty := (.object "java/math/BigDecimal")) (by decide) rfl rfl (g := (mkF m 6 #[.val (.ref a1), .val (.ref a2), .val (.ref a3), .val .null, .val (.ref a4)] [(.ref a2), (.ref a1)])) rfl rfl (hb hby d2_6)
  have F2 : Fld Z h2 a1 "com/example/cropmark/cropmark/Weights" "edibleLb" "Ljava/math/BigDecimal;" (.ref a2) := P2.same W2
  have N2 := Fr.snoc X2 N1 P3
  have O2 : Old Z n0 h2 := O0.wr W2 P3
  have K2 : Keep h0 h2 [a1] := (Keep.refl h0 [a1]).wr W2 (Or.inl (List.mem_of_getElem? (i := 0) rfl))
  refine Go.st st2 ?_
  show Go p e below _ (T2.setTop (mkF m 9 #[.val (.ref a1), .val (.ref a2), .val (.ref a3), .val .null, .val (.ref a4)] []))
  refine Go.st (fun t k => XS.aloadN X2.here hx rfl (hb hby d2_9) rfl rfl k) ?_
  show Go p e below _ (T2.setTop (mkF m 10 #[.val (.ref a1), .val (.ref a2), .val (.ref a3), .val .null, .val (.ref a4)] [(.ref a1)]))
  refine Go.st (fun t k => XS.aloadN X2.here hx rfl (hb hby d2_10) rfl rfl k) ?_
  show Go p e below _ (T2.setTop (mkF m 11 #[.val (.ref a1), .val (.ref a2), .val (.ref a3), .val .null, .val (.ref a4)] [(.ref a3), (.ref a1)]))
  have c3 := (P4.other W2 (Or.inr (slot_ne (Or.inr (w22 hw)) (Or.inr (w20 hw)) (by decide) (t := (.object "java/math/BigDecimal")) (t' := (.object "java/math/BigDecimal")) (by decide) (by decide))))
  obtain ⟨T4, h4, X4, e4, W4, st4⟩ := putF X2 hx hZ hown (host := "") (Or.inl (w21 hw)) Via.refl e2 c3 (P1.wr W2) (Or.inr ⟨(w22 hw), rfl, hnm⟩) (w6 hw) (ty := (.object "java/math/BigDecimal")) (by decide) rfl rfl (g := (mkF m 11 #[.val (.ref a1), .val (.ref a2), .val (.ref a3), .val .null, .val (.ref a4)] [(.ref a3), (.ref a1)])) rfl rfl (hb hby d2_11)
  have F4 : Fld Z h4 a1 "com/example/cropmark/cropmark/Weights" "inedibleLb" "Ljava/math/BigDecimal;" (.ref a3) := c3.same W4
  have N4 := Fr.snoc X4 N2 P3
  have O4 : Old Z n0 h4 := O2.wr W4 P3
  have K4 : Keep h0 h4 [a1] := K2.wr W4 (Or.inl (List.mem_of_getElem? (i := 0) rfl))
  refine Go.st st4 ?_
  show Go p e below _ (T4.setTop (mkF m 14 #[.val (.ref a1), .val (.ref a2), .val (.ref a3), .val .null, .val (.ref a4)] []))
  refine Go.st (fun t k => XS.aloadN X4.here hx rfl (hb hby d2_14) rfl rfl k) ?_
  show Go p e below _ (T4.setTop (mkF m 15 #[.val (.ref a1), .val (.ref a2), .val (.ref a3), .val .null, .val (.ref a4)] [(.ref a1)]))
  refine Go.st (fun t k => XS.aloadN X4.here hx rfl (hb hby d2_15) rfl rfl k) ?_
  show Go p e below _ (T4.setTop (mkF m 16 #[.val (.ref a1), .val (.ref a2), .val (.ref a3), .val .null, .val (.ref a4)] [.null, (.ref a1)]))
  have c5 := ((P5.other W2 (Or.inr (slot_ne (Or.inr (w24 hw)) (Or.inr (w20 hw)) (by decide) (t := (.object "java/math/BigDecimal")) (t' := (.object "java/math/BigDecimal")) (by decide) (by decide)))).other W4 (Or.inr (slot_ne (Or.inr (w24 hw)) (Or.inr (w22 hw)) (by decide) (t := (.object "java/math/BigDecimal")) (t' := (.object "java/math/BigDecimal")) (by decide) (by decide))))
  obtain ⟨T6, h6, X6, e6, W6, st6⟩ := putF X4 hx hZ hown (host := "") (Or.inl (w23 hw)) Via.refl e4 c5 ((P1.wr W2).wr W4) (Or.inr ⟨(w24 hw), rfl, hnm⟩) (w6 hw) (ty := (.object "java/math/BigDecimal")) (by decide) rfl rfl (g := (mkF m 16 #[.val (.ref a1), .val (.ref a2), .val (.ref a3), .val .null, .val (.ref a4)] [.null, (.ref a1)])) rfl rfl (hb hby d2_16)
  have F6 : Fld Z h6 a1 "com/example/cropmark/cropmark/Weights" "factor" "Ljava/math/BigDecimal;" .null := c5.same W6
  have N6 := Fr.snoc X6 N4 P3
  have O6 : Old Z n0 h6 := O4.wr W6 P3
  have K6 : Keep h0 h6 [a1] := K4.wr W6 (Or.inl (List.mem_of_getElem? (i := 0) rfl))
  refine Go.st st6 ?_
  show Go p e below _ (T6.setTop (mkF m 19 #[.val (.ref a1), .val (.ref a2), .val (.ref a3), .val .null, .val (.ref a4)] []))
  refine Go.st (fun t k => XS.aloadN X6.here hx rfl (hb hby d2_19) rfl rfl k) ?_
  show Go p e below _ (T6.setTop (mkF m 20 #[.val (.ref a1), .val (.ref a2), .val (.ref a3), .val .null, .val (.ref a4)] [(.ref a1)]))
  refine Go.st (fun t k => XS.aload X6.here hx rfl (hb hby d2_20) rfl rfl k) ?_
  show Go p e below _ (T6.setTop (mkF m 22 #[.val (.ref a1), .val (.ref a2), .val (.ref a3), .val .null, .val (.ref a4)] [(.ref a4), (.ref a1)]))
  have c7 := (((P6.other W2 (Or.inr (slot_ne (Or.inr (w26 hw)) (Or.inr (w20 hw)) (by decide) (t := (.object "java/math/BigDecimal")) (t' := (.object "java/math/BigDecimal")) (by decide) (by decide)))).other W4 (Or.inr (slot_ne (Or.inr (w26 hw)) (Or.inr (w22 hw)) (by decide) (t := (.object "java/math/BigDecimal")) (t' := (.object "java/math/BigDecimal")) (by decide) (by decide)))).other W6 (Or.inr (slot_ne (Or.inr (w26 hw)) (Or.inr (w24 hw)) (by decide) (t := (.object "java/math/BigDecimal")) (t' := (.object "java/math/BigDecimal")) (by decide) (by decide))))
  obtain ⟨T8, h8, X8, e8, W8, st8⟩ := putF X6 hx hZ hown (host := "") (Or.inl (w25 hw)) Via.refl e6 c7 (((P1.wr W2).wr W4).wr W6) (Or.inr ⟨(w26 hw), rfl, hnm⟩) (w6 hw) (ty := (.object "java/math/BigDecimal")) (by decide) rfl rfl (g := (mkF m 22 #[.val (.ref a1), .val (.ref a2), .val (.ref a3), .val .null, .val (.ref a4)] [(.ref a4), (.ref a1)])) rfl rfl (hb hby d2_22)
  have F8 : Fld Z h8 a1 "com/example/cropmark/cropmark/Weights" "assessedLb" "Ljava/math/BigDecimal;" (.ref a4) := c7.same W8
  have N8 := Fr.snoc X8 N6 P3
  have O8 : Old Z n0 h8 := O6.wr W8 P3
  have K8 : Keep h0 h8 [a1] := K6.wr W8 (Or.inl (List.mem_of_getElem? (i := 0) rfl))
  refine Go.st st8 ?_
  show Go p e below _ (T8.setTop (mkF m 25 #[.val (.ref a1), .val (.ref a2), .val (.ref a3), .val .null, .val (.ref a4)] []))
  obtain ⟨fs, hr, hrun, hended, hWd, hsame⟩ := X8.leave (v := none) (fun _ => rfl)
  have c9 := (((F2.other W4 (Or.inr (slot_ne (Or.inr (w20 hw)) (Or.inr (w22 hw)) (by decide) (t := (.object "java/math/BigDecimal")) (t' := (.object "java/math/BigDecimal")) (by decide) (by decide)))).other W6 (Or.inr (slot_ne (Or.inr (w20 hw)) (Or.inr (w24 hw)) (by decide) (t := (.object "java/math/BigDecimal")) (t' := (.object "java/math/BigDecimal")) (by decide) (by decide)))).other W8 (Or.inr (slot_ne (Or.inr (w20 hw)) (Or.inr (w26 hw)) (by decide) (t := (.object "java/math/BigDecimal")) (t' := (.object "java/math/BigDecimal")) (by decide) (by decide))))
  have c10 := ((F4.other W6 (Or.inr (slot_ne (Or.inr (w22 hw)) (Or.inr (w24 hw)) (by decide) (t := (.object "java/math/BigDecimal")) (t' := (.object "java/math/BigDecimal")) (by decide) (by decide)))).other W8 (Or.inr (slot_ne (Or.inr (w22 hw)) (Or.inr (w26 hw)) (by decide) (t := (.object "java/math/BigDecimal")) (t' := (.object "java/math/BigDecimal")) (by decide) (by decide))))
  have c11 := (F6.other W8 (Or.inr (slot_ne (Or.inr (w24 hw)) (Or.inr (w26 hw)) (by decide) (t := (.object "java/math/BigDecimal")) (t' := (.object "java/math/BigDecimal")) (by decide) (by decide))))
  refine ⟨_, _, ?_, hrun, hended, _, _, rfl, ?_, ⟨⟨_, rfl⟩, hWd, hsame.mono (by decide) (by decide)⟩⟩
  · exact X8.returnOut hx Bd.returns (hb hby d2_25) hr
  · show Q_rm2_2 Z a1 a2 a3 a4 h0 n0 _ T8.heap _
    rw [e8]
    exact ⟨rfl, N8, K8, c9, c10, c11, F8⟩
def Q_rm13_2 (Z : State) (a1 : Addr) (a2 : Addr) (h0 : Heap) (n0 : Nat) (v : Option Value) (h : Heap) (L : List Loc) : Prop := v = some (.ref a2) ∧ Fr n0 L ∧ h = h0
set_option maxRecDepth 65536 in
set_option maxHeartbeats 40000000 in
theorem rm13_2 (l : Launch) (Z : State) (a0 : Array Value) (hw : ∀ d ∈ tables_1, d.before a0 Z = true) (ws : List Jvm.Cond) (a1 : Addr) (a2 : Addr) (h0 : Heap) (n0 : Nat) (O0 : Old Z n0 h0) (P1 : Fld Z h0 a1 "com/example/cropmark/cropmark/Weights" "inedibleLb" "Ljava/math/BigDecimal;" (.ref a2)) :
    MetFree l (⟨"com/example/cropmark/cropmark/Weights", "inedibleLb", "()Ljava/math/BigDecimal;"⟩ : MethodName) (head1 (Jvm.Cond.code (⟨"com/example/cropmark/cropmark/Weights", "inedibleLb", "()Ljava/math/BigDecimal;"⟩ : MethodName) prog_92_method_7_code 1 (some (.object "java/math/BigDecimal")) :: ws) ({ frames := 0, cells := 0, slots := 0, locals := 0 } : Room)) (fun a U => a = #[(.ref a1)] ∧ Z.Warmed39 U.vm ∧ U.heap = h0) (fun _ _ _ _ _ => True) (fun _ U o U' => ∃ v L, o = .returned v ∧ Q_rm13_2 Z a1 a2 h0 n0 v U'.heap L ∧ FrameEnd U o U' L ({ frames := 0, cells := 0, slots := 0, locals := 0 } : Room).cells ({ frames := 0, cells := 0, slots := 0, locals := 0 } : Room).slots) := by
  refine MetFree.of_bodySF (plainFor_of_name pn_3) hisR ?_
  intro p e s m args below meth c s₁ Bd hml0 hP hK
  obtain ⟨rfl, hZ, hh⟩ := hP
  have hx := Bd.exec
  have hby := Bd.bytes
  have hml : c.maxLocals = 1 := hml0
  have hown : s.vm.findClass "com/example/cropmark/cropmark/Weights" = some m.cls := findClass_of_methodNamed Bd.named
  have hnm := (name_of_methodNamed Bd.named Bd.method).1
  have X0 : Stand p l e ({ frames := 0, cells := 0, slots := 0, locals := 0 } : Room) s m #[(.ref a1)] below meth c s₁ [] 0 0 := Stand.of_body Bd
  have e0 : s₁.heap = h0 := by rw [← hh, Bd.state]; rfl
  have N0 := Fr.nil n0
  refine Go.start (P := (fun o U' => ∃ v L, o = .returned v ∧ Q_rm13_2 Z a1 a2 h0 n0 v U'.heap L ∧ FrameEnd s o U' L ({ frames := 0, cells := 0, slots := 0, locals := 0 } : Room).cells ({ frames := 0, cells := 0, slots := 0, locals := 0 } : Room).slots)) (castTop (g' := (mkF m 0 #[.val (.ref a1)] [])) (by first | rfl | simp [entryFrame, mkF, argsToLocals, Value.category]) (T := s₁)) ?_
  refine Go.st (fun t k => XS.aloadN X0.here hx rfl (hb hby d13_0) rfl rfl k) ?_
  show Go p e below _ (s₁.setTop (mkF m 1 #[.val (.ref a1)] [(.ref a1)]))
  obtain ⟨T1, X1, e1, st1⟩ := getF X0 hx hZ hown (host := "") (Or.inl (w21 hw)) Via.refl e0 P1 (g := (mkF m 1 #[.val (.ref a1)] [(.ref a1)])) rfl rfl (hb hby d13_1)
  refine Go.st st1 ?_
  show Go p e below _ (T1.setTop (mkF m 4 #[.val (.ref a1)] [(.ref a2)]))
  obtain ⟨fs, hr, hrun, hended, hWd, hsame⟩ := X1.leave (v := some (.ref a2)) (fun h => by rw [Bd.returns] at h; cases h)
  refine ⟨_, _, ?_, hrun, hended, _, _, rfl, ?_, ⟨⟨_, rfl⟩, hWd, hsame.mono (by decide) (by decide)⟩⟩
  · exact own_retA X1 hx Bd.returns rfl rfl (hb hby d13_4) hr
  · show Q_rm13_2 Z a1 a2 h0 n0 _ T1.heap _
    rw [e1]
    exact ⟨rfl, N0, rfl⟩
def Q_rm6_3 (Z : State) (a1 : Addr) (a2 : Addr) (a3 : Addr) (a4 : Addr) (q5 : Int64) (q6 : Int64) (a7 : Addr) (k8 : ClassId) (a9 : Addr) (a10 : Addr) (a11 : Addr) (a12 : Addr) (a13 : Addr) (a14 : Addr) (a15 : Addr) (a16 : Addr) (a17 : Addr) (a18 : Addr) (a19 : Addr) (a20 : Addr) (q21 : Int64) (h0 : Heap) (n0 : Nat) (v : Option Value) (h : Heap) (L : List Loc) : Prop := ∃ (bv_1_2_1_7_6 : Addr) (bv_1_2_1_7_15 : Addr), v = none ∧ Fr n0 L ∧ Keep h0 h [a1] ∧ Fld Z h a1 "com/example/cropmark/cropmark/Assessment$Sums" "lots" "I" (.int (2 : Int32)) ∧ Fld Z h a1 "com/example/cropmark/cropmark/Assessment$Sums" "assessedLb" "Ljava/math/BigDecimal;" (.ref bv_1_2_1_7_6) ∧ Fld Z h a1 "com/example/cropmark/cropmark/Assessment$Sums" "inedibleLb" "Ljava/math/BigDecimal;" (.ref bv_1_2_1_7_15) ∧ Exa Z h bv_1_2_1_7_6 "java/math/BigDecimal" ∧ Fld Z h bv_1_2_1_7_6 "java/math/BigDecimal" "scale" "I" (.int (0 : Int32)) ∧ Fld Z h bv_1_2_1_7_6 "java/math/BigDecimal" "intCompact" "J" (.long (q5 + q6)) ∧ Exa Z h bv_1_2_1_7_15 "java/math/BigDecimal" ∧ Fld Z h bv_1_2_1_7_15 "java/math/BigDecimal" "scale" "I" (.int (0 : Int32)) ∧ Fld Z h bv_1_2_1_7_15 "java/math/BigDecimal" "intCompact" "J" (.long ((0 : Int64) + q21))
set_option maxRecDepth 65536 in
set_option maxHeartbeats 40000000 in
theorem rm6_3 (l : Launch) (Z : State) (a0 : Array Value) (hw : ∀ d ∈ tables_1, d.before a0 Z = true) (ws : List Jvm.Cond) (a1 : Addr) (a2 : Addr) (a3 : Addr) (a4 : Addr) (q5 : Int64) (q6 : Int64) (a7 : Addr) (k8 : ClassId) (a9 : Addr) (a10 : Addr) (a11 : Addr) (a12 : Addr) (a13 : Addr) (a14 : Addr) (a15 : Addr) (a16 : Addr) (a17 : Addr) (a18 : Addr) (a19 : Addr) (a20 : Addr) (q21 : Int64) (h0 : Heap) (n0 : Nat) (O0 : Old Z n0 h0) (P1 : Fld Z h0 a1 "com/example/cropmark/cropmark/Assessment$Sums" "lots" "I" (.int (1 : Int32))) (P2 : Exa Z h0 a1 "com/example/cropmark/cropmark/Assessment$Sums") (P3 : n0 ≤ a1) (P4 : Fld Z h0 a1 "com/example/cropmark/cropmark/Assessment$Sums" "assessedLb" "Ljava/math/BigDecimal;" (.ref a3)) (P5 : Exa Z h0 a2 "com/example/cropmark/cropmark/Weights") (P6 : Fld Z h0 a2 "com/example/cropmark/cropmark/Weights" "assessedLb" "Ljava/math/BigDecimal;" (.ref a4)) (P7 : a2 ≠ a1) (P8 : Exa Z h0 a3 "java/math/BigDecimal") (P9 : Fld Z h0 a3 "java/math/BigDecimal" "intCompact" "J" (.long q5)) (P10 : ¬ (q5 = (-9223372036854775808 : Int64))) (P11 : Fld Z h0 a4 "java/math/BigDecimal" "intCompact" "J" (.long q6)) (P12 : ¬ (q6 = (-9223372036854775808 : Int64))) (P13 : Fld Z h0 a3 "java/math/BigDecimal" "scale" "I" (.int (0 : Int32))) (P14 : Fld Z h0 a4 "java/math/BigDecimal" "scale" "I" (.int (0 : Int32))) (P15 : ¬ ((((q5 + q6) ^^^ q5) &&& ((q5 + q6) ^^^ q6)) < (0 : Int64))) (P16 : ¬ ((q5 + q6) = (-9223372036854775808 : Int64))) (P17 : Sta Z Z.heap "java/math/BigDecimal" "ZERO_THROUGH_TEN" "[Ljava/math/BigDecimal;" (.ref a7)) (P18 : Arv Z Z.heap a7 k8 (.object "java/math/BigDecimal") (11 : Int32) [(.ref a9), (.ref a10), (.ref a11), (.ref a12), (.ref a13), (.ref a14), (.ref a15), (.ref a16), (.ref a17), (.ref a18), (.ref a19)] .null) (P19 : Exa Z Z.heap a9 "java/math/BigDecimal") (P20 : Fld Z Z.heap a9 "java/math/BigDecimal" "scale" "I" (.int (0 : Int32))) (P21 : Fld Z Z.heap a9 "java/math/BigDecimal" "intCompact" "J" (.long (0 : Int64))) (P22 : Exa Z Z.heap a10 "java/math/BigDecimal") (P23 : Fld Z Z.heap a10 "java/math/BigDecimal" "scale" "I" (.int (0 : Int32))) (P24 : Fld Z Z.heap a10 "java/math/BigDecimal" "intCompact" "J" (.long (1 : Int64))) (P25 : Exa Z Z.heap a11 "java/math/BigDecimal") (P26 : Fld Z Z.heap a11 "java/math/BigDecimal" "scale" "I" (.int (0 : Int32))) (P27 : Fld Z Z.heap a11 "java/math/BigDecimal" "intCompact" "J" (.long (2 : Int64))) (P28 : Exa Z Z.heap a12 "java/math/BigDecimal") (P29 : Fld Z Z.heap a12 "java/math/BigDecimal" "scale" "I" (.int (0 : Int32))) (P30 : Fld Z Z.heap a12 "java/math/BigDecimal" "intCompact" "J" (.long (3 : Int64))) (P31 : Exa Z Z.heap a13 "java/math/BigDecimal") (P32 : Fld Z Z.heap a13 "java/math/BigDecimal" "scale" "I" (.int (0 : Int32))) (P33 : Fld Z Z.heap a13 "java/math/BigDecimal" "intCompact" "J" (.long (4 : Int64))) (P34 : Exa Z Z.heap a14 "java/math/BigDecimal") (P35 : Fld Z Z.heap a14 "java/math/BigDecimal" "scale" "I" (.int (0 : Int32))) (P36 : Fld Z Z.heap a14 "java/math/BigDecimal" "intCompact" "J" (.long (5 : Int64))) (P37 : Exa Z Z.heap a15 "java/math/BigDecimal") (P38 : Fld Z Z.heap a15 "java/math/BigDecimal" "scale" "I" (.int (0 : Int32))) (P39 : Fld Z Z.heap a15 "java/math/BigDecimal" "intCompact" "J" (.long (6 : Int64))) (P40 : Exa Z Z.heap a16 "java/math/BigDecimal") (P41 : Fld Z Z.heap a16 "java/math/BigDecimal" "scale" "I" (.int (0 : Int32))) (P42 : Fld Z Z.heap a16 "java/math/BigDecimal" "intCompact" "J" (.long (7 : Int64))) (P43 : Exa Z Z.heap a17 "java/math/BigDecimal") (P44 : Fld Z Z.heap a17 "java/math/BigDecimal" "scale" "I" (.int (0 : Int32))) (P45 : Fld Z Z.heap a17 "java/math/BigDecimal" "intCompact" "J" (.long (8 : Int64))) (P46 : Exa Z Z.heap a18 "java/math/BigDecimal") (P47 : Fld Z Z.heap a18 "java/math/BigDecimal" "scale" "I" (.int (0 : Int32))) (P48 : Fld Z Z.heap a18 "java/math/BigDecimal" "intCompact" "J" (.long (9 : Int64))) (P49 : Exa Z Z.heap a19 "java/math/BigDecimal") (P50 : Fld Z Z.heap a19 "java/math/BigDecimal" "scale" "I" (.int (0 : Int32))) (P51 : Fld Z Z.heap a19 "java/math/BigDecimal" "intCompact" "J" (.long (10 : Int64))) (P52 : a3 ≠ a1) (P53 : a4 ≠ a1) (P54 : Fld Z h0 a2 "com/example/cropmark/cropmark/Weights" "inedibleLb" "Ljava/math/BigDecimal;" (.ref a20)) (P55 : Fld Z h0 a1 "com/example/cropmark/cropmark/Assessment$Sums" "inedibleLb" "Ljava/math/BigDecimal;" (.ref a9)) (P56 : Fld Z h0 a20 "java/math/BigDecimal" "intCompact" "J" (.long q21)) (P57 : ¬ (q21 = (-9223372036854775808 : Int64))) (P58 : Fld Z h0 a20 "java/math/BigDecimal" "scale" "I" (.int (0 : Int32))) (P59 : ¬ (((((0 : Int64) + q21) ^^^ (0 : Int64)) &&& (((0 : Int64) + q21) ^^^ q21)) < (0 : Int64))) (P60 : ¬ (((0 : Int64) + q21) = (-9223372036854775808 : Int64))) (P61 : a20 ≠ a1) :
    MetFree l (⟨"com/example/cropmark/cropmark/Assessment$Sums", "add", "(Lcom/example/cropmark/cropmark/Weights;)V"⟩ : MethodName) (head1 (Jvm.Cond.code (⟨"com/example/cropmark/cropmark/Assessment$Sums", "add", "(Lcom/example/cropmark/cropmark/Weights;)V"⟩ : MethodName) prog_12_method_3_code 2 none :: ws) ({ frames := 8, cells := 2, slots := 10, locals := 124 } : Room)) (fun a U => a = #[(.ref a1), (.ref a2)] ∧ Z.Warmed39 U.vm ∧ U.heap = h0) (fun _ _ _ _ _ => True) (fun _ U o U' => ∃ v L, o = .returned v ∧ Q_rm6_3 Z a1 a2 a3 a4 q5 q6 a7 k8 a9 a10 a11 a12 a13 a14 a15 a16 a17 a18 a19 a20 q21 h0 n0 v U'.heap L ∧ FrameEnd U o U' L ({ frames := 8, cells := 2, slots := 10, locals := 124 } : Room).cells ({ frames := 8, cells := 2, slots := 10, locals := 124 } : Room).slots) := by
  refine MetFree.of_bodySF (plainFor_of_name pn_4) hisR ?_
  intro p e s m args below meth c s₁ Bd hml0 hP hK
  obtain ⟨rfl, hZ, hh⟩ := hP
  have hx := Bd.exec
  have hby := Bd.bytes
  have hml : c.maxLocals = 2 := hml0
  have hown : s.vm.findClass "com/example/cropmark/cropmark/Assessment$Sums" = some m.cls := findClass_of_methodNamed Bd.named
  have hnm := (name_of_methodNamed Bd.named Bd.method).1
  have X0 : Stand p l e ({ frames := 8, cells := 2, slots := 10, locals := 124 } : Room) s m #[(.ref a1), (.ref a2)] below meth c s₁ [] 0 0 := Stand.of_body Bd
  have e0 : s₁.heap = h0 := by rw [← hh, Bd.state]; rfl
  have N0 := Fr.nil n0
  refine Go.start (P := (fun o U' => ∃ v L, o = .returned v ∧ Q_rm6_3 Z a1 a2 a3 a4 q5 q6 a7 k8 a9 a10 a11 a12 a13 a14 a15 a16 a17 a18 a19 a20 q21 h0 n0 v U'.heap L ∧ FrameEnd s o U' L ({ frames := 8, cells := 2, slots := 10, locals := 124 } : Room).cells ({ frames := 8, cells := 2, slots := 10, locals := 124 } : Room).slots)) (castTop (g' := (mkF m 0 #[.val (.ref a1), .val (.ref a2)] [])) (by first | rfl | simp [entryFrame, mkF, argsToLocals, Value.category]) (T := s₁)) ?_
  refine Go.st (fun t k => XS.aloadN X0.here hx rfl (hb hby d6_0) rfl rfl k) ?_
  show Go p e below _ (s₁.setTop (mkF m 1 #[.val (.ref a1), .val (.ref a2)] [(.ref a1)]))
  refine Go.st (fun t k => XS.dup X0.here hx rfl (hb hby d6_1) rfl rfl k) ?_
  show Go p e below _ (s₁.setTop (mkF m 2 #[.val (.ref a1), .val (.ref a2)] [(.ref a1), (.ref a1)]))
  obtain ⟨T1, X1, e1, st1⟩ := getF X0 hx hZ hown (host := "") (Or.inl (w44 hw)) Via.refl e0 P1 (g := (mkF m 2 #[.val (.ref a1), .val (.ref a2)] [(.ref a1), (.ref a1)])) rfl rfl (hb hby d6_2)
  refine Go.st st1 ?_
  show Go p e below _ (T1.setTop (mkF m 5 #[.val (.ref a1), .val (.ref a2)] [(.int (1 : Int32)), (.ref a1)]))
  refine Go.st (fun t k => XS.iconst X1.here hx rfl (hb hby d6_5) k) ?_
  show Go p e below _ (T1.setTop (mkF m 6 #[.val (.ref a1), .val (.ref a2)] [(.int (1 : Int32)), (.int (1 : Int32)), (.ref a1)]))
  refine Go.st (fun t k => XS.iadd X1.here hx rfl (hb hby d6_6) rfl k) ?_
  show Go p e below _ (T1.setTop (mkF m 7 #[.val (.ref a1), .val (.ref a2)] [(.int (2 : Int32)), (.ref a1)]))
  obtain ⟨T2, h2, X2, e2, W2, st2⟩ := putF X1 hx hZ hown (host := "") (Or.inl (w44 hw)) Via.refl e1 P1 P2 (Or.inl (w45 hw)) (w28 hw) (ty := .int) (by decide) rfl rfl (g := (mkF m 7 #[.val (.ref a1), .val (.ref a2)] [(.int (2 : Int32)), (.ref a1)])) rfl rfl (hb hby d6_7)
  have F2 : Fld Z h2 a1 "com/example/cropmark/cropmark/Assessment$Sums" "lots" "I" (.int (2 : Int32)) := P1.same W2
  have N2 := Fr.snoc X2 N0 P3
  have O2 : Old Z n0 h2 := O0.wr W2 P3
  have K2 : Keep h0 h2 [a1] := (Keep.refl h0 [a1]).wr W2 (Or.inl (List.mem_of_getElem? (i := 0) rfl))
  refine Go.st st2 ?_
  show Go p e below _ (T2.setTop (mkF m 10 #[.val (.ref a1), .val (.ref a2)] []))
  refine Go.st (fun t k => XS.aloadN X2.here hx rfl (hb hby d6_10) rfl rfl k) ?_
  show Go p e below _ (T2.setTop (mkF m 11 #[.val (.ref a1), .val (.ref a2)] [(.ref a1)]))
  refine Go.st (fun t k => XS.aloadN X2.here hx rfl (hb hby d6_11) rfl rfl k) ?_
  show Go p e below _ (T2.setTop (mkF m 12 #[.val (.ref a1), .val (.ref a2)] [(.ref a1), (.ref a1)]))
  have c3 := (P4.other W2 (Or.inr (slot_ne (Or.inl (w36 hw)) (Or.inl (w45 hw)) (by decide) (t := (.object "java/math/BigDecimal")) (t' := .int) (by decide) (by decide))))
  obtain ⟨T4, X4, e4, st4⟩ := getF X2 hx hZ hown (host := "") (Or.inl (w35 hw)) Via.refl e2 c3 (g := (mkF m 12 #[.val (.ref a1), .val (.ref a2)] [(.ref a1), (.ref a1)])) rfl rfl (hb hby d6_12)
  refine Go.st st4 ?_
  show Go p e below _ (T4.setTop (mkF m 15 #[.val (.ref a1), .val (.ref a2)] [(.ref a3), (.ref a1)]))
  refine Go.st (fun t k => XS.aloadN X4.here hx rfl (hb hby d6_15) rfl rfl k) ?_
  show Go p e below _ (T4.setTop (mkF m 16 #[.val (.ref a1), .val (.ref a2)] [(.ref a2), (.ref a3), (.ref a1)]))
  obtain ⟨cq5, kq5, q5a, q5b, q5c⟩ := isOf hZ e4 (P5.wr W2)
  obtain ⟨_, _, ⟨T5, L5, k5, n5⟩, -, X5, ⟨Lc5, hQ5, l5, y5, z5⟩, st5⟩ := X4.virtualBack hx (y := (⟨"com/example/cropmark/cropmark/Weights", "assessedLb", "()Ljava/math/BigDecimal;"⟩ : MethodName)) (z := (⟨"com/example/cropmark/cropmark/Weights", "assessedLb", "()Ljava/math/BigDecimal;"⟩ : MethodName)) hown (mvT hZ (w46 hw)) (mvT hZ (w47 hw)) (notFace_of_selects (args := #[]) (mvT hZ (w49 hw))) (mvT hZ (w49 hw)) (mvT hZ (w48 hw)) (by decide) (backOf (W := 2) (rm7_1 l Z a0 hw [] a2 a4 h2 n0 O2 (P6.other W2 (Or.inl P7))) hZ (w50 hw) (w7 hw) (by decide) (by decide)) q5a q5c (g := (mkF m 16 #[.val (.ref a1), .val (.ref a2)] [(.ref a2), (.ref a3), (.ref a1)])) rfl (by rw [hml]; rfl) (Steps.refl _) (argsL := []) (rest := [(.ref a3), (.ref a1)]) (lenOf pd_4 rfl) rfl (by show 2 * 0 + _ ≤ _; exact Nat.le_of_eq rfl) (hb hby d6_16) (fun vm₁ hw₁ => ⟨rfl, e4, (by decide : 0 + 0 ≤ _), (by decide : 0 + 0 ≤ _)⟩)
  dsimp only [Pt.U, Pt.locs, Pt.cells, Pt.slots] at X5 l5 y5 z5 st5 hQ5
  subst l5 y5 z5
  obtain ⟨rfl, M5, eh5⟩ := hQ5
  have N5 := Fr.app N2 M5
  refine Go.tr st5 ?_
  show Go p e below _ (T5.setTop (mkF m 19 #[.val (.ref a1), .val (.ref a2)] [(.ref a4), (.ref a3), (.ref a1)]))
  obtain ⟨cq6, kq6, q6a, q6b, q6c⟩ := isOf hZ eh5 (P8.wr W2)
  obtain ⟨_, _, ⟨T6, L6, k6, n6⟩, -, X6, ⟨Lc6, hQ6, l6, y6, z6⟩, st6⟩ := X5.virtualBack hx (y := (⟨"java/math/BigDecimal", "add", "(Ljava/math/BigDecimal;)Ljava/math/BigDecimal;"⟩ : MethodName)) (z := (⟨"java/math/BigDecimal", "add", "(Ljava/math/BigDecimal;)Ljava/math/BigDecimal;"⟩ : MethodName)) hown (mvT hZ (w51 hw)) (mvT hZ (w52 hw)) (notFace_of_selects (args := #[]) (mvT hZ (w54 hw))) (mvT hZ (w54 hw)) (mvT hZ (w53 hw)) (by decide) (backOf (W := 1) (rm8_2 l Z a0 hw [] a3 a4 q5 q6 a7 k8 a9 a10 a11 a12 a13 a14 a15 a16 a17 a18 a19 h2 n0 O2 (P9.other W2 (Or.inl P52)) P10 (P11.other W2 (Or.inl P53)) P12 (P13.other W2 (Or.inl P52)) (P14.other W2 (Or.inl P53)) P15 P16 P17 P18 P19 P20 P21 P22 P23 P24 P25 P26 P27 P28 P29 P30 P31 P32 P33 P34 P35 P36 P37 P38 P39 P40 P41 P42 P43 P44 P45 P46 P47 P48 P49 P50 P51) hZ (w55 hw) (w2 hw) (by decide) (by decide)) q6a q6c (g := (mkF m 19 #[.val (.ref a1), .val (.ref a2)] [(.ref a4), (.ref a3), (.ref a1)])) rfl (by rw [hml]; rfl) (Steps.refl _) (argsL := [(.ref a4)]) (rest := [(.ref a1)]) (lenOf pd_9 rfl) rfl (by show 2 * 0 + _ ≤ _; exact Nat.le_of_eq rfl) (hb hby d6_19) (fun vm₁ hw₁ => ⟨rfl, eh5, (by decide : 0 + 1 ≤ _), (by decide : 0 + 5 ≤ _)⟩)
  dsimp only [Pt.U, Pt.locs, Pt.cells, Pt.slots] at X6 l6 y6 z6 st6 hQ6
  subst l6 y6 z6
  obtain ⟨bv_1_2_1_7_6, rfl, M6, K6c, r6_0, r6_1, r6_2⟩ := hQ6
  have N6 := Fr.app N5 M6
  have O6 : Old Z n0 T6.heap := O2.keep K6c all0
  have K6 : Keep h0 T6.heap [a1] := K2.trans K6c all0
  refine Go.tr st6 ?_
  show Go p e below _ (T6.setTop (mkF m 22 #[.val (.ref a1), .val (.ref a2)] [(.ref bv_1_2_1_7_6), (.ref a1)]))
  obtain ⟨T7, h7, X7, e7, W7, st7⟩ := putF X6 hx hZ hown (host := "") (Or.inl (w35 hw)) Via.refl rfl (c3.keep K6c nin0) ((P2.wr W2).keep K6c) (Or.inl (w36 hw)) (w28 hw) (ty := (.object "java/math/BigDecimal")) (by decide) rfl rfl (g := (mkF m 22 #[.val (.ref a1), .val (.ref a2)] [(.ref bv_1_2_1_7_6), (.ref a1)])) rfl rfl (hb hby d6_22)
  have F7 : Fld Z h7 a1 "com/example/cropmark/cropmark/Assessment$Sums" "assessedLb" "Ljava/math/BigDecimal;" (.ref bv_1_2_1_7_6) := (c3.keep K6c nin0).same W7
  have N7 := Fr.snoc X7 N6 P3
  have O7 : Old Z n0 h7 := O6.wr W7 P3
  have K7 : Keep h0 h7 [a1] := K6.wr W7 (Or.inl (List.mem_of_getElem? (i := 0) rfl))
  refine Go.st st7 ?_
  show Go p e below _ (T7.setTop (mkF m 25 #[.val (.ref a1), .val (.ref a2)] []))
  refine Go.st (fun t k => XS.aloadN X7.here hx rfl (hb hby d6_25) rfl rfl k) ?_
  show Go p e below _ (T7.setTop (mkF m 26 #[.val (.ref a1), .val (.ref a2)] [(.ref a2)]))
  have c8 := (((P54.other W2 (Or.inl P7)).keep K6c nin0).other W7 (Or.inl P7))
  obtain ⟨cq9, kq9, q9a, q9b, q9c⟩ := isOf hZ e7 (((P5.wr W2).keep K6c).wr W7)
  obtain ⟨_, _, ⟨T9, L9, k9, n9⟩, -, X9, ⟨Lc9, hQ9, l9, y9, z9⟩, st9⟩ := X7.virtualBack hx (y := (⟨"com/example/cropmark/cropmark/Weights", "inedibleLb", "()Ljava/math/BigDecimal;"⟩ : MethodName)) (z := (⟨"com/example/cropmark/cropmark/Weights", "inedibleLb", "()Ljava/math/BigDecimal;"⟩ : MethodName)) hown (mvT hZ (w74 hw)) (mvT hZ (w75 hw)) (notFace_of_selects (args := #[]) (mvT hZ (w77 hw))) (mvT hZ (w77 hw)) (mvT hZ (w76 hw)) (by decide) (backOf (W := 0) (rm13_2 l Z a0 hw [] a2 a20 h7 n0 O7 c8) hZ (w78 hw) (w7 hw) (by decide) (by decide)) q9a q9c (g := (mkF m 26 #[.val (.ref a1), .val (.ref a2)] [(.ref a2)])) rfl (by rw [hml]; rfl) (Steps.refl _) (argsL := []) (rest := []) (lenOf pd_4 rfl) rfl (by show 2 * 0 + _ ≤ _; exact Nat.le_of_eq rfl) (hb hby d6_26) (fun vm₁ hw₁ => ⟨rfl, e7, (by decide : 1 + 0 ≤ _), (by decide : 5 + 0 ≤ _)⟩)
  dsimp only [Pt.U, Pt.locs, Pt.cells, Pt.slots] at X9 l9 y9 z9 st9 hQ9
  subst l9 y9 z9
  obtain ⟨rfl, M9, eh9⟩ := hQ9
  have N9 := Fr.app N7 M9
  refine Go.tr st9 ?_
  show Go p e below _ (T9.setTop (mkF m 29 #[.val (.ref a1), .val (.ref a2)] [(.ref a20)]))
  refine Go.st (fun t k => XS.ifnullNo X9.here hx rfl (hb hby d6_29) rfl k) ?_
  show Go p e below _ (T9.setTop (mkF m 32 #[.val (.ref a1), .val (.ref a2)] []))
  refine Go.st (fun t k => XS.aloadN X9.here hx rfl (hb hby d6_32) rfl rfl k) ?_
  show Go p e below _ (T9.setTop (mkF m 33 #[.val (.ref a1), .val (.ref a2)] [(.ref a1)]))
  refine Go.st (fun t k => XS.aloadN X9.here hx rfl (hb hby d6_33) rfl rfl k) ?_
  show Go p e below _ (T9.setTop (mkF m 34 #[.val (.ref a1), .val (.ref a2)] [(.ref a1), (.ref a1)]))
  have c10 := (((P55.other W2 (Or.inr (slot_ne (Or.inl (w38 hw)) (Or.inl (w45 hw)) (by decide) (t := (.object "java/math/BigDecimal")) (t' := .int) (by decide) (by decide)))).keep K6c nin0).other W7 (Or.inr (slot_ne (Or.inl (w38 hw)) (Or.inl (w36 hw)) (by decide) (t := (.object "java/math/BigDecimal")) (t' := (.object "java/math/BigDecimal")) (by decide) (by decide))))
  obtain ⟨T11, X11, e11, st11⟩ := getF X9 hx hZ hown (host := "") (Or.inl (w37 hw)) Via.refl eh9 c10 (g := (mkF m 34 #[.val (.ref a1), .val (.ref a2)] [(.ref a1), (.ref a1)])) rfl rfl (hb hby d6_34)
  refine Go.st st11 ?_
  show Go p e below _ (T11.setTop (mkF m 37 #[.val (.ref a1), .val (.ref a2)] [(.ref a9), (.ref a1)]))
  refine Go.st (fun t k => XS.aloadN X11.here hx rfl (hb hby d6_37) rfl rfl k) ?_
  show Go p e below _ (T11.setTop (mkF m 38 #[.val (.ref a1), .val (.ref a2)] [(.ref a2), (.ref a9), (.ref a1)]))
  obtain ⟨cq12, kq12, q12a, q12b, q12c⟩ := isOf hZ e11 (((P5.wr W2).keep K6c).wr W7)
  obtain ⟨_, _, ⟨T12, L12, k12, n12⟩, -, X12, ⟨Lc12, hQ12, l12, y12, z12⟩, st12⟩ := X11.virtualBack hx (y := (⟨"com/example/cropmark/cropmark/Weights", "inedibleLb", "()Ljava/math/BigDecimal;"⟩ : MethodName)) (z := (⟨"com/example/cropmark/cropmark/Weights", "inedibleLb", "()Ljava/math/BigDecimal;"⟩ : MethodName)) hown (mvT hZ (w74 hw)) (mvT hZ (w75 hw)) (notFace_of_selects (args := #[]) (mvT hZ (w77 hw))) (mvT hZ (w77 hw)) (mvT hZ (w76 hw)) (by decide) (backOf (W := 2) (rm13_2 l Z a0 hw [] a2 a20 h7 n0 O7 c8) hZ (w78 hw) (w7 hw) (by decide) (by decide)) q12a q12c (g := (mkF m 38 #[.val (.ref a1), .val (.ref a2)] [(.ref a2), (.ref a9), (.ref a1)])) rfl (by rw [hml]; rfl) (Steps.refl _) (argsL := []) (rest := [(.ref a9), (.ref a1)]) (lenOf pd_4 rfl) rfl (by show 2 * 0 + _ ≤ _; exact Nat.le_of_eq rfl) (hb hby d6_38) (fun vm₁ hw₁ => ⟨rfl, e11, (by decide : 1 + 0 ≤ _), (by decide : 5 + 0 ≤ _)⟩)
  dsimp only [Pt.U, Pt.locs, Pt.cells, Pt.slots] at X12 l12 y12 z12 st12 hQ12
  subst l12 y12 z12
  obtain ⟨rfl, M12, eh12⟩ := hQ12
  have N12 := Fr.app N9 M12
  refine Go.tr st12 ?_
  show Go p e below _ (T12.setTop (mkF m 41 #[.val (.ref a1), .val (.ref a2)] [(.ref a20), (.ref a9), (.ref a1)]))
  have c13 := (((P56.other W2 (Or.inl P61)).keep K6c nin0).other W7 (Or.inl P61))
  have c14 := (((P58.other W2 (Or.inl P61)).keep K6c nin0).other W7 (Or.inl P61))
  obtain ⟨cq15, kq15, q15a, q15b, q15c⟩ := isOf hZ eh12 (P19.ext O7.2)
  obtain ⟨_, _, ⟨T15, L15, k15, n15⟩, -, X15, ⟨Lc15, hQ15, l15, y15, z15⟩, st15⟩ := X12.virtualBack hx (y := (⟨"java/math/BigDecimal", "add", "(Ljava/math/BigDecimal;)Ljava/math/BigDecimal;"⟩ : MethodName)) (z := (⟨"java/math/BigDecimal", "add", "(Ljava/math/BigDecimal;)Ljava/math/BigDecimal;"⟩ : MethodName)) hown (mvT hZ (w51 hw)) (mvT hZ (w52 hw)) (notFace_of_selects (args := #[]) (mvT hZ (w54 hw))) (mvT hZ (w54 hw)) (mvT hZ (w53 hw)) (by decide) (backOf (W := 1) (rm8_1 l Z a0 hw [] a9 a20 q21 a7 k8 a10 a11 a12 a13 a14 a15 a16 a17 a18 a19 h7 n0 O7 P21 c13 P57 P20 c14 P59 P60 P17 P18 P19 P22 P23 P24 P25 P26 P27 P28 P29 P30 P31 P32 P33 P34 P35 P36 P37 P38 P39 P40 P41 P42 P43 P44 P45 P46 P47 P48 P49 P50 P51) hZ (w55 hw) (w2 hw) (by decide) (by decide)) q15a q15c (g := (mkF m 41 #[.val (.ref a1), .val (.ref a2)] [(.ref a20), (.ref a9), (.ref a1)])) rfl (by rw [hml]; rfl) (Steps.refl _) (argsL := [(.ref a20)]) (rest := [(.ref a1)]) (lenOf pd_9 rfl) rfl (by show 2 * 0 + _ ≤ _; exact Nat.le_of_eq rfl) (hb hby d6_41) (fun vm₁ hw₁ => ⟨rfl, eh12, (by decide : 1 + 1 ≤ _), (by decide : 5 + 5 ≤ _)⟩)
  dsimp only [Pt.U, Pt.locs, Pt.cells, Pt.slots] at X15 l15 y15 z15 st15 hQ15
  subst l15 y15 z15
  obtain ⟨bv_1_2_1_7_15, rfl, M15, K15c, r15_0, r15_1, r15_2⟩ := hQ15
  have N15 := Fr.app N12 M15
  have O15 : Old Z n0 T15.heap := O7.keep K15c all0
  have K15 : Keep h0 T15.heap [a1] := K7.trans K15c all0
  refine Go.tr st15 ?_
  show Go p e below _ (T15.setTop (mkF m 44 #[.val (.ref a1), .val (.ref a2)] [(.ref bv_1_2_1_7_15), (.ref a1)]))
  have c16 := ((((P2.wr W2).keep K6c).wr W7).keep K15c)
  obtain ⟨T17, h17, X17, e17, W17, st17⟩ := putF X15 hx hZ hown (host := "") (Or.inl (w37 hw)) Via.refl rfl (c10.keep K15c nin0) c16 (Or.inl (w38 hw)) (w28 hw) (ty := (.object "java/math/BigDecimal")) (by decide) rfl rfl (g := (mkF m 44 #[.val (.ref a1), .val (.ref a2)] [(.ref bv_1_2_1_7_15), (.ref a1)])) rfl rfl (hb hby d6_44)
  have F17 : Fld Z h17 a1 "com/example/cropmark/cropmark/Assessment$Sums" "inedibleLb" "Ljava/math/BigDecimal;" (.ref bv_1_2_1_7_15) := (c10.keep K15c nin0).same W17
  have N17 := Fr.snoc X17 N15 P3
  have O17 : Old Z n0 h17 := O15.wr W17 P3
  have K17 : Keep h0 h17 [a1] := K15.wr W17 (Or.inl (List.mem_of_getElem? (i := 0) rfl))
  refine Go.st st17 ?_
  show Go p e below _ (T17.setTop (mkF m 47 #[.val (.ref a1), .val (.ref a2)] []))
  obtain ⟨fs, hr, hrun, hended, hWd, hsame⟩ := X17.leave (v := none) (fun _ => rfl)
  have c18 := ((((F2.keep K6c nin0).other W7 (Or.inr (slot_ne (Or.inl (w45 hw)) (Or.inl (w36 hw)) (by decide) (t := .int) (t' := (.object "java/math/BigDecimal")) (by decide) (by decide)))).keep K15c nin0).other W17 (Or.inr (slot_ne (Or.inl (w45 hw)) (Or.inl (w38 hw)) (by decide) (t := .int) (t' := (.object "java/math/BigDecimal")) (by decide) (by decide))))
  have c19 := ((F7.keep K15c nin0).other W17 (Or.inr (slot_ne (Or.inl (w36 hw)) (Or.inl (w38 hw)) (by decide) (t := (.object "java/math/BigDecimal")) (t' := (.object "java/math/BigDecimal")) (by decide) (by decide))))
  have c20 := (((r6_1.other W7 (Or.inl (ne_exa (((r6_0.wr W7).keep K15c).wr W17) (c16.wr W17) (by decide)))).keep K15c nin0).other W17 (Or.inl (ne_exa (((r6_0.wr W7).keep K15c).wr W17) (c16.wr W17) (by decide))))
  have c21 := (((r6_2.other W7 (Or.inl (ne_exa (((r6_0.wr W7).keep K15c).wr W17) (c16.wr W17) (by decide)))).keep K15c nin0).other W17 (Or.inl (ne_exa (((r6_0.wr W7).keep K15c).wr W17) (c16.wr W17) (by decide))))
  have c22 := (r15_1.other W17 (Or.inl (ne_exa (r15_0.wr W17) (c16.wr W17) (by decide))))
  have c23 := (r15_2.other W17 (Or.inl (ne_exa (r15_0.wr W17) (c16.wr W17) (by decide))))
  refine ⟨_, _, ?_, hrun, hended, _, _, rfl, ?_, ⟨⟨_, rfl⟩, hWd, hsame.mono (by decide) (by decide)⟩⟩
  · exact X17.returnOut hx Bd.returns (hb hby d6_47) hr
  · show Q_rm6_3 Z a1 a2 a3 a4 q5 q6 a7 k8 a9 a10 a11 a12 a13 a14 a15 a16 a17 a18 a19 a20 q21 h0 n0 _ T17.heap _
    rw [e17]
    exact ⟨bv_1_2_1_7_6, bv_1_2_1_7_15, rfl, N17, K17, c18, c19, F17, (((r6_0.wr W7).keep K15c).wr W17), c20, c21, (r15_0.wr W17), c22, c23⟩
def Q_rm6_4 (Z : State) (a1 : Addr) (a2 : Addr) (a3 : Addr) (a4 : Addr) (q5 : Int64) (a6 : Addr) (k7 : ClassId) (a8 : Addr) (a9 : Addr) (a10 : Addr) (a11 : Addr) (a12 : Addr) (a13 : Addr) (a14 : Addr) (a15 : Addr) (a16 : Addr) (a17 : Addr) (a18 : Addr) (q19 : Int64) (h0 : Heap) (n0 : Nat) (v : Option Value) (h : Heap) (L : List Loc) : Prop := ∃ (bv_1_2_1_7_6 : Addr) (bv_1_2_1_7_15 : Addr), v = none ∧ Fr n0 L ∧ Keep h0 h [a1] ∧ Fld Z h a1 "com/example/cropmark/cropmark/Assessment$Sums" "lots" "I" (.int (1 : Int32)) ∧ Fld Z h a1 "com/example/cropmark/cropmark/Assessment$Sums" "assessedLb" "Ljava/math/BigDecimal;" (.ref bv_1_2_1_7_6) ∧ Fld Z h a1 "com/example/cropmark/cropmark/Assessment$Sums" "inedibleLb" "Ljava/math/BigDecimal;" (.ref bv_1_2_1_7_15) ∧ Exa Z h bv_1_2_1_7_6 "java/math/BigDecimal" ∧ Fld Z h bv_1_2_1_7_6 "java/math/BigDecimal" "scale" "I" (.int (0 : Int32)) ∧ Fld Z h bv_1_2_1_7_6 "java/math/BigDecimal" "intCompact" "J" (.long ((0 : Int64) + q5)) ∧ Exa Z h bv_1_2_1_7_15 "java/math/BigDecimal" ∧ Fld Z h bv_1_2_1_7_15 "java/math/BigDecimal" "scale" "I" (.int (0 : Int32)) ∧ Fld Z h bv_1_2_1_7_15 "java/math/BigDecimal" "intCompact" "J" (.long ((0 : Int64) + q19))
set_option maxRecDepth 65536 in
set_option maxHeartbeats 40000000 in
theorem rm6_4 (l : Launch) (Z : State) (a0 : Array Value) (hw : ∀ d ∈ tables_1, d.before a0 Z = true) (ws : List Jvm.Cond) (a1 : Addr) (a2 : Addr) (a3 : Addr) (a4 : Addr) (q5 : Int64) (a6 : Addr) (k7 : ClassId) (a8 : Addr) (a9 : Addr) (a10 : Addr) (a11 : Addr) (a12 : Addr) (a13 : Addr) (a14 : Addr) (a15 : Addr) (a16 : Addr) (a17 : Addr) (a18 : Addr) (q19 : Int64) (h0 : Heap) (n0 : Nat) (O0 : Old Z n0 h0) (P1 : Fld Z h0 a1 "com/example/cropmark/cropmark/Assessment$Sums" "lots" "I" (.int (0 : Int32))) (P2 : Exa Z h0 a1 "com/example/cropmark/cropmark/Assessment$Sums") (P3 : n0 ≤ a1) (P4 : Fld Z h0 a1 "com/example/cropmark/cropmark/Assessment$Sums" "assessedLb" "Ljava/math/BigDecimal;" (.ref a3)) (P5 : Exa Z h0 a2 "com/example/cropmark/cropmark/Weights") (P6 : Fld Z h0 a2 "com/example/cropmark/cropmark/Weights" "assessedLb" "Ljava/math/BigDecimal;" (.ref a4)) (P7 : a2 ≠ a1) (P8 : Exa Z Z.heap a3 "java/math/BigDecimal") (P9 : Fld Z Z.heap a3 "java/math/BigDecimal" "intCompact" "J" (.long (0 : Int64))) (P10 : Fld Z h0 a4 "java/math/BigDecimal" "intCompact" "J" (.long q5)) (P11 : ¬ (q5 = (-9223372036854775808 : Int64))) (P12 : Fld Z Z.heap a3 "java/math/BigDecimal" "scale" "I" (.int (0 : Int32))) (P13 : Fld Z h0 a4 "java/math/BigDecimal" "scale" "I" (.int (0 : Int32))) (P14 : ¬ (((((0 : Int64) + q5) ^^^ (0 : Int64)) &&& (((0 : Int64) + q5) ^^^ q5)) < (0 : Int64))) (P15 : ¬ (((0 : Int64) + q5) = (-9223372036854775808 : Int64))) (P16 : Sta Z Z.heap "java/math/BigDecimal" "ZERO_THROUGH_TEN" "[Ljava/math/BigDecimal;" (.ref a6)) (P17 : Arv Z Z.heap a6 k7 (.object "java/math/BigDecimal") (11 : Int32) [(.ref a3), (.ref a8), (.ref a9), (.ref a10), (.ref a11), (.ref a12), (.ref a13), (.ref a14), (.ref a15), (.ref a16), (.ref a17)] .null) (P18 : Exa Z Z.heap a8 "java/math/BigDecimal") (P19 : Fld Z Z.heap a8 "java/math/BigDecimal" "scale" "I" (.int (0 : Int32))) (P20 : Fld Z Z.heap a8 "java/math/BigDecimal" "intCompact" "J" (.long (1 : Int64))) (P21 : Exa Z Z.heap a9 "java/math/BigDecimal") (P22 : Fld Z Z.heap a9 "java/math/BigDecimal" "scale" "I" (.int (0 : Int32))) (P23 : Fld Z Z.heap a9 "java/math/BigDecimal" "intCompact" "J" (.long (2 : Int64))) (P24 : Exa Z Z.heap a10 "java/math/BigDecimal") (P25 : Fld Z Z.heap a10 "java/math/BigDecimal" "scale" "I" (.int (0 : Int32))) (P26 : Fld Z Z.heap a10 "java/math/BigDecimal" "intCompact" "J" (.long (3 : Int64))) (P27 : Exa Z Z.heap a11 "java/math/BigDecimal") (P28 : Fld Z Z.heap a11 "java/math/BigDecimal" "scale" "I" (.int (0 : Int32))) (P29 : Fld Z Z.heap a11 "java/math/BigDecimal" "intCompact" "J" (.long (4 : Int64))) (P30 : Exa Z Z.heap a12 "java/math/BigDecimal") (P31 : Fld Z Z.heap a12 "java/math/BigDecimal" "scale" "I" (.int (0 : Int32))) (P32 : Fld Z Z.heap a12 "java/math/BigDecimal" "intCompact" "J" (.long (5 : Int64))) (P33 : Exa Z Z.heap a13 "java/math/BigDecimal") (P34 : Fld Z Z.heap a13 "java/math/BigDecimal" "scale" "I" (.int (0 : Int32))) (P35 : Fld Z Z.heap a13 "java/math/BigDecimal" "intCompact" "J" (.long (6 : Int64))) (P36 : Exa Z Z.heap a14 "java/math/BigDecimal") (P37 : Fld Z Z.heap a14 "java/math/BigDecimal" "scale" "I" (.int (0 : Int32))) (P38 : Fld Z Z.heap a14 "java/math/BigDecimal" "intCompact" "J" (.long (7 : Int64))) (P39 : Exa Z Z.heap a15 "java/math/BigDecimal") (P40 : Fld Z Z.heap a15 "java/math/BigDecimal" "scale" "I" (.int (0 : Int32))) (P41 : Fld Z Z.heap a15 "java/math/BigDecimal" "intCompact" "J" (.long (8 : Int64))) (P42 : Exa Z Z.heap a16 "java/math/BigDecimal") (P43 : Fld Z Z.heap a16 "java/math/BigDecimal" "scale" "I" (.int (0 : Int32))) (P44 : Fld Z Z.heap a16 "java/math/BigDecimal" "intCompact" "J" (.long (9 : Int64))) (P45 : Exa Z Z.heap a17 "java/math/BigDecimal") (P46 : Fld Z Z.heap a17 "java/math/BigDecimal" "scale" "I" (.int (0 : Int32))) (P47 : Fld Z Z.heap a17 "java/math/BigDecimal" "intCompact" "J" (.long (10 : Int64))) (P48 : a4 ≠ a1) (P49 : Fld Z h0 a2 "com/example/cropmark/cropmark/Weights" "inedibleLb" "Ljava/math/BigDecimal;" (.ref a18)) (P50 : Fld Z h0 a1 "com/example/cropmark/cropmark/Assessment$Sums" "inedibleLb" "Ljava/math/BigDecimal;" (.ref a3)) (P51 : Fld Z h0 a18 "java/math/BigDecimal" "intCompact" "J" (.long q19)) (P52 : ¬ (q19 = (-9223372036854775808 : Int64))) (P53 : Fld Z h0 a18 "java/math/BigDecimal" "scale" "I" (.int (0 : Int32))) (P54 : ¬ (((((0 : Int64) + q19) ^^^ (0 : Int64)) &&& (((0 : Int64) + q19) ^^^ q19)) < (0 : Int64))) (P55 : ¬ (((0 : Int64) + q19) = (-9223372036854775808 : Int64))) (P56 : a18 ≠ a1) :
    MetFree l (⟨"com/example/cropmark/cropmark/Assessment$Sums", "add", "(Lcom/example/cropmark/cropmark/Weights;)V"⟩ : MethodName) (head1 (Jvm.Cond.code (⟨"com/example/cropmark/cropmark/Assessment$Sums", "add", "(Lcom/example/cropmark/cropmark/Weights;)V"⟩ : MethodName) prog_12_method_3_code 2 none :: ws) ({ frames := 8, cells := 2, slots := 10, locals := 124 } : Room)) (fun a U => a = #[(.ref a1), (.ref a2)] ∧ Z.Warmed39 U.vm ∧ U.heap = h0) (fun _ _ _ _ _ => True) (fun _ U o U' => ∃ v L, o = .returned v ∧ Q_rm6_4 Z a1 a2 a3 a4 q5 a6 k7 a8 a9 a10 a11 a12 a13 a14 a15 a16 a17 a18 q19 h0 n0 v U'.heap L ∧ FrameEnd U o U' L ({ frames := 8, cells := 2, slots := 10, locals := 124 } : Room).cells ({ frames := 8, cells := 2, slots := 10, locals := 124 } : Room).slots) := by
  refine MetFree.of_bodySF (plainFor_of_name pn_4) hisR ?_
  intro p e s m args below meth c s₁ Bd hml0 hP hK
  obtain ⟨rfl, hZ, hh⟩ := hP
  have hx := Bd.exec
  have hby := Bd.bytes
  have hml : c.maxLocals = 2 := hml0
  have hown : s.vm.findClass "com/example/cropmark/cropmark/Assessment$Sums" = some m.cls := findClass_of_methodNamed Bd.named
  have hnm := (name_of_methodNamed Bd.named Bd.method).1
  have X0 : Stand p l e ({ frames := 8, cells := 2, slots := 10, locals := 124 } : Room) s m #[(.ref a1), (.ref a2)] below meth c s₁ [] 0 0 := Stand.of_body Bd
  have e0 : s₁.heap = h0 := by rw [← hh, Bd.state]; rfl
  have N0 := Fr.nil n0
  refine Go.start (P := (fun o U' => ∃ v L, o = .returned v ∧ Q_rm6_4 Z a1 a2 a3 a4 q5 a6 k7 a8 a9 a10 a11 a12 a13 a14 a15 a16 a17 a18 q19 h0 n0 v U'.heap L ∧ FrameEnd s o U' L ({ frames := 8, cells := 2, slots := 10, locals := 124 } : Room).cells ({ frames := 8, cells := 2, slots := 10, locals := 124 } : Room).slots)) (castTop (g' := (mkF m 0 #[.val (.ref a1), .val (.ref a2)] [])) (by first | rfl | simp [entryFrame, mkF, argsToLocals, Value.category]) (T := s₁)) ?_
  refine Go.st (fun t k => XS.aloadN X0.here hx rfl (hb hby d6_0) rfl rfl k) ?_
  show Go p e below _ (s₁.setTop (mkF m 1 #[.val (.ref a1), .val (.ref a2)] [(.ref a1)]))
  refine Go.st (fun t k => XS.dup X0.here hx rfl (hb hby d6_1) rfl rfl k) ?_
  show Go p e below _ (s₁.setTop (mkF m 2 #[.val (.ref a1), .val (.ref a2)] [(.ref a1), (.ref a1)]))
  obtain ⟨T1, X1, e1, st1⟩ := getF X0 hx hZ hown (host := "") (Or.inl (w44 hw)) Via.refl e0 P1 (g := (mkF m 2 #[.val (.ref a1), .val (.ref a2)] [(.ref a1), (.ref a1)])) rfl rfl (hb hby d6_2)
  refine Go.st st1 ?_
  show Go p e below _ (T1.setTop (mkF m 5 #[.val (.ref a1), .val (.ref a2)] [(.int (0 : Int32)), (.ref a1)]))
  refine Go.st (fun t k => XS.iconst X1.here hx rfl (hb hby d6_5) k) ?_
  show Go p e below _ (T1.setTop (mkF m 6 #[.val (.ref a1), .val (.ref a2)] [(.int (1 : Int32)), (.int (0 : Int32)), (.ref a1)]))
  refine Go.st (fun t k => XS.iadd X1.here hx rfl (hb hby d6_6) rfl k) ?_
  show Go p e below _ (T1.setTop (mkF m 7 #[.val (.ref a1), .val (.ref a2)] [(.int (1 : Int32)), (.ref a1)]))
  obtain ⟨T2, h2, X2, e2, W2, st2⟩ := putF X1 hx hZ hown (host := "") (Or.inl (w44 hw)) Via.refl e1 P1 P2 (Or.inl (w45 hw)) (w28 hw) (ty := .int) (by decide) rfl rfl (g := (mkF m 7 #[.val (.ref a1), .val (.ref a2)] [(.int (1 : Int32)), (.ref a1)])) rfl rfl (hb hby d6_7)
  have F2 : Fld Z h2 a1 "com/example/cropmark/cropmark/Assessment$Sums" "lots" "I" (.int (1 : Int32)) := P1.same W2
  have N2 := Fr.snoc X2 N0 P3
  have O2 : Old Z n0 h2 := O0.wr W2 P3
  have K2 : Keep h0 h2 [a1] := (Keep.refl h0 [a1]).wr W2 (Or.inl (List.mem_of_getElem? (i := 0) rfl))
  refine Go.st st2 ?_
  show Go p e below _ (T2.setTop (mkF m 10 #[.val (.ref a1), .val (.ref a2)] []))
  refine Go.st (fun t k => XS.aloadN X2.here hx rfl (hb hby d6_10) rfl rfl k) ?_
  show Go p e below _ (T2.setTop (mkF m 11 #[.val (.ref a1), .val (.ref a2)] [(.ref a1)]))
  refine Go.st (fun t k => XS.aloadN X2.here hx rfl (hb hby d6_11) rfl rfl k) ?_
  show Go p e below _ (T2.setTop (mkF m 12 #[.val (.ref a1), .val (.ref a2)] [(.ref a1), (.ref a1)]))
  have c3 := (P4.other W2 (Or.inr (slot_ne (Or.inl (w36 hw)) (Or.inl (w45 hw)) (by decide) (t := (.object "java/math/BigDecimal")) (t' := .int) (by decide) (by decide))))
  obtain ⟨T4, X4, e4, st4⟩ := getF X2 hx hZ hown (host := "") (Or.inl (w35 hw)) Via.refl e2 c3 (g := (mkF m 12 #[.val (.ref a1), .val (.ref a2)] [(.ref a1), (.ref a1)])) rfl rfl (hb hby d6_12)
  refine Go.st st4 ?_
  show Go p e below _ (T4.setTop (mkF m 15 #[.val (.ref a1), .val (.ref a2)] [(.ref a3), (.ref a1)]))
  refine Go.st (fun t k => XS.aloadN X4.here hx rfl (hb hby d6_15) rfl rfl k) ?_
  show Go p e below _ (T4.setTop (mkF m 16 #[.val (.ref a1), .val (.ref a2)] [(.ref a2), (.ref a3), (.ref a1)]))
  obtain ⟨cq5, kq5, q5a, q5b, q5c⟩ := isOf hZ e4 (P5.wr W2)
  obtain ⟨_, _, ⟨T5, L5, k5, n5⟩, -, X5, ⟨Lc5, hQ5, l5, y5, z5⟩, st5⟩ := X4.virtualBack hx (y := (⟨"com/example/cropmark/cropmark/Weights", "assessedLb", "()Ljava/math/BigDecimal;"⟩ : MethodName)) (z := (⟨"com/example/cropmark/cropmark/Weights", "assessedLb", "()Ljava/math/BigDecimal;"⟩ : MethodName)) hown (mvT hZ (w46 hw)) (mvT hZ (w47 hw)) (notFace_of_selects (args := #[]) (mvT hZ (w49 hw))) (mvT hZ (w49 hw)) (mvT hZ (w48 hw)) (by decide) (backOf (W := 2) (rm7_1 l Z a0 hw [] a2 a4 h2 n0 O2 (P6.other W2 (Or.inl P7))) hZ (w50 hw) (w7 hw) (by decide) (by decide)) q5a q5c (g := (mkF m 16 #[.val (.ref a1), .val (.ref a2)] [(.ref a2), (.ref a3), (.ref a1)])) rfl (by rw [hml]; rfl) (Steps.refl _) (argsL := []) (rest := [(.ref a3), (.ref a1)]) (lenOf pd_4 rfl) rfl (by show 2 * 0 + _ ≤ _; exact Nat.le_of_eq rfl) (hb hby d6_16) (fun vm₁ hw₁ => ⟨rfl, e4, (by decide : 0 + 0 ≤ _), (by decide : 0 + 0 ≤ _)⟩)
  dsimp only [Pt.U, Pt.locs, Pt.cells, Pt.slots] at X5 l5 y5 z5 st5 hQ5
  subst l5 y5 z5
  obtain ⟨rfl, M5, eh5⟩ := hQ5
  have N5 := Fr.app N2 M5
  refine Go.tr st5 ?_
  show Go p e below _ (T5.setTop (mkF m 19 #[.val (.ref a1), .val (.ref a2)] [(.ref a4), (.ref a3), (.ref a1)]))
  obtain ⟨cq6, kq6, q6a, q6b, q6c⟩ := isOf hZ eh5 (P8.ext O2.2)
  obtain ⟨_, _, ⟨T6, L6, k6, n6⟩, -, X6, ⟨Lc6, hQ6, l6, y6, z6⟩, st6⟩ := X5.virtualBack hx (y := (⟨"java/math/BigDecimal", "add", "(Ljava/math/BigDecimal;)Ljava/math/BigDecimal;"⟩ : MethodName)) (z := (⟨"java/math/BigDecimal", "add", "(Ljava/math/BigDecimal;)Ljava/math/BigDecimal;"⟩ : MethodName)) hown (mvT hZ (w51 hw)) (mvT hZ (w52 hw)) (notFace_of_selects (args := #[]) (mvT hZ (w54 hw))) (mvT hZ (w54 hw)) (mvT hZ (w53 hw)) (by decide) (backOf (W := 1) (rm8_1 l Z a0 hw [] a3 a4 q5 a6 k7 a8 a9 a10 a11 a12 a13 a14 a15 a16 a17 h2 n0 O2 P9 (P10.other W2 (Or.inl P48)) P11 P12 (P13.other W2 (Or.inl P48)) P14 P15 P16 P17 P8 P18 P19 P20 P21 P22 P23 P24 P25 P26 P27 P28 P29 P30 P31 P32 P33 P34 P35 P36 P37 P38 P39 P40 P41 P42 P43 P44 P45 P46 P47) hZ (w55 hw) (w2 hw) (by decide) (by decide)) q6a q6c (g := (mkF m 19 #[.val (.ref a1), .val (.ref a2)] [(.ref a4), (.ref a3), (.ref a1)])) rfl (by rw [hml]; rfl) (Steps.refl _) (argsL := [(.ref a4)]) (rest := [(.ref a1)]) (lenOf pd_9 rfl) rfl (by show 2 * 0 + _ ≤ _; exact Nat.le_of_eq rfl) (hb hby d6_19) (fun vm₁ hw₁ => ⟨rfl, eh5, (by decide : 0 + 1 ≤ _), (by decide : 0 + 5 ≤ _)⟩)
  dsimp only [Pt.U, Pt.locs, Pt.cells, Pt.slots] at X6 l6 y6 z6 st6 hQ6
  subst l6 y6 z6
  obtain ⟨bv_1_2_1_7_6, rfl, M6, K6c, r6_0, r6_1, r6_2⟩ := hQ6
  have N6 := Fr.app N5 M6
  have O6 : Old Z n0 T6.heap := O2.keep K6c all0
  have K6 : Keep h0 T6.heap [a1] := K2.trans K6c all0
  refine Go.tr st6 ?_
  show Go p e below _ (T6.setTop (mkF m 22 #[.val (.ref a1), .val (.ref a2)] [(.ref bv_1_2_1_7_6), (.ref a1)]))
  obtain ⟨T7, h7, X7, e7, W7, st7⟩ := putF X6 hx hZ hown (host := "") (Or.inl (w35 hw)) Via.refl rfl (c3.keep K6c nin0) ((P2.wr W2).keep K6c) (Or.inl (w36 hw)) (w28 hw) (ty := (.object "java/math/BigDecimal")) (by decide) rfl rfl (g := (mkF m 22 #[.val (.ref a1), .val (.ref a2)] [(.ref bv_1_2_1_7_6), (.ref a1)])) rfl rfl (hb hby d6_22)
  have F7 : Fld Z h7 a1 "com/example/cropmark/cropmark/Assessment$Sums" "assessedLb" "Ljava/math/BigDecimal;" (.ref bv_1_2_1_7_6) := (c3.keep K6c nin0).same W7
  have N7 := Fr.snoc X7 N6 P3
  have O7 : Old Z n0 h7 := O6.wr W7 P3
  have K7 : Keep h0 h7 [a1] := K6.wr W7 (Or.inl (List.mem_of_getElem? (i := 0) rfl))
  refine Go.st st7 ?_
  show Go p e below _ (T7.setTop (mkF m 25 #[.val (.ref a1), .val (.ref a2)] []))
  refine Go.st (fun t k => XS.aloadN X7.here hx rfl (hb hby d6_25) rfl rfl k) ?_
  show Go p e below _ (T7.setTop (mkF m 26 #[.val (.ref a1), .val (.ref a2)] [(.ref a2)]))
  have c8 := (((P49.other W2 (Or.inl P7)).keep K6c nin0).other W7 (Or.inl P7))
  obtain ⟨cq9, kq9, q9a, q9b, q9c⟩ := isOf hZ e7 (((P5.wr W2).keep K6c).wr W7)
  obtain ⟨_, _, ⟨T9, L9, k9, n9⟩, -, X9, ⟨Lc9, hQ9, l9, y9, z9⟩, st9⟩ := X7.virtualBack hx (y := (⟨"com/example/cropmark/cropmark/Weights", "inedibleLb", "()Ljava/math/BigDecimal;"⟩ : MethodName)) (z := (⟨"com/example/cropmark/cropmark/Weights", "inedibleLb", "()Ljava/math/BigDecimal;"⟩ : MethodName)) hown (mvT hZ (w74 hw)) (mvT hZ (w75 hw)) (notFace_of_selects (args := #[]) (mvT hZ (w77 hw))) (mvT hZ (w77 hw)) (mvT hZ (w76 hw)) (by decide) (backOf (W := 0) (rm13_2 l Z a0 hw [] a2 a18 h7 n0 O7 c8) hZ (w78 hw) (w7 hw) (by decide) (by decide)) q9a q9c (g := (mkF m 26 #[.val (.ref a1), .val (.ref a2)] [(.ref a2)])) rfl (by rw [hml]; rfl) (Steps.refl _) (argsL := []) (rest := []) (lenOf pd_4 rfl) rfl (by show 2 * 0 + _ ≤ _; exact Nat.le_of_eq rfl) (hb hby d6_26) (fun vm₁ hw₁ => ⟨rfl, e7, (by decide : 1 + 0 ≤ _), (by decide : 5 + 0 ≤ _)⟩)
  dsimp only [Pt.U, Pt.locs, Pt.cells, Pt.slots] at X9 l9 y9 z9 st9 hQ9
  subst l9 y9 z9
  obtain ⟨rfl, M9, eh9⟩ := hQ9
  have N9 := Fr.app N7 M9
  refine Go.tr st9 ?_
  show Go p e below _ (T9.setTop (mkF m 29 #[.val (.ref a1), .val (.ref a2)] [(.ref a18)]))
  refine Go.st (fun t k => XS.ifnullNo X9.here hx rfl (hb hby d6_29) rfl k) ?_
  show Go p e below _ (T9.setTop (mkF m 32 #[.val (.ref a1), .val (.ref a2)] []))
  refine Go.st (fun t k => XS.aloadN X9.here hx rfl (hb hby d6_32) rfl rfl k) ?_
  show Go p e below _ (T9.setTop (mkF m 33 #[.val (.ref a1), .val (.ref a2)] [(.ref a1)]))
  refine Go.st (fun t k => XS.aloadN X9.here hx rfl (hb hby d6_33) rfl rfl k) ?_
  show Go p e below _ (T9.setTop (mkF m 34 #[.val (.ref a1), .val (.ref a2)] [(.ref a1), (.ref a1)]))
  have c10 := (((P50.other W2 (Or.inr (slot_ne (Or.inl (w38 hw)) (Or.inl (w45 hw)) (by decide) (t := (.object "java/math/BigDecimal")) (t' := .int) (by decide) (by decide)))).keep K6c nin0).other W7 (Or.inr (slot_ne (Or.inl (w38 hw)) (Or.inl (w36 hw)) (by decide) (t := (.object "java/math/BigDecimal")) (t' := (.object "java/math/BigDecimal")) (by decide) (by decide))))
  obtain ⟨T11, X11, e11, st11⟩ := getF X9 hx hZ hown (host := "") (Or.inl (w37 hw)) Via.refl eh9 c10 (g := (mkF m 34 #[.val (.ref a1), .val (.ref a2)] [(.ref a1), (.ref a1)])) rfl rfl (hb hby d6_34)
  refine Go.st st11 ?_
  show Go p e below _ (T11.setTop (mkF m 37 #[.val (.ref a1), .val (.ref a2)] [(.ref a3), (.ref a1)]))
  refine Go.st (fun t k => XS.aloadN X11.here hx rfl (hb hby d6_37) rfl rfl k) ?_
  show Go p e below _ (T11.setTop (mkF m 38 #[.val (.ref a1), .val (.ref a2)] [(.ref a2), (.ref a3), (.ref a1)]))
  obtain ⟨cq12, kq12, q12a, q12b, q12c⟩ := isOf hZ e11 (((P5.wr W2).keep K6c).wr W7)
  obtain ⟨_, _, ⟨T12, L12, k12, n12⟩, -, X12, ⟨Lc12, hQ12, l12, y12, z12⟩, st12⟩ := X11.virtualBack hx (y := (⟨"com/example/cropmark/cropmark/Weights", "inedibleLb", "()Ljava/math/BigDecimal;"⟩ : MethodName)) (z := (⟨"com/example/cropmark/cropmark/Weights", "inedibleLb", "()Ljava/math/BigDecimal;"⟩ : MethodName)) hown (mvT hZ (w74 hw)) (mvT hZ (w75 hw)) (notFace_of_selects (args := #[]) (mvT hZ (w77 hw))) (mvT hZ (w77 hw)) (mvT hZ (w76 hw)) (by decide) (backOf (W := 2) (rm13_2 l Z a0 hw [] a2 a18 h7 n0 O7 c8) hZ (w78 hw) (w7 hw) (by decide) (by decide)) q12a q12c (g := (mkF m 38 #[.val (.ref a1), .val (.ref a2)] [(.ref a2), (.ref a3), (.ref a1)])) rfl (by rw [hml]; rfl) (Steps.refl _) (argsL := []) (rest := [(.ref a3), (.ref a1)]) (lenOf pd_4 rfl) rfl (by show 2 * 0 + _ ≤ _; exact Nat.le_of_eq rfl) (hb hby d6_38) (fun vm₁ hw₁ => ⟨rfl, e11, (by decide : 1 + 0 ≤ _), (by decide : 5 + 0 ≤ _)⟩)
  dsimp only [Pt.U, Pt.locs, Pt.cells, Pt.slots] at X12 l12 y12 z12 st12 hQ12
  subst l12 y12 z12
  obtain ⟨rfl, M12, eh12⟩ := hQ12
  have N12 := Fr.app N9 M12
  refine Go.tr st12 ?_
  show Go p e below _ (T12.setTop (mkF m 41 #[.val (.ref a1), .val (.ref a2)] [(.ref a18), (.ref a3), (.ref a1)]))
  have c13 := (((P51.other W2 (Or.inl P56)).keep K6c nin0).other W7 (Or.inl P56))
  have c14 := (((P53.other W2 (Or.inl P56)).keep K6c nin0).other W7 (Or.inl P56))
  obtain ⟨cq15, kq15, q15a, q15b, q15c⟩ := isOf hZ eh12 (P8.ext O7.2)
  obtain ⟨_, _, ⟨T15, L15, k15, n15⟩, -, X15, ⟨Lc15, hQ15, l15, y15, z15⟩, st15⟩ := X12.virtualBack hx (y := (⟨"java/math/BigDecimal", "add", "(Ljava/math/BigDecimal;)Ljava/math/BigDecimal;"⟩ : MethodName)) (z := (⟨"java/math/BigDecimal", "add", "(Ljava/math/BigDecimal;)Ljava/math/BigDecimal;"⟩ : MethodName)) hown (mvT hZ (w51 hw)) (mvT hZ (w52 hw)) (notFace_of_selects (args := #[]) (mvT hZ (w54 hw))) (mvT hZ (w54 hw)) (mvT hZ (w53 hw)) (by decide) (backOf (W := 1) (rm8_1 l Z a0 hw [] a3 a18 q19 a6 k7 a8 a9 a10 a11 a12 a13 a14 a15 a16 a17 h7 n0 O7 P9 c13 P52 P12 c14 P54 P55 P16 P17 P8 P18 P19 P20 P21 P22 P23 P24 P25 P26 P27 P28 P29 P30 P31 P32 P33 P34 P35 P36 P37 P38 P39 P40 P41 P42 P43 P44 P45 P46 P47) hZ (w55 hw) (w2 hw) (by decide) (by decide)) q15a q15c (g := (mkF m 41 #[.val (.ref a1), .val (.ref a2)] [(.ref a18), (.ref a3), (.ref a1)])) rfl (by rw [hml]; rfl) (Steps.refl _) (argsL := [(.ref a18)]) (rest := [(.ref a1)]) (lenOf pd_9 rfl) rfl (by show 2 * 0 + _ ≤ _; exact Nat.le_of_eq rfl) (hb hby d6_41) (fun vm₁ hw₁ => ⟨rfl, eh12, (by decide : 1 + 1 ≤ _), (by decide : 5 + 5 ≤ _)⟩)
  dsimp only [Pt.U, Pt.locs, Pt.cells, Pt.slots] at X15 l15 y15 z15 st15 hQ15
  subst l15 y15 z15
  obtain ⟨bv_1_2_1_7_15, rfl, M15, K15c, r15_0, r15_1, r15_2⟩ := hQ15
  have N15 := Fr.app N12 M15
  have O15 : Old Z n0 T15.heap := O7.keep K15c all0
  have K15 : Keep h0 T15.heap [a1] := K7.trans K15c all0
  refine Go.tr st15 ?_
  show Go p e below _ (T15.setTop (mkF m 44 #[.val (.ref a1), .val (.ref a2)] [(.ref bv_1_2_1_7_15), (.ref a1)]))
  have c16 := ((((P2.wr W2).keep K6c).wr W7).keep K15c)
  obtain ⟨T17, h17, X17, e17, W17, st17⟩ := putF X15 hx hZ hown (host := "") (Or.inl (w37 hw)) Via.refl rfl (c10.keep K15c nin0) c16 (Or.inl (w38 hw)) (w28 hw) (ty := (.object "java/math/BigDecimal")) (by decide) rfl rfl (g := (mkF m 44 #[.val (.ref a1), .val (.ref a2)] [(.ref bv_1_2_1_7_15), (.ref a1)])) rfl rfl (hb hby d6_44)
  have F17 : Fld Z h17 a1 "com/example/cropmark/cropmark/Assessment$Sums" "inedibleLb" "Ljava/math/BigDecimal;" (.ref bv_1_2_1_7_15) := (c10.keep K15c nin0).same W17
  have N17 := Fr.snoc X17 N15 P3
  have O17 : Old Z n0 h17 := O15.wr W17 P3
  have K17 : Keep h0 h17 [a1] := K15.wr W17 (Or.inl (List.mem_of_getElem? (i := 0) rfl))
  refine Go.st st17 ?_
  show Go p e below _ (T17.setTop (mkF m 47 #[.val (.ref a1), .val (.ref a2)] []))
  obtain ⟨fs, hr, hrun, hended, hWd, hsame⟩ := X17.leave (v := none) (fun _ => rfl)
  have c18 := ((((F2.keep K6c nin0).other W7 (Or.inr (slot_ne (Or.inl (w45 hw)) (Or.inl (w36 hw)) (by decide) (t := .int) (t' := (.object "java/math/BigDecimal")) (by decide) (by decide)))).keep K15c nin0).other W17 (Or.inr (slot_ne (Or.inl (w45 hw)) (Or.inl (w38 hw)) (by decide) (t := .int) (t' := (.object "java/math/BigDecimal")) (by decide) (by decide))))
  have c19 := ((F7.keep K15c nin0).other W17 (Or.inr (slot_ne (Or.inl (w36 hw)) (Or.inl (w38 hw)) (by decide) (t := (.object "java/math/BigDecimal")) (t' := (.object "java/math/BigDecimal")) (by decide) (by decide))))
  have c20 := (((r6_1.other W7 (Or.inl (ne_exa (((r6_0.wr W7).keep K15c).wr W17) (c16.wr W17) (by decide)))).keep K15c nin0).other W17 (Or.inl (ne_exa (((r6_0.wr W7).keep K15c).wr W17) (c16.wr W17) (by decide))))
  have c21 := (((r6_2.other W7 (Or.inl (ne_exa (((r6_0.wr W7).keep K15c).wr W17) (c16.wr W17) (by decide)))).keep K15c nin0).other W17 (Or.inl (ne_exa (((r6_0.wr W7).keep K15c).wr W17) (c16.wr W17) (by decide))))
  have c22 := (r15_1.other W17 (Or.inl (ne_exa (r15_0.wr W17) (c16.wr W17) (by decide))))
  have c23 := (r15_2.other W17 (Or.inl (ne_exa (r15_0.wr W17) (c16.wr W17) (by decide))))
  refine ⟨_, _, ?_, hrun, hended, _, _, rfl, ?_, ⟨⟨_, rfl⟩, hWd, hsame.mono (by decide) (by decide)⟩⟩
  · exact X17.returnOut hx Bd.returns (hb hby d6_47) hr
  · show Q_rm6_4 Z a1 a2 a3 a4 q5 a6 k7 a8 a9 a10 a11 a12 a13 a14 a15 a16 a17 a18 q19 h0 n0 _ T17.heap _
    rw [e17]
    exact ⟨bv_1_2_1_7_6, bv_1_2_1_7_15, rfl, N17, K17, c18, c19, F17, (((r6_0.wr W7).keep K15c).wr W17), c20, c21, (r15_0.wr W17), c22, c23⟩
def Q_rm6_5 (Z : State) (a1 : Addr) (a2 : Addr) (a3 : Addr) (a4 : Addr) (q5 : Int64) (q6 : Int64) (a7 : Addr) (k8 : ClassId) (a9 : Addr) (a10 : Addr) (a11 : Addr) (a12 : Addr) (a13 : Addr) (a14 : Addr) (a15 : Addr) (a16 : Addr) (a17 : Addr) (a18 : Addr) (a19 : Addr) (a20 : Addr) (h0 : Heap) (n0 : Nat) (v : Option Value) (h : Heap) (L : List Loc) : Prop := ∃ (bv_1_2_1_7_6 : Addr), v = none ∧ Fr n0 L ∧ Keep h0 h [a1] ∧ Fld Z h a1 "com/example/cropmark/cropmark/Assessment$Sums" "lots" "I" (.int (2 : Int32)) ∧ Fld Z h a1 "com/example/cropmark/cropmark/Assessment$Sums" "assessedLb" "Ljava/math/BigDecimal;" (.ref bv_1_2_1_7_6) ∧ Fld Z h a1 "com/example/cropmark/cropmark/Assessment$Sums" "inedibleLb" "Ljava/math/BigDecimal;" (.ref a20) ∧ Exa Z h bv_1_2_1_7_6 "java/math/BigDecimal" ∧ Fld Z h bv_1_2_1_7_6 "java/math/BigDecimal" "scale" "I" (.int (0 : Int32)) ∧ Fld Z h bv_1_2_1_7_6 "java/math/BigDecimal" "intCompact" "J" (.long (q5 + q6))
set_option maxRecDepth 65536 in
set_option maxHeartbeats 40000000 in
theorem rm6_5 (l : Launch) (Z : State) (a0 : Array Value) (hw : ∀ d ∈ tables_1, d.before a0 Z = true) (ws : List Jvm.Cond) (a1 : Addr) (a2 : Addr) (a3 : Addr) (a4 : Addr) (q5 : Int64) (q6 : Int64) (a7 : Addr) (k8 : ClassId) (a9 : Addr) (a10 : Addr) (a11 : Addr) (a12 : Addr) (a13 : Addr) (a14 : Addr) (a15 : Addr) (a16 : Addr) (a17 : Addr) (a18 : Addr) (a19 : Addr) (a20 : Addr) (h0 : Heap) (n0 : Nat) (O0 : Old Z n0 h0) (P1 : Fld Z h0 a1 "com/example/cropmark/cropmark/Assessment$Sums" "lots" "I" (.int (1 : Int32))) (P2 : Exa Z h0 a1 "com/example/cropmark/cropmark/Assessment$Sums") (P3 : n0 ≤ a1) (P4 : Fld Z h0 a1 "com/example/cropmark/cropmark/Assessment$Sums" "assessedLb" "Ljava/math/BigDecimal;" (.ref a3)) (P5 : Exa Z h0 a2 "com/example/cropmark/cropmark/Weights") (P6 : Fld Z h0 a2 "com/example/cropmark/cropmark/Weights" "assessedLb" "Ljava/math/BigDecimal;" (.ref a4)) (P7 : a2 ≠ a1) (P8 : Exa Z h0 a3 "java/math/BigDecimal") (P9 : Fld Z h0 a3 "java/math/BigDecimal" "intCompact" "J" (.long q5)) (P10 : ¬ (q5 = (-9223372036854775808 : Int64))) (P11 : Fld Z h0 a4 "java/math/BigDecimal" "intCompact" "J" (.long q6)) (P12 : ¬ (q6 = (-9223372036854775808 : Int64))) (P13 : Fld Z h0 a3 "java/math/BigDecimal" "scale" "I" (.int (0 : Int32))) (P14 : Fld Z h0 a4 "java/math/BigDecimal" "scale" "I" (.int (0 : Int32))) (P15 : ¬ ((((q5 + q6) ^^^ q5) &&& ((q5 + q6) ^^^ q6)) < (0 : Int64))) (P16 : ¬ ((q5 + q6) = (-9223372036854775808 : Int64))) (P17 : Sta Z Z.heap "java/math/BigDecimal" "ZERO_THROUGH_TEN" "[Ljava/math/BigDecimal;" (.ref a7)) (P18 : Arv Z Z.heap a7 k8 (.object "java/math/BigDecimal") (11 : Int32) [(.ref a9), (.ref a10), (.ref a11), (.ref a12), (.ref a13), (.ref a14), (.ref a15), (.ref a16), (.ref a17), (.ref a18), (.ref a19)] .null) (P19 : Exa Z Z.heap a9 "java/math/BigDecimal") (P20 : Fld Z Z.heap a9 "java/math/BigDecimal" "scale" "I" (.int (0 : Int32))) (P21 : Fld Z Z.heap a9 "java/math/BigDecimal" "intCompact" "J" (.long (0 : Int64))) (P22 : Exa Z Z.heap a10 "java/math/BigDecimal") (P23 : Fld Z Z.heap a10 "java/math/BigDecimal" "scale" "I" (.int (0 : Int32))) (P24 : Fld Z Z.heap a10 "java/math/BigDecimal" "intCompact" "J" (.long (1 : Int64))) (P25 : Exa Z Z.heap a11 "java/math/BigDecimal") (P26 : Fld Z Z.heap a11 "java/math/BigDecimal" "scale" "I" (.int (0 : Int32))) (P27 : Fld Z Z.heap a11 "java/math/BigDecimal" "intCompact" "J" (.long (2 : Int64))) (P28 : Exa Z Z.heap a12 "java/math/BigDecimal") (P29 : Fld Z Z.heap a12 "java/math/BigDecimal" "scale" "I" (.int (0 : Int32))) (P30 : Fld Z Z.heap a12 "java/math/BigDecimal" "intCompact" "J" (.long (3 : Int64))) (P31 : Exa Z Z.heap a13 "java/math/BigDecimal") (P32 : Fld Z Z.heap a13 "java/math/BigDecimal" "scale" "I" (.int (0 : Int32))) (P33 : Fld Z Z.heap a13 "java/math/BigDecimal" "intCompact" "J" (.long (4 : Int64))) (P34 : Exa Z Z.heap a14 "java/math/BigDecimal") (P35 : Fld Z Z.heap a14 "java/math/BigDecimal" "scale" "I" (.int (0 : Int32))) (P36 : Fld Z Z.heap a14 "java/math/BigDecimal" "intCompact" "J" (.long (5 : Int64))) (P37 : Exa Z Z.heap a15 "java/math/BigDecimal") (P38 : Fld Z Z.heap a15 "java/math/BigDecimal" "scale" "I" (.int (0 : Int32))) (P39 : Fld Z Z.heap a15 "java/math/BigDecimal" "intCompact" "J" (.long (6 : Int64))) (P40 : Exa Z Z.heap a16 "java/math/BigDecimal") (P41 : Fld Z Z.heap a16 "java/math/BigDecimal" "scale" "I" (.int (0 : Int32))) (P42 : Fld Z Z.heap a16 "java/math/BigDecimal" "intCompact" "J" (.long (7 : Int64))) (P43 : Exa Z Z.heap a17 "java/math/BigDecimal") (P44 : Fld Z Z.heap a17 "java/math/BigDecimal" "scale" "I" (.int (0 : Int32))) (P45 : Fld Z Z.heap a17 "java/math/BigDecimal" "intCompact" "J" (.long (8 : Int64))) (P46 : Exa Z Z.heap a18 "java/math/BigDecimal") (P47 : Fld Z Z.heap a18 "java/math/BigDecimal" "scale" "I" (.int (0 : Int32))) (P48 : Fld Z Z.heap a18 "java/math/BigDecimal" "intCompact" "J" (.long (9 : Int64))) (P49 : Exa Z Z.heap a19 "java/math/BigDecimal") (P50 : Fld Z Z.heap a19 "java/math/BigDecimal" "scale" "I" (.int (0 : Int32))) (P51 : Fld Z Z.heap a19 "java/math/BigDecimal" "intCompact" "J" (.long (10 : Int64))) (P52 : a3 ≠ a1) (P53 : a4 ≠ a1) (P54 : Fld Z h0 a2 "com/example/cropmark/cropmark/Weights" "inedibleLb" "Ljava/math/BigDecimal;" .null) (P55 : Fld Z h0 a1 "com/example/cropmark/cropmark/Assessment$Sums" "inedibleLb" "Ljava/math/BigDecimal;" (.ref a20)) :
    MetFree l (⟨"com/example/cropmark/cropmark/Assessment$Sums", "add", "(Lcom/example/cropmark/cropmark/Weights;)V"⟩ : MethodName) (head1 (Jvm.Cond.code (⟨"com/example/cropmark/cropmark/Assessment$Sums", "add", "(Lcom/example/cropmark/cropmark/Weights;)V"⟩ : MethodName) prog_12_method_3_code 2 none :: ws) ({ frames := 8, cells := 1, slots := 5, locals := 124 } : Room)) (fun a U => a = #[(.ref a1), (.ref a2)] ∧ Z.Warmed39 U.vm ∧ U.heap = h0) (fun _ _ _ _ _ => True) (fun _ U o U' => ∃ v L, o = .returned v ∧ Q_rm6_5 Z a1 a2 a3 a4 q5 q6 a7 k8 a9 a10 a11 a12 a13 a14 a15 a16 a17 a18 a19 a20 h0 n0 v U'.heap L ∧ FrameEnd U o U' L ({ frames := 8, cells := 1, slots := 5, locals := 124 } : Room).cells ({ frames := 8, cells := 1, slots := 5, locals := 124 } : Room).slots) := by
  refine MetFree.of_bodySF (plainFor_of_name pn_4) hisR ?_
  intro p e s m args below meth c s₁ Bd hml0 hP hK
  obtain ⟨rfl, hZ, hh⟩ := hP
  have hx := Bd.exec
  have hby := Bd.bytes
  have hml : c.maxLocals = 2 := hml0
  have hown : s.vm.findClass "com/example/cropmark/cropmark/Assessment$Sums" = some m.cls := findClass_of_methodNamed Bd.named
  have hnm := (name_of_methodNamed Bd.named Bd.method).1
  have X0 : Stand p l e ({ frames := 8, cells := 1, slots := 5, locals := 124 } : Room) s m #[(.ref a1), (.ref a2)] below meth c s₁ [] 0 0 := Stand.of_body Bd
  have e0 : s₁.heap = h0 := by rw [← hh, Bd.state]; rfl
  have N0 := Fr.nil n0
  refine Go.start (P := (fun o U' => ∃ v L, o = .returned v ∧ Q_rm6_5 Z a1 a2 a3 a4 q5 q6 a7 k8 a9 a10 a11 a12 a13 a14 a15 a16 a17 a18 a19 a20 h0 n0 v U'.heap L ∧ FrameEnd s o U' L ({ frames := 8, cells := 1, slots := 5, locals := 124 } : Room).cells ({ frames := 8, cells := 1, slots := 5, locals := 124 } : Room).slots)) (castTop (g' := (mkF m 0 #[.val (.ref a1), .val (.ref a2)] [])) (by first | rfl | simp [entryFrame, mkF, argsToLocals, Value.category]) (T := s₁)) ?_
  refine Go.st (fun t k => XS.aloadN X0.here hx rfl (hb hby d6_0) rfl rfl k) ?_
  show Go p e below _ (s₁.setTop (mkF m 1 #[.val (.ref a1), .val (.ref a2)] [(.ref a1)]))
  refine Go.st (fun t k => XS.dup X0.here hx rfl (hb hby d6_1) rfl rfl k) ?_
  show Go p e below _ (s₁.setTop (mkF m 2 #[.val (.ref a1), .val (.ref a2)] [(.ref a1), (.ref a1)]))
  obtain ⟨T1, X1, e1, st1⟩ := getF X0 hx hZ hown (host := "") (Or.inl (w44 hw)) Via.refl e0 P1 (g := (mkF m 2 #[.val (.ref a1), .val (.ref a2)] [(.ref a1), (.ref a1)])) rfl rfl (hb hby d6_2)
  refine Go.st st1 ?_
  show Go p e below _ (T1.setTop (mkF m 5 #[.val (.ref a1), .val (.ref a2)] [(.int (1 : Int32)), (.ref a1)]))
  refine Go.st (fun t k => XS.iconst X1.here hx rfl (hb hby d6_5) k) ?_
  show Go p e below _ (T1.setTop (mkF m 6 #[.val (.ref a1), .val (.ref a2)] [(.int (1 : Int32)), (.int (1 : Int32)), (.ref a1)]))
  refine Go.st (fun t k => XS.iadd X1.here hx rfl (hb hby d6_6) rfl k) ?_
  show Go p e below _ (T1.setTop (mkF m 7 #[.val (.ref a1), .val (.ref a2)] [(.int (2 : Int32)), (.ref a1)]))
  obtain ⟨T2, h2, X2, e2, W2, st2⟩ := putF X1 hx hZ hown (host := "") (Or.inl (w44 hw)) Via.refl e1 P1 P2 (Or.inl (w45 hw)) (w28 hw) (ty := .int) (by decide) rfl rfl (g := (mkF m 7 #[.val (.ref a1), .val (.ref a2)] [(.int (2 : Int32)), (.ref a1)])) rfl rfl (hb hby d6_7)
  have F2 : Fld Z h2 a1 "com/example/cropmark/cropmark/Assessment$Sums" "lots" "I" (.int (2 : Int32)) := P1.same W2
  have N2 := Fr.snoc X2 N0 P3
  have O2 : Old Z n0 h2 := O0.wr W2 P3
  have K2 : Keep h0 h2 [a1] := (Keep.refl h0 [a1]).wr W2 (Or.inl (List.mem_of_getElem? (i := 0) rfl))
  refine Go.st st2 ?_
  show Go p e below _ (T2.setTop (mkF m 10 #[.val (.ref a1), .val (.ref a2)] []))
  refine Go.st (fun t k => XS.aloadN X2.here hx rfl (hb hby d6_10) rfl rfl k) ?_
  show Go p e below _ (T2.setTop (mkF m 11 #[.val (.ref a1), .val (.ref a2)] [(.ref a1)]))
  refine Go.st (fun t k => XS.aloadN X2.here hx rfl (hb hby d6_11) rfl rfl k) ?_
  show Go p e below _ (T2.setTop (mkF m 12 #[.val (.ref a1), .val (.ref a2)] [(.ref a1), (.ref a1)]))
  have c3 := (P4.other W2 (Or.inr (slot_ne (Or.inl (w36 hw)) (Or.inl (w45 hw)) (by decide) (t := (.object "java/math/BigDecimal")) (t' := .int) (by decide) (by decide))))
  obtain ⟨T4, X4, e4, st4⟩ := getF X2 hx hZ hown (host := "") (Or.inl (w35 hw)) Via.refl e2 c3 (g := (mkF m 12 #[.val (.ref a1), .val (.ref a2)] [(.ref a1), (.ref a1)])) rfl rfl (hb hby d6_12)
  refine Go.st st4 ?_
  show Go p e below _ (T4.setTop (mkF m 15 #[.val (.ref a1), .val (.ref a2)] [(.ref a3), (.ref a1)]))
  refine Go.st (fun t k => XS.aloadN X4.here hx rfl (hb hby d6_15) rfl rfl k) ?_
  show Go p e below _ (T4.setTop (mkF m 16 #[.val (.ref a1), .val (.ref a2)] [(.ref a2), (.ref a3), (.ref a1)]))
  obtain ⟨cq5, kq5, q5a, q5b, q5c⟩ := isOf hZ e4 (P5.wr W2)
  obtain ⟨_, _, ⟨T5, L5, k5, n5⟩, -, X5, ⟨Lc5, hQ5, l5, y5, z5⟩, st5⟩ := X4.virtualBack hx (y := (⟨"com/example/cropmark/cropmark/Weights", "assessedLb", "()Ljava/math/BigDecimal;"⟩ : MethodName)) (z := (⟨"com/example/cropmark/cropmark/Weights", "assessedLb", "()Ljava/math/BigDecimal;"⟩ : MethodName)) hown (mvT hZ (w46 hw)) (mvT hZ (w47 hw)) (notFace_of_selects (args := #[]) (mvT hZ (w49 hw))) (mvT hZ (w49 hw)) (mvT hZ (w48 hw)) (by decide) (backOf (W := 2) (rm7_1 l Z a0 hw [] a2 a4 h2 n0 O2 (P6.other W2 (Or.inl P7))) hZ (w50 hw) (w7 hw) (by decide) (by decide)) q5a q5c (g := (mkF m 16 #[.val (.ref a1), .val (.ref a2)] [(.ref a2), (.ref a3), (.ref a1)])) rfl (by rw [hml]; rfl) (Steps.refl _) (argsL := []) (rest := [(.ref a3), (.ref a1)]) (lenOf pd_4 rfl) rfl (by show 2 * 0 + _ ≤ _; exact Nat.le_of_eq rfl) (hb hby d6_16) (fun vm₁ hw₁ => ⟨rfl, e4, (by decide : 0 + 0 ≤ _), (by decide : 0 + 0 ≤ _)⟩)
  dsimp only [Pt.U, Pt.locs, Pt.cells, Pt.slots] at X5 l5 y5 z5 st5 hQ5
  subst l5 y5 z5
  obtain ⟨rfl, M5, eh5⟩ := hQ5
  have N5 := Fr.app N2 M5
  refine Go.tr st5 ?_
  show Go p e below _ (T5.setTop (mkF m 19 #[.val (.ref a1), .val (.ref a2)] [(.ref a4), (.ref a3), (.ref a1)]))
  obtain ⟨cq6, kq6, q6a, q6b, q6c⟩ := isOf hZ eh5 (P8.wr W2)
  obtain ⟨_, _, ⟨T6, L6, k6, n6⟩, -, X6, ⟨Lc6, hQ6, l6, y6, z6⟩, st6⟩ := X5.virtualBack hx (y := (⟨"java/math/BigDecimal", "add", "(Ljava/math/BigDecimal;)Ljava/math/BigDecimal;"⟩ : MethodName)) (z := (⟨"java/math/BigDecimal", "add", "(Ljava/math/BigDecimal;)Ljava/math/BigDecimal;"⟩ : MethodName)) hown (mvT hZ (w51 hw)) (mvT hZ (w52 hw)) (notFace_of_selects (args := #[]) (mvT hZ (w54 hw))) (mvT hZ (w54 hw)) (mvT hZ (w53 hw)) (by decide) (backOf (W := 1) (rm8_2 l Z a0 hw [] a3 a4 q5 q6 a7 k8 a9 a10 a11 a12 a13 a14 a15 a16 a17 a18 a19 h2 n0 O2 (P9.other W2 (Or.inl P52)) P10 (P11.other W2 (Or.inl P53)) P12 (P13.other W2 (Or.inl P52)) (P14.other W2 (Or.inl P53)) P15 P16 P17 P18 P19 P20 P21 P22 P23 P24 P25 P26 P27 P28 P29 P30 P31 P32 P33 P34 P35 P36 P37 P38 P39 P40 P41 P42 P43 P44 P45 P46 P47 P48 P49 P50 P51) hZ (w55 hw) (w2 hw) (by decide) (by decide)) q6a q6c (g := (mkF m 19 #[.val (.ref a1), .val (.ref a2)] [(.ref a4), (.ref a3), (.ref a1)])) rfl (by rw [hml]; rfl) (Steps.refl _) (argsL := [(.ref a4)]) (rest := [(.ref a1)]) (lenOf pd_9 rfl) rfl (by show 2 * 0 + _ ≤ _; exact Nat.le_of_eq rfl) (hb hby d6_19) (fun vm₁ hw₁ => ⟨rfl, eh5, (by decide : 0 + 1 ≤ _), (by decide : 0 + 5 ≤ _)⟩)
  dsimp only [Pt.U, Pt.locs, Pt.cells, Pt.slots] at X6 l6 y6 z6 st6 hQ6
  subst l6 y6 z6
  obtain ⟨bv_1_2_1_7_6, rfl, M6, K6c, r6_0, r6_1, r6_2⟩ := hQ6
  have N6 := Fr.app N5 M6
  have O6 : Old Z n0 T6.heap := O2.keep K6c all0
  have K6 : Keep h0 T6.heap [a1] := K2.trans K6c all0
  refine Go.tr st6 ?_
  show Go p e below _ (T6.setTop (mkF m 22 #[.val (.ref a1), .val (.ref a2)] [(.ref bv_1_2_1_7_6), (.ref a1)]))
  obtain ⟨T7, h7, X7, e7, W7, st7⟩ := putF X6 hx hZ hown (host := "") (Or.inl (w35 hw)) Via.refl rfl (c3.keep K6c nin0) ((P2.wr W2).keep K6c) (Or.inl (w36 hw)) (w28 hw) (ty := (.object "java/math/BigDecimal")) (by decide) rfl rfl (g := (mkF m 22 #[.val (.ref a1), .val (.ref a2)] [(.ref bv_1_2_1_7_6), (.ref a1)])) rfl rfl (hb hby d6_22)
  have F7 : Fld Z h7 a1 "com/example/cropmark/cropmark/Assessment$Sums" "assessedLb" "Ljava/math/BigDecimal;" (.ref bv_1_2_1_7_6) := (c3.keep K6c nin0).same W7
  have N7 := Fr.snoc X7 N6 P3
  have O7 : Old Z n0 h7 := O6.wr W7 P3
  have K7 : Keep h0 h7 [a1] := K6.wr W7 (Or.inl (List.mem_of_getElem? (i := 0) rfl))
  refine Go.st st7 ?_
  show Go p e below _ (T7.setTop (mkF m 25 #[.val (.ref a1), .val (.ref a2)] []))
  refine Go.st (fun t k => XS.aloadN X7.here hx rfl (hb hby d6_25) rfl rfl k) ?_
  show Go p e below _ (T7.setTop (mkF m 26 #[.val (.ref a1), .val (.ref a2)] [(.ref a2)]))
  have c8 := (((P54.other W2 (Or.inl P7)).keep K6c nin0).other W7 (Or.inl P7))
  obtain ⟨cq9, kq9, q9a, q9b, q9c⟩ := isOf hZ e7 (((P5.wr W2).keep K6c).wr W7)
  obtain ⟨_, _, ⟨T9, L9, k9, n9⟩, -, X9, ⟨Lc9, hQ9, l9, y9, z9⟩, st9⟩ := X7.virtualBack hx (y := (⟨"com/example/cropmark/cropmark/Weights", "inedibleLb", "()Ljava/math/BigDecimal;"⟩ : MethodName)) (z := (⟨"com/example/cropmark/cropmark/Weights", "inedibleLb", "()Ljava/math/BigDecimal;"⟩ : MethodName)) hown (mvT hZ (w74 hw)) (mvT hZ (w75 hw)) (notFace_of_selects (args := #[]) (mvT hZ (w77 hw))) (mvT hZ (w77 hw)) (mvT hZ (w76 hw)) (by decide) (backOf (W := 0) (rm13_1 l Z a0 hw [] a2 h7 n0 O7 c8) hZ (w78 hw) (w7 hw) (by decide) (by decide)) q9a q9c (g := (mkF m 26 #[.val (.ref a1), .val (.ref a2)] [(.ref a2)])) rfl (by rw [hml]; rfl) (Steps.refl _) (argsL := []) (rest := []) (lenOf pd_4 rfl) rfl (by show 2 * 0 + _ ≤ _; exact Nat.le_of_eq rfl) (hb hby d6_26) (fun vm₁ hw₁ => ⟨rfl, e7, (by decide : 1 + 0 ≤ _), (by decide : 5 + 0 ≤ _)⟩)
  dsimp only [Pt.U, Pt.locs, Pt.cells, Pt.slots] at X9 l9 y9 z9 st9 hQ9
  subst l9 y9 z9
  obtain ⟨rfl, M9, eh9⟩ := hQ9
  have N9 := Fr.app N7 M9
  refine Go.tr st9 ?_
  show Go p e below _ (T9.setTop (mkF m 29 #[.val (.ref a1), .val (.ref a2)] [.null]))
  refine Go.st (fun t k => XS.ifnullYes X9.here hx rfl (pc0 := 29) (pc' := 47) rfl (hb hby d6_29) rfl (by decide) (by decide) k) ?_
  show Go p e below _ (T9.setTop (mkF m 47 #[.val (.ref a1), .val (.ref a2)] []))
  obtain ⟨fs, hr, hrun, hended, hWd, hsame⟩ := X9.leave (v := none) (fun _ => rfl)
  have c10 := ((F2.keep K6c nin0).other W7 (Or.inr (slot_ne (Or.inl (w45 hw)) (Or.inl (w36 hw)) (by decide) (t := .int) (t' := (.object "java/math/BigDecimal")) (by decide) (by decide))))
  have c11 := (((P55.other W2 (Or.inr (slot_ne (Or.inl (w38 hw)) (Or.inl (w45 hw)) (by decide) (t := (.object "java/math/BigDecimal")) (t' := .int) (by decide) (by decide)))).keep K6c nin0).other W7 (Or.inr (slot_ne (Or.inl (w38 hw)) (Or.inl (w36 hw)) (by decide) (t := (.object "java/math/BigDecimal")) (t' := (.object "java/math/BigDecimal")) (by decide) (by decide))))
  have c12 := (r6_1.other W7 (Or.inl (ne_exa (r6_0.wr W7) (((P2.wr W2).keep K6c).wr W7) (by decide))))
  have c13 := (r6_2.other W7 (Or.inl (ne_exa (r6_0.wr W7) (((P2.wr W2).keep K6c).wr W7) (by decide))))
  refine ⟨_, _, ?_, hrun, hended, _, _, rfl, ?_, ⟨⟨_, rfl⟩, hWd, hsame.mono (by decide) (by decide)⟩⟩
  · exact X9.returnOut hx Bd.returns (hb hby d6_47) hr
  · show Q_rm6_5 Z a1 a2 a3 a4 q5 q6 a7 k8 a9 a10 a11 a12 a13 a14 a15 a16 a17 a18 a19 a20 h0 n0 _ T9.heap _
    rw [eh9]
    exact ⟨bv_1_2_1_7_6, rfl, N9, K7, c10, F7, c11, (r6_0.wr W7), c12, c13⟩
def Q_rm6_6 (Z : State) (a1 : Addr) (a2 : Addr) (a3 : Addr) (a4 : Addr) (q5 : Int64) (q6 : Int64) (a7 : Addr) (k8 : ClassId) (a9 : Addr) (a10 : Addr) (a11 : Addr) (a12 : Addr) (a13 : Addr) (a14 : Addr) (a15 : Addr) (a16 : Addr) (a17 : Addr) (a18 : Addr) (a19 : Addr) (a20 : Addr) (a21 : Addr) (q22 : Int64) (q23 : Int64) (h0 : Heap) (n0 : Nat) (v : Option Value) (h : Heap) (L : List Loc) : Prop := ∃ (bv_1_2_1_7_6 : Addr) (bv_1_2_1_7_17 : Addr), v = none ∧ Fr n0 L ∧ Keep h0 h [a1] ∧ Fld Z h a1 "com/example/cropmark/cropmark/Assessment$Sums" "lots" "I" (.int (2 : Int32)) ∧ Fld Z h a1 "com/example/cropmark/cropmark/Assessment$Sums" "assessedLb" "Ljava/math/BigDecimal;" (.ref bv_1_2_1_7_6) ∧ Fld Z h a1 "com/example/cropmark/cropmark/Assessment$Sums" "inedibleLb" "Ljava/math/BigDecimal;" (.ref bv_1_2_1_7_17) ∧ Exa Z h bv_1_2_1_7_6 "java/math/BigDecimal" ∧ Fld Z h bv_1_2_1_7_6 "java/math/BigDecimal" "scale" "I" (.int (0 : Int32)) ∧ Fld Z h bv_1_2_1_7_6 "java/math/BigDecimal" "intCompact" "J" (.long (q5 + q6)) ∧ Exa Z h bv_1_2_1_7_17 "java/math/BigDecimal" ∧ Fld Z h bv_1_2_1_7_17 "java/math/BigDecimal" "scale" "I" (.int (0 : Int32)) ∧ Fld Z h bv_1_2_1_7_17 "java/math/BigDecimal" "intCompact" "J" (.long (q22 + q23))
set_option maxRecDepth 65536 in
set_option maxHeartbeats 40000000 in
theorem rm6_6 (l : Launch) (Z : State) (a0 : Array Value) (hw : ∀ d ∈ tables_1, d.before a0 Z = true) (ws : List Jvm.Cond) (a1 : Addr) (a2 : Addr) (a3 : Addr) (a4 : Addr) (q5 : Int64) (q6 : Int64) (a7 : Addr) (k8 : ClassId) (a9 : Addr) (a10 : Addr) (a11 : Addr) (a12 : Addr) (a13 : Addr) (a14 : Addr) (a15 : Addr) (a16 : Addr) (a17 : Addr) (a18 : Addr) (a19 : Addr) (a20 : Addr) (a21 : Addr) (q22 : Int64) (q23 : Int64) (h0 : Heap) (n0 : Nat) (O0 : Old Z n0 h0) (P1 : Fld Z h0 a1 "com/example/cropmark/cropmark/Assessment$Sums" "lots" "I" (.int (1 : Int32))) (P2 : Exa Z h0 a1 "com/example/cropmark/cropmark/Assessment$Sums") (P3 : n0 ≤ a1) (P4 : Fld Z h0 a1 "com/example/cropmark/cropmark/Assessment$Sums" "assessedLb" "Ljava/math/BigDecimal;" (.ref a3)) (P5 : Exa Z h0 a2 "com/example/cropmark/cropmark/Weights") (P6 : Fld Z h0 a2 "com/example/cropmark/cropmark/Weights" "assessedLb" "Ljava/math/BigDecimal;" (.ref a4)) (P7 : a2 ≠ a1) (P8 : Exa Z h0 a3 "java/math/BigDecimal") (P9 : Fld Z h0 a3 "java/math/BigDecimal" "intCompact" "J" (.long q5)) (P10 : ¬ (q5 = (-9223372036854775808 : Int64))) (P11 : Fld Z h0 a4 "java/math/BigDecimal" "intCompact" "J" (.long q6)) (P12 : ¬ (q6 = (-9223372036854775808 : Int64))) (P13 : Fld Z h0 a3 "java/math/BigDecimal" "scale" "I" (.int (0 : Int32))) (P14 : Fld Z h0 a4 "java/math/BigDecimal" "scale" "I" (.int (0 : Int32))) (P15 : ¬ ((((q5 + q6) ^^^ q5) &&& ((q5 + q6) ^^^ q6)) < (0 : Int64))) (P16 : ¬ ((q5 + q6) = (-9223372036854775808 : Int64))) (P17 : Sta Z Z.heap "java/math/BigDecimal" "ZERO_THROUGH_TEN" "[Ljava/math/BigDecimal;" (.ref a7)) (P18 : Arv Z Z.heap a7 k8 (.object "java/math/BigDecimal") (11 : Int32) [(.ref a9), (.ref a10), (.ref a11), (.ref a12), (.ref a13), (.ref a14), (.ref a15), (.ref a16), (.ref a17), (.ref a18), (.ref a19)] .null) (P19 : Exa Z Z.heap a9 "java/math/BigDecimal") (P20 : Fld Z Z.heap a9 "java/math/BigDecimal" "scale" "I" (.int (0 : Int32))) (P21 : Fld Z Z.heap a9 "java/math/BigDecimal" "intCompact" "J" (.long (0 : Int64))) (P22 : Exa Z Z.heap a10 "java/math/BigDecimal") (P23 : Fld Z Z.heap a10 "java/math/BigDecimal" "scale" "I" (.int (0 : Int32))) (P24 : Fld Z Z.heap a10 "java/math/BigDecimal" "intCompact" "J" (.long (1 : Int64))) (P25 : Exa Z Z.heap a11 "java/math/BigDecimal") (P26 : Fld Z Z.heap a11 "java/math/BigDecimal" "scale" "I" (.int (0 : Int32))) (P27 : Fld Z Z.heap a11 "java/math/BigDecimal" "intCompact" "J" (.long (2 : Int64))) (P28 : Exa Z Z.heap a12 "java/math/BigDecimal") (P29 : Fld Z Z.heap a12 "java/math/BigDecimal" "scale" "I" (.int (0 : Int32))) (P30 : Fld Z Z.heap a12 "java/math/BigDecimal" "intCompact" "J" (.long (3 : Int64))) (P31 : Exa Z Z.heap a13 "java/math/BigDecimal") (P32 : Fld Z Z.heap a13 "java/math/BigDecimal" "scale" "I" (.int (0 : Int32))) (P33 : Fld Z Z.heap a13 "java/math/BigDecimal" "intCompact" "J" (.long (4 : Int64))) (P34 : Exa Z Z.heap a14 "java/math/BigDecimal") (P35 : Fld Z Z.heap a14 "java/math/BigDecimal" "scale" "I" (.int (0 : Int32))) (P36 : Fld Z Z.heap a14 "java/math/BigDecimal" "intCompact" "J" (.long (5 : Int64))) (P37 : Exa Z Z.heap a15 "java/math/BigDecimal") (P38 : Fld Z Z.heap a15 "java/math/BigDecimal" "scale" "I" (.int (0 : Int32))) (P39 : Fld Z Z.heap a15 "java/math/BigDecimal" "intCompact" "J" (.long (6 : Int64))) (P40 : Exa Z Z.heap a16 "java/math/BigDecimal") (P41 : Fld Z Z.heap a16 "java/math/BigDecimal" "scale" "I" (.int (0 : Int32))) (P42 : Fld Z Z.heap a16 "java/math/BigDecimal" "intCompact" "J" (.long (7 : Int64))) (P43 : Exa Z Z.heap a17 "java/math/BigDecimal") (P44 : Fld Z Z.heap a17 "java/math/BigDecimal" "scale" "I" (.int (0 : Int32))) (P45 : Fld Z Z.heap a17 "java/math/BigDecimal" "intCompact" "J" (.long (8 : Int64))) (P46 : Exa Z Z.heap a18 "java/math/BigDecimal") (P47 : Fld Z Z.heap a18 "java/math/BigDecimal" "scale" "I" (.int (0 : Int32))) (P48 : Fld Z Z.heap a18 "java/math/BigDecimal" "intCompact" "J" (.long (9 : Int64))) (P49 : Exa Z Z.heap a19 "java/math/BigDecimal") (P50 : Fld Z Z.heap a19 "java/math/BigDecimal" "scale" "I" (.int (0 : Int32))) (P51 : Fld Z Z.heap a19 "java/math/BigDecimal" "intCompact" "J" (.long (10 : Int64))) (P52 : a3 ≠ a1) (P53 : a4 ≠ a1) (P54 : Fld Z h0 a2 "com/example/cropmark/cropmark/Weights" "inedibleLb" "Ljava/math/BigDecimal;" (.ref a20)) (P55 : Fld Z h0 a1 "com/example/cropmark/cropmark/Assessment$Sums" "inedibleLb" "Ljava/math/BigDecimal;" (.ref a21)) (P56 : Exa Z h0 a21 "java/math/BigDecimal") (P57 : Fld Z h0 a21 "java/math/BigDecimal" "intCompact" "J" (.long q22)) (P58 : ¬ (q22 = (-9223372036854775808 : Int64))) (P59 : Fld Z h0 a20 "java/math/BigDecimal" "intCompact" "J" (.long q23)) (P60 : ¬ (q23 = (-9223372036854775808 : Int64))) (P61 : Fld Z h0 a21 "java/math/BigDecimal" "scale" "I" (.int (0 : Int32))) (P62 : Fld Z h0 a20 "java/math/BigDecimal" "scale" "I" (.int (0 : Int32))) (P63 : ¬ ((((q22 + q23) ^^^ q22) &&& ((q22 + q23) ^^^ q23)) < (0 : Int64))) (P64 : ¬ ((q22 + q23) = (-9223372036854775808 : Int64))) (P65 : a21 ≠ a1) (P66 : a20 ≠ a1) :
    MetFree l (⟨"com/example/cropmark/cropmark/Assessment$Sums", "add", "(Lcom/example/cropmark/cropmark/Weights;)V"⟩ : MethodName) (head1 (Jvm.Cond.code (⟨"com/example/cropmark/cropmark/Assessment$Sums", "add", "(Lcom/example/cropmark/cropmark/Weights;)V"⟩ : MethodName) prog_12_method_3_code 2 none :: ws) ({ frames := 8, cells := 2, slots := 10, locals := 124 } : Room)) (fun a U => a = #[(.ref a1), (.ref a2)] ∧ Z.Warmed39 U.vm ∧ U.heap = h0) (fun _ _ _ _ _ => True) (fun _ U o U' => ∃ v L, o = .returned v ∧ Q_rm6_6 Z a1 a2 a3 a4 q5 q6 a7 k8 a9 a10 a11 a12 a13 a14 a15 a16 a17 a18 a19 a20 a21 q22 q23 h0 n0 v U'.heap L ∧ FrameEnd U o U' L ({ frames := 8, cells := 2, slots := 10, locals := 124 } : Room).cells ({ frames := 8, cells := 2, slots := 10, locals := 124 } : Room).slots) := by
  refine MetFree.of_bodySF (plainFor_of_name pn_4) hisR ?_
  intro p e s m args below meth c s₁ Bd hml0 hP hK
  obtain ⟨rfl, hZ, hh⟩ := hP
  have hx := Bd.exec
  have hby := Bd.bytes
  have hml : c.maxLocals = 2 := hml0
  have hown : s.vm.findClass "com/example/cropmark/cropmark/Assessment$Sums" = some m.cls := findClass_of_methodNamed Bd.named
  have hnm := (name_of_methodNamed Bd.named Bd.method).1
  have X0 : Stand p l e ({ frames := 8, cells := 2, slots := 10, locals := 124 } : Room) s m #[(.ref a1), (.ref a2)] below meth c s₁ [] 0 0 := Stand.of_body Bd
  have e0 : s₁.heap = h0 := by rw [← hh, Bd.state]; rfl
  have N0 := Fr.nil n0
  refine Go.start (P := (fun o U' => ∃ v L, o = .returned v ∧ Q_rm6_6 Z a1 a2 a3 a4 q5 q6 a7 k8 a9 a10 a11 a12 a13 a14 a15 a16 a17 a18 a19 a20 a21 q22 q23 h0 n0 v U'.heap L ∧ FrameEnd s o U' L ({ frames := 8, cells := 2, slots := 10, locals := 124 } : Room).cells ({ frames := 8, cells := 2, slots := 10, locals := 124 } : Room).slots)) (castTop (g' := (mkF m 0 #[.val (.ref a1), .val (.ref a2)] [])) (by first | rfl | simp [entryFrame, mkF, argsToLocals, Value.category]) (T := s₁)) ?_
  refine Go.st (fun t k => XS.aloadN X0.here hx rfl (hb hby d6_0) rfl rfl k) ?_
  show Go p e below _ (s₁.setTop (mkF m 1 #[.val (.ref a1), .val (.ref a2)] [(.ref a1)]))
  refine Go.st (fun t k => XS.dup X0.here hx rfl (hb hby d6_1) rfl rfl k) ?_
  show Go p e below _ (s₁.setTop (mkF m 2 #[.val (.ref a1), .val (.ref a2)] [(.ref a1), (.ref a1)]))
  obtain ⟨T1, X1, e1, st1⟩ := getF X0 hx hZ hown (host := "") (Or.inl (w44 hw)) Via.refl e0 P1 (g := (mkF m 2 #[.val (.ref a1), .val (.ref a2)] [(.ref a1), (.ref a1)])) rfl rfl (hb hby d6_2)
  refine Go.st st1 ?_
  show Go p e below _ (T1.setTop (mkF m 5 #[.val (.ref a1), .val (.ref a2)] [(.int (1 : Int32)), (.ref a1)]))
  refine Go.st (fun t k => XS.iconst X1.here hx rfl (hb hby d6_5) k) ?_
  show Go p e below _ (T1.setTop (mkF m 6 #[.val (.ref a1), .val (.ref a2)] [(.int (1 : Int32)), (.int (1 : Int32)), (.ref a1)]))
  refine Go.st (fun t k => XS.iadd X1.here hx rfl (hb hby d6_6) rfl k) ?_
  show Go p e below _ (T1.setTop (mkF m 7 #[.val (.ref a1), .val (.ref a2)] [(.int (2 : Int32)), (.ref a1)]))
  obtain ⟨T2, h2, X2, e2, W2, st2⟩ := putF X1 hx hZ hown (host := "") (Or.inl (w44 hw)) Via.refl e1 P1 P2 (Or.inl (w45 hw)) (w28 hw) (ty := .int) (by decide) rfl rfl (g := (mkF m 7 #[.val (.ref a1), .val (.ref a2)] [(.int (2 : Int32)), (.ref a1)])) rfl rfl (hb hby d6_7)
  have F2 : Fld Z h2 a1 "com/example/cropmark/cropmark/Assessment$Sums" "lots" "I" (.int (2 : Int32)) := P1.same W2
  have N2 := Fr.snoc X2 N0 P3
  have O2 : Old Z n0 h2 := O0.wr W2 P3
  have K2 : Keep h0 h2 [a1] := (Keep.refl h0 [a1]).wr W2 (Or.inl (List.mem_of_getElem? (i := 0) rfl))
  refine Go.st st2 ?_
  show Go p e below _ (T2.setTop (mkF m 10 #[.val (.ref a1), .val (.ref a2)] []))
  refine Go.st (fun t k => XS.aloadN X2.here hx rfl (hb hby d6_10) rfl rfl k) ?_
  show Go p e below _ (T2.setTop (mkF m 11 #[.val (.ref a1), .val (.ref a2)] [(.ref a1)]))
  refine Go.st (fun t k => XS.aloadN X2.here hx rfl (hb hby d6_11) rfl rfl k) ?_
  show Go p e below _ (T2.setTop (mkF m 12 #[.val (.ref a1), .val (.ref a2)] [(.ref a1), (.ref a1)]))
  have c3 := (P4.other W2 (Or.inr (slot_ne (Or.inl (w36 hw)) (Or.inl (w45 hw)) (by decide) (t := (.object "java/math/BigDecimal")) (t' := .int) (by decide) (by decide))))
  obtain ⟨T4, X4, e4, st4⟩ := getF X2 hx hZ hown (host := "") (Or.inl (w35 hw)) Via.refl e2 c3 (g := (mkF m 12 #[.val (.ref a1), .val (.ref a2)] [(.ref a1), (.ref a1)])) rfl rfl (hb hby d6_12)
  refine Go.st st4 ?_
  show Go p e below _ (T4.setTop (mkF m 15 #[.val (.ref a1), .val (.ref a2)] [(.ref a3), (.ref a1)]))
  refine Go.st (fun t k => XS.aloadN X4.here hx rfl (hb hby d6_15) rfl rfl k) ?_
  show Go p e below _ (T4.setTop (mkF m 16 #[.val (.ref a1), .val (.ref a2)] [(.ref a2), (.ref a3), (.ref a1)]))
  obtain ⟨cq5, kq5, q5a, q5b, q5c⟩ := isOf hZ e4 (P5.wr W2)
  obtain ⟨_, _, ⟨T5, L5, k5, n5⟩, -, X5, ⟨Lc5, hQ5, l5, y5, z5⟩, st5⟩ := X4.virtualBack hx (y := (⟨"com/example/cropmark/cropmark/Weights", "assessedLb", "()Ljava/math/BigDecimal;"⟩ : MethodName)) (z := (⟨"com/example/cropmark/cropmark/Weights", "assessedLb", "()Ljava/math/BigDecimal;"⟩ : MethodName)) hown (mvT hZ (w46 hw)) (mvT hZ (w47 hw)) (notFace_of_selects (args := #[]) (mvT hZ (w49 hw))) (mvT hZ (w49 hw)) (mvT hZ (w48 hw)) (by decide) (backOf (W := 2) (rm7_1 l Z a0 hw [] a2 a4 h2 n0 O2 (P6.other W2 (Or.inl P7))) hZ (w50 hw) (w7 hw) (by decide) (by decide)) q5a q5c (g := (mkF m 16 #[.val (.ref a1), .val (.ref a2)] [(.ref a2), (.ref a3), (.ref a1)])) rfl (by rw [hml]; rfl) (Steps.refl _) (argsL := []) (rest := [(.ref a3), (.ref a1)]) (lenOf pd_4 rfl) rfl (by show 2 * 0 + _ ≤ _; exact Nat.le_of_eq rfl) (hb hby d6_16) (fun vm₁ hw₁ => ⟨rfl, e4, (by decide : 0 + 0 ≤ _), (by decide : 0 + 0 ≤ _)⟩)
  dsimp only [Pt.U, Pt.locs, Pt.cells, Pt.slots] at X5 l5 y5 z5 st5 hQ5
  subst l5 y5 z5
  obtain ⟨rfl, M5, eh5⟩ := hQ5
  have N5 := Fr.app N2 M5
  refine Go.tr st5 ?_
  show Go p e below _ (T5.setTop (mkF m 19 #[.val (.ref a1), .val (.ref a2)] [(.ref a4), (.ref a3), (.ref a1)]))
  obtain ⟨cq6, kq6, q6a, q6b, q6c⟩ := isOf hZ eh5 (P8.wr W2)
  obtain ⟨_, _, ⟨T6, L6, k6, n6⟩, -, X6, ⟨Lc6, hQ6, l6, y6, z6⟩, st6⟩ := X5.virtualBack hx (y := (⟨"java/math/BigDecimal", "add", "(Ljava/math/BigDecimal;)Ljava/math/BigDecimal;"⟩ : MethodName)) (z := (⟨"java/math/BigDecimal", "add", "(Ljava/math/BigDecimal;)Ljava/math/BigDecimal;"⟩ : MethodName)) hown (mvT hZ (w51 hw)) (mvT hZ (w52 hw)) (notFace_of_selects (args := #[]) (mvT hZ (w54 hw))) (mvT hZ (w54 hw)) (mvT hZ (w53 hw)) (by decide) (backOf (W := 1) (rm8_2 l Z a0 hw [] a3 a4 q5 q6 a7 k8 a9 a10 a11 a12 a13 a14 a15 a16 a17 a18 a19 h2 n0 O2 (P9.other W2 (Or.inl P52)) P10 (P11.other W2 (Or.inl P53)) P12 (P13.other W2 (Or.inl P52)) (P14.other W2 (Or.inl P53)) P15 P16 P17 P18 P19 P20 P21 P22 P23 P24 P25 P26 P27 P28 P29 P30 P31 P32 P33 P34 P35 P36 P37 P38 P39 P40 P41 P42 P43 P44 P45 P46 P47 P48 P49 P50 P51) hZ (w55 hw) (w2 hw) (by decide) (by decide)) q6a q6c (g := (mkF m 19 #[.val (.ref a1), .val (.ref a2)] [(.ref a4), (.ref a3), (.ref a1)])) rfl (by rw [hml]; rfl) (Steps.refl _) (argsL := [(.ref a4)]) (rest := [(.ref a1)]) (lenOf pd_9 rfl) rfl (by show 2 * 0 + _ ≤ _; exact Nat.le_of_eq rfl) (hb hby d6_19) (fun vm₁ hw₁ => ⟨rfl, eh5, (by decide : 0 + 1 ≤ _), (by decide : 0 + 5 ≤ _)⟩)
  dsimp only [Pt.U, Pt.locs, Pt.cells, Pt.slots] at X6 l6 y6 z6 st6 hQ6
  subst l6 y6 z6
  obtain ⟨bv_1_2_1_7_6, rfl, M6, K6c, r6_0, r6_1, r6_2⟩ := hQ6
  have N6 := Fr.app N5 M6
  have O6 : Old Z n0 T6.heap := O2.keep K6c all0
  have K6 : Keep h0 T6.heap [a1] := K2.trans K6c all0
  refine Go.tr st6 ?_
  show Go p e below _ (T6.setTop (mkF m 22 #[.val (.ref a1), .val (.ref a2)] [(.ref bv_1_2_1_7_6), (.ref a1)]))
  obtain ⟨T7, h7, X7, e7, W7, st7⟩ := putF X6 hx hZ hown (host := "") (Or.inl (w35 hw)) Via.refl rfl (c3.keep K6c nin0) ((P2.wr W2).keep K6c) (Or.inl (w36 hw)) (w28 hw) (ty := (.object "java/math/BigDecimal")) (by decide) rfl rfl (g := (mkF m 22 #[.val (.ref a1), .val (.ref a2)] [(.ref bv_1_2_1_7_6), (.ref a1)])) rfl rfl (hb hby d6_22)
  have F7 : Fld Z h7 a1 "com/example/cropmark/cropmark/Assessment$Sums" "assessedLb" "Ljava/math/BigDecimal;" (.ref bv_1_2_1_7_6) := (c3.keep K6c nin0).same W7
  have N7 := Fr.snoc X7 N6 P3
  have O7 : Old Z n0 h7 := O6.wr W7 P3
  have K7 : Keep h0 h7 [a1] := K6.wr W7 (Or.inl (List.mem_of_getElem? (i := 0) rfl))
  refine Go.st st7 ?_
  show Go p e below _ (T7.setTop (mkF m 25 #[.val (.ref a1), .val (.ref a2)] []))
  refine Go.st (fun t k => XS.aloadN X7.here hx rfl (hb hby d6_25) rfl rfl k) ?_
  show Go p e below _ (T7.setTop (mkF m 26 #[.val (.ref a1), .val (.ref a2)] [(.ref a2)]))
  have c8 := (((P54.other W2 (Or.inl P7)).keep K6c nin0).other W7 (Or.inl P7))
  obtain ⟨cq9, kq9, q9a, q9b, q9c⟩ := isOf hZ e7 (((P5.wr W2).keep K6c).wr W7)
  obtain ⟨_, _, ⟨T9, L9, k9, n9⟩, -, X9, ⟨Lc9, hQ9, l9, y9, z9⟩, st9⟩ := X7.virtualBack hx (y := (⟨"com/example/cropmark/cropmark/Weights", "inedibleLb", "()Ljava/math/BigDecimal;"⟩ : MethodName)) (z := (⟨"com/example/cropmark/cropmark/Weights", "inedibleLb", "()Ljava/math/BigDecimal;"⟩ : MethodName)) hown (mvT hZ (w74 hw)) (mvT hZ (w75 hw)) (notFace_of_selects (args := #[]) (mvT hZ (w77 hw))) (mvT hZ (w77 hw)) (mvT hZ (w76 hw)) (by decide) (backOf (W := 0) (rm13_2 l Z a0 hw [] a2 a20 h7 n0 O7 c8) hZ (w78 hw) (w7 hw) (by decide) (by decide)) q9a q9c (g := (mkF m 26 #[.val (.ref a1), .val (.ref a2)] [(.ref a2)])) rfl (by rw [hml]; rfl) (Steps.refl _) (argsL := []) (rest := []) (lenOf pd_4 rfl) rfl (by show 2 * 0 + _ ≤ _; exact Nat.le_of_eq rfl) (hb hby d6_26) (fun vm₁ hw₁ => ⟨rfl, e7, (by decide : 1 + 0 ≤ _), (by decide : 5 + 0 ≤ _)⟩)
  dsimp only [Pt.U, Pt.locs, Pt.cells, Pt.slots] at X9 l9 y9 z9 st9 hQ9
  subst l9 y9 z9
  obtain ⟨rfl, M9, eh9⟩ := hQ9
  have N9 := Fr.app N7 M9
  refine Go.tr st9 ?_
  show Go p e below _ (T9.setTop (mkF m 29 #[.val (.ref a1), .val (.ref a2)] [(.ref a20)]))
  refine Go.st (fun t k => XS.ifnullNo X9.here hx rfl (hb hby d6_29) rfl k) ?_
  show Go p e below _ (T9.setTop (mkF m 32 #[.val (.ref a1), .val (.ref a2)] []))
  refine Go.st (fun t k => XS.aloadN X9.here hx rfl (hb hby d6_32) rfl rfl k) ?_
  show Go p e below _ (T9.setTop (mkF m 33 #[.val (.ref a1), .val (.ref a2)] [(.ref a1)]))
  refine Go.st (fun t k => XS.aloadN X9.here hx rfl (hb hby d6_33) rfl rfl k) ?_
  show Go p e below _ (T9.setTop (mkF m 34 #[.val (.ref a1), .val (.ref a2)] [(.ref a1), (.ref a1)]))
  have c10 := (((P55.other W2 (Or.inr (slot_ne (Or.inl (w38 hw)) (Or.inl (w45 hw)) (by decide) (t := (.object "java/math/BigDecimal")) (t' := .int) (by decide) (by decide)))).keep K6c nin0).other W7 (Or.inr (slot_ne (Or.inl (w38 hw)) (Or.inl (w36 hw)) (by decide) (t := (.object "java/math/BigDecimal")) (t' := (.object "java/math/BigDecimal")) (by decide) (by decide))))
  obtain ⟨T11, X11, e11, st11⟩ := getF X9 hx hZ hown (host := "") (Or.inl (w37 hw)) Via.refl eh9 c10 (g := (mkF m 34 #[.val (.ref a1), .val (.ref a2)] [(.ref a1), (.ref a1)])) rfl rfl (hb hby d6_34)
  refine Go.st st11 ?_
  show Go p e below _ (T11.setTop (mkF m 37 #[.val (.ref a1), .val (.ref a2)] [(.ref a21), (.ref a1)]))
  refine Go.st (fun t k => XS.aloadN X11.here hx rfl (hb hby d6_37) rfl rfl k) ?_
  show Go p e below _ (T11.setTop (mkF m 38 #[.val (.ref a1), .val (.ref a2)] [(.ref a2), (.ref a21), (.ref a1)]))
  obtain ⟨cq12, kq12, q12a, q12b, q12c⟩ := isOf hZ e11 (((P5.wr W2).keep K6c).wr W7)
  obtain ⟨_, _, ⟨T12, L12, k12, n12⟩, -, X12, ⟨Lc12, hQ12, l12, y12, z12⟩, st12⟩ := X11.virtualBack hx (y := (⟨"com/example/cropmark/cropmark/Weights", "inedibleLb", "()Ljava/math/BigDecimal;"⟩ : MethodName)) (z := (⟨"com/example/cropmark/cropmark/Weights", "inedibleLb", "()Ljava/math/BigDecimal;"⟩ : MethodName)) hown (mvT hZ (w74 hw)) (mvT hZ (w75 hw)) (notFace_of_selects (args := #[]) (mvT hZ (w77 hw))) (mvT hZ (w77 hw)) (mvT hZ (w76 hw)) (by decide) (backOf (W := 2) (rm13_2 l Z a0 hw [] a2 a20 h7 n0 O7 c8) hZ (w78 hw) (w7 hw) (by decide) (by decide)) q12a q12c (g := (mkF m 38 #[.val (.ref a1), .val (.ref a2)] [(.ref a2), (.ref a21), (.ref a1)])) rfl (by rw [hml]; rfl) (Steps.refl _) (argsL := []) (rest := [(.ref a21), (.ref a1)]) (lenOf pd_4 rfl) rfl (by show 2 * 0 + _ ≤ _; exact Nat.le_of_eq rfl) (hb hby d6_38) (fun vm₁ hw₁ => ⟨rfl, e11, (by decide : 1 + 0 ≤ _), (by decide : 5 + 0 ≤ _)⟩)
  dsimp only [Pt.U, Pt.locs, Pt.cells, Pt.slots] at X12 l12 y12 z12 st12 hQ12
  subst l12 y12 z12
  obtain ⟨rfl, M12, eh12⟩ := hQ12
  have N12 := Fr.app N9 M12
  refine Go.tr st12 ?_
  show Go p e below _ (T12.setTop (mkF m 41 #[.val (.ref a1), .val (.ref a2)] [(.ref a20), (.ref a21), (.ref a1)]))
  have c13 := (((P57.other W2 (Or.inl P65)).keep K6c nin0).other W7 (Or.inl P65))
  have c14 := (((P59.other W2 (Or.inl P66)).keep K6c nin0).other W7 (Or.inl P66))
  have c15 := (((P61.other W2 (Or.inl P65)).keep K6c nin0).other W7 (Or.inl P65))
  have c16 := (((P62.other W2 (Or.inl P66)).keep K6c nin0).other W7 (Or.inl P66))
  obtain ⟨cq17, kq17, q17a, q17b, q17c⟩ := isOf hZ eh12 (((P56.wr W2).keep K6c).wr W7)
  obtain ⟨_, _, ⟨T17, L17, k17, n17⟩, -, X17, ⟨Lc17, hQ17, l17, y17, z17⟩, st17⟩ := X12.virtualBack hx (y := (⟨"java/math/BigDecimal", "add", "(Ljava/math/BigDecimal;)Ljava/math/BigDecimal;"⟩ : MethodName)) (z := (⟨"java/math/BigDecimal", "add", "(Ljava/math/BigDecimal;)Ljava/math/BigDecimal;"⟩ : MethodName)) hown (mvT hZ (w51 hw)) (mvT hZ (w52 hw)) (notFace_of_selects (args := #[]) (mvT hZ (w54 hw))) (mvT hZ (w54 hw)) (mvT hZ (w53 hw)) (by decide) (backOf (W := 1) (rm8_2 l Z a0 hw [] a21 a20 q22 q23 a7 k8 a9 a10 a11 a12 a13 a14 a15 a16 a17 a18 a19 h7 n0 O7 c13 P58 c14 P60 c15 c16 P63 P64 P17 P18 P19 P20 P21 P22 P23 P24 P25 P26 P27 P28 P29 P30 P31 P32 P33 P34 P35 P36 P37 P38 P39 P40 P41 P42 P43 P44 P45 P46 P47 P48 P49 P50 P51) hZ (w55 hw) (w2 hw) (by decide) (by decide)) q17a q17c (g := (mkF m 41 #[.val (.ref a1), .val (.ref a2)] [(.ref a20), (.ref a21), (.ref a1)])) rfl (by rw [hml]; rfl) (Steps.refl _) (argsL := [(.ref a20)]) (rest := [(.ref a1)]) (lenOf pd_9 rfl) rfl (by show 2 * 0 + _ ≤ _; exact Nat.le_of_eq rfl) (hb hby d6_41) (fun vm₁ hw₁ => ⟨rfl, eh12, (by decide : 1 + 1 ≤ _), (by decide : 5 + 5 ≤ _)⟩)
  dsimp only [Pt.U, Pt.locs, Pt.cells, Pt.slots] at X17 l17 y17 z17 st17 hQ17
  subst l17 y17 z17
  obtain ⟨bv_1_2_1_7_17, rfl, M17, K17c, r17_0, r17_1, r17_2⟩ := hQ17
  have N17 := Fr.app N12 M17
  have O17 : Old Z n0 T17.heap := O7.keep K17c all0
  have K17 : Keep h0 T17.heap [a1] := K7.trans K17c all0
  refine Go.tr st17 ?_
  show Go p e below _ (T17.setTop (mkF m 44 #[.val (.ref a1), .val (.ref a2)] [(.ref bv_1_2_1_7_17), (.ref a1)]))
  have c18 := ((((P2.wr W2).keep K6c).wr W7).keep K17c)
  obtain ⟨T19, h19, X19, e19, W19, st19⟩ := putF X17 hx hZ hown (host := "") (Or.inl (w37 hw)) Via.refl rfl (c10.keep K17c nin0) c18 (Or.inl (w38 hw)) (w28 hw) (ty := (.object "java/math/BigDecimal")) (by decide) rfl rfl (g := (mkF m 44 #[.val (.ref a1), .val (.ref a2)] [(.ref bv_1_2_1_7_17), (.ref a1)])) rfl rfl (hb hby d6_44)
  have F19 : Fld Z h19 a1 "com/example/cropmark/cropmark/Assessment$Sums" "inedibleLb" "Ljava/math/BigDecimal;" (.ref bv_1_2_1_7_17) := (c10.keep K17c nin0).same W19
  have N19 := Fr.snoc X19 N17 P3
  have O19 : Old Z n0 h19 := O17.wr W19 P3
  have K19 : Keep h0 h19 [a1] := K17.wr W19 (Or.inl (List.mem_of_getElem? (i := 0) rfl))
  refine Go.st st19 ?_
  show Go p e below _ (T19.setTop (mkF m 47 #[.val (.ref a1), .val (.ref a2)] []))
  obtain ⟨fs, hr, hrun, hended, hWd, hsame⟩ := X19.leave (v := none) (fun _ => rfl)
  have c20 := ((((F2.keep K6c nin0).other W7 (Or.inr (slot_ne (Or.inl (w45 hw)) (Or.inl (w36 hw)) (by decide) (t := .int) (t' := (.object "java/math/BigDecimal")) (by decide) (by decide)))).keep K17c nin0).other W19 (Or.inr (slot_ne (Or.inl (w45 hw)) (Or.inl (w38 hw)) (by decide) (t := .int) (t' := (.object "java/math/BigDecimal")) (by decide) (by decide))))
  have c21 := ((F7.keep K17c nin0).other W19 (Or.inr (slot_ne (Or.inl (w36 hw)) (Or.inl (w38 hw)) (by decide) (t := (.object "java/math/BigDecimal")) (t' := (.object "java/math/BigDecimal")) (by decide) (by decide))))
  have c22 := (((r6_1.other W7 (Or.inl (ne_exa (((r6_0.wr W7).keep K17c).wr W19) (c18.wr W19) (by decide)))).keep K17c nin0).other W19 (Or.inl (ne_exa (((r6_0.wr W7).keep K17c).wr W19) (c18.wr W19) (by decide))))
  have c23 := (((r6_2.other W7 (Or.inl (ne_exa (((r6_0.wr W7).keep K17c).wr W19) (c18.wr W19) (by decide)))).keep K17c nin0).other W19 (Or.inl (ne_exa (((r6_0.wr W7).keep K17c).wr W19) (c18.wr W19) (by decide))))
  have c24 := (r17_1.other W19 (Or.inl (ne_exa (r17_0.wr W19) (c18.wr W19) (by decide))))
  have c25 := (r17_2.other W19 (Or.inl (ne_exa (r17_0.wr W19) (c18.wr W19) (by decide))))
  refine ⟨_, _, ?_, hrun, hended, _, _, rfl, ?_, ⟨⟨_, rfl⟩, hWd, hsame.mono (by decide) (by decide)⟩⟩
  · exact X19.returnOut hx Bd.returns (hb hby d6_47) hr
  · show Q_rm6_6 Z a1 a2 a3 a4 q5 q6 a7 k8 a9 a10 a11 a12 a13 a14 a15 a16 a17 a18 a19 a20 a21 q22 q23 h0 n0 _ T19.heap _
    rw [e19]
    exact ⟨bv_1_2_1_7_6, bv_1_2_1_7_17, rfl, N19, K19, c20, c21, F19, (((r6_0.wr W7).keep K17c).wr W19), c22, c23, (r17_0.wr W19), c24, c25⟩
def Q_rm0 (n0 : Nat) (v : Option Value) (L : List Loc) : Prop := v = some (.int (1 : Int32)) ∧ Fr n0 L
set_option maxRecDepth 65536 in
set_option maxHeartbeats 400000000 in
theorem rm0 (l : Launch) (Z : State) (a0 : Array Value) (hw : ∀ d ∈ tables_1, d.before a0 Z = true) (ws : List Jvm.Cond) (i0 : Int32) (i1 : Int32) (i2 : Int32) (i3 : Int32) (i4 : Int32) (i5 : Int32) (w1a : Addr) (w6a : Addr) (w24a : Addr) (w40a : Addr) (w56a : Addr) (w68a : Addr) (w80a : Addr) (w92a : Addr) (w104a : Addr) (w116a : Addr) (w128a : Addr) (w140a : Addr) (k4c : ClassId) (h0 : Heap) (n0 : Nat) (O0 : Old Z n0 h0) (Y3 : Sta Z Z.heap "java/math/BigDecimal" "ZERO_THROUGH_TEN" "[Ljava/math/BigDecimal;" (.ref w1a)) (Y10 : Sta Z Z.heap "java/math/BigDecimal" "ZERO" "Ljava/math/BigDecimal;" (.ref w6a)) (Y26 : Exa Z Z.heap w24a "java/math/BigDecimal") (Y42 : Exa Z Z.heap w40a "java/math/BigDecimal") (Y58 : Exa Z Z.heap w56a "java/math/BigDecimal") (Y70 : Exa Z Z.heap w68a "java/math/BigDecimal") (Y82 : Exa Z Z.heap w80a "java/math/BigDecimal") (Y94 : Exa Z Z.heap w92a "java/math/BigDecimal") (Y106 : Exa Z Z.heap w104a "java/math/BigDecimal") (Y118 : Exa Z Z.heap w116a "java/math/BigDecimal") (Y130 : Exa Z Z.heap w128a "java/math/BigDecimal") (Y142 : Exa Z Z.heap w140a "java/math/BigDecimal") (Y156 : Exa Z Z.heap w6a "java/math/BigDecimal") (Y170 : Fld Z Z.heap w24a "java/math/BigDecimal" "scale" "I" (.int (0 : Int32))) (Y172 : Fld Z Z.heap w24a "java/math/BigDecimal" "intCompact" "J" (.long (1 : Int64))) (Y176 : Fld Z Z.heap w40a "java/math/BigDecimal" "scale" "I" (.int (0 : Int32))) (Y178 : Fld Z Z.heap w40a "java/math/BigDecimal" "intCompact" "J" (.long (2 : Int64))) (Y182 : Fld Z Z.heap w56a "java/math/BigDecimal" "scale" "I" (.int (0 : Int32))) (Y184 : Fld Z Z.heap w56a "java/math/BigDecimal" "intCompact" "J" (.long (3 : Int64))) (Y188 : Fld Z Z.heap w68a "java/math/BigDecimal" "scale" "I" (.int (0 : Int32))) (Y190 : Fld Z Z.heap w68a "java/math/BigDecimal" "intCompact" "J" (.long (4 : Int64))) (Y194 : Fld Z Z.heap w80a "java/math/BigDecimal" "scale" "I" (.int (0 : Int32))) (Y196 : Fld Z Z.heap w80a "java/math/BigDecimal" "intCompact" "J" (.long (5 : Int64))) (Y200 : Fld Z Z.heap w92a "java/math/BigDecimal" "scale" "I" (.int (0 : Int32))) (Y202 : Fld Z Z.heap w92a "java/math/BigDecimal" "intCompact" "J" (.long (6 : Int64))) (Y206 : Fld Z Z.heap w104a "java/math/BigDecimal" "scale" "I" (.int (0 : Int32))) (Y208 : Fld Z Z.heap w104a "java/math/BigDecimal" "intCompact" "J" (.long (7 : Int64))) (Y212 : Fld Z Z.heap w116a "java/math/BigDecimal" "scale" "I" (.int (0 : Int32))) (Y214 : Fld Z Z.heap w116a "java/math/BigDecimal" "intCompact" "J" (.long (8 : Int64))) (Y218 : Fld Z Z.heap w128a "java/math/BigDecimal" "scale" "I" (.int (0 : Int32))) (Y220 : Fld Z Z.heap w128a "java/math/BigDecimal" "intCompact" "J" (.long (9 : Int64))) (Y224 : Fld Z Z.heap w140a "java/math/BigDecimal" "scale" "I" (.int (0 : Int32))) (Y226 : Fld Z Z.heap w140a "java/math/BigDecimal" "intCompact" "J" (.long (10 : Int64))) (Y230 : Fld Z Z.heap w6a "java/math/BigDecimal" "scale" "I" (.int (0 : Int32))) (Y232 : Fld Z Z.heap w6a "java/math/BigDecimal" "intCompact" "J" (.long (0 : Int64))) (Y235 : Arv Z Z.heap w1a k4c (.object "java/math/BigDecimal") (11 : Int32) [(.ref w6a), (.ref w24a), (.ref w40a), (.ref w56a), (.ref w68a), (.ref w80a), (.ref w92a), (.ref w104a), (.ref w116a), (.ref w128a), (.ref w140a)] .null) :
    MetFree l x (head1 (Jvm.Cond.code x code maxLocals ret :: ws) room_1) (fun a U => a = #[(.int i0), (.int i1), (.int i2), (.int i3), (.int i4), (.int i5)] ∧ Z.Warmed39 U.vm ∧ U.heap = h0) (fun _ _ _ _ _ => True) (fun _ U o U' => ∃ v L, o = .returned v ∧ Q_rm0 n0 v L ∧ FrameEnd U o U' L room_1.cells room_1.slots) := by
  refine MetFree.of_bodySF (plainFor_of_name pn_5) hisR ?_
  intro p e s m args below meth c s₁ Bd hml0 hP hK
  obtain ⟨rfl, hZ, hh⟩ := hP
  have hx := Bd.exec
  have hby := Bd.bytes
  have hml : c.maxLocals = 16 := hml0
  have hown : s.vm.findClass "com/example/cropmark/cropmark/SumsAddPinLaw" = some m.cls := findClass_of_methodNamed Bd.named
  have hnm := (name_of_methodNamed Bd.named Bd.method).1
  have X0 : Stand p l e room_1 s m #[(.int i0), (.int i1), (.int i2), (.int i3), (.int i4), (.int i5)] below meth c s₁ [] 0 0 := Stand.of_body Bd
  have e0 : s₁.heap = h0 := by rw [← hh, Bd.state]; rfl
  have N0 := Fr.nil n0
  refine Go.start (P := (fun o U' => ∃ v L, o = .returned v ∧ Q_rm0 n0 v L ∧ FrameEnd s o U' L room_1.cells room_1.slots)) (castTop (g' := (mkF m 0 #[.val (.int i0), .val (.int i1), .val (.int i2), .val (.int i3), .val (.int i4), .val (.int i5), .unset, .unset, .unset, .unset, .unset, .unset, .unset, .unset, .unset, .unset] [])) (by first | rfl | simp [entryFrame, mkF, argsToLocals, Value.category, maxLocals]) (T := s₁)) ?_
  refine Go.st (fun t k => XS.iload X0.here hx rfl (hb hby at_0) rfl k) ?_
  show Go p e below _ (s₁.setTop (mkF m 2 #[.val (.int i0), .val (.int i1), .val (.int i2), .val (.int i3), .val (.int i4), .val (.int i5), .unset, .unset, .unset, .unset, .unset, .unset, .unset, .unset, .unset, .unset] [(.int i5)]))
  refine Go.st (fun t k => XS.iconst X0.here hx rfl (hb hby at_2) k) ?_
  show Go p e below _ (s₁.setTop (mkF m 3 #[.val (.int i0), .val (.int i1), .val (.int i2), .val (.int i3), .val (.int i4), .val (.int i5), .unset, .unset, .unset, .unset, .unset, .unset, .unset, .unset, .unset, .unset] [(.int (1 : Int32)), (.int i5)]))
  refine Go.st (fun t k => XS.iand X0.here hx rfl (hb hby at_3) rfl k) ?_
  show Go p e below _ (s₁.setTop (mkF m 4 #[.val (.int i0), .val (.int i1), .val (.int i2), .val (.int i3), .val (.int i4), .val (.int i5), .unset, .unset, .unset, .unset, .unset, .unset, .unset, .unset, .unset, .unset] [(.int (i5 &&& (1 : Int32)))]))
  by_cases hc1 : (i5 &&& (1 : Int32)) = (0 : Int32)
  · refine Go.st (fun t k => XS.ifYes X0.here hx rfl (pc0 := 4) (pc' := 11) rfl (hb hby at_4) rfl (Jvm.Free.XT.i0_eq_t hc1) (by decide) (by decide) k) ?_
    show Go p e below _ (s₁.setTop (mkF m 11 #[.val (.int i0), .val (.int i1), .val (.int i2), .val (.int i3), .val (.int i4), .val (.int i5), .unset, .unset, .unset, .unset, .unset, .unset, .unset, .unset, .unset, .unset] []))
    refine Go.st (fun t k => XS.iconst X0.here hx rfl (hb hby at_11) k) ?_
    show Go p e below _ (s₁.setTop (mkF m 12 #[.val (.int i0), .val (.int i1), .val (.int i2), .val (.int i3), .val (.int i4), .val (.int i5), .unset, .unset, .unset, .unset, .unset, .unset, .unset, .unset, .unset, .unset] [(.int (0 : Int32))]))
    refine Go.st (fun t k => XS.istore X0.here hx rfl (hb hby at_12) rfl (l' := #[.val (.int i0), .val (.int i1), .val (.int i2), .val (.int i3), .val (.int i4), .val (.int i5), .val (.int (0 : Int32)), .unset, .unset, .unset, .unset, .unset, .unset, .unset, .unset, .unset]) rfl k) ?_
    show Go p e below _ (s₁.setTop (mkF m 14 #[.val (.int i0), .val (.int i1), .val (.int i2), .val (.int i3), .val (.int i4), .val (.int i5), .val (.int (0 : Int32)), .unset, .unset, .unset, .unset, .unset, .unset, .unset, .unset, .unset] []))
    refine Go.st (fun t k => XS.iload X0.here hx rfl (hb hby at_14) rfl k) ?_
    show Go p e below _ (s₁.setTop (mkF m 16 #[.val (.int i0), .val (.int i1), .val (.int i2), .val (.int i3), .val (.int i4), .val (.int i5), .val (.int (0 : Int32)), .unset, .unset, .unset, .unset, .unset, .unset, .unset, .unset, .unset] [(.int i5)]))
    refine Go.st (fun t k => XS.iconst X0.here hx rfl (hb hby at_16) k) ?_
    show Go p e below _ (s₁.setTop (mkF m 17 #[.val (.int i0), .val (.int i1), .val (.int i2), .val (.int i3), .val (.int i4), .val (.int i5), .val (.int (0 : Int32)), .unset, .unset, .unset, .unset, .unset, .unset, .unset, .unset, .unset] [(.int (2 : Int32)), (.int i5)]))
    refine Go.st (fun t k => XS.iand X0.here hx rfl (hb hby at_17) rfl k) ?_
    show Go p e below _ (s₁.setTop (mkF m 18 #[.val (.int i0), .val (.int i1), .val (.int i2), .val (.int i3), .val (.int i4), .val (.int i5), .val (.int (0 : Int32)), .unset, .unset, .unset, .unset, .unset, .unset, .unset, .unset, .unset] [(.int (i5 &&& (2 : Int32)))]))
    by_cases hc2 : (i5 &&& (2 : Int32)) = (0 : Int32)
    · refine Go.st (fun t k => XS.ifYes X0.here hx rfl (pc0 := 18) (pc' := 25) rfl (hb hby at_18) rfl (Jvm.Free.XT.i0_eq_t hc2) (by decide) (by decide) k) ?_
      show Go p e below _ (s₁.setTop (mkF m 25 #[.val (.int i0), .val (.int i1), .val (.int i2), .val (.int i3), .val (.int i4), .val (.int i5), .val (.int (0 : Int32)), .unset, .unset, .unset, .unset, .unset, .unset, .unset, .unset, .unset] []))
      refine Go.st (fun t k => XS.iconst X0.here hx rfl (hb hby at_25) k) ?_
      show Go p e below _ (s₁.setTop (mkF m 26 #[.val (.int i0), .val (.int i1), .val (.int i2), .val (.int i3), .val (.int i4), .val (.int i5), .val (.int (0 : Int32)), .unset, .unset, .unset, .unset, .unset, .unset, .unset, .unset, .unset] [(.int (0 : Int32))]))
      refine Go.st (fun t k => XS.istore X0.here hx rfl (hb hby at_26) rfl (l' := #[.val (.int i0), .val (.int i1), .val (.int i2), .val (.int i3), .val (.int i4), .val (.int i5), .val (.int (0 : Int32)), .val (.int (0 : Int32)), .unset, .unset, .unset, .unset, .unset, .unset, .unset, .unset]) rfl k) ?_
      show Go p e below _ (s₁.setTop (mkF m 28 #[.val (.int i0), .val (.int i1), .val (.int i2), .val (.int i3), .val (.int i4), .val (.int i5), .val (.int (0 : Int32)), .val (.int (0 : Int32)), .unset, .unset, .unset, .unset, .unset, .unset, .unset, .unset] []))
      refine Go.st (fun t k => XS.iload X0.here hx rfl (hb hby at_28) rfl k) ?_
      show Go p e below _ (s₁.setTop (mkF m 30 #[.val (.int i0), .val (.int i1), .val (.int i2), .val (.int i3), .val (.int i4), .val (.int i5), .val (.int (0 : Int32)), .val (.int (0 : Int32)), .unset, .unset, .unset, .unset, .unset, .unset, .unset, .unset] [(.int i4)]))
      refine Go.st (fun t k => XS.i2l X0.here hx rfl (hb hby at_30) rfl k) ?_
      show Go p e below _ (s₁.setTop (mkF m 31 #[.val (.int i0), .val (.int i1), .val (.int i2), .val (.int i3), .val (.int i4), .val (.int i5), .val (.int (0 : Int32)), .val (.int (0 : Int32)), .unset, .unset, .unset, .unset, .unset, .unset, .unset, .unset] [(.long (i4.toInt64))]))
      have hp3 : ¬ ((i4.toInt64) = (-9223372036854775808 : Int64)) := by
        have j1 := own_b32 i4
        have j2 := own_b64 (i4.toInt64)
        have j3 := c_i2l i4
        have j4 : ((-9223372036854775808 : Int64)).toInt = -9223372036854775808 := by decide
        rw [← Int64.toInt_inj]
        omega
      obtain ⟨_, _, ⟨T4, L4, k4, n4⟩, -, X4, ⟨Lc4, hQ4, l4, y4, z4⟩, st4⟩ := Jvm.LawKit.callS X0 hx (y := (⟨"java/math/BigDecimal", "valueOf", "(J)Ljava/math/BigDecimal;"⟩ : MethodName)) hown (mvT hZ (w0 hw)) (mvT hZ (w1 hw)) (mvT hZ (w2 hw)) (mvT hZ (w3 hw)) (by decide) (backOf (W := 0) (rmV l Z a0 hw [] (i4.toInt64) w1a k4c w6a w24a w40a w56a w68a w80a w92a w104a w116a w128a w140a h0 n0 O0 hp3 Y3 Y235 Y156 Y230 Y232 Y26 Y170 Y172 Y42 Y176 Y178 Y58 Y182 Y184 Y70 Y188 Y190 Y82 Y194 Y196 Y94 Y200 Y202 Y106 Y206 Y208 Y118 Y212 Y214 Y130 Y218 Y220 Y142 Y224 Y226) hZ (w3 hw) (w2 hw) (by decide) (by decide)) (g := (mkF m 31 #[.val (.int i0), .val (.int i1), .val (.int i2), .val (.int i3), .val (.int i4), .val (.int i5), .val (.int (0 : Int32)), .val (.int (0 : Int32)), .unset, .unset, .unset, .unset, .unset, .unset, .unset, .unset] [(.long (i4.toInt64))])) rfl (by rw [hml]; rfl) (argsL := [(.long (i4.toInt64))]) (rest := []) (lenOf pd_2 rfl) rfl (by show 2 * 0 + _ ≤ _; exact Nat.le_of_eq rfl) (hb hby at_31) (fun vm₁ hw₁ => ⟨rfl, e0, (by decide : 0 + 1 ≤ _), (by decide : 0 + 5 ≤ _)⟩)
      dsimp only [Pt.U, Pt.locs, Pt.cells, Pt.slots] at X4 l4 y4 z4 st4 hQ4
      subst l4 y4 z4
      obtain ⟨bv_4, rfl, M4, K4c, r4_0, r4_1, r4_2⟩ := hQ4
      have N4 := Fr.app N0 M4
      have O4 : Old Z n0 T4.heap := O0.keep K4c all0
      refine Go.st st4 ?_
      show Go p e below _ (T4.setTop (mkF m 34 #[.val (.int i0), .val (.int i1), .val (.int i2), .val (.int i3), .val (.int i4), .val (.int i5), .val (.int (0 : Int32)), .val (.int (0 : Int32)), .unset, .unset, .unset, .unset, .unset, .unset, .unset, .unset] [(.ref bv_4)]))
      refine Go.st (fun t k => XS.astore X4.here hx rfl (hb hby at_34) rfl rfl (l' := #[.val (.int i0), .val (.int i1), .val (.int i2), .val (.int i3), .val (.int i4), .val (.int i5), .val (.int (0 : Int32)), .val (.int (0 : Int32)), .val (.ref bv_4), .unset, .unset, .unset, .unset, .unset, .unset, .unset]) rfl k) ?_
      show Go p e below _ (T4.setTop (mkF m 36 #[.val (.int i0), .val (.int i1), .val (.int i2), .val (.int i3), .val (.int i4), .val (.int i5), .val (.int (0 : Int32)), .val (.int (0 : Int32)), .val (.ref bv_4), .unset, .unset, .unset, .unset, .unset, .unset, .unset] []))
      obtain ⟨T5, h5, X5, e5, E5, A5, D5, -, st5⟩ := newO X4 hx hZ hown (w5 hw) (w6 hw) (w7 hw) rfl (g := (mkF m 36 #[.val (.int i0), .val (.int i1), .val (.int i2), .val (.int i3), .val (.int i4), .val (.int i5), .val (.int (0 : Int32)), .val (.int (0 : Int32)), .val (.ref bv_4), .unset, .unset, .unset, .unset, .unset, .unset, .unset] [])) rfl (hb hby at_36) (by decide) (by decide)
      obtain ⟨b5, z5⟩ : ∃ z, z = T4.heap.size := ⟨_, rfl⟩
      rw [← z5] at A5 D5 st5
      have g_b5 : n0 ≤ b5 := Nat.le_trans (own_n0 O4) (Nat.le_of_eq z5.symm)
      have O5 : Old Z n0 h5 := O4.ext E5
      have f5_20 : Fld Z h5 b5 "com/example/cropmark/cropmark/Weights" "edibleLb" "Ljava/math/BigDecimal;" .null := D5 (Or.inr (w20 hw)) (ty := (.object "java/math/BigDecimal")) (by decide)
      have f5_22 : Fld Z h5 b5 "com/example/cropmark/cropmark/Weights" "inedibleLb" "Ljava/math/BigDecimal;" .null := D5 (Or.inr (w22 hw)) (ty := (.object "java/math/BigDecimal")) (by decide)
      have f5_24 : Fld Z h5 b5 "com/example/cropmark/cropmark/Weights" "factor" "Ljava/math/BigDecimal;" .null := D5 (Or.inr (w24 hw)) (ty := (.object "java/math/BigDecimal")) (by decide)
      have f5_26 : Fld Z h5 b5 "com/example/cropmark/cropmark/Weights" "assessedLb" "Ljava/math/BigDecimal;" .null := D5 (Or.inr (w26 hw)) (ty := (.object "java/math/BigDecimal")) (by decide)
      refine Go.st st5 ?_
      show Go p e below _ (T5.setTop (mkF m 39 #[.val (.int i0), .val (.int i1), .val (.int i2), .val (.int i3), .val (.int i4), .val (.int i5), .val (.int (0 : Int32)), .val (.int (0 : Int32)), .val (.ref bv_4), .unset, .unset, .unset, .unset, .unset, .unset, .unset] [(.ref b5)]))
      refine Go.st (fun t k => XS.dup X5.here hx rfl (hb hby at_39) rfl rfl k) ?_
      show Go p e below _ (T5.setTop (mkF m 40 #[.val (.int i0), .val (.int i1), .val (.int i2), .val (.int i3), .val (.int i4), .val (.int i5), .val (.int (0 : Int32)), .val (.int (0 : Int32)), .val (.ref bv_4), .unset, .unset, .unset, .unset, .unset, .unset, .unset] [(.ref b5), (.ref b5)]))
      refine Go.st (fun t k => XS.aload X5.here hx rfl (hb hby at_40) rfl rfl k) ?_
      show Go p e below _ (T5.setTop (mkF m 42 #[.val (.int i0), .val (.int i1), .val (.int i2), .val (.int i3), .val (.int i4), .val (.int i5), .val (.int (0 : Int32)), .val (.int (0 : Int32)), .val (.ref bv_4), .unset, .unset, .unset, .unset, .unset, .unset, .unset] [(.ref bv_4), (.ref b5), (.ref b5)]))
      refine Go.st (fun t k => XS.iload X5.here hx rfl (hb hby at_42) rfl k) ?_
      show Go p e below _ (T5.setTop (mkF m 44 #[.val (.int i0), .val (.int i1), .val (.int i2), .val (.int i3), .val (.int i4), .val (.int i5), .val (.int (0 : Int32)), .val (.int (0 : Int32)), .val (.ref bv_4), .unset, .unset, .unset, .unset, .unset, .unset, .unset] [(.int (0 : Int32)), (.ref bv_4), (.ref b5), (.ref b5)]))
      refine Go.st (fun t k => XS.ifYes X5.here hx rfl (pc0 := 44) (pc' := 55) rfl (hb hby at_44) rfl (Jvm.Free.XT.i0_eq_t (by decide : (0 : Int32) = (0 : Int32))) (by decide) (by decide) k) ?_
      show Go p e below _ (T5.setTop (mkF m 55 #[.val (.int i0), .val (.int i1), .val (.int i2), .val (.int i3), .val (.int i4), .val (.int i5), .val (.int (0 : Int32)), .val (.int (0 : Int32)), .val (.ref bv_4), .unset, .unset, .unset, .unset, .unset, .unset, .unset] [(.ref bv_4), (.ref b5), (.ref b5)]))
      refine Go.st (fun t k => XS.aconstNull X5.here hx rfl (hb hby at_55) k) ?_
      show Go p e below _ (T5.setTop (mkF m 56 #[.val (.int i0), .val (.int i1), .val (.int i2), .val (.int i3), .val (.int i4), .val (.int i5), .val (.int (0 : Int32)), .val (.int (0 : Int32)), .val (.ref bv_4), .unset, .unset, .unset, .unset, .unset, .unset, .unset] [.null, (.ref bv_4), (.ref b5), (.ref b5)]))
      refine Go.st (fun t k => XS.aconstNull X5.here hx rfl (hb hby at_56) k) ?_
      show Go p e below _ (T5.setTop (mkF m 57 #[.val (.int i0), .val (.int i1), .val (.int i2), .val (.int i3), .val (.int i4), .val (.int i5), .val (.int (0 : Int32)), .val (.int (0 : Int32)), .val (.ref bv_4), .unset, .unset, .unset, .unset, .unset, .unset, .unset] [.null, .null, (.ref bv_4), (.ref b5), (.ref b5)]))
      refine Go.st (fun t k => XS.iloadN X5.here hx rfl (hb hby at_57) rfl k) ?_
      show Go p e below _ (T5.setTop (mkF m 58 #[.val (.int i0), .val (.int i1), .val (.int i2), .val (.int i3), .val (.int i4), .val (.int i5), .val (.int (0 : Int32)), .val (.int (0 : Int32)), .val (.ref bv_4), .unset, .unset, .unset, .unset, .unset, .unset, .unset] [(.int i0), .null, .null, (.ref bv_4), (.ref b5), (.ref b5)]))
      refine Go.st (fun t k => XS.i2l X5.here hx rfl (hb hby at_58) rfl k) ?_
      show Go p e below _ (T5.setTop (mkF m 59 #[.val (.int i0), .val (.int i1), .val (.int i2), .val (.int i3), .val (.int i4), .val (.int i5), .val (.int (0 : Int32)), .val (.int (0 : Int32)), .val (.ref bv_4), .unset, .unset, .unset, .unset, .unset, .unset, .unset] [(.long (i0.toInt64)), .null, .null, (.ref bv_4), (.ref b5), (.ref b5)]))
      have hp6 : ¬ ((i0.toInt64) = (-9223372036854775808 : Int64)) := by
        have j1 := own_b32 i0
        have j2 := own_b64 (i0.toInt64)
        have j3 := c_i2l i0
        have j4 : ((-9223372036854775808 : Int64)).toInt = -9223372036854775808 := by decide
        rw [← Int64.toInt_inj]
        omega
      obtain ⟨_, _, ⟨T7, L7, k7, n7⟩, -, X7, ⟨Lc7, hQ7, l7, y7, z7⟩, st7⟩ := Jvm.LawKit.callS X5 hx (y := (⟨"java/math/BigDecimal", "valueOf", "(J)Ljava/math/BigDecimal;"⟩ : MethodName)) hown (mvT hZ (w0 hw)) (mvT hZ (w1 hw)) (mvT hZ (w2 hw)) (mvT hZ (w3 hw)) (by decide) (backOf (W := 5) (rmV l Z a0 hw [] (i0.toInt64) w1a k4c w6a w24a w40a w56a w68a w80a w92a w104a w116a w128a w140a h5 n0 O5 hp6 Y3 Y235 Y156 Y230 Y232 Y26 Y170 Y172 Y42 Y176 Y178 Y58 Y182 Y184 Y70 Y188 Y190 Y82 Y194 Y196 Y94 Y200 Y202 Y106 Y206 Y208 Y118 Y212 Y214 Y130 Y218 Y220 Y142 Y224 Y226) hZ (w3 hw) (w2 hw) (by decide) (by decide)) (g := (mkF m 59 #[.val (.int i0), .val (.int i1), .val (.int i2), .val (.int i3), .val (.int i4), .val (.int i5), .val (.int (0 : Int32)), .val (.int (0 : Int32)), .val (.ref bv_4), .unset, .unset, .unset, .unset, .unset, .unset, .unset] [(.long (i0.toInt64)), .null, .null, (.ref bv_4), (.ref b5), (.ref b5)])) rfl (by rw [hml]; rfl) (argsL := [(.long (i0.toInt64))]) (rest := [.null, .null, (.ref bv_4), (.ref b5), (.ref b5)]) (lenOf pd_2 rfl) rfl (by show 2 * 0 + _ ≤ _; exact Nat.le_of_eq rfl) (hb hby at_59) (fun vm₁ hw₁ => ⟨rfl, e5, (by decide : 2 + 1 ≤ _), (by decide : 9 + 5 ≤ _)⟩)
      dsimp only [Pt.U, Pt.locs, Pt.cells, Pt.slots] at X7 l7 y7 z7 st7 hQ7
      subst l7 y7 z7
      obtain ⟨bv_7, rfl, M7, K7c, r7_0, r7_1, r7_2⟩ := hQ7
      have N7 := Fr.app N4 M7
      have O7 : Old Z n0 T7.heap := O5.keep K7c all0
      refine Go.st st7 ?_
      show Go p e below _ (T7.setTop (mkF m 62 #[.val (.int i0), .val (.int i1), .val (.int i2), .val (.int i3), .val (.int i4), .val (.int i5), .val (.int (0 : Int32)), .val (.int (0 : Int32)), .val (.ref bv_4), .unset, .unset, .unset, .unset, .unset, .unset, .unset] [(.ref bv_7), .null, .null, (.ref bv_4), (.ref b5), (.ref b5)]))
      obtain ⟨_, _, ⟨T8, L8, k8, n8⟩, -, X8, ⟨Lc8, hQ8, l8, y8, z8⟩, st8⟩ := X7.specialBack hx (y := (⟨"com/example/cropmark/cropmark/Weights", "<init>", "(Ljava/math/BigDecimal;Ljava/math/BigDecimal;Ljava/math/BigDecimal;Ljava/math/BigDecimal;)V"⟩ : MethodName)) rfl hown (mvT hZ (w8 hw)) (mvT hZ (w9 hw)) (mvT hZ (w10 hw)) (by decide) (backOf (W := 1) (rm2_1 l Z a0 hw [] b5 bv_4 bv_7 T7.heap n0 O7 (A5.keep K7c) (f5_20.keep K7c nin0) g_b5 (f5_22.keep K7c nin0) (f5_24.keep K7c nin0) (f5_26.keep K7c nin0)) hZ (w10 hw) (w7 hw) (by decide) (by decide)) (g := (mkF m 62 #[.val (.int i0), .val (.int i1), .val (.int i2), .val (.int i3), .val (.int i4), .val (.int i5), .val (.int (0 : Int32)), .val (.int (0 : Int32)), .val (.ref bv_4), .unset, .unset, .unset, .unset, .unset, .unset, .unset] [(.ref bv_7), .null, .null, (.ref bv_4), (.ref b5), (.ref b5)])) rfl (by rw [hml]; rfl) (Steps.refl _) (a := b5) (argsL := [(.ref bv_4), .null, .null, (.ref bv_7)]) (rest := [(.ref b5)]) (lenOf pd_3 rfl) rfl (by show 2 * 0 + _ ≤ _; exact Nat.le_of_eq rfl) (hb hby at_62) (fun vm₁ hw₁ => ⟨rfl, rfl, (by decide : 3 + 0 ≤ _), (by decide : 14 + 0 ≤ _)⟩)
      dsimp only [Pt.U, Pt.locs, Pt.cells, Pt.slots] at X8 l8 y8 z8 st8 hQ8
      subst l8 y8 z8
      obtain ⟨rfl, M8, K8c, r8_0, r8_1, r8_2, r8_3⟩ := hQ8
      have N8 := Fr.app N7 M8
      have O8 : Old Z n0 T8.heap := O7.keep K8c (allS g_b5 all0)
      refine Go.tr st8 ?_
      show Go p e below _ (T8.setTop (mkF m 65 #[.val (.int i0), .val (.int i1), .val (.int i2), .val (.int i3), .val (.int i4), .val (.int i5), .val (.int (0 : Int32)), .val (.int (0 : Int32)), .val (.ref bv_4), .unset, .unset, .unset, .unset, .unset, .unset, .unset] [(.ref b5)]))
      refine Go.st (fun t k => XS.astore X8.here hx rfl (hb hby at_65) rfl rfl (l' := #[.val (.int i0), .val (.int i1), .val (.int i2), .val (.int i3), .val (.int i4), .val (.int i5), .val (.int (0 : Int32)), .val (.int (0 : Int32)), .val (.ref bv_4), .val (.ref b5), .unset, .unset, .unset, .unset, .unset, .unset]) rfl k) ?_
      show Go p e below _ (T8.setTop (mkF m 67 #[.val (.int i0), .val (.int i1), .val (.int i2), .val (.int i3), .val (.int i4), .val (.int i5), .val (.int (0 : Int32)), .val (.int (0 : Int32)), .val (.ref bv_4), .val (.ref b5), .unset, .unset, .unset, .unset, .unset, .unset] []))
      obtain ⟨T9, h9, X9, e9, E9, A9, D9, -, st9⟩ := newO X8 hx hZ hown (w5 hw) (w6 hw) (w7 hw) rfl (g := (mkF m 67 #[.val (.int i0), .val (.int i1), .val (.int i2), .val (.int i3), .val (.int i4), .val (.int i5), .val (.int (0 : Int32)), .val (.int (0 : Int32)), .val (.ref bv_4), .val (.ref b5), .unset, .unset, .unset, .unset, .unset, .unset] [])) rfl (hb hby at_67) (by decide) (by decide)
      obtain ⟨b9, z9⟩ : ∃ z, z = T8.heap.size := ⟨_, rfl⟩
      rw [← z9] at A9 D9 st9
      have g_b9 : n0 ≤ b9 := Nat.le_trans (own_n0 O8) (Nat.le_of_eq z9.symm)
      have O9 : Old Z n0 h9 := O8.ext E9
      have f9_20 : Fld Z h9 b9 "com/example/cropmark/cropmark/Weights" "edibleLb" "Ljava/math/BigDecimal;" .null := D9 (Or.inr (w20 hw)) (ty := (.object "java/math/BigDecimal")) (by decide)
      have f9_22 : Fld Z h9 b9 "com/example/cropmark/cropmark/Weights" "inedibleLb" "Ljava/math/BigDecimal;" .null := D9 (Or.inr (w22 hw)) (ty := (.object "java/math/BigDecimal")) (by decide)
      have f9_24 : Fld Z h9 b9 "com/example/cropmark/cropmark/Weights" "factor" "Ljava/math/BigDecimal;" .null := D9 (Or.inr (w24 hw)) (ty := (.object "java/math/BigDecimal")) (by decide)
      have f9_26 : Fld Z h9 b9 "com/example/cropmark/cropmark/Weights" "assessedLb" "Ljava/math/BigDecimal;" .null := D9 (Or.inr (w26 hw)) (ty := (.object "java/math/BigDecimal")) (by decide)
      refine Go.st st9 ?_
      show Go p e below _ (T9.setTop (mkF m 70 #[.val (.int i0), .val (.int i1), .val (.int i2), .val (.int i3), .val (.int i4), .val (.int i5), .val (.int (0 : Int32)), .val (.int (0 : Int32)), .val (.ref bv_4), .val (.ref b5), .unset, .unset, .unset, .unset, .unset, .unset] [(.ref b9)]))
      refine Go.st (fun t k => XS.dup X9.here hx rfl (hb hby at_70) rfl rfl k) ?_
      show Go p e below _ (T9.setTop (mkF m 71 #[.val (.int i0), .val (.int i1), .val (.int i2), .val (.int i3), .val (.int i4), .val (.int i5), .val (.int (0 : Int32)), .val (.int (0 : Int32)), .val (.ref bv_4), .val (.ref b5), .unset, .unset, .unset, .unset, .unset, .unset] [(.ref b9), (.ref b9)]))
      refine Go.st (fun t k => XS.aload X9.here hx rfl (hb hby at_71) rfl rfl k) ?_
      show Go p e below _ (T9.setTop (mkF m 73 #[.val (.int i0), .val (.int i1), .val (.int i2), .val (.int i3), .val (.int i4), .val (.int i5), .val (.int (0 : Int32)), .val (.int (0 : Int32)), .val (.ref bv_4), .val (.ref b5), .unset, .unset, .unset, .unset, .unset, .unset] [(.ref bv_4), (.ref b9), (.ref b9)]))
      refine Go.st (fun t k => XS.iload X9.here hx rfl (hb hby at_73) rfl k) ?_
      show Go p e below _ (T9.setTop (mkF m 75 #[.val (.int i0), .val (.int i1), .val (.int i2), .val (.int i3), .val (.int i4), .val (.int i5), .val (.int (0 : Int32)), .val (.int (0 : Int32)), .val (.ref bv_4), .val (.ref b5), .unset, .unset, .unset, .unset, .unset, .unset] [(.int (0 : Int32)), (.ref bv_4), (.ref b9), (.ref b9)]))
      refine Go.st (fun t k => XS.ifYes X9.here hx rfl (pc0 := 75) (pc' := 86) rfl (hb hby at_75) rfl (Jvm.Free.XT.i0_eq_t (by decide : (0 : Int32) = (0 : Int32))) (by decide) (by decide) k) ?_
      show Go p e below _ (T9.setTop (mkF m 86 #[.val (.int i0), .val (.int i1), .val (.int i2), .val (.int i3), .val (.int i4), .val (.int i5), .val (.int (0 : Int32)), .val (.int (0 : Int32)), .val (.ref bv_4), .val (.ref b5), .unset, .unset, .unset, .unset, .unset, .unset] [(.ref bv_4), (.ref b9), (.ref b9)]))
      refine Go.st (fun t k => XS.aconstNull X9.here hx rfl (hb hby at_86) k) ?_
      show Go p e below _ (T9.setTop (mkF m 87 #[.val (.int i0), .val (.int i1), .val (.int i2), .val (.int i3), .val (.int i4), .val (.int i5), .val (.int (0 : Int32)), .val (.int (0 : Int32)), .val (.ref bv_4), .val (.ref b5), .unset, .unset, .unset, .unset, .unset, .unset] [.null, (.ref bv_4), (.ref b9), (.ref b9)]))
      refine Go.st (fun t k => XS.aconstNull X9.here hx rfl (hb hby at_87) k) ?_
      show Go p e below _ (T9.setTop (mkF m 88 #[.val (.int i0), .val (.int i1), .val (.int i2), .val (.int i3), .val (.int i4), .val (.int i5), .val (.int (0 : Int32)), .val (.int (0 : Int32)), .val (.ref bv_4), .val (.ref b5), .unset, .unset, .unset, .unset, .unset, .unset] [.null, .null, (.ref bv_4), (.ref b9), (.ref b9)]))
      refine Go.st (fun t k => XS.iloadN X9.here hx rfl (hb hby at_88) rfl k) ?_
      show Go p e below _ (T9.setTop (mkF m 89 #[.val (.int i0), .val (.int i1), .val (.int i2), .val (.int i3), .val (.int i4), .val (.int i5), .val (.int (0 : Int32)), .val (.int (0 : Int32)), .val (.ref bv_4), .val (.ref b5), .unset, .unset, .unset, .unset, .unset, .unset] [(.int i2), .null, .null, (.ref bv_4), (.ref b9), (.ref b9)]))
      refine Go.st (fun t k => XS.i2l X9.here hx rfl (hb hby at_89) rfl k) ?_
      show Go p e below _ (T9.setTop (mkF m 90 #[.val (.int i0), .val (.int i1), .val (.int i2), .val (.int i3), .val (.int i4), .val (.int i5), .val (.int (0 : Int32)), .val (.int (0 : Int32)), .val (.ref bv_4), .val (.ref b5), .unset, .unset, .unset, .unset, .unset, .unset] [(.long (i2.toInt64)), .null, .null, (.ref bv_4), (.ref b9), (.ref b9)]))
      have hp10 : ¬ ((i2.toInt64) = (-9223372036854775808 : Int64)) := by
        have j1 := own_b32 i2
        have j2 := own_b64 (i2.toInt64)
        have j3 := c_i2l i2
        have j4 : ((-9223372036854775808 : Int64)).toInt = -9223372036854775808 := by decide
        rw [← Int64.toInt_inj]
        omega
      obtain ⟨_, _, ⟨T11, L11, k11, n11⟩, -, X11, ⟨Lc11, hQ11, l11, y11, z11⟩, st11⟩ := Jvm.LawKit.callS X9 hx (y := (⟨"java/math/BigDecimal", "valueOf", "(J)Ljava/math/BigDecimal;"⟩ : MethodName)) hown (mvT hZ (w0 hw)) (mvT hZ (w1 hw)) (mvT hZ (w2 hw)) (mvT hZ (w3 hw)) (by decide) (backOf (W := 5) (rmV l Z a0 hw [] (i2.toInt64) w1a k4c w6a w24a w40a w56a w68a w80a w92a w104a w116a w128a w140a h9 n0 O9 hp10 Y3 Y235 Y156 Y230 Y232 Y26 Y170 Y172 Y42 Y176 Y178 Y58 Y182 Y184 Y70 Y188 Y190 Y82 Y194 Y196 Y94 Y200 Y202 Y106 Y206 Y208 Y118 Y212 Y214 Y130 Y218 Y220 Y142 Y224 Y226) hZ (w3 hw) (w2 hw) (by decide) (by decide)) (g := (mkF m 90 #[.val (.int i0), .val (.int i1), .val (.int i2), .val (.int i3), .val (.int i4), .val (.int i5), .val (.int (0 : Int32)), .val (.int (0 : Int32)), .val (.ref bv_4), .val (.ref b5), .unset, .unset, .unset, .unset, .unset, .unset] [(.long (i2.toInt64)), .null, .null, (.ref bv_4), (.ref b9), (.ref b9)])) rfl (by rw [hml]; rfl) (argsL := [(.long (i2.toInt64))]) (rest := [.null, .null, (.ref bv_4), (.ref b9), (.ref b9)]) (lenOf pd_2 rfl) rfl (by show 2 * 0 + _ ≤ _; exact Nat.le_of_eq rfl) (hb hby at_90) (fun vm₁ hw₁ => ⟨rfl, e9, (by decide : 4 + 1 ≤ _), (by decide : 18 + 5 ≤ _)⟩)
      dsimp only [Pt.U, Pt.locs, Pt.cells, Pt.slots] at X11 l11 y11 z11 st11 hQ11
      subst l11 y11 z11
      obtain ⟨bv_11, rfl, M11, K11c, r11_0, r11_1, r11_2⟩ := hQ11
      have N11 := Fr.app N8 M11
      have O11 : Old Z n0 T11.heap := O9.keep K11c all0
      refine Go.st st11 ?_
      show Go p e below _ (T11.setTop (mkF m 93 #[.val (.int i0), .val (.int i1), .val (.int i2), .val (.int i3), .val (.int i4), .val (.int i5), .val (.int (0 : Int32)), .val (.int (0 : Int32)), .val (.ref bv_4), .val (.ref b5), .unset, .unset, .unset, .unset, .unset, .unset] [(.ref bv_11), .null, .null, (.ref bv_4), (.ref b9), (.ref b9)]))
      obtain ⟨_, _, ⟨T12, L12, k12, n12⟩, -, X12, ⟨Lc12, hQ12, l12, y12, z12⟩, st12⟩ := X11.specialBack hx (y := (⟨"com/example/cropmark/cropmark/Weights", "<init>", "(Ljava/math/BigDecimal;Ljava/math/BigDecimal;Ljava/math/BigDecimal;Ljava/math/BigDecimal;)V"⟩ : MethodName)) rfl hown (mvT hZ (w8 hw)) (mvT hZ (w9 hw)) (mvT hZ (w10 hw)) (by decide) (backOf (W := 1) (rm2_1 l Z a0 hw [] b9 bv_4 bv_11 T11.heap n0 O11 (A9.keep K11c) (f9_20.keep K11c nin0) g_b9 (f9_22.keep K11c nin0) (f9_24.keep K11c nin0) (f9_26.keep K11c nin0)) hZ (w10 hw) (w7 hw) (by decide) (by decide)) (g := (mkF m 93 #[.val (.int i0), .val (.int i1), .val (.int i2), .val (.int i3), .val (.int i4), .val (.int i5), .val (.int (0 : Int32)), .val (.int (0 : Int32)), .val (.ref bv_4), .val (.ref b5), .unset, .unset, .unset, .unset, .unset, .unset] [(.ref bv_11), .null, .null, (.ref bv_4), (.ref b9), (.ref b9)])) rfl (by rw [hml]; rfl) (Steps.refl _) (a := b9) (argsL := [(.ref bv_4), .null, .null, (.ref bv_11)]) (rest := [(.ref b9)]) (lenOf pd_3 rfl) rfl (by show 2 * 0 + _ ≤ _; exact Nat.le_of_eq rfl) (hb hby at_93) (fun vm₁ hw₁ => ⟨rfl, rfl, (by decide : 5 + 0 ≤ _), (by decide : 23 + 0 ≤ _)⟩)
      dsimp only [Pt.U, Pt.locs, Pt.cells, Pt.slots] at X12 l12 y12 z12 st12 hQ12
      subst l12 y12 z12
      obtain ⟨rfl, M12, K12c, r12_0, r12_1, r12_2, r12_3⟩ := hQ12
      have N12 := Fr.app N11 M12
      have O12 : Old Z n0 T12.heap := O11.keep K12c (allS g_b9 all0)
      refine Go.tr st12 ?_
      show Go p e below _ (T12.setTop (mkF m 96 #[.val (.int i0), .val (.int i1), .val (.int i2), .val (.int i3), .val (.int i4), .val (.int i5), .val (.int (0 : Int32)), .val (.int (0 : Int32)), .val (.ref bv_4), .val (.ref b5), .unset, .unset, .unset, .unset, .unset, .unset] [(.ref b9)]))
      refine Go.st (fun t k => XS.astore X12.here hx rfl (hb hby at_96) rfl rfl (l' := #[.val (.int i0), .val (.int i1), .val (.int i2), .val (.int i3), .val (.int i4), .val (.int i5), .val (.int (0 : Int32)), .val (.int (0 : Int32)), .val (.ref bv_4), .val (.ref b5), .val (.ref b9), .unset, .unset, .unset, .unset, .unset]) rfl k) ?_
      show Go p e below _ (T12.setTop (mkF m 98 #[.val (.int i0), .val (.int i1), .val (.int i2), .val (.int i3), .val (.int i4), .val (.int i5), .val (.int (0 : Int32)), .val (.int (0 : Int32)), .val (.ref bv_4), .val (.ref b5), .val (.ref b9), .unset, .unset, .unset, .unset, .unset] []))
      obtain ⟨T13, h13, X13, e13, E13, A13, D13, -, st13⟩ := newO X12 hx hZ hown (w27 hw) (w28 hw) (w29 hw) rfl (g := (mkF m 98 #[.val (.int i0), .val (.int i1), .val (.int i2), .val (.int i3), .val (.int i4), .val (.int i5), .val (.int (0 : Int32)), .val (.int (0 : Int32)), .val (.ref bv_4), .val (.ref b5), .val (.ref b9), .unset, .unset, .unset, .unset, .unset] [])) rfl (hb hby at_98) (by decide) (by decide)
      obtain ⟨b13, z13⟩ : ∃ z, z = T12.heap.size := ⟨_, rfl⟩
      rw [← z13] at A13 D13 st13
      have g_b13 : n0 ≤ b13 := Nat.le_trans (own_n0 O12) (Nat.le_of_eq z13.symm)
      have O13 : Old Z n0 h13 := O12.ext E13
      have f13_36 : Fld Z h13 b13 "com/example/cropmark/cropmark/Assessment$Sums" "assessedLb" "Ljava/math/BigDecimal;" .null := D13 (Or.inl (w36 hw)) (ty := (.object "java/math/BigDecimal")) (by decide)
      have f13_38 : Fld Z h13 b13 "com/example/cropmark/cropmark/Assessment$Sums" "inedibleLb" "Ljava/math/BigDecimal;" .null := D13 (Or.inl (w38 hw)) (ty := (.object "java/math/BigDecimal")) (by decide)
      have f13_45 : Fld Z h13 b13 "com/example/cropmark/cropmark/Assessment$Sums" "lots" "I" (.int (0 : Int32)) := D13 (Or.inl (w45 hw)) (ty := .int) (by decide)
      refine Go.st st13 ?_
      show Go p e below _ (T13.setTop (mkF m 101 #[.val (.int i0), .val (.int i1), .val (.int i2), .val (.int i3), .val (.int i4), .val (.int i5), .val (.int (0 : Int32)), .val (.int (0 : Int32)), .val (.ref bv_4), .val (.ref b5), .val (.ref b9), .unset, .unset, .unset, .unset, .unset] [(.ref b13)]))
      refine Go.st (fun t k => XS.dup X13.here hx rfl (hb hby at_101) rfl rfl k) ?_
      show Go p e below _ (T13.setTop (mkF m 102 #[.val (.int i0), .val (.int i1), .val (.int i2), .val (.int i3), .val (.int i4), .val (.int i5), .val (.int (0 : Int32)), .val (.int (0 : Int32)), .val (.ref bv_4), .val (.ref b5), .val (.ref b9), .unset, .unset, .unset, .unset, .unset] [(.ref b13), (.ref b13)]))
      obtain ⟨_, _, ⟨T14, L14, k14, n14⟩, -, X14, ⟨Lc14, hQ14, l14, y14, z14⟩, st14⟩ := X13.specialBack hx (y := (⟨"com/example/cropmark/cropmark/Assessment$Sums", "<init>", "()V"⟩ : MethodName)) rfl hown (mvT hZ (w30 hw)) (mvT hZ (w31 hw)) (mvT hZ (w32 hw)) (by decide) (backOf (W := 1) (rm5_1 l Z a0 hw [] b13 w6a h13 n0 O13 Y10 A13 f13_36 g_b13 f13_38 f13_45) hZ (w32 hw) (w29 hw) (by decide) (by decide)) (g := (mkF m 102 #[.val (.int i0), .val (.int i1), .val (.int i2), .val (.int i3), .val (.int i4), .val (.int i5), .val (.int (0 : Int32)), .val (.int (0 : Int32)), .val (.ref bv_4), .val (.ref b5), .val (.ref b9), .unset, .unset, .unset, .unset, .unset] [(.ref b13), (.ref b13)])) rfl (by rw [hml]; rfl) (Steps.refl _) (a := b13) (argsL := []) (rest := [(.ref b13)]) (lenOf pd_0 rfl) rfl (by show 2 * 0 + _ ≤ _; exact Nat.le_of_eq rfl) (hb hby at_102) (fun vm₁ hw₁ => ⟨rfl, e13, (by decide : 6 + 0 ≤ _), (by decide : 26 + 0 ≤ _)⟩)
      dsimp only [Pt.U, Pt.locs, Pt.cells, Pt.slots] at X14 l14 y14 z14 st14 hQ14
      subst l14 y14 z14
      obtain ⟨rfl, M14, K14c, r14_0, r14_1, r14_2⟩ := hQ14
      have N14 := Fr.app N12 M14
      have O14 : Old Z n0 T14.heap := O13.keep K14c (allS g_b13 all0)
      refine Go.tr st14 ?_
      show Go p e below _ (T14.setTop (mkF m 105 #[.val (.int i0), .val (.int i1), .val (.int i2), .val (.int i3), .val (.int i4), .val (.int i5), .val (.int (0 : Int32)), .val (.int (0 : Int32)), .val (.ref bv_4), .val (.ref b5), .val (.ref b9), .unset, .unset, .unset, .unset, .unset] [(.ref b13)]))
      refine Go.st (fun t k => XS.astore X14.here hx rfl (hb hby at_105) rfl rfl (l' := #[.val (.int i0), .val (.int i1), .val (.int i2), .val (.int i3), .val (.int i4), .val (.int i5), .val (.int (0 : Int32)), .val (.int (0 : Int32)), .val (.ref bv_4), .val (.ref b5), .val (.ref b9), .val (.ref b13), .unset, .unset, .unset, .unset]) rfl k) ?_
      show Go p e below _ (T14.setTop (mkF m 107 #[.val (.int i0), .val (.int i1), .val (.int i2), .val (.int i3), .val (.int i4), .val (.int i5), .val (.int (0 : Int32)), .val (.int (0 : Int32)), .val (.ref bv_4), .val (.ref b5), .val (.ref b9), .val (.ref b13), .unset, .unset, .unset, .unset] []))
      refine Go.st (fun t k => XS.aload X14.here hx rfl (hb hby at_107) rfl rfl k) ?_
      show Go p e below _ (T14.setTop (mkF m 109 #[.val (.int i0), .val (.int i1), .val (.int i2), .val (.int i3), .val (.int i4), .val (.int i5), .val (.int (0 : Int32)), .val (.int (0 : Int32)), .val (.ref bv_4), .val (.ref b5), .val (.ref b9), .val (.ref b13), .unset, .unset, .unset, .unset] [(.ref b13)]))
      refine Go.st (fun t k => XS.aload X14.here hx rfl (hb hby at_109) rfl rfl k) ?_
      show Go p e below _ (T14.setTop (mkF m 111 #[.val (.int i0), .val (.int i1), .val (.int i2), .val (.int i3), .val (.int i4), .val (.int i5), .val (.int (0 : Int32)), .val (.int (0 : Int32)), .val (.ref bv_4), .val (.ref b5), .val (.ref b9), .val (.ref b13), .unset, .unset, .unset, .unset] [(.ref b5), (.ref b13)]))
      have hp15 : ¬ (((((0 : Int64) + (i0.toInt64)) ^^^ (0 : Int64)) &&& (((0 : Int64) + (i0.toInt64)) ^^^ (i0.toInt64))) < (0 : Int64)) := by
        have j1 : ((0 : Int64)).toInt = 0 := by decide
        have j2 := own_b32 i0
        have j3 := own_b64 (i0.toInt64)
        have j4 := c_i2l i0
        have jf : Jvm.Free.XT.fits64 ((0 : Int64).toInt + (i0.toInt64).toInt) := by
          unfold Jvm.Free.XT.fits64; omega
        exact own_addOk64 jf
      have hp16 : ¬ (((0 : Int64) + (i0.toInt64)) = (-9223372036854775808 : Int64)) := by
        have j1 : ((0 : Int64)).toInt = 0 := by decide
        have j2 := own_b32 i0
        have j3 := own_b64 (i0.toInt64)
        have j4 := c_i2l i0
        have j5 := own_b64 ((0 : Int64) + (i0.toInt64))
        have j6 := c_ladd (0 : Int64) (i0.toInt64)
        have j7 : ((-9223372036854775808 : Int64)).toInt = -9223372036854775808 := by decide
        rw [← Int64.toInt_inj]
        omega
      have c17 := (((((((A5.keep K7c).keep K8c).ext E9).keep K11c).keep K12c).ext E13).keep K14c)
      have c18 := (((((r8_3.ext E9).keep K11c nin0).keep K12c (ninS (Nat.ne_of_lt (Nat.lt_of_lt_of_le (Nat.lt_of_lt_of_le (Nat.lt_of_lt_of_le A5.lt K7c.1) K8c.1) (Nat.le_of_eq z9.symm))) nin0)).ext E13).keep K14c (ninS (Nat.ne_of_lt (Nat.lt_of_lt_of_le (Nat.lt_of_lt_of_le (Nat.lt_of_lt_of_le (Nat.lt_of_lt_of_le (Nat.lt_of_lt_of_le (Nat.lt_of_lt_of_le A5.lt K7c.1) K8c.1) E9.1) K11c.1) K12c.1) (Nat.le_of_eq z13.symm))) nin0))
      have c19 := ((((((r7_2.keep K8c (ninS (ne_exa ((((((r7_0.keep K8c).ext E9).keep K11c).keep K12c).ext E13).keep K14c) c17 (by decide)) nin0)).ext E9).keep K11c nin0).keep K12c (ninS (Nat.ne_of_lt (Nat.lt_of_lt_of_le (Nat.lt_of_lt_of_le r7_0.lt K8c.1) (Nat.le_of_eq z9.symm))) nin0)).ext E13).keep K14c (ninS (Nat.ne_of_lt (Nat.lt_of_lt_of_le (Nat.lt_of_lt_of_le (Nat.lt_of_lt_of_le (Nat.lt_of_lt_of_le (Nat.lt_of_lt_of_le r7_0.lt K8c.1) E9.1) K11c.1) K12c.1) (Nat.le_of_eq z13.symm))) nin0))
      have c20 := ((((((r7_1.keep K8c (ninS (ne_exa ((((((r7_0.keep K8c).ext E9).keep K11c).keep K12c).ext E13).keep K14c) c17 (by decide)) nin0)).ext E9).keep K11c nin0).keep K12c (ninS (Nat.ne_of_lt (Nat.lt_of_lt_of_le (Nat.lt_of_lt_of_le r7_0.lt K8c.1) (Nat.le_of_eq z9.symm))) nin0)).ext E13).keep K14c (ninS (Nat.ne_of_lt (Nat.lt_of_lt_of_le (Nat.lt_of_lt_of_le (Nat.lt_of_lt_of_le (Nat.lt_of_lt_of_le (Nat.lt_of_lt_of_le r7_0.lt K8c.1) E9.1) K11c.1) K12c.1) (Nat.le_of_eq z13.symm))) nin0))
      have c21 := (((((r8_1.ext E9).keep K11c nin0).keep K12c (ninS (Nat.ne_of_lt (Nat.lt_of_lt_of_le (Nat.lt_of_lt_of_le (Nat.lt_of_lt_of_le A5.lt K7c.1) K8c.1) (Nat.le_of_eq z9.symm))) nin0)).ext E13).keep K14c (ninS (Nat.ne_of_lt (Nat.lt_of_lt_of_le (Nat.lt_of_lt_of_le (Nat.lt_of_lt_of_le (Nat.lt_of_lt_of_le (Nat.lt_of_lt_of_le (Nat.lt_of_lt_of_le A5.lt K7c.1) K8c.1) E9.1) K11c.1) K12c.1) (Nat.le_of_eq z13.symm))) nin0))
      obtain ⟨cq22, kq22, q22a, q22b, q22c⟩ := isOf hZ rfl (A13.keep K14c)
      obtain ⟨_, _, ⟨T22, L22, k22, n22⟩, -, X22, ⟨Lc22, hQ22, l22, y22, z22⟩, st22⟩ := X14.virtualBack hx (y := (⟨"com/example/cropmark/cropmark/Assessment$Sums", "add", "(Lcom/example/cropmark/cropmark/Weights;)V"⟩ : MethodName)) (z := (⟨"com/example/cropmark/cropmark/Assessment$Sums", "add", "(Lcom/example/cropmark/cropmark/Weights;)V"⟩ : MethodName)) hown (mvT hZ (w39 hw)) (mvT hZ (w40 hw)) (notFace_of_selects (args := #[]) (mvT hZ (w42 hw))) (mvT hZ (w42 hw)) (mvT hZ (w41 hw)) (by decide) (backOf (W := 0) (rm6_1 l Z a0 hw [] b13 b5 w6a bv_7 (i0.toInt64) w1a k4c w24a w40a w56a w68a w80a w92a w104a w116a w128a w140a T14.heap n0 O14 r14_2 (A13.keep K14c) g_b13 r14_0 c17 c18 (Nat.ne_of_lt (Nat.lt_of_lt_of_le (Nat.lt_of_lt_of_le (Nat.lt_of_lt_of_le (Nat.lt_of_lt_of_le (Nat.lt_of_lt_of_le (Nat.lt_of_lt_of_le A5.lt K7c.1) K8c.1) E9.1) K11c.1) K12c.1) (Nat.le_of_eq z13.symm))) Y156 Y232 c19 hp6 Y230 c20 hp15 hp16 Y3 Y235 Y26 Y170 Y172 Y42 Y176 Y178 Y58 Y182 Y184 Y70 Y188 Y190 Y82 Y194 Y196 Y94 Y200 Y202 Y106 Y206 Y208 Y118 Y212 Y214 Y130 Y218 Y220 Y142 Y224 Y226 (Nat.ne_of_lt (Nat.lt_of_lt_of_le (Nat.lt_of_lt_of_le (Nat.lt_of_lt_of_le (Nat.lt_of_lt_of_le (Nat.lt_of_lt_of_le r7_0.lt K8c.1) E9.1) K11c.1) K12c.1) (Nat.le_of_eq z13.symm))) c21 r14_1) hZ (w43 hw) (w29 hw) (by decide) (by decide)) q22a q22c (g := (mkF m 111 #[.val (.int i0), .val (.int i1), .val (.int i2), .val (.int i3), .val (.int i4), .val (.int i5), .val (.int (0 : Int32)), .val (.int (0 : Int32)), .val (.ref bv_4), .val (.ref b5), .val (.ref b9), .val (.ref b13), .unset, .unset, .unset, .unset] [(.ref b5), (.ref b13)])) rfl (by rw [hml]; rfl) (Steps.refl _) (argsL := [(.ref b5)]) (rest := []) (lenOf pd_10 rfl) rfl (by show 2 * 0 + _ ≤ _; exact Nat.le_of_eq rfl) (hb hby at_111) (fun vm₁ hw₁ => ⟨rfl, rfl, (by decide : 6 + 1 ≤ _), (by decide : 26 + 5 ≤ _)⟩)
      dsimp only [Pt.U, Pt.locs, Pt.cells, Pt.slots] at X22 l22 y22 z22 st22 hQ22
      subst l22 y22 z22
      obtain ⟨bv_1_2_1_7_6_22, rfl, M22, K22c, r22_0, r22_1, r22_2, r22_3, r22_4, r22_5⟩ := hQ22
      have N22 := Fr.app N14 M22
      have O22 : Old Z n0 T22.heap := O14.keep K22c (allS g_b13 all0)
      refine Go.tr st22 ?_
      show Go p e below _ (T22.setTop (mkF m 114 #[.val (.int i0), .val (.int i1), .val (.int i2), .val (.int i3), .val (.int i4), .val (.int i5), .val (.int (0 : Int32)), .val (.int (0 : Int32)), .val (.ref bv_4), .val (.ref b5), .val (.ref b9), .val (.ref b13), .unset, .unset, .unset, .unset] []))
      refine Go.st (fun t k => XS.aload X22.here hx rfl (hb hby at_114) rfl rfl k) ?_
      show Go p e below _ (T22.setTop (mkF m 116 #[.val (.int i0), .val (.int i1), .val (.int i2), .val (.int i3), .val (.int i4), .val (.int i5), .val (.int (0 : Int32)), .val (.int (0 : Int32)), .val (.ref bv_4), .val (.ref b5), .val (.ref b9), .val (.ref b13), .unset, .unset, .unset, .unset] [(.ref b13)]))
      refine Go.st (fun t k => XS.aload X22.here hx rfl (hb hby at_116) rfl rfl k) ?_
      show Go p e below _ (T22.setTop (mkF m 118 #[.val (.int i0), .val (.int i1), .val (.int i2), .val (.int i3), .val (.int i4), .val (.int i5), .val (.int (0 : Int32)), .val (.int (0 : Int32)), .val (.ref bv_4), .val (.ref b5), .val (.ref b9), .val (.ref b13), .unset, .unset, .unset, .unset] [(.ref b9), (.ref b13)]))
      have hp23 : ¬ ((((((0 : Int64) + (i0.toInt64)) + (i2.toInt64)) ^^^ ((0 : Int64) + (i0.toInt64))) &&& ((((0 : Int64) + (i0.toInt64)) + (i2.toInt64)) ^^^ (i2.toInt64))) < (0 : Int64)) := by
        have j1 : ((0 : Int64)).toInt = 0 := by decide
        have j2 := own_b32 i0
        have j3 := own_b64 (i0.toInt64)
        have j4 := c_i2l i0
        have j5 := own_b64 ((0 : Int64) + (i0.toInt64))
        have j6 := c_ladd (0 : Int64) (i0.toInt64)
        have j7 := own_b32 i2
        have j8 := own_b64 (i2.toInt64)
        have j9 := c_i2l i2
        have jf : Jvm.Free.XT.fits64 (((0 : Int64) + (i0.toInt64)).toInt + (i2.toInt64).toInt) := by
          unfold Jvm.Free.XT.fits64; omega
        exact own_addOk64 jf
      have hp24 : ¬ ((((0 : Int64) + (i0.toInt64)) + (i2.toInt64)) = (-9223372036854775808 : Int64)) := by
        have j1 : ((0 : Int64)).toInt = 0 := by decide
        have j2 := own_b32 i0
        have j3 := own_b64 (i0.toInt64)
        have j4 := c_i2l i0
        have j5 := own_b64 ((0 : Int64) + (i0.toInt64))
        have j6 := c_ladd (0 : Int64) (i0.toInt64)
        have j7 := own_b32 i2
        have j8 := own_b64 (i2.toInt64)
        have j9 := c_i2l i2
        have j10 := own_b64 (((0 : Int64) + (i0.toInt64)) + (i2.toInt64))
        have j11 := c_ladd ((0 : Int64) + (i0.toInt64)) (i2.toInt64)
        have j12 : ((-9223372036854775808 : Int64)).toInt = -9223372036854775808 := by decide
        rw [← Int64.toInt_inj]
        omega
      have c25 := (((((A9.keep K11c).keep K12c).ext E13).keep K14c).keep K22c)
      have c26 := (((r12_3.ext E13).keep K14c (ninS (Nat.ne_of_lt (Nat.lt_of_lt_of_le (Nat.lt_of_lt_of_le (Nat.lt_of_lt_of_le A9.lt K11c.1) K12c.1) (Nat.le_of_eq z13.symm))) nin0)).keep K22c (ninS (Nat.ne_of_lt (Nat.lt_of_lt_of_le (Nat.lt_of_lt_of_le (Nat.lt_of_lt_of_le A9.lt K11c.1) K12c.1) (Nat.le_of_eq z13.symm))) nin0))
      have c27 := ((((r11_2.keep K12c (ninS (ne_exa ((((r11_0.keep K12c).ext E13).keep K14c).keep K22c) c25 (by decide)) nin0)).ext E13).keep K14c (ninS (Nat.ne_of_lt (Nat.lt_of_lt_of_le (Nat.lt_of_lt_of_le r11_0.lt K12c.1) (Nat.le_of_eq z13.symm))) nin0)).keep K22c (ninS (Nat.ne_of_lt (Nat.lt_of_lt_of_le (Nat.lt_of_lt_of_le r11_0.lt K12c.1) (Nat.le_of_eq z13.symm))) nin0))
      have c28 := ((((r11_1.keep K12c (ninS (ne_exa ((((r11_0.keep K12c).ext E13).keep K14c).keep K22c) c25 (by decide)) nin0)).ext E13).keep K14c (ninS (Nat.ne_of_lt (Nat.lt_of_lt_of_le (Nat.lt_of_lt_of_le r11_0.lt K12c.1) (Nat.le_of_eq z13.symm))) nin0)).keep K22c (ninS (Nat.ne_of_lt (Nat.lt_of_lt_of_le (Nat.lt_of_lt_of_le r11_0.lt K12c.1) (Nat.le_of_eq z13.symm))) nin0))
      have c29 := (((r12_1.ext E13).keep K14c (ninS (Nat.ne_of_lt (Nat.lt_of_lt_of_le (Nat.lt_of_lt_of_le (Nat.lt_of_lt_of_le A9.lt K11c.1) K12c.1) (Nat.le_of_eq z13.symm))) nin0)).keep K22c (ninS (Nat.ne_of_lt (Nat.lt_of_lt_of_le (Nat.lt_of_lt_of_le (Nat.lt_of_lt_of_le A9.lt K11c.1) K12c.1) (Nat.le_of_eq z13.symm))) nin0))
      obtain ⟨cq30, kq30, q30a, q30b, q30c⟩ := isOf hZ rfl ((A13.keep K14c).keep K22c)
      obtain ⟨_, _, ⟨T30, L30, k30, n30⟩, -, X30, ⟨Lc30, hQ30, l30, y30, z30⟩, st30⟩ := X22.virtualBack hx (y := (⟨"com/example/cropmark/cropmark/Assessment$Sums", "add", "(Lcom/example/cropmark/cropmark/Weights;)V"⟩ : MethodName)) (z := (⟨"com/example/cropmark/cropmark/Assessment$Sums", "add", "(Lcom/example/cropmark/cropmark/Weights;)V"⟩ : MethodName)) hown (mvT hZ (w39 hw)) (mvT hZ (w40 hw)) (notFace_of_selects (args := #[]) (mvT hZ (w42 hw))) (mvT hZ (w42 hw)) (mvT hZ (w41 hw)) (by decide) (backOf (W := 0) (rm6_2 l Z a0 hw [] b13 b9 bv_1_2_1_7_6_22 bv_11 ((0 : Int64) + (i0.toInt64)) (i2.toInt64) w1a k4c w6a w24a w40a w56a w68a w80a w92a w104a w116a w128a w140a T22.heap n0 O22 r22_0 ((A13.keep K14c).keep K22c) g_b13 r22_1 c25 c26 (Nat.ne_of_lt (Nat.lt_of_lt_of_le (Nat.lt_of_lt_of_le (Nat.lt_of_lt_of_le A9.lt K11c.1) K12c.1) (Nat.le_of_eq z13.symm))) r22_3 r22_5 hp16 c27 hp10 r22_4 c28 hp23 hp24 Y3 Y235 Y156 Y230 Y232 Y26 Y170 Y172 Y42 Y176 Y178 Y58 Y182 Y184 Y70 Y188 Y190 Y82 Y194 Y196 Y94 Y200 Y202 Y106 Y206 Y208 Y118 Y212 Y214 Y130 Y218 Y220 Y142 Y224 Y226 (ne_exa r22_3 ((A13.keep K14c).keep K22c) (by decide)) (Nat.ne_of_lt (Nat.lt_of_lt_of_le (Nat.lt_of_lt_of_le r11_0.lt K12c.1) (Nat.le_of_eq z13.symm))) c29 r22_2) hZ (w43 hw) (w29 hw) (by decide) (by decide)) q30a q30c (g := (mkF m 118 #[.val (.int i0), .val (.int i1), .val (.int i2), .val (.int i3), .val (.int i4), .val (.int i5), .val (.int (0 : Int32)), .val (.int (0 : Int32)), .val (.ref bv_4), .val (.ref b5), .val (.ref b9), .val (.ref b13), .unset, .unset, .unset, .unset] [(.ref b9), (.ref b13)])) rfl (by rw [hml]; rfl) (Steps.refl _) (argsL := [(.ref b9)]) (rest := []) (lenOf pd_10 rfl) rfl (by show 2 * 0 + _ ≤ _; exact Nat.le_of_eq rfl) (hb hby at_118) (fun vm₁ hw₁ => ⟨rfl, rfl, (by decide : 7 + 1 ≤ _), (by decide : 31 + 5 ≤ _)⟩)
      dsimp only [Pt.U, Pt.locs, Pt.cells, Pt.slots] at X30 l30 y30 z30 st30 hQ30
      subst l30 y30 z30
      obtain ⟨bv_1_2_1_7_6_30, rfl, M30, K30c, r30_0, r30_1, r30_2, r30_3, r30_4, r30_5⟩ := hQ30
      have N30 := Fr.app N22 M30
      have O30 : Old Z n0 T30.heap := O22.keep K30c (allS g_b13 all0)
      refine Go.tr st30 ?_
      show Go p e below _ (T30.setTop (mkF m 121 #[.val (.int i0), .val (.int i1), .val (.int i2), .val (.int i3), .val (.int i4), .val (.int i5), .val (.int (0 : Int32)), .val (.int (0 : Int32)), .val (.ref bv_4), .val (.ref b5), .val (.ref b9), .val (.ref b13), .unset, .unset, .unset, .unset] []))
      refine Go.st (fun t k => XS.iloadN X30.here hx rfl (hb hby at_121) rfl k) ?_
      show Go p e below _ (T30.setTop (mkF m 122 #[.val (.int i0), .val (.int i1), .val (.int i2), .val (.int i3), .val (.int i4), .val (.int i5), .val (.int (0 : Int32)), .val (.int (0 : Int32)), .val (.ref bv_4), .val (.ref b5), .val (.ref b9), .val (.ref b13), .unset, .unset, .unset, .unset] [(.int i0)]))
      refine Go.st (fun t k => XS.i2l X30.here hx rfl (hb hby at_122) rfl k) ?_
      show Go p e below _ (T30.setTop (mkF m 123 #[.val (.int i0), .val (.int i1), .val (.int i2), .val (.int i3), .val (.int i4), .val (.int i5), .val (.int (0 : Int32)), .val (.int (0 : Int32)), .val (.ref bv_4), .val (.ref b5), .val (.ref b9), .val (.ref b13), .unset, .unset, .unset, .unset] [(.long (i0.toInt64))]))
      refine Go.st (fun t k => XS.iloadN X30.here hx rfl (hb hby at_123) rfl k) ?_
      show Go p e below _ (T30.setTop (mkF m 124 #[.val (.int i0), .val (.int i1), .val (.int i2), .val (.int i3), .val (.int i4), .val (.int i5), .val (.int (0 : Int32)), .val (.int (0 : Int32)), .val (.ref bv_4), .val (.ref b5), .val (.ref b9), .val (.ref b13), .unset, .unset, .unset, .unset] [(.int i2), (.long (i0.toInt64))]))
      refine Go.st (fun t k => XS.i2l X30.here hx rfl (hb hby at_124) rfl k) ?_
      show Go p e below _ (T30.setTop (mkF m 125 #[.val (.int i0), .val (.int i1), .val (.int i2), .val (.int i3), .val (.int i4), .val (.int i5), .val (.int (0 : Int32)), .val (.int (0 : Int32)), .val (.ref bv_4), .val (.ref b5), .val (.ref b9), .val (.ref b13), .unset, .unset, .unset, .unset] [(.long (i2.toInt64)), (.long (i0.toInt64))]))
      refine Go.st (fun t k => XS.ladd X30.here hx rfl (hb hby at_125) rfl k) ?_
      show Go p e below _ (T30.setTop (mkF m 126 #[.val (.int i0), .val (.int i1), .val (.int i2), .val (.int i3), .val (.int i4), .val (.int i5), .val (.int (0 : Int32)), .val (.int (0 : Int32)), .val (.ref bv_4), .val (.ref b5), .val (.ref b9), .val (.ref b13), .unset, .unset, .unset, .unset] [(.long ((i0.toInt64) + (i2.toInt64)))]))
      refine Go.st (fun t k => XS.lstore X30.here hx rfl (hb hby at_126) rfl (l' := #[.val (.int i0), .val (.int i1), .val (.int i2), .val (.int i3), .val (.int i4), .val (.int i5), .val (.int (0 : Int32)), .val (.int (0 : Int32)), .val (.ref bv_4), .val (.ref b5), .val (.ref b9), .val (.ref b13), .val (.long ((i0.toInt64) + (i2.toInt64))), .second, .unset, .unset]) rfl k) ?_
      show Go p e below _ (T30.setTop (mkF m 128 #[.val (.int i0), .val (.int i1), .val (.int i2), .val (.int i3), .val (.int i4), .val (.int i5), .val (.int (0 : Int32)), .val (.int (0 : Int32)), .val (.ref bv_4), .val (.ref b5), .val (.ref b9), .val (.ref b13), .val (.long ((i0.toInt64) + (i2.toInt64))), .second, .unset, .unset] []))
      refine Go.st (fun t k => XS.iload X30.here hx rfl (hb hby at_128) rfl k) ?_
      show Go p e below _ (T30.setTop (mkF m 130 #[.val (.int i0), .val (.int i1), .val (.int i2), .val (.int i3), .val (.int i4), .val (.int i5), .val (.int (0 : Int32)), .val (.int (0 : Int32)), .val (.ref bv_4), .val (.ref b5), .val (.ref b9), .val (.ref b13), .val (.long ((i0.toInt64) + (i2.toInt64))), .second, .unset, .unset] [(.int (0 : Int32))]))
      refine Go.st (fun t k => XS.ifYes X30.here hx rfl (pc0 := 130) (pc' := 138) rfl (hb hby at_130) rfl (Jvm.Free.XT.i0_eq_t (by decide : (0 : Int32) = (0 : Int32))) (by decide) (by decide) k) ?_
      show Go p e below _ (T30.setTop (mkF m 138 #[.val (.int i0), .val (.int i1), .val (.int i2), .val (.int i3), .val (.int i4), .val (.int i5), .val (.int (0 : Int32)), .val (.int (0 : Int32)), .val (.ref bv_4), .val (.ref b5), .val (.ref b9), .val (.ref b13), .val (.long ((i0.toInt64) + (i2.toInt64))), .second, .unset, .unset] []))
      refine Go.st (fun t k => XS.lconst X30.here hx rfl (hb hby at_138) k) ?_
      show Go p e below _ (T30.setTop (mkF m 139 #[.val (.int i0), .val (.int i1), .val (.int i2), .val (.int i3), .val (.int i4), .val (.int i5), .val (.int (0 : Int32)), .val (.int (0 : Int32)), .val (.ref bv_4), .val (.ref b5), .val (.ref b9), .val (.ref b13), .val (.long ((i0.toInt64) + (i2.toInt64))), .second, .unset, .unset] [(.long (0 : Int64))]))
      refine Go.st (fun t k => XS.iload X30.here hx rfl (hb hby at_139) rfl k) ?_
      show Go p e below _ (T30.setTop (mkF m 141 #[.val (.int i0), .val (.int i1), .val (.int i2), .val (.int i3), .val (.int i4), .val (.int i5), .val (.int (0 : Int32)), .val (.int (0 : Int32)), .val (.ref bv_4), .val (.ref b5), .val (.ref b9), .val (.ref b13), .val (.long ((i0.toInt64) + (i2.toInt64))), .second, .unset, .unset] [(.int (0 : Int32)), (.long (0 : Int64))]))
      refine Go.st (fun t k => XS.ifYes X30.here hx rfl (pc0 := 141) (pc' := 149) rfl (hb hby at_141) rfl (Jvm.Free.XT.i0_eq_t (by decide : (0 : Int32) = (0 : Int32))) (by decide) (by decide) k) ?_
      show Go p e below _ (T30.setTop (mkF m 149 #[.val (.int i0), .val (.int i1), .val (.int i2), .val (.int i3), .val (.int i4), .val (.int i5), .val (.int (0 : Int32)), .val (.int (0 : Int32)), .val (.ref bv_4), .val (.ref b5), .val (.ref b9), .val (.ref b13), .val (.long ((i0.toInt64) + (i2.toInt64))), .second, .unset, .unset] [(.long (0 : Int64))]))
      refine Go.st (fun t k => XS.lconst X30.here hx rfl (hb hby at_149) k) ?_
      show Go p e below _ (T30.setTop (mkF m 150 #[.val (.int i0), .val (.int i1), .val (.int i2), .val (.int i3), .val (.int i4), .val (.int i5), .val (.int (0 : Int32)), .val (.int (0 : Int32)), .val (.ref bv_4), .val (.ref b5), .val (.ref b9), .val (.ref b13), .val (.long ((i0.toInt64) + (i2.toInt64))), .second, .unset, .unset] [(.long (0 : Int64)), (.long (0 : Int64))]))
      refine Go.st (fun t k => XS.ladd X30.here hx rfl (hb hby at_150) rfl k) ?_
      show Go p e below _ (T30.setTop (mkF m 151 #[.val (.int i0), .val (.int i1), .val (.int i2), .val (.int i3), .val (.int i4), .val (.int i5), .val (.int (0 : Int32)), .val (.int (0 : Int32)), .val (.ref bv_4), .val (.ref b5), .val (.ref b9), .val (.ref b13), .val (.long ((i0.toInt64) + (i2.toInt64))), .second, .unset, .unset] [(.long (0 : Int64))]))
      refine Go.st (fun t k => XS.lstore X30.here hx rfl (hb hby at_151) rfl (l' := #[.val (.int i0), .val (.int i1), .val (.int i2), .val (.int i3), .val (.int i4), .val (.int i5), .val (.int (0 : Int32)), .val (.int (0 : Int32)), .val (.ref bv_4), .val (.ref b5), .val (.ref b9), .val (.ref b13), .val (.long ((i0.toInt64) + (i2.toInt64))), .second, .val (.long (0 : Int64)), .second]) rfl k) ?_
      show Go p e below _ (T30.setTop (mkF m 153 #[.val (.int i0), .val (.int i1), .val (.int i2), .val (.int i3), .val (.int i4), .val (.int i5), .val (.int (0 : Int32)), .val (.int (0 : Int32)), .val (.ref bv_4), .val (.ref b5), .val (.ref b9), .val (.ref b13), .val (.long ((i0.toInt64) + (i2.toInt64))), .second, .val (.long (0 : Int64)), .second] []))
      refine Go.st (fun t k => XS.aload X30.here hx rfl (hb hby at_153) rfl rfl k) ?_
      show Go p e below _ (T30.setTop (mkF m 155 #[.val (.int i0), .val (.int i1), .val (.int i2), .val (.int i3), .val (.int i4), .val (.int i5), .val (.int (0 : Int32)), .val (.int (0 : Int32)), .val (.ref bv_4), .val (.ref b5), .val (.ref b9), .val (.ref b13), .val (.long ((i0.toInt64) + (i2.toInt64))), .second, .val (.long (0 : Int64)), .second] [(.ref b13)]))
      obtain ⟨cq31, kq31, q31a, q31b, q31c⟩ := isOf hZ rfl (((A13.keep K14c).keep K22c).keep K30c)
      obtain ⟨_, _, ⟨T31, L31, k31, n31⟩, -, X31, ⟨Lc31, hQ31, l31, y31, z31⟩, st31⟩ := X30.virtualBack hx (y := (⟨"com/example/cropmark/cropmark/Assessment$Sums", "lots", "()I"⟩ : MethodName)) (z := (⟨"com/example/cropmark/cropmark/Assessment$Sums", "lots", "()I"⟩ : MethodName)) hown (mvT hZ (w79 hw)) (mvT hZ (w80 hw)) (notFace_of_selects (args := #[]) (mvT hZ (w82 hw))) (mvT hZ (w82 hw)) (mvT hZ (w81 hw)) (by decide) (backOf (W := 0) (rm14_1 l Z a0 hw [] b13 T30.heap n0 O30 r30_0) hZ (w83 hw) (w29 hw) (by decide) (by decide)) q31a q31c (g := (mkF m 155 #[.val (.int i0), .val (.int i1), .val (.int i2), .val (.int i3), .val (.int i4), .val (.int i5), .val (.int (0 : Int32)), .val (.int (0 : Int32)), .val (.ref bv_4), .val (.ref b5), .val (.ref b9), .val (.ref b13), .val (.long ((i0.toInt64) + (i2.toInt64))), .second, .val (.long (0 : Int64)), .second] [(.ref b13)])) rfl (by rw [hml]; rfl) (Steps.refl _) (argsL := []) (rest := []) (lenOf pd_11 rfl) rfl (by show 2 * 0 + _ ≤ _; exact Nat.le_of_eq rfl) (hb hby at_155) (fun vm₁ hw₁ => ⟨rfl, rfl, (by decide : 8 + 0 ≤ _), (by decide : 36 + 0 ≤ _)⟩)
      dsimp only [Pt.U, Pt.locs, Pt.cells, Pt.slots] at X31 l31 y31 z31 st31 hQ31
      subst l31 y31 z31
      obtain ⟨rfl, M31, eh31⟩ := hQ31
      have N31 := Fr.app N30 M31
      refine Go.tr st31 ?_
      show Go p e below _ (T31.setTop (mkF m 158 #[.val (.int i0), .val (.int i1), .val (.int i2), .val (.int i3), .val (.int i4), .val (.int i5), .val (.int (0 : Int32)), .val (.int (0 : Int32)), .val (.ref bv_4), .val (.ref b5), .val (.ref b9), .val (.ref b13), .val (.long ((i0.toInt64) + (i2.toInt64))), .second, .val (.long (0 : Int64)), .second] [(.int (2 : Int32))]))
      refine Go.st (fun t k => XS.iconst X31.here hx rfl (hb hby at_158) k) ?_
      show Go p e below _ (T31.setTop (mkF m 159 #[.val (.int i0), .val (.int i1), .val (.int i2), .val (.int i3), .val (.int i4), .val (.int i5), .val (.int (0 : Int32)), .val (.int (0 : Int32)), .val (.ref bv_4), .val (.ref b5), .val (.ref b9), .val (.ref b13), .val (.long ((i0.toInt64) + (i2.toInt64))), .second, .val (.long (0 : Int64)), .second] [(.int (2 : Int32)), (.int (2 : Int32))]))
      refine Go.st (fun t k => XS.icmpNo X31.here hx rfl (hb hby at_159) rfl (Jvm.Free.XT.ii_ne_f (by decide : (2 : Int32) = (2 : Int32))) k) ?_
      show Go p e below _ (T31.setTop (mkF m 162 #[.val (.int i0), .val (.int i1), .val (.int i2), .val (.int i3), .val (.int i4), .val (.int i5), .val (.int (0 : Int32)), .val (.int (0 : Int32)), .val (.ref bv_4), .val (.ref b5), .val (.ref b9), .val (.ref b13), .val (.long ((i0.toInt64) + (i2.toInt64))), .second, .val (.long (0 : Int64)), .second] []))
      refine Go.st (fun t k => XS.aload X31.here hx rfl (hb hby at_162) rfl rfl k) ?_
      show Go p e below _ (T31.setTop (mkF m 164 #[.val (.int i0), .val (.int i1), .val (.int i2), .val (.int i3), .val (.int i4), .val (.int i5), .val (.int (0 : Int32)), .val (.int (0 : Int32)), .val (.ref bv_4), .val (.ref b5), .val (.ref b9), .val (.ref b13), .val (.long ((i0.toInt64) + (i2.toInt64))), .second, .val (.long (0 : Int64)), .second] [(.ref b13)]))
      obtain ⟨cq32, kq32, q32a, q32b, q32c⟩ := isOf hZ eh31 (((A13.keep K14c).keep K22c).keep K30c)
      obtain ⟨_, _, ⟨T32, L32, k32, n32⟩, -, X32, ⟨Lc32, hQ32, l32, y32, z32⟩, st32⟩ := X31.virtualBack hx (y := (⟨"com/example/cropmark/cropmark/Assessment$Sums", "assessedLb", "()Ljava/math/BigDecimal;"⟩ : MethodName)) (z := (⟨"com/example/cropmark/cropmark/Assessment$Sums", "assessedLb", "()Ljava/math/BigDecimal;"⟩ : MethodName)) hown (mvT hZ (w84 hw)) (mvT hZ (w85 hw)) (notFace_of_selects (args := #[]) (mvT hZ (w87 hw))) (mvT hZ (w87 hw)) (mvT hZ (w86 hw)) (by decide) (backOf (W := 0) (rm15_1 l Z a0 hw [] b13 bv_1_2_1_7_6_30 T30.heap n0 O30 r30_1) hZ (w88 hw) (w29 hw) (by decide) (by decide)) q32a q32c (g := (mkF m 164 #[.val (.int i0), .val (.int i1), .val (.int i2), .val (.int i3), .val (.int i4), .val (.int i5), .val (.int (0 : Int32)), .val (.int (0 : Int32)), .val (.ref bv_4), .val (.ref b5), .val (.ref b9), .val (.ref b13), .val (.long ((i0.toInt64) + (i2.toInt64))), .second, .val (.long (0 : Int64)), .second] [(.ref b13)])) rfl (by rw [hml]; rfl) (Steps.refl _) (argsL := []) (rest := []) (lenOf pd_4 rfl) rfl (by show 2 * 0 + _ ≤ _; exact Nat.le_of_eq rfl) (hb hby at_164) (fun vm₁ hw₁ => ⟨rfl, eh31, (by decide : 8 + 0 ≤ _), (by decide : 36 + 0 ≤ _)⟩)
      dsimp only [Pt.U, Pt.locs, Pt.cells, Pt.slots] at X32 l32 y32 z32 st32 hQ32
      subst l32 y32 z32
      obtain ⟨rfl, M32, eh32⟩ := hQ32
      have N32 := Fr.app N31 M32
      refine Go.tr st32 ?_
      show Go p e below _ (T32.setTop (mkF m 167 #[.val (.int i0), .val (.int i1), .val (.int i2), .val (.int i3), .val (.int i4), .val (.int i5), .val (.int (0 : Int32)), .val (.int (0 : Int32)), .val (.ref bv_4), .val (.ref b5), .val (.ref b9), .val (.ref b13), .val (.long ((i0.toInt64) + (i2.toInt64))), .second, .val (.long (0 : Int64)), .second] [(.ref bv_1_2_1_7_6_30)]))
      refine Go.st (fun t k => XS.lload X32.here hx rfl (hb hby at_167) rfl k) ?_
      show Go p e below _ (T32.setTop (mkF m 169 #[.val (.int i0), .val (.int i1), .val (.int i2), .val (.int i3), .val (.int i4), .val (.int i5), .val (.int (0 : Int32)), .val (.int (0 : Int32)), .val (.ref bv_4), .val (.ref b5), .val (.ref b9), .val (.ref b13), .val (.long ((i0.toInt64) + (i2.toInt64))), .second, .val (.long (0 : Int64)), .second] [(.long ((i0.toInt64) + (i2.toInt64))), (.ref bv_1_2_1_7_6_30)]))
      have hp33 : ¬ (((i0.toInt64) + (i2.toInt64)) = (-9223372036854775808 : Int64)) := by
        have j1 := own_b32 i0
        have j2 := own_b64 (i0.toInt64)
        have j3 := c_i2l i0
        have j4 := own_b32 i2
        have j5 := own_b64 (i2.toInt64)
        have j6 := c_i2l i2
        have j7 := own_b64 ((i0.toInt64) + (i2.toInt64))
        have j8 := c_ladd (i0.toInt64) (i2.toInt64)
        have j9 : ((-9223372036854775808 : Int64)).toInt = -9223372036854775808 := by decide
        rw [← Int64.toInt_inj]
        omega
      obtain ⟨_, _, ⟨T34, L34, k34, n34⟩, -, X34, ⟨Lc34, hQ34, l34, y34, z34⟩, st34⟩ := Jvm.LawKit.callS X32 hx (y := (⟨"java/math/BigDecimal", "valueOf", "(J)Ljava/math/BigDecimal;"⟩ : MethodName)) hown (mvT hZ (w0 hw)) (mvT hZ (w1 hw)) (mvT hZ (w2 hw)) (mvT hZ (w3 hw)) (by decide) (backOf (W := 1) (rmV l Z a0 hw [] ((i0.toInt64) + (i2.toInt64)) w1a k4c w6a w24a w40a w56a w68a w80a w92a w104a w116a w128a w140a T30.heap n0 O30 hp33 Y3 Y235 Y156 Y230 Y232 Y26 Y170 Y172 Y42 Y176 Y178 Y58 Y182 Y184 Y70 Y188 Y190 Y82 Y194 Y196 Y94 Y200 Y202 Y106 Y206 Y208 Y118 Y212 Y214 Y130 Y218 Y220 Y142 Y224 Y226) hZ (w3 hw) (w2 hw) (by decide) (by decide)) (g := (mkF m 169 #[.val (.int i0), .val (.int i1), .val (.int i2), .val (.int i3), .val (.int i4), .val (.int i5), .val (.int (0 : Int32)), .val (.int (0 : Int32)), .val (.ref bv_4), .val (.ref b5), .val (.ref b9), .val (.ref b13), .val (.long ((i0.toInt64) + (i2.toInt64))), .second, .val (.long (0 : Int64)), .second] [(.long ((i0.toInt64) + (i2.toInt64))), (.ref bv_1_2_1_7_6_30)])) rfl (by rw [hml]; rfl) (argsL := [(.long ((i0.toInt64) + (i2.toInt64)))]) (rest := [(.ref bv_1_2_1_7_6_30)]) (lenOf pd_2 rfl) rfl (by show 2 * 0 + _ ≤ _; exact Nat.le_of_eq rfl) (hb hby at_169) (fun vm₁ hw₁ => ⟨rfl, eh32, (by decide : 8 + 1 ≤ _), (by decide : 36 + 5 ≤ _)⟩)
      dsimp only [Pt.U, Pt.locs, Pt.cells, Pt.slots] at X34 l34 y34 z34 st34 hQ34
      subst l34 y34 z34
      obtain ⟨bv_34, rfl, M34, K34c, r34_0, r34_1, r34_2⟩ := hQ34
      have N34 := Fr.app N32 M34
      have O34 : Old Z n0 T34.heap := O30.keep K34c all0
      refine Go.st st34 ?_
      show Go p e below _ (T34.setTop (mkF m 172 #[.val (.int i0), .val (.int i1), .val (.int i2), .val (.int i3), .val (.int i4), .val (.int i5), .val (.int (0 : Int32)), .val (.int (0 : Int32)), .val (.ref bv_4), .val (.ref b5), .val (.ref b9), .val (.ref b13), .val (.long ((i0.toInt64) + (i2.toInt64))), .second, .val (.long (0 : Int64)), .second] [(.ref bv_34), (.ref bv_1_2_1_7_6_30)]))
      by_cases hc35 : bv_34 = bv_1_2_1_7_6_30
      · obtain ⟨cq36, kq36, q36a, q36b, q36c⟩ := isOf hZ rfl (r30_3.keep K34c)
        obtain ⟨_, _, ⟨T36, L36, k36, n36⟩, -, X36, ⟨Lc36, hQ36, l36, y36, z36⟩, st36⟩ := X34.virtualBack hx (y := (⟨"java/math/BigDecimal", "equals", "(Ljava/lang/Object;)Z"⟩ : MethodName)) (z := (⟨"java/math/BigDecimal", "equals", "(Ljava/lang/Object;)Z"⟩ : MethodName)) hown (mvT hZ (w89 hw)) (mvT hZ (w90 hw)) (notFace_of_selects (args := #[]) (mvT hZ (w92 hw))) (mvT hZ (w92 hw)) (mvT hZ (w91 hw)) (by decide) (backOf (W := 0) (rm16_1 l Z a0 hw [] bv_1_2_1_7_6_30 bv_34 T34.heap n0 O34 r34_0 (r30_3.keep K34c) hc35) hZ (w93 hw) (w2 hw) (by decide) (by decide)) q36a q36c (g := (mkF m 172 #[.val (.int i0), .val (.int i1), .val (.int i2), .val (.int i3), .val (.int i4), .val (.int i5), .val (.int (0 : Int32)), .val (.int (0 : Int32)), .val (.ref bv_4), .val (.ref b5), .val (.ref b9), .val (.ref b13), .val (.long ((i0.toInt64) + (i2.toInt64))), .second, .val (.long (0 : Int64)), .second] [(.ref bv_34), (.ref bv_1_2_1_7_6_30)])) rfl (by rw [hml]; rfl) (Steps.refl _) (argsL := [(.ref bv_34)]) (rest := []) (lenOf pd_12 rfl) rfl (by show 2 * 0 + _ ≤ _; exact Nat.le_of_eq rfl) (hb hby at_172) (fun vm₁ hw₁ => ⟨rfl, rfl, (by decide : 9 + 0 ≤ _), (by decide : 41 + 0 ≤ _)⟩)
        dsimp only [Pt.U, Pt.locs, Pt.cells, Pt.slots] at X36 l36 y36 z36 st36 hQ36
        subst l36 y36 z36
        obtain ⟨rfl, M36, eh36⟩ := hQ36
        have N36 := Fr.app N34 M36
        refine Go.tr st36 ?_
        show Go p e below _ (T36.setTop (mkF m 175 #[.val (.int i0), .val (.int i1), .val (.int i2), .val (.int i3), .val (.int i4), .val (.int i5), .val (.int (0 : Int32)), .val (.int (0 : Int32)), .val (.ref bv_4), .val (.ref b5), .val (.ref b9), .val (.ref b13), .val (.long ((i0.toInt64) + (i2.toInt64))), .second, .val (.long (0 : Int64)), .second] [(.int (1 : Int32))]))
        refine Go.st (fun t k => XS.ifNo X36.here hx rfl (hb hby at_175) rfl (Jvm.Free.XT.i0_eq_f (by decide : ¬ ((1 : Int32) = (0 : Int32)))) k) ?_
        show Go p e below _ (T36.setTop (mkF m 178 #[.val (.int i0), .val (.int i1), .val (.int i2), .val (.int i3), .val (.int i4), .val (.int i5), .val (.int (0 : Int32)), .val (.int (0 : Int32)), .val (.ref bv_4), .val (.ref b5), .val (.ref b9), .val (.ref b13), .val (.long ((i0.toInt64) + (i2.toInt64))), .second, .val (.long (0 : Int64)), .second] []))
        refine Go.st (fun t k => XS.aload X36.here hx rfl (hb hby at_178) rfl rfl k) ?_
        show Go p e below _ (T36.setTop (mkF m 180 #[.val (.int i0), .val (.int i1), .val (.int i2), .val (.int i3), .val (.int i4), .val (.int i5), .val (.int (0 : Int32)), .val (.int (0 : Int32)), .val (.ref bv_4), .val (.ref b5), .val (.ref b9), .val (.ref b13), .val (.long ((i0.toInt64) + (i2.toInt64))), .second, .val (.long (0 : Int64)), .second] [(.ref b13)]))
        have c38 := ((((A13.keep K14c).keep K22c).keep K30c).keep K34c)
        obtain ⟨cq37, kq37, q37a, q37b, q37c⟩ := isOf hZ eh36 c38
        obtain ⟨_, _, ⟨T37, L37, k37, n37⟩, -, X37, ⟨Lc37, hQ37, l37, y37, z37⟩, st37⟩ := X36.virtualBack hx (y := (⟨"com/example/cropmark/cropmark/Assessment$Sums", "inedibleLb", "()Ljava/math/BigDecimal;"⟩ : MethodName)) (z := (⟨"com/example/cropmark/cropmark/Assessment$Sums", "inedibleLb", "()Ljava/math/BigDecimal;"⟩ : MethodName)) hown (mvT hZ (w96 hw)) (mvT hZ (w97 hw)) (notFace_of_selects (args := #[]) (mvT hZ (w99 hw))) (mvT hZ (w99 hw)) (mvT hZ (w98 hw)) (by decide) (backOf (W := 0) (rm17_1 l Z a0 hw [] b13 w6a T34.heap n0 O34 (r30_2.keep K34c nin0)) hZ (w100 hw) (w29 hw) (by decide) (by decide)) q37a q37c (g := (mkF m 180 #[.val (.int i0), .val (.int i1), .val (.int i2), .val (.int i3), .val (.int i4), .val (.int i5), .val (.int (0 : Int32)), .val (.int (0 : Int32)), .val (.ref bv_4), .val (.ref b5), .val (.ref b9), .val (.ref b13), .val (.long ((i0.toInt64) + (i2.toInt64))), .second, .val (.long (0 : Int64)), .second] [(.ref b13)])) rfl (by rw [hml]; rfl) (Steps.refl _) (argsL := []) (rest := []) (lenOf pd_4 rfl) rfl (by show 2 * 0 + _ ≤ _; exact Nat.le_of_eq rfl) (hb hby at_180) (fun vm₁ hw₁ => ⟨rfl, eh36, (by decide : 9 + 0 ≤ _), (by decide : 41 + 0 ≤ _)⟩)
        dsimp only [Pt.U, Pt.locs, Pt.cells, Pt.slots] at X37 l37 y37 z37 st37 hQ37
        subst l37 y37 z37
        obtain ⟨rfl, M37, eh37⟩ := hQ37
        have N37 := Fr.app N36 M37
        refine Go.tr st37 ?_
        show Go p e below _ (T37.setTop (mkF m 183 #[.val (.int i0), .val (.int i1), .val (.int i2), .val (.int i3), .val (.int i4), .val (.int i5), .val (.int (0 : Int32)), .val (.int (0 : Int32)), .val (.ref bv_4), .val (.ref b5), .val (.ref b9), .val (.ref b13), .val (.long ((i0.toInt64) + (i2.toInt64))), .second, .val (.long (0 : Int64)), .second] [(.ref w6a)]))
        refine Go.st (fun t k => XS.lload X37.here hx rfl (hb hby at_183) rfl k) ?_
        show Go p e below _ (T37.setTop (mkF m 185 #[.val (.int i0), .val (.int i1), .val (.int i2), .val (.int i3), .val (.int i4), .val (.int i5), .val (.int (0 : Int32)), .val (.int (0 : Int32)), .val (.ref bv_4), .val (.ref b5), .val (.ref b9), .val (.ref b13), .val (.long ((i0.toInt64) + (i2.toInt64))), .second, .val (.long (0 : Int64)), .second] [(.long (0 : Int64)), (.ref w6a)]))
        obtain ⟨_, _, ⟨T39, L39, k39, n39⟩, -, X39, ⟨Lc39, hQ39, l39, y39, z39⟩, st39⟩ := Jvm.LawKit.callS X37 hx (y := (⟨"java/math/BigDecimal", "valueOf", "(J)Ljava/math/BigDecimal;"⟩ : MethodName)) hown (mvT hZ (w0 hw)) (mvT hZ (w1 hw)) (mvT hZ (w2 hw)) (mvT hZ (w3 hw)) (by decide) (backOf (W := 1) (rmV l Z a0 hw [] (0 : Int64) w1a k4c w6a w24a w40a w56a w68a w80a w92a w104a w116a w128a w140a T34.heap n0 O34 (by decide : ¬ ((0 : Int64) = (-9223372036854775808 : Int64))) Y3 Y235 Y156 Y230 Y232 Y26 Y170 Y172 Y42 Y176 Y178 Y58 Y182 Y184 Y70 Y188 Y190 Y82 Y194 Y196 Y94 Y200 Y202 Y106 Y206 Y208 Y118 Y212 Y214 Y130 Y218 Y220 Y142 Y224 Y226) hZ (w3 hw) (w2 hw) (by decide) (by decide)) (g := (mkF m 185 #[.val (.int i0), .val (.int i1), .val (.int i2), .val (.int i3), .val (.int i4), .val (.int i5), .val (.int (0 : Int32)), .val (.int (0 : Int32)), .val (.ref bv_4), .val (.ref b5), .val (.ref b9), .val (.ref b13), .val (.long ((i0.toInt64) + (i2.toInt64))), .second, .val (.long (0 : Int64)), .second] [(.long (0 : Int64)), (.ref w6a)])) rfl (by rw [hml]; rfl) (argsL := [(.long (0 : Int64))]) (rest := [(.ref w6a)]) (lenOf pd_2 rfl) rfl (by show 2 * 0 + _ ≤ _; exact Nat.le_of_eq rfl) (hb hby at_185) (fun vm₁ hw₁ => ⟨rfl, eh37, (by decide : 9 + 1 ≤ _), (by decide : 41 + 5 ≤ _)⟩)
        dsimp only [Pt.U, Pt.locs, Pt.cells, Pt.slots] at X39 l39 y39 z39 st39 hQ39
        subst l39 y39 z39
        obtain ⟨bv_39, rfl, M39, K39c, r39_0, r39_1, r39_2⟩ := hQ39
        have N39 := Fr.app N37 M39
        have O39 : Old Z n0 T39.heap := O34.keep K39c all0
        refine Go.st st39 ?_
        show Go p e below _ (T39.setTop (mkF m 188 #[.val (.int i0), .val (.int i1), .val (.int i2), .val (.int i3), .val (.int i4), .val (.int i5), .val (.int (0 : Int32)), .val (.int (0 : Int32)), .val (.ref bv_4), .val (.ref b5), .val (.ref b9), .val (.ref b13), .val (.long ((i0.toInt64) + (i2.toInt64))), .second, .val (.long (0 : Int64)), .second] [(.ref bv_39), (.ref w6a)]))
        by_cases hc40 : bv_39 = w6a
        · obtain ⟨cq41, kq41, q41a, q41b, q41c⟩ := isOf hZ rfl (Y156.ext O39.2)
          obtain ⟨_, _, ⟨T41, L41, k41, n41⟩, -, X41, ⟨Lc41, hQ41, l41, y41, z41⟩, st41⟩ := X39.virtualBack hx (y := (⟨"java/math/BigDecimal", "equals", "(Ljava/lang/Object;)Z"⟩ : MethodName)) (z := (⟨"java/math/BigDecimal", "equals", "(Ljava/lang/Object;)Z"⟩ : MethodName)) hown (mvT hZ (w89 hw)) (mvT hZ (w90 hw)) (notFace_of_selects (args := #[]) (mvT hZ (w92 hw))) (mvT hZ (w92 hw)) (mvT hZ (w91 hw)) (by decide) (backOf (W := 0) (rm16_2 l Z a0 hw [] w6a bv_39 T39.heap n0 O39 r39_0 Y156 hc40) hZ (w93 hw) (w2 hw) (by decide) (by decide)) q41a q41c (g := (mkF m 188 #[.val (.int i0), .val (.int i1), .val (.int i2), .val (.int i3), .val (.int i4), .val (.int i5), .val (.int (0 : Int32)), .val (.int (0 : Int32)), .val (.ref bv_4), .val (.ref b5), .val (.ref b9), .val (.ref b13), .val (.long ((i0.toInt64) + (i2.toInt64))), .second, .val (.long (0 : Int64)), .second] [(.ref bv_39), (.ref w6a)])) rfl (by rw [hml]; rfl) (Steps.refl _) (argsL := [(.ref bv_39)]) (rest := []) (lenOf pd_12 rfl) rfl (by show 2 * 0 + _ ≤ _; exact Nat.le_of_eq rfl) (hb hby at_188) (fun vm₁ hw₁ => ⟨rfl, rfl, (by decide : 10 + 0 ≤ _), (by decide : 46 + 0 ≤ _)⟩)
          dsimp only [Pt.U, Pt.locs, Pt.cells, Pt.slots] at X41 l41 y41 z41 st41 hQ41
          subst l41 y41 z41
          obtain ⟨rfl, M41, eh41⟩ := hQ41
          have N41 := Fr.app N39 M41
          refine Go.tr st41 ?_
          show Go p e below _ (T41.setTop (mkF m 191 #[.val (.int i0), .val (.int i1), .val (.int i2), .val (.int i3), .val (.int i4), .val (.int i5), .val (.int (0 : Int32)), .val (.int (0 : Int32)), .val (.ref bv_4), .val (.ref b5), .val (.ref b9), .val (.ref b13), .val (.long ((i0.toInt64) + (i2.toInt64))), .second, .val (.long (0 : Int64)), .second] [(.int (1 : Int32))]))
          refine Go.st (fun t k => XS.ifNo X41.here hx rfl (hb hby at_191) rfl (Jvm.Free.XT.i0_eq_f (by decide : ¬ ((1 : Int32) = (0 : Int32)))) k) ?_
          show Go p e below _ (T41.setTop (mkF m 194 #[.val (.int i0), .val (.int i1), .val (.int i2), .val (.int i3), .val (.int i4), .val (.int i5), .val (.int (0 : Int32)), .val (.int (0 : Int32)), .val (.ref bv_4), .val (.ref b5), .val (.ref b9), .val (.ref b13), .val (.long ((i0.toInt64) + (i2.toInt64))), .second, .val (.long (0 : Int64)), .second] []))
          refine Go.st (fun t k => XS.iconst X41.here hx rfl (hb hby at_194) k) ?_
          show Go p e below _ (T41.setTop (mkF m 195 #[.val (.int i0), .val (.int i1), .val (.int i2), .val (.int i3), .val (.int i4), .val (.int i5), .val (.int (0 : Int32)), .val (.int (0 : Int32)), .val (.ref bv_4), .val (.ref b5), .val (.ref b9), .val (.ref b13), .val (.long ((i0.toInt64) + (i2.toInt64))), .second, .val (.long (0 : Int64)), .second] [(.int (1 : Int32))]))
          refine Go.st (fun t k => XS.goto X41.here hx rfl (pc0 := 195) (pc' := 199) rfl (hb hby at_195) (by decide) (by decide) k) ?_
          show Go p e below _ (T41.setTop (mkF m 199 #[.val (.int i0), .val (.int i1), .val (.int i2), .val (.int i3), .val (.int i4), .val (.int i5), .val (.int (0 : Int32)), .val (.int (0 : Int32)), .val (.ref bv_4), .val (.ref b5), .val (.ref b9), .val (.ref b13), .val (.long ((i0.toInt64) + (i2.toInt64))), .second, .val (.long (0 : Int64)), .second] [(.int (1 : Int32))]))
          obtain ⟨fs, hr, hrun, hended, hWd, hsame⟩ := X41.leave (v := some (.int (1 : Int32))) (fun h => by rw [Bd.returns] at h; cases h)
          refine ⟨_, _, ?_, hrun, hended, _, _, rfl, ?_, ⟨⟨_, rfl⟩, hWd, hsame.mono (by decide) (by decide)⟩⟩
          · exact retN X41 hx (t := .boolean) Bd.returns (by simp) (hb hby at_199) hr
          · exact ⟨rfl, N41⟩
        · obtain ⟨cq42, kq42, q42a, q42b, q42c⟩ := isOf hZ rfl (Y156.ext O39.2)
          obtain ⟨_, _, ⟨T42, L42, k42, n42⟩, -, X42, ⟨Lc42, hQ42, l42, y42, z42⟩, st42⟩ := X39.virtualBack hx (y := (⟨"java/math/BigDecimal", "equals", "(Ljava/lang/Object;)Z"⟩ : MethodName)) (z := (⟨"java/math/BigDecimal", "equals", "(Ljava/lang/Object;)Z"⟩ : MethodName)) hown (mvT hZ (w89 hw)) (mvT hZ (w90 hw)) (notFace_of_selects (args := #[]) (mvT hZ (w92 hw))) (mvT hZ (w92 hw)) (mvT hZ (w91 hw)) (by decide) (backOf (W := 0) (rm16_3 l Z a0 hw [] w6a bv_39 T39.heap n0 O39 r39_0 Y156 hc40 Y230 r39_1 Y232 r39_2) hZ (w93 hw) (w2 hw) (by decide) (by decide)) q42a q42c (g := (mkF m 188 #[.val (.int i0), .val (.int i1), .val (.int i2), .val (.int i3), .val (.int i4), .val (.int i5), .val (.int (0 : Int32)), .val (.int (0 : Int32)), .val (.ref bv_4), .val (.ref b5), .val (.ref b9), .val (.ref b13), .val (.long ((i0.toInt64) + (i2.toInt64))), .second, .val (.long (0 : Int64)), .second] [(.ref bv_39), (.ref w6a)])) rfl (by rw [hml]; rfl) (Steps.refl _) (argsL := [(.ref bv_39)]) (rest := []) (lenOf pd_12 rfl) rfl (by show 2 * 0 + _ ≤ _; exact Nat.le_of_eq rfl) (hb hby at_188) (fun vm₁ hw₁ => ⟨rfl, rfl, (by decide : 10 + 0 ≤ _), (by decide : 46 + 0 ≤ _)⟩)
          dsimp only [Pt.U, Pt.locs, Pt.cells, Pt.slots] at X42 l42 y42 z42 st42 hQ42
          subst l42 y42 z42
          obtain ⟨rfl, M42, eh42⟩ := hQ42
          have N42 := Fr.app N39 M42
          refine Go.tr st42 ?_
          show Go p e below _ (T42.setTop (mkF m 191 #[.val (.int i0), .val (.int i1), .val (.int i2), .val (.int i3), .val (.int i4), .val (.int i5), .val (.int (0 : Int32)), .val (.int (0 : Int32)), .val (.ref bv_4), .val (.ref b5), .val (.ref b9), .val (.ref b13), .val (.long ((i0.toInt64) + (i2.toInt64))), .second, .val (.long (0 : Int64)), .second] [(.int (1 : Int32))]))
          refine Go.st (fun t k => XS.ifNo X42.here hx rfl (hb hby at_191) rfl (Jvm.Free.XT.i0_eq_f (by decide : ¬ ((1 : Int32) = (0 : Int32)))) k) ?_
          show Go p e below _ (T42.setTop (mkF m 194 #[.val (.int i0), .val (.int i1), .val (.int i2), .val (.int i3), .val (.int i4), .val (.int i5), .val (.int (0 : Int32)), .val (.int (0 : Int32)), .val (.ref bv_4), .val (.ref b5), .val (.ref b9), .val (.ref b13), .val (.long ((i0.toInt64) + (i2.toInt64))), .second, .val (.long (0 : Int64)), .second] []))
          refine Go.st (fun t k => XS.iconst X42.here hx rfl (hb hby at_194) k) ?_
          show Go p e below _ (T42.setTop (mkF m 195 #[.val (.int i0), .val (.int i1), .val (.int i2), .val (.int i3), .val (.int i4), .val (.int i5), .val (.int (0 : Int32)), .val (.int (0 : Int32)), .val (.ref bv_4), .val (.ref b5), .val (.ref b9), .val (.ref b13), .val (.long ((i0.toInt64) + (i2.toInt64))), .second, .val (.long (0 : Int64)), .second] [(.int (1 : Int32))]))
          refine Go.st (fun t k => XS.goto X42.here hx rfl (pc0 := 195) (pc' := 199) rfl (hb hby at_195) (by decide) (by decide) k) ?_
          show Go p e below _ (T42.setTop (mkF m 199 #[.val (.int i0), .val (.int i1), .val (.int i2), .val (.int i3), .val (.int i4), .val (.int i5), .val (.int (0 : Int32)), .val (.int (0 : Int32)), .val (.ref bv_4), .val (.ref b5), .val (.ref b9), .val (.ref b13), .val (.long ((i0.toInt64) + (i2.toInt64))), .second, .val (.long (0 : Int64)), .second] [(.int (1 : Int32))]))
          obtain ⟨fs, hr, hrun, hended, hWd, hsame⟩ := X42.leave (v := some (.int (1 : Int32))) (fun h => by rw [Bd.returns] at h; cases h)
          refine ⟨_, _, ?_, hrun, hended, _, _, rfl, ?_, ⟨⟨_, rfl⟩, hWd, hsame.mono (by decide) (by decide)⟩⟩
          · exact retN X42 hx (t := .boolean) Bd.returns (by simp) (hb hby at_199) hr
          · exact ⟨rfl, N42⟩
      · have hp43 : ((i0.toInt64) + (i2.toInt64)) = (((0 : Int64) + (i0.toInt64)) + (i2.toInt64)) := by
          have j1 := own_b32 i0
          have j2 := own_b64 (i0.toInt64)
          have j3 := c_i2l i0
          have j4 := own_b32 i2
          have j5 := own_b64 (i2.toInt64)
          have j6 := c_i2l i2
          have j7 := own_b64 ((i0.toInt64) + (i2.toInt64))
          have j8 := c_ladd (i0.toInt64) (i2.toInt64)
          have j9 : ((0 : Int64)).toInt = 0 := by decide
          have j10 := own_b64 ((0 : Int64) + (i0.toInt64))
          have j11 := c_ladd (0 : Int64) (i0.toInt64)
          have j12 := own_b64 (((0 : Int64) + (i0.toInt64)) + (i2.toInt64))
          have j13 := c_ladd ((0 : Int64) + (i0.toInt64)) (i2.toInt64)
          rw [← Int64.toInt_inj]
          omega
        obtain ⟨cq44, kq44, q44a, q44b, q44c⟩ := isOf hZ rfl (r30_3.keep K34c)
        obtain ⟨_, _, ⟨T44, L44, k44, n44⟩, -, X44, ⟨Lc44, hQ44, l44, y44, z44⟩, st44⟩ := X34.virtualBack hx (y := (⟨"java/math/BigDecimal", "equals", "(Ljava/lang/Object;)Z"⟩ : MethodName)) (z := (⟨"java/math/BigDecimal", "equals", "(Ljava/lang/Object;)Z"⟩ : MethodName)) hown (mvT hZ (w89 hw)) (mvT hZ (w90 hw)) (notFace_of_selects (args := #[]) (mvT hZ (w92 hw))) (mvT hZ (w92 hw)) (mvT hZ (w91 hw)) (by decide) (backOf (W := 0) (rm16_4 l Z a0 hw [] bv_1_2_1_7_6_30 bv_34 (((0 : Int64) + (i0.toInt64)) + (i2.toInt64)) ((i0.toInt64) + (i2.toInt64)) T34.heap n0 O34 r34_0 (r30_3.keep K34c) hc35 (r30_4.keep K34c nin0) r34_1 (r30_5.keep K34c nin0) r34_2 hp24 hp33 hp43) hZ (w93 hw) (w2 hw) (by decide) (by decide)) q44a q44c (g := (mkF m 172 #[.val (.int i0), .val (.int i1), .val (.int i2), .val (.int i3), .val (.int i4), .val (.int i5), .val (.int (0 : Int32)), .val (.int (0 : Int32)), .val (.ref bv_4), .val (.ref b5), .val (.ref b9), .val (.ref b13), .val (.long ((i0.toInt64) + (i2.toInt64))), .second, .val (.long (0 : Int64)), .second] [(.ref bv_34), (.ref bv_1_2_1_7_6_30)])) rfl (by rw [hml]; rfl) (Steps.refl _) (argsL := [(.ref bv_34)]) (rest := []) (lenOf pd_12 rfl) rfl (by show 2 * 0 + _ ≤ _; exact Nat.le_of_eq rfl) (hb hby at_172) (fun vm₁ hw₁ => ⟨rfl, rfl, (by decide : 9 + 0 ≤ _), (by decide : 41 + 0 ≤ _)⟩)
        dsimp only [Pt.U, Pt.locs, Pt.cells, Pt.slots] at X44 l44 y44 z44 st44 hQ44
        subst l44 y44 z44
        obtain ⟨rfl, M44, eh44⟩ := hQ44
        have N44 := Fr.app N34 M44
        refine Go.tr st44 ?_
        show Go p e below _ (T44.setTop (mkF m 175 #[.val (.int i0), .val (.int i1), .val (.int i2), .val (.int i3), .val (.int i4), .val (.int i5), .val (.int (0 : Int32)), .val (.int (0 : Int32)), .val (.ref bv_4), .val (.ref b5), .val (.ref b9), .val (.ref b13), .val (.long ((i0.toInt64) + (i2.toInt64))), .second, .val (.long (0 : Int64)), .second] [(.int (1 : Int32))]))
        refine Go.st (fun t k => XS.ifNo X44.here hx rfl (hb hby at_175) rfl (Jvm.Free.XT.i0_eq_f (by decide : ¬ ((1 : Int32) = (0 : Int32)))) k) ?_
        show Go p e below _ (T44.setTop (mkF m 178 #[.val (.int i0), .val (.int i1), .val (.int i2), .val (.int i3), .val (.int i4), .val (.int i5), .val (.int (0 : Int32)), .val (.int (0 : Int32)), .val (.ref bv_4), .val (.ref b5), .val (.ref b9), .val (.ref b13), .val (.long ((i0.toInt64) + (i2.toInt64))), .second, .val (.long (0 : Int64)), .second] []))
        refine Go.st (fun t k => XS.aload X44.here hx rfl (hb hby at_178) rfl rfl k) ?_
        show Go p e below _ (T44.setTop (mkF m 180 #[.val (.int i0), .val (.int i1), .val (.int i2), .val (.int i3), .val (.int i4), .val (.int i5), .val (.int (0 : Int32)), .val (.int (0 : Int32)), .val (.ref bv_4), .val (.ref b5), .val (.ref b9), .val (.ref b13), .val (.long ((i0.toInt64) + (i2.toInt64))), .second, .val (.long (0 : Int64)), .second] [(.ref b13)]))
        have c46 := ((((A13.keep K14c).keep K22c).keep K30c).keep K34c)
        obtain ⟨cq45, kq45, q45a, q45b, q45c⟩ := isOf hZ eh44 c46
        obtain ⟨_, _, ⟨T45, L45, k45, n45⟩, -, X45, ⟨Lc45, hQ45, l45, y45, z45⟩, st45⟩ := X44.virtualBack hx (y := (⟨"com/example/cropmark/cropmark/Assessment$Sums", "inedibleLb", "()Ljava/math/BigDecimal;"⟩ : MethodName)) (z := (⟨"com/example/cropmark/cropmark/Assessment$Sums", "inedibleLb", "()Ljava/math/BigDecimal;"⟩ : MethodName)) hown (mvT hZ (w96 hw)) (mvT hZ (w97 hw)) (notFace_of_selects (args := #[]) (mvT hZ (w99 hw))) (mvT hZ (w99 hw)) (mvT hZ (w98 hw)) (by decide) (backOf (W := 0) (rm17_1 l Z a0 hw [] b13 w6a T34.heap n0 O34 (r30_2.keep K34c nin0)) hZ (w100 hw) (w29 hw) (by decide) (by decide)) q45a q45c (g := (mkF m 180 #[.val (.int i0), .val (.int i1), .val (.int i2), .val (.int i3), .val (.int i4), .val (.int i5), .val (.int (0 : Int32)), .val (.int (0 : Int32)), .val (.ref bv_4), .val (.ref b5), .val (.ref b9), .val (.ref b13), .val (.long ((i0.toInt64) + (i2.toInt64))), .second, .val (.long (0 : Int64)), .second] [(.ref b13)])) rfl (by rw [hml]; rfl) (Steps.refl _) (argsL := []) (rest := []) (lenOf pd_4 rfl) rfl (by show 2 * 0 + _ ≤ _; exact Nat.le_of_eq rfl) (hb hby at_180) (fun vm₁ hw₁ => ⟨rfl, eh44, (by decide : 9 + 0 ≤ _), (by decide : 41 + 0 ≤ _)⟩)
        dsimp only [Pt.U, Pt.locs, Pt.cells, Pt.slots] at X45 l45 y45 z45 st45 hQ45
        subst l45 y45 z45
        obtain ⟨rfl, M45, eh45⟩ := hQ45
        have N45 := Fr.app N44 M45
        refine Go.tr st45 ?_
        show Go p e below _ (T45.setTop (mkF m 183 #[.val (.int i0), .val (.int i1), .val (.int i2), .val (.int i3), .val (.int i4), .val (.int i5), .val (.int (0 : Int32)), .val (.int (0 : Int32)), .val (.ref bv_4), .val (.ref b5), .val (.ref b9), .val (.ref b13), .val (.long ((i0.toInt64) + (i2.toInt64))), .second, .val (.long (0 : Int64)), .second] [(.ref w6a)]))
        refine Go.st (fun t k => XS.lload X45.here hx rfl (hb hby at_183) rfl k) ?_
        show Go p e below _ (T45.setTop (mkF m 185 #[.val (.int i0), .val (.int i1), .val (.int i2), .val (.int i3), .val (.int i4), .val (.int i5), .val (.int (0 : Int32)), .val (.int (0 : Int32)), .val (.ref bv_4), .val (.ref b5), .val (.ref b9), .val (.ref b13), .val (.long ((i0.toInt64) + (i2.toInt64))), .second, .val (.long (0 : Int64)), .second] [(.long (0 : Int64)), (.ref w6a)]))
        obtain ⟨_, _, ⟨T47, L47, k47, n47⟩, -, X47, ⟨Lc47, hQ47, l47, y47, z47⟩, st47⟩ := Jvm.LawKit.callS X45 hx (y := (⟨"java/math/BigDecimal", "valueOf", "(J)Ljava/math/BigDecimal;"⟩ : MethodName)) hown (mvT hZ (w0 hw)) (mvT hZ (w1 hw)) (mvT hZ (w2 hw)) (mvT hZ (w3 hw)) (by decide) (backOf (W := 1) (rmV l Z a0 hw [] (0 : Int64) w1a k4c w6a w24a w40a w56a w68a w80a w92a w104a w116a w128a w140a T34.heap n0 O34 (by decide : ¬ ((0 : Int64) = (-9223372036854775808 : Int64))) Y3 Y235 Y156 Y230 Y232 Y26 Y170 Y172 Y42 Y176 Y178 Y58 Y182 Y184 Y70 Y188 Y190 Y82 Y194 Y196 Y94 Y200 Y202 Y106 Y206 Y208 Y118 Y212 Y214 Y130 Y218 Y220 Y142 Y224 Y226) hZ (w3 hw) (w2 hw) (by decide) (by decide)) (g := (mkF m 185 #[.val (.int i0), .val (.int i1), .val (.int i2), .val (.int i3), .val (.int i4), .val (.int i5), .val (.int (0 : Int32)), .val (.int (0 : Int32)), .val (.ref bv_4), .val (.ref b5), .val (.ref b9), .val (.ref b13), .val (.long ((i0.toInt64) + (i2.toInt64))), .second, .val (.long (0 : Int64)), .second] [(.long (0 : Int64)), (.ref w6a)])) rfl (by rw [hml]; rfl) (argsL := [(.long (0 : Int64))]) (rest := [(.ref w6a)]) (lenOf pd_2 rfl) rfl (by show 2 * 0 + _ ≤ _; exact Nat.le_of_eq rfl) (hb hby at_185) (fun vm₁ hw₁ => ⟨rfl, eh45, (by decide : 9 + 1 ≤ _), (by decide : 41 + 5 ≤ _)⟩)
        dsimp only [Pt.U, Pt.locs, Pt.cells, Pt.slots] at X47 l47 y47 z47 st47 hQ47
        subst l47 y47 z47
        obtain ⟨bv_47, rfl, M47, K47c, r47_0, r47_1, r47_2⟩ := hQ47
        have N47 := Fr.app N45 M47
        have O47 : Old Z n0 T47.heap := O34.keep K47c all0
        refine Go.st st47 ?_
        show Go p e below _ (T47.setTop (mkF m 188 #[.val (.int i0), .val (.int i1), .val (.int i2), .val (.int i3), .val (.int i4), .val (.int i5), .val (.int (0 : Int32)), .val (.int (0 : Int32)), .val (.ref bv_4), .val (.ref b5), .val (.ref b9), .val (.ref b13), .val (.long ((i0.toInt64) + (i2.toInt64))), .second, .val (.long (0 : Int64)), .second] [(.ref bv_47), (.ref w6a)]))
        by_cases hc48 : bv_47 = w6a
        · obtain ⟨cq49, kq49, q49a, q49b, q49c⟩ := isOf hZ rfl (Y156.ext O47.2)
          obtain ⟨_, _, ⟨T49, L49, k49, n49⟩, -, X49, ⟨Lc49, hQ49, l49, y49, z49⟩, st49⟩ := X47.virtualBack hx (y := (⟨"java/math/BigDecimal", "equals", "(Ljava/lang/Object;)Z"⟩ : MethodName)) (z := (⟨"java/math/BigDecimal", "equals", "(Ljava/lang/Object;)Z"⟩ : MethodName)) hown (mvT hZ (w89 hw)) (mvT hZ (w90 hw)) (notFace_of_selects (args := #[]) (mvT hZ (w92 hw))) (mvT hZ (w92 hw)) (mvT hZ (w91 hw)) (by decide) (backOf (W := 0) (rm16_2 l Z a0 hw [] w6a bv_47 T47.heap n0 O47 r47_0 Y156 hc48) hZ (w93 hw) (w2 hw) (by decide) (by decide)) q49a q49c (g := (mkF m 188 #[.val (.int i0), .val (.int i1), .val (.int i2), .val (.int i3), .val (.int i4), .val (.int i5), .val (.int (0 : Int32)), .val (.int (0 : Int32)), .val (.ref bv_4), .val (.ref b5), .val (.ref b9), .val (.ref b13), .val (.long ((i0.toInt64) + (i2.toInt64))), .second, .val (.long (0 : Int64)), .second] [(.ref bv_47), (.ref w6a)])) rfl (by rw [hml]; rfl) (Steps.refl _) (argsL := [(.ref bv_47)]) (rest := []) (lenOf pd_12 rfl) rfl (by show 2 * 0 + _ ≤ _; exact Nat.le_of_eq rfl) (hb hby at_188) (fun vm₁ hw₁ => ⟨rfl, rfl, (by decide : 10 + 0 ≤ _), (by decide : 46 + 0 ≤ _)⟩)
          dsimp only [Pt.U, Pt.locs, Pt.cells, Pt.slots] at X49 l49 y49 z49 st49 hQ49
          subst l49 y49 z49
          obtain ⟨rfl, M49, eh49⟩ := hQ49
          have N49 := Fr.app N47 M49
          refine Go.tr st49 ?_
          show Go p e below _ (T49.setTop (mkF m 191 #[.val (.int i0), .val (.int i1), .val (.int i2), .val (.int i3), .val (.int i4), .val (.int i5), .val (.int (0 : Int32)), .val (.int (0 : Int32)), .val (.ref bv_4), .val (.ref b5), .val (.ref b9), .val (.ref b13), .val (.long ((i0.toInt64) + (i2.toInt64))), .second, .val (.long (0 : Int64)), .second] [(.int (1 : Int32))]))
          refine Go.st (fun t k => XS.ifNo X49.here hx rfl (hb hby at_191) rfl (Jvm.Free.XT.i0_eq_f (by decide : ¬ ((1 : Int32) = (0 : Int32)))) k) ?_
          show Go p e below _ (T49.setTop (mkF m 194 #[.val (.int i0), .val (.int i1), .val (.int i2), .val (.int i3), .val (.int i4), .val (.int i5), .val (.int (0 : Int32)), .val (.int (0 : Int32)), .val (.ref bv_4), .val (.ref b5), .val (.ref b9), .val (.ref b13), .val (.long ((i0.toInt64) + (i2.toInt64))), .second, .val (.long (0 : Int64)), .second] []))
          refine Go.st (fun t k => XS.iconst X49.here hx rfl (hb hby at_194) k) ?_
          show Go p e below _ (T49.setTop (mkF m 195 #[.val (.int i0), .val (.int i1), .val (.int i2), .val (.int i3), .val (.int i4), .val (.int i5), .val (.int (0 : Int32)), .val (.int (0 : Int32)), .val (.ref bv_4), .val (.ref b5), .val (.ref b9), .val (.ref b13), .val (.long ((i0.toInt64) + (i2.toInt64))), .second, .val (.long (0 : Int64)), .second] [(.int (1 : Int32))]))
          refine Go.st (fun t k => XS.goto X49.here hx rfl (pc0 := 195) (pc' := 199) rfl (hb hby at_195) (by decide) (by decide) k) ?_
          show Go p e below _ (T49.setTop (mkF m 199 #[.val (.int i0), .val (.int i1), .val (.int i2), .val (.int i3), .val (.int i4), .val (.int i5), .val (.int (0 : Int32)), .val (.int (0 : Int32)), .val (.ref bv_4), .val (.ref b5), .val (.ref b9), .val (.ref b13), .val (.long ((i0.toInt64) + (i2.toInt64))), .second, .val (.long (0 : Int64)), .second] [(.int (1 : Int32))]))
          obtain ⟨fs, hr, hrun, hended, hWd, hsame⟩ := X49.leave (v := some (.int (1 : Int32))) (fun h => by rw [Bd.returns] at h; cases h)
          refine ⟨_, _, ?_, hrun, hended, _, _, rfl, ?_, ⟨⟨_, rfl⟩, hWd, hsame.mono (by decide) (by decide)⟩⟩
          · exact retN X49 hx (t := .boolean) Bd.returns (by simp) (hb hby at_199) hr
          · exact ⟨rfl, N49⟩
        · obtain ⟨cq50, kq50, q50a, q50b, q50c⟩ := isOf hZ rfl (Y156.ext O47.2)
          obtain ⟨_, _, ⟨T50, L50, k50, n50⟩, -, X50, ⟨Lc50, hQ50, l50, y50, z50⟩, st50⟩ := X47.virtualBack hx (y := (⟨"java/math/BigDecimal", "equals", "(Ljava/lang/Object;)Z"⟩ : MethodName)) (z := (⟨"java/math/BigDecimal", "equals", "(Ljava/lang/Object;)Z"⟩ : MethodName)) hown (mvT hZ (w89 hw)) (mvT hZ (w90 hw)) (notFace_of_selects (args := #[]) (mvT hZ (w92 hw))) (mvT hZ (w92 hw)) (mvT hZ (w91 hw)) (by decide) (backOf (W := 0) (rm16_3 l Z a0 hw [] w6a bv_47 T47.heap n0 O47 r47_0 Y156 hc48 Y230 r47_1 Y232 r47_2) hZ (w93 hw) (w2 hw) (by decide) (by decide)) q50a q50c (g := (mkF m 188 #[.val (.int i0), .val (.int i1), .val (.int i2), .val (.int i3), .val (.int i4), .val (.int i5), .val (.int (0 : Int32)), .val (.int (0 : Int32)), .val (.ref bv_4), .val (.ref b5), .val (.ref b9), .val (.ref b13), .val (.long ((i0.toInt64) + (i2.toInt64))), .second, .val (.long (0 : Int64)), .second] [(.ref bv_47), (.ref w6a)])) rfl (by rw [hml]; rfl) (Steps.refl _) (argsL := [(.ref bv_47)]) (rest := []) (lenOf pd_12 rfl) rfl (by show 2 * 0 + _ ≤ _; exact Nat.le_of_eq rfl) (hb hby at_188) (fun vm₁ hw₁ => ⟨rfl, rfl, (by decide : 10 + 0 ≤ _), (by decide : 46 + 0 ≤ _)⟩)
          dsimp only [Pt.U, Pt.locs, Pt.cells, Pt.slots] at X50 l50 y50 z50 st50 hQ50
          subst l50 y50 z50
          obtain ⟨rfl, M50, eh50⟩ := hQ50
          have N50 := Fr.app N47 M50
          refine Go.tr st50 ?_
          show Go p e below _ (T50.setTop (mkF m 191 #[.val (.int i0), .val (.int i1), .val (.int i2), .val (.int i3), .val (.int i4), .val (.int i5), .val (.int (0 : Int32)), .val (.int (0 : Int32)), .val (.ref bv_4), .val (.ref b5), .val (.ref b9), .val (.ref b13), .val (.long ((i0.toInt64) + (i2.toInt64))), .second, .val (.long (0 : Int64)), .second] [(.int (1 : Int32))]))
          refine Go.st (fun t k => XS.ifNo X50.here hx rfl (hb hby at_191) rfl (Jvm.Free.XT.i0_eq_f (by decide : ¬ ((1 : Int32) = (0 : Int32)))) k) ?_
          show Go p e below _ (T50.setTop (mkF m 194 #[.val (.int i0), .val (.int i1), .val (.int i2), .val (.int i3), .val (.int i4), .val (.int i5), .val (.int (0 : Int32)), .val (.int (0 : Int32)), .val (.ref bv_4), .val (.ref b5), .val (.ref b9), .val (.ref b13), .val (.long ((i0.toInt64) + (i2.toInt64))), .second, .val (.long (0 : Int64)), .second] []))
          refine Go.st (fun t k => XS.iconst X50.here hx rfl (hb hby at_194) k) ?_
          show Go p e below _ (T50.setTop (mkF m 195 #[.val (.int i0), .val (.int i1), .val (.int i2), .val (.int i3), .val (.int i4), .val (.int i5), .val (.int (0 : Int32)), .val (.int (0 : Int32)), .val (.ref bv_4), .val (.ref b5), .val (.ref b9), .val (.ref b13), .val (.long ((i0.toInt64) + (i2.toInt64))), .second, .val (.long (0 : Int64)), .second] [(.int (1 : Int32))]))
          refine Go.st (fun t k => XS.goto X50.here hx rfl (pc0 := 195) (pc' := 199) rfl (hb hby at_195) (by decide) (by decide) k) ?_
          show Go p e below _ (T50.setTop (mkF m 199 #[.val (.int i0), .val (.int i1), .val (.int i2), .val (.int i3), .val (.int i4), .val (.int i5), .val (.int (0 : Int32)), .val (.int (0 : Int32)), .val (.ref bv_4), .val (.ref b5), .val (.ref b9), .val (.ref b13), .val (.long ((i0.toInt64) + (i2.toInt64))), .second, .val (.long (0 : Int64)), .second] [(.int (1 : Int32))]))
          obtain ⟨fs, hr, hrun, hended, hWd, hsame⟩ := X50.leave (v := some (.int (1 : Int32))) (fun h => by rw [Bd.returns] at h; cases h)
          refine ⟨_, _, ?_, hrun, hended, _, _, rfl, ?_, ⟨⟨_, rfl⟩, hWd, hsame.mono (by decide) (by decide)⟩⟩
          · exact retN X50 hx (t := .boolean) Bd.returns (by simp) (hb hby at_199) hr
          · exact ⟨rfl, N50⟩
    · refine Go.st (fun t k => XS.ifNo X0.here hx rfl (hb hby at_18) rfl (Jvm.Free.XT.i0_eq_f hc2) k) ?_
      show Go p e below _ (s₁.setTop (mkF m 21 #[.val (.int i0), .val (.int i1), .val (.int i2), .val (.int i3), .val (.int i4), .val (.int i5), .val (.int (0 : Int32)), .unset, .unset, .unset, .unset, .unset, .unset, .unset, .unset, .unset] []))
      refine Go.st (fun t k => XS.iconst X0.here hx rfl (hb hby at_21) k) ?_
      show Go p e below _ (s₁.setTop (mkF m 22 #[.val (.int i0), .val (.int i1), .val (.int i2), .val (.int i3), .val (.int i4), .val (.int i5), .val (.int (0 : Int32)), .unset, .unset, .unset, .unset, .unset, .unset, .unset, .unset, .unset] [(.int (1 : Int32))]))
      refine Go.st (fun t k => XS.goto X0.here hx rfl (pc0 := 22) (pc' := 26) rfl (hb hby at_22) (by decide) (by decide) k) ?_
      show Go p e below _ (s₁.setTop (mkF m 26 #[.val (.int i0), .val (.int i1), .val (.int i2), .val (.int i3), .val (.int i4), .val (.int i5), .val (.int (0 : Int32)), .unset, .unset, .unset, .unset, .unset, .unset, .unset, .unset, .unset] [(.int (1 : Int32))]))
      refine Go.st (fun t k => XS.istore X0.here hx rfl (hb hby at_26) rfl (l' := #[.val (.int i0), .val (.int i1), .val (.int i2), .val (.int i3), .val (.int i4), .val (.int i5), .val (.int (0 : Int32)), .val (.int (1 : Int32)), .unset, .unset, .unset, .unset, .unset, .unset, .unset, .unset]) rfl k) ?_
      show Go p e below _ (s₁.setTop (mkF m 28 #[.val (.int i0), .val (.int i1), .val (.int i2), .val (.int i3), .val (.int i4), .val (.int i5), .val (.int (0 : Int32)), .val (.int (1 : Int32)), .unset, .unset, .unset, .unset, .unset, .unset, .unset, .unset] []))
      refine Go.st (fun t k => XS.iload X0.here hx rfl (hb hby at_28) rfl k) ?_
      show Go p e below _ (s₁.setTop (mkF m 30 #[.val (.int i0), .val (.int i1), .val (.int i2), .val (.int i3), .val (.int i4), .val (.int i5), .val (.int (0 : Int32)), .val (.int (1 : Int32)), .unset, .unset, .unset, .unset, .unset, .unset, .unset, .unset] [(.int i4)]))
      refine Go.st (fun t k => XS.i2l X0.here hx rfl (hb hby at_30) rfl k) ?_
      show Go p e below _ (s₁.setTop (mkF m 31 #[.val (.int i0), .val (.int i1), .val (.int i2), .val (.int i3), .val (.int i4), .val (.int i5), .val (.int (0 : Int32)), .val (.int (1 : Int32)), .unset, .unset, .unset, .unset, .unset, .unset, .unset, .unset] [(.long (i4.toInt64))]))
      have hp51 : ¬ ((i4.toInt64) = (-9223372036854775808 : Int64)) := by
        have j1 := own_b32 i4
        have j2 := own_b64 (i4.toInt64)
        have j3 := c_i2l i4
        have j4 : ((-9223372036854775808 : Int64)).toInt = -9223372036854775808 := by decide
        rw [← Int64.toInt_inj]
        omega
      obtain ⟨_, _, ⟨T52, L52, k52, n52⟩, -, X52, ⟨Lc52, hQ52, l52, y52, z52⟩, st52⟩ := Jvm.LawKit.callS X0 hx (y := (⟨"java/math/BigDecimal", "valueOf", "(J)Ljava/math/BigDecimal;"⟩ : MethodName)) hown (mvT hZ (w0 hw)) (mvT hZ (w1 hw)) (mvT hZ (w2 hw)) (mvT hZ (w3 hw)) (by decide) (backOf (W := 0) (rmV l Z a0 hw [] (i4.toInt64) w1a k4c w6a w24a w40a w56a w68a w80a w92a w104a w116a w128a w140a h0 n0 O0 hp51 Y3 Y235 Y156 Y230 Y232 Y26 Y170 Y172 Y42 Y176 Y178 Y58 Y182 Y184 Y70 Y188 Y190 Y82 Y194 Y196 Y94 Y200 Y202 Y106 Y206 Y208 Y118 Y212 Y214 Y130 Y218 Y220 Y142 Y224 Y226) hZ (w3 hw) (w2 hw) (by decide) (by decide)) (g := (mkF m 31 #[.val (.int i0), .val (.int i1), .val (.int i2), .val (.int i3), .val (.int i4), .val (.int i5), .val (.int (0 : Int32)), .val (.int (1 : Int32)), .unset, .unset, .unset, .unset, .unset, .unset, .unset, .unset] [(.long (i4.toInt64))])) rfl (by rw [hml]; rfl) (argsL := [(.long (i4.toInt64))]) (rest := []) (lenOf pd_2 rfl) rfl (by show 2 * 0 + _ ≤ _; exact Nat.le_of_eq rfl) (hb hby at_31) (fun vm₁ hw₁ => ⟨rfl, e0, (by decide : 0 + 1 ≤ _), (by decide : 0 + 5 ≤ _)⟩)
      dsimp only [Pt.U, Pt.locs, Pt.cells, Pt.slots] at X52 l52 y52 z52 st52 hQ52
      subst l52 y52 z52
      obtain ⟨bv_52, rfl, M52, K52c, r52_0, r52_1, r52_2⟩ := hQ52
      have N52 := Fr.app N0 M52
      have O52 : Old Z n0 T52.heap := O0.keep K52c all0
      refine Go.st st52 ?_
      show Go p e below _ (T52.setTop (mkF m 34 #[.val (.int i0), .val (.int i1), .val (.int i2), .val (.int i3), .val (.int i4), .val (.int i5), .val (.int (0 : Int32)), .val (.int (1 : Int32)), .unset, .unset, .unset, .unset, .unset, .unset, .unset, .unset] [(.ref bv_52)]))
      refine Go.st (fun t k => XS.astore X52.here hx rfl (hb hby at_34) rfl rfl (l' := #[.val (.int i0), .val (.int i1), .val (.int i2), .val (.int i3), .val (.int i4), .val (.int i5), .val (.int (0 : Int32)), .val (.int (1 : Int32)), .val (.ref bv_52), .unset, .unset, .unset, .unset, .unset, .unset, .unset]) rfl k) ?_
      show Go p e below _ (T52.setTop (mkF m 36 #[.val (.int i0), .val (.int i1), .val (.int i2), .val (.int i3), .val (.int i4), .val (.int i5), .val (.int (0 : Int32)), .val (.int (1 : Int32)), .val (.ref bv_52), .unset, .unset, .unset, .unset, .unset, .unset, .unset] []))
      obtain ⟨T53, h53, X53, e53, E53, A53, D53, -, st53⟩ := newO X52 hx hZ hown (w5 hw) (w6 hw) (w7 hw) rfl (g := (mkF m 36 #[.val (.int i0), .val (.int i1), .val (.int i2), .val (.int i3), .val (.int i4), .val (.int i5), .val (.int (0 : Int32)), .val (.int (1 : Int32)), .val (.ref bv_52), .unset, .unset, .unset, .unset, .unset, .unset, .unset] [])) rfl (hb hby at_36) (by decide) (by decide)
      obtain ⟨b53, z53⟩ : ∃ z, z = T52.heap.size := ⟨_, rfl⟩
      rw [← z53] at A53 D53 st53
      have g_b53 : n0 ≤ b53 := Nat.le_trans (own_n0 O52) (Nat.le_of_eq z53.symm)
      have O53 : Old Z n0 h53 := O52.ext E53
      have f53_20 : Fld Z h53 b53 "com/example/cropmark/cropmark/Weights" "edibleLb" "Ljava/math/BigDecimal;" .null := D53 (Or.inr (w20 hw)) (ty := (.object "java/math/BigDecimal")) (by decide)
      have f53_22 : Fld Z h53 b53 "com/example/cropmark/cropmark/Weights" "inedibleLb" "Ljava/math/BigDecimal;" .null := D53 (Or.inr (w22 hw)) (ty := (.object "java/math/BigDecimal")) (by decide)
      have f53_24 : Fld Z h53 b53 "com/example/cropmark/cropmark/Weights" "factor" "Ljava/math/BigDecimal;" .null := D53 (Or.inr (w24 hw)) (ty := (.object "java/math/BigDecimal")) (by decide)
      have f53_26 : Fld Z h53 b53 "com/example/cropmark/cropmark/Weights" "assessedLb" "Ljava/math/BigDecimal;" .null := D53 (Or.inr (w26 hw)) (ty := (.object "java/math/BigDecimal")) (by decide)
      refine Go.st st53 ?_
      show Go p e below _ (T53.setTop (mkF m 39 #[.val (.int i0), .val (.int i1), .val (.int i2), .val (.int i3), .val (.int i4), .val (.int i5), .val (.int (0 : Int32)), .val (.int (1 : Int32)), .val (.ref bv_52), .unset, .unset, .unset, .unset, .unset, .unset, .unset] [(.ref b53)]))
      refine Go.st (fun t k => XS.dup X53.here hx rfl (hb hby at_39) rfl rfl k) ?_
      show Go p e below _ (T53.setTop (mkF m 40 #[.val (.int i0), .val (.int i1), .val (.int i2), .val (.int i3), .val (.int i4), .val (.int i5), .val (.int (0 : Int32)), .val (.int (1 : Int32)), .val (.ref bv_52), .unset, .unset, .unset, .unset, .unset, .unset, .unset] [(.ref b53), (.ref b53)]))
      refine Go.st (fun t k => XS.aload X53.here hx rfl (hb hby at_40) rfl rfl k) ?_
      show Go p e below _ (T53.setTop (mkF m 42 #[.val (.int i0), .val (.int i1), .val (.int i2), .val (.int i3), .val (.int i4), .val (.int i5), .val (.int (0 : Int32)), .val (.int (1 : Int32)), .val (.ref bv_52), .unset, .unset, .unset, .unset, .unset, .unset, .unset] [(.ref bv_52), (.ref b53), (.ref b53)]))
      refine Go.st (fun t k => XS.iload X53.here hx rfl (hb hby at_42) rfl k) ?_
      show Go p e below _ (T53.setTop (mkF m 44 #[.val (.int i0), .val (.int i1), .val (.int i2), .val (.int i3), .val (.int i4), .val (.int i5), .val (.int (0 : Int32)), .val (.int (1 : Int32)), .val (.ref bv_52), .unset, .unset, .unset, .unset, .unset, .unset, .unset] [(.int (0 : Int32)), (.ref bv_52), (.ref b53), (.ref b53)]))
      refine Go.st (fun t k => XS.ifYes X53.here hx rfl (pc0 := 44) (pc' := 55) rfl (hb hby at_44) rfl (Jvm.Free.XT.i0_eq_t (by decide : (0 : Int32) = (0 : Int32))) (by decide) (by decide) k) ?_
      show Go p e below _ (T53.setTop (mkF m 55 #[.val (.int i0), .val (.int i1), .val (.int i2), .val (.int i3), .val (.int i4), .val (.int i5), .val (.int (0 : Int32)), .val (.int (1 : Int32)), .val (.ref bv_52), .unset, .unset, .unset, .unset, .unset, .unset, .unset] [(.ref bv_52), (.ref b53), (.ref b53)]))
      refine Go.st (fun t k => XS.aconstNull X53.here hx rfl (hb hby at_55) k) ?_
      show Go p e below _ (T53.setTop (mkF m 56 #[.val (.int i0), .val (.int i1), .val (.int i2), .val (.int i3), .val (.int i4), .val (.int i5), .val (.int (0 : Int32)), .val (.int (1 : Int32)), .val (.ref bv_52), .unset, .unset, .unset, .unset, .unset, .unset, .unset] [.null, (.ref bv_52), (.ref b53), (.ref b53)]))
      refine Go.st (fun t k => XS.aconstNull X53.here hx rfl (hb hby at_56) k) ?_
      show Go p e below _ (T53.setTop (mkF m 57 #[.val (.int i0), .val (.int i1), .val (.int i2), .val (.int i3), .val (.int i4), .val (.int i5), .val (.int (0 : Int32)), .val (.int (1 : Int32)), .val (.ref bv_52), .unset, .unset, .unset, .unset, .unset, .unset, .unset] [.null, .null, (.ref bv_52), (.ref b53), (.ref b53)]))
      refine Go.st (fun t k => XS.iloadN X53.here hx rfl (hb hby at_57) rfl k) ?_
      show Go p e below _ (T53.setTop (mkF m 58 #[.val (.int i0), .val (.int i1), .val (.int i2), .val (.int i3), .val (.int i4), .val (.int i5), .val (.int (0 : Int32)), .val (.int (1 : Int32)), .val (.ref bv_52), .unset, .unset, .unset, .unset, .unset, .unset, .unset] [(.int i0), .null, .null, (.ref bv_52), (.ref b53), (.ref b53)]))
      refine Go.st (fun t k => XS.i2l X53.here hx rfl (hb hby at_58) rfl k) ?_
      show Go p e below _ (T53.setTop (mkF m 59 #[.val (.int i0), .val (.int i1), .val (.int i2), .val (.int i3), .val (.int i4), .val (.int i5), .val (.int (0 : Int32)), .val (.int (1 : Int32)), .val (.ref bv_52), .unset, .unset, .unset, .unset, .unset, .unset, .unset] [(.long (i0.toInt64)), .null, .null, (.ref bv_52), (.ref b53), (.ref b53)]))
      have hp54 : ¬ ((i0.toInt64) = (-9223372036854775808 : Int64)) := by
        have j1 := own_b32 i0
        have j2 := own_b64 (i0.toInt64)
        have j3 := c_i2l i0
        have j4 : ((-9223372036854775808 : Int64)).toInt = -9223372036854775808 := by decide
        rw [← Int64.toInt_inj]
        omega
      obtain ⟨_, _, ⟨T55, L55, k55, n55⟩, -, X55, ⟨Lc55, hQ55, l55, y55, z55⟩, st55⟩ := Jvm.LawKit.callS X53 hx (y := (⟨"java/math/BigDecimal", "valueOf", "(J)Ljava/math/BigDecimal;"⟩ : MethodName)) hown (mvT hZ (w0 hw)) (mvT hZ (w1 hw)) (mvT hZ (w2 hw)) (mvT hZ (w3 hw)) (by decide) (backOf (W := 5) (rmV l Z a0 hw [] (i0.toInt64) w1a k4c w6a w24a w40a w56a w68a w80a w92a w104a w116a w128a w140a h53 n0 O53 hp54 Y3 Y235 Y156 Y230 Y232 Y26 Y170 Y172 Y42 Y176 Y178 Y58 Y182 Y184 Y70 Y188 Y190 Y82 Y194 Y196 Y94 Y200 Y202 Y106 Y206 Y208 Y118 Y212 Y214 Y130 Y218 Y220 Y142 Y224 Y226) hZ (w3 hw) (w2 hw) (by decide) (by decide)) (g := (mkF m 59 #[.val (.int i0), .val (.int i1), .val (.int i2), .val (.int i3), .val (.int i4), .val (.int i5), .val (.int (0 : Int32)), .val (.int (1 : Int32)), .val (.ref bv_52), .unset, .unset, .unset, .unset, .unset, .unset, .unset] [(.long (i0.toInt64)), .null, .null, (.ref bv_52), (.ref b53), (.ref b53)])) rfl (by rw [hml]; rfl) (argsL := [(.long (i0.toInt64))]) (rest := [.null, .null, (.ref bv_52), (.ref b53), (.ref b53)]) (lenOf pd_2 rfl) rfl (by show 2 * 0 + _ ≤ _; exact Nat.le_of_eq rfl) (hb hby at_59) (fun vm₁ hw₁ => ⟨rfl, e53, (by decide : 2 + 1 ≤ _), (by decide : 9 + 5 ≤ _)⟩)
      dsimp only [Pt.U, Pt.locs, Pt.cells, Pt.slots] at X55 l55 y55 z55 st55 hQ55
      subst l55 y55 z55
      obtain ⟨bv_55, rfl, M55, K55c, r55_0, r55_1, r55_2⟩ := hQ55
      have N55 := Fr.app N52 M55
      have O55 : Old Z n0 T55.heap := O53.keep K55c all0
      refine Go.st st55 ?_
      show Go p e below _ (T55.setTop (mkF m 62 #[.val (.int i0), .val (.int i1), .val (.int i2), .val (.int i3), .val (.int i4), .val (.int i5), .val (.int (0 : Int32)), .val (.int (1 : Int32)), .val (.ref bv_52), .unset, .unset, .unset, .unset, .unset, .unset, .unset] [(.ref bv_55), .null, .null, (.ref bv_52), (.ref b53), (.ref b53)]))
      obtain ⟨_, _, ⟨T56, L56, k56, n56⟩, -, X56, ⟨Lc56, hQ56, l56, y56, z56⟩, st56⟩ := X55.specialBack hx (y := (⟨"com/example/cropmark/cropmark/Weights", "<init>", "(Ljava/math/BigDecimal;Ljava/math/BigDecimal;Ljava/math/BigDecimal;Ljava/math/BigDecimal;)V"⟩ : MethodName)) rfl hown (mvT hZ (w8 hw)) (mvT hZ (w9 hw)) (mvT hZ (w10 hw)) (by decide) (backOf (W := 1) (rm2_1 l Z a0 hw [] b53 bv_52 bv_55 T55.heap n0 O55 (A53.keep K55c) (f53_20.keep K55c nin0) g_b53 (f53_22.keep K55c nin0) (f53_24.keep K55c nin0) (f53_26.keep K55c nin0)) hZ (w10 hw) (w7 hw) (by decide) (by decide)) (g := (mkF m 62 #[.val (.int i0), .val (.int i1), .val (.int i2), .val (.int i3), .val (.int i4), .val (.int i5), .val (.int (0 : Int32)), .val (.int (1 : Int32)), .val (.ref bv_52), .unset, .unset, .unset, .unset, .unset, .unset, .unset] [(.ref bv_55), .null, .null, (.ref bv_52), (.ref b53), (.ref b53)])) rfl (by rw [hml]; rfl) (Steps.refl _) (a := b53) (argsL := [(.ref bv_52), .null, .null, (.ref bv_55)]) (rest := [(.ref b53)]) (lenOf pd_3 rfl) rfl (by show 2 * 0 + _ ≤ _; exact Nat.le_of_eq rfl) (hb hby at_62) (fun vm₁ hw₁ => ⟨rfl, rfl, (by decide : 3 + 0 ≤ _), (by decide : 14 + 0 ≤ _)⟩)
      dsimp only [Pt.U, Pt.locs, Pt.cells, Pt.slots] at X56 l56 y56 z56 st56 hQ56
      subst l56 y56 z56
      obtain ⟨rfl, M56, K56c, r56_0, r56_1, r56_2, r56_3⟩ := hQ56
      have N56 := Fr.app N55 M56
      have O56 : Old Z n0 T56.heap := O55.keep K56c (allS g_b53 all0)
      refine Go.tr st56 ?_
      show Go p e below _ (T56.setTop (mkF m 65 #[.val (.int i0), .val (.int i1), .val (.int i2), .val (.int i3), .val (.int i4), .val (.int i5), .val (.int (0 : Int32)), .val (.int (1 : Int32)), .val (.ref bv_52), .unset, .unset, .unset, .unset, .unset, .unset, .unset] [(.ref b53)]))
      refine Go.st (fun t k => XS.astore X56.here hx rfl (hb hby at_65) rfl rfl (l' := #[.val (.int i0), .val (.int i1), .val (.int i2), .val (.int i3), .val (.int i4), .val (.int i5), .val (.int (0 : Int32)), .val (.int (1 : Int32)), .val (.ref bv_52), .val (.ref b53), .unset, .unset, .unset, .unset, .unset, .unset]) rfl k) ?_
      show Go p e below _ (T56.setTop (mkF m 67 #[.val (.int i0), .val (.int i1), .val (.int i2), .val (.int i3), .val (.int i4), .val (.int i5), .val (.int (0 : Int32)), .val (.int (1 : Int32)), .val (.ref bv_52), .val (.ref b53), .unset, .unset, .unset, .unset, .unset, .unset] []))
      obtain ⟨T57, h57, X57, e57, E57, A57, D57, -, st57⟩ := newO X56 hx hZ hown (w5 hw) (w6 hw) (w7 hw) rfl (g := (mkF m 67 #[.val (.int i0), .val (.int i1), .val (.int i2), .val (.int i3), .val (.int i4), .val (.int i5), .val (.int (0 : Int32)), .val (.int (1 : Int32)), .val (.ref bv_52), .val (.ref b53), .unset, .unset, .unset, .unset, .unset, .unset] [])) rfl (hb hby at_67) (by decide) (by decide)
      obtain ⟨b57, z57⟩ : ∃ z, z = T56.heap.size := ⟨_, rfl⟩
      rw [← z57] at A57 D57 st57
      have g_b57 : n0 ≤ b57 := Nat.le_trans (own_n0 O56) (Nat.le_of_eq z57.symm)
      have O57 : Old Z n0 h57 := O56.ext E57
      have f57_20 : Fld Z h57 b57 "com/example/cropmark/cropmark/Weights" "edibleLb" "Ljava/math/BigDecimal;" .null := D57 (Or.inr (w20 hw)) (ty := (.object "java/math/BigDecimal")) (by decide)
      have f57_22 : Fld Z h57 b57 "com/example/cropmark/cropmark/Weights" "inedibleLb" "Ljava/math/BigDecimal;" .null := D57 (Or.inr (w22 hw)) (ty := (.object "java/math/BigDecimal")) (by decide)
      have f57_24 : Fld Z h57 b57 "com/example/cropmark/cropmark/Weights" "factor" "Ljava/math/BigDecimal;" .null := D57 (Or.inr (w24 hw)) (ty := (.object "java/math/BigDecimal")) (by decide)
      have f57_26 : Fld Z h57 b57 "com/example/cropmark/cropmark/Weights" "assessedLb" "Ljava/math/BigDecimal;" .null := D57 (Or.inr (w26 hw)) (ty := (.object "java/math/BigDecimal")) (by decide)
      refine Go.st st57 ?_
      show Go p e below _ (T57.setTop (mkF m 70 #[.val (.int i0), .val (.int i1), .val (.int i2), .val (.int i3), .val (.int i4), .val (.int i5), .val (.int (0 : Int32)), .val (.int (1 : Int32)), .val (.ref bv_52), .val (.ref b53), .unset, .unset, .unset, .unset, .unset, .unset] [(.ref b57)]))
      refine Go.st (fun t k => XS.dup X57.here hx rfl (hb hby at_70) rfl rfl k) ?_
      show Go p e below _ (T57.setTop (mkF m 71 #[.val (.int i0), .val (.int i1), .val (.int i2), .val (.int i3), .val (.int i4), .val (.int i5), .val (.int (0 : Int32)), .val (.int (1 : Int32)), .val (.ref bv_52), .val (.ref b53), .unset, .unset, .unset, .unset, .unset, .unset] [(.ref b57), (.ref b57)]))
      refine Go.st (fun t k => XS.aload X57.here hx rfl (hb hby at_71) rfl rfl k) ?_
      show Go p e below _ (T57.setTop (mkF m 73 #[.val (.int i0), .val (.int i1), .val (.int i2), .val (.int i3), .val (.int i4), .val (.int i5), .val (.int (0 : Int32)), .val (.int (1 : Int32)), .val (.ref bv_52), .val (.ref b53), .unset, .unset, .unset, .unset, .unset, .unset] [(.ref bv_52), (.ref b57), (.ref b57)]))
      refine Go.st (fun t k => XS.iload X57.here hx rfl (hb hby at_73) rfl k) ?_
      show Go p e below _ (T57.setTop (mkF m 75 #[.val (.int i0), .val (.int i1), .val (.int i2), .val (.int i3), .val (.int i4), .val (.int i5), .val (.int (0 : Int32)), .val (.int (1 : Int32)), .val (.ref bv_52), .val (.ref b53), .unset, .unset, .unset, .unset, .unset, .unset] [(.int (1 : Int32)), (.ref bv_52), (.ref b57), (.ref b57)]))
      refine Go.st (fun t k => XS.ifNo X57.here hx rfl (hb hby at_75) rfl (Jvm.Free.XT.i0_eq_f (by decide : ¬ ((1 : Int32) = (0 : Int32)))) k) ?_
      show Go p e below _ (T57.setTop (mkF m 78 #[.val (.int i0), .val (.int i1), .val (.int i2), .val (.int i3), .val (.int i4), .val (.int i5), .val (.int (0 : Int32)), .val (.int (1 : Int32)), .val (.ref bv_52), .val (.ref b53), .unset, .unset, .unset, .unset, .unset, .unset] [(.ref bv_52), (.ref b57), (.ref b57)]))
      refine Go.st (fun t k => XS.iloadN X57.here hx rfl (hb hby at_78) rfl k) ?_
      show Go p e below _ (T57.setTop (mkF m 79 #[.val (.int i0), .val (.int i1), .val (.int i2), .val (.int i3), .val (.int i4), .val (.int i5), .val (.int (0 : Int32)), .val (.int (1 : Int32)), .val (.ref bv_52), .val (.ref b53), .unset, .unset, .unset, .unset, .unset, .unset] [(.int i3), (.ref bv_52), (.ref b57), (.ref b57)]))
      refine Go.st (fun t k => XS.i2l X57.here hx rfl (hb hby at_79) rfl k) ?_
      show Go p e below _ (T57.setTop (mkF m 80 #[.val (.int i0), .val (.int i1), .val (.int i2), .val (.int i3), .val (.int i4), .val (.int i5), .val (.int (0 : Int32)), .val (.int (1 : Int32)), .val (.ref bv_52), .val (.ref b53), .unset, .unset, .unset, .unset, .unset, .unset] [(.long (i3.toInt64)), (.ref bv_52), (.ref b57), (.ref b57)]))
      have hp58 : ¬ ((i3.toInt64) = (-9223372036854775808 : Int64)) := by
        have j1 := own_b32 i3
        have j2 := own_b64 (i3.toInt64)
        have j3 := c_i2l i3
        have j4 : ((-9223372036854775808 : Int64)).toInt = -9223372036854775808 := by decide
        rw [← Int64.toInt_inj]
        omega
      obtain ⟨_, _, ⟨T59, L59, k59, n59⟩, -, X59, ⟨Lc59, hQ59, l59, y59, z59⟩, st59⟩ := Jvm.LawKit.callS X57 hx (y := (⟨"java/math/BigDecimal", "valueOf", "(J)Ljava/math/BigDecimal;"⟩ : MethodName)) hown (mvT hZ (w0 hw)) (mvT hZ (w1 hw)) (mvT hZ (w2 hw)) (mvT hZ (w3 hw)) (by decide) (backOf (W := 3) (rmV l Z a0 hw [] (i3.toInt64) w1a k4c w6a w24a w40a w56a w68a w80a w92a w104a w116a w128a w140a h57 n0 O57 hp58 Y3 Y235 Y156 Y230 Y232 Y26 Y170 Y172 Y42 Y176 Y178 Y58 Y182 Y184 Y70 Y188 Y190 Y82 Y194 Y196 Y94 Y200 Y202 Y106 Y206 Y208 Y118 Y212 Y214 Y130 Y218 Y220 Y142 Y224 Y226) hZ (w3 hw) (w2 hw) (by decide) (by decide)) (g := (mkF m 80 #[.val (.int i0), .val (.int i1), .val (.int i2), .val (.int i3), .val (.int i4), .val (.int i5), .val (.int (0 : Int32)), .val (.int (1 : Int32)), .val (.ref bv_52), .val (.ref b53), .unset, .unset, .unset, .unset, .unset, .unset] [(.long (i3.toInt64)), (.ref bv_52), (.ref b57), (.ref b57)])) rfl (by rw [hml]; rfl) (argsL := [(.long (i3.toInt64))]) (rest := [(.ref bv_52), (.ref b57), (.ref b57)]) (lenOf pd_2 rfl) rfl (by show 2 * 0 + _ ≤ _; exact Nat.le_of_eq rfl) (hb hby at_80) (fun vm₁ hw₁ => ⟨rfl, e57, (by decide : 4 + 1 ≤ _), (by decide : 18 + 5 ≤ _)⟩)
      dsimp only [Pt.U, Pt.locs, Pt.cells, Pt.slots] at X59 l59 y59 z59 st59 hQ59
      subst l59 y59 z59
      obtain ⟨bv_59, rfl, M59, K59c, r59_0, r59_1, r59_2⟩ := hQ59
      have N59 := Fr.app N56 M59
      have O59 : Old Z n0 T59.heap := O57.keep K59c all0
      refine Go.st st59 ?_
      show Go p e below _ (T59.setTop (mkF m 83 #[.val (.int i0), .val (.int i1), .val (.int i2), .val (.int i3), .val (.int i4), .val (.int i5), .val (.int (0 : Int32)), .val (.int (1 : Int32)), .val (.ref bv_52), .val (.ref b53), .unset, .unset, .unset, .unset, .unset, .unset] [(.ref bv_59), (.ref bv_52), (.ref b57), (.ref b57)]))
      refine Go.st (fun t k => XS.goto X59.here hx rfl (pc0 := 83) (pc' := 87) rfl (hb hby at_83) (by decide) (by decide) k) ?_
      show Go p e below _ (T59.setTop (mkF m 87 #[.val (.int i0), .val (.int i1), .val (.int i2), .val (.int i3), .val (.int i4), .val (.int i5), .val (.int (0 : Int32)), .val (.int (1 : Int32)), .val (.ref bv_52), .val (.ref b53), .unset, .unset, .unset, .unset, .unset, .unset] [(.ref bv_59), (.ref bv_52), (.ref b57), (.ref b57)]))
      refine Go.st (fun t k => XS.aconstNull X59.here hx rfl (hb hby at_87) k) ?_
      show Go p e below _ (T59.setTop (mkF m 88 #[.val (.int i0), .val (.int i1), .val (.int i2), .val (.int i3), .val (.int i4), .val (.int i5), .val (.int (0 : Int32)), .val (.int (1 : Int32)), .val (.ref bv_52), .val (.ref b53), .unset, .unset, .unset, .unset, .unset, .unset] [.null, (.ref bv_59), (.ref bv_52), (.ref b57), (.ref b57)]))
      refine Go.st (fun t k => XS.iloadN X59.here hx rfl (hb hby at_88) rfl k) ?_
      show Go p e below _ (T59.setTop (mkF m 89 #[.val (.int i0), .val (.int i1), .val (.int i2), .val (.int i3), .val (.int i4), .val (.int i5), .val (.int (0 : Int32)), .val (.int (1 : Int32)), .val (.ref bv_52), .val (.ref b53), .unset, .unset, .unset, .unset, .unset, .unset] [(.int i2), .null, (.ref bv_59), (.ref bv_52), (.ref b57), (.ref b57)]))
      refine Go.st (fun t k => XS.i2l X59.here hx rfl (hb hby at_89) rfl k) ?_
      show Go p e below _ (T59.setTop (mkF m 90 #[.val (.int i0), .val (.int i1), .val (.int i2), .val (.int i3), .val (.int i4), .val (.int i5), .val (.int (0 : Int32)), .val (.int (1 : Int32)), .val (.ref bv_52), .val (.ref b53), .unset, .unset, .unset, .unset, .unset, .unset] [(.long (i2.toInt64)), .null, (.ref bv_59), (.ref bv_52), (.ref b57), (.ref b57)]))
      have hp60 : ¬ ((i2.toInt64) = (-9223372036854775808 : Int64)) := by
        have j1 := own_b32 i2
        have j2 := own_b64 (i2.toInt64)
        have j3 := c_i2l i2
        have j4 : ((-9223372036854775808 : Int64)).toInt = -9223372036854775808 := by decide
        rw [← Int64.toInt_inj]
        omega
      obtain ⟨_, _, ⟨T61, L61, k61, n61⟩, -, X61, ⟨Lc61, hQ61, l61, y61, z61⟩, st61⟩ := Jvm.LawKit.callS X59 hx (y := (⟨"java/math/BigDecimal", "valueOf", "(J)Ljava/math/BigDecimal;"⟩ : MethodName)) hown (mvT hZ (w0 hw)) (mvT hZ (w1 hw)) (mvT hZ (w2 hw)) (mvT hZ (w3 hw)) (by decide) (backOf (W := 5) (rmV l Z a0 hw [] (i2.toInt64) w1a k4c w6a w24a w40a w56a w68a w80a w92a w104a w116a w128a w140a T59.heap n0 O59 hp60 Y3 Y235 Y156 Y230 Y232 Y26 Y170 Y172 Y42 Y176 Y178 Y58 Y182 Y184 Y70 Y188 Y190 Y82 Y194 Y196 Y94 Y200 Y202 Y106 Y206 Y208 Y118 Y212 Y214 Y130 Y218 Y220 Y142 Y224 Y226) hZ (w3 hw) (w2 hw) (by decide) (by decide)) (g := (mkF m 90 #[.val (.int i0), .val (.int i1), .val (.int i2), .val (.int i3), .val (.int i4), .val (.int i5), .val (.int (0 : Int32)), .val (.int (1 : Int32)), .val (.ref bv_52), .val (.ref b53), .unset, .unset, .unset, .unset, .unset, .unset] [(.long (i2.toInt64)), .null, (.ref bv_59), (.ref bv_52), (.ref b57), (.ref b57)])) rfl (by rw [hml]; rfl) (argsL := [(.long (i2.toInt64))]) (rest := [.null, (.ref bv_59), (.ref bv_52), (.ref b57), (.ref b57)]) (lenOf pd_2 rfl) rfl (by show 2 * 0 + _ ≤ _; exact Nat.le_of_eq rfl) (hb hby at_90) (fun vm₁ hw₁ => ⟨rfl, rfl, (by decide : 5 + 1 ≤ _), (by decide : 23 + 5 ≤ _)⟩)
      dsimp only [Pt.U, Pt.locs, Pt.cells, Pt.slots] at X61 l61 y61 z61 st61 hQ61
      subst l61 y61 z61
      obtain ⟨bv_61, rfl, M61, K61c, r61_0, r61_1, r61_2⟩ := hQ61
      have N61 := Fr.app N59 M61
      have O61 : Old Z n0 T61.heap := O59.keep K61c all0
      refine Go.st st61 ?_
      show Go p e below _ (T61.setTop (mkF m 93 #[.val (.int i0), .val (.int i1), .val (.int i2), .val (.int i3), .val (.int i4), .val (.int i5), .val (.int (0 : Int32)), .val (.int (1 : Int32)), .val (.ref bv_52), .val (.ref b53), .unset, .unset, .unset, .unset, .unset, .unset] [(.ref bv_61), .null, (.ref bv_59), (.ref bv_52), (.ref b57), (.ref b57)]))
      obtain ⟨_, _, ⟨T62, L62, k62, n62⟩, -, X62, ⟨Lc62, hQ62, l62, y62, z62⟩, st62⟩ := X61.specialBack hx (y := (⟨"com/example/cropmark/cropmark/Weights", "<init>", "(Ljava/math/BigDecimal;Ljava/math/BigDecimal;Ljava/math/BigDecimal;Ljava/math/BigDecimal;)V"⟩ : MethodName)) rfl hown (mvT hZ (w8 hw)) (mvT hZ (w9 hw)) (mvT hZ (w10 hw)) (by decide) (backOf (W := 1) (rm2_2 l Z a0 hw [] b57 bv_52 bv_59 bv_61 T61.heap n0 O61 ((A57.keep K59c).keep K61c) ((f57_20.keep K59c nin0).keep K61c nin0) g_b57 ((f57_22.keep K59c nin0).keep K61c nin0) ((f57_24.keep K59c nin0).keep K61c nin0) ((f57_26.keep K59c nin0).keep K61c nin0)) hZ (w10 hw) (w7 hw) (by decide) (by decide)) (g := (mkF m 93 #[.val (.int i0), .val (.int i1), .val (.int i2), .val (.int i3), .val (.int i4), .val (.int i5), .val (.int (0 : Int32)), .val (.int (1 : Int32)), .val (.ref bv_52), .val (.ref b53), .unset, .unset, .unset, .unset, .unset, .unset] [(.ref bv_61), .null, (.ref bv_59), (.ref bv_52), (.ref b57), (.ref b57)])) rfl (by rw [hml]; rfl) (Steps.refl _) (a := b57) (argsL := [(.ref bv_52), (.ref bv_59), .null, (.ref bv_61)]) (rest := [(.ref b57)]) (lenOf pd_3 rfl) rfl (by show 2 * 0 + _ ≤ _; exact Nat.le_of_eq rfl) (hb hby at_93) (fun vm₁ hw₁ => ⟨rfl, rfl, (by decide : 6 + 0 ≤ _), (by decide : 28 + 0 ≤ _)⟩)
      dsimp only [Pt.U, Pt.locs, Pt.cells, Pt.slots] at X62 l62 y62 z62 st62 hQ62
      subst l62 y62 z62
      obtain ⟨rfl, M62, K62c, r62_0, r62_1, r62_2, r62_3⟩ := hQ62
      have N62 := Fr.app N61 M62
      have O62 : Old Z n0 T62.heap := O61.keep K62c (allS g_b57 all0)
      refine Go.tr st62 ?_
      show Go p e below _ (T62.setTop (mkF m 96 #[.val (.int i0), .val (.int i1), .val (.int i2), .val (.int i3), .val (.int i4), .val (.int i5), .val (.int (0 : Int32)), .val (.int (1 : Int32)), .val (.ref bv_52), .val (.ref b53), .unset, .unset, .unset, .unset, .unset, .unset] [(.ref b57)]))
      refine Go.st (fun t k => XS.astore X62.here hx rfl (hb hby at_96) rfl rfl (l' := #[.val (.int i0), .val (.int i1), .val (.int i2), .val (.int i3), .val (.int i4), .val (.int i5), .val (.int (0 : Int32)), .val (.int (1 : Int32)), .val (.ref bv_52), .val (.ref b53), .val (.ref b57), .unset, .unset, .unset, .unset, .unset]) rfl k) ?_
      show Go p e below _ (T62.setTop (mkF m 98 #[.val (.int i0), .val (.int i1), .val (.int i2), .val (.int i3), .val (.int i4), .val (.int i5), .val (.int (0 : Int32)), .val (.int (1 : Int32)), .val (.ref bv_52), .val (.ref b53), .val (.ref b57), .unset, .unset, .unset, .unset, .unset] []))
      obtain ⟨T63, h63, X63, e63, E63, A63, D63, -, st63⟩ := newO X62 hx hZ hown (w27 hw) (w28 hw) (w29 hw) rfl (g := (mkF m 98 #[.val (.int i0), .val (.int i1), .val (.int i2), .val (.int i3), .val (.int i4), .val (.int i5), .val (.int (0 : Int32)), .val (.int (1 : Int32)), .val (.ref bv_52), .val (.ref b53), .val (.ref b57), .unset, .unset, .unset, .unset, .unset] [])) rfl (hb hby at_98) (by decide) (by decide)
      obtain ⟨b63, z63⟩ : ∃ z, z = T62.heap.size := ⟨_, rfl⟩
      rw [← z63] at A63 D63 st63
      have g_b63 : n0 ≤ b63 := Nat.le_trans (own_n0 O62) (Nat.le_of_eq z63.symm)
      have O63 : Old Z n0 h63 := O62.ext E63
      have f63_36 : Fld Z h63 b63 "com/example/cropmark/cropmark/Assessment$Sums" "assessedLb" "Ljava/math/BigDecimal;" .null := D63 (Or.inl (w36 hw)) (ty := (.object "java/math/BigDecimal")) (by decide)
      have f63_38 : Fld Z h63 b63 "com/example/cropmark/cropmark/Assessment$Sums" "inedibleLb" "Ljava/math/BigDecimal;" .null := D63 (Or.inl (w38 hw)) (ty := (.object "java/math/BigDecimal")) (by decide)
      have f63_45 : Fld Z h63 b63 "com/example/cropmark/cropmark/Assessment$Sums" "lots" "I" (.int (0 : Int32)) := D63 (Or.inl (w45 hw)) (ty := .int) (by decide)
      refine Go.st st63 ?_
      show Go p e below _ (T63.setTop (mkF m 101 #[.val (.int i0), .val (.int i1), .val (.int i2), .val (.int i3), .val (.int i4), .val (.int i5), .val (.int (0 : Int32)), .val (.int (1 : Int32)), .val (.ref bv_52), .val (.ref b53), .val (.ref b57), .unset, .unset, .unset, .unset, .unset] [(.ref b63)]))
      refine Go.st (fun t k => XS.dup X63.here hx rfl (hb hby at_101) rfl rfl k) ?_
      show Go p e below _ (T63.setTop (mkF m 102 #[.val (.int i0), .val (.int i1), .val (.int i2), .val (.int i3), .val (.int i4), .val (.int i5), .val (.int (0 : Int32)), .val (.int (1 : Int32)), .val (.ref bv_52), .val (.ref b53), .val (.ref b57), .unset, .unset, .unset, .unset, .unset] [(.ref b63), (.ref b63)]))
      obtain ⟨_, _, ⟨T64, L64, k64, n64⟩, -, X64, ⟨Lc64, hQ64, l64, y64, z64⟩, st64⟩ := X63.specialBack hx (y := (⟨"com/example/cropmark/cropmark/Assessment$Sums", "<init>", "()V"⟩ : MethodName)) rfl hown (mvT hZ (w30 hw)) (mvT hZ (w31 hw)) (mvT hZ (w32 hw)) (by decide) (backOf (W := 1) (rm5_1 l Z a0 hw [] b63 w6a h63 n0 O63 Y10 A63 f63_36 g_b63 f63_38 f63_45) hZ (w32 hw) (w29 hw) (by decide) (by decide)) (g := (mkF m 102 #[.val (.int i0), .val (.int i1), .val (.int i2), .val (.int i3), .val (.int i4), .val (.int i5), .val (.int (0 : Int32)), .val (.int (1 : Int32)), .val (.ref bv_52), .val (.ref b53), .val (.ref b57), .unset, .unset, .unset, .unset, .unset] [(.ref b63), (.ref b63)])) rfl (by rw [hml]; rfl) (Steps.refl _) (a := b63) (argsL := []) (rest := [(.ref b63)]) (lenOf pd_0 rfl) rfl (by show 2 * 0 + _ ≤ _; exact Nat.le_of_eq rfl) (hb hby at_102) (fun vm₁ hw₁ => ⟨rfl, e63, (by decide : 7 + 0 ≤ _), (by decide : 31 + 0 ≤ _)⟩)
      dsimp only [Pt.U, Pt.locs, Pt.cells, Pt.slots] at X64 l64 y64 z64 st64 hQ64
      subst l64 y64 z64
      obtain ⟨rfl, M64, K64c, r64_0, r64_1, r64_2⟩ := hQ64
      have N64 := Fr.app N62 M64
      have O64 : Old Z n0 T64.heap := O63.keep K64c (allS g_b63 all0)
      refine Go.tr st64 ?_
      show Go p e below _ (T64.setTop (mkF m 105 #[.val (.int i0), .val (.int i1), .val (.int i2), .val (.int i3), .val (.int i4), .val (.int i5), .val (.int (0 : Int32)), .val (.int (1 : Int32)), .val (.ref bv_52), .val (.ref b53), .val (.ref b57), .unset, .unset, .unset, .unset, .unset] [(.ref b63)]))
      refine Go.st (fun t k => XS.astore X64.here hx rfl (hb hby at_105) rfl rfl (l' := #[.val (.int i0), .val (.int i1), .val (.int i2), .val (.int i3), .val (.int i4), .val (.int i5), .val (.int (0 : Int32)), .val (.int (1 : Int32)), .val (.ref bv_52), .val (.ref b53), .val (.ref b57), .val (.ref b63), .unset, .unset, .unset, .unset]) rfl k) ?_
      show Go p e below _ (T64.setTop (mkF m 107 #[.val (.int i0), .val (.int i1), .val (.int i2), .val (.int i3), .val (.int i4), .val (.int i5), .val (.int (0 : Int32)), .val (.int (1 : Int32)), .val (.ref bv_52), .val (.ref b53), .val (.ref b57), .val (.ref b63), .unset, .unset, .unset, .unset] []))
      refine Go.st (fun t k => XS.aload X64.here hx rfl (hb hby at_107) rfl rfl k) ?_
      show Go p e below _ (T64.setTop (mkF m 109 #[.val (.int i0), .val (.int i1), .val (.int i2), .val (.int i3), .val (.int i4), .val (.int i5), .val (.int (0 : Int32)), .val (.int (1 : Int32)), .val (.ref bv_52), .val (.ref b53), .val (.ref b57), .val (.ref b63), .unset, .unset, .unset, .unset] [(.ref b63)]))
      refine Go.st (fun t k => XS.aload X64.here hx rfl (hb hby at_109) rfl rfl k) ?_
      show Go p e below _ (T64.setTop (mkF m 111 #[.val (.int i0), .val (.int i1), .val (.int i2), .val (.int i3), .val (.int i4), .val (.int i5), .val (.int (0 : Int32)), .val (.int (1 : Int32)), .val (.ref bv_52), .val (.ref b53), .val (.ref b57), .val (.ref b63), .unset, .unset, .unset, .unset] [(.ref b53), (.ref b63)]))
      have hp65 : ¬ (((((0 : Int64) + (i0.toInt64)) ^^^ (0 : Int64)) &&& (((0 : Int64) + (i0.toInt64)) ^^^ (i0.toInt64))) < (0 : Int64)) := by
        have j1 : ((0 : Int64)).toInt = 0 := by decide
        have j2 := own_b32 i0
        have j3 := own_b64 (i0.toInt64)
        have j4 := c_i2l i0
        have jf : Jvm.Free.XT.fits64 ((0 : Int64).toInt + (i0.toInt64).toInt) := by
          unfold Jvm.Free.XT.fits64; omega
        exact own_addOk64 jf
      have hp66 : ¬ (((0 : Int64) + (i0.toInt64)) = (-9223372036854775808 : Int64)) := by
        have j1 : ((0 : Int64)).toInt = 0 := by decide
        have j2 := own_b32 i0
        have j3 := own_b64 (i0.toInt64)
        have j4 := c_i2l i0
        have j5 := own_b64 ((0 : Int64) + (i0.toInt64))
        have j6 := c_ladd (0 : Int64) (i0.toInt64)
        have j7 : ((-9223372036854775808 : Int64)).toInt = -9223372036854775808 := by decide
        rw [← Int64.toInt_inj]
        omega
      have c67 := ((((((((A53.keep K55c).keep K56c).ext E57).keep K59c).keep K61c).keep K62c).ext E63).keep K64c)
      have c68 := ((((((r56_3.ext E57).keep K59c nin0).keep K61c nin0).keep K62c (ninS (Nat.ne_of_lt (Nat.lt_of_lt_of_le (Nat.lt_of_lt_of_le (Nat.lt_of_lt_of_le A53.lt K55c.1) K56c.1) (Nat.le_of_eq z57.symm))) nin0)).ext E63).keep K64c (ninS (Nat.ne_of_lt (Nat.lt_of_lt_of_le (Nat.lt_of_lt_of_le (Nat.lt_of_lt_of_le (Nat.lt_of_lt_of_le (Nat.lt_of_lt_of_le (Nat.lt_of_lt_of_le (Nat.lt_of_lt_of_le A53.lt K55c.1) K56c.1) E57.1) K59c.1) K61c.1) K62c.1) (Nat.le_of_eq z63.symm))) nin0))
      have c69 := (((((((r55_2.keep K56c (ninS (ne_exa (((((((r55_0.keep K56c).ext E57).keep K59c).keep K61c).keep K62c).ext E63).keep K64c) c67 (by decide)) nin0)).ext E57).keep K59c nin0).keep K61c nin0).keep K62c (ninS (Nat.ne_of_lt (Nat.lt_of_lt_of_le (Nat.lt_of_lt_of_le r55_0.lt K56c.1) (Nat.le_of_eq z57.symm))) nin0)).ext E63).keep K64c (ninS (Nat.ne_of_lt (Nat.lt_of_lt_of_le (Nat.lt_of_lt_of_le (Nat.lt_of_lt_of_le (Nat.lt_of_lt_of_le (Nat.lt_of_lt_of_le (Nat.lt_of_lt_of_le r55_0.lt K56c.1) E57.1) K59c.1) K61c.1) K62c.1) (Nat.le_of_eq z63.symm))) nin0))
      have c70 := (((((((r55_1.keep K56c (ninS (ne_exa (((((((r55_0.keep K56c).ext E57).keep K59c).keep K61c).keep K62c).ext E63).keep K64c) c67 (by decide)) nin0)).ext E57).keep K59c nin0).keep K61c nin0).keep K62c (ninS (Nat.ne_of_lt (Nat.lt_of_lt_of_le (Nat.lt_of_lt_of_le r55_0.lt K56c.1) (Nat.le_of_eq z57.symm))) nin0)).ext E63).keep K64c (ninS (Nat.ne_of_lt (Nat.lt_of_lt_of_le (Nat.lt_of_lt_of_le (Nat.lt_of_lt_of_le (Nat.lt_of_lt_of_le (Nat.lt_of_lt_of_le (Nat.lt_of_lt_of_le r55_0.lt K56c.1) E57.1) K59c.1) K61c.1) K62c.1) (Nat.le_of_eq z63.symm))) nin0))
      have c71 := ((((((r56_1.ext E57).keep K59c nin0).keep K61c nin0).keep K62c (ninS (Nat.ne_of_lt (Nat.lt_of_lt_of_le (Nat.lt_of_lt_of_le (Nat.lt_of_lt_of_le A53.lt K55c.1) K56c.1) (Nat.le_of_eq z57.symm))) nin0)).ext E63).keep K64c (ninS (Nat.ne_of_lt (Nat.lt_of_lt_of_le (Nat.lt_of_lt_of_le (Nat.lt_of_lt_of_le (Nat.lt_of_lt_of_le (Nat.lt_of_lt_of_le (Nat.lt_of_lt_of_le (Nat.lt_of_lt_of_le A53.lt K55c.1) K56c.1) E57.1) K59c.1) K61c.1) K62c.1) (Nat.le_of_eq z63.symm))) nin0))
      obtain ⟨cq72, kq72, q72a, q72b, q72c⟩ := isOf hZ rfl (A63.keep K64c)
      obtain ⟨_, _, ⟨T72, L72, k72, n72⟩, -, X72, ⟨Lc72, hQ72, l72, y72, z72⟩, st72⟩ := X64.virtualBack hx (y := (⟨"com/example/cropmark/cropmark/Assessment$Sums", "add", "(Lcom/example/cropmark/cropmark/Weights;)V"⟩ : MethodName)) (z := (⟨"com/example/cropmark/cropmark/Assessment$Sums", "add", "(Lcom/example/cropmark/cropmark/Weights;)V"⟩ : MethodName)) hown (mvT hZ (w39 hw)) (mvT hZ (w40 hw)) (notFace_of_selects (args := #[]) (mvT hZ (w42 hw))) (mvT hZ (w42 hw)) (mvT hZ (w41 hw)) (by decide) (backOf (W := 0) (rm6_1 l Z a0 hw [] b63 b53 w6a bv_55 (i0.toInt64) w1a k4c w24a w40a w56a w68a w80a w92a w104a w116a w128a w140a T64.heap n0 O64 r64_2 (A63.keep K64c) g_b63 r64_0 c67 c68 (Nat.ne_of_lt (Nat.lt_of_lt_of_le (Nat.lt_of_lt_of_le (Nat.lt_of_lt_of_le (Nat.lt_of_lt_of_le (Nat.lt_of_lt_of_le (Nat.lt_of_lt_of_le (Nat.lt_of_lt_of_le A53.lt K55c.1) K56c.1) E57.1) K59c.1) K61c.1) K62c.1) (Nat.le_of_eq z63.symm))) Y156 Y232 c69 hp54 Y230 c70 hp65 hp66 Y3 Y235 Y26 Y170 Y172 Y42 Y176 Y178 Y58 Y182 Y184 Y70 Y188 Y190 Y82 Y194 Y196 Y94 Y200 Y202 Y106 Y206 Y208 Y118 Y212 Y214 Y130 Y218 Y220 Y142 Y224 Y226 (Nat.ne_of_lt (Nat.lt_of_lt_of_le (Nat.lt_of_lt_of_le (Nat.lt_of_lt_of_le (Nat.lt_of_lt_of_le (Nat.lt_of_lt_of_le (Nat.lt_of_lt_of_le r55_0.lt K56c.1) E57.1) K59c.1) K61c.1) K62c.1) (Nat.le_of_eq z63.symm))) c71 r64_1) hZ (w43 hw) (w29 hw) (by decide) (by decide)) q72a q72c (g := (mkF m 111 #[.val (.int i0), .val (.int i1), .val (.int i2), .val (.int i3), .val (.int i4), .val (.int i5), .val (.int (0 : Int32)), .val (.int (1 : Int32)), .val (.ref bv_52), .val (.ref b53), .val (.ref b57), .val (.ref b63), .unset, .unset, .unset, .unset] [(.ref b53), (.ref b63)])) rfl (by rw [hml]; rfl) (Steps.refl _) (argsL := [(.ref b53)]) (rest := []) (lenOf pd_10 rfl) rfl (by show 2 * 0 + _ ≤ _; exact Nat.le_of_eq rfl) (hb hby at_111) (fun vm₁ hw₁ => ⟨rfl, rfl, (by decide : 7 + 1 ≤ _), (by decide : 31 + 5 ≤ _)⟩)
      dsimp only [Pt.U, Pt.locs, Pt.cells, Pt.slots] at X72 l72 y72 z72 st72 hQ72
      subst l72 y72 z72
      obtain ⟨bv_1_2_1_7_6_72, rfl, M72, K72c, r72_0, r72_1, r72_2, r72_3, r72_4, r72_5⟩ := hQ72
      have N72 := Fr.app N64 M72
      have O72 : Old Z n0 T72.heap := O64.keep K72c (allS g_b63 all0)
      refine Go.tr st72 ?_
      show Go p e below _ (T72.setTop (mkF m 114 #[.val (.int i0), .val (.int i1), .val (.int i2), .val (.int i3), .val (.int i4), .val (.int i5), .val (.int (0 : Int32)), .val (.int (1 : Int32)), .val (.ref bv_52), .val (.ref b53), .val (.ref b57), .val (.ref b63), .unset, .unset, .unset, .unset] []))
      refine Go.st (fun t k => XS.aload X72.here hx rfl (hb hby at_114) rfl rfl k) ?_
      show Go p e below _ (T72.setTop (mkF m 116 #[.val (.int i0), .val (.int i1), .val (.int i2), .val (.int i3), .val (.int i4), .val (.int i5), .val (.int (0 : Int32)), .val (.int (1 : Int32)), .val (.ref bv_52), .val (.ref b53), .val (.ref b57), .val (.ref b63), .unset, .unset, .unset, .unset] [(.ref b63)]))
      refine Go.st (fun t k => XS.aload X72.here hx rfl (hb hby at_116) rfl rfl k) ?_
      show Go p e below _ (T72.setTop (mkF m 118 #[.val (.int i0), .val (.int i1), .val (.int i2), .val (.int i3), .val (.int i4), .val (.int i5), .val (.int (0 : Int32)), .val (.int (1 : Int32)), .val (.ref bv_52), .val (.ref b53), .val (.ref b57), .val (.ref b63), .unset, .unset, .unset, .unset] [(.ref b57), (.ref b63)]))
      have hp73 : ¬ ((((((0 : Int64) + (i0.toInt64)) + (i2.toInt64)) ^^^ ((0 : Int64) + (i0.toInt64))) &&& ((((0 : Int64) + (i0.toInt64)) + (i2.toInt64)) ^^^ (i2.toInt64))) < (0 : Int64)) := by
        have j1 : ((0 : Int64)).toInt = 0 := by decide
        have j2 := own_b32 i0
        have j3 := own_b64 (i0.toInt64)
        have j4 := c_i2l i0
        have j5 := own_b64 ((0 : Int64) + (i0.toInt64))
        have j6 := c_ladd (0 : Int64) (i0.toInt64)
        have j7 := own_b32 i2
        have j8 := own_b64 (i2.toInt64)
        have j9 := c_i2l i2
        have jf : Jvm.Free.XT.fits64 (((0 : Int64) + (i0.toInt64)).toInt + (i2.toInt64).toInt) := by
          unfold Jvm.Free.XT.fits64; omega
        exact own_addOk64 jf
      have hp74 : ¬ ((((0 : Int64) + (i0.toInt64)) + (i2.toInt64)) = (-9223372036854775808 : Int64)) := by
        have j1 : ((0 : Int64)).toInt = 0 := by decide
        have j2 := own_b32 i0
        have j3 := own_b64 (i0.toInt64)
        have j4 := c_i2l i0
        have j5 := own_b64 ((0 : Int64) + (i0.toInt64))
        have j6 := c_ladd (0 : Int64) (i0.toInt64)
        have j7 := own_b32 i2
        have j8 := own_b64 (i2.toInt64)
        have j9 := c_i2l i2
        have j10 := own_b64 (((0 : Int64) + (i0.toInt64)) + (i2.toInt64))
        have j11 := c_ladd ((0 : Int64) + (i0.toInt64)) (i2.toInt64)
        have j12 : ((-9223372036854775808 : Int64)).toInt = -9223372036854775808 := by decide
        rw [← Int64.toInt_inj]
        omega
      have hp75 : ¬ (((((0 : Int64) + (i3.toInt64)) ^^^ (0 : Int64)) &&& (((0 : Int64) + (i3.toInt64)) ^^^ (i3.toInt64))) < (0 : Int64)) := by
        have j1 : ((0 : Int64)).toInt = 0 := by decide
        have j2 := own_b32 i3
        have j3 := own_b64 (i3.toInt64)
        have j4 := c_i2l i3
        have jf : Jvm.Free.XT.fits64 ((0 : Int64).toInt + (i3.toInt64).toInt) := by
          unfold Jvm.Free.XT.fits64; omega
        exact own_addOk64 jf
      have hp76 : ¬ (((0 : Int64) + (i3.toInt64)) = (-9223372036854775808 : Int64)) := by
        have j1 : ((0 : Int64)).toInt = 0 := by decide
        have j2 := own_b32 i3
        have j3 := own_b64 (i3.toInt64)
        have j4 := c_i2l i3
        have j5 := own_b64 ((0 : Int64) + (i3.toInt64))
        have j6 := c_ladd (0 : Int64) (i3.toInt64)
        have j7 : ((-9223372036854775808 : Int64)).toInt = -9223372036854775808 := by decide
        rw [← Int64.toInt_inj]
        omega
      have c77 := ((((((A57.keep K59c).keep K61c).keep K62c).ext E63).keep K64c).keep K72c)
      have c78 := (((r62_3.ext E63).keep K64c (ninS (Nat.ne_of_lt (Nat.lt_of_lt_of_le (Nat.lt_of_lt_of_le (Nat.lt_of_lt_of_le (Nat.lt_of_lt_of_le A57.lt K59c.1) K61c.1) K62c.1) (Nat.le_of_eq z63.symm))) nin0)).keep K72c (ninS (Nat.ne_of_lt (Nat.lt_of_lt_of_le (Nat.lt_of_lt_of_le (Nat.lt_of_lt_of_le (Nat.lt_of_lt_of_le A57.lt K59c.1) K61c.1) K62c.1) (Nat.le_of_eq z63.symm))) nin0))
      have c79 := ((((r61_2.keep K62c (ninS (ne_exa ((((r61_0.keep K62c).ext E63).keep K64c).keep K72c) c77 (by decide)) nin0)).ext E63).keep K64c (ninS (Nat.ne_of_lt (Nat.lt_of_lt_of_le (Nat.lt_of_lt_of_le r61_0.lt K62c.1) (Nat.le_of_eq z63.symm))) nin0)).keep K72c (ninS (Nat.ne_of_lt (Nat.lt_of_lt_of_le (Nat.lt_of_lt_of_le r61_0.lt K62c.1) (Nat.le_of_eq z63.symm))) nin0))
      have c80 := ((((r61_1.keep K62c (ninS (ne_exa ((((r61_0.keep K62c).ext E63).keep K64c).keep K72c) c77 (by decide)) nin0)).ext E63).keep K64c (ninS (Nat.ne_of_lt (Nat.lt_of_lt_of_le (Nat.lt_of_lt_of_le r61_0.lt K62c.1) (Nat.le_of_eq z63.symm))) nin0)).keep K72c (ninS (Nat.ne_of_lt (Nat.lt_of_lt_of_le (Nat.lt_of_lt_of_le r61_0.lt K62c.1) (Nat.le_of_eq z63.symm))) nin0))
      have c81 := (((r62_1.ext E63).keep K64c (ninS (Nat.ne_of_lt (Nat.lt_of_lt_of_le (Nat.lt_of_lt_of_le (Nat.lt_of_lt_of_le (Nat.lt_of_lt_of_le A57.lt K59c.1) K61c.1) K62c.1) (Nat.le_of_eq z63.symm))) nin0)).keep K72c (ninS (Nat.ne_of_lt (Nat.lt_of_lt_of_le (Nat.lt_of_lt_of_le (Nat.lt_of_lt_of_le (Nat.lt_of_lt_of_le A57.lt K59c.1) K61c.1) K62c.1) (Nat.le_of_eq z63.symm))) nin0))
      have c82 := (((((r59_2.keep K61c nin0).keep K62c (ninS (ne_exa (((((r59_0.keep K61c).keep K62c).ext E63).keep K64c).keep K72c) c77 (by decide)) nin0)).ext E63).keep K64c (ninS (Nat.ne_of_lt (Nat.lt_of_lt_of_le (Nat.lt_of_lt_of_le (Nat.lt_of_lt_of_le r59_0.lt K61c.1) K62c.1) (Nat.le_of_eq z63.symm))) nin0)).keep K72c (ninS (Nat.ne_of_lt (Nat.lt_of_lt_of_le (Nat.lt_of_lt_of_le (Nat.lt_of_lt_of_le r59_0.lt K61c.1) K62c.1) (Nat.le_of_eq z63.symm))) nin0))
      have c83 := (((((r59_1.keep K61c nin0).keep K62c (ninS (ne_exa (((((r59_0.keep K61c).keep K62c).ext E63).keep K64c).keep K72c) c77 (by decide)) nin0)).ext E63).keep K64c (ninS (Nat.ne_of_lt (Nat.lt_of_lt_of_le (Nat.lt_of_lt_of_le (Nat.lt_of_lt_of_le r59_0.lt K61c.1) K62c.1) (Nat.le_of_eq z63.symm))) nin0)).keep K72c (ninS (Nat.ne_of_lt (Nat.lt_of_lt_of_le (Nat.lt_of_lt_of_le (Nat.lt_of_lt_of_le r59_0.lt K61c.1) K62c.1) (Nat.le_of_eq z63.symm))) nin0))
      obtain ⟨cq84, kq84, q84a, q84b, q84c⟩ := isOf hZ rfl ((A63.keep K64c).keep K72c)
      obtain ⟨_, _, ⟨T84, L84, k84, n84⟩, -, X84, ⟨Lc84, hQ84, l84, y84, z84⟩, st84⟩ := X72.virtualBack hx (y := (⟨"com/example/cropmark/cropmark/Assessment$Sums", "add", "(Lcom/example/cropmark/cropmark/Weights;)V"⟩ : MethodName)) (z := (⟨"com/example/cropmark/cropmark/Assessment$Sums", "add", "(Lcom/example/cropmark/cropmark/Weights;)V"⟩ : MethodName)) hown (mvT hZ (w39 hw)) (mvT hZ (w40 hw)) (notFace_of_selects (args := #[]) (mvT hZ (w42 hw))) (mvT hZ (w42 hw)) (mvT hZ (w41 hw)) (by decide) (backOf (W := 0) (rm6_3 l Z a0 hw [] b63 b57 bv_1_2_1_7_6_72 bv_61 ((0 : Int64) + (i0.toInt64)) (i2.toInt64) w1a k4c w6a w24a w40a w56a w68a w80a w92a w104a w116a w128a w140a bv_59 (i3.toInt64) T72.heap n0 O72 r72_0 ((A63.keep K64c).keep K72c) g_b63 r72_1 c77 c78 (Nat.ne_of_lt (Nat.lt_of_lt_of_le (Nat.lt_of_lt_of_le (Nat.lt_of_lt_of_le (Nat.lt_of_lt_of_le A57.lt K59c.1) K61c.1) K62c.1) (Nat.le_of_eq z63.symm))) r72_3 r72_5 hp66 c79 hp60 r72_4 c80 hp73 hp74 Y3 Y235 Y156 Y230 Y232 Y26 Y170 Y172 Y42 Y176 Y178 Y58 Y182 Y184 Y70 Y188 Y190 Y82 Y194 Y196 Y94 Y200 Y202 Y106 Y206 Y208 Y118 Y212 Y214 Y130 Y218 Y220 Y142 Y224 Y226 (ne_exa r72_3 ((A63.keep K64c).keep K72c) (by decide)) (Nat.ne_of_lt (Nat.lt_of_lt_of_le (Nat.lt_of_lt_of_le r61_0.lt K62c.1) (Nat.le_of_eq z63.symm))) c81 r72_2 c82 hp58 c83 hp75 hp76 (Nat.ne_of_lt (Nat.lt_of_lt_of_le (Nat.lt_of_lt_of_le (Nat.lt_of_lt_of_le r59_0.lt K61c.1) K62c.1) (Nat.le_of_eq z63.symm)))) hZ (w43 hw) (w29 hw) (by decide) (by decide)) q84a q84c (g := (mkF m 118 #[.val (.int i0), .val (.int i1), .val (.int i2), .val (.int i3), .val (.int i4), .val (.int i5), .val (.int (0 : Int32)), .val (.int (1 : Int32)), .val (.ref bv_52), .val (.ref b53), .val (.ref b57), .val (.ref b63), .unset, .unset, .unset, .unset] [(.ref b57), (.ref b63)])) rfl (by rw [hml]; rfl) (Steps.refl _) (argsL := [(.ref b57)]) (rest := []) (lenOf pd_10 rfl) rfl (by show 2 * 0 + _ ≤ _; exact Nat.le_of_eq rfl) (hb hby at_118) (fun vm₁ hw₁ => ⟨rfl, rfl, (by decide : 8 + 2 ≤ _), (by decide : 36 + 10 ≤ _)⟩)
      dsimp only [Pt.U, Pt.locs, Pt.cells, Pt.slots] at X84 l84 y84 z84 st84 hQ84
      subst l84 y84 z84
      obtain ⟨bv_1_2_1_7_6_84, bv_1_2_1_7_15_84, rfl, M84, K84c, r84_0, r84_1, r84_2, r84_3, r84_4, r84_5, r84_6, r84_7, r84_8⟩ := hQ84
      have N84 := Fr.app N72 M84
      have O84 : Old Z n0 T84.heap := O72.keep K84c (allS g_b63 all0)
      refine Go.tr st84 ?_
      show Go p e below _ (T84.setTop (mkF m 121 #[.val (.int i0), .val (.int i1), .val (.int i2), .val (.int i3), .val (.int i4), .val (.int i5), .val (.int (0 : Int32)), .val (.int (1 : Int32)), .val (.ref bv_52), .val (.ref b53), .val (.ref b57), .val (.ref b63), .unset, .unset, .unset, .unset] []))
      refine Go.st (fun t k => XS.iloadN X84.here hx rfl (hb hby at_121) rfl k) ?_
      show Go p e below _ (T84.setTop (mkF m 122 #[.val (.int i0), .val (.int i1), .val (.int i2), .val (.int i3), .val (.int i4), .val (.int i5), .val (.int (0 : Int32)), .val (.int (1 : Int32)), .val (.ref bv_52), .val (.ref b53), .val (.ref b57), .val (.ref b63), .unset, .unset, .unset, .unset] [(.int i0)]))
      refine Go.st (fun t k => XS.i2l X84.here hx rfl (hb hby at_122) rfl k) ?_
      show Go p e below _ (T84.setTop (mkF m 123 #[.val (.int i0), .val (.int i1), .val (.int i2), .val (.int i3), .val (.int i4), .val (.int i5), .val (.int (0 : Int32)), .val (.int (1 : Int32)), .val (.ref bv_52), .val (.ref b53), .val (.ref b57), .val (.ref b63), .unset, .unset, .unset, .unset] [(.long (i0.toInt64))]))
      refine Go.st (fun t k => XS.iloadN X84.here hx rfl (hb hby at_123) rfl k) ?_
      show Go p e below _ (T84.setTop (mkF m 124 #[.val (.int i0), .val (.int i1), .val (.int i2), .val (.int i3), .val (.int i4), .val (.int i5), .val (.int (0 : Int32)), .val (.int (1 : Int32)), .val (.ref bv_52), .val (.ref b53), .val (.ref b57), .val (.ref b63), .unset, .unset, .unset, .unset] [(.int i2), (.long (i0.toInt64))]))
      refine Go.st (fun t k => XS.i2l X84.here hx rfl (hb hby at_124) rfl k) ?_
      show Go p e below _ (T84.setTop (mkF m 125 #[.val (.int i0), .val (.int i1), .val (.int i2), .val (.int i3), .val (.int i4), .val (.int i5), .val (.int (0 : Int32)), .val (.int (1 : Int32)), .val (.ref bv_52), .val (.ref b53), .val (.ref b57), .val (.ref b63), .unset, .unset, .unset, .unset] [(.long (i2.toInt64)), (.long (i0.toInt64))]))
      refine Go.st (fun t k => XS.ladd X84.here hx rfl (hb hby at_125) rfl k) ?_
      show Go p e below _ (T84.setTop (mkF m 126 #[.val (.int i0), .val (.int i1), .val (.int i2), .val (.int i3), .val (.int i4), .val (.int i5), .val (.int (0 : Int32)), .val (.int (1 : Int32)), .val (.ref bv_52), .val (.ref b53), .val (.ref b57), .val (.ref b63), .unset, .unset, .unset, .unset] [(.long ((i0.toInt64) + (i2.toInt64)))]))
      refine Go.st (fun t k => XS.lstore X84.here hx rfl (hb hby at_126) rfl (l' := #[.val (.int i0), .val (.int i1), .val (.int i2), .val (.int i3), .val (.int i4), .val (.int i5), .val (.int (0 : Int32)), .val (.int (1 : Int32)), .val (.ref bv_52), .val (.ref b53), .val (.ref b57), .val (.ref b63), .val (.long ((i0.toInt64) + (i2.toInt64))), .second, .unset, .unset]) rfl k) ?_
      show Go p e below _ (T84.setTop (mkF m 128 #[.val (.int i0), .val (.int i1), .val (.int i2), .val (.int i3), .val (.int i4), .val (.int i5), .val (.int (0 : Int32)), .val (.int (1 : Int32)), .val (.ref bv_52), .val (.ref b53), .val (.ref b57), .val (.ref b63), .val (.long ((i0.toInt64) + (i2.toInt64))), .second, .unset, .unset] []))
      refine Go.st (fun t k => XS.iload X84.here hx rfl (hb hby at_128) rfl k) ?_
      show Go p e below _ (T84.setTop (mkF m 130 #[.val (.int i0), .val (.int i1), .val (.int i2), .val (.int i3), .val (.int i4), .val (.int i5), .val (.int (0 : Int32)), .val (.int (1 : Int32)), .val (.ref bv_52), .val (.ref b53), .val (.ref b57), .val (.ref b63), .val (.long ((i0.toInt64) + (i2.toInt64))), .second, .unset, .unset] [(.int (0 : Int32))]))
      refine Go.st (fun t k => XS.ifYes X84.here hx rfl (pc0 := 130) (pc' := 138) rfl (hb hby at_130) rfl (Jvm.Free.XT.i0_eq_t (by decide : (0 : Int32) = (0 : Int32))) (by decide) (by decide) k) ?_
      show Go p e below _ (T84.setTop (mkF m 138 #[.val (.int i0), .val (.int i1), .val (.int i2), .val (.int i3), .val (.int i4), .val (.int i5), .val (.int (0 : Int32)), .val (.int (1 : Int32)), .val (.ref bv_52), .val (.ref b53), .val (.ref b57), .val (.ref b63), .val (.long ((i0.toInt64) + (i2.toInt64))), .second, .unset, .unset] []))
      refine Go.st (fun t k => XS.lconst X84.here hx rfl (hb hby at_138) k) ?_
      show Go p e below _ (T84.setTop (mkF m 139 #[.val (.int i0), .val (.int i1), .val (.int i2), .val (.int i3), .val (.int i4), .val (.int i5), .val (.int (0 : Int32)), .val (.int (1 : Int32)), .val (.ref bv_52), .val (.ref b53), .val (.ref b57), .val (.ref b63), .val (.long ((i0.toInt64) + (i2.toInt64))), .second, .unset, .unset] [(.long (0 : Int64))]))
      refine Go.st (fun t k => XS.iload X84.here hx rfl (hb hby at_139) rfl k) ?_
      show Go p e below _ (T84.setTop (mkF m 141 #[.val (.int i0), .val (.int i1), .val (.int i2), .val (.int i3), .val (.int i4), .val (.int i5), .val (.int (0 : Int32)), .val (.int (1 : Int32)), .val (.ref bv_52), .val (.ref b53), .val (.ref b57), .val (.ref b63), .val (.long ((i0.toInt64) + (i2.toInt64))), .second, .unset, .unset] [(.int (1 : Int32)), (.long (0 : Int64))]))
      refine Go.st (fun t k => XS.ifNo X84.here hx rfl (hb hby at_141) rfl (Jvm.Free.XT.i0_eq_f (by decide : ¬ ((1 : Int32) = (0 : Int32)))) k) ?_
      show Go p e below _ (T84.setTop (mkF m 144 #[.val (.int i0), .val (.int i1), .val (.int i2), .val (.int i3), .val (.int i4), .val (.int i5), .val (.int (0 : Int32)), .val (.int (1 : Int32)), .val (.ref bv_52), .val (.ref b53), .val (.ref b57), .val (.ref b63), .val (.long ((i0.toInt64) + (i2.toInt64))), .second, .unset, .unset] [(.long (0 : Int64))]))
      refine Go.st (fun t k => XS.iloadN X84.here hx rfl (hb hby at_144) rfl k) ?_
      show Go p e below _ (T84.setTop (mkF m 145 #[.val (.int i0), .val (.int i1), .val (.int i2), .val (.int i3), .val (.int i4), .val (.int i5), .val (.int (0 : Int32)), .val (.int (1 : Int32)), .val (.ref bv_52), .val (.ref b53), .val (.ref b57), .val (.ref b63), .val (.long ((i0.toInt64) + (i2.toInt64))), .second, .unset, .unset] [(.int i3), (.long (0 : Int64))]))
      refine Go.st (fun t k => XS.i2l X84.here hx rfl (hb hby at_145) rfl k) ?_
      show Go p e below _ (T84.setTop (mkF m 146 #[.val (.int i0), .val (.int i1), .val (.int i2), .val (.int i3), .val (.int i4), .val (.int i5), .val (.int (0 : Int32)), .val (.int (1 : Int32)), .val (.ref bv_52), .val (.ref b53), .val (.ref b57), .val (.ref b63), .val (.long ((i0.toInt64) + (i2.toInt64))), .second, .unset, .unset] [(.long (i3.toInt64)), (.long (0 : Int64))]))
      refine Go.st (fun t k => XS.goto X84.here hx rfl (pc0 := 146) (pc' := 150) rfl (hb hby at_146) (by decide) (by decide) k) ?_
      show Go p e below _ (T84.setTop (mkF m 150 #[.val (.int i0), .val (.int i1), .val (.int i2), .val (.int i3), .val (.int i4), .val (.int i5), .val (.int (0 : Int32)), .val (.int (1 : Int32)), .val (.ref bv_52), .val (.ref b53), .val (.ref b57), .val (.ref b63), .val (.long ((i0.toInt64) + (i2.toInt64))), .second, .unset, .unset] [(.long (i3.toInt64)), (.long (0 : Int64))]))
      refine Go.st (fun t k => XS.ladd X84.here hx rfl (hb hby at_150) rfl k) ?_
      show Go p e below _ (T84.setTop (mkF m 151 #[.val (.int i0), .val (.int i1), .val (.int i2), .val (.int i3), .val (.int i4), .val (.int i5), .val (.int (0 : Int32)), .val (.int (1 : Int32)), .val (.ref bv_52), .val (.ref b53), .val (.ref b57), .val (.ref b63), .val (.long ((i0.toInt64) + (i2.toInt64))), .second, .unset, .unset] [(.long ((0 : Int64) + (i3.toInt64)))]))
      refine Go.st (fun t k => XS.lstore X84.here hx rfl (hb hby at_151) rfl (l' := #[.val (.int i0), .val (.int i1), .val (.int i2), .val (.int i3), .val (.int i4), .val (.int i5), .val (.int (0 : Int32)), .val (.int (1 : Int32)), .val (.ref bv_52), .val (.ref b53), .val (.ref b57), .val (.ref b63), .val (.long ((i0.toInt64) + (i2.toInt64))), .second, .val (.long ((0 : Int64) + (i3.toInt64))), .second]) rfl k) ?_
      show Go p e below _ (T84.setTop (mkF m 153 #[.val (.int i0), .val (.int i1), .val (.int i2), .val (.int i3), .val (.int i4), .val (.int i5), .val (.int (0 : Int32)), .val (.int (1 : Int32)), .val (.ref bv_52), .val (.ref b53), .val (.ref b57), .val (.ref b63), .val (.long ((i0.toInt64) + (i2.toInt64))), .second, .val (.long ((0 : Int64) + (i3.toInt64))), .second] []))
      refine Go.st (fun t k => XS.aload X84.here hx rfl (hb hby at_153) rfl rfl k) ?_
      show Go p e below _ (T84.setTop (mkF m 155 #[.val (.int i0), .val (.int i1), .val (.int i2), .val (.int i3), .val (.int i4), .val (.int i5), .val (.int (0 : Int32)), .val (.int (1 : Int32)), .val (.ref bv_52), .val (.ref b53), .val (.ref b57), .val (.ref b63), .val (.long ((i0.toInt64) + (i2.toInt64))), .second, .val (.long ((0 : Int64) + (i3.toInt64))), .second] [(.ref b63)]))
      obtain ⟨cq85, kq85, q85a, q85b, q85c⟩ := isOf hZ rfl (((A63.keep K64c).keep K72c).keep K84c)
      obtain ⟨_, _, ⟨T85, L85, k85, n85⟩, -, X85, ⟨Lc85, hQ85, l85, y85, z85⟩, st85⟩ := X84.virtualBack hx (y := (⟨"com/example/cropmark/cropmark/Assessment$Sums", "lots", "()I"⟩ : MethodName)) (z := (⟨"com/example/cropmark/cropmark/Assessment$Sums", "lots", "()I"⟩ : MethodName)) hown (mvT hZ (w79 hw)) (mvT hZ (w80 hw)) (notFace_of_selects (args := #[]) (mvT hZ (w82 hw))) (mvT hZ (w82 hw)) (mvT hZ (w81 hw)) (by decide) (backOf (W := 0) (rm14_1 l Z a0 hw [] b63 T84.heap n0 O84 r84_0) hZ (w83 hw) (w29 hw) (by decide) (by decide)) q85a q85c (g := (mkF m 155 #[.val (.int i0), .val (.int i1), .val (.int i2), .val (.int i3), .val (.int i4), .val (.int i5), .val (.int (0 : Int32)), .val (.int (1 : Int32)), .val (.ref bv_52), .val (.ref b53), .val (.ref b57), .val (.ref b63), .val (.long ((i0.toInt64) + (i2.toInt64))), .second, .val (.long ((0 : Int64) + (i3.toInt64))), .second] [(.ref b63)])) rfl (by rw [hml]; rfl) (Steps.refl _) (argsL := []) (rest := []) (lenOf pd_11 rfl) rfl (by show 2 * 0 + _ ≤ _; exact Nat.le_of_eq rfl) (hb hby at_155) (fun vm₁ hw₁ => ⟨rfl, rfl, (by decide : 10 + 0 ≤ _), (by decide : 46 + 0 ≤ _)⟩)
      dsimp only [Pt.U, Pt.locs, Pt.cells, Pt.slots] at X85 l85 y85 z85 st85 hQ85
      subst l85 y85 z85
      obtain ⟨rfl, M85, eh85⟩ := hQ85
      have N85 := Fr.app N84 M85
      refine Go.tr st85 ?_
      show Go p e below _ (T85.setTop (mkF m 158 #[.val (.int i0), .val (.int i1), .val (.int i2), .val (.int i3), .val (.int i4), .val (.int i5), .val (.int (0 : Int32)), .val (.int (1 : Int32)), .val (.ref bv_52), .val (.ref b53), .val (.ref b57), .val (.ref b63), .val (.long ((i0.toInt64) + (i2.toInt64))), .second, .val (.long ((0 : Int64) + (i3.toInt64))), .second] [(.int (2 : Int32))]))
      refine Go.st (fun t k => XS.iconst X85.here hx rfl (hb hby at_158) k) ?_
      show Go p e below _ (T85.setTop (mkF m 159 #[.val (.int i0), .val (.int i1), .val (.int i2), .val (.int i3), .val (.int i4), .val (.int i5), .val (.int (0 : Int32)), .val (.int (1 : Int32)), .val (.ref bv_52), .val (.ref b53), .val (.ref b57), .val (.ref b63), .val (.long ((i0.toInt64) + (i2.toInt64))), .second, .val (.long ((0 : Int64) + (i3.toInt64))), .second] [(.int (2 : Int32)), (.int (2 : Int32))]))
      refine Go.st (fun t k => XS.icmpNo X85.here hx rfl (hb hby at_159) rfl (Jvm.Free.XT.ii_ne_f (by decide : (2 : Int32) = (2 : Int32))) k) ?_
      show Go p e below _ (T85.setTop (mkF m 162 #[.val (.int i0), .val (.int i1), .val (.int i2), .val (.int i3), .val (.int i4), .val (.int i5), .val (.int (0 : Int32)), .val (.int (1 : Int32)), .val (.ref bv_52), .val (.ref b53), .val (.ref b57), .val (.ref b63), .val (.long ((i0.toInt64) + (i2.toInt64))), .second, .val (.long ((0 : Int64) + (i3.toInt64))), .second] []))
      refine Go.st (fun t k => XS.aload X85.here hx rfl (hb hby at_162) rfl rfl k) ?_
      show Go p e below _ (T85.setTop (mkF m 164 #[.val (.int i0), .val (.int i1), .val (.int i2), .val (.int i3), .val (.int i4), .val (.int i5), .val (.int (0 : Int32)), .val (.int (1 : Int32)), .val (.ref bv_52), .val (.ref b53), .val (.ref b57), .val (.ref b63), .val (.long ((i0.toInt64) + (i2.toInt64))), .second, .val (.long ((0 : Int64) + (i3.toInt64))), .second] [(.ref b63)]))
      obtain ⟨cq86, kq86, q86a, q86b, q86c⟩ := isOf hZ eh85 (((A63.keep K64c).keep K72c).keep K84c)
      obtain ⟨_, _, ⟨T86, L86, k86, n86⟩, -, X86, ⟨Lc86, hQ86, l86, y86, z86⟩, st86⟩ := X85.virtualBack hx (y := (⟨"com/example/cropmark/cropmark/Assessment$Sums", "assessedLb", "()Ljava/math/BigDecimal;"⟩ : MethodName)) (z := (⟨"com/example/cropmark/cropmark/Assessment$Sums", "assessedLb", "()Ljava/math/BigDecimal;"⟩ : MethodName)) hown (mvT hZ (w84 hw)) (mvT hZ (w85 hw)) (notFace_of_selects (args := #[]) (mvT hZ (w87 hw))) (mvT hZ (w87 hw)) (mvT hZ (w86 hw)) (by decide) (backOf (W := 0) (rm15_1 l Z a0 hw [] b63 bv_1_2_1_7_6_84 T84.heap n0 O84 r84_1) hZ (w88 hw) (w29 hw) (by decide) (by decide)) q86a q86c (g := (mkF m 164 #[.val (.int i0), .val (.int i1), .val (.int i2), .val (.int i3), .val (.int i4), .val (.int i5), .val (.int (0 : Int32)), .val (.int (1 : Int32)), .val (.ref bv_52), .val (.ref b53), .val (.ref b57), .val (.ref b63), .val (.long ((i0.toInt64) + (i2.toInt64))), .second, .val (.long ((0 : Int64) + (i3.toInt64))), .second] [(.ref b63)])) rfl (by rw [hml]; rfl) (Steps.refl _) (argsL := []) (rest := []) (lenOf pd_4 rfl) rfl (by show 2 * 0 + _ ≤ _; exact Nat.le_of_eq rfl) (hb hby at_164) (fun vm₁ hw₁ => ⟨rfl, eh85, (by decide : 10 + 0 ≤ _), (by decide : 46 + 0 ≤ _)⟩)
      dsimp only [Pt.U, Pt.locs, Pt.cells, Pt.slots] at X86 l86 y86 z86 st86 hQ86
      subst l86 y86 z86
      obtain ⟨rfl, M86, eh86⟩ := hQ86
      have N86 := Fr.app N85 M86
      refine Go.tr st86 ?_
      show Go p e below _ (T86.setTop (mkF m 167 #[.val (.int i0), .val (.int i1), .val (.int i2), .val (.int i3), .val (.int i4), .val (.int i5), .val (.int (0 : Int32)), .val (.int (1 : Int32)), .val (.ref bv_52), .val (.ref b53), .val (.ref b57), .val (.ref b63), .val (.long ((i0.toInt64) + (i2.toInt64))), .second, .val (.long ((0 : Int64) + (i3.toInt64))), .second] [(.ref bv_1_2_1_7_6_84)]))
      refine Go.st (fun t k => XS.lload X86.here hx rfl (hb hby at_167) rfl k) ?_
      show Go p e below _ (T86.setTop (mkF m 169 #[.val (.int i0), .val (.int i1), .val (.int i2), .val (.int i3), .val (.int i4), .val (.int i5), .val (.int (0 : Int32)), .val (.int (1 : Int32)), .val (.ref bv_52), .val (.ref b53), .val (.ref b57), .val (.ref b63), .val (.long ((i0.toInt64) + (i2.toInt64))), .second, .val (.long ((0 : Int64) + (i3.toInt64))), .second] [(.long ((i0.toInt64) + (i2.toInt64))), (.ref bv_1_2_1_7_6_84)]))
      have hp87 : ¬ (((i0.toInt64) + (i2.toInt64)) = (-9223372036854775808 : Int64)) := by
        have j1 := own_b32 i0
        have j2 := own_b64 (i0.toInt64)
        have j3 := c_i2l i0
        have j4 := own_b32 i2
        have j5 := own_b64 (i2.toInt64)
        have j6 := c_i2l i2
        have j7 := own_b64 ((i0.toInt64) + (i2.toInt64))
        have j8 := c_ladd (i0.toInt64) (i2.toInt64)
        have j9 : ((-9223372036854775808 : Int64)).toInt = -9223372036854775808 := by decide
        rw [← Int64.toInt_inj]
        omega
      obtain ⟨_, _, ⟨T88, L88, k88, n88⟩, -, X88, ⟨Lc88, hQ88, l88, y88, z88⟩, st88⟩ := Jvm.LawKit.callS X86 hx (y := (⟨"java/math/BigDecimal", "valueOf", "(J)Ljava/math/BigDecimal;"⟩ : MethodName)) hown (mvT hZ (w0 hw)) (mvT hZ (w1 hw)) (mvT hZ (w2 hw)) (mvT hZ (w3 hw)) (by decide) (backOf (W := 1) (rmV l Z a0 hw [] ((i0.toInt64) + (i2.toInt64)) w1a k4c w6a w24a w40a w56a w68a w80a w92a w104a w116a w128a w140a T84.heap n0 O84 hp87 Y3 Y235 Y156 Y230 Y232 Y26 Y170 Y172 Y42 Y176 Y178 Y58 Y182 Y184 Y70 Y188 Y190 Y82 Y194 Y196 Y94 Y200 Y202 Y106 Y206 Y208 Y118 Y212 Y214 Y130 Y218 Y220 Y142 Y224 Y226) hZ (w3 hw) (w2 hw) (by decide) (by decide)) (g := (mkF m 169 #[.val (.int i0), .val (.int i1), .val (.int i2), .val (.int i3), .val (.int i4), .val (.int i5), .val (.int (0 : Int32)), .val (.int (1 : Int32)), .val (.ref bv_52), .val (.ref b53), .val (.ref b57), .val (.ref b63), .val (.long ((i0.toInt64) + (i2.toInt64))), .second, .val (.long ((0 : Int64) + (i3.toInt64))), .second] [(.long ((i0.toInt64) + (i2.toInt64))), (.ref bv_1_2_1_7_6_84)])) rfl (by rw [hml]; rfl) (argsL := [(.long ((i0.toInt64) + (i2.toInt64)))]) (rest := [(.ref bv_1_2_1_7_6_84)]) (lenOf pd_2 rfl) rfl (by show 2 * 0 + _ ≤ _; exact Nat.le_of_eq rfl) (hb hby at_169) (fun vm₁ hw₁ => ⟨rfl, eh86, (by decide : 10 + 1 ≤ _), (by decide : 46 + 5 ≤ _)⟩)
      dsimp only [Pt.U, Pt.locs, Pt.cells, Pt.slots] at X88 l88 y88 z88 st88 hQ88
      subst l88 y88 z88
      obtain ⟨bv_88, rfl, M88, K88c, r88_0, r88_1, r88_2⟩ := hQ88
      have N88 := Fr.app N86 M88
      have O88 : Old Z n0 T88.heap := O84.keep K88c all0
      refine Go.st st88 ?_
      show Go p e below _ (T88.setTop (mkF m 172 #[.val (.int i0), .val (.int i1), .val (.int i2), .val (.int i3), .val (.int i4), .val (.int i5), .val (.int (0 : Int32)), .val (.int (1 : Int32)), .val (.ref bv_52), .val (.ref b53), .val (.ref b57), .val (.ref b63), .val (.long ((i0.toInt64) + (i2.toInt64))), .second, .val (.long ((0 : Int64) + (i3.toInt64))), .second] [(.ref bv_88), (.ref bv_1_2_1_7_6_84)]))
      by_cases hc89 : bv_88 = bv_1_2_1_7_6_84
      · obtain ⟨cq90, kq90, q90a, q90b, q90c⟩ := isOf hZ rfl (r84_3.keep K88c)
        obtain ⟨_, _, ⟨T90, L90, k90, n90⟩, -, X90, ⟨Lc90, hQ90, l90, y90, z90⟩, st90⟩ := X88.virtualBack hx (y := (⟨"java/math/BigDecimal", "equals", "(Ljava/lang/Object;)Z"⟩ : MethodName)) (z := (⟨"java/math/BigDecimal", "equals", "(Ljava/lang/Object;)Z"⟩ : MethodName)) hown (mvT hZ (w89 hw)) (mvT hZ (w90 hw)) (notFace_of_selects (args := #[]) (mvT hZ (w92 hw))) (mvT hZ (w92 hw)) (mvT hZ (w91 hw)) (by decide) (backOf (W := 0) (rm16_1 l Z a0 hw [] bv_1_2_1_7_6_84 bv_88 T88.heap n0 O88 r88_0 (r84_3.keep K88c) hc89) hZ (w93 hw) (w2 hw) (by decide) (by decide)) q90a q90c (g := (mkF m 172 #[.val (.int i0), .val (.int i1), .val (.int i2), .val (.int i3), .val (.int i4), .val (.int i5), .val (.int (0 : Int32)), .val (.int (1 : Int32)), .val (.ref bv_52), .val (.ref b53), .val (.ref b57), .val (.ref b63), .val (.long ((i0.toInt64) + (i2.toInt64))), .second, .val (.long ((0 : Int64) + (i3.toInt64))), .second] [(.ref bv_88), (.ref bv_1_2_1_7_6_84)])) rfl (by rw [hml]; rfl) (Steps.refl _) (argsL := [(.ref bv_88)]) (rest := []) (lenOf pd_12 rfl) rfl (by show 2 * 0 + _ ≤ _; exact Nat.le_of_eq rfl) (hb hby at_172) (fun vm₁ hw₁ => ⟨rfl, rfl, (by decide : 11 + 0 ≤ _), (by decide : 51 + 0 ≤ _)⟩)
        dsimp only [Pt.U, Pt.locs, Pt.cells, Pt.slots] at X90 l90 y90 z90 st90 hQ90
        subst l90 y90 z90
        obtain ⟨rfl, M90, eh90⟩ := hQ90
        have N90 := Fr.app N88 M90
        refine Go.tr st90 ?_
        show Go p e below _ (T90.setTop (mkF m 175 #[.val (.int i0), .val (.int i1), .val (.int i2), .val (.int i3), .val (.int i4), .val (.int i5), .val (.int (0 : Int32)), .val (.int (1 : Int32)), .val (.ref bv_52), .val (.ref b53), .val (.ref b57), .val (.ref b63), .val (.long ((i0.toInt64) + (i2.toInt64))), .second, .val (.long ((0 : Int64) + (i3.toInt64))), .second] [(.int (1 : Int32))]))
        refine Go.st (fun t k => XS.ifNo X90.here hx rfl (hb hby at_175) rfl (Jvm.Free.XT.i0_eq_f (by decide : ¬ ((1 : Int32) = (0 : Int32)))) k) ?_
        show Go p e below _ (T90.setTop (mkF m 178 #[.val (.int i0), .val (.int i1), .val (.int i2), .val (.int i3), .val (.int i4), .val (.int i5), .val (.int (0 : Int32)), .val (.int (1 : Int32)), .val (.ref bv_52), .val (.ref b53), .val (.ref b57), .val (.ref b63), .val (.long ((i0.toInt64) + (i2.toInt64))), .second, .val (.long ((0 : Int64) + (i3.toInt64))), .second] []))
        refine Go.st (fun t k => XS.aload X90.here hx rfl (hb hby at_178) rfl rfl k) ?_
        show Go p e below _ (T90.setTop (mkF m 180 #[.val (.int i0), .val (.int i1), .val (.int i2), .val (.int i3), .val (.int i4), .val (.int i5), .val (.int (0 : Int32)), .val (.int (1 : Int32)), .val (.ref bv_52), .val (.ref b53), .val (.ref b57), .val (.ref b63), .val (.long ((i0.toInt64) + (i2.toInt64))), .second, .val (.long ((0 : Int64) + (i3.toInt64))), .second] [(.ref b63)]))
        have c92 := ((((A63.keep K64c).keep K72c).keep K84c).keep K88c)
        obtain ⟨cq91, kq91, q91a, q91b, q91c⟩ := isOf hZ eh90 c92
        obtain ⟨_, _, ⟨T91, L91, k91, n91⟩, -, X91, ⟨Lc91, hQ91, l91, y91, z91⟩, st91⟩ := X90.virtualBack hx (y := (⟨"com/example/cropmark/cropmark/Assessment$Sums", "inedibleLb", "()Ljava/math/BigDecimal;"⟩ : MethodName)) (z := (⟨"com/example/cropmark/cropmark/Assessment$Sums", "inedibleLb", "()Ljava/math/BigDecimal;"⟩ : MethodName)) hown (mvT hZ (w96 hw)) (mvT hZ (w97 hw)) (notFace_of_selects (args := #[]) (mvT hZ (w99 hw))) (mvT hZ (w99 hw)) (mvT hZ (w98 hw)) (by decide) (backOf (W := 0) (rm17_1 l Z a0 hw [] b63 bv_1_2_1_7_15_84 T88.heap n0 O88 (r84_2.keep K88c nin0)) hZ (w100 hw) (w29 hw) (by decide) (by decide)) q91a q91c (g := (mkF m 180 #[.val (.int i0), .val (.int i1), .val (.int i2), .val (.int i3), .val (.int i4), .val (.int i5), .val (.int (0 : Int32)), .val (.int (1 : Int32)), .val (.ref bv_52), .val (.ref b53), .val (.ref b57), .val (.ref b63), .val (.long ((i0.toInt64) + (i2.toInt64))), .second, .val (.long ((0 : Int64) + (i3.toInt64))), .second] [(.ref b63)])) rfl (by rw [hml]; rfl) (Steps.refl _) (argsL := []) (rest := []) (lenOf pd_4 rfl) rfl (by show 2 * 0 + _ ≤ _; exact Nat.le_of_eq rfl) (hb hby at_180) (fun vm₁ hw₁ => ⟨rfl, eh90, (by decide : 11 + 0 ≤ _), (by decide : 51 + 0 ≤ _)⟩)
        dsimp only [Pt.U, Pt.locs, Pt.cells, Pt.slots] at X91 l91 y91 z91 st91 hQ91
        subst l91 y91 z91
        obtain ⟨rfl, M91, eh91⟩ := hQ91
        have N91 := Fr.app N90 M91
        refine Go.tr st91 ?_
        show Go p e below _ (T91.setTop (mkF m 183 #[.val (.int i0), .val (.int i1), .val (.int i2), .val (.int i3), .val (.int i4), .val (.int i5), .val (.int (0 : Int32)), .val (.int (1 : Int32)), .val (.ref bv_52), .val (.ref b53), .val (.ref b57), .val (.ref b63), .val (.long ((i0.toInt64) + (i2.toInt64))), .second, .val (.long ((0 : Int64) + (i3.toInt64))), .second] [(.ref bv_1_2_1_7_15_84)]))
        refine Go.st (fun t k => XS.lload X91.here hx rfl (hb hby at_183) rfl k) ?_
        show Go p e below _ (T91.setTop (mkF m 185 #[.val (.int i0), .val (.int i1), .val (.int i2), .val (.int i3), .val (.int i4), .val (.int i5), .val (.int (0 : Int32)), .val (.int (1 : Int32)), .val (.ref bv_52), .val (.ref b53), .val (.ref b57), .val (.ref b63), .val (.long ((i0.toInt64) + (i2.toInt64))), .second, .val (.long ((0 : Int64) + (i3.toInt64))), .second] [(.long ((0 : Int64) + (i3.toInt64))), (.ref bv_1_2_1_7_15_84)]))
        obtain ⟨_, _, ⟨T93, L93, k93, n93⟩, -, X93, ⟨Lc93, hQ93, l93, y93, z93⟩, st93⟩ := Jvm.LawKit.callS X91 hx (y := (⟨"java/math/BigDecimal", "valueOf", "(J)Ljava/math/BigDecimal;"⟩ : MethodName)) hown (mvT hZ (w0 hw)) (mvT hZ (w1 hw)) (mvT hZ (w2 hw)) (mvT hZ (w3 hw)) (by decide) (backOf (W := 1) (rmV l Z a0 hw [] ((0 : Int64) + (i3.toInt64)) w1a k4c w6a w24a w40a w56a w68a w80a w92a w104a w116a w128a w140a T88.heap n0 O88 hp76 Y3 Y235 Y156 Y230 Y232 Y26 Y170 Y172 Y42 Y176 Y178 Y58 Y182 Y184 Y70 Y188 Y190 Y82 Y194 Y196 Y94 Y200 Y202 Y106 Y206 Y208 Y118 Y212 Y214 Y130 Y218 Y220 Y142 Y224 Y226) hZ (w3 hw) (w2 hw) (by decide) (by decide)) (g := (mkF m 185 #[.val (.int i0), .val (.int i1), .val (.int i2), .val (.int i3), .val (.int i4), .val (.int i5), .val (.int (0 : Int32)), .val (.int (1 : Int32)), .val (.ref bv_52), .val (.ref b53), .val (.ref b57), .val (.ref b63), .val (.long ((i0.toInt64) + (i2.toInt64))), .second, .val (.long ((0 : Int64) + (i3.toInt64))), .second] [(.long ((0 : Int64) + (i3.toInt64))), (.ref bv_1_2_1_7_15_84)])) rfl (by rw [hml]; rfl) (argsL := [(.long ((0 : Int64) + (i3.toInt64)))]) (rest := [(.ref bv_1_2_1_7_15_84)]) (lenOf pd_2 rfl) rfl (by show 2 * 0 + _ ≤ _; exact Nat.le_of_eq rfl) (hb hby at_185) (fun vm₁ hw₁ => ⟨rfl, eh91, (by decide : 11 + 1 ≤ _), (by decide : 51 + 5 ≤ _)⟩)
        dsimp only [Pt.U, Pt.locs, Pt.cells, Pt.slots] at X93 l93 y93 z93 st93 hQ93
        subst l93 y93 z93
        obtain ⟨bv_93, rfl, M93, K93c, r93_0, r93_1, r93_2⟩ := hQ93
        have N93 := Fr.app N91 M93
        have O93 : Old Z n0 T93.heap := O88.keep K93c all0
        refine Go.st st93 ?_
        show Go p e below _ (T93.setTop (mkF m 188 #[.val (.int i0), .val (.int i1), .val (.int i2), .val (.int i3), .val (.int i4), .val (.int i5), .val (.int (0 : Int32)), .val (.int (1 : Int32)), .val (.ref bv_52), .val (.ref b53), .val (.ref b57), .val (.ref b63), .val (.long ((i0.toInt64) + (i2.toInt64))), .second, .val (.long ((0 : Int64) + (i3.toInt64))), .second] [(.ref bv_93), (.ref bv_1_2_1_7_15_84)]))
        by_cases hc94 : bv_93 = bv_1_2_1_7_15_84
        · obtain ⟨cq95, kq95, q95a, q95b, q95c⟩ := isOf hZ rfl ((r84_6.keep K88c).keep K93c)
          obtain ⟨_, _, ⟨T95, L95, k95, n95⟩, -, X95, ⟨Lc95, hQ95, l95, y95, z95⟩, st95⟩ := X93.virtualBack hx (y := (⟨"java/math/BigDecimal", "equals", "(Ljava/lang/Object;)Z"⟩ : MethodName)) (z := (⟨"java/math/BigDecimal", "equals", "(Ljava/lang/Object;)Z"⟩ : MethodName)) hown (mvT hZ (w89 hw)) (mvT hZ (w90 hw)) (notFace_of_selects (args := #[]) (mvT hZ (w92 hw))) (mvT hZ (w92 hw)) (mvT hZ (w91 hw)) (by decide) (backOf (W := 0) (rm16_1 l Z a0 hw [] bv_1_2_1_7_15_84 bv_93 T93.heap n0 O93 r93_0 ((r84_6.keep K88c).keep K93c) hc94) hZ (w93 hw) (w2 hw) (by decide) (by decide)) q95a q95c (g := (mkF m 188 #[.val (.int i0), .val (.int i1), .val (.int i2), .val (.int i3), .val (.int i4), .val (.int i5), .val (.int (0 : Int32)), .val (.int (1 : Int32)), .val (.ref bv_52), .val (.ref b53), .val (.ref b57), .val (.ref b63), .val (.long ((i0.toInt64) + (i2.toInt64))), .second, .val (.long ((0 : Int64) + (i3.toInt64))), .second] [(.ref bv_93), (.ref bv_1_2_1_7_15_84)])) rfl (by rw [hml]; rfl) (Steps.refl _) (argsL := [(.ref bv_93)]) (rest := []) (lenOf pd_12 rfl) rfl (by show 2 * 0 + _ ≤ _; exact Nat.le_of_eq rfl) (hb hby at_188) (fun vm₁ hw₁ => ⟨rfl, rfl, (by decide : 12 + 0 ≤ _), (by decide : 56 + 0 ≤ _)⟩)
          dsimp only [Pt.U, Pt.locs, Pt.cells, Pt.slots] at X95 l95 y95 z95 st95 hQ95
          subst l95 y95 z95
          obtain ⟨rfl, M95, eh95⟩ := hQ95
          have N95 := Fr.app N93 M95
          refine Go.tr st95 ?_
          show Go p e below _ (T95.setTop (mkF m 191 #[.val (.int i0), .val (.int i1), .val (.int i2), .val (.int i3), .val (.int i4), .val (.int i5), .val (.int (0 : Int32)), .val (.int (1 : Int32)), .val (.ref bv_52), .val (.ref b53), .val (.ref b57), .val (.ref b63), .val (.long ((i0.toInt64) + (i2.toInt64))), .second, .val (.long ((0 : Int64) + (i3.toInt64))), .second] [(.int (1 : Int32))]))
          refine Go.st (fun t k => XS.ifNo X95.here hx rfl (hb hby at_191) rfl (Jvm.Free.XT.i0_eq_f (by decide : ¬ ((1 : Int32) = (0 : Int32)))) k) ?_
          show Go p e below _ (T95.setTop (mkF m 194 #[.val (.int i0), .val (.int i1), .val (.int i2), .val (.int i3), .val (.int i4), .val (.int i5), .val (.int (0 : Int32)), .val (.int (1 : Int32)), .val (.ref bv_52), .val (.ref b53), .val (.ref b57), .val (.ref b63), .val (.long ((i0.toInt64) + (i2.toInt64))), .second, .val (.long ((0 : Int64) + (i3.toInt64))), .second] []))
          refine Go.st (fun t k => XS.iconst X95.here hx rfl (hb hby at_194) k) ?_
          show Go p e below _ (T95.setTop (mkF m 195 #[.val (.int i0), .val (.int i1), .val (.int i2), .val (.int i3), .val (.int i4), .val (.int i5), .val (.int (0 : Int32)), .val (.int (1 : Int32)), .val (.ref bv_52), .val (.ref b53), .val (.ref b57), .val (.ref b63), .val (.long ((i0.toInt64) + (i2.toInt64))), .second, .val (.long ((0 : Int64) + (i3.toInt64))), .second] [(.int (1 : Int32))]))
          refine Go.st (fun t k => XS.goto X95.here hx rfl (pc0 := 195) (pc' := 199) rfl (hb hby at_195) (by decide) (by decide) k) ?_
          show Go p e below _ (T95.setTop (mkF m 199 #[.val (.int i0), .val (.int i1), .val (.int i2), .val (.int i3), .val (.int i4), .val (.int i5), .val (.int (0 : Int32)), .val (.int (1 : Int32)), .val (.ref bv_52), .val (.ref b53), .val (.ref b57), .val (.ref b63), .val (.long ((i0.toInt64) + (i2.toInt64))), .second, .val (.long ((0 : Int64) + (i3.toInt64))), .second] [(.int (1 : Int32))]))
          obtain ⟨fs, hr, hrun, hended, hWd, hsame⟩ := X95.leave (v := some (.int (1 : Int32))) (fun h => by rw [Bd.returns] at h; cases h)
          refine ⟨_, _, ?_, hrun, hended, _, _, rfl, ?_, ⟨⟨_, rfl⟩, hWd, hsame.mono (by decide) (by decide)⟩⟩
          · exact retN X95 hx (t := .boolean) Bd.returns (by simp) (hb hby at_199) hr
          · exact ⟨rfl, N95⟩
        · obtain ⟨cq96, kq96, q96a, q96b, q96c⟩ := isOf hZ rfl ((r84_6.keep K88c).keep K93c)
          obtain ⟨_, _, ⟨T96, L96, k96, n96⟩, -, X96, ⟨Lc96, hQ96, l96, y96, z96⟩, st96⟩ := X93.virtualBack hx (y := (⟨"java/math/BigDecimal", "equals", "(Ljava/lang/Object;)Z"⟩ : MethodName)) (z := (⟨"java/math/BigDecimal", "equals", "(Ljava/lang/Object;)Z"⟩ : MethodName)) hown (mvT hZ (w89 hw)) (mvT hZ (w90 hw)) (notFace_of_selects (args := #[]) (mvT hZ (w92 hw))) (mvT hZ (w92 hw)) (mvT hZ (w91 hw)) (by decide) (backOf (W := 0) (rm16_4 l Z a0 hw [] bv_1_2_1_7_15_84 bv_93 ((0 : Int64) + (i3.toInt64)) ((0 : Int64) + (i3.toInt64)) T93.heap n0 O93 r93_0 ((r84_6.keep K88c).keep K93c) hc94 ((r84_7.keep K88c nin0).keep K93c nin0) r93_1 ((r84_8.keep K88c nin0).keep K93c nin0) r93_2 hp76 hp76 (rfl : ((0 : Int64) + (i3.toInt64)) = ((0 : Int64) + (i3.toInt64)))) hZ (w93 hw) (w2 hw) (by decide) (by decide)) q96a q96c (g := (mkF m 188 #[.val (.int i0), .val (.int i1), .val (.int i2), .val (.int i3), .val (.int i4), .val (.int i5), .val (.int (0 : Int32)), .val (.int (1 : Int32)), .val (.ref bv_52), .val (.ref b53), .val (.ref b57), .val (.ref b63), .val (.long ((i0.toInt64) + (i2.toInt64))), .second, .val (.long ((0 : Int64) + (i3.toInt64))), .second] [(.ref bv_93), (.ref bv_1_2_1_7_15_84)])) rfl (by rw [hml]; rfl) (Steps.refl _) (argsL := [(.ref bv_93)]) (rest := []) (lenOf pd_12 rfl) rfl (by show 2 * 0 + _ ≤ _; exact Nat.le_of_eq rfl) (hb hby at_188) (fun vm₁ hw₁ => ⟨rfl, rfl, (by decide : 12 + 0 ≤ _), (by decide : 56 + 0 ≤ _)⟩)
          dsimp only [Pt.U, Pt.locs, Pt.cells, Pt.slots] at X96 l96 y96 z96 st96 hQ96
          subst l96 y96 z96
          obtain ⟨rfl, M96, eh96⟩ := hQ96
          have N96 := Fr.app N93 M96
          refine Go.tr st96 ?_
          show Go p e below _ (T96.setTop (mkF m 191 #[.val (.int i0), .val (.int i1), .val (.int i2), .val (.int i3), .val (.int i4), .val (.int i5), .val (.int (0 : Int32)), .val (.int (1 : Int32)), .val (.ref bv_52), .val (.ref b53), .val (.ref b57), .val (.ref b63), .val (.long ((i0.toInt64) + (i2.toInt64))), .second, .val (.long ((0 : Int64) + (i3.toInt64))), .second] [(.int (1 : Int32))]))
          refine Go.st (fun t k => XS.ifNo X96.here hx rfl (hb hby at_191) rfl (Jvm.Free.XT.i0_eq_f (by decide : ¬ ((1 : Int32) = (0 : Int32)))) k) ?_
          show Go p e below _ (T96.setTop (mkF m 194 #[.val (.int i0), .val (.int i1), .val (.int i2), .val (.int i3), .val (.int i4), .val (.int i5), .val (.int (0 : Int32)), .val (.int (1 : Int32)), .val (.ref bv_52), .val (.ref b53), .val (.ref b57), .val (.ref b63), .val (.long ((i0.toInt64) + (i2.toInt64))), .second, .val (.long ((0 : Int64) + (i3.toInt64))), .second] []))
          refine Go.st (fun t k => XS.iconst X96.here hx rfl (hb hby at_194) k) ?_
          show Go p e below _ (T96.setTop (mkF m 195 #[.val (.int i0), .val (.int i1), .val (.int i2), .val (.int i3), .val (.int i4), .val (.int i5), .val (.int (0 : Int32)), .val (.int (1 : Int32)), .val (.ref bv_52), .val (.ref b53), .val (.ref b57), .val (.ref b63), .val (.long ((i0.toInt64) + (i2.toInt64))), .second, .val (.long ((0 : Int64) + (i3.toInt64))), .second] [(.int (1 : Int32))]))
          refine Go.st (fun t k => XS.goto X96.here hx rfl (pc0 := 195) (pc' := 199) rfl (hb hby at_195) (by decide) (by decide) k) ?_
          show Go p e below _ (T96.setTop (mkF m 199 #[.val (.int i0), .val (.int i1), .val (.int i2), .val (.int i3), .val (.int i4), .val (.int i5), .val (.int (0 : Int32)), .val (.int (1 : Int32)), .val (.ref bv_52), .val (.ref b53), .val (.ref b57), .val (.ref b63), .val (.long ((i0.toInt64) + (i2.toInt64))), .second, .val (.long ((0 : Int64) + (i3.toInt64))), .second] [(.int (1 : Int32))]))
          obtain ⟨fs, hr, hrun, hended, hWd, hsame⟩ := X96.leave (v := some (.int (1 : Int32))) (fun h => by rw [Bd.returns] at h; cases h)
          refine ⟨_, _, ?_, hrun, hended, _, _, rfl, ?_, ⟨⟨_, rfl⟩, hWd, hsame.mono (by decide) (by decide)⟩⟩
          · exact retN X96 hx (t := .boolean) Bd.returns (by simp) (hb hby at_199) hr
          · exact ⟨rfl, N96⟩
      · have hp97 : ((i0.toInt64) + (i2.toInt64)) = (((0 : Int64) + (i0.toInt64)) + (i2.toInt64)) := by
          have j1 := own_b32 i0
          have j2 := own_b64 (i0.toInt64)
          have j3 := c_i2l i0
          have j4 := own_b32 i2
          have j5 := own_b64 (i2.toInt64)
          have j6 := c_i2l i2
          have j7 := own_b64 ((i0.toInt64) + (i2.toInt64))
          have j8 := c_ladd (i0.toInt64) (i2.toInt64)
          have j9 : ((0 : Int64)).toInt = 0 := by decide
          have j10 := own_b64 ((0 : Int64) + (i0.toInt64))
          have j11 := c_ladd (0 : Int64) (i0.toInt64)
          have j12 := own_b64 (((0 : Int64) + (i0.toInt64)) + (i2.toInt64))
          have j13 := c_ladd ((0 : Int64) + (i0.toInt64)) (i2.toInt64)
          rw [← Int64.toInt_inj]
          omega
        obtain ⟨cq98, kq98, q98a, q98b, q98c⟩ := isOf hZ rfl (r84_3.keep K88c)
        obtain ⟨_, _, ⟨T98, L98, k98, n98⟩, -, X98, ⟨Lc98, hQ98, l98, y98, z98⟩, st98⟩ := X88.virtualBack hx (y := (⟨"java/math/BigDecimal", "equals", "(Ljava/lang/Object;)Z"⟩ : MethodName)) (z := (⟨"java/math/BigDecimal", "equals", "(Ljava/lang/Object;)Z"⟩ : MethodName)) hown (mvT hZ (w89 hw)) (mvT hZ (w90 hw)) (notFace_of_selects (args := #[]) (mvT hZ (w92 hw))) (mvT hZ (w92 hw)) (mvT hZ (w91 hw)) (by decide) (backOf (W := 0) (rm16_4 l Z a0 hw [] bv_1_2_1_7_6_84 bv_88 (((0 : Int64) + (i0.toInt64)) + (i2.toInt64)) ((i0.toInt64) + (i2.toInt64)) T88.heap n0 O88 r88_0 (r84_3.keep K88c) hc89 (r84_4.keep K88c nin0) r88_1 (r84_5.keep K88c nin0) r88_2 hp74 hp87 hp97) hZ (w93 hw) (w2 hw) (by decide) (by decide)) q98a q98c (g := (mkF m 172 #[.val (.int i0), .val (.int i1), .val (.int i2), .val (.int i3), .val (.int i4), .val (.int i5), .val (.int (0 : Int32)), .val (.int (1 : Int32)), .val (.ref bv_52), .val (.ref b53), .val (.ref b57), .val (.ref b63), .val (.long ((i0.toInt64) + (i2.toInt64))), .second, .val (.long ((0 : Int64) + (i3.toInt64))), .second] [(.ref bv_88), (.ref bv_1_2_1_7_6_84)])) rfl (by rw [hml]; rfl) (Steps.refl _) (argsL := [(.ref bv_88)]) (rest := []) (lenOf pd_12 rfl) rfl (by show 2 * 0 + _ ≤ _; exact Nat.le_of_eq rfl) (hb hby at_172) (fun vm₁ hw₁ => ⟨rfl, rfl, (by decide : 11 + 0 ≤ _), (by decide : 51 + 0 ≤ _)⟩)
        dsimp only [Pt.U, Pt.locs, Pt.cells, Pt.slots] at X98 l98 y98 z98 st98 hQ98
        subst l98 y98 z98
        obtain ⟨rfl, M98, eh98⟩ := hQ98
        have N98 := Fr.app N88 M98
        refine Go.tr st98 ?_
        show Go p e below _ (T98.setTop (mkF m 175 #[.val (.int i0), .val (.int i1), .val (.int i2), .val (.int i3), .val (.int i4), .val (.int i5), .val (.int (0 : Int32)), .val (.int (1 : Int32)), .val (.ref bv_52), .val (.ref b53), .val (.ref b57), .val (.ref b63), .val (.long ((i0.toInt64) + (i2.toInt64))), .second, .val (.long ((0 : Int64) + (i3.toInt64))), .second] [(.int (1 : Int32))]))
        refine Go.st (fun t k => XS.ifNo X98.here hx rfl (hb hby at_175) rfl (Jvm.Free.XT.i0_eq_f (by decide : ¬ ((1 : Int32) = (0 : Int32)))) k) ?_
        show Go p e below _ (T98.setTop (mkF m 178 #[.val (.int i0), .val (.int i1), .val (.int i2), .val (.int i3), .val (.int i4), .val (.int i5), .val (.int (0 : Int32)), .val (.int (1 : Int32)), .val (.ref bv_52), .val (.ref b53), .val (.ref b57), .val (.ref b63), .val (.long ((i0.toInt64) + (i2.toInt64))), .second, .val (.long ((0 : Int64) + (i3.toInt64))), .second] []))
        refine Go.st (fun t k => XS.aload X98.here hx rfl (hb hby at_178) rfl rfl k) ?_
        show Go p e below _ (T98.setTop (mkF m 180 #[.val (.int i0), .val (.int i1), .val (.int i2), .val (.int i3), .val (.int i4), .val (.int i5), .val (.int (0 : Int32)), .val (.int (1 : Int32)), .val (.ref bv_52), .val (.ref b53), .val (.ref b57), .val (.ref b63), .val (.long ((i0.toInt64) + (i2.toInt64))), .second, .val (.long ((0 : Int64) + (i3.toInt64))), .second] [(.ref b63)]))
        have c100 := ((((A63.keep K64c).keep K72c).keep K84c).keep K88c)
        obtain ⟨cq99, kq99, q99a, q99b, q99c⟩ := isOf hZ eh98 c100
        obtain ⟨_, _, ⟨T99, L99, k99, n99⟩, -, X99, ⟨Lc99, hQ99, l99, y99, z99⟩, st99⟩ := X98.virtualBack hx (y := (⟨"com/example/cropmark/cropmark/Assessment$Sums", "inedibleLb", "()Ljava/math/BigDecimal;"⟩ : MethodName)) (z := (⟨"com/example/cropmark/cropmark/Assessment$Sums", "inedibleLb", "()Ljava/math/BigDecimal;"⟩ : MethodName)) hown (mvT hZ (w96 hw)) (mvT hZ (w97 hw)) (notFace_of_selects (args := #[]) (mvT hZ (w99 hw))) (mvT hZ (w99 hw)) (mvT hZ (w98 hw)) (by decide) (backOf (W := 0) (rm17_1 l Z a0 hw [] b63 bv_1_2_1_7_15_84 T88.heap n0 O88 (r84_2.keep K88c nin0)) hZ (w100 hw) (w29 hw) (by decide) (by decide)) q99a q99c (g := (mkF m 180 #[.val (.int i0), .val (.int i1), .val (.int i2), .val (.int i3), .val (.int i4), .val (.int i5), .val (.int (0 : Int32)), .val (.int (1 : Int32)), .val (.ref bv_52), .val (.ref b53), .val (.ref b57), .val (.ref b63), .val (.long ((i0.toInt64) + (i2.toInt64))), .second, .val (.long ((0 : Int64) + (i3.toInt64))), .second] [(.ref b63)])) rfl (by rw [hml]; rfl) (Steps.refl _) (argsL := []) (rest := []) (lenOf pd_4 rfl) rfl (by show 2 * 0 + _ ≤ _; exact Nat.le_of_eq rfl) (hb hby at_180) (fun vm₁ hw₁ => ⟨rfl, eh98, (by decide : 11 + 0 ≤ _), (by decide : 51 + 0 ≤ _)⟩)
        dsimp only [Pt.U, Pt.locs, Pt.cells, Pt.slots] at X99 l99 y99 z99 st99 hQ99
        subst l99 y99 z99
        obtain ⟨rfl, M99, eh99⟩ := hQ99
        have N99 := Fr.app N98 M99
        refine Go.tr st99 ?_
        show Go p e below _ (T99.setTop (mkF m 183 #[.val (.int i0), .val (.int i1), .val (.int i2), .val (.int i3), .val (.int i4), .val (.int i5), .val (.int (0 : Int32)), .val (.int (1 : Int32)), .val (.ref bv_52), .val (.ref b53), .val (.ref b57), .val (.ref b63), .val (.long ((i0.toInt64) + (i2.toInt64))), .second, .val (.long ((0 : Int64) + (i3.toInt64))), .second] [(.ref bv_1_2_1_7_15_84)]))
        refine Go.st (fun t k => XS.lload X99.here hx rfl (hb hby at_183) rfl k) ?_
        show Go p e below _ (T99.setTop (mkF m 185 #[.val (.int i0), .val (.int i1), .val (.int i2), .val (.int i3), .val (.int i4), .val (.int i5), .val (.int (0 : Int32)), .val (.int (1 : Int32)), .val (.ref bv_52), .val (.ref b53), .val (.ref b57), .val (.ref b63), .val (.long ((i0.toInt64) + (i2.toInt64))), .second, .val (.long ((0 : Int64) + (i3.toInt64))), .second] [(.long ((0 : Int64) + (i3.toInt64))), (.ref bv_1_2_1_7_15_84)]))
        obtain ⟨_, _, ⟨T101, L101, k101, n101⟩, -, X101, ⟨Lc101, hQ101, l101, y101, z101⟩, st101⟩ := Jvm.LawKit.callS X99 hx (y := (⟨"java/math/BigDecimal", "valueOf", "(J)Ljava/math/BigDecimal;"⟩ : MethodName)) hown (mvT hZ (w0 hw)) (mvT hZ (w1 hw)) (mvT hZ (w2 hw)) (mvT hZ (w3 hw)) (by decide) (backOf (W := 1) (rmV l Z a0 hw [] ((0 : Int64) + (i3.toInt64)) w1a k4c w6a w24a w40a w56a w68a w80a w92a w104a w116a w128a w140a T88.heap n0 O88 hp76 Y3 Y235 Y156 Y230 Y232 Y26 Y170 Y172 Y42 Y176 Y178 Y58 Y182 Y184 Y70 Y188 Y190 Y82 Y194 Y196 Y94 Y200 Y202 Y106 Y206 Y208 Y118 Y212 Y214 Y130 Y218 Y220 Y142 Y224 Y226) hZ (w3 hw) (w2 hw) (by decide) (by decide)) (g := (mkF m 185 #[.val (.int i0), .val (.int i1), .val (.int i2), .val (.int i3), .val (.int i4), .val (.int i5), .val (.int (0 : Int32)), .val (.int (1 : Int32)), .val (.ref bv_52), .val (.ref b53), .val (.ref b57), .val (.ref b63), .val (.long ((i0.toInt64) + (i2.toInt64))), .second, .val (.long ((0 : Int64) + (i3.toInt64))), .second] [(.long ((0 : Int64) + (i3.toInt64))), (.ref bv_1_2_1_7_15_84)])) rfl (by rw [hml]; rfl) (argsL := [(.long ((0 : Int64) + (i3.toInt64)))]) (rest := [(.ref bv_1_2_1_7_15_84)]) (lenOf pd_2 rfl) rfl (by show 2 * 0 + _ ≤ _; exact Nat.le_of_eq rfl) (hb hby at_185) (fun vm₁ hw₁ => ⟨rfl, eh99, (by decide : 11 + 1 ≤ _), (by decide : 51 + 5 ≤ _)⟩)
        dsimp only [Pt.U, Pt.locs, Pt.cells, Pt.slots] at X101 l101 y101 z101 st101 hQ101
        subst l101 y101 z101
        obtain ⟨bv_101, rfl, M101, K101c, r101_0, r101_1, r101_2⟩ := hQ101
        have N101 := Fr.app N99 M101
        have O101 : Old Z n0 T101.heap := O88.keep K101c all0
        refine Go.st st101 ?_
        show Go p e below _ (T101.setTop (mkF m 188 #[.val (.int i0), .val (.int i1), .val (.int i2), .val (.int i3), .val (.int i4), .val (.int i5), .val (.int (0 : Int32)), .val (.int (1 : Int32)), .val (.ref bv_52), .val (.ref b53), .val (.ref b57), .val (.ref b63), .val (.long ((i0.toInt64) + (i2.toInt64))), .second, .val (.long ((0 : Int64) + (i3.toInt64))), .second] [(.ref bv_101), (.ref bv_1_2_1_7_15_84)]))
        by_cases hc102 : bv_101 = bv_1_2_1_7_15_84
        · obtain ⟨cq103, kq103, q103a, q103b, q103c⟩ := isOf hZ rfl ((r84_6.keep K88c).keep K101c)
          obtain ⟨_, _, ⟨T103, L103, k103, n103⟩, -, X103, ⟨Lc103, hQ103, l103, y103, z103⟩, st103⟩ := X101.virtualBack hx (y := (⟨"java/math/BigDecimal", "equals", "(Ljava/lang/Object;)Z"⟩ : MethodName)) (z := (⟨"java/math/BigDecimal", "equals", "(Ljava/lang/Object;)Z"⟩ : MethodName)) hown (mvT hZ (w89 hw)) (mvT hZ (w90 hw)) (notFace_of_selects (args := #[]) (mvT hZ (w92 hw))) (mvT hZ (w92 hw)) (mvT hZ (w91 hw)) (by decide) (backOf (W := 0) (rm16_1 l Z a0 hw [] bv_1_2_1_7_15_84 bv_101 T101.heap n0 O101 r101_0 ((r84_6.keep K88c).keep K101c) hc102) hZ (w93 hw) (w2 hw) (by decide) (by decide)) q103a q103c (g := (mkF m 188 #[.val (.int i0), .val (.int i1), .val (.int i2), .val (.int i3), .val (.int i4), .val (.int i5), .val (.int (0 : Int32)), .val (.int (1 : Int32)), .val (.ref bv_52), .val (.ref b53), .val (.ref b57), .val (.ref b63), .val (.long ((i0.toInt64) + (i2.toInt64))), .second, .val (.long ((0 : Int64) + (i3.toInt64))), .second] [(.ref bv_101), (.ref bv_1_2_1_7_15_84)])) rfl (by rw [hml]; rfl) (Steps.refl _) (argsL := [(.ref bv_101)]) (rest := []) (lenOf pd_12 rfl) rfl (by show 2 * 0 + _ ≤ _; exact Nat.le_of_eq rfl) (hb hby at_188) (fun vm₁ hw₁ => ⟨rfl, rfl, (by decide : 12 + 0 ≤ _), (by decide : 56 + 0 ≤ _)⟩)
          dsimp only [Pt.U, Pt.locs, Pt.cells, Pt.slots] at X103 l103 y103 z103 st103 hQ103
          subst l103 y103 z103
          obtain ⟨rfl, M103, eh103⟩ := hQ103
          have N103 := Fr.app N101 M103
          refine Go.tr st103 ?_
          show Go p e below _ (T103.setTop (mkF m 191 #[.val (.int i0), .val (.int i1), .val (.int i2), .val (.int i3), .val (.int i4), .val (.int i5), .val (.int (0 : Int32)), .val (.int (1 : Int32)), .val (.ref bv_52), .val (.ref b53), .val (.ref b57), .val (.ref b63), .val (.long ((i0.toInt64) + (i2.toInt64))), .second, .val (.long ((0 : Int64) + (i3.toInt64))), .second] [(.int (1 : Int32))]))
          refine Go.st (fun t k => XS.ifNo X103.here hx rfl (hb hby at_191) rfl (Jvm.Free.XT.i0_eq_f (by decide : ¬ ((1 : Int32) = (0 : Int32)))) k) ?_
          show Go p e below _ (T103.setTop (mkF m 194 #[.val (.int i0), .val (.int i1), .val (.int i2), .val (.int i3), .val (.int i4), .val (.int i5), .val (.int (0 : Int32)), .val (.int (1 : Int32)), .val (.ref bv_52), .val (.ref b53), .val (.ref b57), .val (.ref b63), .val (.long ((i0.toInt64) + (i2.toInt64))), .second, .val (.long ((0 : Int64) + (i3.toInt64))), .second] []))
          refine Go.st (fun t k => XS.iconst X103.here hx rfl (hb hby at_194) k) ?_
          show Go p e below _ (T103.setTop (mkF m 195 #[.val (.int i0), .val (.int i1), .val (.int i2), .val (.int i3), .val (.int i4), .val (.int i5), .val (.int (0 : Int32)), .val (.int (1 : Int32)), .val (.ref bv_52), .val (.ref b53), .val (.ref b57), .val (.ref b63), .val (.long ((i0.toInt64) + (i2.toInt64))), .second, .val (.long ((0 : Int64) + (i3.toInt64))), .second] [(.int (1 : Int32))]))
          refine Go.st (fun t k => XS.goto X103.here hx rfl (pc0 := 195) (pc' := 199) rfl (hb hby at_195) (by decide) (by decide) k) ?_
          show Go p e below _ (T103.setTop (mkF m 199 #[.val (.int i0), .val (.int i1), .val (.int i2), .val (.int i3), .val (.int i4), .val (.int i5), .val (.int (0 : Int32)), .val (.int (1 : Int32)), .val (.ref bv_52), .val (.ref b53), .val (.ref b57), .val (.ref b63), .val (.long ((i0.toInt64) + (i2.toInt64))), .second, .val (.long ((0 : Int64) + (i3.toInt64))), .second] [(.int (1 : Int32))]))
          obtain ⟨fs, hr, hrun, hended, hWd, hsame⟩ := X103.leave (v := some (.int (1 : Int32))) (fun h => by rw [Bd.returns] at h; cases h)
          refine ⟨_, _, ?_, hrun, hended, _, _, rfl, ?_, ⟨⟨_, rfl⟩, hWd, hsame.mono (by decide) (by decide)⟩⟩
          · exact retN X103 hx (t := .boolean) Bd.returns (by simp) (hb hby at_199) hr
          · exact ⟨rfl, N103⟩
        · obtain ⟨cq104, kq104, q104a, q104b, q104c⟩ := isOf hZ rfl ((r84_6.keep K88c).keep K101c)
          obtain ⟨_, _, ⟨T104, L104, k104, n104⟩, -, X104, ⟨Lc104, hQ104, l104, y104, z104⟩, st104⟩ := X101.virtualBack hx (y := (⟨"java/math/BigDecimal", "equals", "(Ljava/lang/Object;)Z"⟩ : MethodName)) (z := (⟨"java/math/BigDecimal", "equals", "(Ljava/lang/Object;)Z"⟩ : MethodName)) hown (mvT hZ (w89 hw)) (mvT hZ (w90 hw)) (notFace_of_selects (args := #[]) (mvT hZ (w92 hw))) (mvT hZ (w92 hw)) (mvT hZ (w91 hw)) (by decide) (backOf (W := 0) (rm16_4 l Z a0 hw [] bv_1_2_1_7_15_84 bv_101 ((0 : Int64) + (i3.toInt64)) ((0 : Int64) + (i3.toInt64)) T101.heap n0 O101 r101_0 ((r84_6.keep K88c).keep K101c) hc102 ((r84_7.keep K88c nin0).keep K101c nin0) r101_1 ((r84_8.keep K88c nin0).keep K101c nin0) r101_2 hp76 hp76 (rfl : ((0 : Int64) + (i3.toInt64)) = ((0 : Int64) + (i3.toInt64)))) hZ (w93 hw) (w2 hw) (by decide) (by decide)) q104a q104c (g := (mkF m 188 #[.val (.int i0), .val (.int i1), .val (.int i2), .val (.int i3), .val (.int i4), .val (.int i5), .val (.int (0 : Int32)), .val (.int (1 : Int32)), .val (.ref bv_52), .val (.ref b53), .val (.ref b57), .val (.ref b63), .val (.long ((i0.toInt64) + (i2.toInt64))), .second, .val (.long ((0 : Int64) + (i3.toInt64))), .second] [(.ref bv_101), (.ref bv_1_2_1_7_15_84)])) rfl (by rw [hml]; rfl) (Steps.refl _) (argsL := [(.ref bv_101)]) (rest := []) (lenOf pd_12 rfl) rfl (by show 2 * 0 + _ ≤ _; exact Nat.le_of_eq rfl) (hb hby at_188) (fun vm₁ hw₁ => ⟨rfl, rfl, (by decide : 12 + 0 ≤ _), (by decide : 56 + 0 ≤ _)⟩)
          dsimp only [Pt.U, Pt.locs, Pt.cells, Pt.slots] at X104 l104 y104 z104 st104 hQ104
          subst l104 y104 z104
          obtain ⟨rfl, M104, eh104⟩ := hQ104
          have N104 := Fr.app N101 M104
          refine Go.tr st104 ?_
          show Go p e below _ (T104.setTop (mkF m 191 #[.val (.int i0), .val (.int i1), .val (.int i2), .val (.int i3), .val (.int i4), .val (.int i5), .val (.int (0 : Int32)), .val (.int (1 : Int32)), .val (.ref bv_52), .val (.ref b53), .val (.ref b57), .val (.ref b63), .val (.long ((i0.toInt64) + (i2.toInt64))), .second, .val (.long ((0 : Int64) + (i3.toInt64))), .second] [(.int (1 : Int32))]))
          refine Go.st (fun t k => XS.ifNo X104.here hx rfl (hb hby at_191) rfl (Jvm.Free.XT.i0_eq_f (by decide : ¬ ((1 : Int32) = (0 : Int32)))) k) ?_
          show Go p e below _ (T104.setTop (mkF m 194 #[.val (.int i0), .val (.int i1), .val (.int i2), .val (.int i3), .val (.int i4), .val (.int i5), .val (.int (0 : Int32)), .val (.int (1 : Int32)), .val (.ref bv_52), .val (.ref b53), .val (.ref b57), .val (.ref b63), .val (.long ((i0.toInt64) + (i2.toInt64))), .second, .val (.long ((0 : Int64) + (i3.toInt64))), .second] []))
          refine Go.st (fun t k => XS.iconst X104.here hx rfl (hb hby at_194) k) ?_
          show Go p e below _ (T104.setTop (mkF m 195 #[.val (.int i0), .val (.int i1), .val (.int i2), .val (.int i3), .val (.int i4), .val (.int i5), .val (.int (0 : Int32)), .val (.int (1 : Int32)), .val (.ref bv_52), .val (.ref b53), .val (.ref b57), .val (.ref b63), .val (.long ((i0.toInt64) + (i2.toInt64))), .second, .val (.long ((0 : Int64) + (i3.toInt64))), .second] [(.int (1 : Int32))]))
          refine Go.st (fun t k => XS.goto X104.here hx rfl (pc0 := 195) (pc' := 199) rfl (hb hby at_195) (by decide) (by decide) k) ?_
          show Go p e below _ (T104.setTop (mkF m 199 #[.val (.int i0), .val (.int i1), .val (.int i2), .val (.int i3), .val (.int i4), .val (.int i5), .val (.int (0 : Int32)), .val (.int (1 : Int32)), .val (.ref bv_52), .val (.ref b53), .val (.ref b57), .val (.ref b63), .val (.long ((i0.toInt64) + (i2.toInt64))), .second, .val (.long ((0 : Int64) + (i3.toInt64))), .second] [(.int (1 : Int32))]))
          obtain ⟨fs, hr, hrun, hended, hWd, hsame⟩ := X104.leave (v := some (.int (1 : Int32))) (fun h => by rw [Bd.returns] at h; cases h)
          refine ⟨_, _, ?_, hrun, hended, _, _, rfl, ?_, ⟨⟨_, rfl⟩, hWd, hsame.mono (by decide) (by decide)⟩⟩
          · exact retN X104 hx (t := .boolean) Bd.returns (by simp) (hb hby at_199) hr
          · exact ⟨rfl, N104⟩
  · refine Go.st (fun t k => XS.ifNo X0.here hx rfl (hb hby at_4) rfl (Jvm.Free.XT.i0_eq_f hc1) k) ?_
    show Go p e below _ (s₁.setTop (mkF m 7 #[.val (.int i0), .val (.int i1), .val (.int i2), .val (.int i3), .val (.int i4), .val (.int i5), .unset, .unset, .unset, .unset, .unset, .unset, .unset, .unset, .unset, .unset] []))
    refine Go.st (fun t k => XS.iconst X0.here hx rfl (hb hby at_7) k) ?_
    show Go p e below _ (s₁.setTop (mkF m 8 #[.val (.int i0), .val (.int i1), .val (.int i2), .val (.int i3), .val (.int i4), .val (.int i5), .unset, .unset, .unset, .unset, .unset, .unset, .unset, .unset, .unset, .unset] [(.int (1 : Int32))]))
    refine Go.st (fun t k => XS.goto X0.here hx rfl (pc0 := 8) (pc' := 12) rfl (hb hby at_8) (by decide) (by decide) k) ?_
    show Go p e below _ (s₁.setTop (mkF m 12 #[.val (.int i0), .val (.int i1), .val (.int i2), .val (.int i3), .val (.int i4), .val (.int i5), .unset, .unset, .unset, .unset, .unset, .unset, .unset, .unset, .unset, .unset] [(.int (1 : Int32))]))
    refine Go.st (fun t k => XS.istore X0.here hx rfl (hb hby at_12) rfl (l' := #[.val (.int i0), .val (.int i1), .val (.int i2), .val (.int i3), .val (.int i4), .val (.int i5), .val (.int (1 : Int32)), .unset, .unset, .unset, .unset, .unset, .unset, .unset, .unset, .unset]) rfl k) ?_
    show Go p e below _ (s₁.setTop (mkF m 14 #[.val (.int i0), .val (.int i1), .val (.int i2), .val (.int i3), .val (.int i4), .val (.int i5), .val (.int (1 : Int32)), .unset, .unset, .unset, .unset, .unset, .unset, .unset, .unset, .unset] []))
    refine Go.st (fun t k => XS.iload X0.here hx rfl (hb hby at_14) rfl k) ?_
    show Go p e below _ (s₁.setTop (mkF m 16 #[.val (.int i0), .val (.int i1), .val (.int i2), .val (.int i3), .val (.int i4), .val (.int i5), .val (.int (1 : Int32)), .unset, .unset, .unset, .unset, .unset, .unset, .unset, .unset, .unset] [(.int i5)]))
    refine Go.st (fun t k => XS.iconst X0.here hx rfl (hb hby at_16) k) ?_
    show Go p e below _ (s₁.setTop (mkF m 17 #[.val (.int i0), .val (.int i1), .val (.int i2), .val (.int i3), .val (.int i4), .val (.int i5), .val (.int (1 : Int32)), .unset, .unset, .unset, .unset, .unset, .unset, .unset, .unset, .unset] [(.int (2 : Int32)), (.int i5)]))
    refine Go.st (fun t k => XS.iand X0.here hx rfl (hb hby at_17) rfl k) ?_
    show Go p e below _ (s₁.setTop (mkF m 18 #[.val (.int i0), .val (.int i1), .val (.int i2), .val (.int i3), .val (.int i4), .val (.int i5), .val (.int (1 : Int32)), .unset, .unset, .unset, .unset, .unset, .unset, .unset, .unset, .unset] [(.int (i5 &&& (2 : Int32)))]))
    by_cases hc105 : (i5 &&& (2 : Int32)) = (0 : Int32)
    · refine Go.st (fun t k => XS.ifYes X0.here hx rfl (pc0 := 18) (pc' := 25) rfl (hb hby at_18) rfl (Jvm.Free.XT.i0_eq_t hc105) (by decide) (by decide) k) ?_
      show Go p e below _ (s₁.setTop (mkF m 25 #[.val (.int i0), .val (.int i1), .val (.int i2), .val (.int i3), .val (.int i4), .val (.int i5), .val (.int (1 : Int32)), .unset, .unset, .unset, .unset, .unset, .unset, .unset, .unset, .unset] []))
      refine Go.st (fun t k => XS.iconst X0.here hx rfl (hb hby at_25) k) ?_
      show Go p e below _ (s₁.setTop (mkF m 26 #[.val (.int i0), .val (.int i1), .val (.int i2), .val (.int i3), .val (.int i4), .val (.int i5), .val (.int (1 : Int32)), .unset, .unset, .unset, .unset, .unset, .unset, .unset, .unset, .unset] [(.int (0 : Int32))]))
      refine Go.st (fun t k => XS.istore X0.here hx rfl (hb hby at_26) rfl (l' := #[.val (.int i0), .val (.int i1), .val (.int i2), .val (.int i3), .val (.int i4), .val (.int i5), .val (.int (1 : Int32)), .val (.int (0 : Int32)), .unset, .unset, .unset, .unset, .unset, .unset, .unset, .unset]) rfl k) ?_
      show Go p e below _ (s₁.setTop (mkF m 28 #[.val (.int i0), .val (.int i1), .val (.int i2), .val (.int i3), .val (.int i4), .val (.int i5), .val (.int (1 : Int32)), .val (.int (0 : Int32)), .unset, .unset, .unset, .unset, .unset, .unset, .unset, .unset] []))
      refine Go.st (fun t k => XS.iload X0.here hx rfl (hb hby at_28) rfl k) ?_
      show Go p e below _ (s₁.setTop (mkF m 30 #[.val (.int i0), .val (.int i1), .val (.int i2), .val (.int i3), .val (.int i4), .val (.int i5), .val (.int (1 : Int32)), .val (.int (0 : Int32)), .unset, .unset, .unset, .unset, .unset, .unset, .unset, .unset] [(.int i4)]))
      refine Go.st (fun t k => XS.i2l X0.here hx rfl (hb hby at_30) rfl k) ?_
      show Go p e below _ (s₁.setTop (mkF m 31 #[.val (.int i0), .val (.int i1), .val (.int i2), .val (.int i3), .val (.int i4), .val (.int i5), .val (.int (1 : Int32)), .val (.int (0 : Int32)), .unset, .unset, .unset, .unset, .unset, .unset, .unset, .unset] [(.long (i4.toInt64))]))
      have hp106 : ¬ ((i4.toInt64) = (-9223372036854775808 : Int64)) := by
        have j1 := own_b32 i4
        have j2 := own_b64 (i4.toInt64)
        have j3 := c_i2l i4
        have j4 : ((-9223372036854775808 : Int64)).toInt = -9223372036854775808 := by decide
        rw [← Int64.toInt_inj]
        omega
      obtain ⟨_, _, ⟨T107, L107, k107, n107⟩, -, X107, ⟨Lc107, hQ107, l107, y107, z107⟩, st107⟩ := Jvm.LawKit.callS X0 hx (y := (⟨"java/math/BigDecimal", "valueOf", "(J)Ljava/math/BigDecimal;"⟩ : MethodName)) hown (mvT hZ (w0 hw)) (mvT hZ (w1 hw)) (mvT hZ (w2 hw)) (mvT hZ (w3 hw)) (by decide) (backOf (W := 0) (rmV l Z a0 hw [] (i4.toInt64) w1a k4c w6a w24a w40a w56a w68a w80a w92a w104a w116a w128a w140a h0 n0 O0 hp106 Y3 Y235 Y156 Y230 Y232 Y26 Y170 Y172 Y42 Y176 Y178 Y58 Y182 Y184 Y70 Y188 Y190 Y82 Y194 Y196 Y94 Y200 Y202 Y106 Y206 Y208 Y118 Y212 Y214 Y130 Y218 Y220 Y142 Y224 Y226) hZ (w3 hw) (w2 hw) (by decide) (by decide)) (g := (mkF m 31 #[.val (.int i0), .val (.int i1), .val (.int i2), .val (.int i3), .val (.int i4), .val (.int i5), .val (.int (1 : Int32)), .val (.int (0 : Int32)), .unset, .unset, .unset, .unset, .unset, .unset, .unset, .unset] [(.long (i4.toInt64))])) rfl (by rw [hml]; rfl) (argsL := [(.long (i4.toInt64))]) (rest := []) (lenOf pd_2 rfl) rfl (by show 2 * 0 + _ ≤ _; exact Nat.le_of_eq rfl) (hb hby at_31) (fun vm₁ hw₁ => ⟨rfl, e0, (by decide : 0 + 1 ≤ _), (by decide : 0 + 5 ≤ _)⟩)
      dsimp only [Pt.U, Pt.locs, Pt.cells, Pt.slots] at X107 l107 y107 z107 st107 hQ107
      subst l107 y107 z107
      obtain ⟨bv_107, rfl, M107, K107c, r107_0, r107_1, r107_2⟩ := hQ107
      have N107 := Fr.app N0 M107
      have O107 : Old Z n0 T107.heap := O0.keep K107c all0
      refine Go.st st107 ?_
      show Go p e below _ (T107.setTop (mkF m 34 #[.val (.int i0), .val (.int i1), .val (.int i2), .val (.int i3), .val (.int i4), .val (.int i5), .val (.int (1 : Int32)), .val (.int (0 : Int32)), .unset, .unset, .unset, .unset, .unset, .unset, .unset, .unset] [(.ref bv_107)]))
      refine Go.st (fun t k => XS.astore X107.here hx rfl (hb hby at_34) rfl rfl (l' := #[.val (.int i0), .val (.int i1), .val (.int i2), .val (.int i3), .val (.int i4), .val (.int i5), .val (.int (1 : Int32)), .val (.int (0 : Int32)), .val (.ref bv_107), .unset, .unset, .unset, .unset, .unset, .unset, .unset]) rfl k) ?_
      show Go p e below _ (T107.setTop (mkF m 36 #[.val (.int i0), .val (.int i1), .val (.int i2), .val (.int i3), .val (.int i4), .val (.int i5), .val (.int (1 : Int32)), .val (.int (0 : Int32)), .val (.ref bv_107), .unset, .unset, .unset, .unset, .unset, .unset, .unset] []))
      obtain ⟨T108, h108, X108, e108, E108, A108, D108, -, st108⟩ := newO X107 hx hZ hown (w5 hw) (w6 hw) (w7 hw) rfl (g := (mkF m 36 #[.val (.int i0), .val (.int i1), .val (.int i2), .val (.int i3), .val (.int i4), .val (.int i5), .val (.int (1 : Int32)), .val (.int (0 : Int32)), .val (.ref bv_107), .unset, .unset, .unset, .unset, .unset, .unset, .unset] [])) rfl (hb hby at_36) (by decide) (by decide)
      obtain ⟨b108, z108⟩ : ∃ z, z = T107.heap.size := ⟨_, rfl⟩
      rw [← z108] at A108 D108 st108
      have g_b108 : n0 ≤ b108 := Nat.le_trans (own_n0 O107) (Nat.le_of_eq z108.symm)
      have O108 : Old Z n0 h108 := O107.ext E108
      have f108_20 : Fld Z h108 b108 "com/example/cropmark/cropmark/Weights" "edibleLb" "Ljava/math/BigDecimal;" .null := D108 (Or.inr (w20 hw)) (ty := (.object "java/math/BigDecimal")) (by decide)
      have f108_22 : Fld Z h108 b108 "com/example/cropmark/cropmark/Weights" "inedibleLb" "Ljava/math/BigDecimal;" .null := D108 (Or.inr (w22 hw)) (ty := (.object "java/math/BigDecimal")) (by decide)
      have f108_24 : Fld Z h108 b108 "com/example/cropmark/cropmark/Weights" "factor" "Ljava/math/BigDecimal;" .null := D108 (Or.inr (w24 hw)) (ty := (.object "java/math/BigDecimal")) (by decide)
      have f108_26 : Fld Z h108 b108 "com/example/cropmark/cropmark/Weights" "assessedLb" "Ljava/math/BigDecimal;" .null := D108 (Or.inr (w26 hw)) (ty := (.object "java/math/BigDecimal")) (by decide)
      refine Go.st st108 ?_
      show Go p e below _ (T108.setTop (mkF m 39 #[.val (.int i0), .val (.int i1), .val (.int i2), .val (.int i3), .val (.int i4), .val (.int i5), .val (.int (1 : Int32)), .val (.int (0 : Int32)), .val (.ref bv_107), .unset, .unset, .unset, .unset, .unset, .unset, .unset] [(.ref b108)]))
      refine Go.st (fun t k => XS.dup X108.here hx rfl (hb hby at_39) rfl rfl k) ?_
      show Go p e below _ (T108.setTop (mkF m 40 #[.val (.int i0), .val (.int i1), .val (.int i2), .val (.int i3), .val (.int i4), .val (.int i5), .val (.int (1 : Int32)), .val (.int (0 : Int32)), .val (.ref bv_107), .unset, .unset, .unset, .unset, .unset, .unset, .unset] [(.ref b108), (.ref b108)]))
      refine Go.st (fun t k => XS.aload X108.here hx rfl (hb hby at_40) rfl rfl k) ?_
      show Go p e below _ (T108.setTop (mkF m 42 #[.val (.int i0), .val (.int i1), .val (.int i2), .val (.int i3), .val (.int i4), .val (.int i5), .val (.int (1 : Int32)), .val (.int (0 : Int32)), .val (.ref bv_107), .unset, .unset, .unset, .unset, .unset, .unset, .unset] [(.ref bv_107), (.ref b108), (.ref b108)]))
      refine Go.st (fun t k => XS.iload X108.here hx rfl (hb hby at_42) rfl k) ?_
      show Go p e below _ (T108.setTop (mkF m 44 #[.val (.int i0), .val (.int i1), .val (.int i2), .val (.int i3), .val (.int i4), .val (.int i5), .val (.int (1 : Int32)), .val (.int (0 : Int32)), .val (.ref bv_107), .unset, .unset, .unset, .unset, .unset, .unset, .unset] [(.int (1 : Int32)), (.ref bv_107), (.ref b108), (.ref b108)]))
      refine Go.st (fun t k => XS.ifNo X108.here hx rfl (hb hby at_44) rfl (Jvm.Free.XT.i0_eq_f (by decide : ¬ ((1 : Int32) = (0 : Int32)))) k) ?_
      show Go p e below _ (T108.setTop (mkF m 47 #[.val (.int i0), .val (.int i1), .val (.int i2), .val (.int i3), .val (.int i4), .val (.int i5), .val (.int (1 : Int32)), .val (.int (0 : Int32)), .val (.ref bv_107), .unset, .unset, .unset, .unset, .unset, .unset, .unset] [(.ref bv_107), (.ref b108), (.ref b108)]))
      refine Go.st (fun t k => XS.iloadN X108.here hx rfl (hb hby at_47) rfl k) ?_
      show Go p e below _ (T108.setTop (mkF m 48 #[.val (.int i0), .val (.int i1), .val (.int i2), .val (.int i3), .val (.int i4), .val (.int i5), .val (.int (1 : Int32)), .val (.int (0 : Int32)), .val (.ref bv_107), .unset, .unset, .unset, .unset, .unset, .unset, .unset] [(.int i1), (.ref bv_107), (.ref b108), (.ref b108)]))
      refine Go.st (fun t k => XS.i2l X108.here hx rfl (hb hby at_48) rfl k) ?_
      show Go p e below _ (T108.setTop (mkF m 49 #[.val (.int i0), .val (.int i1), .val (.int i2), .val (.int i3), .val (.int i4), .val (.int i5), .val (.int (1 : Int32)), .val (.int (0 : Int32)), .val (.ref bv_107), .unset, .unset, .unset, .unset, .unset, .unset, .unset] [(.long (i1.toInt64)), (.ref bv_107), (.ref b108), (.ref b108)]))
      have hp109 : ¬ ((i1.toInt64) = (-9223372036854775808 : Int64)) := by
        have j1 := own_b32 i1
        have j2 := own_b64 (i1.toInt64)
        have j3 := c_i2l i1
        have j4 : ((-9223372036854775808 : Int64)).toInt = -9223372036854775808 := by decide
        rw [← Int64.toInt_inj]
        omega
      obtain ⟨_, _, ⟨T110, L110, k110, n110⟩, -, X110, ⟨Lc110, hQ110, l110, y110, z110⟩, st110⟩ := Jvm.LawKit.callS X108 hx (y := (⟨"java/math/BigDecimal", "valueOf", "(J)Ljava/math/BigDecimal;"⟩ : MethodName)) hown (mvT hZ (w0 hw)) (mvT hZ (w1 hw)) (mvT hZ (w2 hw)) (mvT hZ (w3 hw)) (by decide) (backOf (W := 3) (rmV l Z a0 hw [] (i1.toInt64) w1a k4c w6a w24a w40a w56a w68a w80a w92a w104a w116a w128a w140a h108 n0 O108 hp109 Y3 Y235 Y156 Y230 Y232 Y26 Y170 Y172 Y42 Y176 Y178 Y58 Y182 Y184 Y70 Y188 Y190 Y82 Y194 Y196 Y94 Y200 Y202 Y106 Y206 Y208 Y118 Y212 Y214 Y130 Y218 Y220 Y142 Y224 Y226) hZ (w3 hw) (w2 hw) (by decide) (by decide)) (g := (mkF m 49 #[.val (.int i0), .val (.int i1), .val (.int i2), .val (.int i3), .val (.int i4), .val (.int i5), .val (.int (1 : Int32)), .val (.int (0 : Int32)), .val (.ref bv_107), .unset, .unset, .unset, .unset, .unset, .unset, .unset] [(.long (i1.toInt64)), (.ref bv_107), (.ref b108), (.ref b108)])) rfl (by rw [hml]; rfl) (argsL := [(.long (i1.toInt64))]) (rest := [(.ref bv_107), (.ref b108), (.ref b108)]) (lenOf pd_2 rfl) rfl (by show 2 * 0 + _ ≤ _; exact Nat.le_of_eq rfl) (hb hby at_49) (fun vm₁ hw₁ => ⟨rfl, e108, (by decide : 2 + 1 ≤ _), (by decide : 9 + 5 ≤ _)⟩)
      dsimp only [Pt.U, Pt.locs, Pt.cells, Pt.slots] at X110 l110 y110 z110 st110 hQ110
      subst l110 y110 z110
      obtain ⟨bv_110, rfl, M110, K110c, r110_0, r110_1, r110_2⟩ := hQ110
      have N110 := Fr.app N107 M110
      have O110 : Old Z n0 T110.heap := O108.keep K110c all0
      refine Go.st st110 ?_
      show Go p e below _ (T110.setTop (mkF m 52 #[.val (.int i0), .val (.int i1), .val (.int i2), .val (.int i3), .val (.int i4), .val (.int i5), .val (.int (1 : Int32)), .val (.int (0 : Int32)), .val (.ref bv_107), .unset, .unset, .unset, .unset, .unset, .unset, .unset] [(.ref bv_110), (.ref bv_107), (.ref b108), (.ref b108)]))
      refine Go.st (fun t k => XS.goto X110.here hx rfl (pc0 := 52) (pc' := 56) rfl (hb hby at_52) (by decide) (by decide) k) ?_
      show Go p e below _ (T110.setTop (mkF m 56 #[.val (.int i0), .val (.int i1), .val (.int i2), .val (.int i3), .val (.int i4), .val (.int i5), .val (.int (1 : Int32)), .val (.int (0 : Int32)), .val (.ref bv_107), .unset, .unset, .unset, .unset, .unset, .unset, .unset] [(.ref bv_110), (.ref bv_107), (.ref b108), (.ref b108)]))
      refine Go.st (fun t k => XS.aconstNull X110.here hx rfl (hb hby at_56) k) ?_
      show Go p e below _ (T110.setTop (mkF m 57 #[.val (.int i0), .val (.int i1), .val (.int i2), .val (.int i3), .val (.int i4), .val (.int i5), .val (.int (1 : Int32)), .val (.int (0 : Int32)), .val (.ref bv_107), .unset, .unset, .unset, .unset, .unset, .unset, .unset] [.null, (.ref bv_110), (.ref bv_107), (.ref b108), (.ref b108)]))
      refine Go.st (fun t k => XS.iloadN X110.here hx rfl (hb hby at_57) rfl k) ?_
      show Go p e below _ (T110.setTop (mkF m 58 #[.val (.int i0), .val (.int i1), .val (.int i2), .val (.int i3), .val (.int i4), .val (.int i5), .val (.int (1 : Int32)), .val (.int (0 : Int32)), .val (.ref bv_107), .unset, .unset, .unset, .unset, .unset, .unset, .unset] [(.int i0), .null, (.ref bv_110), (.ref bv_107), (.ref b108), (.ref b108)]))
      refine Go.st (fun t k => XS.i2l X110.here hx rfl (hb hby at_58) rfl k) ?_
      show Go p e below _ (T110.setTop (mkF m 59 #[.val (.int i0), .val (.int i1), .val (.int i2), .val (.int i3), .val (.int i4), .val (.int i5), .val (.int (1 : Int32)), .val (.int (0 : Int32)), .val (.ref bv_107), .unset, .unset, .unset, .unset, .unset, .unset, .unset] [(.long (i0.toInt64)), .null, (.ref bv_110), (.ref bv_107), (.ref b108), (.ref b108)]))
      have hp111 : ¬ ((i0.toInt64) = (-9223372036854775808 : Int64)) := by
        have j1 := own_b32 i0
        have j2 := own_b64 (i0.toInt64)
        have j3 := c_i2l i0
        have j4 : ((-9223372036854775808 : Int64)).toInt = -9223372036854775808 := by decide
        rw [← Int64.toInt_inj]
        omega
      obtain ⟨_, _, ⟨T112, L112, k112, n112⟩, -, X112, ⟨Lc112, hQ112, l112, y112, z112⟩, st112⟩ := Jvm.LawKit.callS X110 hx (y := (⟨"java/math/BigDecimal", "valueOf", "(J)Ljava/math/BigDecimal;"⟩ : MethodName)) hown (mvT hZ (w0 hw)) (mvT hZ (w1 hw)) (mvT hZ (w2 hw)) (mvT hZ (w3 hw)) (by decide) (backOf (W := 5) (rmV l Z a0 hw [] (i0.toInt64) w1a k4c w6a w24a w40a w56a w68a w80a w92a w104a w116a w128a w140a T110.heap n0 O110 hp111 Y3 Y235 Y156 Y230 Y232 Y26 Y170 Y172 Y42 Y176 Y178 Y58 Y182 Y184 Y70 Y188 Y190 Y82 Y194 Y196 Y94 Y200 Y202 Y106 Y206 Y208 Y118 Y212 Y214 Y130 Y218 Y220 Y142 Y224 Y226) hZ (w3 hw) (w2 hw) (by decide) (by decide)) (g := (mkF m 59 #[.val (.int i0), .val (.int i1), .val (.int i2), .val (.int i3), .val (.int i4), .val (.int i5), .val (.int (1 : Int32)), .val (.int (0 : Int32)), .val (.ref bv_107), .unset, .unset, .unset, .unset, .unset, .unset, .unset] [(.long (i0.toInt64)), .null, (.ref bv_110), (.ref bv_107), (.ref b108), (.ref b108)])) rfl (by rw [hml]; rfl) (argsL := [(.long (i0.toInt64))]) (rest := [.null, (.ref bv_110), (.ref bv_107), (.ref b108), (.ref b108)]) (lenOf pd_2 rfl) rfl (by show 2 * 0 + _ ≤ _; exact Nat.le_of_eq rfl) (hb hby at_59) (fun vm₁ hw₁ => ⟨rfl, rfl, (by decide : 3 + 1 ≤ _), (by decide : 14 + 5 ≤ _)⟩)
      dsimp only [Pt.U, Pt.locs, Pt.cells, Pt.slots] at X112 l112 y112 z112 st112 hQ112
      subst l112 y112 z112
      obtain ⟨bv_112, rfl, M112, K112c, r112_0, r112_1, r112_2⟩ := hQ112
      have N112 := Fr.app N110 M112
      have O112 : Old Z n0 T112.heap := O110.keep K112c all0
      refine Go.st st112 ?_
      show Go p e below _ (T112.setTop (mkF m 62 #[.val (.int i0), .val (.int i1), .val (.int i2), .val (.int i3), .val (.int i4), .val (.int i5), .val (.int (1 : Int32)), .val (.int (0 : Int32)), .val (.ref bv_107), .unset, .unset, .unset, .unset, .unset, .unset, .unset] [(.ref bv_112), .null, (.ref bv_110), (.ref bv_107), (.ref b108), (.ref b108)]))
      have c113 := ((f108_20.keep K110c nin0).keep K112c nin0)
      have c114 := ((f108_22.keep K110c nin0).keep K112c nin0)
      have c115 := ((f108_24.keep K110c nin0).keep K112c nin0)
      have c116 := ((f108_26.keep K110c nin0).keep K112c nin0)
      obtain ⟨_, _, ⟨T117, L117, k117, n117⟩, -, X117, ⟨Lc117, hQ117, l117, y117, z117⟩, st117⟩ := X112.specialBack hx (y := (⟨"com/example/cropmark/cropmark/Weights", "<init>", "(Ljava/math/BigDecimal;Ljava/math/BigDecimal;Ljava/math/BigDecimal;Ljava/math/BigDecimal;)V"⟩ : MethodName)) rfl hown (mvT hZ (w8 hw)) (mvT hZ (w9 hw)) (mvT hZ (w10 hw)) (by decide) (backOf (W := 1) (rm2_2 l Z a0 hw [] b108 bv_107 bv_110 bv_112 T112.heap n0 O112 ((A108.keep K110c).keep K112c) c113 g_b108 c114 c115 c116) hZ (w10 hw) (w7 hw) (by decide) (by decide)) (g := (mkF m 62 #[.val (.int i0), .val (.int i1), .val (.int i2), .val (.int i3), .val (.int i4), .val (.int i5), .val (.int (1 : Int32)), .val (.int (0 : Int32)), .val (.ref bv_107), .unset, .unset, .unset, .unset, .unset, .unset, .unset] [(.ref bv_112), .null, (.ref bv_110), (.ref bv_107), (.ref b108), (.ref b108)])) rfl (by rw [hml]; rfl) (Steps.refl _) (a := b108) (argsL := [(.ref bv_107), (.ref bv_110), .null, (.ref bv_112)]) (rest := [(.ref b108)]) (lenOf pd_3 rfl) rfl (by show 2 * 0 + _ ≤ _; exact Nat.le_of_eq rfl) (hb hby at_62) (fun vm₁ hw₁ => ⟨rfl, rfl, (by decide : 4 + 0 ≤ _), (by decide : 19 + 0 ≤ _)⟩)
      dsimp only [Pt.U, Pt.locs, Pt.cells, Pt.slots] at X117 l117 y117 z117 st117 hQ117
      subst l117 y117 z117
      obtain ⟨rfl, M117, K117c, r117_0, r117_1, r117_2, r117_3⟩ := hQ117
      have N117 := Fr.app N112 M117
      have O117 : Old Z n0 T117.heap := O112.keep K117c (allS g_b108 all0)
      refine Go.tr st117 ?_
      show Go p e below _ (T117.setTop (mkF m 65 #[.val (.int i0), .val (.int i1), .val (.int i2), .val (.int i3), .val (.int i4), .val (.int i5), .val (.int (1 : Int32)), .val (.int (0 : Int32)), .val (.ref bv_107), .unset, .unset, .unset, .unset, .unset, .unset, .unset] [(.ref b108)]))
      refine Go.st (fun t k => XS.astore X117.here hx rfl (hb hby at_65) rfl rfl (l' := #[.val (.int i0), .val (.int i1), .val (.int i2), .val (.int i3), .val (.int i4), .val (.int i5), .val (.int (1 : Int32)), .val (.int (0 : Int32)), .val (.ref bv_107), .val (.ref b108), .unset, .unset, .unset, .unset, .unset, .unset]) rfl k) ?_
      show Go p e below _ (T117.setTop (mkF m 67 #[.val (.int i0), .val (.int i1), .val (.int i2), .val (.int i3), .val (.int i4), .val (.int i5), .val (.int (1 : Int32)), .val (.int (0 : Int32)), .val (.ref bv_107), .val (.ref b108), .unset, .unset, .unset, .unset, .unset, .unset] []))
      obtain ⟨T118, h118, X118, e118, E118, A118, D118, -, st118⟩ := newO X117 hx hZ hown (w5 hw) (w6 hw) (w7 hw) rfl (g := (mkF m 67 #[.val (.int i0), .val (.int i1), .val (.int i2), .val (.int i3), .val (.int i4), .val (.int i5), .val (.int (1 : Int32)), .val (.int (0 : Int32)), .val (.ref bv_107), .val (.ref b108), .unset, .unset, .unset, .unset, .unset, .unset] [])) rfl (hb hby at_67) (by decide) (by decide)
      obtain ⟨b118, z118⟩ : ∃ z, z = T117.heap.size := ⟨_, rfl⟩
      rw [← z118] at A118 D118 st118
      have g_b118 : n0 ≤ b118 := Nat.le_trans (own_n0 O117) (Nat.le_of_eq z118.symm)
      have O118 : Old Z n0 h118 := O117.ext E118
      have f118_20 : Fld Z h118 b118 "com/example/cropmark/cropmark/Weights" "edibleLb" "Ljava/math/BigDecimal;" .null := D118 (Or.inr (w20 hw)) (ty := (.object "java/math/BigDecimal")) (by decide)
      have f118_22 : Fld Z h118 b118 "com/example/cropmark/cropmark/Weights" "inedibleLb" "Ljava/math/BigDecimal;" .null := D118 (Or.inr (w22 hw)) (ty := (.object "java/math/BigDecimal")) (by decide)
      have f118_24 : Fld Z h118 b118 "com/example/cropmark/cropmark/Weights" "factor" "Ljava/math/BigDecimal;" .null := D118 (Or.inr (w24 hw)) (ty := (.object "java/math/BigDecimal")) (by decide)
      have f118_26 : Fld Z h118 b118 "com/example/cropmark/cropmark/Weights" "assessedLb" "Ljava/math/BigDecimal;" .null := D118 (Or.inr (w26 hw)) (ty := (.object "java/math/BigDecimal")) (by decide)
      refine Go.st st118 ?_
      show Go p e below _ (T118.setTop (mkF m 70 #[.val (.int i0), .val (.int i1), .val (.int i2), .val (.int i3), .val (.int i4), .val (.int i5), .val (.int (1 : Int32)), .val (.int (0 : Int32)), .val (.ref bv_107), .val (.ref b108), .unset, .unset, .unset, .unset, .unset, .unset] [(.ref b118)]))
      refine Go.st (fun t k => XS.dup X118.here hx rfl (hb hby at_70) rfl rfl k) ?_
      show Go p e below _ (T118.setTop (mkF m 71 #[.val (.int i0), .val (.int i1), .val (.int i2), .val (.int i3), .val (.int i4), .val (.int i5), .val (.int (1 : Int32)), .val (.int (0 : Int32)), .val (.ref bv_107), .val (.ref b108), .unset, .unset, .unset, .unset, .unset, .unset] [(.ref b118), (.ref b118)]))
      refine Go.st (fun t k => XS.aload X118.here hx rfl (hb hby at_71) rfl rfl k) ?_
      show Go p e below _ (T118.setTop (mkF m 73 #[.val (.int i0), .val (.int i1), .val (.int i2), .val (.int i3), .val (.int i4), .val (.int i5), .val (.int (1 : Int32)), .val (.int (0 : Int32)), .val (.ref bv_107), .val (.ref b108), .unset, .unset, .unset, .unset, .unset, .unset] [(.ref bv_107), (.ref b118), (.ref b118)]))
      refine Go.st (fun t k => XS.iload X118.here hx rfl (hb hby at_73) rfl k) ?_
      show Go p e below _ (T118.setTop (mkF m 75 #[.val (.int i0), .val (.int i1), .val (.int i2), .val (.int i3), .val (.int i4), .val (.int i5), .val (.int (1 : Int32)), .val (.int (0 : Int32)), .val (.ref bv_107), .val (.ref b108), .unset, .unset, .unset, .unset, .unset, .unset] [(.int (0 : Int32)), (.ref bv_107), (.ref b118), (.ref b118)]))
      refine Go.st (fun t k => XS.ifYes X118.here hx rfl (pc0 := 75) (pc' := 86) rfl (hb hby at_75) rfl (Jvm.Free.XT.i0_eq_t (by decide : (0 : Int32) = (0 : Int32))) (by decide) (by decide) k) ?_
      show Go p e below _ (T118.setTop (mkF m 86 #[.val (.int i0), .val (.int i1), .val (.int i2), .val (.int i3), .val (.int i4), .val (.int i5), .val (.int (1 : Int32)), .val (.int (0 : Int32)), .val (.ref bv_107), .val (.ref b108), .unset, .unset, .unset, .unset, .unset, .unset] [(.ref bv_107), (.ref b118), (.ref b118)]))
      refine Go.st (fun t k => XS.aconstNull X118.here hx rfl (hb hby at_86) k) ?_
      show Go p e below _ (T118.setTop (mkF m 87 #[.val (.int i0), .val (.int i1), .val (.int i2), .val (.int i3), .val (.int i4), .val (.int i5), .val (.int (1 : Int32)), .val (.int (0 : Int32)), .val (.ref bv_107), .val (.ref b108), .unset, .unset, .unset, .unset, .unset, .unset] [.null, (.ref bv_107), (.ref b118), (.ref b118)]))
      refine Go.st (fun t k => XS.aconstNull X118.here hx rfl (hb hby at_87) k) ?_
      show Go p e below _ (T118.setTop (mkF m 88 #[.val (.int i0), .val (.int i1), .val (.int i2), .val (.int i3), .val (.int i4), .val (.int i5), .val (.int (1 : Int32)), .val (.int (0 : Int32)), .val (.ref bv_107), .val (.ref b108), .unset, .unset, .unset, .unset, .unset, .unset] [.null, .null, (.ref bv_107), (.ref b118), (.ref b118)]))
      refine Go.st (fun t k => XS.iloadN X118.here hx rfl (hb hby at_88) rfl k) ?_
      show Go p e below _ (T118.setTop (mkF m 89 #[.val (.int i0), .val (.int i1), .val (.int i2), .val (.int i3), .val (.int i4), .val (.int i5), .val (.int (1 : Int32)), .val (.int (0 : Int32)), .val (.ref bv_107), .val (.ref b108), .unset, .unset, .unset, .unset, .unset, .unset] [(.int i2), .null, .null, (.ref bv_107), (.ref b118), (.ref b118)]))
      refine Go.st (fun t k => XS.i2l X118.here hx rfl (hb hby at_89) rfl k) ?_
      show Go p e below _ (T118.setTop (mkF m 90 #[.val (.int i0), .val (.int i1), .val (.int i2), .val (.int i3), .val (.int i4), .val (.int i5), .val (.int (1 : Int32)), .val (.int (0 : Int32)), .val (.ref bv_107), .val (.ref b108), .unset, .unset, .unset, .unset, .unset, .unset] [(.long (i2.toInt64)), .null, .null, (.ref bv_107), (.ref b118), (.ref b118)]))
      have hp119 : ¬ ((i2.toInt64) = (-9223372036854775808 : Int64)) := by
        have j1 := own_b32 i2
        have j2 := own_b64 (i2.toInt64)
        have j3 := c_i2l i2
        have j4 : ((-9223372036854775808 : Int64)).toInt = -9223372036854775808 := by decide
        rw [← Int64.toInt_inj]
        omega
      obtain ⟨_, _, ⟨T120, L120, k120, n120⟩, -, X120, ⟨Lc120, hQ120, l120, y120, z120⟩, st120⟩ := Jvm.LawKit.callS X118 hx (y := (⟨"java/math/BigDecimal", "valueOf", "(J)Ljava/math/BigDecimal;"⟩ : MethodName)) hown (mvT hZ (w0 hw)) (mvT hZ (w1 hw)) (mvT hZ (w2 hw)) (mvT hZ (w3 hw)) (by decide) (backOf (W := 5) (rmV l Z a0 hw [] (i2.toInt64) w1a k4c w6a w24a w40a w56a w68a w80a w92a w104a w116a w128a w140a h118 n0 O118 hp119 Y3 Y235 Y156 Y230 Y232 Y26 Y170 Y172 Y42 Y176 Y178 Y58 Y182 Y184 Y70 Y188 Y190 Y82 Y194 Y196 Y94 Y200 Y202 Y106 Y206 Y208 Y118 Y212 Y214 Y130 Y218 Y220 Y142 Y224 Y226) hZ (w3 hw) (w2 hw) (by decide) (by decide)) (g := (mkF m 90 #[.val (.int i0), .val (.int i1), .val (.int i2), .val (.int i3), .val (.int i4), .val (.int i5), .val (.int (1 : Int32)), .val (.int (0 : Int32)), .val (.ref bv_107), .val (.ref b108), .unset, .unset, .unset, .unset, .unset, .unset] [(.long (i2.toInt64)), .null, .null, (.ref bv_107), (.ref b118), (.ref b118)])) rfl (by rw [hml]; rfl) (argsL := [(.long (i2.toInt64))]) (rest := [.null, .null, (.ref bv_107), (.ref b118), (.ref b118)]) (lenOf pd_2 rfl) rfl (by show 2 * 0 + _ ≤ _; exact Nat.le_of_eq rfl) (hb hby at_90) (fun vm₁ hw₁ => ⟨rfl, e118, (by decide : 5 + 1 ≤ _), (by decide : 23 + 5 ≤ _)⟩)
      dsimp only [Pt.U, Pt.locs, Pt.cells, Pt.slots] at X120 l120 y120 z120 st120 hQ120
      subst l120 y120 z120
      obtain ⟨bv_120, rfl, M120, K120c, r120_0, r120_1, r120_2⟩ := hQ120
      have N120 := Fr.app N117 M120
      have O120 : Old Z n0 T120.heap := O118.keep K120c all0
      refine Go.st st120 ?_
      show Go p e below _ (T120.setTop (mkF m 93 #[.val (.int i0), .val (.int i1), .val (.int i2), .val (.int i3), .val (.int i4), .val (.int i5), .val (.int (1 : Int32)), .val (.int (0 : Int32)), .val (.ref bv_107), .val (.ref b108), .unset, .unset, .unset, .unset, .unset, .unset] [(.ref bv_120), .null, .null, (.ref bv_107), (.ref b118), (.ref b118)]))
      obtain ⟨_, _, ⟨T121, L121, k121, n121⟩, -, X121, ⟨Lc121, hQ121, l121, y121, z121⟩, st121⟩ := X120.specialBack hx (y := (⟨"com/example/cropmark/cropmark/Weights", "<init>", "(Ljava/math/BigDecimal;Ljava/math/BigDecimal;Ljava/math/BigDecimal;Ljava/math/BigDecimal;)V"⟩ : MethodName)) rfl hown (mvT hZ (w8 hw)) (mvT hZ (w9 hw)) (mvT hZ (w10 hw)) (by decide) (backOf (W := 1) (rm2_1 l Z a0 hw [] b118 bv_107 bv_120 T120.heap n0 O120 (A118.keep K120c) (f118_20.keep K120c nin0) g_b118 (f118_22.keep K120c nin0) (f118_24.keep K120c nin0) (f118_26.keep K120c nin0)) hZ (w10 hw) (w7 hw) (by decide) (by decide)) (g := (mkF m 93 #[.val (.int i0), .val (.int i1), .val (.int i2), .val (.int i3), .val (.int i4), .val (.int i5), .val (.int (1 : Int32)), .val (.int (0 : Int32)), .val (.ref bv_107), .val (.ref b108), .unset, .unset, .unset, .unset, .unset, .unset] [(.ref bv_120), .null, .null, (.ref bv_107), (.ref b118), (.ref b118)])) rfl (by rw [hml]; rfl) (Steps.refl _) (a := b118) (argsL := [(.ref bv_107), .null, .null, (.ref bv_120)]) (rest := [(.ref b118)]) (lenOf pd_3 rfl) rfl (by show 2 * 0 + _ ≤ _; exact Nat.le_of_eq rfl) (hb hby at_93) (fun vm₁ hw₁ => ⟨rfl, rfl, (by decide : 6 + 0 ≤ _), (by decide : 28 + 0 ≤ _)⟩)
      dsimp only [Pt.U, Pt.locs, Pt.cells, Pt.slots] at X121 l121 y121 z121 st121 hQ121
      subst l121 y121 z121
      obtain ⟨rfl, M121, K121c, r121_0, r121_1, r121_2, r121_3⟩ := hQ121
      have N121 := Fr.app N120 M121
      have O121 : Old Z n0 T121.heap := O120.keep K121c (allS g_b118 all0)
      refine Go.tr st121 ?_
      show Go p e below _ (T121.setTop (mkF m 96 #[.val (.int i0), .val (.int i1), .val (.int i2), .val (.int i3), .val (.int i4), .val (.int i5), .val (.int (1 : Int32)), .val (.int (0 : Int32)), .val (.ref bv_107), .val (.ref b108), .unset, .unset, .unset, .unset, .unset, .unset] [(.ref b118)]))
      refine Go.st (fun t k => XS.astore X121.here hx rfl (hb hby at_96) rfl rfl (l' := #[.val (.int i0), .val (.int i1), .val (.int i2), .val (.int i3), .val (.int i4), .val (.int i5), .val (.int (1 : Int32)), .val (.int (0 : Int32)), .val (.ref bv_107), .val (.ref b108), .val (.ref b118), .unset, .unset, .unset, .unset, .unset]) rfl k) ?_
      show Go p e below _ (T121.setTop (mkF m 98 #[.val (.int i0), .val (.int i1), .val (.int i2), .val (.int i3), .val (.int i4), .val (.int i5), .val (.int (1 : Int32)), .val (.int (0 : Int32)), .val (.ref bv_107), .val (.ref b108), .val (.ref b118), .unset, .unset, .unset, .unset, .unset] []))
      obtain ⟨T122, h122, X122, e122, E122, A122, D122, -, st122⟩ := newO X121 hx hZ hown (w27 hw) (w28 hw) (w29 hw) rfl (g := (mkF m 98 #[.val (.int i0), .val (.int i1), .val (.int i2), .val (.int i3), .val (.int i4), .val (.int i5), .val (.int (1 : Int32)), .val (.int (0 : Int32)), .val (.ref bv_107), .val (.ref b108), .val (.ref b118), .unset, .unset, .unset, .unset, .unset] [])) rfl (hb hby at_98) (by decide) (by decide)
      obtain ⟨b122, z122⟩ : ∃ z, z = T121.heap.size := ⟨_, rfl⟩
      rw [← z122] at A122 D122 st122
      have g_b122 : n0 ≤ b122 := Nat.le_trans (own_n0 O121) (Nat.le_of_eq z122.symm)
      have O122 : Old Z n0 h122 := O121.ext E122
      have f122_36 : Fld Z h122 b122 "com/example/cropmark/cropmark/Assessment$Sums" "assessedLb" "Ljava/math/BigDecimal;" .null := D122 (Or.inl (w36 hw)) (ty := (.object "java/math/BigDecimal")) (by decide)
      have f122_38 : Fld Z h122 b122 "com/example/cropmark/cropmark/Assessment$Sums" "inedibleLb" "Ljava/math/BigDecimal;" .null := D122 (Or.inl (w38 hw)) (ty := (.object "java/math/BigDecimal")) (by decide)
      have f122_45 : Fld Z h122 b122 "com/example/cropmark/cropmark/Assessment$Sums" "lots" "I" (.int (0 : Int32)) := D122 (Or.inl (w45 hw)) (ty := .int) (by decide)
      refine Go.st st122 ?_
      show Go p e below _ (T122.setTop (mkF m 101 #[.val (.int i0), .val (.int i1), .val (.int i2), .val (.int i3), .val (.int i4), .val (.int i5), .val (.int (1 : Int32)), .val (.int (0 : Int32)), .val (.ref bv_107), .val (.ref b108), .val (.ref b118), .unset, .unset, .unset, .unset, .unset] [(.ref b122)]))
      refine Go.st (fun t k => XS.dup X122.here hx rfl (hb hby at_101) rfl rfl k) ?_
      show Go p e below _ (T122.setTop (mkF m 102 #[.val (.int i0), .val (.int i1), .val (.int i2), .val (.int i3), .val (.int i4), .val (.int i5), .val (.int (1 : Int32)), .val (.int (0 : Int32)), .val (.ref bv_107), .val (.ref b108), .val (.ref b118), .unset, .unset, .unset, .unset, .unset] [(.ref b122), (.ref b122)]))
      obtain ⟨_, _, ⟨T123, L123, k123, n123⟩, -, X123, ⟨Lc123, hQ123, l123, y123, z123⟩, st123⟩ := X122.specialBack hx (y := (⟨"com/example/cropmark/cropmark/Assessment$Sums", "<init>", "()V"⟩ : MethodName)) rfl hown (mvT hZ (w30 hw)) (mvT hZ (w31 hw)) (mvT hZ (w32 hw)) (by decide) (backOf (W := 1) (rm5_1 l Z a0 hw [] b122 w6a h122 n0 O122 Y10 A122 f122_36 g_b122 f122_38 f122_45) hZ (w32 hw) (w29 hw) (by decide) (by decide)) (g := (mkF m 102 #[.val (.int i0), .val (.int i1), .val (.int i2), .val (.int i3), .val (.int i4), .val (.int i5), .val (.int (1 : Int32)), .val (.int (0 : Int32)), .val (.ref bv_107), .val (.ref b108), .val (.ref b118), .unset, .unset, .unset, .unset, .unset] [(.ref b122), (.ref b122)])) rfl (by rw [hml]; rfl) (Steps.refl _) (a := b122) (argsL := []) (rest := [(.ref b122)]) (lenOf pd_0 rfl) rfl (by show 2 * 0 + _ ≤ _; exact Nat.le_of_eq rfl) (hb hby at_102) (fun vm₁ hw₁ => ⟨rfl, e122, (by decide : 7 + 0 ≤ _), (by decide : 31 + 0 ≤ _)⟩)
      dsimp only [Pt.U, Pt.locs, Pt.cells, Pt.slots] at X123 l123 y123 z123 st123 hQ123
      subst l123 y123 z123
      obtain ⟨rfl, M123, K123c, r123_0, r123_1, r123_2⟩ := hQ123
      have N123 := Fr.app N121 M123
      have O123 : Old Z n0 T123.heap := O122.keep K123c (allS g_b122 all0)
      refine Go.tr st123 ?_
      show Go p e below _ (T123.setTop (mkF m 105 #[.val (.int i0), .val (.int i1), .val (.int i2), .val (.int i3), .val (.int i4), .val (.int i5), .val (.int (1 : Int32)), .val (.int (0 : Int32)), .val (.ref bv_107), .val (.ref b108), .val (.ref b118), .unset, .unset, .unset, .unset, .unset] [(.ref b122)]))
      refine Go.st (fun t k => XS.astore X123.here hx rfl (hb hby at_105) rfl rfl (l' := #[.val (.int i0), .val (.int i1), .val (.int i2), .val (.int i3), .val (.int i4), .val (.int i5), .val (.int (1 : Int32)), .val (.int (0 : Int32)), .val (.ref bv_107), .val (.ref b108), .val (.ref b118), .val (.ref b122), .unset, .unset, .unset, .unset]) rfl k) ?_
      show Go p e below _ (T123.setTop (mkF m 107 #[.val (.int i0), .val (.int i1), .val (.int i2), .val (.int i3), .val (.int i4), .val (.int i5), .val (.int (1 : Int32)), .val (.int (0 : Int32)), .val (.ref bv_107), .val (.ref b108), .val (.ref b118), .val (.ref b122), .unset, .unset, .unset, .unset] []))
      refine Go.st (fun t k => XS.aload X123.here hx rfl (hb hby at_107) rfl rfl k) ?_
      show Go p e below _ (T123.setTop (mkF m 109 #[.val (.int i0), .val (.int i1), .val (.int i2), .val (.int i3), .val (.int i4), .val (.int i5), .val (.int (1 : Int32)), .val (.int (0 : Int32)), .val (.ref bv_107), .val (.ref b108), .val (.ref b118), .val (.ref b122), .unset, .unset, .unset, .unset] [(.ref b122)]))
      refine Go.st (fun t k => XS.aload X123.here hx rfl (hb hby at_109) rfl rfl k) ?_
      show Go p e below _ (T123.setTop (mkF m 111 #[.val (.int i0), .val (.int i1), .val (.int i2), .val (.int i3), .val (.int i4), .val (.int i5), .val (.int (1 : Int32)), .val (.int (0 : Int32)), .val (.ref bv_107), .val (.ref b108), .val (.ref b118), .val (.ref b122), .unset, .unset, .unset, .unset] [(.ref b108), (.ref b122)]))
      have hp124 : ¬ (((((0 : Int64) + (i0.toInt64)) ^^^ (0 : Int64)) &&& (((0 : Int64) + (i0.toInt64)) ^^^ (i0.toInt64))) < (0 : Int64)) := by
        have j1 : ((0 : Int64)).toInt = 0 := by decide
        have j2 := own_b32 i0
        have j3 := own_b64 (i0.toInt64)
        have j4 := c_i2l i0
        have jf : Jvm.Free.XT.fits64 ((0 : Int64).toInt + (i0.toInt64).toInt) := by
          unfold Jvm.Free.XT.fits64; omega
        exact own_addOk64 jf
      have hp125 : ¬ (((0 : Int64) + (i0.toInt64)) = (-9223372036854775808 : Int64)) := by
        have j1 : ((0 : Int64)).toInt = 0 := by decide
        have j2 := own_b32 i0
        have j3 := own_b64 (i0.toInt64)
        have j4 := c_i2l i0
        have j5 := own_b64 ((0 : Int64) + (i0.toInt64))
        have j6 := c_ladd (0 : Int64) (i0.toInt64)
        have j7 : ((-9223372036854775808 : Int64)).toInt = -9223372036854775808 := by decide
        rw [← Int64.toInt_inj]
        omega
      have hp126 : ¬ (((((0 : Int64) + (i1.toInt64)) ^^^ (0 : Int64)) &&& (((0 : Int64) + (i1.toInt64)) ^^^ (i1.toInt64))) < (0 : Int64)) := by
        have j1 : ((0 : Int64)).toInt = 0 := by decide
        have j2 := own_b32 i1
        have j3 := own_b64 (i1.toInt64)
        have j4 := c_i2l i1
        have jf : Jvm.Free.XT.fits64 ((0 : Int64).toInt + (i1.toInt64).toInt) := by
          unfold Jvm.Free.XT.fits64; omega
        exact own_addOk64 jf
      have hp127 : ¬ (((0 : Int64) + (i1.toInt64)) = (-9223372036854775808 : Int64)) := by
        have j1 : ((0 : Int64)).toInt = 0 := by decide
        have j2 := own_b32 i1
        have j3 := own_b64 (i1.toInt64)
        have j4 := c_i2l i1
        have j5 := own_b64 ((0 : Int64) + (i1.toInt64))
        have j6 := c_ladd (0 : Int64) (i1.toInt64)
        have j7 : ((-9223372036854775808 : Int64)).toInt = -9223372036854775808 := by decide
        rw [← Int64.toInt_inj]
        omega
      have c128 := ((((((((A108.keep K110c).keep K112c).keep K117c).ext E118).keep K120c).keep K121c).ext E122).keep K123c)
      have c129 := (((((r117_3.ext E118).keep K120c nin0).keep K121c (ninS (Nat.ne_of_lt (Nat.lt_of_lt_of_le (Nat.lt_of_lt_of_le (Nat.lt_of_lt_of_le (Nat.lt_of_lt_of_le A108.lt K110c.1) K112c.1) K117c.1) (Nat.le_of_eq z118.symm))) nin0)).ext E122).keep K123c (ninS (Nat.ne_of_lt (Nat.lt_of_lt_of_le (Nat.lt_of_lt_of_le (Nat.lt_of_lt_of_le (Nat.lt_of_lt_of_le (Nat.lt_of_lt_of_le (Nat.lt_of_lt_of_le (Nat.lt_of_lt_of_le A108.lt K110c.1) K112c.1) K117c.1) E118.1) K120c.1) K121c.1) (Nat.le_of_eq z122.symm))) nin0))
      have c130 := ((((((r112_2.keep K117c (ninS (ne_exa ((((((r112_0.keep K117c).ext E118).keep K120c).keep K121c).ext E122).keep K123c) c128 (by decide)) nin0)).ext E118).keep K120c nin0).keep K121c (ninS (Nat.ne_of_lt (Nat.lt_of_lt_of_le (Nat.lt_of_lt_of_le r112_0.lt K117c.1) (Nat.le_of_eq z118.symm))) nin0)).ext E122).keep K123c (ninS (Nat.ne_of_lt (Nat.lt_of_lt_of_le (Nat.lt_of_lt_of_le (Nat.lt_of_lt_of_le (Nat.lt_of_lt_of_le (Nat.lt_of_lt_of_le r112_0.lt K117c.1) E118.1) K120c.1) K121c.1) (Nat.le_of_eq z122.symm))) nin0))
      have c131 := ((((((r112_1.keep K117c (ninS (ne_exa ((((((r112_0.keep K117c).ext E118).keep K120c).keep K121c).ext E122).keep K123c) c128 (by decide)) nin0)).ext E118).keep K120c nin0).keep K121c (ninS (Nat.ne_of_lt (Nat.lt_of_lt_of_le (Nat.lt_of_lt_of_le r112_0.lt K117c.1) (Nat.le_of_eq z118.symm))) nin0)).ext E122).keep K123c (ninS (Nat.ne_of_lt (Nat.lt_of_lt_of_le (Nat.lt_of_lt_of_le (Nat.lt_of_lt_of_le (Nat.lt_of_lt_of_le (Nat.lt_of_lt_of_le r112_0.lt K117c.1) E118.1) K120c.1) K121c.1) (Nat.le_of_eq z122.symm))) nin0))
      have c132 := (((((r117_1.ext E118).keep K120c nin0).keep K121c (ninS (Nat.ne_of_lt (Nat.lt_of_lt_of_le (Nat.lt_of_lt_of_le (Nat.lt_of_lt_of_le (Nat.lt_of_lt_of_le A108.lt K110c.1) K112c.1) K117c.1) (Nat.le_of_eq z118.symm))) nin0)).ext E122).keep K123c (ninS (Nat.ne_of_lt (Nat.lt_of_lt_of_le (Nat.lt_of_lt_of_le (Nat.lt_of_lt_of_le (Nat.lt_of_lt_of_le (Nat.lt_of_lt_of_le (Nat.lt_of_lt_of_le (Nat.lt_of_lt_of_le A108.lt K110c.1) K112c.1) K117c.1) E118.1) K120c.1) K121c.1) (Nat.le_of_eq z122.symm))) nin0))
      have c133 := (((((((r110_2.keep K112c nin0).keep K117c (ninS (ne_exa (((((((r110_0.keep K112c).keep K117c).ext E118).keep K120c).keep K121c).ext E122).keep K123c) c128 (by decide)) nin0)).ext E118).keep K120c nin0).keep K121c (ninS (Nat.ne_of_lt (Nat.lt_of_lt_of_le (Nat.lt_of_lt_of_le (Nat.lt_of_lt_of_le r110_0.lt K112c.1) K117c.1) (Nat.le_of_eq z118.symm))) nin0)).ext E122).keep K123c (ninS (Nat.ne_of_lt (Nat.lt_of_lt_of_le (Nat.lt_of_lt_of_le (Nat.lt_of_lt_of_le (Nat.lt_of_lt_of_le (Nat.lt_of_lt_of_le (Nat.lt_of_lt_of_le r110_0.lt K112c.1) K117c.1) E118.1) K120c.1) K121c.1) (Nat.le_of_eq z122.symm))) nin0))
      have c134 := (((((((r110_1.keep K112c nin0).keep K117c (ninS (ne_exa (((((((r110_0.keep K112c).keep K117c).ext E118).keep K120c).keep K121c).ext E122).keep K123c) c128 (by decide)) nin0)).ext E118).keep K120c nin0).keep K121c (ninS (Nat.ne_of_lt (Nat.lt_of_lt_of_le (Nat.lt_of_lt_of_le (Nat.lt_of_lt_of_le r110_0.lt K112c.1) K117c.1) (Nat.le_of_eq z118.symm))) nin0)).ext E122).keep K123c (ninS (Nat.ne_of_lt (Nat.lt_of_lt_of_le (Nat.lt_of_lt_of_le (Nat.lt_of_lt_of_le (Nat.lt_of_lt_of_le (Nat.lt_of_lt_of_le (Nat.lt_of_lt_of_le r110_0.lt K112c.1) K117c.1) E118.1) K120c.1) K121c.1) (Nat.le_of_eq z122.symm))) nin0))
      obtain ⟨cq135, kq135, q135a, q135b, q135c⟩ := isOf hZ rfl (A122.keep K123c)
      obtain ⟨_, _, ⟨T135, L135, k135, n135⟩, -, X135, ⟨Lc135, hQ135, l135, y135, z135⟩, st135⟩ := X123.virtualBack hx (y := (⟨"com/example/cropmark/cropmark/Assessment$Sums", "add", "(Lcom/example/cropmark/cropmark/Weights;)V"⟩ : MethodName)) (z := (⟨"com/example/cropmark/cropmark/Assessment$Sums", "add", "(Lcom/example/cropmark/cropmark/Weights;)V"⟩ : MethodName)) hown (mvT hZ (w39 hw)) (mvT hZ (w40 hw)) (notFace_of_selects (args := #[]) (mvT hZ (w42 hw))) (mvT hZ (w42 hw)) (mvT hZ (w41 hw)) (by decide) (backOf (W := 0) (rm6_4 l Z a0 hw [] b122 b108 w6a bv_112 (i0.toInt64) w1a k4c w24a w40a w56a w68a w80a w92a w104a w116a w128a w140a bv_110 (i1.toInt64) T123.heap n0 O123 r123_2 (A122.keep K123c) g_b122 r123_0 c128 c129 (Nat.ne_of_lt (Nat.lt_of_lt_of_le (Nat.lt_of_lt_of_le (Nat.lt_of_lt_of_le (Nat.lt_of_lt_of_le (Nat.lt_of_lt_of_le (Nat.lt_of_lt_of_le (Nat.lt_of_lt_of_le A108.lt K110c.1) K112c.1) K117c.1) E118.1) K120c.1) K121c.1) (Nat.le_of_eq z122.symm))) Y156 Y232 c130 hp111 Y230 c131 hp124 hp125 Y3 Y235 Y26 Y170 Y172 Y42 Y176 Y178 Y58 Y182 Y184 Y70 Y188 Y190 Y82 Y194 Y196 Y94 Y200 Y202 Y106 Y206 Y208 Y118 Y212 Y214 Y130 Y218 Y220 Y142 Y224 Y226 (Nat.ne_of_lt (Nat.lt_of_lt_of_le (Nat.lt_of_lt_of_le (Nat.lt_of_lt_of_le (Nat.lt_of_lt_of_le (Nat.lt_of_lt_of_le r112_0.lt K117c.1) E118.1) K120c.1) K121c.1) (Nat.le_of_eq z122.symm))) c132 r123_1 c133 hp109 c134 hp126 hp127 (Nat.ne_of_lt (Nat.lt_of_lt_of_le (Nat.lt_of_lt_of_le (Nat.lt_of_lt_of_le (Nat.lt_of_lt_of_le (Nat.lt_of_lt_of_le (Nat.lt_of_lt_of_le r110_0.lt K112c.1) K117c.1) E118.1) K120c.1) K121c.1) (Nat.le_of_eq z122.symm)))) hZ (w43 hw) (w29 hw) (by decide) (by decide)) q135a q135c (g := (mkF m 111 #[.val (.int i0), .val (.int i1), .val (.int i2), .val (.int i3), .val (.int i4), .val (.int i5), .val (.int (1 : Int32)), .val (.int (0 : Int32)), .val (.ref bv_107), .val (.ref b108), .val (.ref b118), .val (.ref b122), .unset, .unset, .unset, .unset] [(.ref b108), (.ref b122)])) rfl (by rw [hml]; rfl) (Steps.refl _) (argsL := [(.ref b108)]) (rest := []) (lenOf pd_10 rfl) rfl (by show 2 * 0 + _ ≤ _; exact Nat.le_of_eq rfl) (hb hby at_111) (fun vm₁ hw₁ => ⟨rfl, rfl, (by decide : 7 + 2 ≤ _), (by decide : 31 + 10 ≤ _)⟩)
      dsimp only [Pt.U, Pt.locs, Pt.cells, Pt.slots] at X135 l135 y135 z135 st135 hQ135
      subst l135 y135 z135
      obtain ⟨bv_1_2_1_7_6_135, bv_1_2_1_7_15_135, rfl, M135, K135c, r135_0, r135_1, r135_2, r135_3, r135_4, r135_5, r135_6, r135_7, r135_8⟩ := hQ135
      have N135 := Fr.app N123 M135
      have O135 : Old Z n0 T135.heap := O123.keep K135c (allS g_b122 all0)
      refine Go.tr st135 ?_
      show Go p e below _ (T135.setTop (mkF m 114 #[.val (.int i0), .val (.int i1), .val (.int i2), .val (.int i3), .val (.int i4), .val (.int i5), .val (.int (1 : Int32)), .val (.int (0 : Int32)), .val (.ref bv_107), .val (.ref b108), .val (.ref b118), .val (.ref b122), .unset, .unset, .unset, .unset] []))
      refine Go.st (fun t k => XS.aload X135.here hx rfl (hb hby at_114) rfl rfl k) ?_
      show Go p e below _ (T135.setTop (mkF m 116 #[.val (.int i0), .val (.int i1), .val (.int i2), .val (.int i3), .val (.int i4), .val (.int i5), .val (.int (1 : Int32)), .val (.int (0 : Int32)), .val (.ref bv_107), .val (.ref b108), .val (.ref b118), .val (.ref b122), .unset, .unset, .unset, .unset] [(.ref b122)]))
      refine Go.st (fun t k => XS.aload X135.here hx rfl (hb hby at_116) rfl rfl k) ?_
      show Go p e below _ (T135.setTop (mkF m 118 #[.val (.int i0), .val (.int i1), .val (.int i2), .val (.int i3), .val (.int i4), .val (.int i5), .val (.int (1 : Int32)), .val (.int (0 : Int32)), .val (.ref bv_107), .val (.ref b108), .val (.ref b118), .val (.ref b122), .unset, .unset, .unset, .unset] [(.ref b118), (.ref b122)]))
      have hp136 : ¬ ((((((0 : Int64) + (i0.toInt64)) + (i2.toInt64)) ^^^ ((0 : Int64) + (i0.toInt64))) &&& ((((0 : Int64) + (i0.toInt64)) + (i2.toInt64)) ^^^ (i2.toInt64))) < (0 : Int64)) := by
        have j1 : ((0 : Int64)).toInt = 0 := by decide
        have j2 := own_b32 i0
        have j3 := own_b64 (i0.toInt64)
        have j4 := c_i2l i0
        have j5 := own_b64 ((0 : Int64) + (i0.toInt64))
        have j6 := c_ladd (0 : Int64) (i0.toInt64)
        have j7 := own_b32 i2
        have j8 := own_b64 (i2.toInt64)
        have j9 := c_i2l i2
        have jf : Jvm.Free.XT.fits64 (((0 : Int64) + (i0.toInt64)).toInt + (i2.toInt64).toInt) := by
          unfold Jvm.Free.XT.fits64; omega
        exact own_addOk64 jf
      have hp137 : ¬ ((((0 : Int64) + (i0.toInt64)) + (i2.toInt64)) = (-9223372036854775808 : Int64)) := by
        have j1 : ((0 : Int64)).toInt = 0 := by decide
        have j2 := own_b32 i0
        have j3 := own_b64 (i0.toInt64)
        have j4 := c_i2l i0
        have j5 := own_b64 ((0 : Int64) + (i0.toInt64))
        have j6 := c_ladd (0 : Int64) (i0.toInt64)
        have j7 := own_b32 i2
        have j8 := own_b64 (i2.toInt64)
        have j9 := c_i2l i2
        have j10 := own_b64 (((0 : Int64) + (i0.toInt64)) + (i2.toInt64))
        have j11 := c_ladd ((0 : Int64) + (i0.toInt64)) (i2.toInt64)
        have j12 : ((-9223372036854775808 : Int64)).toInt = -9223372036854775808 := by decide
        rw [← Int64.toInt_inj]
        omega
      have c138 := (((((A118.keep K120c).keep K121c).ext E122).keep K123c).keep K135c)
      have c139 := (((r121_3.ext E122).keep K123c (ninS (Nat.ne_of_lt (Nat.lt_of_lt_of_le (Nat.lt_of_lt_of_le (Nat.lt_of_lt_of_le A118.lt K120c.1) K121c.1) (Nat.le_of_eq z122.symm))) nin0)).keep K135c (ninS (Nat.ne_of_lt (Nat.lt_of_lt_of_le (Nat.lt_of_lt_of_le (Nat.lt_of_lt_of_le A118.lt K120c.1) K121c.1) (Nat.le_of_eq z122.symm))) nin0))
      have c140 := ((((r120_2.keep K121c (ninS (ne_exa ((((r120_0.keep K121c).ext E122).keep K123c).keep K135c) c138 (by decide)) nin0)).ext E122).keep K123c (ninS (Nat.ne_of_lt (Nat.lt_of_lt_of_le (Nat.lt_of_lt_of_le r120_0.lt K121c.1) (Nat.le_of_eq z122.symm))) nin0)).keep K135c (ninS (Nat.ne_of_lt (Nat.lt_of_lt_of_le (Nat.lt_of_lt_of_le r120_0.lt K121c.1) (Nat.le_of_eq z122.symm))) nin0))
      have c141 := ((((r120_1.keep K121c (ninS (ne_exa ((((r120_0.keep K121c).ext E122).keep K123c).keep K135c) c138 (by decide)) nin0)).ext E122).keep K123c (ninS (Nat.ne_of_lt (Nat.lt_of_lt_of_le (Nat.lt_of_lt_of_le r120_0.lt K121c.1) (Nat.le_of_eq z122.symm))) nin0)).keep K135c (ninS (Nat.ne_of_lt (Nat.lt_of_lt_of_le (Nat.lt_of_lt_of_le r120_0.lt K121c.1) (Nat.le_of_eq z122.symm))) nin0))
      have c142 := (((r121_1.ext E122).keep K123c (ninS (Nat.ne_of_lt (Nat.lt_of_lt_of_le (Nat.lt_of_lt_of_le (Nat.lt_of_lt_of_le A118.lt K120c.1) K121c.1) (Nat.le_of_eq z122.symm))) nin0)).keep K135c (ninS (Nat.ne_of_lt (Nat.lt_of_lt_of_le (Nat.lt_of_lt_of_le (Nat.lt_of_lt_of_le A118.lt K120c.1) K121c.1) (Nat.le_of_eq z122.symm))) nin0))
      obtain ⟨cq143, kq143, q143a, q143b, q143c⟩ := isOf hZ rfl ((A122.keep K123c).keep K135c)
      obtain ⟨_, _, ⟨T143, L143, k143, n143⟩, -, X143, ⟨Lc143, hQ143, l143, y143, z143⟩, st143⟩ := X135.virtualBack hx (y := (⟨"com/example/cropmark/cropmark/Assessment$Sums", "add", "(Lcom/example/cropmark/cropmark/Weights;)V"⟩ : MethodName)) (z := (⟨"com/example/cropmark/cropmark/Assessment$Sums", "add", "(Lcom/example/cropmark/cropmark/Weights;)V"⟩ : MethodName)) hown (mvT hZ (w39 hw)) (mvT hZ (w40 hw)) (notFace_of_selects (args := #[]) (mvT hZ (w42 hw))) (mvT hZ (w42 hw)) (mvT hZ (w41 hw)) (by decide) (backOf (W := 0) (rm6_5 l Z a0 hw [] b122 b118 bv_1_2_1_7_6_135 bv_120 ((0 : Int64) + (i0.toInt64)) (i2.toInt64) w1a k4c w6a w24a w40a w56a w68a w80a w92a w104a w116a w128a w140a bv_1_2_1_7_15_135 T135.heap n0 O135 r135_0 ((A122.keep K123c).keep K135c) g_b122 r135_1 c138 c139 (Nat.ne_of_lt (Nat.lt_of_lt_of_le (Nat.lt_of_lt_of_le (Nat.lt_of_lt_of_le A118.lt K120c.1) K121c.1) (Nat.le_of_eq z122.symm))) r135_3 r135_5 hp125 c140 hp119 r135_4 c141 hp136 hp137 Y3 Y235 Y156 Y230 Y232 Y26 Y170 Y172 Y42 Y176 Y178 Y58 Y182 Y184 Y70 Y188 Y190 Y82 Y194 Y196 Y94 Y200 Y202 Y106 Y206 Y208 Y118 Y212 Y214 Y130 Y218 Y220 Y142 Y224 Y226 (ne_exa r135_3 ((A122.keep K123c).keep K135c) (by decide)) (Nat.ne_of_lt (Nat.lt_of_lt_of_le (Nat.lt_of_lt_of_le r120_0.lt K121c.1) (Nat.le_of_eq z122.symm))) c142 r135_2) hZ (w43 hw) (w29 hw) (by decide) (by decide)) q143a q143c (g := (mkF m 118 #[.val (.int i0), .val (.int i1), .val (.int i2), .val (.int i3), .val (.int i4), .val (.int i5), .val (.int (1 : Int32)), .val (.int (0 : Int32)), .val (.ref bv_107), .val (.ref b108), .val (.ref b118), .val (.ref b122), .unset, .unset, .unset, .unset] [(.ref b118), (.ref b122)])) rfl (by rw [hml]; rfl) (Steps.refl _) (argsL := [(.ref b118)]) (rest := []) (lenOf pd_10 rfl) rfl (by show 2 * 0 + _ ≤ _; exact Nat.le_of_eq rfl) (hb hby at_118) (fun vm₁ hw₁ => ⟨rfl, rfl, (by decide : 9 + 1 ≤ _), (by decide : 41 + 5 ≤ _)⟩)
      dsimp only [Pt.U, Pt.locs, Pt.cells, Pt.slots] at X143 l143 y143 z143 st143 hQ143
      subst l143 y143 z143
      obtain ⟨bv_1_2_1_7_6_143, rfl, M143, K143c, r143_0, r143_1, r143_2, r143_3, r143_4, r143_5⟩ := hQ143
      have N143 := Fr.app N135 M143
      have O143 : Old Z n0 T143.heap := O135.keep K143c (allS g_b122 all0)
      refine Go.tr st143 ?_
      show Go p e below _ (T143.setTop (mkF m 121 #[.val (.int i0), .val (.int i1), .val (.int i2), .val (.int i3), .val (.int i4), .val (.int i5), .val (.int (1 : Int32)), .val (.int (0 : Int32)), .val (.ref bv_107), .val (.ref b108), .val (.ref b118), .val (.ref b122), .unset, .unset, .unset, .unset] []))
      refine Go.st (fun t k => XS.iloadN X143.here hx rfl (hb hby at_121) rfl k) ?_
      show Go p e below _ (T143.setTop (mkF m 122 #[.val (.int i0), .val (.int i1), .val (.int i2), .val (.int i3), .val (.int i4), .val (.int i5), .val (.int (1 : Int32)), .val (.int (0 : Int32)), .val (.ref bv_107), .val (.ref b108), .val (.ref b118), .val (.ref b122), .unset, .unset, .unset, .unset] [(.int i0)]))
      refine Go.st (fun t k => XS.i2l X143.here hx rfl (hb hby at_122) rfl k) ?_
      show Go p e below _ (T143.setTop (mkF m 123 #[.val (.int i0), .val (.int i1), .val (.int i2), .val (.int i3), .val (.int i4), .val (.int i5), .val (.int (1 : Int32)), .val (.int (0 : Int32)), .val (.ref bv_107), .val (.ref b108), .val (.ref b118), .val (.ref b122), .unset, .unset, .unset, .unset] [(.long (i0.toInt64))]))
      refine Go.st (fun t k => XS.iloadN X143.here hx rfl (hb hby at_123) rfl k) ?_
      show Go p e below _ (T143.setTop (mkF m 124 #[.val (.int i0), .val (.int i1), .val (.int i2), .val (.int i3), .val (.int i4), .val (.int i5), .val (.int (1 : Int32)), .val (.int (0 : Int32)), .val (.ref bv_107), .val (.ref b108), .val (.ref b118), .val (.ref b122), .unset, .unset, .unset, .unset] [(.int i2), (.long (i0.toInt64))]))
      refine Go.st (fun t k => XS.i2l X143.here hx rfl (hb hby at_124) rfl k) ?_
      show Go p e below _ (T143.setTop (mkF m 125 #[.val (.int i0), .val (.int i1), .val (.int i2), .val (.int i3), .val (.int i4), .val (.int i5), .val (.int (1 : Int32)), .val (.int (0 : Int32)), .val (.ref bv_107), .val (.ref b108), .val (.ref b118), .val (.ref b122), .unset, .unset, .unset, .unset] [(.long (i2.toInt64)), (.long (i0.toInt64))]))
      refine Go.st (fun t k => XS.ladd X143.here hx rfl (hb hby at_125) rfl k) ?_
      show Go p e below _ (T143.setTop (mkF m 126 #[.val (.int i0), .val (.int i1), .val (.int i2), .val (.int i3), .val (.int i4), .val (.int i5), .val (.int (1 : Int32)), .val (.int (0 : Int32)), .val (.ref bv_107), .val (.ref b108), .val (.ref b118), .val (.ref b122), .unset, .unset, .unset, .unset] [(.long ((i0.toInt64) + (i2.toInt64)))]))
      refine Go.st (fun t k => XS.lstore X143.here hx rfl (hb hby at_126) rfl (l' := #[.val (.int i0), .val (.int i1), .val (.int i2), .val (.int i3), .val (.int i4), .val (.int i5), .val (.int (1 : Int32)), .val (.int (0 : Int32)), .val (.ref bv_107), .val (.ref b108), .val (.ref b118), .val (.ref b122), .val (.long ((i0.toInt64) + (i2.toInt64))), .second, .unset, .unset]) rfl k) ?_
      show Go p e below _ (T143.setTop (mkF m 128 #[.val (.int i0), .val (.int i1), .val (.int i2), .val (.int i3), .val (.int i4), .val (.int i5), .val (.int (1 : Int32)), .val (.int (0 : Int32)), .val (.ref bv_107), .val (.ref b108), .val (.ref b118), .val (.ref b122), .val (.long ((i0.toInt64) + (i2.toInt64))), .second, .unset, .unset] []))
      refine Go.st (fun t k => XS.iload X143.here hx rfl (hb hby at_128) rfl k) ?_
      show Go p e below _ (T143.setTop (mkF m 130 #[.val (.int i0), .val (.int i1), .val (.int i2), .val (.int i3), .val (.int i4), .val (.int i5), .val (.int (1 : Int32)), .val (.int (0 : Int32)), .val (.ref bv_107), .val (.ref b108), .val (.ref b118), .val (.ref b122), .val (.long ((i0.toInt64) + (i2.toInt64))), .second, .unset, .unset] [(.int (1 : Int32))]))
      refine Go.st (fun t k => XS.ifNo X143.here hx rfl (hb hby at_130) rfl (Jvm.Free.XT.i0_eq_f (by decide : ¬ ((1 : Int32) = (0 : Int32)))) k) ?_
      show Go p e below _ (T143.setTop (mkF m 133 #[.val (.int i0), .val (.int i1), .val (.int i2), .val (.int i3), .val (.int i4), .val (.int i5), .val (.int (1 : Int32)), .val (.int (0 : Int32)), .val (.ref bv_107), .val (.ref b108), .val (.ref b118), .val (.ref b122), .val (.long ((i0.toInt64) + (i2.toInt64))), .second, .unset, .unset] []))
      refine Go.st (fun t k => XS.iloadN X143.here hx rfl (hb hby at_133) rfl k) ?_
      show Go p e below _ (T143.setTop (mkF m 134 #[.val (.int i0), .val (.int i1), .val (.int i2), .val (.int i3), .val (.int i4), .val (.int i5), .val (.int (1 : Int32)), .val (.int (0 : Int32)), .val (.ref bv_107), .val (.ref b108), .val (.ref b118), .val (.ref b122), .val (.long ((i0.toInt64) + (i2.toInt64))), .second, .unset, .unset] [(.int i1)]))
      refine Go.st (fun t k => XS.i2l X143.here hx rfl (hb hby at_134) rfl k) ?_
      show Go p e below _ (T143.setTop (mkF m 135 #[.val (.int i0), .val (.int i1), .val (.int i2), .val (.int i3), .val (.int i4), .val (.int i5), .val (.int (1 : Int32)), .val (.int (0 : Int32)), .val (.ref bv_107), .val (.ref b108), .val (.ref b118), .val (.ref b122), .val (.long ((i0.toInt64) + (i2.toInt64))), .second, .unset, .unset] [(.long (i1.toInt64))]))
      refine Go.st (fun t k => XS.goto X143.here hx rfl (pc0 := 135) (pc' := 139) rfl (hb hby at_135) (by decide) (by decide) k) ?_
      show Go p e below _ (T143.setTop (mkF m 139 #[.val (.int i0), .val (.int i1), .val (.int i2), .val (.int i3), .val (.int i4), .val (.int i5), .val (.int (1 : Int32)), .val (.int (0 : Int32)), .val (.ref bv_107), .val (.ref b108), .val (.ref b118), .val (.ref b122), .val (.long ((i0.toInt64) + (i2.toInt64))), .second, .unset, .unset] [(.long (i1.toInt64))]))
      refine Go.st (fun t k => XS.iload X143.here hx rfl (hb hby at_139) rfl k) ?_
      show Go p e below _ (T143.setTop (mkF m 141 #[.val (.int i0), .val (.int i1), .val (.int i2), .val (.int i3), .val (.int i4), .val (.int i5), .val (.int (1 : Int32)), .val (.int (0 : Int32)), .val (.ref bv_107), .val (.ref b108), .val (.ref b118), .val (.ref b122), .val (.long ((i0.toInt64) + (i2.toInt64))), .second, .unset, .unset] [(.int (0 : Int32)), (.long (i1.toInt64))]))
      refine Go.st (fun t k => XS.ifYes X143.here hx rfl (pc0 := 141) (pc' := 149) rfl (hb hby at_141) rfl (Jvm.Free.XT.i0_eq_t (by decide : (0 : Int32) = (0 : Int32))) (by decide) (by decide) k) ?_
      show Go p e below _ (T143.setTop (mkF m 149 #[.val (.int i0), .val (.int i1), .val (.int i2), .val (.int i3), .val (.int i4), .val (.int i5), .val (.int (1 : Int32)), .val (.int (0 : Int32)), .val (.ref bv_107), .val (.ref b108), .val (.ref b118), .val (.ref b122), .val (.long ((i0.toInt64) + (i2.toInt64))), .second, .unset, .unset] [(.long (i1.toInt64))]))
      refine Go.st (fun t k => XS.lconst X143.here hx rfl (hb hby at_149) k) ?_
      show Go p e below _ (T143.setTop (mkF m 150 #[.val (.int i0), .val (.int i1), .val (.int i2), .val (.int i3), .val (.int i4), .val (.int i5), .val (.int (1 : Int32)), .val (.int (0 : Int32)), .val (.ref bv_107), .val (.ref b108), .val (.ref b118), .val (.ref b122), .val (.long ((i0.toInt64) + (i2.toInt64))), .second, .unset, .unset] [(.long (0 : Int64)), (.long (i1.toInt64))]))
      refine Go.st (fun t k => XS.ladd X143.here hx rfl (hb hby at_150) rfl k) ?_
      show Go p e below _ (T143.setTop (mkF m 151 #[.val (.int i0), .val (.int i1), .val (.int i2), .val (.int i3), .val (.int i4), .val (.int i5), .val (.int (1 : Int32)), .val (.int (0 : Int32)), .val (.ref bv_107), .val (.ref b108), .val (.ref b118), .val (.ref b122), .val (.long ((i0.toInt64) + (i2.toInt64))), .second, .unset, .unset] [(.long ((i1.toInt64) + (0 : Int64)))]))
      refine Go.st (fun t k => XS.lstore X143.here hx rfl (hb hby at_151) rfl (l' := #[.val (.int i0), .val (.int i1), .val (.int i2), .val (.int i3), .val (.int i4), .val (.int i5), .val (.int (1 : Int32)), .val (.int (0 : Int32)), .val (.ref bv_107), .val (.ref b108), .val (.ref b118), .val (.ref b122), .val (.long ((i0.toInt64) + (i2.toInt64))), .second, .val (.long ((i1.toInt64) + (0 : Int64))), .second]) rfl k) ?_
      show Go p e below _ (T143.setTop (mkF m 153 #[.val (.int i0), .val (.int i1), .val (.int i2), .val (.int i3), .val (.int i4), .val (.int i5), .val (.int (1 : Int32)), .val (.int (0 : Int32)), .val (.ref bv_107), .val (.ref b108), .val (.ref b118), .val (.ref b122), .val (.long ((i0.toInt64) + (i2.toInt64))), .second, .val (.long ((i1.toInt64) + (0 : Int64))), .second] []))
      refine Go.st (fun t k => XS.aload X143.here hx rfl (hb hby at_153) rfl rfl k) ?_
      show Go p e below _ (T143.setTop (mkF m 155 #[.val (.int i0), .val (.int i1), .val (.int i2), .val (.int i3), .val (.int i4), .val (.int i5), .val (.int (1 : Int32)), .val (.int (0 : Int32)), .val (.ref bv_107), .val (.ref b108), .val (.ref b118), .val (.ref b122), .val (.long ((i0.toInt64) + (i2.toInt64))), .second, .val (.long ((i1.toInt64) + (0 : Int64))), .second] [(.ref b122)]))
      have c145 := (((A122.keep K123c).keep K135c).keep K143c)
      obtain ⟨cq144, kq144, q144a, q144b, q144c⟩ := isOf hZ rfl c145
      obtain ⟨_, _, ⟨T144, L144, k144, n144⟩, -, X144, ⟨Lc144, hQ144, l144, y144, z144⟩, st144⟩ := X143.virtualBack hx (y := (⟨"com/example/cropmark/cropmark/Assessment$Sums", "lots", "()I"⟩ : MethodName)) (z := (⟨"com/example/cropmark/cropmark/Assessment$Sums", "lots", "()I"⟩ : MethodName)) hown (mvT hZ (w79 hw)) (mvT hZ (w80 hw)) (notFace_of_selects (args := #[]) (mvT hZ (w82 hw))) (mvT hZ (w82 hw)) (mvT hZ (w81 hw)) (by decide) (backOf (W := 0) (rm14_1 l Z a0 hw [] b122 T143.heap n0 O143 r143_0) hZ (w83 hw) (w29 hw) (by decide) (by decide)) q144a q144c (g := (mkF m 155 #[.val (.int i0), .val (.int i1), .val (.int i2), .val (.int i3), .val (.int i4), .val (.int i5), .val (.int (1 : Int32)), .val (.int (0 : Int32)), .val (.ref bv_107), .val (.ref b108), .val (.ref b118), .val (.ref b122), .val (.long ((i0.toInt64) + (i2.toInt64))), .second, .val (.long ((i1.toInt64) + (0 : Int64))), .second] [(.ref b122)])) rfl (by rw [hml]; rfl) (Steps.refl _) (argsL := []) (rest := []) (lenOf pd_11 rfl) rfl (by show 2 * 0 + _ ≤ _; exact Nat.le_of_eq rfl) (hb hby at_155) (fun vm₁ hw₁ => ⟨rfl, rfl, (by decide : 10 + 0 ≤ _), (by decide : 46 + 0 ≤ _)⟩)
      dsimp only [Pt.U, Pt.locs, Pt.cells, Pt.slots] at X144 l144 y144 z144 st144 hQ144
      subst l144 y144 z144
      obtain ⟨rfl, M144, eh144⟩ := hQ144
      have N144 := Fr.app N143 M144
      refine Go.tr st144 ?_
      show Go p e below _ (T144.setTop (mkF m 158 #[.val (.int i0), .val (.int i1), .val (.int i2), .val (.int i3), .val (.int i4), .val (.int i5), .val (.int (1 : Int32)), .val (.int (0 : Int32)), .val (.ref bv_107), .val (.ref b108), .val (.ref b118), .val (.ref b122), .val (.long ((i0.toInt64) + (i2.toInt64))), .second, .val (.long ((i1.toInt64) + (0 : Int64))), .second] [(.int (2 : Int32))]))
      refine Go.st (fun t k => XS.iconst X144.here hx rfl (hb hby at_158) k) ?_
      show Go p e below _ (T144.setTop (mkF m 159 #[.val (.int i0), .val (.int i1), .val (.int i2), .val (.int i3), .val (.int i4), .val (.int i5), .val (.int (1 : Int32)), .val (.int (0 : Int32)), .val (.ref bv_107), .val (.ref b108), .val (.ref b118), .val (.ref b122), .val (.long ((i0.toInt64) + (i2.toInt64))), .second, .val (.long ((i1.toInt64) + (0 : Int64))), .second] [(.int (2 : Int32)), (.int (2 : Int32))]))
      refine Go.st (fun t k => XS.icmpNo X144.here hx rfl (hb hby at_159) rfl (Jvm.Free.XT.ii_ne_f (by decide : (2 : Int32) = (2 : Int32))) k) ?_
      show Go p e below _ (T144.setTop (mkF m 162 #[.val (.int i0), .val (.int i1), .val (.int i2), .val (.int i3), .val (.int i4), .val (.int i5), .val (.int (1 : Int32)), .val (.int (0 : Int32)), .val (.ref bv_107), .val (.ref b108), .val (.ref b118), .val (.ref b122), .val (.long ((i0.toInt64) + (i2.toInt64))), .second, .val (.long ((i1.toInt64) + (0 : Int64))), .second] []))
      refine Go.st (fun t k => XS.aload X144.here hx rfl (hb hby at_162) rfl rfl k) ?_
      show Go p e below _ (T144.setTop (mkF m 164 #[.val (.int i0), .val (.int i1), .val (.int i2), .val (.int i3), .val (.int i4), .val (.int i5), .val (.int (1 : Int32)), .val (.int (0 : Int32)), .val (.ref bv_107), .val (.ref b108), .val (.ref b118), .val (.ref b122), .val (.long ((i0.toInt64) + (i2.toInt64))), .second, .val (.long ((i1.toInt64) + (0 : Int64))), .second] [(.ref b122)]))
      obtain ⟨cq146, kq146, q146a, q146b, q146c⟩ := isOf hZ eh144 c145
      obtain ⟨_, _, ⟨T146, L146, k146, n146⟩, -, X146, ⟨Lc146, hQ146, l146, y146, z146⟩, st146⟩ := X144.virtualBack hx (y := (⟨"com/example/cropmark/cropmark/Assessment$Sums", "assessedLb", "()Ljava/math/BigDecimal;"⟩ : MethodName)) (z := (⟨"com/example/cropmark/cropmark/Assessment$Sums", "assessedLb", "()Ljava/math/BigDecimal;"⟩ : MethodName)) hown (mvT hZ (w84 hw)) (mvT hZ (w85 hw)) (notFace_of_selects (args := #[]) (mvT hZ (w87 hw))) (mvT hZ (w87 hw)) (mvT hZ (w86 hw)) (by decide) (backOf (W := 0) (rm15_1 l Z a0 hw [] b122 bv_1_2_1_7_6_143 T143.heap n0 O143 r143_1) hZ (w88 hw) (w29 hw) (by decide) (by decide)) q146a q146c (g := (mkF m 164 #[.val (.int i0), .val (.int i1), .val (.int i2), .val (.int i3), .val (.int i4), .val (.int i5), .val (.int (1 : Int32)), .val (.int (0 : Int32)), .val (.ref bv_107), .val (.ref b108), .val (.ref b118), .val (.ref b122), .val (.long ((i0.toInt64) + (i2.toInt64))), .second, .val (.long ((i1.toInt64) + (0 : Int64))), .second] [(.ref b122)])) rfl (by rw [hml]; rfl) (Steps.refl _) (argsL := []) (rest := []) (lenOf pd_4 rfl) rfl (by show 2 * 0 + _ ≤ _; exact Nat.le_of_eq rfl) (hb hby at_164) (fun vm₁ hw₁ => ⟨rfl, eh144, (by decide : 10 + 0 ≤ _), (by decide : 46 + 0 ≤ _)⟩)
      dsimp only [Pt.U, Pt.locs, Pt.cells, Pt.slots] at X146 l146 y146 z146 st146 hQ146
      subst l146 y146 z146
      obtain ⟨rfl, M146, eh146⟩ := hQ146
      have N146 := Fr.app N144 M146
      refine Go.tr st146 ?_
      show Go p e below _ (T146.setTop (mkF m 167 #[.val (.int i0), .val (.int i1), .val (.int i2), .val (.int i3), .val (.int i4), .val (.int i5), .val (.int (1 : Int32)), .val (.int (0 : Int32)), .val (.ref bv_107), .val (.ref b108), .val (.ref b118), .val (.ref b122), .val (.long ((i0.toInt64) + (i2.toInt64))), .second, .val (.long ((i1.toInt64) + (0 : Int64))), .second] [(.ref bv_1_2_1_7_6_143)]))
      refine Go.st (fun t k => XS.lload X146.here hx rfl (hb hby at_167) rfl k) ?_
      show Go p e below _ (T146.setTop (mkF m 169 #[.val (.int i0), .val (.int i1), .val (.int i2), .val (.int i3), .val (.int i4), .val (.int i5), .val (.int (1 : Int32)), .val (.int (0 : Int32)), .val (.ref bv_107), .val (.ref b108), .val (.ref b118), .val (.ref b122), .val (.long ((i0.toInt64) + (i2.toInt64))), .second, .val (.long ((i1.toInt64) + (0 : Int64))), .second] [(.long ((i0.toInt64) + (i2.toInt64))), (.ref bv_1_2_1_7_6_143)]))
      have hp147 : ¬ (((i0.toInt64) + (i2.toInt64)) = (-9223372036854775808 : Int64)) := by
        have j1 := own_b32 i0
        have j2 := own_b64 (i0.toInt64)
        have j3 := c_i2l i0
        have j4 := own_b32 i2
        have j5 := own_b64 (i2.toInt64)
        have j6 := c_i2l i2
        have j7 := own_b64 ((i0.toInt64) + (i2.toInt64))
        have j8 := c_ladd (i0.toInt64) (i2.toInt64)
        have j9 : ((-9223372036854775808 : Int64)).toInt = -9223372036854775808 := by decide
        rw [← Int64.toInt_inj]
        omega
      obtain ⟨_, _, ⟨T148, L148, k148, n148⟩, -, X148, ⟨Lc148, hQ148, l148, y148, z148⟩, st148⟩ := Jvm.LawKit.callS X146 hx (y := (⟨"java/math/BigDecimal", "valueOf", "(J)Ljava/math/BigDecimal;"⟩ : MethodName)) hown (mvT hZ (w0 hw)) (mvT hZ (w1 hw)) (mvT hZ (w2 hw)) (mvT hZ (w3 hw)) (by decide) (backOf (W := 1) (rmV l Z a0 hw [] ((i0.toInt64) + (i2.toInt64)) w1a k4c w6a w24a w40a w56a w68a w80a w92a w104a w116a w128a w140a T143.heap n0 O143 hp147 Y3 Y235 Y156 Y230 Y232 Y26 Y170 Y172 Y42 Y176 Y178 Y58 Y182 Y184 Y70 Y188 Y190 Y82 Y194 Y196 Y94 Y200 Y202 Y106 Y206 Y208 Y118 Y212 Y214 Y130 Y218 Y220 Y142 Y224 Y226) hZ (w3 hw) (w2 hw) (by decide) (by decide)) (g := (mkF m 169 #[.val (.int i0), .val (.int i1), .val (.int i2), .val (.int i3), .val (.int i4), .val (.int i5), .val (.int (1 : Int32)), .val (.int (0 : Int32)), .val (.ref bv_107), .val (.ref b108), .val (.ref b118), .val (.ref b122), .val (.long ((i0.toInt64) + (i2.toInt64))), .second, .val (.long ((i1.toInt64) + (0 : Int64))), .second] [(.long ((i0.toInt64) + (i2.toInt64))), (.ref bv_1_2_1_7_6_143)])) rfl (by rw [hml]; rfl) (argsL := [(.long ((i0.toInt64) + (i2.toInt64)))]) (rest := [(.ref bv_1_2_1_7_6_143)]) (lenOf pd_2 rfl) rfl (by show 2 * 0 + _ ≤ _; exact Nat.le_of_eq rfl) (hb hby at_169) (fun vm₁ hw₁ => ⟨rfl, eh146, (by decide : 10 + 1 ≤ _), (by decide : 46 + 5 ≤ _)⟩)
      dsimp only [Pt.U, Pt.locs, Pt.cells, Pt.slots] at X148 l148 y148 z148 st148 hQ148
      subst l148 y148 z148
      obtain ⟨bv_148, rfl, M148, K148c, r148_0, r148_1, r148_2⟩ := hQ148
      have N148 := Fr.app N146 M148
      have O148 : Old Z n0 T148.heap := O143.keep K148c all0
      refine Go.st st148 ?_
      show Go p e below _ (T148.setTop (mkF m 172 #[.val (.int i0), .val (.int i1), .val (.int i2), .val (.int i3), .val (.int i4), .val (.int i5), .val (.int (1 : Int32)), .val (.int (0 : Int32)), .val (.ref bv_107), .val (.ref b108), .val (.ref b118), .val (.ref b122), .val (.long ((i0.toInt64) + (i2.toInt64))), .second, .val (.long ((i1.toInt64) + (0 : Int64))), .second] [(.ref bv_148), (.ref bv_1_2_1_7_6_143)]))
      by_cases hc149 : bv_148 = bv_1_2_1_7_6_143
      · obtain ⟨cq150, kq150, q150a, q150b, q150c⟩ := isOf hZ rfl (r143_3.keep K148c)
        obtain ⟨_, _, ⟨T150, L150, k150, n150⟩, -, X150, ⟨Lc150, hQ150, l150, y150, z150⟩, st150⟩ := X148.virtualBack hx (y := (⟨"java/math/BigDecimal", "equals", "(Ljava/lang/Object;)Z"⟩ : MethodName)) (z := (⟨"java/math/BigDecimal", "equals", "(Ljava/lang/Object;)Z"⟩ : MethodName)) hown (mvT hZ (w89 hw)) (mvT hZ (w90 hw)) (notFace_of_selects (args := #[]) (mvT hZ (w92 hw))) (mvT hZ (w92 hw)) (mvT hZ (w91 hw)) (by decide) (backOf (W := 0) (rm16_1 l Z a0 hw [] bv_1_2_1_7_6_143 bv_148 T148.heap n0 O148 r148_0 (r143_3.keep K148c) hc149) hZ (w93 hw) (w2 hw) (by decide) (by decide)) q150a q150c (g := (mkF m 172 #[.val (.int i0), .val (.int i1), .val (.int i2), .val (.int i3), .val (.int i4), .val (.int i5), .val (.int (1 : Int32)), .val (.int (0 : Int32)), .val (.ref bv_107), .val (.ref b108), .val (.ref b118), .val (.ref b122), .val (.long ((i0.toInt64) + (i2.toInt64))), .second, .val (.long ((i1.toInt64) + (0 : Int64))), .second] [(.ref bv_148), (.ref bv_1_2_1_7_6_143)])) rfl (by rw [hml]; rfl) (Steps.refl _) (argsL := [(.ref bv_148)]) (rest := []) (lenOf pd_12 rfl) rfl (by show 2 * 0 + _ ≤ _; exact Nat.le_of_eq rfl) (hb hby at_172) (fun vm₁ hw₁ => ⟨rfl, rfl, (by decide : 11 + 0 ≤ _), (by decide : 51 + 0 ≤ _)⟩)
        dsimp only [Pt.U, Pt.locs, Pt.cells, Pt.slots] at X150 l150 y150 z150 st150 hQ150
        subst l150 y150 z150
        obtain ⟨rfl, M150, eh150⟩ := hQ150
        have N150 := Fr.app N148 M150
        refine Go.tr st150 ?_
        show Go p e below _ (T150.setTop (mkF m 175 #[.val (.int i0), .val (.int i1), .val (.int i2), .val (.int i3), .val (.int i4), .val (.int i5), .val (.int (1 : Int32)), .val (.int (0 : Int32)), .val (.ref bv_107), .val (.ref b108), .val (.ref b118), .val (.ref b122), .val (.long ((i0.toInt64) + (i2.toInt64))), .second, .val (.long ((i1.toInt64) + (0 : Int64))), .second] [(.int (1 : Int32))]))
        refine Go.st (fun t k => XS.ifNo X150.here hx rfl (hb hby at_175) rfl (Jvm.Free.XT.i0_eq_f (by decide : ¬ ((1 : Int32) = (0 : Int32)))) k) ?_
        show Go p e below _ (T150.setTop (mkF m 178 #[.val (.int i0), .val (.int i1), .val (.int i2), .val (.int i3), .val (.int i4), .val (.int i5), .val (.int (1 : Int32)), .val (.int (0 : Int32)), .val (.ref bv_107), .val (.ref b108), .val (.ref b118), .val (.ref b122), .val (.long ((i0.toInt64) + (i2.toInt64))), .second, .val (.long ((i1.toInt64) + (0 : Int64))), .second] []))
        refine Go.st (fun t k => XS.aload X150.here hx rfl (hb hby at_178) rfl rfl k) ?_
        show Go p e below _ (T150.setTop (mkF m 180 #[.val (.int i0), .val (.int i1), .val (.int i2), .val (.int i3), .val (.int i4), .val (.int i5), .val (.int (1 : Int32)), .val (.int (0 : Int32)), .val (.ref bv_107), .val (.ref b108), .val (.ref b118), .val (.ref b122), .val (.long ((i0.toInt64) + (i2.toInt64))), .second, .val (.long ((i1.toInt64) + (0 : Int64))), .second] [(.ref b122)]))
        obtain ⟨cq151, kq151, q151a, q151b, q151c⟩ := isOf hZ eh150 (c145.keep K148c)
        obtain ⟨_, _, ⟨T151, L151, k151, n151⟩, -, X151, ⟨Lc151, hQ151, l151, y151, z151⟩, st151⟩ := X150.virtualBack hx (y := (⟨"com/example/cropmark/cropmark/Assessment$Sums", "inedibleLb", "()Ljava/math/BigDecimal;"⟩ : MethodName)) (z := (⟨"com/example/cropmark/cropmark/Assessment$Sums", "inedibleLb", "()Ljava/math/BigDecimal;"⟩ : MethodName)) hown (mvT hZ (w96 hw)) (mvT hZ (w97 hw)) (notFace_of_selects (args := #[]) (mvT hZ (w99 hw))) (mvT hZ (w99 hw)) (mvT hZ (w98 hw)) (by decide) (backOf (W := 0) (rm17_1 l Z a0 hw [] b122 bv_1_2_1_7_15_135 T148.heap n0 O148 (r143_2.keep K148c nin0)) hZ (w100 hw) (w29 hw) (by decide) (by decide)) q151a q151c (g := (mkF m 180 #[.val (.int i0), .val (.int i1), .val (.int i2), .val (.int i3), .val (.int i4), .val (.int i5), .val (.int (1 : Int32)), .val (.int (0 : Int32)), .val (.ref bv_107), .val (.ref b108), .val (.ref b118), .val (.ref b122), .val (.long ((i0.toInt64) + (i2.toInt64))), .second, .val (.long ((i1.toInt64) + (0 : Int64))), .second] [(.ref b122)])) rfl (by rw [hml]; rfl) (Steps.refl _) (argsL := []) (rest := []) (lenOf pd_4 rfl) rfl (by show 2 * 0 + _ ≤ _; exact Nat.le_of_eq rfl) (hb hby at_180) (fun vm₁ hw₁ => ⟨rfl, eh150, (by decide : 11 + 0 ≤ _), (by decide : 51 + 0 ≤ _)⟩)
        dsimp only [Pt.U, Pt.locs, Pt.cells, Pt.slots] at X151 l151 y151 z151 st151 hQ151
        subst l151 y151 z151
        obtain ⟨rfl, M151, eh151⟩ := hQ151
        have N151 := Fr.app N150 M151
        refine Go.tr st151 ?_
        show Go p e below _ (T151.setTop (mkF m 183 #[.val (.int i0), .val (.int i1), .val (.int i2), .val (.int i3), .val (.int i4), .val (.int i5), .val (.int (1 : Int32)), .val (.int (0 : Int32)), .val (.ref bv_107), .val (.ref b108), .val (.ref b118), .val (.ref b122), .val (.long ((i0.toInt64) + (i2.toInt64))), .second, .val (.long ((i1.toInt64) + (0 : Int64))), .second] [(.ref bv_1_2_1_7_15_135)]))
        refine Go.st (fun t k => XS.lload X151.here hx rfl (hb hby at_183) rfl k) ?_
        show Go p e below _ (T151.setTop (mkF m 185 #[.val (.int i0), .val (.int i1), .val (.int i2), .val (.int i3), .val (.int i4), .val (.int i5), .val (.int (1 : Int32)), .val (.int (0 : Int32)), .val (.ref bv_107), .val (.ref b108), .val (.ref b118), .val (.ref b122), .val (.long ((i0.toInt64) + (i2.toInt64))), .second, .val (.long ((i1.toInt64) + (0 : Int64))), .second] [(.long ((i1.toInt64) + (0 : Int64))), (.ref bv_1_2_1_7_15_135)]))
        have hp152 : ¬ (((i1.toInt64) + (0 : Int64)) = (-9223372036854775808 : Int64)) := by
          have j1 := own_b32 i1
          have j2 := own_b64 (i1.toInt64)
          have j3 := c_i2l i1
          have j4 : ((0 : Int64)).toInt = 0 := by decide
          have j5 := own_b64 ((i1.toInt64) + (0 : Int64))
          have j6 := c_ladd (i1.toInt64) (0 : Int64)
          have j7 : ((-9223372036854775808 : Int64)).toInt = -9223372036854775808 := by decide
          rw [← Int64.toInt_inj]
          omega
        obtain ⟨_, _, ⟨T153, L153, k153, n153⟩, -, X153, ⟨Lc153, hQ153, l153, y153, z153⟩, st153⟩ := Jvm.LawKit.callS X151 hx (y := (⟨"java/math/BigDecimal", "valueOf", "(J)Ljava/math/BigDecimal;"⟩ : MethodName)) hown (mvT hZ (w0 hw)) (mvT hZ (w1 hw)) (mvT hZ (w2 hw)) (mvT hZ (w3 hw)) (by decide) (backOf (W := 1) (rmV l Z a0 hw [] ((i1.toInt64) + (0 : Int64)) w1a k4c w6a w24a w40a w56a w68a w80a w92a w104a w116a w128a w140a T148.heap n0 O148 hp152 Y3 Y235 Y156 Y230 Y232 Y26 Y170 Y172 Y42 Y176 Y178 Y58 Y182 Y184 Y70 Y188 Y190 Y82 Y194 Y196 Y94 Y200 Y202 Y106 Y206 Y208 Y118 Y212 Y214 Y130 Y218 Y220 Y142 Y224 Y226) hZ (w3 hw) (w2 hw) (by decide) (by decide)) (g := (mkF m 185 #[.val (.int i0), .val (.int i1), .val (.int i2), .val (.int i3), .val (.int i4), .val (.int i5), .val (.int (1 : Int32)), .val (.int (0 : Int32)), .val (.ref bv_107), .val (.ref b108), .val (.ref b118), .val (.ref b122), .val (.long ((i0.toInt64) + (i2.toInt64))), .second, .val (.long ((i1.toInt64) + (0 : Int64))), .second] [(.long ((i1.toInt64) + (0 : Int64))), (.ref bv_1_2_1_7_15_135)])) rfl (by rw [hml]; rfl) (argsL := [(.long ((i1.toInt64) + (0 : Int64)))]) (rest := [(.ref bv_1_2_1_7_15_135)]) (lenOf pd_2 rfl) rfl (by show 2 * 0 + _ ≤ _; exact Nat.le_of_eq rfl) (hb hby at_185) (fun vm₁ hw₁ => ⟨rfl, eh151, (by decide : 11 + 1 ≤ _), (by decide : 51 + 5 ≤ _)⟩)
        dsimp only [Pt.U, Pt.locs, Pt.cells, Pt.slots] at X153 l153 y153 z153 st153 hQ153
        subst l153 y153 z153
        obtain ⟨bv_153, rfl, M153, K153c, r153_0, r153_1, r153_2⟩ := hQ153
        have N153 := Fr.app N151 M153
        have O153 : Old Z n0 T153.heap := O148.keep K153c all0
        refine Go.st st153 ?_
        show Go p e below _ (T153.setTop (mkF m 188 #[.val (.int i0), .val (.int i1), .val (.int i2), .val (.int i3), .val (.int i4), .val (.int i5), .val (.int (1 : Int32)), .val (.int (0 : Int32)), .val (.ref bv_107), .val (.ref b108), .val (.ref b118), .val (.ref b122), .val (.long ((i0.toInt64) + (i2.toInt64))), .second, .val (.long ((i1.toInt64) + (0 : Int64))), .second] [(.ref bv_153), (.ref bv_1_2_1_7_15_135)]))
        by_cases hc154 : bv_153 = bv_1_2_1_7_15_135
        · have c155 := (((r135_6.keep K143c).keep K148c).keep K153c)
          obtain ⟨cq156, kq156, q156a, q156b, q156c⟩ := isOf hZ rfl c155
          obtain ⟨_, _, ⟨T156, L156, k156, n156⟩, -, X156, ⟨Lc156, hQ156, l156, y156, z156⟩, st156⟩ := X153.virtualBack hx (y := (⟨"java/math/BigDecimal", "equals", "(Ljava/lang/Object;)Z"⟩ : MethodName)) (z := (⟨"java/math/BigDecimal", "equals", "(Ljava/lang/Object;)Z"⟩ : MethodName)) hown (mvT hZ (w89 hw)) (mvT hZ (w90 hw)) (notFace_of_selects (args := #[]) (mvT hZ (w92 hw))) (mvT hZ (w92 hw)) (mvT hZ (w91 hw)) (by decide) (backOf (W := 0) (rm16_1 l Z a0 hw [] bv_1_2_1_7_15_135 bv_153 T153.heap n0 O153 r153_0 c155 hc154) hZ (w93 hw) (w2 hw) (by decide) (by decide)) q156a q156c (g := (mkF m 188 #[.val (.int i0), .val (.int i1), .val (.int i2), .val (.int i3), .val (.int i4), .val (.int i5), .val (.int (1 : Int32)), .val (.int (0 : Int32)), .val (.ref bv_107), .val (.ref b108), .val (.ref b118), .val (.ref b122), .val (.long ((i0.toInt64) + (i2.toInt64))), .second, .val (.long ((i1.toInt64) + (0 : Int64))), .second] [(.ref bv_153), (.ref bv_1_2_1_7_15_135)])) rfl (by rw [hml]; rfl) (Steps.refl _) (argsL := [(.ref bv_153)]) (rest := []) (lenOf pd_12 rfl) rfl (by show 2 * 0 + _ ≤ _; exact Nat.le_of_eq rfl) (hb hby at_188) (fun vm₁ hw₁ => ⟨rfl, rfl, (by decide : 12 + 0 ≤ _), (by decide : 56 + 0 ≤ _)⟩)
          dsimp only [Pt.U, Pt.locs, Pt.cells, Pt.slots] at X156 l156 y156 z156 st156 hQ156
          subst l156 y156 z156
          obtain ⟨rfl, M156, eh156⟩ := hQ156
          have N156 := Fr.app N153 M156
          refine Go.tr st156 ?_
          show Go p e below _ (T156.setTop (mkF m 191 #[.val (.int i0), .val (.int i1), .val (.int i2), .val (.int i3), .val (.int i4), .val (.int i5), .val (.int (1 : Int32)), .val (.int (0 : Int32)), .val (.ref bv_107), .val (.ref b108), .val (.ref b118), .val (.ref b122), .val (.long ((i0.toInt64) + (i2.toInt64))), .second, .val (.long ((i1.toInt64) + (0 : Int64))), .second] [(.int (1 : Int32))]))
          refine Go.st (fun t k => XS.ifNo X156.here hx rfl (hb hby at_191) rfl (Jvm.Free.XT.i0_eq_f (by decide : ¬ ((1 : Int32) = (0 : Int32)))) k) ?_
          show Go p e below _ (T156.setTop (mkF m 194 #[.val (.int i0), .val (.int i1), .val (.int i2), .val (.int i3), .val (.int i4), .val (.int i5), .val (.int (1 : Int32)), .val (.int (0 : Int32)), .val (.ref bv_107), .val (.ref b108), .val (.ref b118), .val (.ref b122), .val (.long ((i0.toInt64) + (i2.toInt64))), .second, .val (.long ((i1.toInt64) + (0 : Int64))), .second] []))
          refine Go.st (fun t k => XS.iconst X156.here hx rfl (hb hby at_194) k) ?_
          show Go p e below _ (T156.setTop (mkF m 195 #[.val (.int i0), .val (.int i1), .val (.int i2), .val (.int i3), .val (.int i4), .val (.int i5), .val (.int (1 : Int32)), .val (.int (0 : Int32)), .val (.ref bv_107), .val (.ref b108), .val (.ref b118), .val (.ref b122), .val (.long ((i0.toInt64) + (i2.toInt64))), .second, .val (.long ((i1.toInt64) + (0 : Int64))), .second] [(.int (1 : Int32))]))
          refine Go.st (fun t k => XS.goto X156.here hx rfl (pc0 := 195) (pc' := 199) rfl (hb hby at_195) (by decide) (by decide) k) ?_
          show Go p e below _ (T156.setTop (mkF m 199 #[.val (.int i0), .val (.int i1), .val (.int i2), .val (.int i3), .val (.int i4), .val (.int i5), .val (.int (1 : Int32)), .val (.int (0 : Int32)), .val (.ref bv_107), .val (.ref b108), .val (.ref b118), .val (.ref b122), .val (.long ((i0.toInt64) + (i2.toInt64))), .second, .val (.long ((i1.toInt64) + (0 : Int64))), .second] [(.int (1 : Int32))]))
          obtain ⟨fs, hr, hrun, hended, hWd, hsame⟩ := X156.leave (v := some (.int (1 : Int32))) (fun h => by rw [Bd.returns] at h; cases h)
          refine ⟨_, _, ?_, hrun, hended, _, _, rfl, ?_, ⟨⟨_, rfl⟩, hWd, hsame.mono (by decide) (by decide)⟩⟩
          · exact retN X156 hx (t := .boolean) Bd.returns (by simp) (hb hby at_199) hr
          · exact ⟨rfl, N156⟩
        · have hp157 : ((i1.toInt64) + (0 : Int64)) = ((0 : Int64) + (i1.toInt64)) := by
            have j1 := own_b32 i1
            have j2 := own_b64 (i1.toInt64)
            have j3 := c_i2l i1
            have j4 : ((0 : Int64)).toInt = 0 := by decide
            have j5 := own_b64 ((i1.toInt64) + (0 : Int64))
            have j6 := c_ladd (i1.toInt64) (0 : Int64)
            have j7 := own_b64 ((0 : Int64) + (i1.toInt64))
            have j8 := c_ladd (0 : Int64) (i1.toInt64)
            rw [← Int64.toInt_inj]
            omega
          have c158 := (((r135_6.keep K143c).keep K148c).keep K153c)
          have c159 := (((r135_7.keep K143c (ninS (ne_exa c158 ((c145.keep K148c).keep K153c) (by decide)) nin0)).keep K148c nin0).keep K153c nin0)
          have c160 := (((r135_8.keep K143c (ninS (ne_exa c158 ((c145.keep K148c).keep K153c) (by decide)) nin0)).keep K148c nin0).keep K153c nin0)
          obtain ⟨cq161, kq161, q161a, q161b, q161c⟩ := isOf hZ rfl c158
          obtain ⟨_, _, ⟨T161, L161, k161, n161⟩, -, X161, ⟨Lc161, hQ161, l161, y161, z161⟩, st161⟩ := X153.virtualBack hx (y := (⟨"java/math/BigDecimal", "equals", "(Ljava/lang/Object;)Z"⟩ : MethodName)) (z := (⟨"java/math/BigDecimal", "equals", "(Ljava/lang/Object;)Z"⟩ : MethodName)) hown (mvT hZ (w89 hw)) (mvT hZ (w90 hw)) (notFace_of_selects (args := #[]) (mvT hZ (w92 hw))) (mvT hZ (w92 hw)) (mvT hZ (w91 hw)) (by decide) (backOf (W := 0) (rm16_4 l Z a0 hw [] bv_1_2_1_7_15_135 bv_153 ((0 : Int64) + (i1.toInt64)) ((i1.toInt64) + (0 : Int64)) T153.heap n0 O153 r153_0 c158 hc154 c159 r153_1 c160 r153_2 hp127 hp152 hp157) hZ (w93 hw) (w2 hw) (by decide) (by decide)) q161a q161c (g := (mkF m 188 #[.val (.int i0), .val (.int i1), .val (.int i2), .val (.int i3), .val (.int i4), .val (.int i5), .val (.int (1 : Int32)), .val (.int (0 : Int32)), .val (.ref bv_107), .val (.ref b108), .val (.ref b118), .val (.ref b122), .val (.long ((i0.toInt64) + (i2.toInt64))), .second, .val (.long ((i1.toInt64) + (0 : Int64))), .second] [(.ref bv_153), (.ref bv_1_2_1_7_15_135)])) rfl (by rw [hml]; rfl) (Steps.refl _) (argsL := [(.ref bv_153)]) (rest := []) (lenOf pd_12 rfl) rfl (by show 2 * 0 + _ ≤ _; exact Nat.le_of_eq rfl) (hb hby at_188) (fun vm₁ hw₁ => ⟨rfl, rfl, (by decide : 12 + 0 ≤ _), (by decide : 56 + 0 ≤ _)⟩)
          dsimp only [Pt.U, Pt.locs, Pt.cells, Pt.slots] at X161 l161 y161 z161 st161 hQ161
          subst l161 y161 z161
          obtain ⟨rfl, M161, eh161⟩ := hQ161
          have N161 := Fr.app N153 M161
          refine Go.tr st161 ?_
          show Go p e below _ (T161.setTop (mkF m 191 #[.val (.int i0), .val (.int i1), .val (.int i2), .val (.int i3), .val (.int i4), .val (.int i5), .val (.int (1 : Int32)), .val (.int (0 : Int32)), .val (.ref bv_107), .val (.ref b108), .val (.ref b118), .val (.ref b122), .val (.long ((i0.toInt64) + (i2.toInt64))), .second, .val (.long ((i1.toInt64) + (0 : Int64))), .second] [(.int (1 : Int32))]))
          refine Go.st (fun t k => XS.ifNo X161.here hx rfl (hb hby at_191) rfl (Jvm.Free.XT.i0_eq_f (by decide : ¬ ((1 : Int32) = (0 : Int32)))) k) ?_
          show Go p e below _ (T161.setTop (mkF m 194 #[.val (.int i0), .val (.int i1), .val (.int i2), .val (.int i3), .val (.int i4), .val (.int i5), .val (.int (1 : Int32)), .val (.int (0 : Int32)), .val (.ref bv_107), .val (.ref b108), .val (.ref b118), .val (.ref b122), .val (.long ((i0.toInt64) + (i2.toInt64))), .second, .val (.long ((i1.toInt64) + (0 : Int64))), .second] []))
          refine Go.st (fun t k => XS.iconst X161.here hx rfl (hb hby at_194) k) ?_
          show Go p e below _ (T161.setTop (mkF m 195 #[.val (.int i0), .val (.int i1), .val (.int i2), .val (.int i3), .val (.int i4), .val (.int i5), .val (.int (1 : Int32)), .val (.int (0 : Int32)), .val (.ref bv_107), .val (.ref b108), .val (.ref b118), .val (.ref b122), .val (.long ((i0.toInt64) + (i2.toInt64))), .second, .val (.long ((i1.toInt64) + (0 : Int64))), .second] [(.int (1 : Int32))]))
          refine Go.st (fun t k => XS.goto X161.here hx rfl (pc0 := 195) (pc' := 199) rfl (hb hby at_195) (by decide) (by decide) k) ?_
          show Go p e below _ (T161.setTop (mkF m 199 #[.val (.int i0), .val (.int i1), .val (.int i2), .val (.int i3), .val (.int i4), .val (.int i5), .val (.int (1 : Int32)), .val (.int (0 : Int32)), .val (.ref bv_107), .val (.ref b108), .val (.ref b118), .val (.ref b122), .val (.long ((i0.toInt64) + (i2.toInt64))), .second, .val (.long ((i1.toInt64) + (0 : Int64))), .second] [(.int (1 : Int32))]))
          obtain ⟨fs, hr, hrun, hended, hWd, hsame⟩ := X161.leave (v := some (.int (1 : Int32))) (fun h => by rw [Bd.returns] at h; cases h)
          refine ⟨_, _, ?_, hrun, hended, _, _, rfl, ?_, ⟨⟨_, rfl⟩, hWd, hsame.mono (by decide) (by decide)⟩⟩
          · exact retN X161 hx (t := .boolean) Bd.returns (by simp) (hb hby at_199) hr
          · exact ⟨rfl, N161⟩
      · have hp162 : ((i0.toInt64) + (i2.toInt64)) = (((0 : Int64) + (i0.toInt64)) + (i2.toInt64)) := by
          have j1 := own_b32 i0
          have j2 := own_b64 (i0.toInt64)
          have j3 := c_i2l i0
          have j4 := own_b32 i2
          have j5 := own_b64 (i2.toInt64)
          have j6 := c_i2l i2
          have j7 := own_b64 ((i0.toInt64) + (i2.toInt64))
          have j8 := c_ladd (i0.toInt64) (i2.toInt64)
          have j9 : ((0 : Int64)).toInt = 0 := by decide
          have j10 := own_b64 ((0 : Int64) + (i0.toInt64))
          have j11 := c_ladd (0 : Int64) (i0.toInt64)
          have j12 := own_b64 (((0 : Int64) + (i0.toInt64)) + (i2.toInt64))
          have j13 := c_ladd ((0 : Int64) + (i0.toInt64)) (i2.toInt64)
          rw [← Int64.toInt_inj]
          omega
        obtain ⟨cq163, kq163, q163a, q163b, q163c⟩ := isOf hZ rfl (r143_3.keep K148c)
        obtain ⟨_, _, ⟨T163, L163, k163, n163⟩, -, X163, ⟨Lc163, hQ163, l163, y163, z163⟩, st163⟩ := X148.virtualBack hx (y := (⟨"java/math/BigDecimal", "equals", "(Ljava/lang/Object;)Z"⟩ : MethodName)) (z := (⟨"java/math/BigDecimal", "equals", "(Ljava/lang/Object;)Z"⟩ : MethodName)) hown (mvT hZ (w89 hw)) (mvT hZ (w90 hw)) (notFace_of_selects (args := #[]) (mvT hZ (w92 hw))) (mvT hZ (w92 hw)) (mvT hZ (w91 hw)) (by decide) (backOf (W := 0) (rm16_4 l Z a0 hw [] bv_1_2_1_7_6_143 bv_148 (((0 : Int64) + (i0.toInt64)) + (i2.toInt64)) ((i0.toInt64) + (i2.toInt64)) T148.heap n0 O148 r148_0 (r143_3.keep K148c) hc149 (r143_4.keep K148c nin0) r148_1 (r143_5.keep K148c nin0) r148_2 hp137 hp147 hp162) hZ (w93 hw) (w2 hw) (by decide) (by decide)) q163a q163c (g := (mkF m 172 #[.val (.int i0), .val (.int i1), .val (.int i2), .val (.int i3), .val (.int i4), .val (.int i5), .val (.int (1 : Int32)), .val (.int (0 : Int32)), .val (.ref bv_107), .val (.ref b108), .val (.ref b118), .val (.ref b122), .val (.long ((i0.toInt64) + (i2.toInt64))), .second, .val (.long ((i1.toInt64) + (0 : Int64))), .second] [(.ref bv_148), (.ref bv_1_2_1_7_6_143)])) rfl (by rw [hml]; rfl) (Steps.refl _) (argsL := [(.ref bv_148)]) (rest := []) (lenOf pd_12 rfl) rfl (by show 2 * 0 + _ ≤ _; exact Nat.le_of_eq rfl) (hb hby at_172) (fun vm₁ hw₁ => ⟨rfl, rfl, (by decide : 11 + 0 ≤ _), (by decide : 51 + 0 ≤ _)⟩)
        dsimp only [Pt.U, Pt.locs, Pt.cells, Pt.slots] at X163 l163 y163 z163 st163 hQ163
        subst l163 y163 z163
        obtain ⟨rfl, M163, eh163⟩ := hQ163
        have N163 := Fr.app N148 M163
        refine Go.tr st163 ?_
        show Go p e below _ (T163.setTop (mkF m 175 #[.val (.int i0), .val (.int i1), .val (.int i2), .val (.int i3), .val (.int i4), .val (.int i5), .val (.int (1 : Int32)), .val (.int (0 : Int32)), .val (.ref bv_107), .val (.ref b108), .val (.ref b118), .val (.ref b122), .val (.long ((i0.toInt64) + (i2.toInt64))), .second, .val (.long ((i1.toInt64) + (0 : Int64))), .second] [(.int (1 : Int32))]))
        refine Go.st (fun t k => XS.ifNo X163.here hx rfl (hb hby at_175) rfl (Jvm.Free.XT.i0_eq_f (by decide : ¬ ((1 : Int32) = (0 : Int32)))) k) ?_
        show Go p e below _ (T163.setTop (mkF m 178 #[.val (.int i0), .val (.int i1), .val (.int i2), .val (.int i3), .val (.int i4), .val (.int i5), .val (.int (1 : Int32)), .val (.int (0 : Int32)), .val (.ref bv_107), .val (.ref b108), .val (.ref b118), .val (.ref b122), .val (.long ((i0.toInt64) + (i2.toInt64))), .second, .val (.long ((i1.toInt64) + (0 : Int64))), .second] []))
        refine Go.st (fun t k => XS.aload X163.here hx rfl (hb hby at_178) rfl rfl k) ?_
        show Go p e below _ (T163.setTop (mkF m 180 #[.val (.int i0), .val (.int i1), .val (.int i2), .val (.int i3), .val (.int i4), .val (.int i5), .val (.int (1 : Int32)), .val (.int (0 : Int32)), .val (.ref bv_107), .val (.ref b108), .val (.ref b118), .val (.ref b122), .val (.long ((i0.toInt64) + (i2.toInt64))), .second, .val (.long ((i1.toInt64) + (0 : Int64))), .second] [(.ref b122)]))
        obtain ⟨cq164, kq164, q164a, q164b, q164c⟩ := isOf hZ eh163 (c145.keep K148c)
        obtain ⟨_, _, ⟨T164, L164, k164, n164⟩, -, X164, ⟨Lc164, hQ164, l164, y164, z164⟩, st164⟩ := X163.virtualBack hx (y := (⟨"com/example/cropmark/cropmark/Assessment$Sums", "inedibleLb", "()Ljava/math/BigDecimal;"⟩ : MethodName)) (z := (⟨"com/example/cropmark/cropmark/Assessment$Sums", "inedibleLb", "()Ljava/math/BigDecimal;"⟩ : MethodName)) hown (mvT hZ (w96 hw)) (mvT hZ (w97 hw)) (notFace_of_selects (args := #[]) (mvT hZ (w99 hw))) (mvT hZ (w99 hw)) (mvT hZ (w98 hw)) (by decide) (backOf (W := 0) (rm17_1 l Z a0 hw [] b122 bv_1_2_1_7_15_135 T148.heap n0 O148 (r143_2.keep K148c nin0)) hZ (w100 hw) (w29 hw) (by decide) (by decide)) q164a q164c (g := (mkF m 180 #[.val (.int i0), .val (.int i1), .val (.int i2), .val (.int i3), .val (.int i4), .val (.int i5), .val (.int (1 : Int32)), .val (.int (0 : Int32)), .val (.ref bv_107), .val (.ref b108), .val (.ref b118), .val (.ref b122), .val (.long ((i0.toInt64) + (i2.toInt64))), .second, .val (.long ((i1.toInt64) + (0 : Int64))), .second] [(.ref b122)])) rfl (by rw [hml]; rfl) (Steps.refl _) (argsL := []) (rest := []) (lenOf pd_4 rfl) rfl (by show 2 * 0 + _ ≤ _; exact Nat.le_of_eq rfl) (hb hby at_180) (fun vm₁ hw₁ => ⟨rfl, eh163, (by decide : 11 + 0 ≤ _), (by decide : 51 + 0 ≤ _)⟩)
        dsimp only [Pt.U, Pt.locs, Pt.cells, Pt.slots] at X164 l164 y164 z164 st164 hQ164
        subst l164 y164 z164
        obtain ⟨rfl, M164, eh164⟩ := hQ164
        have N164 := Fr.app N163 M164
        refine Go.tr st164 ?_
        show Go p e below _ (T164.setTop (mkF m 183 #[.val (.int i0), .val (.int i1), .val (.int i2), .val (.int i3), .val (.int i4), .val (.int i5), .val (.int (1 : Int32)), .val (.int (0 : Int32)), .val (.ref bv_107), .val (.ref b108), .val (.ref b118), .val (.ref b122), .val (.long ((i0.toInt64) + (i2.toInt64))), .second, .val (.long ((i1.toInt64) + (0 : Int64))), .second] [(.ref bv_1_2_1_7_15_135)]))
        refine Go.st (fun t k => XS.lload X164.here hx rfl (hb hby at_183) rfl k) ?_
        show Go p e below _ (T164.setTop (mkF m 185 #[.val (.int i0), .val (.int i1), .val (.int i2), .val (.int i3), .val (.int i4), .val (.int i5), .val (.int (1 : Int32)), .val (.int (0 : Int32)), .val (.ref bv_107), .val (.ref b108), .val (.ref b118), .val (.ref b122), .val (.long ((i0.toInt64) + (i2.toInt64))), .second, .val (.long ((i1.toInt64) + (0 : Int64))), .second] [(.long ((i1.toInt64) + (0 : Int64))), (.ref bv_1_2_1_7_15_135)]))
        have hp165 : ¬ (((i1.toInt64) + (0 : Int64)) = (-9223372036854775808 : Int64)) := by
          have j1 := own_b32 i1
          have j2 := own_b64 (i1.toInt64)
          have j3 := c_i2l i1
          have j4 : ((0 : Int64)).toInt = 0 := by decide
          have j5 := own_b64 ((i1.toInt64) + (0 : Int64))
          have j6 := c_ladd (i1.toInt64) (0 : Int64)
          have j7 : ((-9223372036854775808 : Int64)).toInt = -9223372036854775808 := by decide
          rw [← Int64.toInt_inj]
          omega
        obtain ⟨_, _, ⟨T166, L166, k166, n166⟩, -, X166, ⟨Lc166, hQ166, l166, y166, z166⟩, st166⟩ := Jvm.LawKit.callS X164 hx (y := (⟨"java/math/BigDecimal", "valueOf", "(J)Ljava/math/BigDecimal;"⟩ : MethodName)) hown (mvT hZ (w0 hw)) (mvT hZ (w1 hw)) (mvT hZ (w2 hw)) (mvT hZ (w3 hw)) (by decide) (backOf (W := 1) (rmV l Z a0 hw [] ((i1.toInt64) + (0 : Int64)) w1a k4c w6a w24a w40a w56a w68a w80a w92a w104a w116a w128a w140a T148.heap n0 O148 hp165 Y3 Y235 Y156 Y230 Y232 Y26 Y170 Y172 Y42 Y176 Y178 Y58 Y182 Y184 Y70 Y188 Y190 Y82 Y194 Y196 Y94 Y200 Y202 Y106 Y206 Y208 Y118 Y212 Y214 Y130 Y218 Y220 Y142 Y224 Y226) hZ (w3 hw) (w2 hw) (by decide) (by decide)) (g := (mkF m 185 #[.val (.int i0), .val (.int i1), .val (.int i2), .val (.int i3), .val (.int i4), .val (.int i5), .val (.int (1 : Int32)), .val (.int (0 : Int32)), .val (.ref bv_107), .val (.ref b108), .val (.ref b118), .val (.ref b122), .val (.long ((i0.toInt64) + (i2.toInt64))), .second, .val (.long ((i1.toInt64) + (0 : Int64))), .second] [(.long ((i1.toInt64) + (0 : Int64))), (.ref bv_1_2_1_7_15_135)])) rfl (by rw [hml]; rfl) (argsL := [(.long ((i1.toInt64) + (0 : Int64)))]) (rest := [(.ref bv_1_2_1_7_15_135)]) (lenOf pd_2 rfl) rfl (by show 2 * 0 + _ ≤ _; exact Nat.le_of_eq rfl) (hb hby at_185) (fun vm₁ hw₁ => ⟨rfl, eh164, (by decide : 11 + 1 ≤ _), (by decide : 51 + 5 ≤ _)⟩)
        dsimp only [Pt.U, Pt.locs, Pt.cells, Pt.slots] at X166 l166 y166 z166 st166 hQ166
        subst l166 y166 z166
        obtain ⟨bv_166, rfl, M166, K166c, r166_0, r166_1, r166_2⟩ := hQ166
        have N166 := Fr.app N164 M166
        have O166 : Old Z n0 T166.heap := O148.keep K166c all0
        refine Go.st st166 ?_
        show Go p e below _ (T166.setTop (mkF m 188 #[.val (.int i0), .val (.int i1), .val (.int i2), .val (.int i3), .val (.int i4), .val (.int i5), .val (.int (1 : Int32)), .val (.int (0 : Int32)), .val (.ref bv_107), .val (.ref b108), .val (.ref b118), .val (.ref b122), .val (.long ((i0.toInt64) + (i2.toInt64))), .second, .val (.long ((i1.toInt64) + (0 : Int64))), .second] [(.ref bv_166), (.ref bv_1_2_1_7_15_135)]))
        by_cases hc167 : bv_166 = bv_1_2_1_7_15_135
        · have c168 := (((r135_6.keep K143c).keep K148c).keep K166c)
          obtain ⟨cq169, kq169, q169a, q169b, q169c⟩ := isOf hZ rfl c168
          obtain ⟨_, _, ⟨T169, L169, k169, n169⟩, -, X169, ⟨Lc169, hQ169, l169, y169, z169⟩, st169⟩ := X166.virtualBack hx (y := (⟨"java/math/BigDecimal", "equals", "(Ljava/lang/Object;)Z"⟩ : MethodName)) (z := (⟨"java/math/BigDecimal", "equals", "(Ljava/lang/Object;)Z"⟩ : MethodName)) hown (mvT hZ (w89 hw)) (mvT hZ (w90 hw)) (notFace_of_selects (args := #[]) (mvT hZ (w92 hw))) (mvT hZ (w92 hw)) (mvT hZ (w91 hw)) (by decide) (backOf (W := 0) (rm16_1 l Z a0 hw [] bv_1_2_1_7_15_135 bv_166 T166.heap n0 O166 r166_0 c168 hc167) hZ (w93 hw) (w2 hw) (by decide) (by decide)) q169a q169c (g := (mkF m 188 #[.val (.int i0), .val (.int i1), .val (.int i2), .val (.int i3), .val (.int i4), .val (.int i5), .val (.int (1 : Int32)), .val (.int (0 : Int32)), .val (.ref bv_107), .val (.ref b108), .val (.ref b118), .val (.ref b122), .val (.long ((i0.toInt64) + (i2.toInt64))), .second, .val (.long ((i1.toInt64) + (0 : Int64))), .second] [(.ref bv_166), (.ref bv_1_2_1_7_15_135)])) rfl (by rw [hml]; rfl) (Steps.refl _) (argsL := [(.ref bv_166)]) (rest := []) (lenOf pd_12 rfl) rfl (by show 2 * 0 + _ ≤ _; exact Nat.le_of_eq rfl) (hb hby at_188) (fun vm₁ hw₁ => ⟨rfl, rfl, (by decide : 12 + 0 ≤ _), (by decide : 56 + 0 ≤ _)⟩)
          dsimp only [Pt.U, Pt.locs, Pt.cells, Pt.slots] at X169 l169 y169 z169 st169 hQ169
          subst l169 y169 z169
          obtain ⟨rfl, M169, eh169⟩ := hQ169
          have N169 := Fr.app N166 M169
          refine Go.tr st169 ?_
          show Go p e below _ (T169.setTop (mkF m 191 #[.val (.int i0), .val (.int i1), .val (.int i2), .val (.int i3), .val (.int i4), .val (.int i5), .val (.int (1 : Int32)), .val (.int (0 : Int32)), .val (.ref bv_107), .val (.ref b108), .val (.ref b118), .val (.ref b122), .val (.long ((i0.toInt64) + (i2.toInt64))), .second, .val (.long ((i1.toInt64) + (0 : Int64))), .second] [(.int (1 : Int32))]))
          refine Go.st (fun t k => XS.ifNo X169.here hx rfl (hb hby at_191) rfl (Jvm.Free.XT.i0_eq_f (by decide : ¬ ((1 : Int32) = (0 : Int32)))) k) ?_
          show Go p e below _ (T169.setTop (mkF m 194 #[.val (.int i0), .val (.int i1), .val (.int i2), .val (.int i3), .val (.int i4), .val (.int i5), .val (.int (1 : Int32)), .val (.int (0 : Int32)), .val (.ref bv_107), .val (.ref b108), .val (.ref b118), .val (.ref b122), .val (.long ((i0.toInt64) + (i2.toInt64))), .second, .val (.long ((i1.toInt64) + (0 : Int64))), .second] []))
          refine Go.st (fun t k => XS.iconst X169.here hx rfl (hb hby at_194) k) ?_
          show Go p e below _ (T169.setTop (mkF m 195 #[.val (.int i0), .val (.int i1), .val (.int i2), .val (.int i3), .val (.int i4), .val (.int i5), .val (.int (1 : Int32)), .val (.int (0 : Int32)), .val (.ref bv_107), .val (.ref b108), .val (.ref b118), .val (.ref b122), .val (.long ((i0.toInt64) + (i2.toInt64))), .second, .val (.long ((i1.toInt64) + (0 : Int64))), .second] [(.int (1 : Int32))]))
          refine Go.st (fun t k => XS.goto X169.here hx rfl (pc0 := 195) (pc' := 199) rfl (hb hby at_195) (by decide) (by decide) k) ?_
          show Go p e below _ (T169.setTop (mkF m 199 #[.val (.int i0), .val (.int i1), .val (.int i2), .val (.int i3), .val (.int i4), .val (.int i5), .val (.int (1 : Int32)), .val (.int (0 : Int32)), .val (.ref bv_107), .val (.ref b108), .val (.ref b118), .val (.ref b122), .val (.long ((i0.toInt64) + (i2.toInt64))), .second, .val (.long ((i1.toInt64) + (0 : Int64))), .second] [(.int (1 : Int32))]))
          obtain ⟨fs, hr, hrun, hended, hWd, hsame⟩ := X169.leave (v := some (.int (1 : Int32))) (fun h => by rw [Bd.returns] at h; cases h)
          refine ⟨_, _, ?_, hrun, hended, _, _, rfl, ?_, ⟨⟨_, rfl⟩, hWd, hsame.mono (by decide) (by decide)⟩⟩
          · exact retN X169 hx (t := .boolean) Bd.returns (by simp) (hb hby at_199) hr
          · exact ⟨rfl, N169⟩
        · have hp170 : ((i1.toInt64) + (0 : Int64)) = ((0 : Int64) + (i1.toInt64)) := by
            have j1 := own_b32 i1
            have j2 := own_b64 (i1.toInt64)
            have j3 := c_i2l i1
            have j4 : ((0 : Int64)).toInt = 0 := by decide
            have j5 := own_b64 ((i1.toInt64) + (0 : Int64))
            have j6 := c_ladd (i1.toInt64) (0 : Int64)
            have j7 := own_b64 ((0 : Int64) + (i1.toInt64))
            have j8 := c_ladd (0 : Int64) (i1.toInt64)
            rw [← Int64.toInt_inj]
            omega
          have c171 := (((r135_6.keep K143c).keep K148c).keep K166c)
          have c172 := (((r135_7.keep K143c (ninS (ne_exa c171 ((c145.keep K148c).keep K166c) (by decide)) nin0)).keep K148c nin0).keep K166c nin0)
          have c173 := (((r135_8.keep K143c (ninS (ne_exa c171 ((c145.keep K148c).keep K166c) (by decide)) nin0)).keep K148c nin0).keep K166c nin0)
          obtain ⟨cq174, kq174, q174a, q174b, q174c⟩ := isOf hZ rfl c171
          obtain ⟨_, _, ⟨T174, L174, k174, n174⟩, -, X174, ⟨Lc174, hQ174, l174, y174, z174⟩, st174⟩ := X166.virtualBack hx (y := (⟨"java/math/BigDecimal", "equals", "(Ljava/lang/Object;)Z"⟩ : MethodName)) (z := (⟨"java/math/BigDecimal", "equals", "(Ljava/lang/Object;)Z"⟩ : MethodName)) hown (mvT hZ (w89 hw)) (mvT hZ (w90 hw)) (notFace_of_selects (args := #[]) (mvT hZ (w92 hw))) (mvT hZ (w92 hw)) (mvT hZ (w91 hw)) (by decide) (backOf (W := 0) (rm16_4 l Z a0 hw [] bv_1_2_1_7_15_135 bv_166 ((0 : Int64) + (i1.toInt64)) ((i1.toInt64) + (0 : Int64)) T166.heap n0 O166 r166_0 c171 hc167 c172 r166_1 c173 r166_2 hp127 hp165 hp170) hZ (w93 hw) (w2 hw) (by decide) (by decide)) q174a q174c (g := (mkF m 188 #[.val (.int i0), .val (.int i1), .val (.int i2), .val (.int i3), .val (.int i4), .val (.int i5), .val (.int (1 : Int32)), .val (.int (0 : Int32)), .val (.ref bv_107), .val (.ref b108), .val (.ref b118), .val (.ref b122), .val (.long ((i0.toInt64) + (i2.toInt64))), .second, .val (.long ((i1.toInt64) + (0 : Int64))), .second] [(.ref bv_166), (.ref bv_1_2_1_7_15_135)])) rfl (by rw [hml]; rfl) (Steps.refl _) (argsL := [(.ref bv_166)]) (rest := []) (lenOf pd_12 rfl) rfl (by show 2 * 0 + _ ≤ _; exact Nat.le_of_eq rfl) (hb hby at_188) (fun vm₁ hw₁ => ⟨rfl, rfl, (by decide : 12 + 0 ≤ _), (by decide : 56 + 0 ≤ _)⟩)
          dsimp only [Pt.U, Pt.locs, Pt.cells, Pt.slots] at X174 l174 y174 z174 st174 hQ174
          subst l174 y174 z174
          obtain ⟨rfl, M174, eh174⟩ := hQ174
          have N174 := Fr.app N166 M174
          refine Go.tr st174 ?_
          show Go p e below _ (T174.setTop (mkF m 191 #[.val (.int i0), .val (.int i1), .val (.int i2), .val (.int i3), .val (.int i4), .val (.int i5), .val (.int (1 : Int32)), .val (.int (0 : Int32)), .val (.ref bv_107), .val (.ref b108), .val (.ref b118), .val (.ref b122), .val (.long ((i0.toInt64) + (i2.toInt64))), .second, .val (.long ((i1.toInt64) + (0 : Int64))), .second] [(.int (1 : Int32))]))
          refine Go.st (fun t k => XS.ifNo X174.here hx rfl (hb hby at_191) rfl (Jvm.Free.XT.i0_eq_f (by decide : ¬ ((1 : Int32) = (0 : Int32)))) k) ?_
          show Go p e below _ (T174.setTop (mkF m 194 #[.val (.int i0), .val (.int i1), .val (.int i2), .val (.int i3), .val (.int i4), .val (.int i5), .val (.int (1 : Int32)), .val (.int (0 : Int32)), .val (.ref bv_107), .val (.ref b108), .val (.ref b118), .val (.ref b122), .val (.long ((i0.toInt64) + (i2.toInt64))), .second, .val (.long ((i1.toInt64) + (0 : Int64))), .second] []))
          refine Go.st (fun t k => XS.iconst X174.here hx rfl (hb hby at_194) k) ?_
          show Go p e below _ (T174.setTop (mkF m 195 #[.val (.int i0), .val (.int i1), .val (.int i2), .val (.int i3), .val (.int i4), .val (.int i5), .val (.int (1 : Int32)), .val (.int (0 : Int32)), .val (.ref bv_107), .val (.ref b108), .val (.ref b118), .val (.ref b122), .val (.long ((i0.toInt64) + (i2.toInt64))), .second, .val (.long ((i1.toInt64) + (0 : Int64))), .second] [(.int (1 : Int32))]))
          refine Go.st (fun t k => XS.goto X174.here hx rfl (pc0 := 195) (pc' := 199) rfl (hb hby at_195) (by decide) (by decide) k) ?_
          show Go p e below _ (T174.setTop (mkF m 199 #[.val (.int i0), .val (.int i1), .val (.int i2), .val (.int i3), .val (.int i4), .val (.int i5), .val (.int (1 : Int32)), .val (.int (0 : Int32)), .val (.ref bv_107), .val (.ref b108), .val (.ref b118), .val (.ref b122), .val (.long ((i0.toInt64) + (i2.toInt64))), .second, .val (.long ((i1.toInt64) + (0 : Int64))), .second] [(.int (1 : Int32))]))
          obtain ⟨fs, hr, hrun, hended, hWd, hsame⟩ := X174.leave (v := some (.int (1 : Int32))) (fun h => by rw [Bd.returns] at h; cases h)
          refine ⟨_, _, ?_, hrun, hended, _, _, rfl, ?_, ⟨⟨_, rfl⟩, hWd, hsame.mono (by decide) (by decide)⟩⟩
          · exact retN X174 hx (t := .boolean) Bd.returns (by simp) (hb hby at_199) hr
          · exact ⟨rfl, N174⟩
    · refine Go.st (fun t k => XS.ifNo X0.here hx rfl (hb hby at_18) rfl (Jvm.Free.XT.i0_eq_f hc105) k) ?_
      show Go p e below _ (s₁.setTop (mkF m 21 #[.val (.int i0), .val (.int i1), .val (.int i2), .val (.int i3), .val (.int i4), .val (.int i5), .val (.int (1 : Int32)), .unset, .unset, .unset, .unset, .unset, .unset, .unset, .unset, .unset] []))
      refine Go.st (fun t k => XS.iconst X0.here hx rfl (hb hby at_21) k) ?_
      show Go p e below _ (s₁.setTop (mkF m 22 #[.val (.int i0), .val (.int i1), .val (.int i2), .val (.int i3), .val (.int i4), .val (.int i5), .val (.int (1 : Int32)), .unset, .unset, .unset, .unset, .unset, .unset, .unset, .unset, .unset] [(.int (1 : Int32))]))
      refine Go.st (fun t k => XS.goto X0.here hx rfl (pc0 := 22) (pc' := 26) rfl (hb hby at_22) (by decide) (by decide) k) ?_
      show Go p e below _ (s₁.setTop (mkF m 26 #[.val (.int i0), .val (.int i1), .val (.int i2), .val (.int i3), .val (.int i4), .val (.int i5), .val (.int (1 : Int32)), .unset, .unset, .unset, .unset, .unset, .unset, .unset, .unset, .unset] [(.int (1 : Int32))]))
      refine Go.st (fun t k => XS.istore X0.here hx rfl (hb hby at_26) rfl (l' := #[.val (.int i0), .val (.int i1), .val (.int i2), .val (.int i3), .val (.int i4), .val (.int i5), .val (.int (1 : Int32)), .val (.int (1 : Int32)), .unset, .unset, .unset, .unset, .unset, .unset, .unset, .unset]) rfl k) ?_
      show Go p e below _ (s₁.setTop (mkF m 28 #[.val (.int i0), .val (.int i1), .val (.int i2), .val (.int i3), .val (.int i4), .val (.int i5), .val (.int (1 : Int32)), .val (.int (1 : Int32)), .unset, .unset, .unset, .unset, .unset, .unset, .unset, .unset] []))
      refine Go.st (fun t k => XS.iload X0.here hx rfl (hb hby at_28) rfl k) ?_
      show Go p e below _ (s₁.setTop (mkF m 30 #[.val (.int i0), .val (.int i1), .val (.int i2), .val (.int i3), .val (.int i4), .val (.int i5), .val (.int (1 : Int32)), .val (.int (1 : Int32)), .unset, .unset, .unset, .unset, .unset, .unset, .unset, .unset] [(.int i4)]))
      refine Go.st (fun t k => XS.i2l X0.here hx rfl (hb hby at_30) rfl k) ?_
      show Go p e below _ (s₁.setTop (mkF m 31 #[.val (.int i0), .val (.int i1), .val (.int i2), .val (.int i3), .val (.int i4), .val (.int i5), .val (.int (1 : Int32)), .val (.int (1 : Int32)), .unset, .unset, .unset, .unset, .unset, .unset, .unset, .unset] [(.long (i4.toInt64))]))
      have hp175 : ¬ ((i4.toInt64) = (-9223372036854775808 : Int64)) := by
        have j1 := own_b32 i4
        have j2 := own_b64 (i4.toInt64)
        have j3 := c_i2l i4
        have j4 : ((-9223372036854775808 : Int64)).toInt = -9223372036854775808 := by decide
        rw [← Int64.toInt_inj]
        omega
      obtain ⟨_, _, ⟨T176, L176, k176, n176⟩, -, X176, ⟨Lc176, hQ176, l176, y176, z176⟩, st176⟩ := Jvm.LawKit.callS X0 hx (y := (⟨"java/math/BigDecimal", "valueOf", "(J)Ljava/math/BigDecimal;"⟩ : MethodName)) hown (mvT hZ (w0 hw)) (mvT hZ (w1 hw)) (mvT hZ (w2 hw)) (mvT hZ (w3 hw)) (by decide) (backOf (W := 0) (rmV l Z a0 hw [] (i4.toInt64) w1a k4c w6a w24a w40a w56a w68a w80a w92a w104a w116a w128a w140a h0 n0 O0 hp175 Y3 Y235 Y156 Y230 Y232 Y26 Y170 Y172 Y42 Y176 Y178 Y58 Y182 Y184 Y70 Y188 Y190 Y82 Y194 Y196 Y94 Y200 Y202 Y106 Y206 Y208 Y118 Y212 Y214 Y130 Y218 Y220 Y142 Y224 Y226) hZ (w3 hw) (w2 hw) (by decide) (by decide)) (g := (mkF m 31 #[.val (.int i0), .val (.int i1), .val (.int i2), .val (.int i3), .val (.int i4), .val (.int i5), .val (.int (1 : Int32)), .val (.int (1 : Int32)), .unset, .unset, .unset, .unset, .unset, .unset, .unset, .unset] [(.long (i4.toInt64))])) rfl (by rw [hml]; rfl) (argsL := [(.long (i4.toInt64))]) (rest := []) (lenOf pd_2 rfl) rfl (by show 2 * 0 + _ ≤ _; exact Nat.le_of_eq rfl) (hb hby at_31) (fun vm₁ hw₁ => ⟨rfl, e0, (by decide : 0 + 1 ≤ _), (by decide : 0 + 5 ≤ _)⟩)
      dsimp only [Pt.U, Pt.locs, Pt.cells, Pt.slots] at X176 l176 y176 z176 st176 hQ176
      subst l176 y176 z176
      obtain ⟨bv_176, rfl, M176, K176c, r176_0, r176_1, r176_2⟩ := hQ176
      have N176 := Fr.app N0 M176
      have O176 : Old Z n0 T176.heap := O0.keep K176c all0
      refine Go.st st176 ?_
      show Go p e below _ (T176.setTop (mkF m 34 #[.val (.int i0), .val (.int i1), .val (.int i2), .val (.int i3), .val (.int i4), .val (.int i5), .val (.int (1 : Int32)), .val (.int (1 : Int32)), .unset, .unset, .unset, .unset, .unset, .unset, .unset, .unset] [(.ref bv_176)]))
      refine Go.st (fun t k => XS.astore X176.here hx rfl (hb hby at_34) rfl rfl (l' := #[.val (.int i0), .val (.int i1), .val (.int i2), .val (.int i3), .val (.int i4), .val (.int i5), .val (.int (1 : Int32)), .val (.int (1 : Int32)), .val (.ref bv_176), .unset, .unset, .unset, .unset, .unset, .unset, .unset]) rfl k) ?_
      show Go p e below _ (T176.setTop (mkF m 36 #[.val (.int i0), .val (.int i1), .val (.int i2), .val (.int i3), .val (.int i4), .val (.int i5), .val (.int (1 : Int32)), .val (.int (1 : Int32)), .val (.ref bv_176), .unset, .unset, .unset, .unset, .unset, .unset, .unset] []))
      obtain ⟨T177, h177, X177, e177, E177, A177, D177, -, st177⟩ := newO X176 hx hZ hown (w5 hw) (w6 hw) (w7 hw) rfl (g := (mkF m 36 #[.val (.int i0), .val (.int i1), .val (.int i2), .val (.int i3), .val (.int i4), .val (.int i5), .val (.int (1 : Int32)), .val (.int (1 : Int32)), .val (.ref bv_176), .unset, .unset, .unset, .unset, .unset, .unset, .unset] [])) rfl (hb hby at_36) (by decide) (by decide)
      obtain ⟨b177, z177⟩ : ∃ z, z = T176.heap.size := ⟨_, rfl⟩
      rw [← z177] at A177 D177 st177
      have g_b177 : n0 ≤ b177 := Nat.le_trans (own_n0 O176) (Nat.le_of_eq z177.symm)
      have O177 : Old Z n0 h177 := O176.ext E177
      have f177_20 : Fld Z h177 b177 "com/example/cropmark/cropmark/Weights" "edibleLb" "Ljava/math/BigDecimal;" .null := D177 (Or.inr (w20 hw)) (ty := (.object "java/math/BigDecimal")) (by decide)
      have f177_22 : Fld Z h177 b177 "com/example/cropmark/cropmark/Weights" "inedibleLb" "Ljava/math/BigDecimal;" .null := D177 (Or.inr (w22 hw)) (ty := (.object "java/math/BigDecimal")) (by decide)
      have f177_24 : Fld Z h177 b177 "com/example/cropmark/cropmark/Weights" "factor" "Ljava/math/BigDecimal;" .null := D177 (Or.inr (w24 hw)) (ty := (.object "java/math/BigDecimal")) (by decide)
      have f177_26 : Fld Z h177 b177 "com/example/cropmark/cropmark/Weights" "assessedLb" "Ljava/math/BigDecimal;" .null := D177 (Or.inr (w26 hw)) (ty := (.object "java/math/BigDecimal")) (by decide)
      refine Go.st st177 ?_
      show Go p e below _ (T177.setTop (mkF m 39 #[.val (.int i0), .val (.int i1), .val (.int i2), .val (.int i3), .val (.int i4), .val (.int i5), .val (.int (1 : Int32)), .val (.int (1 : Int32)), .val (.ref bv_176), .unset, .unset, .unset, .unset, .unset, .unset, .unset] [(.ref b177)]))
      refine Go.st (fun t k => XS.dup X177.here hx rfl (hb hby at_39) rfl rfl k) ?_
      show Go p e below _ (T177.setTop (mkF m 40 #[.val (.int i0), .val (.int i1), .val (.int i2), .val (.int i3), .val (.int i4), .val (.int i5), .val (.int (1 : Int32)), .val (.int (1 : Int32)), .val (.ref bv_176), .unset, .unset, .unset, .unset, .unset, .unset, .unset] [(.ref b177), (.ref b177)]))
      refine Go.st (fun t k => XS.aload X177.here hx rfl (hb hby at_40) rfl rfl k) ?_
      show Go p e below _ (T177.setTop (mkF m 42 #[.val (.int i0), .val (.int i1), .val (.int i2), .val (.int i3), .val (.int i4), .val (.int i5), .val (.int (1 : Int32)), .val (.int (1 : Int32)), .val (.ref bv_176), .unset, .unset, .unset, .unset, .unset, .unset, .unset] [(.ref bv_176), (.ref b177), (.ref b177)]))
      refine Go.st (fun t k => XS.iload X177.here hx rfl (hb hby at_42) rfl k) ?_
      show Go p e below _ (T177.setTop (mkF m 44 #[.val (.int i0), .val (.int i1), .val (.int i2), .val (.int i3), .val (.int i4), .val (.int i5), .val (.int (1 : Int32)), .val (.int (1 : Int32)), .val (.ref bv_176), .unset, .unset, .unset, .unset, .unset, .unset, .unset] [(.int (1 : Int32)), (.ref bv_176), (.ref b177), (.ref b177)]))
      refine Go.st (fun t k => XS.ifNo X177.here hx rfl (hb hby at_44) rfl (Jvm.Free.XT.i0_eq_f (by decide : ¬ ((1 : Int32) = (0 : Int32)))) k) ?_
      show Go p e below _ (T177.setTop (mkF m 47 #[.val (.int i0), .val (.int i1), .val (.int i2), .val (.int i3), .val (.int i4), .val (.int i5), .val (.int (1 : Int32)), .val (.int (1 : Int32)), .val (.ref bv_176), .unset, .unset, .unset, .unset, .unset, .unset, .unset] [(.ref bv_176), (.ref b177), (.ref b177)]))
      refine Go.st (fun t k => XS.iloadN X177.here hx rfl (hb hby at_47) rfl k) ?_
      show Go p e below _ (T177.setTop (mkF m 48 #[.val (.int i0), .val (.int i1), .val (.int i2), .val (.int i3), .val (.int i4), .val (.int i5), .val (.int (1 : Int32)), .val (.int (1 : Int32)), .val (.ref bv_176), .unset, .unset, .unset, .unset, .unset, .unset, .unset] [(.int i1), (.ref bv_176), (.ref b177), (.ref b177)]))
      refine Go.st (fun t k => XS.i2l X177.here hx rfl (hb hby at_48) rfl k) ?_
      show Go p e below _ (T177.setTop (mkF m 49 #[.val (.int i0), .val (.int i1), .val (.int i2), .val (.int i3), .val (.int i4), .val (.int i5), .val (.int (1 : Int32)), .val (.int (1 : Int32)), .val (.ref bv_176), .unset, .unset, .unset, .unset, .unset, .unset, .unset] [(.long (i1.toInt64)), (.ref bv_176), (.ref b177), (.ref b177)]))
      have hp178 : ¬ ((i1.toInt64) = (-9223372036854775808 : Int64)) := by
        have j1 := own_b32 i1
        have j2 := own_b64 (i1.toInt64)
        have j3 := c_i2l i1
        have j4 : ((-9223372036854775808 : Int64)).toInt = -9223372036854775808 := by decide
        rw [← Int64.toInt_inj]
        omega
      obtain ⟨_, _, ⟨T179, L179, k179, n179⟩, -, X179, ⟨Lc179, hQ179, l179, y179, z179⟩, st179⟩ := Jvm.LawKit.callS X177 hx (y := (⟨"java/math/BigDecimal", "valueOf", "(J)Ljava/math/BigDecimal;"⟩ : MethodName)) hown (mvT hZ (w0 hw)) (mvT hZ (w1 hw)) (mvT hZ (w2 hw)) (mvT hZ (w3 hw)) (by decide) (backOf (W := 3) (rmV l Z a0 hw [] (i1.toInt64) w1a k4c w6a w24a w40a w56a w68a w80a w92a w104a w116a w128a w140a h177 n0 O177 hp178 Y3 Y235 Y156 Y230 Y232 Y26 Y170 Y172 Y42 Y176 Y178 Y58 Y182 Y184 Y70 Y188 Y190 Y82 Y194 Y196 Y94 Y200 Y202 Y106 Y206 Y208 Y118 Y212 Y214 Y130 Y218 Y220 Y142 Y224 Y226) hZ (w3 hw) (w2 hw) (by decide) (by decide)) (g := (mkF m 49 #[.val (.int i0), .val (.int i1), .val (.int i2), .val (.int i3), .val (.int i4), .val (.int i5), .val (.int (1 : Int32)), .val (.int (1 : Int32)), .val (.ref bv_176), .unset, .unset, .unset, .unset, .unset, .unset, .unset] [(.long (i1.toInt64)), (.ref bv_176), (.ref b177), (.ref b177)])) rfl (by rw [hml]; rfl) (argsL := [(.long (i1.toInt64))]) (rest := [(.ref bv_176), (.ref b177), (.ref b177)]) (lenOf pd_2 rfl) rfl (by show 2 * 0 + _ ≤ _; exact Nat.le_of_eq rfl) (hb hby at_49) (fun vm₁ hw₁ => ⟨rfl, e177, (by decide : 2 + 1 ≤ _), (by decide : 9 + 5 ≤ _)⟩)
      dsimp only [Pt.U, Pt.locs, Pt.cells, Pt.slots] at X179 l179 y179 z179 st179 hQ179
      subst l179 y179 z179
      obtain ⟨bv_179, rfl, M179, K179c, r179_0, r179_1, r179_2⟩ := hQ179
      have N179 := Fr.app N176 M179
      have O179 : Old Z n0 T179.heap := O177.keep K179c all0
      refine Go.st st179 ?_
      show Go p e below _ (T179.setTop (mkF m 52 #[.val (.int i0), .val (.int i1), .val (.int i2), .val (.int i3), .val (.int i4), .val (.int i5), .val (.int (1 : Int32)), .val (.int (1 : Int32)), .val (.ref bv_176), .unset, .unset, .unset, .unset, .unset, .unset, .unset] [(.ref bv_179), (.ref bv_176), (.ref b177), (.ref b177)]))
      refine Go.st (fun t k => XS.goto X179.here hx rfl (pc0 := 52) (pc' := 56) rfl (hb hby at_52) (by decide) (by decide) k) ?_
      show Go p e below _ (T179.setTop (mkF m 56 #[.val (.int i0), .val (.int i1), .val (.int i2), .val (.int i3), .val (.int i4), .val (.int i5), .val (.int (1 : Int32)), .val (.int (1 : Int32)), .val (.ref bv_176), .unset, .unset, .unset, .unset, .unset, .unset, .unset] [(.ref bv_179), (.ref bv_176), (.ref b177), (.ref b177)]))
      refine Go.st (fun t k => XS.aconstNull X179.here hx rfl (hb hby at_56) k) ?_
      show Go p e below _ (T179.setTop (mkF m 57 #[.val (.int i0), .val (.int i1), .val (.int i2), .val (.int i3), .val (.int i4), .val (.int i5), .val (.int (1 : Int32)), .val (.int (1 : Int32)), .val (.ref bv_176), .unset, .unset, .unset, .unset, .unset, .unset, .unset] [.null, (.ref bv_179), (.ref bv_176), (.ref b177), (.ref b177)]))
      refine Go.st (fun t k => XS.iloadN X179.here hx rfl (hb hby at_57) rfl k) ?_
      show Go p e below _ (T179.setTop (mkF m 58 #[.val (.int i0), .val (.int i1), .val (.int i2), .val (.int i3), .val (.int i4), .val (.int i5), .val (.int (1 : Int32)), .val (.int (1 : Int32)), .val (.ref bv_176), .unset, .unset, .unset, .unset, .unset, .unset, .unset] [(.int i0), .null, (.ref bv_179), (.ref bv_176), (.ref b177), (.ref b177)]))
      refine Go.st (fun t k => XS.i2l X179.here hx rfl (hb hby at_58) rfl k) ?_
      show Go p e below _ (T179.setTop (mkF m 59 #[.val (.int i0), .val (.int i1), .val (.int i2), .val (.int i3), .val (.int i4), .val (.int i5), .val (.int (1 : Int32)), .val (.int (1 : Int32)), .val (.ref bv_176), .unset, .unset, .unset, .unset, .unset, .unset, .unset] [(.long (i0.toInt64)), .null, (.ref bv_179), (.ref bv_176), (.ref b177), (.ref b177)]))
      have hp180 : ¬ ((i0.toInt64) = (-9223372036854775808 : Int64)) := by
        have j1 := own_b32 i0
        have j2 := own_b64 (i0.toInt64)
        have j3 := c_i2l i0
        have j4 : ((-9223372036854775808 : Int64)).toInt = -9223372036854775808 := by decide
        rw [← Int64.toInt_inj]
        omega
      obtain ⟨_, _, ⟨T181, L181, k181, n181⟩, -, X181, ⟨Lc181, hQ181, l181, y181, z181⟩, st181⟩ := Jvm.LawKit.callS X179 hx (y := (⟨"java/math/BigDecimal", "valueOf", "(J)Ljava/math/BigDecimal;"⟩ : MethodName)) hown (mvT hZ (w0 hw)) (mvT hZ (w1 hw)) (mvT hZ (w2 hw)) (mvT hZ (w3 hw)) (by decide) (backOf (W := 5) (rmV l Z a0 hw [] (i0.toInt64) w1a k4c w6a w24a w40a w56a w68a w80a w92a w104a w116a w128a w140a T179.heap n0 O179 hp180 Y3 Y235 Y156 Y230 Y232 Y26 Y170 Y172 Y42 Y176 Y178 Y58 Y182 Y184 Y70 Y188 Y190 Y82 Y194 Y196 Y94 Y200 Y202 Y106 Y206 Y208 Y118 Y212 Y214 Y130 Y218 Y220 Y142 Y224 Y226) hZ (w3 hw) (w2 hw) (by decide) (by decide)) (g := (mkF m 59 #[.val (.int i0), .val (.int i1), .val (.int i2), .val (.int i3), .val (.int i4), .val (.int i5), .val (.int (1 : Int32)), .val (.int (1 : Int32)), .val (.ref bv_176), .unset, .unset, .unset, .unset, .unset, .unset, .unset] [(.long (i0.toInt64)), .null, (.ref bv_179), (.ref bv_176), (.ref b177), (.ref b177)])) rfl (by rw [hml]; rfl) (argsL := [(.long (i0.toInt64))]) (rest := [.null, (.ref bv_179), (.ref bv_176), (.ref b177), (.ref b177)]) (lenOf pd_2 rfl) rfl (by show 2 * 0 + _ ≤ _; exact Nat.le_of_eq rfl) (hb hby at_59) (fun vm₁ hw₁ => ⟨rfl, rfl, (by decide : 3 + 1 ≤ _), (by decide : 14 + 5 ≤ _)⟩)
      dsimp only [Pt.U, Pt.locs, Pt.cells, Pt.slots] at X181 l181 y181 z181 st181 hQ181
      subst l181 y181 z181
      obtain ⟨bv_181, rfl, M181, K181c, r181_0, r181_1, r181_2⟩ := hQ181
      have N181 := Fr.app N179 M181
      have O181 : Old Z n0 T181.heap := O179.keep K181c all0
      refine Go.st st181 ?_
      show Go p e below _ (T181.setTop (mkF m 62 #[.val (.int i0), .val (.int i1), .val (.int i2), .val (.int i3), .val (.int i4), .val (.int i5), .val (.int (1 : Int32)), .val (.int (1 : Int32)), .val (.ref bv_176), .unset, .unset, .unset, .unset, .unset, .unset, .unset] [(.ref bv_181), .null, (.ref bv_179), (.ref bv_176), (.ref b177), (.ref b177)]))
      have c182 := ((f177_20.keep K179c nin0).keep K181c nin0)
      have c183 := ((f177_22.keep K179c nin0).keep K181c nin0)
      have c184 := ((f177_24.keep K179c nin0).keep K181c nin0)
      have c185 := ((f177_26.keep K179c nin0).keep K181c nin0)
      obtain ⟨_, _, ⟨T186, L186, k186, n186⟩, -, X186, ⟨Lc186, hQ186, l186, y186, z186⟩, st186⟩ := X181.specialBack hx (y := (⟨"com/example/cropmark/cropmark/Weights", "<init>", "(Ljava/math/BigDecimal;Ljava/math/BigDecimal;Ljava/math/BigDecimal;Ljava/math/BigDecimal;)V"⟩ : MethodName)) rfl hown (mvT hZ (w8 hw)) (mvT hZ (w9 hw)) (mvT hZ (w10 hw)) (by decide) (backOf (W := 1) (rm2_2 l Z a0 hw [] b177 bv_176 bv_179 bv_181 T181.heap n0 O181 ((A177.keep K179c).keep K181c) c182 g_b177 c183 c184 c185) hZ (w10 hw) (w7 hw) (by decide) (by decide)) (g := (mkF m 62 #[.val (.int i0), .val (.int i1), .val (.int i2), .val (.int i3), .val (.int i4), .val (.int i5), .val (.int (1 : Int32)), .val (.int (1 : Int32)), .val (.ref bv_176), .unset, .unset, .unset, .unset, .unset, .unset, .unset] [(.ref bv_181), .null, (.ref bv_179), (.ref bv_176), (.ref b177), (.ref b177)])) rfl (by rw [hml]; rfl) (Steps.refl _) (a := b177) (argsL := [(.ref bv_176), (.ref bv_179), .null, (.ref bv_181)]) (rest := [(.ref b177)]) (lenOf pd_3 rfl) rfl (by show 2 * 0 + _ ≤ _; exact Nat.le_of_eq rfl) (hb hby at_62) (fun vm₁ hw₁ => ⟨rfl, rfl, (by decide : 4 + 0 ≤ _), (by decide : 19 + 0 ≤ _)⟩)
      dsimp only [Pt.U, Pt.locs, Pt.cells, Pt.slots] at X186 l186 y186 z186 st186 hQ186
      subst l186 y186 z186
      obtain ⟨rfl, M186, K186c, r186_0, r186_1, r186_2, r186_3⟩ := hQ186
      have N186 := Fr.app N181 M186
      have O186 : Old Z n0 T186.heap := O181.keep K186c (allS g_b177 all0)
      refine Go.tr st186 ?_
      show Go p e below _ (T186.setTop (mkF m 65 #[.val (.int i0), .val (.int i1), .val (.int i2), .val (.int i3), .val (.int i4), .val (.int i5), .val (.int (1 : Int32)), .val (.int (1 : Int32)), .val (.ref bv_176), .unset, .unset, .unset, .unset, .unset, .unset, .unset] [(.ref b177)]))
      refine Go.st (fun t k => XS.astore X186.here hx rfl (hb hby at_65) rfl rfl (l' := #[.val (.int i0), .val (.int i1), .val (.int i2), .val (.int i3), .val (.int i4), .val (.int i5), .val (.int (1 : Int32)), .val (.int (1 : Int32)), .val (.ref bv_176), .val (.ref b177), .unset, .unset, .unset, .unset, .unset, .unset]) rfl k) ?_
      show Go p e below _ (T186.setTop (mkF m 67 #[.val (.int i0), .val (.int i1), .val (.int i2), .val (.int i3), .val (.int i4), .val (.int i5), .val (.int (1 : Int32)), .val (.int (1 : Int32)), .val (.ref bv_176), .val (.ref b177), .unset, .unset, .unset, .unset, .unset, .unset] []))
      obtain ⟨T187, h187, X187, e187, E187, A187, D187, -, st187⟩ := newO X186 hx hZ hown (w5 hw) (w6 hw) (w7 hw) rfl (g := (mkF m 67 #[.val (.int i0), .val (.int i1), .val (.int i2), .val (.int i3), .val (.int i4), .val (.int i5), .val (.int (1 : Int32)), .val (.int (1 : Int32)), .val (.ref bv_176), .val (.ref b177), .unset, .unset, .unset, .unset, .unset, .unset] [])) rfl (hb hby at_67) (by decide) (by decide)
      obtain ⟨b187, z187⟩ : ∃ z, z = T186.heap.size := ⟨_, rfl⟩
      rw [← z187] at A187 D187 st187
      have g_b187 : n0 ≤ b187 := Nat.le_trans (own_n0 O186) (Nat.le_of_eq z187.symm)
      have O187 : Old Z n0 h187 := O186.ext E187
      have f187_20 : Fld Z h187 b187 "com/example/cropmark/cropmark/Weights" "edibleLb" "Ljava/math/BigDecimal;" .null := D187 (Or.inr (w20 hw)) (ty := (.object "java/math/BigDecimal")) (by decide)
      have f187_22 : Fld Z h187 b187 "com/example/cropmark/cropmark/Weights" "inedibleLb" "Ljava/math/BigDecimal;" .null := D187 (Or.inr (w22 hw)) (ty := (.object "java/math/BigDecimal")) (by decide)
      have f187_24 : Fld Z h187 b187 "com/example/cropmark/cropmark/Weights" "factor" "Ljava/math/BigDecimal;" .null := D187 (Or.inr (w24 hw)) (ty := (.object "java/math/BigDecimal")) (by decide)
      have f187_26 : Fld Z h187 b187 "com/example/cropmark/cropmark/Weights" "assessedLb" "Ljava/math/BigDecimal;" .null := D187 (Or.inr (w26 hw)) (ty := (.object "java/math/BigDecimal")) (by decide)
      refine Go.st st187 ?_
      show Go p e below _ (T187.setTop (mkF m 70 #[.val (.int i0), .val (.int i1), .val (.int i2), .val (.int i3), .val (.int i4), .val (.int i5), .val (.int (1 : Int32)), .val (.int (1 : Int32)), .val (.ref bv_176), .val (.ref b177), .unset, .unset, .unset, .unset, .unset, .unset] [(.ref b187)]))
      refine Go.st (fun t k => XS.dup X187.here hx rfl (hb hby at_70) rfl rfl k) ?_
      show Go p e below _ (T187.setTop (mkF m 71 #[.val (.int i0), .val (.int i1), .val (.int i2), .val (.int i3), .val (.int i4), .val (.int i5), .val (.int (1 : Int32)), .val (.int (1 : Int32)), .val (.ref bv_176), .val (.ref b177), .unset, .unset, .unset, .unset, .unset, .unset] [(.ref b187), (.ref b187)]))
      refine Go.st (fun t k => XS.aload X187.here hx rfl (hb hby at_71) rfl rfl k) ?_
      show Go p e below _ (T187.setTop (mkF m 73 #[.val (.int i0), .val (.int i1), .val (.int i2), .val (.int i3), .val (.int i4), .val (.int i5), .val (.int (1 : Int32)), .val (.int (1 : Int32)), .val (.ref bv_176), .val (.ref b177), .unset, .unset, .unset, .unset, .unset, .unset] [(.ref bv_176), (.ref b187), (.ref b187)]))
      refine Go.st (fun t k => XS.iload X187.here hx rfl (hb hby at_73) rfl k) ?_
      show Go p e below _ (T187.setTop (mkF m 75 #[.val (.int i0), .val (.int i1), .val (.int i2), .val (.int i3), .val (.int i4), .val (.int i5), .val (.int (1 : Int32)), .val (.int (1 : Int32)), .val (.ref bv_176), .val (.ref b177), .unset, .unset, .unset, .unset, .unset, .unset] [(.int (1 : Int32)), (.ref bv_176), (.ref b187), (.ref b187)]))
      refine Go.st (fun t k => XS.ifNo X187.here hx rfl (hb hby at_75) rfl (Jvm.Free.XT.i0_eq_f (by decide : ¬ ((1 : Int32) = (0 : Int32)))) k) ?_
      show Go p e below _ (T187.setTop (mkF m 78 #[.val (.int i0), .val (.int i1), .val (.int i2), .val (.int i3), .val (.int i4), .val (.int i5), .val (.int (1 : Int32)), .val (.int (1 : Int32)), .val (.ref bv_176), .val (.ref b177), .unset, .unset, .unset, .unset, .unset, .unset] [(.ref bv_176), (.ref b187), (.ref b187)]))
      refine Go.st (fun t k => XS.iloadN X187.here hx rfl (hb hby at_78) rfl k) ?_
      show Go p e below _ (T187.setTop (mkF m 79 #[.val (.int i0), .val (.int i1), .val (.int i2), .val (.int i3), .val (.int i4), .val (.int i5), .val (.int (1 : Int32)), .val (.int (1 : Int32)), .val (.ref bv_176), .val (.ref b177), .unset, .unset, .unset, .unset, .unset, .unset] [(.int i3), (.ref bv_176), (.ref b187), (.ref b187)]))
      refine Go.st (fun t k => XS.i2l X187.here hx rfl (hb hby at_79) rfl k) ?_
      show Go p e below _ (T187.setTop (mkF m 80 #[.val (.int i0), .val (.int i1), .val (.int i2), .val (.int i3), .val (.int i4), .val (.int i5), .val (.int (1 : Int32)), .val (.int (1 : Int32)), .val (.ref bv_176), .val (.ref b177), .unset, .unset, .unset, .unset, .unset, .unset] [(.long (i3.toInt64)), (.ref bv_176), (.ref b187), (.ref b187)]))
      have hp188 : ¬ ((i3.toInt64) = (-9223372036854775808 : Int64)) := by
        have j1 := own_b32 i3
        have j2 := own_b64 (i3.toInt64)
        have j3 := c_i2l i3
        have j4 : ((-9223372036854775808 : Int64)).toInt = -9223372036854775808 := by decide
        rw [← Int64.toInt_inj]
        omega
      obtain ⟨_, _, ⟨T189, L189, k189, n189⟩, -, X189, ⟨Lc189, hQ189, l189, y189, z189⟩, st189⟩ := Jvm.LawKit.callS X187 hx (y := (⟨"java/math/BigDecimal", "valueOf", "(J)Ljava/math/BigDecimal;"⟩ : MethodName)) hown (mvT hZ (w0 hw)) (mvT hZ (w1 hw)) (mvT hZ (w2 hw)) (mvT hZ (w3 hw)) (by decide) (backOf (W := 3) (rmV l Z a0 hw [] (i3.toInt64) w1a k4c w6a w24a w40a w56a w68a w80a w92a w104a w116a w128a w140a h187 n0 O187 hp188 Y3 Y235 Y156 Y230 Y232 Y26 Y170 Y172 Y42 Y176 Y178 Y58 Y182 Y184 Y70 Y188 Y190 Y82 Y194 Y196 Y94 Y200 Y202 Y106 Y206 Y208 Y118 Y212 Y214 Y130 Y218 Y220 Y142 Y224 Y226) hZ (w3 hw) (w2 hw) (by decide) (by decide)) (g := (mkF m 80 #[.val (.int i0), .val (.int i1), .val (.int i2), .val (.int i3), .val (.int i4), .val (.int i5), .val (.int (1 : Int32)), .val (.int (1 : Int32)), .val (.ref bv_176), .val (.ref b177), .unset, .unset, .unset, .unset, .unset, .unset] [(.long (i3.toInt64)), (.ref bv_176), (.ref b187), (.ref b187)])) rfl (by rw [hml]; rfl) (argsL := [(.long (i3.toInt64))]) (rest := [(.ref bv_176), (.ref b187), (.ref b187)]) (lenOf pd_2 rfl) rfl (by show 2 * 0 + _ ≤ _; exact Nat.le_of_eq rfl) (hb hby at_80) (fun vm₁ hw₁ => ⟨rfl, e187, (by decide : 5 + 1 ≤ _), (by decide : 23 + 5 ≤ _)⟩)
      dsimp only [Pt.U, Pt.locs, Pt.cells, Pt.slots] at X189 l189 y189 z189 st189 hQ189
      subst l189 y189 z189
      obtain ⟨bv_189, rfl, M189, K189c, r189_0, r189_1, r189_2⟩ := hQ189
      have N189 := Fr.app N186 M189
      have O189 : Old Z n0 T189.heap := O187.keep K189c all0
      refine Go.st st189 ?_
      show Go p e below _ (T189.setTop (mkF m 83 #[.val (.int i0), .val (.int i1), .val (.int i2), .val (.int i3), .val (.int i4), .val (.int i5), .val (.int (1 : Int32)), .val (.int (1 : Int32)), .val (.ref bv_176), .val (.ref b177), .unset, .unset, .unset, .unset, .unset, .unset] [(.ref bv_189), (.ref bv_176), (.ref b187), (.ref b187)]))
      refine Go.st (fun t k => XS.goto X189.here hx rfl (pc0 := 83) (pc' := 87) rfl (hb hby at_83) (by decide) (by decide) k) ?_
      show Go p e below _ (T189.setTop (mkF m 87 #[.val (.int i0), .val (.int i1), .val (.int i2), .val (.int i3), .val (.int i4), .val (.int i5), .val (.int (1 : Int32)), .val (.int (1 : Int32)), .val (.ref bv_176), .val (.ref b177), .unset, .unset, .unset, .unset, .unset, .unset] [(.ref bv_189), (.ref bv_176), (.ref b187), (.ref b187)]))
      refine Go.st (fun t k => XS.aconstNull X189.here hx rfl (hb hby at_87) k) ?_
      show Go p e below _ (T189.setTop (mkF m 88 #[.val (.int i0), .val (.int i1), .val (.int i2), .val (.int i3), .val (.int i4), .val (.int i5), .val (.int (1 : Int32)), .val (.int (1 : Int32)), .val (.ref bv_176), .val (.ref b177), .unset, .unset, .unset, .unset, .unset, .unset] [.null, (.ref bv_189), (.ref bv_176), (.ref b187), (.ref b187)]))
      refine Go.st (fun t k => XS.iloadN X189.here hx rfl (hb hby at_88) rfl k) ?_
      show Go p e below _ (T189.setTop (mkF m 89 #[.val (.int i0), .val (.int i1), .val (.int i2), .val (.int i3), .val (.int i4), .val (.int i5), .val (.int (1 : Int32)), .val (.int (1 : Int32)), .val (.ref bv_176), .val (.ref b177), .unset, .unset, .unset, .unset, .unset, .unset] [(.int i2), .null, (.ref bv_189), (.ref bv_176), (.ref b187), (.ref b187)]))
      refine Go.st (fun t k => XS.i2l X189.here hx rfl (hb hby at_89) rfl k) ?_
      show Go p e below _ (T189.setTop (mkF m 90 #[.val (.int i0), .val (.int i1), .val (.int i2), .val (.int i3), .val (.int i4), .val (.int i5), .val (.int (1 : Int32)), .val (.int (1 : Int32)), .val (.ref bv_176), .val (.ref b177), .unset, .unset, .unset, .unset, .unset, .unset] [(.long (i2.toInt64)), .null, (.ref bv_189), (.ref bv_176), (.ref b187), (.ref b187)]))
      have hp190 : ¬ ((i2.toInt64) = (-9223372036854775808 : Int64)) := by
        have j1 := own_b32 i2
        have j2 := own_b64 (i2.toInt64)
        have j3 := c_i2l i2
        have j4 : ((-9223372036854775808 : Int64)).toInt = -9223372036854775808 := by decide
        rw [← Int64.toInt_inj]
        omega
      obtain ⟨_, _, ⟨T191, L191, k191, n191⟩, -, X191, ⟨Lc191, hQ191, l191, y191, z191⟩, st191⟩ := Jvm.LawKit.callS X189 hx (y := (⟨"java/math/BigDecimal", "valueOf", "(J)Ljava/math/BigDecimal;"⟩ : MethodName)) hown (mvT hZ (w0 hw)) (mvT hZ (w1 hw)) (mvT hZ (w2 hw)) (mvT hZ (w3 hw)) (by decide) (backOf (W := 5) (rmV l Z a0 hw [] (i2.toInt64) w1a k4c w6a w24a w40a w56a w68a w80a w92a w104a w116a w128a w140a T189.heap n0 O189 hp190 Y3 Y235 Y156 Y230 Y232 Y26 Y170 Y172 Y42 Y176 Y178 Y58 Y182 Y184 Y70 Y188 Y190 Y82 Y194 Y196 Y94 Y200 Y202 Y106 Y206 Y208 Y118 Y212 Y214 Y130 Y218 Y220 Y142 Y224 Y226) hZ (w3 hw) (w2 hw) (by decide) (by decide)) (g := (mkF m 90 #[.val (.int i0), .val (.int i1), .val (.int i2), .val (.int i3), .val (.int i4), .val (.int i5), .val (.int (1 : Int32)), .val (.int (1 : Int32)), .val (.ref bv_176), .val (.ref b177), .unset, .unset, .unset, .unset, .unset, .unset] [(.long (i2.toInt64)), .null, (.ref bv_189), (.ref bv_176), (.ref b187), (.ref b187)])) rfl (by rw [hml]; rfl) (argsL := [(.long (i2.toInt64))]) (rest := [.null, (.ref bv_189), (.ref bv_176), (.ref b187), (.ref b187)]) (lenOf pd_2 rfl) rfl (by show 2 * 0 + _ ≤ _; exact Nat.le_of_eq rfl) (hb hby at_90) (fun vm₁ hw₁ => ⟨rfl, rfl, (by decide : 6 + 1 ≤ _), (by decide : 28 + 5 ≤ _)⟩)
      dsimp only [Pt.U, Pt.locs, Pt.cells, Pt.slots] at X191 l191 y191 z191 st191 hQ191
      subst l191 y191 z191
      obtain ⟨bv_191, rfl, M191, K191c, r191_0, r191_1, r191_2⟩ := hQ191
      have N191 := Fr.app N189 M191
      have O191 : Old Z n0 T191.heap := O189.keep K191c all0
      refine Go.st st191 ?_
      show Go p e below _ (T191.setTop (mkF m 93 #[.val (.int i0), .val (.int i1), .val (.int i2), .val (.int i3), .val (.int i4), .val (.int i5), .val (.int (1 : Int32)), .val (.int (1 : Int32)), .val (.ref bv_176), .val (.ref b177), .unset, .unset, .unset, .unset, .unset, .unset] [(.ref bv_191), .null, (.ref bv_189), (.ref bv_176), (.ref b187), (.ref b187)]))
      have c192 := ((f187_20.keep K189c nin0).keep K191c nin0)
      have c193 := ((f187_22.keep K189c nin0).keep K191c nin0)
      have c194 := ((f187_24.keep K189c nin0).keep K191c nin0)
      have c195 := ((f187_26.keep K189c nin0).keep K191c nin0)
      obtain ⟨_, _, ⟨T196, L196, k196, n196⟩, -, X196, ⟨Lc196, hQ196, l196, y196, z196⟩, st196⟩ := X191.specialBack hx (y := (⟨"com/example/cropmark/cropmark/Weights", "<init>", "(Ljava/math/BigDecimal;Ljava/math/BigDecimal;Ljava/math/BigDecimal;Ljava/math/BigDecimal;)V"⟩ : MethodName)) rfl hown (mvT hZ (w8 hw)) (mvT hZ (w9 hw)) (mvT hZ (w10 hw)) (by decide) (backOf (W := 1) (rm2_2 l Z a0 hw [] b187 bv_176 bv_189 bv_191 T191.heap n0 O191 ((A187.keep K189c).keep K191c) c192 g_b187 c193 c194 c195) hZ (w10 hw) (w7 hw) (by decide) (by decide)) (g := (mkF m 93 #[.val (.int i0), .val (.int i1), .val (.int i2), .val (.int i3), .val (.int i4), .val (.int i5), .val (.int (1 : Int32)), .val (.int (1 : Int32)), .val (.ref bv_176), .val (.ref b177), .unset, .unset, .unset, .unset, .unset, .unset] [(.ref bv_191), .null, (.ref bv_189), (.ref bv_176), (.ref b187), (.ref b187)])) rfl (by rw [hml]; rfl) (Steps.refl _) (a := b187) (argsL := [(.ref bv_176), (.ref bv_189), .null, (.ref bv_191)]) (rest := [(.ref b187)]) (lenOf pd_3 rfl) rfl (by show 2 * 0 + _ ≤ _; exact Nat.le_of_eq rfl) (hb hby at_93) (fun vm₁ hw₁ => ⟨rfl, rfl, (by decide : 7 + 0 ≤ _), (by decide : 33 + 0 ≤ _)⟩)
      dsimp only [Pt.U, Pt.locs, Pt.cells, Pt.slots] at X196 l196 y196 z196 st196 hQ196
      subst l196 y196 z196
      obtain ⟨rfl, M196, K196c, r196_0, r196_1, r196_2, r196_3⟩ := hQ196
      have N196 := Fr.app N191 M196
      have O196 : Old Z n0 T196.heap := O191.keep K196c (allS g_b187 all0)
      refine Go.tr st196 ?_
      show Go p e below _ (T196.setTop (mkF m 96 #[.val (.int i0), .val (.int i1), .val (.int i2), .val (.int i3), .val (.int i4), .val (.int i5), .val (.int (1 : Int32)), .val (.int (1 : Int32)), .val (.ref bv_176), .val (.ref b177), .unset, .unset, .unset, .unset, .unset, .unset] [(.ref b187)]))
      refine Go.st (fun t k => XS.astore X196.here hx rfl (hb hby at_96) rfl rfl (l' := #[.val (.int i0), .val (.int i1), .val (.int i2), .val (.int i3), .val (.int i4), .val (.int i5), .val (.int (1 : Int32)), .val (.int (1 : Int32)), .val (.ref bv_176), .val (.ref b177), .val (.ref b187), .unset, .unset, .unset, .unset, .unset]) rfl k) ?_
      show Go p e below _ (T196.setTop (mkF m 98 #[.val (.int i0), .val (.int i1), .val (.int i2), .val (.int i3), .val (.int i4), .val (.int i5), .val (.int (1 : Int32)), .val (.int (1 : Int32)), .val (.ref bv_176), .val (.ref b177), .val (.ref b187), .unset, .unset, .unset, .unset, .unset] []))
      obtain ⟨T197, h197, X197, e197, E197, A197, D197, -, st197⟩ := newO X196 hx hZ hown (w27 hw) (w28 hw) (w29 hw) rfl (g := (mkF m 98 #[.val (.int i0), .val (.int i1), .val (.int i2), .val (.int i3), .val (.int i4), .val (.int i5), .val (.int (1 : Int32)), .val (.int (1 : Int32)), .val (.ref bv_176), .val (.ref b177), .val (.ref b187), .unset, .unset, .unset, .unset, .unset] [])) rfl (hb hby at_98) (by decide) (by decide)
      obtain ⟨b197, z197⟩ : ∃ z, z = T196.heap.size := ⟨_, rfl⟩
      rw [← z197] at A197 D197 st197
      have g_b197 : n0 ≤ b197 := Nat.le_trans (own_n0 O196) (Nat.le_of_eq z197.symm)
      have O197 : Old Z n0 h197 := O196.ext E197
      have f197_36 : Fld Z h197 b197 "com/example/cropmark/cropmark/Assessment$Sums" "assessedLb" "Ljava/math/BigDecimal;" .null := D197 (Or.inl (w36 hw)) (ty := (.object "java/math/BigDecimal")) (by decide)
      have f197_38 : Fld Z h197 b197 "com/example/cropmark/cropmark/Assessment$Sums" "inedibleLb" "Ljava/math/BigDecimal;" .null := D197 (Or.inl (w38 hw)) (ty := (.object "java/math/BigDecimal")) (by decide)
      have f197_45 : Fld Z h197 b197 "com/example/cropmark/cropmark/Assessment$Sums" "lots" "I" (.int (0 : Int32)) := D197 (Or.inl (w45 hw)) (ty := .int) (by decide)
      refine Go.st st197 ?_
      show Go p e below _ (T197.setTop (mkF m 101 #[.val (.int i0), .val (.int i1), .val (.int i2), .val (.int i3), .val (.int i4), .val (.int i5), .val (.int (1 : Int32)), .val (.int (1 : Int32)), .val (.ref bv_176), .val (.ref b177), .val (.ref b187), .unset, .unset, .unset, .unset, .unset] [(.ref b197)]))
      refine Go.st (fun t k => XS.dup X197.here hx rfl (hb hby at_101) rfl rfl k) ?_
      show Go p e below _ (T197.setTop (mkF m 102 #[.val (.int i0), .val (.int i1), .val (.int i2), .val (.int i3), .val (.int i4), .val (.int i5), .val (.int (1 : Int32)), .val (.int (1 : Int32)), .val (.ref bv_176), .val (.ref b177), .val (.ref b187), .unset, .unset, .unset, .unset, .unset] [(.ref b197), (.ref b197)]))
      obtain ⟨_, _, ⟨T198, L198, k198, n198⟩, -, X198, ⟨Lc198, hQ198, l198, y198, z198⟩, st198⟩ := X197.specialBack hx (y := (⟨"com/example/cropmark/cropmark/Assessment$Sums", "<init>", "()V"⟩ : MethodName)) rfl hown (mvT hZ (w30 hw)) (mvT hZ (w31 hw)) (mvT hZ (w32 hw)) (by decide) (backOf (W := 1) (rm5_1 l Z a0 hw [] b197 w6a h197 n0 O197 Y10 A197 f197_36 g_b197 f197_38 f197_45) hZ (w32 hw) (w29 hw) (by decide) (by decide)) (g := (mkF m 102 #[.val (.int i0), .val (.int i1), .val (.int i2), .val (.int i3), .val (.int i4), .val (.int i5), .val (.int (1 : Int32)), .val (.int (1 : Int32)), .val (.ref bv_176), .val (.ref b177), .val (.ref b187), .unset, .unset, .unset, .unset, .unset] [(.ref b197), (.ref b197)])) rfl (by rw [hml]; rfl) (Steps.refl _) (a := b197) (argsL := []) (rest := [(.ref b197)]) (lenOf pd_0 rfl) rfl (by show 2 * 0 + _ ≤ _; exact Nat.le_of_eq rfl) (hb hby at_102) (fun vm₁ hw₁ => ⟨rfl, e197, (by decide : 8 + 0 ≤ _), (by decide : 36 + 0 ≤ _)⟩)
      dsimp only [Pt.U, Pt.locs, Pt.cells, Pt.slots] at X198 l198 y198 z198 st198 hQ198
      subst l198 y198 z198
      obtain ⟨rfl, M198, K198c, r198_0, r198_1, r198_2⟩ := hQ198
      have N198 := Fr.app N196 M198
      have O198 : Old Z n0 T198.heap := O197.keep K198c (allS g_b197 all0)
      refine Go.tr st198 ?_
      show Go p e below _ (T198.setTop (mkF m 105 #[.val (.int i0), .val (.int i1), .val (.int i2), .val (.int i3), .val (.int i4), .val (.int i5), .val (.int (1 : Int32)), .val (.int (1 : Int32)), .val (.ref bv_176), .val (.ref b177), .val (.ref b187), .unset, .unset, .unset, .unset, .unset] [(.ref b197)]))
      refine Go.st (fun t k => XS.astore X198.here hx rfl (hb hby at_105) rfl rfl (l' := #[.val (.int i0), .val (.int i1), .val (.int i2), .val (.int i3), .val (.int i4), .val (.int i5), .val (.int (1 : Int32)), .val (.int (1 : Int32)), .val (.ref bv_176), .val (.ref b177), .val (.ref b187), .val (.ref b197), .unset, .unset, .unset, .unset]) rfl k) ?_
      show Go p e below _ (T198.setTop (mkF m 107 #[.val (.int i0), .val (.int i1), .val (.int i2), .val (.int i3), .val (.int i4), .val (.int i5), .val (.int (1 : Int32)), .val (.int (1 : Int32)), .val (.ref bv_176), .val (.ref b177), .val (.ref b187), .val (.ref b197), .unset, .unset, .unset, .unset] []))
      refine Go.st (fun t k => XS.aload X198.here hx rfl (hb hby at_107) rfl rfl k) ?_
      show Go p e below _ (T198.setTop (mkF m 109 #[.val (.int i0), .val (.int i1), .val (.int i2), .val (.int i3), .val (.int i4), .val (.int i5), .val (.int (1 : Int32)), .val (.int (1 : Int32)), .val (.ref bv_176), .val (.ref b177), .val (.ref b187), .val (.ref b197), .unset, .unset, .unset, .unset] [(.ref b197)]))
      refine Go.st (fun t k => XS.aload X198.here hx rfl (hb hby at_109) rfl rfl k) ?_
      show Go p e below _ (T198.setTop (mkF m 111 #[.val (.int i0), .val (.int i1), .val (.int i2), .val (.int i3), .val (.int i4), .val (.int i5), .val (.int (1 : Int32)), .val (.int (1 : Int32)), .val (.ref bv_176), .val (.ref b177), .val (.ref b187), .val (.ref b197), .unset, .unset, .unset, .unset] [(.ref b177), (.ref b197)]))
      have hp199 : ¬ (((((0 : Int64) + (i0.toInt64)) ^^^ (0 : Int64)) &&& (((0 : Int64) + (i0.toInt64)) ^^^ (i0.toInt64))) < (0 : Int64)) := by
        have j1 : ((0 : Int64)).toInt = 0 := by decide
        have j2 := own_b32 i0
        have j3 := own_b64 (i0.toInt64)
        have j4 := c_i2l i0
        have jf : Jvm.Free.XT.fits64 ((0 : Int64).toInt + (i0.toInt64).toInt) := by
          unfold Jvm.Free.XT.fits64; omega
        exact own_addOk64 jf
      have hp200 : ¬ (((0 : Int64) + (i0.toInt64)) = (-9223372036854775808 : Int64)) := by
        have j1 : ((0 : Int64)).toInt = 0 := by decide
        have j2 := own_b32 i0
        have j3 := own_b64 (i0.toInt64)
        have j4 := c_i2l i0
        have j5 := own_b64 ((0 : Int64) + (i0.toInt64))
        have j6 := c_ladd (0 : Int64) (i0.toInt64)
        have j7 : ((-9223372036854775808 : Int64)).toInt = -9223372036854775808 := by decide
        rw [← Int64.toInt_inj]
        omega
      have hp201 : ¬ (((((0 : Int64) + (i1.toInt64)) ^^^ (0 : Int64)) &&& (((0 : Int64) + (i1.toInt64)) ^^^ (i1.toInt64))) < (0 : Int64)) := by
        have j1 : ((0 : Int64)).toInt = 0 := by decide
        have j2 := own_b32 i1
        have j3 := own_b64 (i1.toInt64)
        have j4 := c_i2l i1
        have jf : Jvm.Free.XT.fits64 ((0 : Int64).toInt + (i1.toInt64).toInt) := by
          unfold Jvm.Free.XT.fits64; omega
        exact own_addOk64 jf
      have hp202 : ¬ (((0 : Int64) + (i1.toInt64)) = (-9223372036854775808 : Int64)) := by
        have j1 : ((0 : Int64)).toInt = 0 := by decide
        have j2 := own_b32 i1
        have j3 := own_b64 (i1.toInt64)
        have j4 := c_i2l i1
        have j5 := own_b64 ((0 : Int64) + (i1.toInt64))
        have j6 := c_ladd (0 : Int64) (i1.toInt64)
        have j7 : ((-9223372036854775808 : Int64)).toInt = -9223372036854775808 := by decide
        rw [← Int64.toInt_inj]
        omega
      have c203 := (((((((((A177.keep K179c).keep K181c).keep K186c).ext E187).keep K189c).keep K191c).keep K196c).ext E197).keep K198c)
      have c204 := ((((((r186_3.ext E187).keep K189c nin0).keep K191c nin0).keep K196c (ninS (Nat.ne_of_lt (Nat.lt_of_lt_of_le (Nat.lt_of_lt_of_le (Nat.lt_of_lt_of_le (Nat.lt_of_lt_of_le A177.lt K179c.1) K181c.1) K186c.1) (Nat.le_of_eq z187.symm))) nin0)).ext E197).keep K198c (ninS (Nat.ne_of_lt (Nat.lt_of_lt_of_le (Nat.lt_of_lt_of_le (Nat.lt_of_lt_of_le (Nat.lt_of_lt_of_le (Nat.lt_of_lt_of_le (Nat.lt_of_lt_of_le (Nat.lt_of_lt_of_le (Nat.lt_of_lt_of_le A177.lt K179c.1) K181c.1) K186c.1) E187.1) K189c.1) K191c.1) K196c.1) (Nat.le_of_eq z197.symm))) nin0))
      have c205 := (((((((r181_2.keep K186c (ninS (ne_exa (((((((r181_0.keep K186c).ext E187).keep K189c).keep K191c).keep K196c).ext E197).keep K198c) c203 (by decide)) nin0)).ext E187).keep K189c nin0).keep K191c nin0).keep K196c (ninS (Nat.ne_of_lt (Nat.lt_of_lt_of_le (Nat.lt_of_lt_of_le r181_0.lt K186c.1) (Nat.le_of_eq z187.symm))) nin0)).ext E197).keep K198c (ninS (Nat.ne_of_lt (Nat.lt_of_lt_of_le (Nat.lt_of_lt_of_le (Nat.lt_of_lt_of_le (Nat.lt_of_lt_of_le (Nat.lt_of_lt_of_le (Nat.lt_of_lt_of_le r181_0.lt K186c.1) E187.1) K189c.1) K191c.1) K196c.1) (Nat.le_of_eq z197.symm))) nin0))
      have c206 := (((((((r181_1.keep K186c (ninS (ne_exa (((((((r181_0.keep K186c).ext E187).keep K189c).keep K191c).keep K196c).ext E197).keep K198c) c203 (by decide)) nin0)).ext E187).keep K189c nin0).keep K191c nin0).keep K196c (ninS (Nat.ne_of_lt (Nat.lt_of_lt_of_le (Nat.lt_of_lt_of_le r181_0.lt K186c.1) (Nat.le_of_eq z187.symm))) nin0)).ext E197).keep K198c (ninS (Nat.ne_of_lt (Nat.lt_of_lt_of_le (Nat.lt_of_lt_of_le (Nat.lt_of_lt_of_le (Nat.lt_of_lt_of_le (Nat.lt_of_lt_of_le (Nat.lt_of_lt_of_le r181_0.lt K186c.1) E187.1) K189c.1) K191c.1) K196c.1) (Nat.le_of_eq z197.symm))) nin0))
      have c207 := ((((((r186_1.ext E187).keep K189c nin0).keep K191c nin0).keep K196c (ninS (Nat.ne_of_lt (Nat.lt_of_lt_of_le (Nat.lt_of_lt_of_le (Nat.lt_of_lt_of_le (Nat.lt_of_lt_of_le A177.lt K179c.1) K181c.1) K186c.1) (Nat.le_of_eq z187.symm))) nin0)).ext E197).keep K198c (ninS (Nat.ne_of_lt (Nat.lt_of_lt_of_le (Nat.lt_of_lt_of_le (Nat.lt_of_lt_of_le (Nat.lt_of_lt_of_le (Nat.lt_of_lt_of_le (Nat.lt_of_lt_of_le (Nat.lt_of_lt_of_le (Nat.lt_of_lt_of_le A177.lt K179c.1) K181c.1) K186c.1) E187.1) K189c.1) K191c.1) K196c.1) (Nat.le_of_eq z197.symm))) nin0))
      have c208 := ((((((((r179_2.keep K181c nin0).keep K186c (ninS (ne_exa ((((((((r179_0.keep K181c).keep K186c).ext E187).keep K189c).keep K191c).keep K196c).ext E197).keep K198c) c203 (by decide)) nin0)).ext E187).keep K189c nin0).keep K191c nin0).keep K196c (ninS (Nat.ne_of_lt (Nat.lt_of_lt_of_le (Nat.lt_of_lt_of_le (Nat.lt_of_lt_of_le r179_0.lt K181c.1) K186c.1) (Nat.le_of_eq z187.symm))) nin0)).ext E197).keep K198c (ninS (Nat.ne_of_lt (Nat.lt_of_lt_of_le (Nat.lt_of_lt_of_le (Nat.lt_of_lt_of_le (Nat.lt_of_lt_of_le (Nat.lt_of_lt_of_le (Nat.lt_of_lt_of_le (Nat.lt_of_lt_of_le r179_0.lt K181c.1) K186c.1) E187.1) K189c.1) K191c.1) K196c.1) (Nat.le_of_eq z197.symm))) nin0))
      have c209 := ((((((((r179_1.keep K181c nin0).keep K186c (ninS (ne_exa ((((((((r179_0.keep K181c).keep K186c).ext E187).keep K189c).keep K191c).keep K196c).ext E197).keep K198c) c203 (by decide)) nin0)).ext E187).keep K189c nin0).keep K191c nin0).keep K196c (ninS (Nat.ne_of_lt (Nat.lt_of_lt_of_le (Nat.lt_of_lt_of_le (Nat.lt_of_lt_of_le r179_0.lt K181c.1) K186c.1) (Nat.le_of_eq z187.symm))) nin0)).ext E197).keep K198c (ninS (Nat.ne_of_lt (Nat.lt_of_lt_of_le (Nat.lt_of_lt_of_le (Nat.lt_of_lt_of_le (Nat.lt_of_lt_of_le (Nat.lt_of_lt_of_le (Nat.lt_of_lt_of_le (Nat.lt_of_lt_of_le r179_0.lt K181c.1) K186c.1) E187.1) K189c.1) K191c.1) K196c.1) (Nat.le_of_eq z197.symm))) nin0))
      obtain ⟨cq210, kq210, q210a, q210b, q210c⟩ := isOf hZ rfl (A197.keep K198c)
      obtain ⟨_, _, ⟨T210, L210, k210, n210⟩, -, X210, ⟨Lc210, hQ210, l210, y210, z210⟩, st210⟩ := X198.virtualBack hx (y := (⟨"com/example/cropmark/cropmark/Assessment$Sums", "add", "(Lcom/example/cropmark/cropmark/Weights;)V"⟩ : MethodName)) (z := (⟨"com/example/cropmark/cropmark/Assessment$Sums", "add", "(Lcom/example/cropmark/cropmark/Weights;)V"⟩ : MethodName)) hown (mvT hZ (w39 hw)) (mvT hZ (w40 hw)) (notFace_of_selects (args := #[]) (mvT hZ (w42 hw))) (mvT hZ (w42 hw)) (mvT hZ (w41 hw)) (by decide) (backOf (W := 0) (rm6_4 l Z a0 hw [] b197 b177 w6a bv_181 (i0.toInt64) w1a k4c w24a w40a w56a w68a w80a w92a w104a w116a w128a w140a bv_179 (i1.toInt64) T198.heap n0 O198 r198_2 (A197.keep K198c) g_b197 r198_0 c203 c204 (Nat.ne_of_lt (Nat.lt_of_lt_of_le (Nat.lt_of_lt_of_le (Nat.lt_of_lt_of_le (Nat.lt_of_lt_of_le (Nat.lt_of_lt_of_le (Nat.lt_of_lt_of_le (Nat.lt_of_lt_of_le (Nat.lt_of_lt_of_le A177.lt K179c.1) K181c.1) K186c.1) E187.1) K189c.1) K191c.1) K196c.1) (Nat.le_of_eq z197.symm))) Y156 Y232 c205 hp180 Y230 c206 hp199 hp200 Y3 Y235 Y26 Y170 Y172 Y42 Y176 Y178 Y58 Y182 Y184 Y70 Y188 Y190 Y82 Y194 Y196 Y94 Y200 Y202 Y106 Y206 Y208 Y118 Y212 Y214 Y130 Y218 Y220 Y142 Y224 Y226 (Nat.ne_of_lt (Nat.lt_of_lt_of_le (Nat.lt_of_lt_of_le (Nat.lt_of_lt_of_le (Nat.lt_of_lt_of_le (Nat.lt_of_lt_of_le (Nat.lt_of_lt_of_le r181_0.lt K186c.1) E187.1) K189c.1) K191c.1) K196c.1) (Nat.le_of_eq z197.symm))) c207 r198_1 c208 hp178 c209 hp201 hp202 (Nat.ne_of_lt (Nat.lt_of_lt_of_le (Nat.lt_of_lt_of_le (Nat.lt_of_lt_of_le (Nat.lt_of_lt_of_le (Nat.lt_of_lt_of_le (Nat.lt_of_lt_of_le (Nat.lt_of_lt_of_le r179_0.lt K181c.1) K186c.1) E187.1) K189c.1) K191c.1) K196c.1) (Nat.le_of_eq z197.symm)))) hZ (w43 hw) (w29 hw) (by decide) (by decide)) q210a q210c (g := (mkF m 111 #[.val (.int i0), .val (.int i1), .val (.int i2), .val (.int i3), .val (.int i4), .val (.int i5), .val (.int (1 : Int32)), .val (.int (1 : Int32)), .val (.ref bv_176), .val (.ref b177), .val (.ref b187), .val (.ref b197), .unset, .unset, .unset, .unset] [(.ref b177), (.ref b197)])) rfl (by rw [hml]; rfl) (Steps.refl _) (argsL := [(.ref b177)]) (rest := []) (lenOf pd_10 rfl) rfl (by show 2 * 0 + _ ≤ _; exact Nat.le_of_eq rfl) (hb hby at_111) (fun vm₁ hw₁ => ⟨rfl, rfl, (by decide : 8 + 2 ≤ _), (by decide : 36 + 10 ≤ _)⟩)
      dsimp only [Pt.U, Pt.locs, Pt.cells, Pt.slots] at X210 l210 y210 z210 st210 hQ210
      subst l210 y210 z210
      obtain ⟨bv_1_2_1_7_6_210, bv_1_2_1_7_15_210, rfl, M210, K210c, r210_0, r210_1, r210_2, r210_3, r210_4, r210_5, r210_6, r210_7, r210_8⟩ := hQ210
      have N210 := Fr.app N198 M210
      have O210 : Old Z n0 T210.heap := O198.keep K210c (allS g_b197 all0)
      refine Go.tr st210 ?_
      show Go p e below _ (T210.setTop (mkF m 114 #[.val (.int i0), .val (.int i1), .val (.int i2), .val (.int i3), .val (.int i4), .val (.int i5), .val (.int (1 : Int32)), .val (.int (1 : Int32)), .val (.ref bv_176), .val (.ref b177), .val (.ref b187), .val (.ref b197), .unset, .unset, .unset, .unset] []))
      refine Go.st (fun t k => XS.aload X210.here hx rfl (hb hby at_114) rfl rfl k) ?_
      show Go p e below _ (T210.setTop (mkF m 116 #[.val (.int i0), .val (.int i1), .val (.int i2), .val (.int i3), .val (.int i4), .val (.int i5), .val (.int (1 : Int32)), .val (.int (1 : Int32)), .val (.ref bv_176), .val (.ref b177), .val (.ref b187), .val (.ref b197), .unset, .unset, .unset, .unset] [(.ref b197)]))
      refine Go.st (fun t k => XS.aload X210.here hx rfl (hb hby at_116) rfl rfl k) ?_
      show Go p e below _ (T210.setTop (mkF m 118 #[.val (.int i0), .val (.int i1), .val (.int i2), .val (.int i3), .val (.int i4), .val (.int i5), .val (.int (1 : Int32)), .val (.int (1 : Int32)), .val (.ref bv_176), .val (.ref b177), .val (.ref b187), .val (.ref b197), .unset, .unset, .unset, .unset] [(.ref b187), (.ref b197)]))
      have hp211 : ¬ ((((((0 : Int64) + (i0.toInt64)) + (i2.toInt64)) ^^^ ((0 : Int64) + (i0.toInt64))) &&& ((((0 : Int64) + (i0.toInt64)) + (i2.toInt64)) ^^^ (i2.toInt64))) < (0 : Int64)) := by
        have j1 : ((0 : Int64)).toInt = 0 := by decide
        have j2 := own_b32 i0
        have j3 := own_b64 (i0.toInt64)
        have j4 := c_i2l i0
        have j5 := own_b64 ((0 : Int64) + (i0.toInt64))
        have j6 := c_ladd (0 : Int64) (i0.toInt64)
        have j7 := own_b32 i2
        have j8 := own_b64 (i2.toInt64)
        have j9 := c_i2l i2
        have jf : Jvm.Free.XT.fits64 (((0 : Int64) + (i0.toInt64)).toInt + (i2.toInt64).toInt) := by
          unfold Jvm.Free.XT.fits64; omega
        exact own_addOk64 jf
      have hp212 : ¬ ((((0 : Int64) + (i0.toInt64)) + (i2.toInt64)) = (-9223372036854775808 : Int64)) := by
        have j1 : ((0 : Int64)).toInt = 0 := by decide
        have j2 := own_b32 i0
        have j3 := own_b64 (i0.toInt64)
        have j4 := c_i2l i0
        have j5 := own_b64 ((0 : Int64) + (i0.toInt64))
        have j6 := c_ladd (0 : Int64) (i0.toInt64)
        have j7 := own_b32 i2
        have j8 := own_b64 (i2.toInt64)
        have j9 := c_i2l i2
        have j10 := own_b64 (((0 : Int64) + (i0.toInt64)) + (i2.toInt64))
        have j11 := c_ladd ((0 : Int64) + (i0.toInt64)) (i2.toInt64)
        have j12 : ((-9223372036854775808 : Int64)).toInt = -9223372036854775808 := by decide
        rw [← Int64.toInt_inj]
        omega
      have hp213 : ¬ ((((((0 : Int64) + (i1.toInt64)) + (i3.toInt64)) ^^^ ((0 : Int64) + (i1.toInt64))) &&& ((((0 : Int64) + (i1.toInt64)) + (i3.toInt64)) ^^^ (i3.toInt64))) < (0 : Int64)) := by
        have j1 : ((0 : Int64)).toInt = 0 := by decide
        have j2 := own_b32 i1
        have j3 := own_b64 (i1.toInt64)
        have j4 := c_i2l i1
        have j5 := own_b64 ((0 : Int64) + (i1.toInt64))
        have j6 := c_ladd (0 : Int64) (i1.toInt64)
        have j7 := own_b32 i3
        have j8 := own_b64 (i3.toInt64)
        have j9 := c_i2l i3
        have jf : Jvm.Free.XT.fits64 (((0 : Int64) + (i1.toInt64)).toInt + (i3.toInt64).toInt) := by
          unfold Jvm.Free.XT.fits64; omega
        exact own_addOk64 jf
      have hp214 : ¬ ((((0 : Int64) + (i1.toInt64)) + (i3.toInt64)) = (-9223372036854775808 : Int64)) := by
        have j1 : ((0 : Int64)).toInt = 0 := by decide
        have j2 := own_b32 i1
        have j3 := own_b64 (i1.toInt64)
        have j4 := c_i2l i1
        have j5 := own_b64 ((0 : Int64) + (i1.toInt64))
        have j6 := c_ladd (0 : Int64) (i1.toInt64)
        have j7 := own_b32 i3
        have j8 := own_b64 (i3.toInt64)
        have j9 := c_i2l i3
        have j10 := own_b64 (((0 : Int64) + (i1.toInt64)) + (i3.toInt64))
        have j11 := c_ladd ((0 : Int64) + (i1.toInt64)) (i3.toInt64)
        have j12 : ((-9223372036854775808 : Int64)).toInt = -9223372036854775808 := by decide
        rw [← Int64.toInt_inj]
        omega
      have c215 := ((((((A187.keep K189c).keep K191c).keep K196c).ext E197).keep K198c).keep K210c)
      have c216 := (((r196_3.ext E197).keep K198c (ninS (Nat.ne_of_lt (Nat.lt_of_lt_of_le (Nat.lt_of_lt_of_le (Nat.lt_of_lt_of_le (Nat.lt_of_lt_of_le A187.lt K189c.1) K191c.1) K196c.1) (Nat.le_of_eq z197.symm))) nin0)).keep K210c (ninS (Nat.ne_of_lt (Nat.lt_of_lt_of_le (Nat.lt_of_lt_of_le (Nat.lt_of_lt_of_le (Nat.lt_of_lt_of_le A187.lt K189c.1) K191c.1) K196c.1) (Nat.le_of_eq z197.symm))) nin0))
      have c217 := ((((r191_2.keep K196c (ninS (ne_exa ((((r191_0.keep K196c).ext E197).keep K198c).keep K210c) c215 (by decide)) nin0)).ext E197).keep K198c (ninS (Nat.ne_of_lt (Nat.lt_of_lt_of_le (Nat.lt_of_lt_of_le r191_0.lt K196c.1) (Nat.le_of_eq z197.symm))) nin0)).keep K210c (ninS (Nat.ne_of_lt (Nat.lt_of_lt_of_le (Nat.lt_of_lt_of_le r191_0.lt K196c.1) (Nat.le_of_eq z197.symm))) nin0))
      have c218 := ((((r191_1.keep K196c (ninS (ne_exa ((((r191_0.keep K196c).ext E197).keep K198c).keep K210c) c215 (by decide)) nin0)).ext E197).keep K198c (ninS (Nat.ne_of_lt (Nat.lt_of_lt_of_le (Nat.lt_of_lt_of_le r191_0.lt K196c.1) (Nat.le_of_eq z197.symm))) nin0)).keep K210c (ninS (Nat.ne_of_lt (Nat.lt_of_lt_of_le (Nat.lt_of_lt_of_le r191_0.lt K196c.1) (Nat.le_of_eq z197.symm))) nin0))
      have c219 := (((r196_1.ext E197).keep K198c (ninS (Nat.ne_of_lt (Nat.lt_of_lt_of_le (Nat.lt_of_lt_of_le (Nat.lt_of_lt_of_le (Nat.lt_of_lt_of_le A187.lt K189c.1) K191c.1) K196c.1) (Nat.le_of_eq z197.symm))) nin0)).keep K210c (ninS (Nat.ne_of_lt (Nat.lt_of_lt_of_le (Nat.lt_of_lt_of_le (Nat.lt_of_lt_of_le (Nat.lt_of_lt_of_le A187.lt K189c.1) K191c.1) K196c.1) (Nat.le_of_eq z197.symm))) nin0))
      have c220 := (((((r189_2.keep K191c nin0).keep K196c (ninS (ne_exa (((((r189_0.keep K191c).keep K196c).ext E197).keep K198c).keep K210c) c215 (by decide)) nin0)).ext E197).keep K198c (ninS (Nat.ne_of_lt (Nat.lt_of_lt_of_le (Nat.lt_of_lt_of_le (Nat.lt_of_lt_of_le r189_0.lt K191c.1) K196c.1) (Nat.le_of_eq z197.symm))) nin0)).keep K210c (ninS (Nat.ne_of_lt (Nat.lt_of_lt_of_le (Nat.lt_of_lt_of_le (Nat.lt_of_lt_of_le r189_0.lt K191c.1) K196c.1) (Nat.le_of_eq z197.symm))) nin0))
      have c221 := (((((r189_1.keep K191c nin0).keep K196c (ninS (ne_exa (((((r189_0.keep K191c).keep K196c).ext E197).keep K198c).keep K210c) c215 (by decide)) nin0)).ext E197).keep K198c (ninS (Nat.ne_of_lt (Nat.lt_of_lt_of_le (Nat.lt_of_lt_of_le (Nat.lt_of_lt_of_le r189_0.lt K191c.1) K196c.1) (Nat.le_of_eq z197.symm))) nin0)).keep K210c (ninS (Nat.ne_of_lt (Nat.lt_of_lt_of_le (Nat.lt_of_lt_of_le (Nat.lt_of_lt_of_le r189_0.lt K191c.1) K196c.1) (Nat.le_of_eq z197.symm))) nin0))
      obtain ⟨cq222, kq222, q222a, q222b, q222c⟩ := isOf hZ rfl ((A197.keep K198c).keep K210c)
      obtain ⟨_, _, ⟨T222, L222, k222, n222⟩, -, X222, ⟨Lc222, hQ222, l222, y222, z222⟩, st222⟩ := X210.virtualBack hx (y := (⟨"com/example/cropmark/cropmark/Assessment$Sums", "add", "(Lcom/example/cropmark/cropmark/Weights;)V"⟩ : MethodName)) (z := (⟨"com/example/cropmark/cropmark/Assessment$Sums", "add", "(Lcom/example/cropmark/cropmark/Weights;)V"⟩ : MethodName)) hown (mvT hZ (w39 hw)) (mvT hZ (w40 hw)) (notFace_of_selects (args := #[]) (mvT hZ (w42 hw))) (mvT hZ (w42 hw)) (mvT hZ (w41 hw)) (by decide) (backOf (W := 0) (rm6_6 l Z a0 hw [] b197 b187 bv_1_2_1_7_6_210 bv_191 ((0 : Int64) + (i0.toInt64)) (i2.toInt64) w1a k4c w6a w24a w40a w56a w68a w80a w92a w104a w116a w128a w140a bv_189 bv_1_2_1_7_15_210 ((0 : Int64) + (i1.toInt64)) (i3.toInt64) T210.heap n0 O210 r210_0 ((A197.keep K198c).keep K210c) g_b197 r210_1 c215 c216 (Nat.ne_of_lt (Nat.lt_of_lt_of_le (Nat.lt_of_lt_of_le (Nat.lt_of_lt_of_le (Nat.lt_of_lt_of_le A187.lt K189c.1) K191c.1) K196c.1) (Nat.le_of_eq z197.symm))) r210_3 r210_5 hp200 c217 hp190 r210_4 c218 hp211 hp212 Y3 Y235 Y156 Y230 Y232 Y26 Y170 Y172 Y42 Y176 Y178 Y58 Y182 Y184 Y70 Y188 Y190 Y82 Y194 Y196 Y94 Y200 Y202 Y106 Y206 Y208 Y118 Y212 Y214 Y130 Y218 Y220 Y142 Y224 Y226 (ne_exa r210_3 ((A197.keep K198c).keep K210c) (by decide)) (Nat.ne_of_lt (Nat.lt_of_lt_of_le (Nat.lt_of_lt_of_le r191_0.lt K196c.1) (Nat.le_of_eq z197.symm))) c219 r210_2 r210_6 r210_8 hp202 c220 hp188 r210_7 c221 hp213 hp214 (ne_exa r210_6 ((A197.keep K198c).keep K210c) (by decide)) (Nat.ne_of_lt (Nat.lt_of_lt_of_le (Nat.lt_of_lt_of_le (Nat.lt_of_lt_of_le r189_0.lt K191c.1) K196c.1) (Nat.le_of_eq z197.symm)))) hZ (w43 hw) (w29 hw) (by decide) (by decide)) q222a q222c (g := (mkF m 118 #[.val (.int i0), .val (.int i1), .val (.int i2), .val (.int i3), .val (.int i4), .val (.int i5), .val (.int (1 : Int32)), .val (.int (1 : Int32)), .val (.ref bv_176), .val (.ref b177), .val (.ref b187), .val (.ref b197), .unset, .unset, .unset, .unset] [(.ref b187), (.ref b197)])) rfl (by rw [hml]; rfl) (Steps.refl _) (argsL := [(.ref b187)]) (rest := []) (lenOf pd_10 rfl) rfl (by show 2 * 0 + _ ≤ _; exact Nat.le_of_eq rfl) (hb hby at_118) (fun vm₁ hw₁ => ⟨rfl, rfl, (by decide : 10 + 2 ≤ _), (by decide : 46 + 10 ≤ _)⟩)
      dsimp only [Pt.U, Pt.locs, Pt.cells, Pt.slots] at X222 l222 y222 z222 st222 hQ222
      subst l222 y222 z222
      obtain ⟨bv_1_2_1_7_6_222, bv_1_2_1_7_17_222, rfl, M222, K222c, r222_0, r222_1, r222_2, r222_3, r222_4, r222_5, r222_6, r222_7, r222_8⟩ := hQ222
      have N222 := Fr.app N210 M222
      have O222 : Old Z n0 T222.heap := O210.keep K222c (allS g_b197 all0)
      refine Go.tr st222 ?_
      show Go p e below _ (T222.setTop (mkF m 121 #[.val (.int i0), .val (.int i1), .val (.int i2), .val (.int i3), .val (.int i4), .val (.int i5), .val (.int (1 : Int32)), .val (.int (1 : Int32)), .val (.ref bv_176), .val (.ref b177), .val (.ref b187), .val (.ref b197), .unset, .unset, .unset, .unset] []))
      refine Go.st (fun t k => XS.iloadN X222.here hx rfl (hb hby at_121) rfl k) ?_
      show Go p e below _ (T222.setTop (mkF m 122 #[.val (.int i0), .val (.int i1), .val (.int i2), .val (.int i3), .val (.int i4), .val (.int i5), .val (.int (1 : Int32)), .val (.int (1 : Int32)), .val (.ref bv_176), .val (.ref b177), .val (.ref b187), .val (.ref b197), .unset, .unset, .unset, .unset] [(.int i0)]))
      refine Go.st (fun t k => XS.i2l X222.here hx rfl (hb hby at_122) rfl k) ?_
      show Go p e below _ (T222.setTop (mkF m 123 #[.val (.int i0), .val (.int i1), .val (.int i2), .val (.int i3), .val (.int i4), .val (.int i5), .val (.int (1 : Int32)), .val (.int (1 : Int32)), .val (.ref bv_176), .val (.ref b177), .val (.ref b187), .val (.ref b197), .unset, .unset, .unset, .unset] [(.long (i0.toInt64))]))
      refine Go.st (fun t k => XS.iloadN X222.here hx rfl (hb hby at_123) rfl k) ?_
      show Go p e below _ (T222.setTop (mkF m 124 #[.val (.int i0), .val (.int i1), .val (.int i2), .val (.int i3), .val (.int i4), .val (.int i5), .val (.int (1 : Int32)), .val (.int (1 : Int32)), .val (.ref bv_176), .val (.ref b177), .val (.ref b187), .val (.ref b197), .unset, .unset, .unset, .unset] [(.int i2), (.long (i0.toInt64))]))
      refine Go.st (fun t k => XS.i2l X222.here hx rfl (hb hby at_124) rfl k) ?_
      show Go p e below _ (T222.setTop (mkF m 125 #[.val (.int i0), .val (.int i1), .val (.int i2), .val (.int i3), .val (.int i4), .val (.int i5), .val (.int (1 : Int32)), .val (.int (1 : Int32)), .val (.ref bv_176), .val (.ref b177), .val (.ref b187), .val (.ref b197), .unset, .unset, .unset, .unset] [(.long (i2.toInt64)), (.long (i0.toInt64))]))
      refine Go.st (fun t k => XS.ladd X222.here hx rfl (hb hby at_125) rfl k) ?_
      show Go p e below _ (T222.setTop (mkF m 126 #[.val (.int i0), .val (.int i1), .val (.int i2), .val (.int i3), .val (.int i4), .val (.int i5), .val (.int (1 : Int32)), .val (.int (1 : Int32)), .val (.ref bv_176), .val (.ref b177), .val (.ref b187), .val (.ref b197), .unset, .unset, .unset, .unset] [(.long ((i0.toInt64) + (i2.toInt64)))]))
      refine Go.st (fun t k => XS.lstore X222.here hx rfl (hb hby at_126) rfl (l' := #[.val (.int i0), .val (.int i1), .val (.int i2), .val (.int i3), .val (.int i4), .val (.int i5), .val (.int (1 : Int32)), .val (.int (1 : Int32)), .val (.ref bv_176), .val (.ref b177), .val (.ref b187), .val (.ref b197), .val (.long ((i0.toInt64) + (i2.toInt64))), .second, .unset, .unset]) rfl k) ?_
      show Go p e below _ (T222.setTop (mkF m 128 #[.val (.int i0), .val (.int i1), .val (.int i2), .val (.int i3), .val (.int i4), .val (.int i5), .val (.int (1 : Int32)), .val (.int (1 : Int32)), .val (.ref bv_176), .val (.ref b177), .val (.ref b187), .val (.ref b197), .val (.long ((i0.toInt64) + (i2.toInt64))), .second, .unset, .unset] []))
      refine Go.st (fun t k => XS.iload X222.here hx rfl (hb hby at_128) rfl k) ?_
      show Go p e below _ (T222.setTop (mkF m 130 #[.val (.int i0), .val (.int i1), .val (.int i2), .val (.int i3), .val (.int i4), .val (.int i5), .val (.int (1 : Int32)), .val (.int (1 : Int32)), .val (.ref bv_176), .val (.ref b177), .val (.ref b187), .val (.ref b197), .val (.long ((i0.toInt64) + (i2.toInt64))), .second, .unset, .unset] [(.int (1 : Int32))]))
      refine Go.st (fun t k => XS.ifNo X222.here hx rfl (hb hby at_130) rfl (Jvm.Free.XT.i0_eq_f (by decide : ¬ ((1 : Int32) = (0 : Int32)))) k) ?_
      show Go p e below _ (T222.setTop (mkF m 133 #[.val (.int i0), .val (.int i1), .val (.int i2), .val (.int i3), .val (.int i4), .val (.int i5), .val (.int (1 : Int32)), .val (.int (1 : Int32)), .val (.ref bv_176), .val (.ref b177), .val (.ref b187), .val (.ref b197), .val (.long ((i0.toInt64) + (i2.toInt64))), .second, .unset, .unset] []))
      refine Go.st (fun t k => XS.iloadN X222.here hx rfl (hb hby at_133) rfl k) ?_
      show Go p e below _ (T222.setTop (mkF m 134 #[.val (.int i0), .val (.int i1), .val (.int i2), .val (.int i3), .val (.int i4), .val (.int i5), .val (.int (1 : Int32)), .val (.int (1 : Int32)), .val (.ref bv_176), .val (.ref b177), .val (.ref b187), .val (.ref b197), .val (.long ((i0.toInt64) + (i2.toInt64))), .second, .unset, .unset] [(.int i1)]))
      refine Go.st (fun t k => XS.i2l X222.here hx rfl (hb hby at_134) rfl k) ?_
      show Go p e below _ (T222.setTop (mkF m 135 #[.val (.int i0), .val (.int i1), .val (.int i2), .val (.int i3), .val (.int i4), .val (.int i5), .val (.int (1 : Int32)), .val (.int (1 : Int32)), .val (.ref bv_176), .val (.ref b177), .val (.ref b187), .val (.ref b197), .val (.long ((i0.toInt64) + (i2.toInt64))), .second, .unset, .unset] [(.long (i1.toInt64))]))
      refine Go.st (fun t k => XS.goto X222.here hx rfl (pc0 := 135) (pc' := 139) rfl (hb hby at_135) (by decide) (by decide) k) ?_
      show Go p e below _ (T222.setTop (mkF m 139 #[.val (.int i0), .val (.int i1), .val (.int i2), .val (.int i3), .val (.int i4), .val (.int i5), .val (.int (1 : Int32)), .val (.int (1 : Int32)), .val (.ref bv_176), .val (.ref b177), .val (.ref b187), .val (.ref b197), .val (.long ((i0.toInt64) + (i2.toInt64))), .second, .unset, .unset] [(.long (i1.toInt64))]))
      refine Go.st (fun t k => XS.iload X222.here hx rfl (hb hby at_139) rfl k) ?_
      show Go p e below _ (T222.setTop (mkF m 141 #[.val (.int i0), .val (.int i1), .val (.int i2), .val (.int i3), .val (.int i4), .val (.int i5), .val (.int (1 : Int32)), .val (.int (1 : Int32)), .val (.ref bv_176), .val (.ref b177), .val (.ref b187), .val (.ref b197), .val (.long ((i0.toInt64) + (i2.toInt64))), .second, .unset, .unset] [(.int (1 : Int32)), (.long (i1.toInt64))]))
      refine Go.st (fun t k => XS.ifNo X222.here hx rfl (hb hby at_141) rfl (Jvm.Free.XT.i0_eq_f (by decide : ¬ ((1 : Int32) = (0 : Int32)))) k) ?_
      show Go p e below _ (T222.setTop (mkF m 144 #[.val (.int i0), .val (.int i1), .val (.int i2), .val (.int i3), .val (.int i4), .val (.int i5), .val (.int (1 : Int32)), .val (.int (1 : Int32)), .val (.ref bv_176), .val (.ref b177), .val (.ref b187), .val (.ref b197), .val (.long ((i0.toInt64) + (i2.toInt64))), .second, .unset, .unset] [(.long (i1.toInt64))]))
      refine Go.st (fun t k => XS.iloadN X222.here hx rfl (hb hby at_144) rfl k) ?_
      show Go p e below _ (T222.setTop (mkF m 145 #[.val (.int i0), .val (.int i1), .val (.int i2), .val (.int i3), .val (.int i4), .val (.int i5), .val (.int (1 : Int32)), .val (.int (1 : Int32)), .val (.ref bv_176), .val (.ref b177), .val (.ref b187), .val (.ref b197), .val (.long ((i0.toInt64) + (i2.toInt64))), .second, .unset, .unset] [(.int i3), (.long (i1.toInt64))]))
      refine Go.st (fun t k => XS.i2l X222.here hx rfl (hb hby at_145) rfl k) ?_
      show Go p e below _ (T222.setTop (mkF m 146 #[.val (.int i0), .val (.int i1), .val (.int i2), .val (.int i3), .val (.int i4), .val (.int i5), .val (.int (1 : Int32)), .val (.int (1 : Int32)), .val (.ref bv_176), .val (.ref b177), .val (.ref b187), .val (.ref b197), .val (.long ((i0.toInt64) + (i2.toInt64))), .second, .unset, .unset] [(.long (i3.toInt64)), (.long (i1.toInt64))]))
      refine Go.st (fun t k => XS.goto X222.here hx rfl (pc0 := 146) (pc' := 150) rfl (hb hby at_146) (by decide) (by decide) k) ?_
      show Go p e below _ (T222.setTop (mkF m 150 #[.val (.int i0), .val (.int i1), .val (.int i2), .val (.int i3), .val (.int i4), .val (.int i5), .val (.int (1 : Int32)), .val (.int (1 : Int32)), .val (.ref bv_176), .val (.ref b177), .val (.ref b187), .val (.ref b197), .val (.long ((i0.toInt64) + (i2.toInt64))), .second, .unset, .unset] [(.long (i3.toInt64)), (.long (i1.toInt64))]))
      refine Go.st (fun t k => XS.ladd X222.here hx rfl (hb hby at_150) rfl k) ?_
      show Go p e below _ (T222.setTop (mkF m 151 #[.val (.int i0), .val (.int i1), .val (.int i2), .val (.int i3), .val (.int i4), .val (.int i5), .val (.int (1 : Int32)), .val (.int (1 : Int32)), .val (.ref bv_176), .val (.ref b177), .val (.ref b187), .val (.ref b197), .val (.long ((i0.toInt64) + (i2.toInt64))), .second, .unset, .unset] [(.long ((i1.toInt64) + (i3.toInt64)))]))
      refine Go.st (fun t k => XS.lstore X222.here hx rfl (hb hby at_151) rfl (l' := #[.val (.int i0), .val (.int i1), .val (.int i2), .val (.int i3), .val (.int i4), .val (.int i5), .val (.int (1 : Int32)), .val (.int (1 : Int32)), .val (.ref bv_176), .val (.ref b177), .val (.ref b187), .val (.ref b197), .val (.long ((i0.toInt64) + (i2.toInt64))), .second, .val (.long ((i1.toInt64) + (i3.toInt64))), .second]) rfl k) ?_
      show Go p e below _ (T222.setTop (mkF m 153 #[.val (.int i0), .val (.int i1), .val (.int i2), .val (.int i3), .val (.int i4), .val (.int i5), .val (.int (1 : Int32)), .val (.int (1 : Int32)), .val (.ref bv_176), .val (.ref b177), .val (.ref b187), .val (.ref b197), .val (.long ((i0.toInt64) + (i2.toInt64))), .second, .val (.long ((i1.toInt64) + (i3.toInt64))), .second] []))
      refine Go.st (fun t k => XS.aload X222.here hx rfl (hb hby at_153) rfl rfl k) ?_
      show Go p e below _ (T222.setTop (mkF m 155 #[.val (.int i0), .val (.int i1), .val (.int i2), .val (.int i3), .val (.int i4), .val (.int i5), .val (.int (1 : Int32)), .val (.int (1 : Int32)), .val (.ref bv_176), .val (.ref b177), .val (.ref b187), .val (.ref b197), .val (.long ((i0.toInt64) + (i2.toInt64))), .second, .val (.long ((i1.toInt64) + (i3.toInt64))), .second] [(.ref b197)]))
      have c224 := (((A197.keep K198c).keep K210c).keep K222c)
      obtain ⟨cq223, kq223, q223a, q223b, q223c⟩ := isOf hZ rfl c224
      obtain ⟨_, _, ⟨T223, L223, k223, n223⟩, -, X223, ⟨Lc223, hQ223, l223, y223, z223⟩, st223⟩ := X222.virtualBack hx (y := (⟨"com/example/cropmark/cropmark/Assessment$Sums", "lots", "()I"⟩ : MethodName)) (z := (⟨"com/example/cropmark/cropmark/Assessment$Sums", "lots", "()I"⟩ : MethodName)) hown (mvT hZ (w79 hw)) (mvT hZ (w80 hw)) (notFace_of_selects (args := #[]) (mvT hZ (w82 hw))) (mvT hZ (w82 hw)) (mvT hZ (w81 hw)) (by decide) (backOf (W := 0) (rm14_1 l Z a0 hw [] b197 T222.heap n0 O222 r222_0) hZ (w83 hw) (w29 hw) (by decide) (by decide)) q223a q223c (g := (mkF m 155 #[.val (.int i0), .val (.int i1), .val (.int i2), .val (.int i3), .val (.int i4), .val (.int i5), .val (.int (1 : Int32)), .val (.int (1 : Int32)), .val (.ref bv_176), .val (.ref b177), .val (.ref b187), .val (.ref b197), .val (.long ((i0.toInt64) + (i2.toInt64))), .second, .val (.long ((i1.toInt64) + (i3.toInt64))), .second] [(.ref b197)])) rfl (by rw [hml]; rfl) (Steps.refl _) (argsL := []) (rest := []) (lenOf pd_11 rfl) rfl (by show 2 * 0 + _ ≤ _; exact Nat.le_of_eq rfl) (hb hby at_155) (fun vm₁ hw₁ => ⟨rfl, rfl, (by decide : 12 + 0 ≤ _), (by decide : 56 + 0 ≤ _)⟩)
      dsimp only [Pt.U, Pt.locs, Pt.cells, Pt.slots] at X223 l223 y223 z223 st223 hQ223
      subst l223 y223 z223
      obtain ⟨rfl, M223, eh223⟩ := hQ223
      have N223 := Fr.app N222 M223
      refine Go.tr st223 ?_
      show Go p e below _ (T223.setTop (mkF m 158 #[.val (.int i0), .val (.int i1), .val (.int i2), .val (.int i3), .val (.int i4), .val (.int i5), .val (.int (1 : Int32)), .val (.int (1 : Int32)), .val (.ref bv_176), .val (.ref b177), .val (.ref b187), .val (.ref b197), .val (.long ((i0.toInt64) + (i2.toInt64))), .second, .val (.long ((i1.toInt64) + (i3.toInt64))), .second] [(.int (2 : Int32))]))
      refine Go.st (fun t k => XS.iconst X223.here hx rfl (hb hby at_158) k) ?_
      show Go p e below _ (T223.setTop (mkF m 159 #[.val (.int i0), .val (.int i1), .val (.int i2), .val (.int i3), .val (.int i4), .val (.int i5), .val (.int (1 : Int32)), .val (.int (1 : Int32)), .val (.ref bv_176), .val (.ref b177), .val (.ref b187), .val (.ref b197), .val (.long ((i0.toInt64) + (i2.toInt64))), .second, .val (.long ((i1.toInt64) + (i3.toInt64))), .second] [(.int (2 : Int32)), (.int (2 : Int32))]))
      refine Go.st (fun t k => XS.icmpNo X223.here hx rfl (hb hby at_159) rfl (Jvm.Free.XT.ii_ne_f (by decide : (2 : Int32) = (2 : Int32))) k) ?_
      show Go p e below _ (T223.setTop (mkF m 162 #[.val (.int i0), .val (.int i1), .val (.int i2), .val (.int i3), .val (.int i4), .val (.int i5), .val (.int (1 : Int32)), .val (.int (1 : Int32)), .val (.ref bv_176), .val (.ref b177), .val (.ref b187), .val (.ref b197), .val (.long ((i0.toInt64) + (i2.toInt64))), .second, .val (.long ((i1.toInt64) + (i3.toInt64))), .second] []))
      refine Go.st (fun t k => XS.aload X223.here hx rfl (hb hby at_162) rfl rfl k) ?_
      show Go p e below _ (T223.setTop (mkF m 164 #[.val (.int i0), .val (.int i1), .val (.int i2), .val (.int i3), .val (.int i4), .val (.int i5), .val (.int (1 : Int32)), .val (.int (1 : Int32)), .val (.ref bv_176), .val (.ref b177), .val (.ref b187), .val (.ref b197), .val (.long ((i0.toInt64) + (i2.toInt64))), .second, .val (.long ((i1.toInt64) + (i3.toInt64))), .second] [(.ref b197)]))
      obtain ⟨cq225, kq225, q225a, q225b, q225c⟩ := isOf hZ eh223 c224
      obtain ⟨_, _, ⟨T225, L225, k225, n225⟩, -, X225, ⟨Lc225, hQ225, l225, y225, z225⟩, st225⟩ := X223.virtualBack hx (y := (⟨"com/example/cropmark/cropmark/Assessment$Sums", "assessedLb", "()Ljava/math/BigDecimal;"⟩ : MethodName)) (z := (⟨"com/example/cropmark/cropmark/Assessment$Sums", "assessedLb", "()Ljava/math/BigDecimal;"⟩ : MethodName)) hown (mvT hZ (w84 hw)) (mvT hZ (w85 hw)) (notFace_of_selects (args := #[]) (mvT hZ (w87 hw))) (mvT hZ (w87 hw)) (mvT hZ (w86 hw)) (by decide) (backOf (W := 0) (rm15_1 l Z a0 hw [] b197 bv_1_2_1_7_6_222 T222.heap n0 O222 r222_1) hZ (w88 hw) (w29 hw) (by decide) (by decide)) q225a q225c (g := (mkF m 164 #[.val (.int i0), .val (.int i1), .val (.int i2), .val (.int i3), .val (.int i4), .val (.int i5), .val (.int (1 : Int32)), .val (.int (1 : Int32)), .val (.ref bv_176), .val (.ref b177), .val (.ref b187), .val (.ref b197), .val (.long ((i0.toInt64) + (i2.toInt64))), .second, .val (.long ((i1.toInt64) + (i3.toInt64))), .second] [(.ref b197)])) rfl (by rw [hml]; rfl) (Steps.refl _) (argsL := []) (rest := []) (lenOf pd_4 rfl) rfl (by show 2 * 0 + _ ≤ _; exact Nat.le_of_eq rfl) (hb hby at_164) (fun vm₁ hw₁ => ⟨rfl, eh223, (by decide : 12 + 0 ≤ _), (by decide : 56 + 0 ≤ _)⟩)
      dsimp only [Pt.U, Pt.locs, Pt.cells, Pt.slots] at X225 l225 y225 z225 st225 hQ225
      subst l225 y225 z225
      obtain ⟨rfl, M225, eh225⟩ := hQ225
      have N225 := Fr.app N223 M225
      refine Go.tr st225 ?_
      show Go p e below _ (T225.setTop (mkF m 167 #[.val (.int i0), .val (.int i1), .val (.int i2), .val (.int i3), .val (.int i4), .val (.int i5), .val (.int (1 : Int32)), .val (.int (1 : Int32)), .val (.ref bv_176), .val (.ref b177), .val (.ref b187), .val (.ref b197), .val (.long ((i0.toInt64) + (i2.toInt64))), .second, .val (.long ((i1.toInt64) + (i3.toInt64))), .second] [(.ref bv_1_2_1_7_6_222)]))
      refine Go.st (fun t k => XS.lload X225.here hx rfl (hb hby at_167) rfl k) ?_
      show Go p e below _ (T225.setTop (mkF m 169 #[.val (.int i0), .val (.int i1), .val (.int i2), .val (.int i3), .val (.int i4), .val (.int i5), .val (.int (1 : Int32)), .val (.int (1 : Int32)), .val (.ref bv_176), .val (.ref b177), .val (.ref b187), .val (.ref b197), .val (.long ((i0.toInt64) + (i2.toInt64))), .second, .val (.long ((i1.toInt64) + (i3.toInt64))), .second] [(.long ((i0.toInt64) + (i2.toInt64))), (.ref bv_1_2_1_7_6_222)]))
      have hp226 : ¬ (((i0.toInt64) + (i2.toInt64)) = (-9223372036854775808 : Int64)) := by
        have j1 := own_b32 i0
        have j2 := own_b64 (i0.toInt64)
        have j3 := c_i2l i0
        have j4 := own_b32 i2
        have j5 := own_b64 (i2.toInt64)
        have j6 := c_i2l i2
        have j7 := own_b64 ((i0.toInt64) + (i2.toInt64))
        have j8 := c_ladd (i0.toInt64) (i2.toInt64)
        have j9 : ((-9223372036854775808 : Int64)).toInt = -9223372036854775808 := by decide
        rw [← Int64.toInt_inj]
        omega
      obtain ⟨_, _, ⟨T227, L227, k227, n227⟩, -, X227, ⟨Lc227, hQ227, l227, y227, z227⟩, st227⟩ := Jvm.LawKit.callS X225 hx (y := (⟨"java/math/BigDecimal", "valueOf", "(J)Ljava/math/BigDecimal;"⟩ : MethodName)) hown (mvT hZ (w0 hw)) (mvT hZ (w1 hw)) (mvT hZ (w2 hw)) (mvT hZ (w3 hw)) (by decide) (backOf (W := 1) (rmV l Z a0 hw [] ((i0.toInt64) + (i2.toInt64)) w1a k4c w6a w24a w40a w56a w68a w80a w92a w104a w116a w128a w140a T222.heap n0 O222 hp226 Y3 Y235 Y156 Y230 Y232 Y26 Y170 Y172 Y42 Y176 Y178 Y58 Y182 Y184 Y70 Y188 Y190 Y82 Y194 Y196 Y94 Y200 Y202 Y106 Y206 Y208 Y118 Y212 Y214 Y130 Y218 Y220 Y142 Y224 Y226) hZ (w3 hw) (w2 hw) (by decide) (by decide)) (g := (mkF m 169 #[.val (.int i0), .val (.int i1), .val (.int i2), .val (.int i3), .val (.int i4), .val (.int i5), .val (.int (1 : Int32)), .val (.int (1 : Int32)), .val (.ref bv_176), .val (.ref b177), .val (.ref b187), .val (.ref b197), .val (.long ((i0.toInt64) + (i2.toInt64))), .second, .val (.long ((i1.toInt64) + (i3.toInt64))), .second] [(.long ((i0.toInt64) + (i2.toInt64))), (.ref bv_1_2_1_7_6_222)])) rfl (by rw [hml]; rfl) (argsL := [(.long ((i0.toInt64) + (i2.toInt64)))]) (rest := [(.ref bv_1_2_1_7_6_222)]) (lenOf pd_2 rfl) rfl (by show 2 * 0 + _ ≤ _; exact Nat.le_of_eq rfl) (hb hby at_169) (fun vm₁ hw₁ => ⟨rfl, eh225, (by decide : 12 + 1 ≤ _), (by decide : 56 + 5 ≤ _)⟩)
      dsimp only [Pt.U, Pt.locs, Pt.cells, Pt.slots] at X227 l227 y227 z227 st227 hQ227
      subst l227 y227 z227
      obtain ⟨bv_227, rfl, M227, K227c, r227_0, r227_1, r227_2⟩ := hQ227
      have N227 := Fr.app N225 M227
      have O227 : Old Z n0 T227.heap := O222.keep K227c all0
      refine Go.st st227 ?_
      show Go p e below _ (T227.setTop (mkF m 172 #[.val (.int i0), .val (.int i1), .val (.int i2), .val (.int i3), .val (.int i4), .val (.int i5), .val (.int (1 : Int32)), .val (.int (1 : Int32)), .val (.ref bv_176), .val (.ref b177), .val (.ref b187), .val (.ref b197), .val (.long ((i0.toInt64) + (i2.toInt64))), .second, .val (.long ((i1.toInt64) + (i3.toInt64))), .second] [(.ref bv_227), (.ref bv_1_2_1_7_6_222)]))
      by_cases hc228 : bv_227 = bv_1_2_1_7_6_222
      · obtain ⟨cq229, kq229, q229a, q229b, q229c⟩ := isOf hZ rfl (r222_3.keep K227c)
        obtain ⟨_, _, ⟨T229, L229, k229, n229⟩, -, X229, ⟨Lc229, hQ229, l229, y229, z229⟩, st229⟩ := X227.virtualBack hx (y := (⟨"java/math/BigDecimal", "equals", "(Ljava/lang/Object;)Z"⟩ : MethodName)) (z := (⟨"java/math/BigDecimal", "equals", "(Ljava/lang/Object;)Z"⟩ : MethodName)) hown (mvT hZ (w89 hw)) (mvT hZ (w90 hw)) (notFace_of_selects (args := #[]) (mvT hZ (w92 hw))) (mvT hZ (w92 hw)) (mvT hZ (w91 hw)) (by decide) (backOf (W := 0) (rm16_1 l Z a0 hw [] bv_1_2_1_7_6_222 bv_227 T227.heap n0 O227 r227_0 (r222_3.keep K227c) hc228) hZ (w93 hw) (w2 hw) (by decide) (by decide)) q229a q229c (g := (mkF m 172 #[.val (.int i0), .val (.int i1), .val (.int i2), .val (.int i3), .val (.int i4), .val (.int i5), .val (.int (1 : Int32)), .val (.int (1 : Int32)), .val (.ref bv_176), .val (.ref b177), .val (.ref b187), .val (.ref b197), .val (.long ((i0.toInt64) + (i2.toInt64))), .second, .val (.long ((i1.toInt64) + (i3.toInt64))), .second] [(.ref bv_227), (.ref bv_1_2_1_7_6_222)])) rfl (by rw [hml]; rfl) (Steps.refl _) (argsL := [(.ref bv_227)]) (rest := []) (lenOf pd_12 rfl) rfl (by show 2 * 0 + _ ≤ _; exact Nat.le_of_eq rfl) (hb hby at_172) (fun vm₁ hw₁ => ⟨rfl, rfl, (by decide : 13 + 0 ≤ _), (by decide : 61 + 0 ≤ _)⟩)
        dsimp only [Pt.U, Pt.locs, Pt.cells, Pt.slots] at X229 l229 y229 z229 st229 hQ229
        subst l229 y229 z229
        obtain ⟨rfl, M229, eh229⟩ := hQ229
        have N229 := Fr.app N227 M229
        refine Go.tr st229 ?_
        show Go p e below _ (T229.setTop (mkF m 175 #[.val (.int i0), .val (.int i1), .val (.int i2), .val (.int i3), .val (.int i4), .val (.int i5), .val (.int (1 : Int32)), .val (.int (1 : Int32)), .val (.ref bv_176), .val (.ref b177), .val (.ref b187), .val (.ref b197), .val (.long ((i0.toInt64) + (i2.toInt64))), .second, .val (.long ((i1.toInt64) + (i3.toInt64))), .second] [(.int (1 : Int32))]))
        refine Go.st (fun t k => XS.ifNo X229.here hx rfl (hb hby at_175) rfl (Jvm.Free.XT.i0_eq_f (by decide : ¬ ((1 : Int32) = (0 : Int32)))) k) ?_
        show Go p e below _ (T229.setTop (mkF m 178 #[.val (.int i0), .val (.int i1), .val (.int i2), .val (.int i3), .val (.int i4), .val (.int i5), .val (.int (1 : Int32)), .val (.int (1 : Int32)), .val (.ref bv_176), .val (.ref b177), .val (.ref b187), .val (.ref b197), .val (.long ((i0.toInt64) + (i2.toInt64))), .second, .val (.long ((i1.toInt64) + (i3.toInt64))), .second] []))
        refine Go.st (fun t k => XS.aload X229.here hx rfl (hb hby at_178) rfl rfl k) ?_
        show Go p e below _ (T229.setTop (mkF m 180 #[.val (.int i0), .val (.int i1), .val (.int i2), .val (.int i3), .val (.int i4), .val (.int i5), .val (.int (1 : Int32)), .val (.int (1 : Int32)), .val (.ref bv_176), .val (.ref b177), .val (.ref b187), .val (.ref b197), .val (.long ((i0.toInt64) + (i2.toInt64))), .second, .val (.long ((i1.toInt64) + (i3.toInt64))), .second] [(.ref b197)]))
        obtain ⟨cq230, kq230, q230a, q230b, q230c⟩ := isOf hZ eh229 (c224.keep K227c)
        obtain ⟨_, _, ⟨T230, L230, k230, n230⟩, -, X230, ⟨Lc230, hQ230, l230, y230, z230⟩, st230⟩ := X229.virtualBack hx (y := (⟨"com/example/cropmark/cropmark/Assessment$Sums", "inedibleLb", "()Ljava/math/BigDecimal;"⟩ : MethodName)) (z := (⟨"com/example/cropmark/cropmark/Assessment$Sums", "inedibleLb", "()Ljava/math/BigDecimal;"⟩ : MethodName)) hown (mvT hZ (w96 hw)) (mvT hZ (w97 hw)) (notFace_of_selects (args := #[]) (mvT hZ (w99 hw))) (mvT hZ (w99 hw)) (mvT hZ (w98 hw)) (by decide) (backOf (W := 0) (rm17_1 l Z a0 hw [] b197 bv_1_2_1_7_17_222 T227.heap n0 O227 (r222_2.keep K227c nin0)) hZ (w100 hw) (w29 hw) (by decide) (by decide)) q230a q230c (g := (mkF m 180 #[.val (.int i0), .val (.int i1), .val (.int i2), .val (.int i3), .val (.int i4), .val (.int i5), .val (.int (1 : Int32)), .val (.int (1 : Int32)), .val (.ref bv_176), .val (.ref b177), .val (.ref b187), .val (.ref b197), .val (.long ((i0.toInt64) + (i2.toInt64))), .second, .val (.long ((i1.toInt64) + (i3.toInt64))), .second] [(.ref b197)])) rfl (by rw [hml]; rfl) (Steps.refl _) (argsL := []) (rest := []) (lenOf pd_4 rfl) rfl (by show 2 * 0 + _ ≤ _; exact Nat.le_of_eq rfl) (hb hby at_180) (fun vm₁ hw₁ => ⟨rfl, eh229, (by decide : 13 + 0 ≤ _), (by decide : 61 + 0 ≤ _)⟩)
        dsimp only [Pt.U, Pt.locs, Pt.cells, Pt.slots] at X230 l230 y230 z230 st230 hQ230
        subst l230 y230 z230
        obtain ⟨rfl, M230, eh230⟩ := hQ230
        have N230 := Fr.app N229 M230
        refine Go.tr st230 ?_
        show Go p e below _ (T230.setTop (mkF m 183 #[.val (.int i0), .val (.int i1), .val (.int i2), .val (.int i3), .val (.int i4), .val (.int i5), .val (.int (1 : Int32)), .val (.int (1 : Int32)), .val (.ref bv_176), .val (.ref b177), .val (.ref b187), .val (.ref b197), .val (.long ((i0.toInt64) + (i2.toInt64))), .second, .val (.long ((i1.toInt64) + (i3.toInt64))), .second] [(.ref bv_1_2_1_7_17_222)]))
        refine Go.st (fun t k => XS.lload X230.here hx rfl (hb hby at_183) rfl k) ?_
        show Go p e below _ (T230.setTop (mkF m 185 #[.val (.int i0), .val (.int i1), .val (.int i2), .val (.int i3), .val (.int i4), .val (.int i5), .val (.int (1 : Int32)), .val (.int (1 : Int32)), .val (.ref bv_176), .val (.ref b177), .val (.ref b187), .val (.ref b197), .val (.long ((i0.toInt64) + (i2.toInt64))), .second, .val (.long ((i1.toInt64) + (i3.toInt64))), .second] [(.long ((i1.toInt64) + (i3.toInt64))), (.ref bv_1_2_1_7_17_222)]))
        have hp231 : ¬ (((i1.toInt64) + (i3.toInt64)) = (-9223372036854775808 : Int64)) := by
          have j1 := own_b32 i1
          have j2 := own_b64 (i1.toInt64)
          have j3 := c_i2l i1
          have j4 := own_b32 i3
          have j5 := own_b64 (i3.toInt64)
          have j6 := c_i2l i3
          have j7 := own_b64 ((i1.toInt64) + (i3.toInt64))
          have j8 := c_ladd (i1.toInt64) (i3.toInt64)
          have j9 : ((-9223372036854775808 : Int64)).toInt = -9223372036854775808 := by decide
          rw [← Int64.toInt_inj]
          omega
        obtain ⟨_, _, ⟨T232, L232, k232, n232⟩, -, X232, ⟨Lc232, hQ232, l232, y232, z232⟩, st232⟩ := Jvm.LawKit.callS X230 hx (y := (⟨"java/math/BigDecimal", "valueOf", "(J)Ljava/math/BigDecimal;"⟩ : MethodName)) hown (mvT hZ (w0 hw)) (mvT hZ (w1 hw)) (mvT hZ (w2 hw)) (mvT hZ (w3 hw)) (by decide) (backOf (W := 1) (rmV l Z a0 hw [] ((i1.toInt64) + (i3.toInt64)) w1a k4c w6a w24a w40a w56a w68a w80a w92a w104a w116a w128a w140a T227.heap n0 O227 hp231 Y3 Y235 Y156 Y230 Y232 Y26 Y170 Y172 Y42 Y176 Y178 Y58 Y182 Y184 Y70 Y188 Y190 Y82 Y194 Y196 Y94 Y200 Y202 Y106 Y206 Y208 Y118 Y212 Y214 Y130 Y218 Y220 Y142 Y224 Y226) hZ (w3 hw) (w2 hw) (by decide) (by decide)) (g := (mkF m 185 #[.val (.int i0), .val (.int i1), .val (.int i2), .val (.int i3), .val (.int i4), .val (.int i5), .val (.int (1 : Int32)), .val (.int (1 : Int32)), .val (.ref bv_176), .val (.ref b177), .val (.ref b187), .val (.ref b197), .val (.long ((i0.toInt64) + (i2.toInt64))), .second, .val (.long ((i1.toInt64) + (i3.toInt64))), .second] [(.long ((i1.toInt64) + (i3.toInt64))), (.ref bv_1_2_1_7_17_222)])) rfl (by rw [hml]; rfl) (argsL := [(.long ((i1.toInt64) + (i3.toInt64)))]) (rest := [(.ref bv_1_2_1_7_17_222)]) (lenOf pd_2 rfl) rfl (by show 2 * 0 + _ ≤ _; exact Nat.le_of_eq rfl) (hb hby at_185) (fun vm₁ hw₁ => ⟨rfl, eh230, (by decide : 13 + 1 ≤ _), (by decide : 61 + 5 ≤ _)⟩)
        dsimp only [Pt.U, Pt.locs, Pt.cells, Pt.slots] at X232 l232 y232 z232 st232 hQ232
        subst l232 y232 z232
        obtain ⟨bv_232, rfl, M232, K232c, r232_0, r232_1, r232_2⟩ := hQ232
        have N232 := Fr.app N230 M232
        have O232 : Old Z n0 T232.heap := O227.keep K232c all0
        refine Go.st st232 ?_
        show Go p e below _ (T232.setTop (mkF m 188 #[.val (.int i0), .val (.int i1), .val (.int i2), .val (.int i3), .val (.int i4), .val (.int i5), .val (.int (1 : Int32)), .val (.int (1 : Int32)), .val (.ref bv_176), .val (.ref b177), .val (.ref b187), .val (.ref b197), .val (.long ((i0.toInt64) + (i2.toInt64))), .second, .val (.long ((i1.toInt64) + (i3.toInt64))), .second] [(.ref bv_232), (.ref bv_1_2_1_7_17_222)]))
        by_cases hc233 : bv_232 = bv_1_2_1_7_17_222
        · obtain ⟨cq234, kq234, q234a, q234b, q234c⟩ := isOf hZ rfl ((r222_6.keep K227c).keep K232c)
          obtain ⟨_, _, ⟨T234, L234, k234, n234⟩, -, X234, ⟨Lc234, hQ234, l234, y234, z234⟩, st234⟩ := X232.virtualBack hx (y := (⟨"java/math/BigDecimal", "equals", "(Ljava/lang/Object;)Z"⟩ : MethodName)) (z := (⟨"java/math/BigDecimal", "equals", "(Ljava/lang/Object;)Z"⟩ : MethodName)) hown (mvT hZ (w89 hw)) (mvT hZ (w90 hw)) (notFace_of_selects (args := #[]) (mvT hZ (w92 hw))) (mvT hZ (w92 hw)) (mvT hZ (w91 hw)) (by decide) (backOf (W := 0) (rm16_1 l Z a0 hw [] bv_1_2_1_7_17_222 bv_232 T232.heap n0 O232 r232_0 ((r222_6.keep K227c).keep K232c) hc233) hZ (w93 hw) (w2 hw) (by decide) (by decide)) q234a q234c (g := (mkF m 188 #[.val (.int i0), .val (.int i1), .val (.int i2), .val (.int i3), .val (.int i4), .val (.int i5), .val (.int (1 : Int32)), .val (.int (1 : Int32)), .val (.ref bv_176), .val (.ref b177), .val (.ref b187), .val (.ref b197), .val (.long ((i0.toInt64) + (i2.toInt64))), .second, .val (.long ((i1.toInt64) + (i3.toInt64))), .second] [(.ref bv_232), (.ref bv_1_2_1_7_17_222)])) rfl (by rw [hml]; rfl) (Steps.refl _) (argsL := [(.ref bv_232)]) (rest := []) (lenOf pd_12 rfl) rfl (by show 2 * 0 + _ ≤ _; exact Nat.le_of_eq rfl) (hb hby at_188) (fun vm₁ hw₁ => ⟨rfl, rfl, (by decide : 14 + 0 ≤ _), (by decide : 66 + 0 ≤ _)⟩)
          dsimp only [Pt.U, Pt.locs, Pt.cells, Pt.slots] at X234 l234 y234 z234 st234 hQ234
          subst l234 y234 z234
          obtain ⟨rfl, M234, eh234⟩ := hQ234
          have N234 := Fr.app N232 M234
          refine Go.tr st234 ?_
          show Go p e below _ (T234.setTop (mkF m 191 #[.val (.int i0), .val (.int i1), .val (.int i2), .val (.int i3), .val (.int i4), .val (.int i5), .val (.int (1 : Int32)), .val (.int (1 : Int32)), .val (.ref bv_176), .val (.ref b177), .val (.ref b187), .val (.ref b197), .val (.long ((i0.toInt64) + (i2.toInt64))), .second, .val (.long ((i1.toInt64) + (i3.toInt64))), .second] [(.int (1 : Int32))]))
          refine Go.st (fun t k => XS.ifNo X234.here hx rfl (hb hby at_191) rfl (Jvm.Free.XT.i0_eq_f (by decide : ¬ ((1 : Int32) = (0 : Int32)))) k) ?_
          show Go p e below _ (T234.setTop (mkF m 194 #[.val (.int i0), .val (.int i1), .val (.int i2), .val (.int i3), .val (.int i4), .val (.int i5), .val (.int (1 : Int32)), .val (.int (1 : Int32)), .val (.ref bv_176), .val (.ref b177), .val (.ref b187), .val (.ref b197), .val (.long ((i0.toInt64) + (i2.toInt64))), .second, .val (.long ((i1.toInt64) + (i3.toInt64))), .second] []))
          refine Go.st (fun t k => XS.iconst X234.here hx rfl (hb hby at_194) k) ?_
          show Go p e below _ (T234.setTop (mkF m 195 #[.val (.int i0), .val (.int i1), .val (.int i2), .val (.int i3), .val (.int i4), .val (.int i5), .val (.int (1 : Int32)), .val (.int (1 : Int32)), .val (.ref bv_176), .val (.ref b177), .val (.ref b187), .val (.ref b197), .val (.long ((i0.toInt64) + (i2.toInt64))), .second, .val (.long ((i1.toInt64) + (i3.toInt64))), .second] [(.int (1 : Int32))]))
          refine Go.st (fun t k => XS.goto X234.here hx rfl (pc0 := 195) (pc' := 199) rfl (hb hby at_195) (by decide) (by decide) k) ?_
          show Go p e below _ (T234.setTop (mkF m 199 #[.val (.int i0), .val (.int i1), .val (.int i2), .val (.int i3), .val (.int i4), .val (.int i5), .val (.int (1 : Int32)), .val (.int (1 : Int32)), .val (.ref bv_176), .val (.ref b177), .val (.ref b187), .val (.ref b197), .val (.long ((i0.toInt64) + (i2.toInt64))), .second, .val (.long ((i1.toInt64) + (i3.toInt64))), .second] [(.int (1 : Int32))]))
          obtain ⟨fs, hr, hrun, hended, hWd, hsame⟩ := X234.leave (v := some (.int (1 : Int32))) (fun h => by rw [Bd.returns] at h; cases h)
          refine ⟨_, _, ?_, hrun, hended, _, _, rfl, ?_, ⟨⟨_, rfl⟩, hWd, hsame.mono (by decide) (by decide)⟩⟩
          · exact retN X234 hx (t := .boolean) Bd.returns (by simp) (hb hby at_199) hr
          · exact ⟨rfl, N234⟩
        · have hp235 : ((i1.toInt64) + (i3.toInt64)) = (((0 : Int64) + (i1.toInt64)) + (i3.toInt64)) := by
            have j1 := own_b32 i1
            have j2 := own_b64 (i1.toInt64)
            have j3 := c_i2l i1
            have j4 := own_b32 i3
            have j5 := own_b64 (i3.toInt64)
            have j6 := c_i2l i3
            have j7 := own_b64 ((i1.toInt64) + (i3.toInt64))
            have j8 := c_ladd (i1.toInt64) (i3.toInt64)
            have j9 : ((0 : Int64)).toInt = 0 := by decide
            have j10 := own_b64 ((0 : Int64) + (i1.toInt64))
            have j11 := c_ladd (0 : Int64) (i1.toInt64)
            have j12 := own_b64 (((0 : Int64) + (i1.toInt64)) + (i3.toInt64))
            have j13 := c_ladd ((0 : Int64) + (i1.toInt64)) (i3.toInt64)
            rw [← Int64.toInt_inj]
            omega
          have c236 := ((r222_7.keep K227c nin0).keep K232c nin0)
          have c237 := ((r222_8.keep K227c nin0).keep K232c nin0)
          obtain ⟨cq238, kq238, q238a, q238b, q238c⟩ := isOf hZ rfl ((r222_6.keep K227c).keep K232c)
          obtain ⟨_, _, ⟨T238, L238, k238, n238⟩, -, X238, ⟨Lc238, hQ238, l238, y238, z238⟩, st238⟩ := X232.virtualBack hx (y := (⟨"java/math/BigDecimal", "equals", "(Ljava/lang/Object;)Z"⟩ : MethodName)) (z := (⟨"java/math/BigDecimal", "equals", "(Ljava/lang/Object;)Z"⟩ : MethodName)) hown (mvT hZ (w89 hw)) (mvT hZ (w90 hw)) (notFace_of_selects (args := #[]) (mvT hZ (w92 hw))) (mvT hZ (w92 hw)) (mvT hZ (w91 hw)) (by decide) (backOf (W := 0) (rm16_4 l Z a0 hw [] bv_1_2_1_7_17_222 bv_232 (((0 : Int64) + (i1.toInt64)) + (i3.toInt64)) ((i1.toInt64) + (i3.toInt64)) T232.heap n0 O232 r232_0 ((r222_6.keep K227c).keep K232c) hc233 c236 r232_1 c237 r232_2 hp214 hp231 hp235) hZ (w93 hw) (w2 hw) (by decide) (by decide)) q238a q238c (g := (mkF m 188 #[.val (.int i0), .val (.int i1), .val (.int i2), .val (.int i3), .val (.int i4), .val (.int i5), .val (.int (1 : Int32)), .val (.int (1 : Int32)), .val (.ref bv_176), .val (.ref b177), .val (.ref b187), .val (.ref b197), .val (.long ((i0.toInt64) + (i2.toInt64))), .second, .val (.long ((i1.toInt64) + (i3.toInt64))), .second] [(.ref bv_232), (.ref bv_1_2_1_7_17_222)])) rfl (by rw [hml]; rfl) (Steps.refl _) (argsL := [(.ref bv_232)]) (rest := []) (lenOf pd_12 rfl) rfl (by show 2 * 0 + _ ≤ _; exact Nat.le_of_eq rfl) (hb hby at_188) (fun vm₁ hw₁ => ⟨rfl, rfl, (by decide : 14 + 0 ≤ _), (by decide : 66 + 0 ≤ _)⟩)
          dsimp only [Pt.U, Pt.locs, Pt.cells, Pt.slots] at X238 l238 y238 z238 st238 hQ238
          subst l238 y238 z238
          obtain ⟨rfl, M238, eh238⟩ := hQ238
          have N238 := Fr.app N232 M238
          refine Go.tr st238 ?_
          show Go p e below _ (T238.setTop (mkF m 191 #[.val (.int i0), .val (.int i1), .val (.int i2), .val (.int i3), .val (.int i4), .val (.int i5), .val (.int (1 : Int32)), .val (.int (1 : Int32)), .val (.ref bv_176), .val (.ref b177), .val (.ref b187), .val (.ref b197), .val (.long ((i0.toInt64) + (i2.toInt64))), .second, .val (.long ((i1.toInt64) + (i3.toInt64))), .second] [(.int (1 : Int32))]))
          refine Go.st (fun t k => XS.ifNo X238.here hx rfl (hb hby at_191) rfl (Jvm.Free.XT.i0_eq_f (by decide : ¬ ((1 : Int32) = (0 : Int32)))) k) ?_
          show Go p e below _ (T238.setTop (mkF m 194 #[.val (.int i0), .val (.int i1), .val (.int i2), .val (.int i3), .val (.int i4), .val (.int i5), .val (.int (1 : Int32)), .val (.int (1 : Int32)), .val (.ref bv_176), .val (.ref b177), .val (.ref b187), .val (.ref b197), .val (.long ((i0.toInt64) + (i2.toInt64))), .second, .val (.long ((i1.toInt64) + (i3.toInt64))), .second] []))
          refine Go.st (fun t k => XS.iconst X238.here hx rfl (hb hby at_194) k) ?_
          show Go p e below _ (T238.setTop (mkF m 195 #[.val (.int i0), .val (.int i1), .val (.int i2), .val (.int i3), .val (.int i4), .val (.int i5), .val (.int (1 : Int32)), .val (.int (1 : Int32)), .val (.ref bv_176), .val (.ref b177), .val (.ref b187), .val (.ref b197), .val (.long ((i0.toInt64) + (i2.toInt64))), .second, .val (.long ((i1.toInt64) + (i3.toInt64))), .second] [(.int (1 : Int32))]))
          refine Go.st (fun t k => XS.goto X238.here hx rfl (pc0 := 195) (pc' := 199) rfl (hb hby at_195) (by decide) (by decide) k) ?_
          show Go p e below _ (T238.setTop (mkF m 199 #[.val (.int i0), .val (.int i1), .val (.int i2), .val (.int i3), .val (.int i4), .val (.int i5), .val (.int (1 : Int32)), .val (.int (1 : Int32)), .val (.ref bv_176), .val (.ref b177), .val (.ref b187), .val (.ref b197), .val (.long ((i0.toInt64) + (i2.toInt64))), .second, .val (.long ((i1.toInt64) + (i3.toInt64))), .second] [(.int (1 : Int32))]))
          obtain ⟨fs, hr, hrun, hended, hWd, hsame⟩ := X238.leave (v := some (.int (1 : Int32))) (fun h => by rw [Bd.returns] at h; cases h)
          refine ⟨_, _, ?_, hrun, hended, _, _, rfl, ?_, ⟨⟨_, rfl⟩, hWd, hsame.mono (by decide) (by decide)⟩⟩
          · exact retN X238 hx (t := .boolean) Bd.returns (by simp) (hb hby at_199) hr
          · exact ⟨rfl, N238⟩
      · have hp239 : ((i0.toInt64) + (i2.toInt64)) = (((0 : Int64) + (i0.toInt64)) + (i2.toInt64)) := by
          have j1 := own_b32 i0
          have j2 := own_b64 (i0.toInt64)
          have j3 := c_i2l i0
          have j4 := own_b32 i2
          have j5 := own_b64 (i2.toInt64)
          have j6 := c_i2l i2
          have j7 := own_b64 ((i0.toInt64) + (i2.toInt64))
          have j8 := c_ladd (i0.toInt64) (i2.toInt64)
          have j9 : ((0 : Int64)).toInt = 0 := by decide
          have j10 := own_b64 ((0 : Int64) + (i0.toInt64))
          have j11 := c_ladd (0 : Int64) (i0.toInt64)
          have j12 := own_b64 (((0 : Int64) + (i0.toInt64)) + (i2.toInt64))
          have j13 := c_ladd ((0 : Int64) + (i0.toInt64)) (i2.toInt64)
          rw [← Int64.toInt_inj]
          omega
        obtain ⟨cq240, kq240, q240a, q240b, q240c⟩ := isOf hZ rfl (r222_3.keep K227c)
        obtain ⟨_, _, ⟨T240, L240, k240, n240⟩, -, X240, ⟨Lc240, hQ240, l240, y240, z240⟩, st240⟩ := X227.virtualBack hx (y := (⟨"java/math/BigDecimal", "equals", "(Ljava/lang/Object;)Z"⟩ : MethodName)) (z := (⟨"java/math/BigDecimal", "equals", "(Ljava/lang/Object;)Z"⟩ : MethodName)) hown (mvT hZ (w89 hw)) (mvT hZ (w90 hw)) (notFace_of_selects (args := #[]) (mvT hZ (w92 hw))) (mvT hZ (w92 hw)) (mvT hZ (w91 hw)) (by decide) (backOf (W := 0) (rm16_4 l Z a0 hw [] bv_1_2_1_7_6_222 bv_227 (((0 : Int64) + (i0.toInt64)) + (i2.toInt64)) ((i0.toInt64) + (i2.toInt64)) T227.heap n0 O227 r227_0 (r222_3.keep K227c) hc228 (r222_4.keep K227c nin0) r227_1 (r222_5.keep K227c nin0) r227_2 hp212 hp226 hp239) hZ (w93 hw) (w2 hw) (by decide) (by decide)) q240a q240c (g := (mkF m 172 #[.val (.int i0), .val (.int i1), .val (.int i2), .val (.int i3), .val (.int i4), .val (.int i5), .val (.int (1 : Int32)), .val (.int (1 : Int32)), .val (.ref bv_176), .val (.ref b177), .val (.ref b187), .val (.ref b197), .val (.long ((i0.toInt64) + (i2.toInt64))), .second, .val (.long ((i1.toInt64) + (i3.toInt64))), .second] [(.ref bv_227), (.ref bv_1_2_1_7_6_222)])) rfl (by rw [hml]; rfl) (Steps.refl _) (argsL := [(.ref bv_227)]) (rest := []) (lenOf pd_12 rfl) rfl (by show 2 * 0 + _ ≤ _; exact Nat.le_of_eq rfl) (hb hby at_172) (fun vm₁ hw₁ => ⟨rfl, rfl, (by decide : 13 + 0 ≤ _), (by decide : 61 + 0 ≤ _)⟩)
        dsimp only [Pt.U, Pt.locs, Pt.cells, Pt.slots] at X240 l240 y240 z240 st240 hQ240
        subst l240 y240 z240
        obtain ⟨rfl, M240, eh240⟩ := hQ240
        have N240 := Fr.app N227 M240
        refine Go.tr st240 ?_
        show Go p e below _ (T240.setTop (mkF m 175 #[.val (.int i0), .val (.int i1), .val (.int i2), .val (.int i3), .val (.int i4), .val (.int i5), .val (.int (1 : Int32)), .val (.int (1 : Int32)), .val (.ref bv_176), .val (.ref b177), .val (.ref b187), .val (.ref b197), .val (.long ((i0.toInt64) + (i2.toInt64))), .second, .val (.long ((i1.toInt64) + (i3.toInt64))), .second] [(.int (1 : Int32))]))
        refine Go.st (fun t k => XS.ifNo X240.here hx rfl (hb hby at_175) rfl (Jvm.Free.XT.i0_eq_f (by decide : ¬ ((1 : Int32) = (0 : Int32)))) k) ?_
        show Go p e below _ (T240.setTop (mkF m 178 #[.val (.int i0), .val (.int i1), .val (.int i2), .val (.int i3), .val (.int i4), .val (.int i5), .val (.int (1 : Int32)), .val (.int (1 : Int32)), .val (.ref bv_176), .val (.ref b177), .val (.ref b187), .val (.ref b197), .val (.long ((i0.toInt64) + (i2.toInt64))), .second, .val (.long ((i1.toInt64) + (i3.toInt64))), .second] []))
        refine Go.st (fun t k => XS.aload X240.here hx rfl (hb hby at_178) rfl rfl k) ?_
        show Go p e below _ (T240.setTop (mkF m 180 #[.val (.int i0), .val (.int i1), .val (.int i2), .val (.int i3), .val (.int i4), .val (.int i5), .val (.int (1 : Int32)), .val (.int (1 : Int32)), .val (.ref bv_176), .val (.ref b177), .val (.ref b187), .val (.ref b197), .val (.long ((i0.toInt64) + (i2.toInt64))), .second, .val (.long ((i1.toInt64) + (i3.toInt64))), .second] [(.ref b197)]))
        obtain ⟨cq241, kq241, q241a, q241b, q241c⟩ := isOf hZ eh240 (c224.keep K227c)
        obtain ⟨_, _, ⟨T241, L241, k241, n241⟩, -, X241, ⟨Lc241, hQ241, l241, y241, z241⟩, st241⟩ := X240.virtualBack hx (y := (⟨"com/example/cropmark/cropmark/Assessment$Sums", "inedibleLb", "()Ljava/math/BigDecimal;"⟩ : MethodName)) (z := (⟨"com/example/cropmark/cropmark/Assessment$Sums", "inedibleLb", "()Ljava/math/BigDecimal;"⟩ : MethodName)) hown (mvT hZ (w96 hw)) (mvT hZ (w97 hw)) (notFace_of_selects (args := #[]) (mvT hZ (w99 hw))) (mvT hZ (w99 hw)) (mvT hZ (w98 hw)) (by decide) (backOf (W := 0) (rm17_1 l Z a0 hw [] b197 bv_1_2_1_7_17_222 T227.heap n0 O227 (r222_2.keep K227c nin0)) hZ (w100 hw) (w29 hw) (by decide) (by decide)) q241a q241c (g := (mkF m 180 #[.val (.int i0), .val (.int i1), .val (.int i2), .val (.int i3), .val (.int i4), .val (.int i5), .val (.int (1 : Int32)), .val (.int (1 : Int32)), .val (.ref bv_176), .val (.ref b177), .val (.ref b187), .val (.ref b197), .val (.long ((i0.toInt64) + (i2.toInt64))), .second, .val (.long ((i1.toInt64) + (i3.toInt64))), .second] [(.ref b197)])) rfl (by rw [hml]; rfl) (Steps.refl _) (argsL := []) (rest := []) (lenOf pd_4 rfl) rfl (by show 2 * 0 + _ ≤ _; exact Nat.le_of_eq rfl) (hb hby at_180) (fun vm₁ hw₁ => ⟨rfl, eh240, (by decide : 13 + 0 ≤ _), (by decide : 61 + 0 ≤ _)⟩)
        dsimp only [Pt.U, Pt.locs, Pt.cells, Pt.slots] at X241 l241 y241 z241 st241 hQ241
        subst l241 y241 z241
        obtain ⟨rfl, M241, eh241⟩ := hQ241
        have N241 := Fr.app N240 M241
        refine Go.tr st241 ?_
        show Go p e below _ (T241.setTop (mkF m 183 #[.val (.int i0), .val (.int i1), .val (.int i2), .val (.int i3), .val (.int i4), .val (.int i5), .val (.int (1 : Int32)), .val (.int (1 : Int32)), .val (.ref bv_176), .val (.ref b177), .val (.ref b187), .val (.ref b197), .val (.long ((i0.toInt64) + (i2.toInt64))), .second, .val (.long ((i1.toInt64) + (i3.toInt64))), .second] [(.ref bv_1_2_1_7_17_222)]))
        refine Go.st (fun t k => XS.lload X241.here hx rfl (hb hby at_183) rfl k) ?_
        show Go p e below _ (T241.setTop (mkF m 185 #[.val (.int i0), .val (.int i1), .val (.int i2), .val (.int i3), .val (.int i4), .val (.int i5), .val (.int (1 : Int32)), .val (.int (1 : Int32)), .val (.ref bv_176), .val (.ref b177), .val (.ref b187), .val (.ref b197), .val (.long ((i0.toInt64) + (i2.toInt64))), .second, .val (.long ((i1.toInt64) + (i3.toInt64))), .second] [(.long ((i1.toInt64) + (i3.toInt64))), (.ref bv_1_2_1_7_17_222)]))
        have hp242 : ¬ (((i1.toInt64) + (i3.toInt64)) = (-9223372036854775808 : Int64)) := by
          have j1 := own_b32 i1
          have j2 := own_b64 (i1.toInt64)
          have j3 := c_i2l i1
          have j4 := own_b32 i3
          have j5 := own_b64 (i3.toInt64)
          have j6 := c_i2l i3
          have j7 := own_b64 ((i1.toInt64) + (i3.toInt64))
          have j8 := c_ladd (i1.toInt64) (i3.toInt64)
          have j9 : ((-9223372036854775808 : Int64)).toInt = -9223372036854775808 := by decide
          rw [← Int64.toInt_inj]
          omega
        obtain ⟨_, _, ⟨T243, L243, k243, n243⟩, -, X243, ⟨Lc243, hQ243, l243, y243, z243⟩, st243⟩ := Jvm.LawKit.callS X241 hx (y := (⟨"java/math/BigDecimal", "valueOf", "(J)Ljava/math/BigDecimal;"⟩ : MethodName)) hown (mvT hZ (w0 hw)) (mvT hZ (w1 hw)) (mvT hZ (w2 hw)) (mvT hZ (w3 hw)) (by decide) (backOf (W := 1) (rmV l Z a0 hw [] ((i1.toInt64) + (i3.toInt64)) w1a k4c w6a w24a w40a w56a w68a w80a w92a w104a w116a w128a w140a T227.heap n0 O227 hp242 Y3 Y235 Y156 Y230 Y232 Y26 Y170 Y172 Y42 Y176 Y178 Y58 Y182 Y184 Y70 Y188 Y190 Y82 Y194 Y196 Y94 Y200 Y202 Y106 Y206 Y208 Y118 Y212 Y214 Y130 Y218 Y220 Y142 Y224 Y226) hZ (w3 hw) (w2 hw) (by decide) (by decide)) (g := (mkF m 185 #[.val (.int i0), .val (.int i1), .val (.int i2), .val (.int i3), .val (.int i4), .val (.int i5), .val (.int (1 : Int32)), .val (.int (1 : Int32)), .val (.ref bv_176), .val (.ref b177), .val (.ref b187), .val (.ref b197), .val (.long ((i0.toInt64) + (i2.toInt64))), .second, .val (.long ((i1.toInt64) + (i3.toInt64))), .second] [(.long ((i1.toInt64) + (i3.toInt64))), (.ref bv_1_2_1_7_17_222)])) rfl (by rw [hml]; rfl) (argsL := [(.long ((i1.toInt64) + (i3.toInt64)))]) (rest := [(.ref bv_1_2_1_7_17_222)]) (lenOf pd_2 rfl) rfl (by show 2 * 0 + _ ≤ _; exact Nat.le_of_eq rfl) (hb hby at_185) (fun vm₁ hw₁ => ⟨rfl, eh241, (by decide : 13 + 1 ≤ _), (by decide : 61 + 5 ≤ _)⟩)
        dsimp only [Pt.U, Pt.locs, Pt.cells, Pt.slots] at X243 l243 y243 z243 st243 hQ243
        subst l243 y243 z243
        obtain ⟨bv_243, rfl, M243, K243c, r243_0, r243_1, r243_2⟩ := hQ243
        have N243 := Fr.app N241 M243
        have O243 : Old Z n0 T243.heap := O227.keep K243c all0
        refine Go.st st243 ?_
        show Go p e below _ (T243.setTop (mkF m 188 #[.val (.int i0), .val (.int i1), .val (.int i2), .val (.int i3), .val (.int i4), .val (.int i5), .val (.int (1 : Int32)), .val (.int (1 : Int32)), .val (.ref bv_176), .val (.ref b177), .val (.ref b187), .val (.ref b197), .val (.long ((i0.toInt64) + (i2.toInt64))), .second, .val (.long ((i1.toInt64) + (i3.toInt64))), .second] [(.ref bv_243), (.ref bv_1_2_1_7_17_222)]))
        by_cases hc244 : bv_243 = bv_1_2_1_7_17_222
        · obtain ⟨cq245, kq245, q245a, q245b, q245c⟩ := isOf hZ rfl ((r222_6.keep K227c).keep K243c)
          obtain ⟨_, _, ⟨T245, L245, k245, n245⟩, -, X245, ⟨Lc245, hQ245, l245, y245, z245⟩, st245⟩ := X243.virtualBack hx (y := (⟨"java/math/BigDecimal", "equals", "(Ljava/lang/Object;)Z"⟩ : MethodName)) (z := (⟨"java/math/BigDecimal", "equals", "(Ljava/lang/Object;)Z"⟩ : MethodName)) hown (mvT hZ (w89 hw)) (mvT hZ (w90 hw)) (notFace_of_selects (args := #[]) (mvT hZ (w92 hw))) (mvT hZ (w92 hw)) (mvT hZ (w91 hw)) (by decide) (backOf (W := 0) (rm16_1 l Z a0 hw [] bv_1_2_1_7_17_222 bv_243 T243.heap n0 O243 r243_0 ((r222_6.keep K227c).keep K243c) hc244) hZ (w93 hw) (w2 hw) (by decide) (by decide)) q245a q245c (g := (mkF m 188 #[.val (.int i0), .val (.int i1), .val (.int i2), .val (.int i3), .val (.int i4), .val (.int i5), .val (.int (1 : Int32)), .val (.int (1 : Int32)), .val (.ref bv_176), .val (.ref b177), .val (.ref b187), .val (.ref b197), .val (.long ((i0.toInt64) + (i2.toInt64))), .second, .val (.long ((i1.toInt64) + (i3.toInt64))), .second] [(.ref bv_243), (.ref bv_1_2_1_7_17_222)])) rfl (by rw [hml]; rfl) (Steps.refl _) (argsL := [(.ref bv_243)]) (rest := []) (lenOf pd_12 rfl) rfl (by show 2 * 0 + _ ≤ _; exact Nat.le_of_eq rfl) (hb hby at_188) (fun vm₁ hw₁ => ⟨rfl, rfl, (by decide : 14 + 0 ≤ _), (by decide : 66 + 0 ≤ _)⟩)
          dsimp only [Pt.U, Pt.locs, Pt.cells, Pt.slots] at X245 l245 y245 z245 st245 hQ245
          subst l245 y245 z245
          obtain ⟨rfl, M245, eh245⟩ := hQ245
          have N245 := Fr.app N243 M245
          refine Go.tr st245 ?_
          show Go p e below _ (T245.setTop (mkF m 191 #[.val (.int i0), .val (.int i1), .val (.int i2), .val (.int i3), .val (.int i4), .val (.int i5), .val (.int (1 : Int32)), .val (.int (1 : Int32)), .val (.ref bv_176), .val (.ref b177), .val (.ref b187), .val (.ref b197), .val (.long ((i0.toInt64) + (i2.toInt64))), .second, .val (.long ((i1.toInt64) + (i3.toInt64))), .second] [(.int (1 : Int32))]))
          refine Go.st (fun t k => XS.ifNo X245.here hx rfl (hb hby at_191) rfl (Jvm.Free.XT.i0_eq_f (by decide : ¬ ((1 : Int32) = (0 : Int32)))) k) ?_
          show Go p e below _ (T245.setTop (mkF m 194 #[.val (.int i0), .val (.int i1), .val (.int i2), .val (.int i3), .val (.int i4), .val (.int i5), .val (.int (1 : Int32)), .val (.int (1 : Int32)), .val (.ref bv_176), .val (.ref b177), .val (.ref b187), .val (.ref b197), .val (.long ((i0.toInt64) + (i2.toInt64))), .second, .val (.long ((i1.toInt64) + (i3.toInt64))), .second] []))
          refine Go.st (fun t k => XS.iconst X245.here hx rfl (hb hby at_194) k) ?_
          show Go p e below _ (T245.setTop (mkF m 195 #[.val (.int i0), .val (.int i1), .val (.int i2), .val (.int i3), .val (.int i4), .val (.int i5), .val (.int (1 : Int32)), .val (.int (1 : Int32)), .val (.ref bv_176), .val (.ref b177), .val (.ref b187), .val (.ref b197), .val (.long ((i0.toInt64) + (i2.toInt64))), .second, .val (.long ((i1.toInt64) + (i3.toInt64))), .second] [(.int (1 : Int32))]))
          refine Go.st (fun t k => XS.goto X245.here hx rfl (pc0 := 195) (pc' := 199) rfl (hb hby at_195) (by decide) (by decide) k) ?_
          show Go p e below _ (T245.setTop (mkF m 199 #[.val (.int i0), .val (.int i1), .val (.int i2), .val (.int i3), .val (.int i4), .val (.int i5), .val (.int (1 : Int32)), .val (.int (1 : Int32)), .val (.ref bv_176), .val (.ref b177), .val (.ref b187), .val (.ref b197), .val (.long ((i0.toInt64) + (i2.toInt64))), .second, .val (.long ((i1.toInt64) + (i3.toInt64))), .second] [(.int (1 : Int32))]))
          obtain ⟨fs, hr, hrun, hended, hWd, hsame⟩ := X245.leave (v := some (.int (1 : Int32))) (fun h => by rw [Bd.returns] at h; cases h)
          refine ⟨_, _, ?_, hrun, hended, _, _, rfl, ?_, ⟨⟨_, rfl⟩, hWd, hsame.mono (by decide) (by decide)⟩⟩
          · exact retN X245 hx (t := .boolean) Bd.returns (by simp) (hb hby at_199) hr
          · exact ⟨rfl, N245⟩
        · have hp246 : ((i1.toInt64) + (i3.toInt64)) = (((0 : Int64) + (i1.toInt64)) + (i3.toInt64)) := by
            have j1 := own_b32 i1
            have j2 := own_b64 (i1.toInt64)
            have j3 := c_i2l i1
            have j4 := own_b32 i3
            have j5 := own_b64 (i3.toInt64)
            have j6 := c_i2l i3
            have j7 := own_b64 ((i1.toInt64) + (i3.toInt64))
            have j8 := c_ladd (i1.toInt64) (i3.toInt64)
            have j9 : ((0 : Int64)).toInt = 0 := by decide
            have j10 := own_b64 ((0 : Int64) + (i1.toInt64))
            have j11 := c_ladd (0 : Int64) (i1.toInt64)
            have j12 := own_b64 (((0 : Int64) + (i1.toInt64)) + (i3.toInt64))
            have j13 := c_ladd ((0 : Int64) + (i1.toInt64)) (i3.toInt64)
            rw [← Int64.toInt_inj]
            omega
          have c247 := ((r222_7.keep K227c nin0).keep K243c nin0)
          have c248 := ((r222_8.keep K227c nin0).keep K243c nin0)
          obtain ⟨cq249, kq249, q249a, q249b, q249c⟩ := isOf hZ rfl ((r222_6.keep K227c).keep K243c)
          obtain ⟨_, _, ⟨T249, L249, k249, n249⟩, -, X249, ⟨Lc249, hQ249, l249, y249, z249⟩, st249⟩ := X243.virtualBack hx (y := (⟨"java/math/BigDecimal", "equals", "(Ljava/lang/Object;)Z"⟩ : MethodName)) (z := (⟨"java/math/BigDecimal", "equals", "(Ljava/lang/Object;)Z"⟩ : MethodName)) hown (mvT hZ (w89 hw)) (mvT hZ (w90 hw)) (notFace_of_selects (args := #[]) (mvT hZ (w92 hw))) (mvT hZ (w92 hw)) (mvT hZ (w91 hw)) (by decide) (backOf (W := 0) (rm16_4 l Z a0 hw [] bv_1_2_1_7_17_222 bv_243 (((0 : Int64) + (i1.toInt64)) + (i3.toInt64)) ((i1.toInt64) + (i3.toInt64)) T243.heap n0 O243 r243_0 ((r222_6.keep K227c).keep K243c) hc244 c247 r243_1 c248 r243_2 hp214 hp242 hp246) hZ (w93 hw) (w2 hw) (by decide) (by decide)) q249a q249c (g := (mkF m 188 #[.val (.int i0), .val (.int i1), .val (.int i2), .val (.int i3), .val (.int i4), .val (.int i5), .val (.int (1 : Int32)), .val (.int (1 : Int32)), .val (.ref bv_176), .val (.ref b177), .val (.ref b187), .val (.ref b197), .val (.long ((i0.toInt64) + (i2.toInt64))), .second, .val (.long ((i1.toInt64) + (i3.toInt64))), .second] [(.ref bv_243), (.ref bv_1_2_1_7_17_222)])) rfl (by rw [hml]; rfl) (Steps.refl _) (argsL := [(.ref bv_243)]) (rest := []) (lenOf pd_12 rfl) rfl (by show 2 * 0 + _ ≤ _; exact Nat.le_of_eq rfl) (hb hby at_188) (fun vm₁ hw₁ => ⟨rfl, rfl, (by decide : 14 + 0 ≤ _), (by decide : 66 + 0 ≤ _)⟩)
          dsimp only [Pt.U, Pt.locs, Pt.cells, Pt.slots] at X249 l249 y249 z249 st249 hQ249
          subst l249 y249 z249
          obtain ⟨rfl, M249, eh249⟩ := hQ249
          have N249 := Fr.app N243 M249
          refine Go.tr st249 ?_
          show Go p e below _ (T249.setTop (mkF m 191 #[.val (.int i0), .val (.int i1), .val (.int i2), .val (.int i3), .val (.int i4), .val (.int i5), .val (.int (1 : Int32)), .val (.int (1 : Int32)), .val (.ref bv_176), .val (.ref b177), .val (.ref b187), .val (.ref b197), .val (.long ((i0.toInt64) + (i2.toInt64))), .second, .val (.long ((i1.toInt64) + (i3.toInt64))), .second] [(.int (1 : Int32))]))
          refine Go.st (fun t k => XS.ifNo X249.here hx rfl (hb hby at_191) rfl (Jvm.Free.XT.i0_eq_f (by decide : ¬ ((1 : Int32) = (0 : Int32)))) k) ?_
          show Go p e below _ (T249.setTop (mkF m 194 #[.val (.int i0), .val (.int i1), .val (.int i2), .val (.int i3), .val (.int i4), .val (.int i5), .val (.int (1 : Int32)), .val (.int (1 : Int32)), .val (.ref bv_176), .val (.ref b177), .val (.ref b187), .val (.ref b197), .val (.long ((i0.toInt64) + (i2.toInt64))), .second, .val (.long ((i1.toInt64) + (i3.toInt64))), .second] []))
          refine Go.st (fun t k => XS.iconst X249.here hx rfl (hb hby at_194) k) ?_
          show Go p e below _ (T249.setTop (mkF m 195 #[.val (.int i0), .val (.int i1), .val (.int i2), .val (.int i3), .val (.int i4), .val (.int i5), .val (.int (1 : Int32)), .val (.int (1 : Int32)), .val (.ref bv_176), .val (.ref b177), .val (.ref b187), .val (.ref b197), .val (.long ((i0.toInt64) + (i2.toInt64))), .second, .val (.long ((i1.toInt64) + (i3.toInt64))), .second] [(.int (1 : Int32))]))
          refine Go.st (fun t k => XS.goto X249.here hx rfl (pc0 := 195) (pc' := 199) rfl (hb hby at_195) (by decide) (by decide) k) ?_
          show Go p e below _ (T249.setTop (mkF m 199 #[.val (.int i0), .val (.int i1), .val (.int i2), .val (.int i3), .val (.int i4), .val (.int i5), .val (.int (1 : Int32)), .val (.int (1 : Int32)), .val (.ref bv_176), .val (.ref b177), .val (.ref b187), .val (.ref b197), .val (.long ((i0.toInt64) + (i2.toInt64))), .second, .val (.long ((i1.toInt64) + (i3.toInt64))), .second] [(.int (1 : Int32))]))
          obtain ⟨fs, hr, hrun, hended, hWd, hsame⟩ := X249.leave (v := some (.int (1 : Int32))) (fun h => by rw [Bd.returns] at h; cases h)
          refine ⟨_, _, ?_, hrun, hended, _, _, rfl, ?_, ⟨⟨_, rfl⟩, hWd, hsame.mono (by decide) (by decide)⟩⟩
          · exact retN X249 hx (t := .boolean) Bd.returns (by simp) (hb hby at_199) hr
          · exact ⟨rfl, N249⟩
set_option maxRecDepth 65536 in
set_option maxHeartbeats 40000000 in
theorem comes_1 {Post : Tables → Env → Array Value → State → Outcome → State → Prop} (hpost : ∀ tb e args s v u, (limb_1_1.after args s (.returned v) u = true ∧ limb_1_2.after args s (.returned v) u = true ∧ True) → FrameEnd s (.returned v) u (Jvm.fieldLocs frame_1_writes args s ++ Jvm.arrayLocs frame_1_arrays args s ++ Jvm.staticLocs frame_1_statics s) 40 256 → Post tb e args s (.returned v) u) :
    ArmFor flags0 classFile x code maxLocals ret World_1 tables_1 room_1 Calls_1 rest_1 Pre_1 Post := by
  intro l hfl _ _ p e ha hc hk s m args below hf hA hF happ hP
  obtain ⟨hcalls, hrest, hpre⟩ := hP
  obtain ⟨-, -, -, hnamed, -, -, -, hat⟩ := (Spec.applies_iff hf).mp happ
  obtain ⟨hg, hn⟩ := and_e (Cond.before_iff.mp (show (Jvm.Cond.and given_1 narrow_1).before args s = true from hpre))
  obtain ⟨hcnt, hg⟩ := and_e hg
  obtain ⟨hv0, hg⟩ := and_e hg
  obtain ⟨hv1, hg⟩ := and_e hg
  obtain ⟨hv2, hg⟩ := and_e hg
  obtain ⟨hv3, hg⟩ := and_e hg
  obtain ⟨hv4, hg⟩ := and_e hg
  have hv5 := hg
  obtain ⟨w0, w1, w2, w3, w4, w5, rfl⟩ : ∃ w0 w1 w2 w3 w4 w5 : Value, args = #[w0, w1, w2, w3, w4, w5] := by
    have hs : args.size = 6 := by simpa [Cond.value, given_1] using hcnt
    obtain ⟨L⟩ := args
    match L, hs with
    | [w0, w1, w2, w3, w4, w5], _ => exact ⟨w0, w1, w2, w3, w4, w5, rfl⟩
  have hw := fun d (hd : d ∈ tables_1) => atoms_spec (ws := Jvm.Cond.code x code maxLocals ret :: tables_1) hat d (List.mem_cons_of_mem _ hd)
  have hfit : Fit s := fun {y c} hc i hi => by
    obtain ⟨ha, rfl⟩ := Array.getElem?_eq_some_iff.mp hc
    have q := List.all_eq_true.mp ((Array.all_eq_true_iff_forall_mem.mp hF) _ (Array.getElem_mem ha)) i (List.mem_range.mpr hi)
    simpa [Array.getElem?_eq_getElem hi] using q
  obtain ⟨hsets, hown0⟩ := atoms_of _ (rest_1_c_eq ▸ (show rest_1_c.before _ s = true from hrest))
  have hr0 := Cond.before_iff.mp hown0
  obtain ⟨i0, ei0⟩ := is_v hv0
  obtain rfl : w0 = (.int i0) := Option.some.inj ei0
  obtain ⟨i1, ei1⟩ := is_v hv1
  obtain rfl : w1 = (.int i1) := Option.some.inj ei1
  obtain ⟨i2, ei2⟩ := is_v hv2
  obtain rfl : w2 = (.int i2) := Option.some.inj ei2
  obtain ⟨i3, ei3⟩ := is_v hv3
  obtain rfl : w3 = (.int i3) := Option.some.inj ei3
  obtain ⟨i4, ei4⟩ := is_v hv4
  obtain rfl : w4 = (.int i4) := Option.some.inj ei4
  obtain ⟨i5, ei5⟩ := is_v hv5
  obtain rfl : w5 = (.int i5) := Option.some.inj ei5
  obtain ⟨w1a, ev2⟩ := arr_v (Cond.before_iff.mp (hsets _ (List.mem_of_getElem? (i := 18) rfl)))
  have Y3 : Sta s s.heap "java/math/BigDecimal" "ZERO_THROUGH_TEN" "[Ljava/math/BigDecimal;" (.ref w1a) := Sta.start ev2 (Or.inl (hsets _ (List.mem_of_getElem? (i := 1) rfl)))
  obtain ⟨cl4, ar4⟩ := Arr.start ev2 (Cond.before_iff.mp (hsets _ (List.mem_of_getElem? (i := 18) rfl)))
  obtain ⟨w6a, ev7⟩ := exa_v (Cond.before_iff.mp (hsets _ (List.mem_of_getElem? (i := 22) rfl)))
  have ev9 : (Term.static "java/math/BigDecimal" "ZERO" "Ljava/math/BigDecimal;").eval _ s none [] s = some (.ref w6a) := own_eqR ev7 (Cond.before_iff.mp (hsets _ (List.mem_of_getElem? (i := 21) rfl)))
  have Y10 : Sta s s.heap "java/math/BigDecimal" "ZERO" "Ljava/math/BigDecimal;" (.ref w6a) := Sta.start ev9 (Or.inl (hsets _ (List.mem_of_getElem? (i := 3) rfl)))
  obtain ⟨w24a, ev25⟩ := exa_v (Cond.before_iff.mp (hsets _ (List.mem_of_getElem? (i := 32) rfl)))
  have Y26 : Exa s s.heap w24a "java/math/BigDecimal" := Exa.start ev25 (Cond.before_iff.mp (hsets _ (List.mem_of_getElem? (i := 32) rfl)))
  obtain ⟨w40a, ev41⟩ := exa_v (Cond.before_iff.mp (hsets _ (List.mem_of_getElem? (i := 42) rfl)))
  have Y42 : Exa s s.heap w40a "java/math/BigDecimal" := Exa.start ev41 (Cond.before_iff.mp (hsets _ (List.mem_of_getElem? (i := 42) rfl)))
  obtain ⟨w56a, ev57⟩ := exa_v (Cond.before_iff.mp (hsets _ (List.mem_of_getElem? (i := 51) rfl)))
  have Y58 : Exa s s.heap w56a "java/math/BigDecimal" := Exa.start ev57 (Cond.before_iff.mp (hsets _ (List.mem_of_getElem? (i := 51) rfl)))
  obtain ⟨w68a, ev69⟩ := exa_v (Cond.before_iff.mp (hsets _ (List.mem_of_getElem? (i := 59) rfl)))
  have Y70 : Exa s s.heap w68a "java/math/BigDecimal" := Exa.start ev69 (Cond.before_iff.mp (hsets _ (List.mem_of_getElem? (i := 59) rfl)))
  obtain ⟨w80a, ev81⟩ := exa_v (Cond.before_iff.mp (hsets _ (List.mem_of_getElem? (i := 67) rfl)))
  have Y82 : Exa s s.heap w80a "java/math/BigDecimal" := Exa.start ev81 (Cond.before_iff.mp (hsets _ (List.mem_of_getElem? (i := 67) rfl)))
  obtain ⟨w92a, ev93⟩ := exa_v (Cond.before_iff.mp (hsets _ (List.mem_of_getElem? (i := 75) rfl)))
  have Y94 : Exa s s.heap w92a "java/math/BigDecimal" := Exa.start ev93 (Cond.before_iff.mp (hsets _ (List.mem_of_getElem? (i := 75) rfl)))
  obtain ⟨w104a, ev105⟩ := exa_v (Cond.before_iff.mp (hsets _ (List.mem_of_getElem? (i := 83) rfl)))
  have Y106 : Exa s s.heap w104a "java/math/BigDecimal" := Exa.start ev105 (Cond.before_iff.mp (hsets _ (List.mem_of_getElem? (i := 83) rfl)))
  obtain ⟨w116a, ev117⟩ := exa_v (Cond.before_iff.mp (hsets _ (List.mem_of_getElem? (i := 91) rfl)))
  have Y118 : Exa s s.heap w116a "java/math/BigDecimal" := Exa.start ev117 (Cond.before_iff.mp (hsets _ (List.mem_of_getElem? (i := 91) rfl)))
  obtain ⟨w128a, ev129⟩ := exa_v (Cond.before_iff.mp (hsets _ (List.mem_of_getElem? (i := 99) rfl)))
  have Y130 : Exa s s.heap w128a "java/math/BigDecimal" := Exa.start ev129 (Cond.before_iff.mp (hsets _ (List.mem_of_getElem? (i := 99) rfl)))
  obtain ⟨w140a, ev141⟩ := exa_v (Cond.before_iff.mp (hsets _ (List.mem_of_getElem? (i := 108) rfl)))
  have Y142 : Exa s s.heap w140a "java/math/BigDecimal" := Exa.start ev141 (Cond.before_iff.mp (hsets _ (List.mem_of_getElem? (i := 108) rfl)))
  have Y156 : Exa s s.heap w6a "java/math/BigDecimal" := Exa.start ev9 (Cond.before_iff.mp (hsets _ (List.mem_of_getElem? (i := 121) rfl)))
  have ev169 : (Term.field (Term.elem (Term.static "java/math/BigDecimal" "ZERO_THROUGH_TEN" "[Ljava/math/BigDecimal;") (Term.int (1 : Int32))) "java/math/BigDecimal" "scale" "I").eval _ s none [] s = some (.int (0 : Int32)) := own_valI (Cond.before_iff.mp (hsets _ (List.mem_of_getElem? (i := 33) rfl)))
  have Y170 : Fld s s.heap w24a "java/math/BigDecimal" "scale" "I" (.int (0 : Int32)) := Fld.start ((fld_at ev25).symm.trans ev169)
  have ev171 : (Term.field (Term.elem (Term.static "java/math/BigDecimal" "ZERO_THROUGH_TEN" "[Ljava/math/BigDecimal;") (Term.int (1 : Int32))) "java/math/BigDecimal" "intCompact" "J").eval _ s none [] s = some (.long (1 : Int64)) := own_valJ (Cond.before_iff.mp (hsets _ (List.mem_of_getElem? (i := 34) rfl)))
  have Y172 : Fld s s.heap w24a "java/math/BigDecimal" "intCompact" "J" (.long (1 : Int64)) := Fld.start ((fld_at ev25).symm.trans ev171)
  have ev175 : (Term.field (Term.elem (Term.static "java/math/BigDecimal" "ZERO_THROUGH_TEN" "[Ljava/math/BigDecimal;") (Term.int (2 : Int32))) "java/math/BigDecimal" "scale" "I").eval _ s none [] s = some (.int (0 : Int32)) := own_valI (Cond.before_iff.mp (hsets _ (List.mem_of_getElem? (i := 43) rfl)))
  have Y176 : Fld s s.heap w40a "java/math/BigDecimal" "scale" "I" (.int (0 : Int32)) := Fld.start ((fld_at ev41).symm.trans ev175)
  have ev177 : (Term.field (Term.elem (Term.static "java/math/BigDecimal" "ZERO_THROUGH_TEN" "[Ljava/math/BigDecimal;") (Term.int (2 : Int32))) "java/math/BigDecimal" "intCompact" "J").eval _ s none [] s = some (.long (2 : Int64)) := own_valJ (Cond.before_iff.mp (hsets _ (List.mem_of_getElem? (i := 44) rfl)))
  have Y178 : Fld s s.heap w40a "java/math/BigDecimal" "intCompact" "J" (.long (2 : Int64)) := Fld.start ((fld_at ev41).symm.trans ev177)
  have ev181 : (Term.field (Term.elem (Term.static "java/math/BigDecimal" "ZERO_THROUGH_TEN" "[Ljava/math/BigDecimal;") (Term.int (3 : Int32))) "java/math/BigDecimal" "scale" "I").eval _ s none [] s = some (.int (0 : Int32)) := own_valI (Cond.before_iff.mp (hsets _ (List.mem_of_getElem? (i := 52) rfl)))
  have Y182 : Fld s s.heap w56a "java/math/BigDecimal" "scale" "I" (.int (0 : Int32)) := Fld.start ((fld_at ev57).symm.trans ev181)
  have ev183 : (Term.field (Term.elem (Term.static "java/math/BigDecimal" "ZERO_THROUGH_TEN" "[Ljava/math/BigDecimal;") (Term.int (3 : Int32))) "java/math/BigDecimal" "intCompact" "J").eval _ s none [] s = some (.long (3 : Int64)) := own_valJ (Cond.before_iff.mp (hsets _ (List.mem_of_getElem? (i := 53) rfl)))
  have Y184 : Fld s s.heap w56a "java/math/BigDecimal" "intCompact" "J" (.long (3 : Int64)) := Fld.start ((fld_at ev57).symm.trans ev183)
  have ev187 : (Term.field (Term.elem (Term.static "java/math/BigDecimal" "ZERO_THROUGH_TEN" "[Ljava/math/BigDecimal;") (Term.int (4 : Int32))) "java/math/BigDecimal" "scale" "I").eval _ s none [] s = some (.int (0 : Int32)) := own_valI (Cond.before_iff.mp (hsets _ (List.mem_of_getElem? (i := 60) rfl)))
  have Y188 : Fld s s.heap w68a "java/math/BigDecimal" "scale" "I" (.int (0 : Int32)) := Fld.start ((fld_at ev69).symm.trans ev187)
  have ev189 : (Term.field (Term.elem (Term.static "java/math/BigDecimal" "ZERO_THROUGH_TEN" "[Ljava/math/BigDecimal;") (Term.int (4 : Int32))) "java/math/BigDecimal" "intCompact" "J").eval _ s none [] s = some (.long (4 : Int64)) := own_valJ (Cond.before_iff.mp (hsets _ (List.mem_of_getElem? (i := 61) rfl)))
  have Y190 : Fld s s.heap w68a "java/math/BigDecimal" "intCompact" "J" (.long (4 : Int64)) := Fld.start ((fld_at ev69).symm.trans ev189)
  have ev193 : (Term.field (Term.elem (Term.static "java/math/BigDecimal" "ZERO_THROUGH_TEN" "[Ljava/math/BigDecimal;") (Term.int (5 : Int32))) "java/math/BigDecimal" "scale" "I").eval _ s none [] s = some (.int (0 : Int32)) := own_valI (Cond.before_iff.mp (hsets _ (List.mem_of_getElem? (i := 68) rfl)))
  have Y194 : Fld s s.heap w80a "java/math/BigDecimal" "scale" "I" (.int (0 : Int32)) := Fld.start ((fld_at ev81).symm.trans ev193)
  have ev195 : (Term.field (Term.elem (Term.static "java/math/BigDecimal" "ZERO_THROUGH_TEN" "[Ljava/math/BigDecimal;") (Term.int (5 : Int32))) "java/math/BigDecimal" "intCompact" "J").eval _ s none [] s = some (.long (5 : Int64)) := own_valJ (Cond.before_iff.mp (hsets _ (List.mem_of_getElem? (i := 69) rfl)))
  have Y196 : Fld s s.heap w80a "java/math/BigDecimal" "intCompact" "J" (.long (5 : Int64)) := Fld.start ((fld_at ev81).symm.trans ev195)
  have ev199 : (Term.field (Term.elem (Term.static "java/math/BigDecimal" "ZERO_THROUGH_TEN" "[Ljava/math/BigDecimal;") (Term.int (6 : Int32))) "java/math/BigDecimal" "scale" "I").eval _ s none [] s = some (.int (0 : Int32)) := own_valI (Cond.before_iff.mp (hsets _ (List.mem_of_getElem? (i := 76) rfl)))
  have Y200 : Fld s s.heap w92a "java/math/BigDecimal" "scale" "I" (.int (0 : Int32)) := Fld.start ((fld_at ev93).symm.trans ev199)
  have ev201 : (Term.field (Term.elem (Term.static "java/math/BigDecimal" "ZERO_THROUGH_TEN" "[Ljava/math/BigDecimal;") (Term.int (6 : Int32))) "java/math/BigDecimal" "intCompact" "J").eval _ s none [] s = some (.long (6 : Int64)) := own_valJ (Cond.before_iff.mp (hsets _ (List.mem_of_getElem? (i := 77) rfl)))
  have Y202 : Fld s s.heap w92a "java/math/BigDecimal" "intCompact" "J" (.long (6 : Int64)) := Fld.start ((fld_at ev93).symm.trans ev201)
  have ev205 : (Term.field (Term.elem (Term.static "java/math/BigDecimal" "ZERO_THROUGH_TEN" "[Ljava/math/BigDecimal;") (Term.int (7 : Int32))) "java/math/BigDecimal" "scale" "I").eval _ s none [] s = some (.int (0 : Int32)) := own_valI (Cond.before_iff.mp (hsets _ (List.mem_of_getElem? (i := 84) rfl)))
  have Y206 : Fld s s.heap w104a "java/math/BigDecimal" "scale" "I" (.int (0 : Int32)) := Fld.start ((fld_at ev105).symm.trans ev205)
  have ev207 : (Term.field (Term.elem (Term.static "java/math/BigDecimal" "ZERO_THROUGH_TEN" "[Ljava/math/BigDecimal;") (Term.int (7 : Int32))) "java/math/BigDecimal" "intCompact" "J").eval _ s none [] s = some (.long (7 : Int64)) := own_valJ (Cond.before_iff.mp (hsets _ (List.mem_of_getElem? (i := 85) rfl)))
  have Y208 : Fld s s.heap w104a "java/math/BigDecimal" "intCompact" "J" (.long (7 : Int64)) := Fld.start ((fld_at ev105).symm.trans ev207)
  have ev211 : (Term.field (Term.elem (Term.static "java/math/BigDecimal" "ZERO_THROUGH_TEN" "[Ljava/math/BigDecimal;") (Term.int (8 : Int32))) "java/math/BigDecimal" "scale" "I").eval _ s none [] s = some (.int (0 : Int32)) := own_valI (Cond.before_iff.mp (hsets _ (List.mem_of_getElem? (i := 92) rfl)))
  have Y212 : Fld s s.heap w116a "java/math/BigDecimal" "scale" "I" (.int (0 : Int32)) := Fld.start ((fld_at ev117).symm.trans ev211)
  have ev213 : (Term.field (Term.elem (Term.static "java/math/BigDecimal" "ZERO_THROUGH_TEN" "[Ljava/math/BigDecimal;") (Term.int (8 : Int32))) "java/math/BigDecimal" "intCompact" "J").eval _ s none [] s = some (.long (8 : Int64)) := own_valJ (Cond.before_iff.mp (hsets _ (List.mem_of_getElem? (i := 93) rfl)))
  have Y214 : Fld s s.heap w116a "java/math/BigDecimal" "intCompact" "J" (.long (8 : Int64)) := Fld.start ((fld_at ev117).symm.trans ev213)
  have ev217 : (Term.field (Term.elem (Term.static "java/math/BigDecimal" "ZERO_THROUGH_TEN" "[Ljava/math/BigDecimal;") (Term.int (9 : Int32))) "java/math/BigDecimal" "scale" "I").eval _ s none [] s = some (.int (0 : Int32)) := own_valI (Cond.before_iff.mp (hsets _ (List.mem_of_getElem? (i := 100) rfl)))
  have Y218 : Fld s s.heap w128a "java/math/BigDecimal" "scale" "I" (.int (0 : Int32)) := Fld.start ((fld_at ev129).symm.trans ev217)
  have ev219 : (Term.field (Term.elem (Term.static "java/math/BigDecimal" "ZERO_THROUGH_TEN" "[Ljava/math/BigDecimal;") (Term.int (9 : Int32))) "java/math/BigDecimal" "intCompact" "J").eval _ s none [] s = some (.long (9 : Int64)) := own_valJ (Cond.before_iff.mp (hsets _ (List.mem_of_getElem? (i := 101) rfl)))
  have Y220 : Fld s s.heap w128a "java/math/BigDecimal" "intCompact" "J" (.long (9 : Int64)) := Fld.start ((fld_at ev129).symm.trans ev219)
  have ev223 : (Term.field (Term.elem (Term.static "java/math/BigDecimal" "ZERO_THROUGH_TEN" "[Ljava/math/BigDecimal;") (Term.int (10 : Int32))) "java/math/BigDecimal" "scale" "I").eval _ s none [] s = some (.int (0 : Int32)) := own_valI (Cond.before_iff.mp (hsets _ (List.mem_of_getElem? (i := 109) rfl)))
  have Y224 : Fld s s.heap w140a "java/math/BigDecimal" "scale" "I" (.int (0 : Int32)) := Fld.start ((fld_at ev141).symm.trans ev223)
  have ev225 : (Term.field (Term.elem (Term.static "java/math/BigDecimal" "ZERO_THROUGH_TEN" "[Ljava/math/BigDecimal;") (Term.int (10 : Int32))) "java/math/BigDecimal" "intCompact" "J").eval _ s none [] s = some (.long (10 : Int64)) := own_valJ (Cond.before_iff.mp (hsets _ (List.mem_of_getElem? (i := 110) rfl)))
  have Y226 : Fld s s.heap w140a "java/math/BigDecimal" "intCompact" "J" (.long (10 : Int64)) := Fld.start ((fld_at ev141).symm.trans ev225)
  have ev229 : (Term.field (Term.static "java/math/BigDecimal" "ZERO" "Ljava/math/BigDecimal;") "java/math/BigDecimal" "scale" "I").eval _ s none [] s = some (.int (0 : Int32)) := own_valI (Cond.before_iff.mp (hsets _ (List.mem_of_getElem? (i := 122) rfl)))
  have Y230 : Fld s s.heap w6a "java/math/BigDecimal" "scale" "I" (.int (0 : Int32)) := Fld.start ((fld_at ev9).symm.trans ev229)
  have ev231 : (Term.field (Term.static "java/math/BigDecimal" "ZERO" "Ljava/math/BigDecimal;") "java/math/BigDecimal" "intCompact" "J").eval _ s none [] s = some (.long (0 : Int64)) := own_valJ (Cond.before_iff.mp (hsets _ (List.mem_of_getElem? (i := 123) rfl)))
  have Y232 : Fld s s.heap w6a "java/math/BigDecimal" "intCompact" "J" (.long (0 : Int64)) := Fld.start ((fld_at ev9).symm.trans ev231)
  obtain ⟨k4c, hk4⟩ : ∃ z, z = cl4.cls := ⟨_, rfl⟩
  have Y235 : Arv s s.heap w1a k4c (.object "java/math/BigDecimal") (11 : Int32) [(.ref w6a), (.ref w24a), (.ref w40a), (.ref w56a), (.ref w68a), (.ref w80a), (.ref w92a), (.ref w104a), (.ref w116a), (.ref w128a), (.ref w140a)] .null := hk4 ▸ own_arv hfit ar4 ev2 (Cond.before_iff.mp (hsets _ (List.mem_of_getElem? (i := 20) rfl))) (by decide) rfl ⟨(elem_in ev7 ev2 rfl ar4.1).2, (elem_in ev25 ev2 rfl ar4.1).2, (elem_in ev41 ev2 rfl ar4.1).2, (elem_in ev57 ev2 rfl ar4.1).2, (elem_in ev69 ev2 rfl ar4.1).2, (elem_in ev81 ev2 rfl ar4.1).2, (elem_in ev93 ev2 rfl ar4.1).2, (elem_in ev105 ev2 rfl ar4.1).2, (elem_in ev117 ev2 rfl ar4.1).2, (elem_in ev129 ev2 rfl ar4.1).2, (elem_in ev141 ev2 rfl ar4.1).2, trivial⟩
  obtain ⟨n, o, h1, h2, h3, _, L, rfl, ⟨rfl, N⟩, hq⟩ := rm0 l s _ hw tables_1 i0 i1 i2 i3 i4 i5 w1a w6a w24a w40a w56a w68a w80a w92a w104a w116a w128a w140a k4c s.heap s.heap.size (Old.start s) Y3 Y10 Y26 Y42 Y58 Y70 Y82 Y94 Y106 Y118 Y130 Y142 Y156 Y170 Y172 Y176 Y178 Y182 Y184 Y188 Y190 Y194 Y196 Y200 Y202 Y206 Y208 Y212 Y214 Y218 Y220 Y224 Y226 Y230 Y232 Y235 p e ha hc hk s m _ below hf ((Spec.applies_iff_loose hf).mp happ).1 ⟨rfl, State.Warmed39.refl s, rfl⟩ trivial
  refine ⟨n, _, h1, h2, h3, hpost _ _ _ _ _ _ ⟨Cond.after_iff.mpr rfl, Cond.after_iff.mpr (eq_i res_at (Term.int_eval (1)) rfl), trivial⟩ ⟨hq.1, hq.2.1, (hq.2.2.sift fun y hy => Or.inr (N y hy)).mono (by decide) (by decide)⟩⟩
theorem main_1_1 : Claimed_1_1 := comes_1 fun _ _ _ _ _ _ h hF => ⟨h.1, hF⟩
theorem main_1_2 : Claimed_1_2 := comes_1 fun _ _ _ _ _ _ h hF => ⟨h.2.1, hF⟩
end Jvm.Pilot.@@N@@
namespace Jvm.Pilot.@@N@@
open Jvm Jvm.ClassFile Sem Op Lib Jvm.Free Jvm.Stand Jvm.Pilot.@@N@@.Jvm.D
/-! MADE BY PROGRAM (witnessworld.py) out of the Statement's table words and the real class files: 16 classes; the members and pool entries that the words name. The judged class is class 1, her method 1. -/
namespace start1
open Jvm.ClassFile
def u (s : String) : CpInfo := .utf8 (stringToUtf16 s)
/-- a pool by its gaps: so many unusable entries, then the entry; so many at the end -/
def gap : Nat → List CpInfo → List CpInfo
  | 0, r => r
  | n + 1, r => .unusable :: gap n r
def poolList (es : List (Nat × CpInfo)) (last : Nat) : List CpInfo := es.foldr (fun e r => gap e.1 (e.2 :: r)) (gap last [])
def pool (es : List (Nat × CpInfo)) (last : Nat) : Array CpInfo := ⟨poolList es last⟩
def fileOf (pool : Array CpInfo) (this : Nat) (attrs : Array Attribute := #[]) (ms : Array MethodInfo := #[]) (fl : Nat := 33) (sup : Nat := 0) (ifs : Array Nat := #[]) (fds : Array FieldInfo := #[]) : ClassFile where
  minorVersion := 0
  majorVersion := 65
  constantPool := pool
  accessFlags := fl
  thisClass := this
  superClass := sup
  interfaces := ifs
  fields := fds
  methods := ms
  attributes := attrs
def plain (name : String) (sup : Option ClassId) : Class where
  name := name
  kind := .ordinary
  loader := none
  accessFlags := 33
  super := sup
  interfaces := #[]
  cf := none
  fields := #[]
  methods := #[]
  instanceTypes := #[]
  staticTypes := #[]
  resolved := #[]
  callSites := []
  init := .initialized
  statics := none
  mirror := none

def pool0 : Array CpInfo := pool [(5, u "<init>"), (0, u "()V"), (1, .class_ 10), (1, u "java/lang/Object")] 113

def k0c0 : Code := { maxStack := 0, maxLocals := 1, code := object_method_1_code, exceptionTable := #[], attributes := #[] }
def k0m0 : Method := { name := "<init>", desc := "()V", sig := { parameters := [], returnType := none }, accessFlags := 1, code := some k0c0 }
/-- java/lang/Object -/
def k0 : Class := { plain "java/lang/Object" none with
  accessFlags := 33
  interfaces := #[]
  cf := some (fileOf pool0 8 #[] #[{ accessFlags := 1, nameIndex := 5, descriptorIndex := 6, attributes := #[] }] 33 0 #[] #[])
  fields := #[]
  methods := #[k0m0]
  instanceTypes := #[]
  staticTypes := #[]
  resolved := Array.replicate 124 none
  statics := none }

def pool1 : Array CpInfo := pool [(2, .class_ 4), (0, .nameAndType 5 6), (0, u "java/lang/Object"), (0, u "<init>"), (0, u "()V"), (0, .methodref 8 9), (0, .class_ 10), (0, .nameAndType 11 12), (0, u "java/math/BigDecimal"), (0, u "valueOf"), (0, u "(J)Ljava/math/BigDecimal;"), (0, .class_ 14), (0, u "com/example/cropmark/cropmark/Weights"), (0, .methodref 13 16), (0, .nameAndType 5 17), (0, u "(Ljava/math/BigDecimal;Ljava/math/BigDecimal;Ljava/math/BigDecimal;Ljava/math/BigDecimal;)V"), (0, .class_ 19), (0, u "com/example/cropmark/cropmark/Assessment$Sums"), (0, .methodref 18 3), (0, .methodref 18 22), (0, .nameAndType 23 24), (0, u "add"), (0, u "(Lcom/example/cropmark/cropmark/Weights;)V"), (0, .methodref 18 26), (0, .nameAndType 27 28), (0, u "lots"), (0, u "()I"), (0, .methodref 18 30), (0, .nameAndType 31 32), (0, u "assessedLb"), (0, u "()Ljava/math/BigDecimal;"), (0, .methodref 8 34), (0, .nameAndType 35 36), (0, u "equals"), (0, u "(Ljava/lang/Object;)Z"), (0, .methodref 18 38), (0, .nameAndType 39 32), (0, u "inedibleLb"), (0, .class_ 41), (0, u "com/example/cropmark/cropmark/SumsAddPinLaw"), (2, u "law"), (0, u "(IIIIII)Z")] 7

def k1m0 : Method := { name := "<init>", desc := "()V", sig := { parameters := [], returnType := none }, accessFlags := 1, code := none }
def k1c1 : Code := { maxStack := 7, maxLocals := 16, code := code, exceptionTable := #[], attributes := #[] }
def k1m1 : Method := { name := "law", desc := "(IIIIII)Z", sig := { parameters := [.int, .int, .int, .int, .int, .int], returnType := some .boolean }, accessFlags := 9, code := some k1c1 }
/-- com/example/cropmark/cropmark/SumsAddPinLaw -/
def k1 : Class := { plain "com/example/cropmark/cropmark/SumsAddPinLaw" (some 0) with
  accessFlags := 49
  interfaces := #[]
  cf := some (fileOf pool1 40 #[] #[{ accessFlags := 1, nameIndex := 5, descriptorIndex := 6, attributes := #[] }, { accessFlags := 9, nameIndex := 44, descriptorIndex := 45, attributes := #[] }] 49 2 #[] #[])
  fields := #[]
  methods := #[k1m0, k1m1]
  instanceTypes := #[]
  staticTypes := #[]
  resolved := Array.replicate 53 none
  statics := none }

def pool2 : Array CpInfo := pool [(1, .class_ 2), (0, u "java/io/Serializable"), (0, .class_ 4), (0, u "java/lang/Object")] 2

/-- java/io/Serializable -/
def k2 : Class := { plain "java/io/Serializable" (some 0) with
  accessFlags := 1537
  interfaces := #[]
  cf := some (fileOf pool2 1 #[] #[] 1537 3 #[] #[])
  fields := #[]
  methods := #[]
  instanceTypes := #[]
  staticTypes := #[]
  resolved := Array.replicate 7 none
  statics := none }

def pool3 : Array CpInfo := pool [(1, .methodref 2 3), (0, .class_ 4), (0, .nameAndType 5 6), (0, u "java/lang/Object"), (0, u "<init>"), (0, u "()V"), (1, .class_ 10), (1, u "java/lang/Number"), (2, .class_ 14), (0, u "java/io/Serializable"), (0, u "serialVersionUID"), (0, u "J")] 20

def k3c0 : Code := { maxStack := 1, maxLocals := 1, code := jdk_18_method_1_code, exceptionTable := #[], attributes := #[] }
def k3m0 : Method := { name := "<init>", desc := "()V", sig := { parameters := [], returnType := none }, accessFlags := 1, code := some k3c0 }
/-- java/lang/Number -/
def k3 : Class := { plain "java/lang/Number" (some 0) with
  accessFlags := 1057
  interfaces := #[2]
  cf := some (fileOf pool3 8 #[] #[{ accessFlags := 1, nameIndex := 5, descriptorIndex := 6, attributes := #[] }] 1057 2 #[13] #[{ accessFlags := 26, nameIndex := 15, descriptorIndex := 16, attributes := #[] }])
  fields := #[{ name := "serialVersionUID", type := .long, accessFlags := 26, slot := 0, constantValue := 0 }]
  methods := #[k3m0]
  instanceTypes := #[]
  staticTypes := #[.long]
  resolved := Array.replicate 37 none
  statics := none }

def pool4 : Array CpInfo := pool [(1, .class_ 2), (0, u "java/lang/Comparable"), (0, .class_ 4), (0, u "java/lang/Object")] 7

/-- java/lang/Comparable -/
def k4 : Class := { plain "java/lang/Comparable" (some 0) with
  accessFlags := 1537
  interfaces := #[]
  cf := some (fileOf pool4 1 #[] #[] 1537 3 #[] #[])
  fields := #[]
  methods := #[]
  instanceTypes := #[]
  staticTypes := #[]
  resolved := Array.replicate 12 none
  statics := none }

def pool5 : Array CpInfo := pool [(3, .class_ 4), (0, u "java/math/BigDecimal"), (6, .methodref 12 13), (0, .class_ 14), (0, .nameAndType 15 16), (0, u "java/lang/Number"), (0, u "<init>"), (0, u "()V"), (0, .fieldref 3 18), (0, .nameAndType 19 20), (0, u "scale"), (0, u "I"), (0, .fieldref 3 22), (0, .nameAndType 23 20), (0, u "precision"), (0, .fieldref 3 25), (0, .nameAndType 26 27), (0, u "intCompact"), (0, u "J"), (0, .fieldref 3 29), (0, .nameAndType 30 31), (0, u "intVal"), (0, u "Ljava/math/BigInteger;"), (65, u "LONG_TEN_POWERS_TABLE"), (0, u "[J"), (26, .long 9223372036854775808), (61, u "ZERO"), (2, u "INFLATED_BIGINT"), (4, u "valueOf"), (10, u "TWO"), (29, .methodref 3 237), (0, .nameAndType 195 238), (0, u "(J)Ljava/math/BigDecimal;"), (4, .methodref 3 244), (0, .nameAndType 15 245), (0, u "(Ljava/math/BigInteger;JII)V"), (0, .fieldref 3 247), (0, .nameAndType 248 249), (0, u "ZERO_THROUGH_TEN"), (0, u "[Ljava/math/BigDecimal;"), (2, u "ZERO_SCALED_BY"), (4, .methodref 3 258), (0, .nameAndType 259 260), (0, u "add"), (0, u "(JIJI)Ljava/math/BigDecimal;"), (8, u "(Ljava/math/BigDecimal;)Ljava/math/BigDecimal;"), (43, u "$assertionsDisabled"), (0, u "Z"), (7, u "(JJ)J"), (5, .methodref 3 329), (0, .nameAndType 195 330), (0, u "(JI)Ljava/math/BigDecimal;"), (13, u "(JJI)Ljava/math/BigDecimal;"), (133, u "ONE_TENTH"), (0, u "Ljava/math/BigDecimal;"), (5, u "TEN"), (14, .class_ 502), (1, u "java/math/BigDecimal$1"), (15, u "ONE_HALF"), (16, u "ONE"), (18, u "equals"), (0, u "(Ljava/lang/Object;)Z"), (87, u "stringCache"), (0, u "Ljava/lang/String;"), (52, .class_ 699), (1, u "java/math/BigDecimal$LongOverflow"), (8, u "FLOAT_10_POW"), (0, u "[F"), (39, u "DOUBLE_10_POW"), (0, u "[D"), (19, .class_ 772), (1, u "java/math/BigDecimal$StringBuilderHelper"), (35, u "BIG_TEN_POWERS_TABLE_MAX"), (2, u "BIG_TEN_POWERS_TABLE"), (0, u "[Ljava/math/BigInteger;"), (14, u "THRESHOLDS_TABLE"), (23, .class_ 853), (1, u "java/math/BigDecimal$UnsafeHolder"), (142, .methodref 3 997), (0, .nameAndType 259 322), (2, .methodref 3 1001), (0, .nameAndType 259 344), (66, u "LONGLONG_TEN_POWERS_TABLE"), (0, u "[[J"), (112, u "BIG_TEN_POWERS_TABLE_INITLEN"), (113, .class_ 1297), (0, u "java/lang/Comparable"), (0, u "L"), (0, u "D"), (1, u "P_F"), (1, u "Q_MIN_F"), (1, u "Q_MAX_F"), (1, u "P_D"), (1, u "Q_MIN_D"), (1, u "Q_MAX_D"), (1, u "INFLATED"), (0, u "MAX_COMPACT_DIGITS"), (1, u "serialVersionUID"), (2, u "HALF_LONG_MAX_VALUE"), (0, u "HALF_LONG_MIN_VALUE"), (0, u "ROUND_UP"), (6, u "ROUND_DOWN"), (1, u "ROUND_CEILING"), (1, u "ROUND_FLOOR"), (1, u "ROUND_HALF_UP"), (1, u "ROUND_HALF_DOWN"), (1, u "ROUND_HALF_EVEN"), (1, u "ROUND_UNNECESSARY"), (1, u "DIV_NUM_BASE")] 294

def k5c0 : Code := { maxStack := 3, maxLocals := 6, code := jdk_17_method_1_code, exceptionTable := #[], attributes := #[] }
def k5m0 : Method := { name := "<init>", desc := "(Ljava/math/BigInteger;JII)V", sig := { parameters := [(.object "java/math/BigInteger"), .long, .int, .int], returnType := none }, accessFlags := 0, code := some k5c0 }
def k5c1 : Code := { maxStack := 7, maxLocals := 3, code := jdk_17_method_20_code, exceptionTable := #[], attributes := #[] }
def k5m1 : Method := { name := "valueOf", desc := "(JI)Ljava/math/BigDecimal;", sig := { parameters := [.long, .int], returnType := some (.object "java/math/BigDecimal") }, accessFlags := 9, code := some k5c1 }
def k5c2 : Code := { maxStack := 7, maxLocals := 2, code := jdk_17_method_21_code, exceptionTable := #[], attributes := #[] }
def k5m2 : Method := { name := "valueOf", desc := "(J)Ljava/math/BigDecimal;", sig := { parameters := [.long], returnType := some (.object "java/math/BigDecimal") }, accessFlags := 9, code := some k5c2 }
def k5c3 : Code := { maxStack := 6, maxLocals := 2, code := jdk_17_method_26_code, exceptionTable := #[], attributes := #[] }
def k5m3 : Method := { name := "add", desc := "(Ljava/math/BigDecimal;)Ljava/math/BigDecimal;", sig := { parameters := [(.object "java/math/BigDecimal")], returnType := some (.object "java/math/BigDecimal") }, accessFlags := 1, code := some k5c3 }
def k5c4 : Code := { maxStack := 4, maxLocals := 7, code := jdk_17_method_72_code, exceptionTable := #[], attributes := #[] }
def k5m4 : Method := { name := "equals", desc := "(Ljava/lang/Object;)Z", sig := { parameters := [(.object "java/lang/Object")], returnType := some .boolean }, accessFlags := 1, code := some k5c4 }
def k5c5 : Code := { maxStack := 6, maxLocals := 6, code := jdk_17_method_132_code, exceptionTable := #[], attributes := #[] }
def k5m5 : Method := { name := "add", desc := "(JJ)J", sig := { parameters := [.long, .long], returnType := some .long }, accessFlags := 10, code := some k5c5 }
def k5c6 : Code := { maxStack := 5, maxLocals := 7, code := jdk_17_method_133_code, exceptionTable := #[], attributes := #[] }
def k5m6 : Method := { name := "add", desc := "(JJI)Ljava/math/BigDecimal;", sig := { parameters := [.long, .long, .int], returnType := some (.object "java/math/BigDecimal") }, accessFlags := 10, code := some k5c6 }
def k5c7 : Code := { maxStack := 7, maxLocals := 12, code := jdk_17_method_134_code, exceptionTable := #[], attributes := #[] }
def k5m7 : Method := { name := "add", desc := "(JIJI)Ljava/math/BigDecimal;", sig := { parameters := [.long, .int, .long, .int], returnType := some (.object "java/math/BigDecimal") }, accessFlags := 10, code := some k5c7 }
/-- java/math/BigDecimal -/
def k5 : Class := { plain "java/math/BigDecimal" (some 3) with
  accessFlags := 33
  interfaces := #[4]
  cf := some (fileOf pool5 3 #[.nestMembers #[500, 851, 770, 697]] #[{ accessFlags := 0, nameIndex := 15, descriptorIndex := 245, attributes := #[] }, { accessFlags := 9, nameIndex := 195, descriptorIndex := 330, attributes := #[] }, { accessFlags := 9, nameIndex := 195, descriptorIndex := 238, attributes := #[] }, { accessFlags := 1, nameIndex := 259, descriptorIndex := 269, attributes := #[] }, { accessFlags := 1, nameIndex := 554, descriptorIndex := 555, attributes := #[] }, { accessFlags := 10, nameIndex := 259, descriptorIndex := 322, attributes := #[] }, { accessFlags := 10, nameIndex := 259, descriptorIndex := 344, attributes := #[] }, { accessFlags := 10, nameIndex := 259, descriptorIndex := 260, attributes := #[] }] 33 12 #[1296] #[{ accessFlags := 26, nameIndex := 1298, descriptorIndex := 1299, attributes := #[] }, { accessFlags := 26, nameIndex := 1301, descriptorIndex := 20, attributes := #[] }, { accessFlags := 26, nameIndex := 1303, descriptorIndex := 20, attributes := #[] }, { accessFlags := 26, nameIndex := 1305, descriptorIndex := 20, attributes := #[] }, { accessFlags := 26, nameIndex := 1307, descriptorIndex := 20, attributes := #[] }, { accessFlags := 26, nameIndex := 1309, descriptorIndex := 20, attributes := #[] }, { accessFlags := 26, nameIndex := 1311, descriptorIndex := 20, attributes := #[] }, { accessFlags := 18, nameIndex := 30, descriptorIndex := 31, attributes := #[] }, { accessFlags := 18, nameIndex := 19, descriptorIndex := 20, attributes := #[] }, { accessFlags := 130, nameIndex := 23, descriptorIndex := 20, attributes := #[] }, { accessFlags := 130, nameIndex := 643, descriptorIndex := 644, attributes := #[] }, { accessFlags := 24, nameIndex := 1313, descriptorIndex := 27, attributes := #[] }, { accessFlags := 26, nameIndex := 190, descriptorIndex := 31, attributes := #[] }, { accessFlags := 146, nameIndex := 26, descriptorIndex := 27, attributes := #[] }, { accessFlags := 26, nameIndex := 1314, descriptorIndex := 20, attributes := #[] }, { accessFlags := 26, nameIndex := 1316, descriptorIndex := 27, attributes := #[] }, { accessFlags := 26, nameIndex := 248, descriptorIndex := 249, attributes := #[] }, { accessFlags := 26, nameIndex := 252, descriptorIndex := 249, attributes := #[] }, { accessFlags := 26, nameIndex := 1319, descriptorIndex := 27, attributes := #[] }, { accessFlags := 26, nameIndex := 1320, descriptorIndex := 27, attributes := #[] }, { accessFlags := 25, nameIndex := 187, descriptorIndex := 479, attributes := #[] }, { accessFlags := 25, nameIndex := 535, descriptorIndex := 479, attributes := #[] }, { accessFlags := 25, nameIndex := 206, descriptorIndex := 479, attributes := #[] }, { accessFlags := 25, nameIndex := 485, descriptorIndex := 479, attributes := #[] }, { accessFlags := 26, nameIndex := 478, descriptorIndex := 479, attributes := #[] }, { accessFlags := 26, nameIndex := 518, descriptorIndex := 479, attributes := #[] }, { accessFlags := 25, nameIndex := 1321, descriptorIndex := 20, attributes := #[] }, { accessFlags := 25, nameIndex := 1328, descriptorIndex := 20, attributes := #[] }, { accessFlags := 25, nameIndex := 1330, descriptorIndex := 20, attributes := #[] }, { accessFlags := 25, nameIndex := 1332, descriptorIndex := 20, attributes := #[] }, { accessFlags := 25, nameIndex := 1334, descriptorIndex := 20, attributes := #[] }, { accessFlags := 25, nameIndex := 1336, descriptorIndex := 20, attributes := #[] }, { accessFlags := 25, nameIndex := 1338, descriptorIndex := 20, attributes := #[] }, { accessFlags := 25, nameIndex := 1340, descriptorIndex := 20, attributes := #[] }, { accessFlags := 26, nameIndex := 749, descriptorIndex := 750, attributes := #[] }, { accessFlags := 26, nameIndex := 708, descriptorIndex := 709, attributes := #[] }, { accessFlags := 26, nameIndex := 97, descriptorIndex := 98, attributes := #[] }, { accessFlags := 74, nameIndex := 811, descriptorIndex := 812, attributes := #[] }, { accessFlags := 26, nameIndex := 1182, descriptorIndex := 20, attributes := #[] }, { accessFlags := 26, nameIndex := 808, descriptorIndex := 20, attributes := #[] }, { accessFlags := 26, nameIndex := 827, descriptorIndex := 98, attributes := #[] }, { accessFlags := 26, nameIndex := 1342, descriptorIndex := 27, attributes := #[] }, { accessFlags := 26, nameIndex := 1068, descriptorIndex := 1069, attributes := #[] }, { accessFlags := 4120, nameIndex := 313, descriptorIndex := 314, attributes := #[] }])
  fields := #[{ name := "L", type := .double, accessFlags := 26, slot := 0, constantValue := 0 }, { name := "P_F", type := .int, accessFlags := 26, slot := 1, constantValue := 0 }, { name := "Q_MIN_F", type := .int, accessFlags := 26, slot := 2, constantValue := 0 }, { name := "Q_MAX_F", type := .int, accessFlags := 26, slot := 3, constantValue := 0 }, { name := "P_D", type := .int, accessFlags := 26, slot := 4, constantValue := 0 }, { name := "Q_MIN_D", type := .int, accessFlags := 26, slot := 5, constantValue := 0 }, { name := "Q_MAX_D", type := .int, accessFlags := 26, slot := 6, constantValue := 0 }, { name := "intVal", type := (.object "java/math/BigInteger"), accessFlags := 18, slot := 0, constantValue := 0 }, { name := "scale", type := .int, accessFlags := 18, slot := 1, constantValue := 0 }, { name := "precision", type := .int, accessFlags := 130, slot := 2, constantValue := 0 }, { name := "stringCache", type := (.object "java/lang/String"), accessFlags := 130, slot := 3, constantValue := 0 }, { name := "INFLATED", type := .long, accessFlags := 24, slot := 7, constantValue := 0 }, { name := "INFLATED_BIGINT", type := (.object "java/math/BigInteger"), accessFlags := 26, slot := 8, constantValue := 0 }, { name := "intCompact", type := .long, accessFlags := 146, slot := 4, constantValue := 0 }, { name := "MAX_COMPACT_DIGITS", type := .int, accessFlags := 26, slot := 9, constantValue := 0 }, { name := "serialVersionUID", type := .long, accessFlags := 26, slot := 10, constantValue := 0 }, { name := "ZERO_THROUGH_TEN", type := (.array (.object "java/math/BigDecimal")), accessFlags := 26, slot := 11, constantValue := 0 }, { name := "ZERO_SCALED_BY", type := (.array (.object "java/math/BigDecimal")), accessFlags := 26, slot := 12, constantValue := 0 }, { name := "HALF_LONG_MAX_VALUE", type := .long, accessFlags := 26, slot := 13, constantValue := 0 }, { name := "HALF_LONG_MIN_VALUE", type := .long, accessFlags := 26, slot := 14, constantValue := 0 }, { name := "ZERO", type := (.object "java/math/BigDecimal"), accessFlags := 25, slot := 15, constantValue := 0 }, { name := "ONE", type := (.object "java/math/BigDecimal"), accessFlags := 25, slot := 16, constantValue := 0 }, { name := "TWO", type := (.object "java/math/BigDecimal"), accessFlags := 25, slot := 17, constantValue := 0 }, { name := "TEN", type := (.object "java/math/BigDecimal"), accessFlags := 25, slot := 18, constantValue := 0 }, { name := "ONE_TENTH", type := (.object "java/math/BigDecimal"), accessFlags := 26, slot := 19, constantValue := 0 }, { name := "ONE_HALF", type := (.object "java/math/BigDecimal"), accessFlags := 26, slot := 20, constantValue := 0 }, { name := "ROUND_UP", type := .int, accessFlags := 25, slot := 21, constantValue := 0 }, { name := "ROUND_DOWN", type := .int, accessFlags := 25, slot := 22, constantValue := 0 }, { name := "ROUND_CEILING", type := .int, accessFlags := 25, slot := 23, constantValue := 0 }, { name := "ROUND_FLOOR", type := .int, accessFlags := 25, slot := 24, constantValue := 0 }, { name := "ROUND_HALF_UP", type := .int, accessFlags := 25, slot := 25, constantValue := 0 }, { name := "ROUND_HALF_DOWN", type := .int, accessFlags := 25, slot := 26, constantValue := 0 }, { name := "ROUND_HALF_EVEN", type := .int, accessFlags := 25, slot := 27, constantValue := 0 }, { name := "ROUND_UNNECESSARY", type := .int, accessFlags := 25, slot := 28, constantValue := 0 }, { name := "DOUBLE_10_POW", type := (.array .double), accessFlags := 26, slot := 29, constantValue := 0 }, { name := "FLOAT_10_POW", type := (.array .float), accessFlags := 26, slot := 30, constantValue := 0 }, { name := "LONG_TEN_POWERS_TABLE", type := (.array .long), accessFlags := 26, slot := 31, constantValue := 0 }, { name := "BIG_TEN_POWERS_TABLE", type := (.array (.object "java/math/BigInteger")), accessFlags := 74, slot := 32, constantValue := 0 }, { name := "BIG_TEN_POWERS_TABLE_INITLEN", type := .int, accessFlags := 26, slot := 33, constantValue := 0 }, { name := "BIG_TEN_POWERS_TABLE_MAX", type := .int, accessFlags := 26, slot := 34, constantValue := 0 }, { name := "THRESHOLDS_TABLE", type := (.array .long), accessFlags := 26, slot := 35, constantValue := 0 }, { name := "DIV_NUM_BASE", type := .long, accessFlags := 26, slot := 36, constantValue := 0 }, { name := "LONGLONG_TEN_POWERS_TABLE", type := (.array (.array .long)), accessFlags := 26, slot := 37, constantValue := 0 }, { name := "$assertionsDisabled", type := .boolean, accessFlags := 4120, slot := 38, constantValue := 0 }]
  methods := #[k5m0, k5m1, k5m2, k5m3, k5m4, k5m5, k5m6, k5m7]
  instanceTypes := #[(.object "java/math/BigInteger"), .int, .int, (.object "java/lang/String"), .long]
  staticTypes := #[.double, .int, .int, .int, .int, .int, .int, .long, (.object "java/math/BigInteger"), .int, .long, (.array (.object "java/math/BigDecimal")), (.array (.object "java/math/BigDecimal")), .long, .long, (.object "java/math/BigDecimal"), (.object "java/math/BigDecimal"), (.object "java/math/BigDecimal"), (.object "java/math/BigDecimal"), (.object "java/math/BigDecimal"), (.object "java/math/BigDecimal"), .int, .int, .int, .int, .int, .int, .int, .int, (.array .double), (.array .float), (.array .long), (.array (.object "java/math/BigInteger")), .int, .int, (.array .long), .long, (.array (.array .long)), .boolean]
  resolved := Array.replicate 1637 none
  statics := some 0 }

def pool6 : Array CpInfo := pool [(1, .methodref 2 3), (0, .class_ 4), (0, .nameAndType 5 6), (0, u "java/lang/Object"), (0, u "<init>"), (0, u "()V"), (0, .class_ 8), (0, u "java/lang/Record")] 13

def k6c0 : Code := { maxStack := 1, maxLocals := 1, code := jdk_30_method_1_code, exceptionTable := #[], attributes := #[] }
def k6m0 : Method := { name := "<init>", desc := "()V", sig := { parameters := [], returnType := none }, accessFlags := 4, code := some k6c0 }
/-- java/lang/Record -/
def k6 : Class := { plain "java/lang/Record" (some 0) with
  accessFlags := 1057
  interfaces := #[]
  cf := some (fileOf pool6 7 #[] #[{ accessFlags := 4, nameIndex := 5, descriptorIndex := 6, attributes := #[] }] 1057 2 #[] #[])
  fields := #[]
  methods := #[k6m0]
  instanceTypes := #[]
  staticTypes := #[]
  resolved := Array.replicate 22 none
  statics := none }

def pool7 : Array CpInfo := pool [(1, .methodref 2 3), (0, .class_ 4), (0, .nameAndType 5 6), (0, u "java/lang/Record"), (0, u "<init>"), (0, u "()V"), (0, .fieldref 8 9), (0, .class_ 10), (0, .nameAndType 11 12), (0, u "com/example/cropmark/cropmark/Weights"), (0, u "edibleLb"), (0, u "Ljava/math/BigDecimal;"), (0, .fieldref 8 14), (0, .nameAndType 15 12), (0, u "inedibleLb"), (0, .fieldref 8 17), (0, .nameAndType 18 12), (0, u "factor"), (0, .fieldref 8 20), (0, .nameAndType 21 12), (0, u "assessedLb"), (2, u "(Ljava/math/BigDecimal;Ljava/math/BigDecimal;Ljava/math/BigDecimal;Ljava/math/BigDecimal;)V"), (19, u "()Ljava/math/BigDecimal;")] 23

def k7c0 : Code := { maxStack := 2, maxLocals := 5, code := prog_92_method_2_code, exceptionTable := #[], attributes := #[] }
def k7m0 : Method := { name := "<init>", desc := "(Ljava/math/BigDecimal;Ljava/math/BigDecimal;Ljava/math/BigDecimal;Ljava/math/BigDecimal;)V", sig := { parameters := [(.object "java/math/BigDecimal"), (.object "java/math/BigDecimal"), (.object "java/math/BigDecimal"), (.object "java/math/BigDecimal")], returnType := none }, accessFlags := 0, code := some k7c0 }
def k7c1 : Code := { maxStack := 1, maxLocals := 1, code := prog_92_method_7_code, exceptionTable := #[], attributes := #[] }
def k7m1 : Method := { name := "inedibleLb", desc := "()Ljava/math/BigDecimal;", sig := { parameters := [], returnType := some (.object "java/math/BigDecimal") }, accessFlags := 1, code := some k7c1 }
def k7c2 : Code := { maxStack := 1, maxLocals := 1, code := prog_92_method_9_code, exceptionTable := #[], attributes := #[] }
def k7m2 : Method := { name := "assessedLb", desc := "()Ljava/math/BigDecimal;", sig := { parameters := [], returnType := some (.object "java/math/BigDecimal") }, accessFlags := 1, code := some k7c2 }
/-- com/example/cropmark/cropmark/Weights -/
def k7 : Class := { plain "com/example/cropmark/cropmark/Weights" (some 6) with
  accessFlags := 48
  interfaces := #[]
  cf := some (fileOf pool7 8 #[] #[{ accessFlags := 0, nameIndex := 5, descriptorIndex := 24, attributes := #[] }, { accessFlags := 1, nameIndex := 15, descriptorIndex := 44, attributes := #[] }, { accessFlags := 1, nameIndex := 21, descriptorIndex := 44, attributes := #[] }] 48 2 #[] #[{ accessFlags := 18, nameIndex := 11, descriptorIndex := 12, attributes := #[] }, { accessFlags := 18, nameIndex := 15, descriptorIndex := 12, attributes := #[] }, { accessFlags := 18, nameIndex := 18, descriptorIndex := 12, attributes := #[] }, { accessFlags := 18, nameIndex := 21, descriptorIndex := 12, attributes := #[] }])
  fields := #[{ name := "edibleLb", type := (.object "java/math/BigDecimal"), accessFlags := 18, slot := 0, constantValue := 0 }, { name := "inedibleLb", type := (.object "java/math/BigDecimal"), accessFlags := 18, slot := 1, constantValue := 0 }, { name := "factor", type := (.object "java/math/BigDecimal"), accessFlags := 18, slot := 2, constantValue := 0 }, { name := "assessedLb", type := (.object "java/math/BigDecimal"), accessFlags := 18, slot := 3, constantValue := 0 }]
  methods := #[k7m0, k7m1, k7m2]
  instanceTypes := #[(.object "java/math/BigDecimal"), (.object "java/math/BigDecimal"), (.object "java/math/BigDecimal"), (.object "java/math/BigDecimal")]
  staticTypes := #[]
  resolved := Array.replicate 68 none
  statics := none }

def pool8 : Array CpInfo := pool [(1, .methodref 2 3), (0, .class_ 4), (0, .nameAndType 5 6), (0, u "java/lang/Object"), (0, u "<init>"), (0, u "()V"), (0, .fieldref 8 9), (0, .class_ 10), (0, .nameAndType 11 12), (0, u "java/math/BigDecimal"), (0, u "ZERO"), (0, u "Ljava/math/BigDecimal;"), (0, .fieldref 14 15), (0, .class_ 16), (0, .nameAndType 17 12), (0, u "com/example/cropmark/cropmark/Assessment$Sums"), (0, u "assessedLb"), (0, .fieldref 14 19), (0, .nameAndType 20 12), (0, u "inedibleLb"), (0, .fieldref 14 22), (0, .nameAndType 23 24), (0, u "lots"), (0, u "I"), (0, .methodref 26 27), (0, .class_ 28), (0, .nameAndType 17 29), (0, u "com/example/cropmark/cropmark/Weights"), (0, u "()Ljava/math/BigDecimal;"), (0, .methodref 8 31), (0, .nameAndType 32 33), (0, u "add"), (0, u "(Ljava/math/BigDecimal;)Ljava/math/BigDecimal;"), (0, .methodref 26 35), (0, .nameAndType 20 29), (3, u "(Lcom/example/cropmark/cropmark/Weights;)V"), (2, u "()I"), (3, .class_ 47), (0, u "com/example/cropmark/cropmark/Assessment")] 2

def k8c0 : Code := { maxStack := 2, maxLocals := 1, code := prog_12_method_1_code, exceptionTable := #[], attributes := #[] }
def k8m0 : Method := { name := "<init>", desc := "()V", sig := { parameters := [], returnType := none }, accessFlags := 0, code := some k8c0 }
def k8c1 : Code := { maxStack := 3, maxLocals := 2, code := prog_12_method_3_code, exceptionTable := #[], attributes := #[] }
def k8m1 : Method := { name := "add", desc := "(Lcom/example/cropmark/cropmark/Weights;)V", sig := { parameters := [(.object "com/example/cropmark/cropmark/Weights")], returnType := none }, accessFlags := 0, code := some k8c1 }
def k8c2 : Code := { maxStack := 1, maxLocals := 1, code := prog_12_method_5_code, exceptionTable := #[], attributes := #[] }
def k8m2 : Method := { name := "lots", desc := "()I", sig := { parameters := [], returnType := some .int }, accessFlags := 0, code := some k8c2 }
def k8c3 : Code := { maxStack := 1, maxLocals := 1, code := prog_12_method_6_code, exceptionTable := #[], attributes := #[] }
def k8m3 : Method := { name := "assessedLb", desc := "()Ljava/math/BigDecimal;", sig := { parameters := [], returnType := some (.object "java/math/BigDecimal") }, accessFlags := 0, code := some k8c3 }
def k8c4 : Code := { maxStack := 1, maxLocals := 1, code := prog_12_method_7_code, exceptionTable := #[], attributes := #[] }
def k8m4 : Method := { name := "inedibleLb", desc := "()Ljava/math/BigDecimal;", sig := { parameters := [], returnType := some (.object "java/math/BigDecimal") }, accessFlags := 0, code := some k8c4 }
/-- com/example/cropmark/cropmark/Assessment$Sums -/
def k8 : Class := { plain "com/example/cropmark/cropmark/Assessment$Sums" (some 0) with
  accessFlags := 48
  interfaces := #[]
  cf := some (fileOf pool8 14 #[.nestHost 46] #[{ accessFlags := 0, nameIndex := 5, descriptorIndex := 6, attributes := #[] }, { accessFlags := 0, nameIndex := 32, descriptorIndex := 39, attributes := #[] }, { accessFlags := 0, nameIndex := 23, descriptorIndex := 42, attributes := #[] }, { accessFlags := 0, nameIndex := 17, descriptorIndex := 29, attributes := #[] }, { accessFlags := 0, nameIndex := 20, descriptorIndex := 29, attributes := #[] }] 48 2 #[] #[{ accessFlags := 2, nameIndex := 23, descriptorIndex := 24, attributes := #[] }, { accessFlags := 2, nameIndex := 17, descriptorIndex := 12, attributes := #[] }, { accessFlags := 2, nameIndex := 20, descriptorIndex := 12, attributes := #[] }])
  fields := #[{ name := "lots", type := .int, accessFlags := 2, slot := 0, constantValue := 0 }, { name := "assessedLb", type := (.object "java/math/BigDecimal"), accessFlags := 2, slot := 1, constantValue := 0 }, { name := "inedibleLb", type := (.object "java/math/BigDecimal"), accessFlags := 2, slot := 2, constantValue := 0 }]
  methods := #[k8m0, k8m1, k8m2, k8m3, k8m4]
  instanceTypes := #[.int, (.object "java/math/BigDecimal"), (.object "java/math/BigDecimal")]
  staticTypes := #[]
  resolved := Array.replicate 50 none
  statics := none }

def pool9 : Array CpInfo := pool [(4, .class_ 6), (1, u "java/lang/Number"), (16, .class_ 25), (1, u "java/math/BigInteger"), (0, u "ZERO"), (0, u "Ljava/math/BigInteger;"), (2, u "mag"), (0, u "[I"), (2, u "signum"), (0, u "I"), (59, u "bitsPerDigit"), (0, u "[J"), (9, u "digitsPerInt"), (12, u "intRadix"), (60, u "SMALL_PRIME_PRODUCT"), (79, u "ONE"), (6, u "TWO"), (43, u "$assertionsDisabled"), (0, u "Z"), (36, u "posConst"), (0, u "[Ljava/math/BigInteger;"), (4, u "negConst"), (116, .class_ 474), (1, u "java/math/BigInteger$RecursiveOp"), (106, u "NEGATIVE_ONE"), (91, u "bnExpModThreshTable"), (72, u "lowestSetBitPlusTwo"), (2, u "bitLengthPlusOne"), (2, u "bitCountPlusOne"), (6, u "LOG_TWO"), (0, u "D"), (2, u "logCache"), (0, u "[D"), (13, u "NUM_ZEROS"), (2, u "ZEROS"), (0, u "Ljava/lang/String;"), (9, u "longRadix"), (5, u "digitsPerLong"), (22, u "powerCache"), (0, u "[[Ljava/math/BigInteger;"), (45, u "firstNonzeroIntNumPlusTwo"), (38, .class_ 909), (1, u "java/math/BigInteger$UnsafeHolder"), (141, u "TEN"), (106, u "serialPersistentFields"), (0, u "[Ljava/io/ObjectStreamField;"), (0, .class_ 1161), (0, u "java/lang/Comparable"), (0, u "LONG_MASK"), (0, u "J"), (1, u "MAX_MAG_LENGTH"), (0, u "PRIME_SEARCH_BIT_LENGTH_LIMIT"), (1, u "KARATSUBA_THRESHOLD"), (1, u "TOOM_COOK_THRESHOLD"), (1, u "KARATSUBA_SQUARE_THRESHOLD"), (1, u "TOOM_COOK_SQUARE_THRESHOLD"), (1, u "BURNIKEL_ZIEGLER_THRESHOLD"), (0, u "BURNIKEL_ZIEGLER_OFFSET"), (1, u "SCHOENHAGE_BASE_CONVERSION_THRESHOLD"), (1, u "MULTIPLY_SQUARE_THRESHOLD"), (0, u "MONTGOMERY_INTRINSIC_THRESHOLD"), (1, u "SMALL_PRIME_THRESHOLD"), (1, u "DEFAULT_PRIME_CERTAINTY"), (1, u "MAX_CONSTANT"), (3, u "serialVersionUID"), (338, .class_ 1532), (0, u "java/math/BigInteger$RecursiveOp$RecursiveSquare"), (0, .class_ 1534), (0, u "java/math/BigInteger$RecursiveOp$RecursiveMultiply")] 7

/-- java/math/BigInteger -/
def k9 : Class := { plain "java/math/BigInteger" (some 3) with
  accessFlags := 33
  interfaces := #[4]
  cf := some (fileOf pool9 23 #[.nestMembers #[907, 472, 1531, 1533]] #[] 33 4 #[1160] #[{ accessFlags := 16, nameIndex := 34, descriptorIndex := 35, attributes := #[] }, { accessFlags := 16, nameIndex := 30, descriptorIndex := 31, attributes := #[] }, { accessFlags := 2, nameIndex := 752, descriptorIndex := 35, attributes := #[] }, { accessFlags := 2, nameIndex := 749, descriptorIndex := 35, attributes := #[] }, { accessFlags := 2, nameIndex := 746, descriptorIndex := 35, attributes := #[] }, { accessFlags := 2, nameIndex := 868, descriptorIndex := 35, attributes := #[] }, { accessFlags := 24, nameIndex := 1162, descriptorIndex := 1163, attributes := #[] }, { accessFlags := 26, nameIndex := 1165, descriptorIndex := 35, attributes := #[] }, { accessFlags := 26, nameIndex := 1166, descriptorIndex := 35, attributes := #[] }, { accessFlags := 26, nameIndex := 1168, descriptorIndex := 35, attributes := #[] }, { accessFlags := 26, nameIndex := 1170, descriptorIndex := 35, attributes := #[] }, { accessFlags := 26, nameIndex := 1172, descriptorIndex := 35, attributes := #[] }, { accessFlags := 26, nameIndex := 1174, descriptorIndex := 35, attributes := #[] }, { accessFlags := 24, nameIndex := 1176, descriptorIndex := 35, attributes := #[] }, { accessFlags := 24, nameIndex := 1177, descriptorIndex := 35, attributes := #[] }, { accessFlags := 26, nameIndex := 1179, descriptorIndex := 35, attributes := #[] }, { accessFlags := 26, nameIndex := 1181, descriptorIndex := 35, attributes := #[] }, { accessFlags := 26, nameIndex := 1182, descriptorIndex := 35, attributes := #[] }, { accessFlags := 10, nameIndex := 95, descriptorIndex := 96, attributes := #[] }, { accessFlags := 26, nameIndex := 1184, descriptorIndex := 35, attributes := #[] }, { accessFlags := 26, nameIndex := 1186, descriptorIndex := 35, attributes := #[] }, { accessFlags := 26, nameIndex := 180, descriptorIndex := 27, attributes := #[] }, { accessFlags := 26, nameIndex := 1188, descriptorIndex := 35, attributes := #[] }, { accessFlags := 26, nameIndex := 349, descriptorIndex := 350, attributes := #[] }, { accessFlags := 26, nameIndex := 355, descriptorIndex := 350, attributes := #[] }, { accessFlags := 74, nameIndex := 821, descriptorIndex := 822, attributes := #[] }, { accessFlags := 26, nameIndex := 763, descriptorIndex := 764, attributes := #[] }, { accessFlags := 26, nameIndex := 759, descriptorIndex := 760, attributes := #[] }, { accessFlags := 25, nameIndex := 26, descriptorIndex := 27, attributes := #[] }, { accessFlags := 25, nameIndex := 260, descriptorIndex := 27, attributes := #[] }, { accessFlags := 25, nameIndex := 267, descriptorIndex := 27, attributes := #[] }, { accessFlags := 26, nameIndex := 581, descriptorIndex := 27, attributes := #[] }, { accessFlags := 25, nameIndex := 1051, descriptorIndex := 27, attributes := #[] }, { accessFlags := 8, nameIndex := 673, descriptorIndex := 31, attributes := #[] }, { accessFlags := 10, nameIndex := 778, descriptorIndex := 35, attributes := #[] }, { accessFlags := 26, nameIndex := 781, descriptorIndex := 782, attributes := #[] }, { accessFlags := 10, nameIndex := 798, descriptorIndex := 31, attributes := #[] }, { accessFlags := 10, nameIndex := 792, descriptorIndex := 350, attributes := #[] }, { accessFlags := 10, nameIndex := 106, descriptorIndex := 31, attributes := #[] }, { accessFlags := 10, nameIndex := 119, descriptorIndex := 31, attributes := #[] }, { accessFlags := 26, nameIndex := 1192, descriptorIndex := 1163, attributes := #[] }, { accessFlags := 26, nameIndex := 1158, descriptorIndex := 1159, attributes := #[] }, { accessFlags := 4120, nameIndex := 311, descriptorIndex := 312, attributes := #[] }])
  fields := #[{ name := "signum", type := .int, accessFlags := 16, slot := 0, constantValue := 0 }, { name := "mag", type := (.array .int), accessFlags := 16, slot := 1, constantValue := 0 }, { name := "bitCountPlusOne", type := .int, accessFlags := 2, slot := 2, constantValue := 0 }, { name := "bitLengthPlusOne", type := .int, accessFlags := 2, slot := 3, constantValue := 0 }, { name := "lowestSetBitPlusTwo", type := .int, accessFlags := 2, slot := 4, constantValue := 0 }, { name := "firstNonzeroIntNumPlusTwo", type := .int, accessFlags := 2, slot := 5, constantValue := 0 }, { name := "LONG_MASK", type := .long, accessFlags := 24, slot := 0, constantValue := 0 }, { name := "MAX_MAG_LENGTH", type := .int, accessFlags := 26, slot := 1, constantValue := 0 }, { name := "PRIME_SEARCH_BIT_LENGTH_LIMIT", type := .int, accessFlags := 26, slot := 2, constantValue := 0 }, { name := "KARATSUBA_THRESHOLD", type := .int, accessFlags := 26, slot := 3, constantValue := 0 }, { name := "TOOM_COOK_THRESHOLD", type := .int, accessFlags := 26, slot := 4, constantValue := 0 }, { name := "KARATSUBA_SQUARE_THRESHOLD", type := .int, accessFlags := 26, slot := 5, constantValue := 0 }, { name := "TOOM_COOK_SQUARE_THRESHOLD", type := .int, accessFlags := 26, slot := 6, constantValue := 0 }, { name := "BURNIKEL_ZIEGLER_THRESHOLD", type := .int, accessFlags := 24, slot := 7, constantValue := 0 }, { name := "BURNIKEL_ZIEGLER_OFFSET", type := .int, accessFlags := 24, slot := 8, constantValue := 0 }, { name := "SCHOENHAGE_BASE_CONVERSION_THRESHOLD", type := .int, accessFlags := 26, slot := 9, constantValue := 0 }, { name := "MULTIPLY_SQUARE_THRESHOLD", type := .int, accessFlags := 26, slot := 10, constantValue := 0 }, { name := "MONTGOMERY_INTRINSIC_THRESHOLD", type := .int, accessFlags := 26, slot := 11, constantValue := 0 }, { name := "bitsPerDigit", type := (.array .long), accessFlags := 10, slot := 12, constantValue := 0 }, { name := "SMALL_PRIME_THRESHOLD", type := .int, accessFlags := 26, slot := 13, constantValue := 0 }, { name := "DEFAULT_PRIME_CERTAINTY", type := .int, accessFlags := 26, slot := 14, constantValue := 0 }, { name := "SMALL_PRIME_PRODUCT", type := (.object "java/math/BigInteger"), accessFlags := 26, slot := 15, constantValue := 0 }, { name := "MAX_CONSTANT", type := .int, accessFlags := 26, slot := 16, constantValue := 0 }, { name := "posConst", type := (.array (.object "java/math/BigInteger")), accessFlags := 26, slot := 17, constantValue := 0 }, { name := "negConst", type := (.array (.object "java/math/BigInteger")), accessFlags := 26, slot := 18, constantValue := 0 }, { name := "powerCache", type := (.array (.array (.object "java/math/BigInteger"))), accessFlags := 74, slot := 19, constantValue := 0 }, { name := "logCache", type := (.array .double), accessFlags := 26, slot := 20, constantValue := 0 }, { name := "LOG_TWO", type := .double, accessFlags := 26, slot := 21, constantValue := 0 }, { name := "ZERO", type := (.object "java/math/BigInteger"), accessFlags := 25, slot := 22, constantValue := 0 }, { name := "ONE", type := (.object "java/math/BigInteger"), accessFlags := 25, slot := 23, constantValue := 0 }, { name := "TWO", type := (.object "java/math/BigInteger"), accessFlags := 25, slot := 24, constantValue := 0 }, { name := "NEGATIVE_ONE", type := (.object "java/math/BigInteger"), accessFlags := 26, slot := 25, constantValue := 0 }, { name := "TEN", type := (.object "java/math/BigInteger"), accessFlags := 25, slot := 26, constantValue := 0 }, { name := "bnExpModThreshTable", type := (.array .int), accessFlags := 8, slot := 27, constantValue := 0 }, { name := "NUM_ZEROS", type := .int, accessFlags := 10, slot := 28, constantValue := 0 }, { name := "ZEROS", type := (.object "java/lang/String"), accessFlags := 26, slot := 29, constantValue := 0 }, { name := "digitsPerLong", type := (.array .int), accessFlags := 10, slot := 30, constantValue := 0 }, { name := "longRadix", type := (.array (.object "java/math/BigInteger")), accessFlags := 10, slot := 31, constantValue := 0 }, { name := "digitsPerInt", type := (.array .int), accessFlags := 10, slot := 32, constantValue := 0 }, { name := "intRadix", type := (.array .int), accessFlags := 10, slot := 33, constantValue := 0 }, { name := "serialVersionUID", type := .long, accessFlags := 26, slot := 34, constantValue := 0 }, { name := "serialPersistentFields", type := (.array (.object "java/io/ObjectStreamField")), accessFlags := 26, slot := 35, constantValue := 0 }, { name := "$assertionsDisabled", type := .boolean, accessFlags := 4120, slot := 36, constantValue := 0 }]
  methods := #[]
  instanceTypes := #[.int, (.array .int), .int, .int, .int, .int]
  staticTypes := #[.long, .int, .int, .int, .int, .int, .int, .int, .int, .int, .int, .int, (.array .long), .int, .int, (.object "java/math/BigInteger"), .int, (.array (.object "java/math/BigInteger")), (.array (.object "java/math/BigInteger")), (.array (.array (.object "java/math/BigInteger"))), (.array .double), .double, (.object "java/math/BigInteger"), (.object "java/math/BigInteger"), (.object "java/math/BigInteger"), (.object "java/math/BigInteger"), (.object "java/math/BigInteger"), (.array .int), .int, (.object "java/lang/String"), (.array .int), (.array (.object "java/math/BigInteger")), (.array .int), (.array .int), .long, (.array (.object "java/io/ObjectStreamField")), .boolean]
  resolved := Array.replicate 1542 none
  statics := some 1 }

def pool10 : Array CpInfo := pool [(1, u "java/lang/Cloneable"), (0, .class_ 1), (0, u "java/lang/Object"), (0, .class_ 3)] 3

/-- java/lang/Cloneable -/
def k10 : Class := { plain "java/lang/Cloneable" (some 0) with
  accessFlags := 1537
  interfaces := #[]
  cf := some (fileOf pool10 2 #[] #[] 1537 4 #[] #[])
  fields := #[]
  methods := #[]
  instanceTypes := #[]
  staticTypes := #[]
  resolved := Array.replicate 8 none
  statics := none }

/-- the primitive byte -/
def k11 : Class := { plain "byte" none with kind := .primitive 'B', accessFlags := 0x411 }
/-- [B -/
def k12 : Class := { plain "[B" (some 0) with kind := .array 11 .byte, interfaces := #[10, 2], accessFlags := 1041 }

/-- the primitive int -/
def k13 : Class := { plain "int" none with kind := .primitive 'I', accessFlags := 0x411 }
/-- [I -/
def k14 : Class := { plain "[I" (some 0) with kind := .array 13 .int, interfaces := #[10, 2], accessFlags := 1041 }

/-- [Ljava/math/BigDecimal; -/
def k15 : Class := { plain "[Ljava/math/BigDecimal;" (some 0) with kind := .array 5 (.object "java/math/BigDecimal"), interfaces := #[10, 2], accessFlags := 1041 }

def heap : Heap := #[{ cls := 5, slots := #[.double 0, .int 0, .int 0, .int 0, .int 0, .int 0, .int 0, .long 0, .null, .int 0, .long 0, .ref 2, .null, .long 0, .long 0, .ref 3, .ref 6, .ref 9, .ref 33, .null, .null, .int 0, .int 0, .int 0, .int 0, .int 0, .int 0, .int 0, .int 0, .null, .null, .null, .null, .int 0, .int 0, .null, .long 0, .null, .int 0], vm := .statics 5 },
  { cls := 9, slots := #[.long 0, .int 0, .int 0, .int 0, .int 0, .int 0, .int 0, .int 0, .int 0, .int 0, .int 0, .int 0, .null, .int 0, .int 0, .null, .int 0, .null, .null, .null, .null, .double 0, .ref 4, .ref 7, .ref 10, .null, .ref 34, .null, .int 0, .null, .null, .null, .null, .null, .long 0, .null, .int 0], vm := .statics 9 },
  { cls := 15, slots := #[.ref 3, .ref 6, .ref 9, .ref 12, .ref 15, .ref 18, .ref 21, .ref 24, .ref 27, .ref 30, .ref 33], vm := .none },
  { cls := 5, slots := #[.ref 4, .int 0, .int 0, .null, .long 0], vm := .none },
  { cls := 9, slots := #[.int 0, .ref 5, .int 0, .int 0, .int 0, .int 0], vm := .none },
  { cls := 14, slots := #[], vm := .none },
  { cls := 5, slots := #[.ref 7, .int 0, .int 0, .null, .long 1], vm := .none },
  { cls := 9, slots := #[.int 1, .ref 8, .int 0, .int 0, .int 0, .int 0], vm := .none },
  { cls := 14, slots := #[.int 0], vm := .none },
  { cls := 5, slots := #[.ref 10, .int 0, .int 0, .null, .long 2], vm := .none },
  { cls := 9, slots := #[.int 1, .ref 11, .int 0, .int 0, .int 0, .int 0], vm := .none },
  { cls := 14, slots := #[.int 0], vm := .none },
  { cls := 5, slots := #[.ref 13, .int 0, .int 0, .null, .long 3], vm := .none },
  { cls := 9, slots := #[.int 1, .ref 14, .int 0, .int 0, .int 0, .int 0], vm := .none },
  { cls := 14, slots := #[.int 0], vm := .none },
  { cls := 5, slots := #[.ref 16, .int 0, .int 0, .null, .long 4], vm := .none },
  { cls := 9, slots := #[.int 1, .ref 17, .int 0, .int 0, .int 0, .int 0], vm := .none },
  { cls := 14, slots := #[.int 0], vm := .none },
  { cls := 5, slots := #[.ref 19, .int 0, .int 0, .null, .long 5], vm := .none },
  { cls := 9, slots := #[.int 1, .ref 20, .int 0, .int 0, .int 0, .int 0], vm := .none },
  { cls := 14, slots := #[.int 0], vm := .none },
  { cls := 5, slots := #[.ref 22, .int 0, .int 0, .null, .long 6], vm := .none },
  { cls := 9, slots := #[.int 1, .ref 23, .int 0, .int 0, .int 0, .int 0], vm := .none },
  { cls := 14, slots := #[.int 0], vm := .none },
  { cls := 5, slots := #[.ref 25, .int 0, .int 0, .null, .long 7], vm := .none },
  { cls := 9, slots := #[.int 1, .ref 26, .int 0, .int 0, .int 0, .int 0], vm := .none },
  { cls := 14, slots := #[.int 0], vm := .none },
  { cls := 5, slots := #[.ref 28, .int 0, .int 0, .null, .long 8], vm := .none },
  { cls := 9, slots := #[.int 1, .ref 29, .int 0, .int 0, .int 0, .int 0], vm := .none },
  { cls := 14, slots := #[.int 0], vm := .none },
  { cls := 5, slots := #[.ref 31, .int 0, .int 0, .null, .long 9], vm := .none },
  { cls := 9, slots := #[.int 1, .ref 32, .int 0, .int 0, .int 0, .int 0], vm := .none },
  { cls := 14, slots := #[.int 0], vm := .none },
  { cls := 5, slots := #[.ref 34, .int 0, .int 0, .null, .long 10], vm := .none },
  { cls := 9, slots := #[.int 1, .ref 35, .int 0, .int 0, .int 0, .int 0], vm := .none },
  { cls := 14, slots := #[.int 0], vm := .none }]
def classes : Array Class := #[k0, k1, k2, k3, k4, k5, k6, k7, k8, k9, k10, k11, k12, k13, k14, k15]
def interned : List (Array UInt16 × Addr) := []
def slotsUsed : Nat := 218
def theMethod : MethodId := ⟨1, 1⟩
def args0 : Array Value := #[.int 1, .int 2, .int 3, .int 1, .int 2, .int 3]
def aboutOver (below : List Frame) : State where
  vm := { classes := classes, interned := interned.toArray }
  heap := heap
  slotsUsed := slotsUsed
  threads := #[{ frames := .invoking theMethod args0 :: below }]
def below0 : List Frame := [.native { method := ⟨0, 0⟩, args := #[] }]
def about1 : State := aboutOver below0
def p0 : Program := .bare "" "" ""
def e0 : Env := launch0.env 0 0 0
theorem w_frames : about1.frames = Frame.invoking theMethod args0 :: below0 := rfl
set_option maxRecDepth 65536 in
theorem w_args : argsFit about1.vm theMethod args0 = true := by decide +kernel
set_option maxRecDepth 65536 in
theorem w_heap : heapFits about1 = true := by decide +kernel
set_option maxRecDepth 65536 in
theorem w_runnable : about1.curStatus? = some .runnable := by decide +kernel
set_option maxRecDepth 65536 in
theorem w_alone : about1.alone = true := by decide +kernel
set_option maxRecDepth 65536 in
theorem w_named : about1.methodNamed? x = some theMethod := by decide +kernel
set_option maxRecDepth 65536 in
theorem w_hears : about1.hears theMethod below0 = true := by decide +kernel
set_option maxRecDepth 65536 in
theorem w_ripe : about1.ripe theMethod args0 below0 = true := by decide +kernel
theorem w_running : about1.status = .running := rfl
set_option maxRecDepth 65536 in
theorem w_room : about1.hasRoom e0.platform room_1 = true :=
  launch0.hasRoom_least _ room_1 (by decide +kernel) (by decide +kernel) (by decide +kernel) (by decide +kernel) (by decide +kernel) (by decide +kernel)
theorem allAtoms_all (ts : List Jvm.Cond) (a : Array Jvm.Value) (st : Jvm.State) : (allAtoms ts).before a st = ts.all (fun c => c.before a st) := by
  induction ts with
  | nil => rfl
  | cons c t ih =>
    show (Jvm.Cond.and c (allAtoms t)).before a st = _
    rw [Jvm.Cond.before_and, ih, List.all_cons]
def words1 : List Jvm.Cond := Jvm.Cond.code x code maxLocals ret :: tables_1
/-- a 'code' word, met by the world's own term for the bytes: nothing is compared byte by byte -/
theorem code_word {y : MethodName} {bytes : ByteArray} {mx : Nat} {rt : Option FieldType} {a : Array Value} {s : State} {m : MethodId} {meth : Method} {c : Code} (h1 : s.methodNamed? y = some m) (h2 : s.vm.method? m = some meth) (h3 : meth.code = some c) (h4 : c.code = bytes)
    (h5 : (c.maxLocals == mx && c.exceptionTable.isEmpty && decide (c.maxStack ≤ mostOperands) && decide (meth.sig.returnType = rt) && !meth.locks && decide (parseMethodDescriptor y.desc = some meth.sig)) = true) : (Jvm.Cond.code y bytes mx rt).before a s = true := by
  simp only [Bool.and_eq_true, beq_iff_eq, Bool.not_eq_true', decide_eq_true_eq] at h5
  obtain ⟨⟨⟨⟨⟨g1, g2⟩, g3⟩, g4⟩, g5⟩, g6⟩ := h5
  simp [Cond.before, Cond.holds, Cond.value, h1, h2, h3, h4, g1, g2, g3, g4, g5, g6]
def isCode : Jvm.Cond → Bool
  | .code _ _ _ _ => true
  | _ => false
theorem all_split {L : List Jvm.Cond} {P : Jvm.Cond → Bool} (h1 : L.all (fun c => isCode c || P c) = true) (h2 : ∀ c ∈ L.filter isCode, P c = true) : L.all P = true := by
  refine List.all_eq_true.mpr fun c hc => ?_
  have h := List.all_eq_true.mp h1 c hc
  rcases Bool.eq_false_or_eq_true (isCode c) with hi | hi
  · exact h2 c (List.mem_filter.mpr ⟨hc, hi⟩)
  · simpa [hi] using h
set_option maxRecDepth 65536 in
theorem w_c0 : (Jvm.Cond.code x code maxLocals ret).before args0 about1 = true := code_word (m := ⟨1, 1⟩) (meth := k1m1) (c := k1c1) (by decide +kernel) rfl rfl rfl (by decide +kernel)
set_option maxRecDepth 65536 in
theorem w_c1 : (Jvm.Cond.code ({ cls := "java/math/BigDecimal", name := "valueOf", desc := "(J)Ljava/math/BigDecimal;" } : Jvm.MethodName) jdk_17_method_21_code (2 : Nat) (Option.some (Jvm.ClassFile.FieldType.object "java/math/BigDecimal"))).before args0 about1 = true := code_word (m := ⟨5, 2⟩) (meth := k5m2) (c := k5c2) (by decide +kernel) rfl rfl rfl (by decide +kernel)
set_option maxRecDepth 65536 in
theorem w_c2 : (Jvm.Cond.code ({ cls := "com/example/cropmark/cropmark/Weights", name := "<init>", desc := "(Ljava/math/BigDecimal;Ljava/math/BigDecimal;Ljava/math/BigDecimal;Ljava/math/BigDecimal;)V" } : Jvm.MethodName) prog_92_method_2_code (5 : Nat) (Option.none : Option Jvm.ClassFile.FieldType)).before args0 about1 = true := code_word (m := ⟨7, 0⟩) (meth := k7m0) (c := k7c0) (by decide +kernel) rfl rfl rfl (by decide +kernel)
set_option maxRecDepth 65536 in
theorem w_c3 : (Jvm.Cond.code ({ cls := "java/lang/Record", name := "<init>", desc := "()V" } : Jvm.MethodName) jdk_30_method_1_code (1 : Nat) (Option.none : Option Jvm.ClassFile.FieldType)).before args0 about1 = true := code_word (m := ⟨6, 0⟩) (meth := k6m0) (c := k6c0) (by decide +kernel) rfl rfl rfl (by decide +kernel)
set_option maxRecDepth 65536 in
theorem w_c4 : (Jvm.Cond.code ({ cls := "java/lang/Object", name := "<init>", desc := "()V" } : Jvm.MethodName) object_method_1_code (1 : Nat) (Option.none : Option Jvm.ClassFile.FieldType)).before args0 about1 = true := code_word (m := ⟨0, 0⟩) (meth := k0m0) (c := k0c0) (by decide +kernel) rfl rfl rfl (by decide +kernel)
set_option maxRecDepth 65536 in
theorem w_c5 : (Jvm.Cond.code ({ cls := "com/example/cropmark/cropmark/Assessment$Sums", name := "<init>", desc := "()V" } : Jvm.MethodName) prog_12_method_1_code (1 : Nat) (Option.none : Option Jvm.ClassFile.FieldType)).before args0 about1 = true := code_word (m := ⟨8, 0⟩) (meth := k8m0) (c := k8c0) (by decide +kernel) rfl rfl rfl (by decide +kernel)
set_option maxRecDepth 65536 in
theorem w_c6 : (Jvm.Cond.code ({ cls := "com/example/cropmark/cropmark/Assessment$Sums", name := "add", desc := "(Lcom/example/cropmark/cropmark/Weights;)V" } : Jvm.MethodName) prog_12_method_3_code (2 : Nat) (Option.none : Option Jvm.ClassFile.FieldType)).before args0 about1 = true := code_word (m := ⟨8, 1⟩) (meth := k8m1) (c := k8c1) (by decide +kernel) rfl rfl rfl (by decide +kernel)
set_option maxRecDepth 65536 in
theorem w_c7 : (Jvm.Cond.code ({ cls := "com/example/cropmark/cropmark/Weights", name := "assessedLb", desc := "()Ljava/math/BigDecimal;" } : Jvm.MethodName) prog_92_method_9_code (1 : Nat) (Option.some (Jvm.ClassFile.FieldType.object "java/math/BigDecimal"))).before args0 about1 = true := code_word (m := ⟨7, 2⟩) (meth := k7m2) (c := k7c2) (by decide +kernel) rfl rfl rfl (by decide +kernel)
set_option maxRecDepth 65536 in
theorem w_c8 : (Jvm.Cond.code ({ cls := "java/math/BigDecimal", name := "add", desc := "(Ljava/math/BigDecimal;)Ljava/math/BigDecimal;" } : Jvm.MethodName) jdk_17_method_26_code (2 : Nat) (Option.some (Jvm.ClassFile.FieldType.object "java/math/BigDecimal"))).before args0 about1 = true := code_word (m := ⟨5, 3⟩) (meth := k5m3) (c := k5c3) (by decide +kernel) rfl rfl rfl (by decide +kernel)
set_option maxRecDepth 65536 in
theorem w_c9 : (Jvm.Cond.code ({ cls := "java/math/BigDecimal", name := "add", desc := "(JIJI)Ljava/math/BigDecimal;" } : Jvm.MethodName) jdk_17_method_134_code (12 : Nat) (Option.some (Jvm.ClassFile.FieldType.object "java/math/BigDecimal"))).before args0 about1 = true := code_word (m := ⟨5, 7⟩) (meth := k5m7) (c := k5c7) (by decide +kernel) rfl rfl rfl (by decide +kernel)
set_option maxRecDepth 65536 in
theorem w_c10 : (Jvm.Cond.code ({ cls := "java/math/BigDecimal", name := "add", desc := "(JJI)Ljava/math/BigDecimal;" } : Jvm.MethodName) jdk_17_method_133_code (7 : Nat) (Option.some (Jvm.ClassFile.FieldType.object "java/math/BigDecimal"))).before args0 about1 = true := code_word (m := ⟨5, 6⟩) (meth := k5m6) (c := k5c6) (by decide +kernel) rfl rfl rfl (by decide +kernel)
set_option maxRecDepth 65536 in
theorem w_c11 : (Jvm.Cond.code ({ cls := "java/math/BigDecimal", name := "add", desc := "(JJ)J" } : Jvm.MethodName) jdk_17_method_132_code (6 : Nat) (Option.some Jvm.ClassFile.FieldType.long)).before args0 about1 = true := code_word (m := ⟨5, 5⟩) (meth := k5m5) (c := k5c5) (by decide +kernel) rfl rfl rfl (by decide +kernel)
set_option maxRecDepth 65536 in
theorem w_c12 : (Jvm.Cond.code ({ cls := "java/math/BigDecimal", name := "valueOf", desc := "(JI)Ljava/math/BigDecimal;" } : Jvm.MethodName) jdk_17_method_20_code (3 : Nat) (Option.some (Jvm.ClassFile.FieldType.object "java/math/BigDecimal"))).before args0 about1 = true := code_word (m := ⟨5, 1⟩) (meth := k5m1) (c := k5c1) (by decide +kernel) rfl rfl rfl (by decide +kernel)
set_option maxRecDepth 65536 in
theorem w_c13 : (Jvm.Cond.code ({ cls := "com/example/cropmark/cropmark/Weights", name := "inedibleLb", desc := "()Ljava/math/BigDecimal;" } : Jvm.MethodName) prog_92_method_7_code (1 : Nat) (Option.some (Jvm.ClassFile.FieldType.object "java/math/BigDecimal"))).before args0 about1 = true := code_word (m := ⟨7, 1⟩) (meth := k7m1) (c := k7c1) (by decide +kernel) rfl rfl rfl (by decide +kernel)
set_option maxRecDepth 65536 in
theorem w_c14 : (Jvm.Cond.code ({ cls := "com/example/cropmark/cropmark/Assessment$Sums", name := "lots", desc := "()I" } : Jvm.MethodName) prog_12_method_5_code (1 : Nat) (Option.some Jvm.ClassFile.FieldType.int)).before args0 about1 = true := code_word (m := ⟨8, 2⟩) (meth := k8m2) (c := k8c2) (by decide +kernel) rfl rfl rfl (by decide +kernel)
set_option maxRecDepth 65536 in
theorem w_c15 : (Jvm.Cond.code ({ cls := "com/example/cropmark/cropmark/Assessment$Sums", name := "assessedLb", desc := "()Ljava/math/BigDecimal;" } : Jvm.MethodName) prog_12_method_6_code (1 : Nat) (Option.some (Jvm.ClassFile.FieldType.object "java/math/BigDecimal"))).before args0 about1 = true := code_word (m := ⟨8, 3⟩) (meth := k8m3) (c := k8c3) (by decide +kernel) rfl rfl rfl (by decide +kernel)
set_option maxRecDepth 65536 in
theorem w_c16 : (Jvm.Cond.code ({ cls := "java/math/BigDecimal", name := "equals", desc := "(Ljava/lang/Object;)Z" } : Jvm.MethodName) jdk_17_method_72_code (7 : Nat) (Option.some Jvm.ClassFile.FieldType.boolean)).before args0 about1 = true := code_word (m := ⟨5, 4⟩) (meth := k5m4) (c := k5c4) (by decide +kernel) rfl rfl rfl (by decide +kernel)
set_option maxRecDepth 65536 in
theorem w_c17 : (Jvm.Cond.code ({ cls := "com/example/cropmark/cropmark/Assessment$Sums", name := "inedibleLb", desc := "()Ljava/math/BigDecimal;" } : Jvm.MethodName) prog_12_method_7_code (1 : Nat) (Option.some (Jvm.ClassFile.FieldType.object "java/math/BigDecimal"))).before args0 about1 = true := code_word (m := ⟨8, 4⟩) (meth := k8m4) (c := k8c4) (by decide +kernel) rfl rfl rfl (by decide +kernel)
set_option maxRecDepth 65536 in
theorem w_c18 : (Jvm.Cond.code ({ cls := "java/math/BigDecimal", name := "<init>", desc := "(Ljava/math/BigInteger;JII)V" } : Jvm.MethodName) jdk_17_method_1_code (6 : Nat) (Option.none : Option Jvm.ClassFile.FieldType)).before args0 about1 = true := code_word (m := ⟨5, 0⟩) (meth := k5m0) (c := k5c0) (by decide +kernel) rfl rfl rfl (by decide +kernel)
set_option maxRecDepth 65536 in
theorem w_c19 : (Jvm.Cond.code ({ cls := "java/lang/Number", name := "<init>", desc := "()V" } : Jvm.MethodName) jdk_18_method_1_code (1 : Nat) (Option.none : Option Jvm.ClassFile.FieldType)).before args0 about1 = true := code_word (m := ⟨3, 0⟩) (meth := k3m0) (c := k3c0) (by decide +kernel) rfl rfl rfl (by decide +kernel)
def codes1 : List Jvm.Cond := [Jvm.Cond.code x code maxLocals ret, Jvm.Cond.code ({ cls := "java/math/BigDecimal", name := "valueOf", desc := "(J)Ljava/math/BigDecimal;" } : Jvm.MethodName) jdk_17_method_21_code (2 : Nat) (Option.some (Jvm.ClassFile.FieldType.object "java/math/BigDecimal")), Jvm.Cond.code ({ cls := "com/example/cropmark/cropmark/Weights", name := "<init>", desc := "(Ljava/math/BigDecimal;Ljava/math/BigDecimal;Ljava/math/BigDecimal;Ljava/math/BigDecimal;)V" } : Jvm.MethodName) prog_92_method_2_code (5 : Nat) (Option.none : Option Jvm.ClassFile.FieldType), Jvm.Cond.code ({ cls := "java/lang/Record", name := "<init>", desc := "()V" } : Jvm.MethodName) jdk_30_method_1_code (1 : Nat) (Option.none : Option Jvm.ClassFile.FieldType), Jvm.Cond.code ({ cls := "java/lang/Object", name := "<init>", desc := "()V" } : Jvm.MethodName) object_method_1_code (1 : Nat) (Option.none : Option Jvm.ClassFile.FieldType), Jvm.Cond.code ({ cls := "com/example/cropmark/cropmark/Assessment$Sums", name := "<init>", desc := "()V" } : Jvm.MethodName) prog_12_method_1_code (1 : Nat) (Option.none : Option Jvm.ClassFile.FieldType), Jvm.Cond.code ({ cls := "com/example/cropmark/cropmark/Assessment$Sums", name := "add", desc := "(Lcom/example/cropmark/cropmark/Weights;)V" } : Jvm.MethodName) prog_12_method_3_code (2 : Nat) (Option.none : Option Jvm.ClassFile.FieldType), Jvm.Cond.code ({ cls := "com/example/cropmark/cropmark/Weights", name := "assessedLb", desc := "()Ljava/math/BigDecimal;" } : Jvm.MethodName) prog_92_method_9_code (1 : Nat) (Option.some (Jvm.ClassFile.FieldType.object "java/math/BigDecimal")), Jvm.Cond.code ({ cls := "java/math/BigDecimal", name := "add", desc := "(Ljava/math/BigDecimal;)Ljava/math/BigDecimal;" } : Jvm.MethodName) jdk_17_method_26_code (2 : Nat) (Option.some (Jvm.ClassFile.FieldType.object "java/math/BigDecimal")), Jvm.Cond.code ({ cls := "java/math/BigDecimal", name := "add", desc := "(JIJI)Ljava/math/BigDecimal;" } : Jvm.MethodName) jdk_17_method_134_code (12 : Nat) (Option.some (Jvm.ClassFile.FieldType.object "java/math/BigDecimal")), Jvm.Cond.code ({ cls := "java/math/BigDecimal", name := "add", desc := "(JJI)Ljava/math/BigDecimal;" } : Jvm.MethodName) jdk_17_method_133_code (7 : Nat) (Option.some (Jvm.ClassFile.FieldType.object "java/math/BigDecimal")), Jvm.Cond.code ({ cls := "java/math/BigDecimal", name := "add", desc := "(JJ)J" } : Jvm.MethodName) jdk_17_method_132_code (6 : Nat) (Option.some Jvm.ClassFile.FieldType.long), Jvm.Cond.code ({ cls := "java/math/BigDecimal", name := "valueOf", desc := "(JI)Ljava/math/BigDecimal;" } : Jvm.MethodName) jdk_17_method_20_code (3 : Nat) (Option.some (Jvm.ClassFile.FieldType.object "java/math/BigDecimal")), Jvm.Cond.code ({ cls := "com/example/cropmark/cropmark/Weights", name := "inedibleLb", desc := "()Ljava/math/BigDecimal;" } : Jvm.MethodName) prog_92_method_7_code (1 : Nat) (Option.some (Jvm.ClassFile.FieldType.object "java/math/BigDecimal")), Jvm.Cond.code ({ cls := "com/example/cropmark/cropmark/Assessment$Sums", name := "lots", desc := "()I" } : Jvm.MethodName) prog_12_method_5_code (1 : Nat) (Option.some Jvm.ClassFile.FieldType.int), Jvm.Cond.code ({ cls := "com/example/cropmark/cropmark/Assessment$Sums", name := "assessedLb", desc := "()Ljava/math/BigDecimal;" } : Jvm.MethodName) prog_12_method_6_code (1 : Nat) (Option.some (Jvm.ClassFile.FieldType.object "java/math/BigDecimal")), Jvm.Cond.code ({ cls := "java/math/BigDecimal", name := "equals", desc := "(Ljava/lang/Object;)Z" } : Jvm.MethodName) jdk_17_method_72_code (7 : Nat) (Option.some Jvm.ClassFile.FieldType.boolean), Jvm.Cond.code ({ cls := "com/example/cropmark/cropmark/Assessment$Sums", name := "inedibleLb", desc := "()Ljava/math/BigDecimal;" } : Jvm.MethodName) prog_12_method_7_code (1 : Nat) (Option.some (Jvm.ClassFile.FieldType.object "java/math/BigDecimal")), Jvm.Cond.code ({ cls := "java/math/BigDecimal", name := "<init>", desc := "(Ljava/math/BigInteger;JII)V" } : Jvm.MethodName) jdk_17_method_1_code (6 : Nat) (Option.none : Option Jvm.ClassFile.FieldType), Jvm.Cond.code ({ cls := "java/lang/Number", name := "<init>", desc := "()V" } : Jvm.MethodName) jdk_18_method_1_code (1 : Nat) (Option.none : Option Jvm.ClassFile.FieldType)]
set_option maxRecDepth 65536 in
theorem codes_eq : words1.filter isCode = codes1 := rfl
theorem w_codes : ∀ c ∈ words1.filter isCode, c.before args0 about1 = true := by
  rw [codes_eq]
  intro c hc
  simp only [codes1, List.mem_cons, List.not_mem_nil, or_false] at hc
  rcases hc with rfl | rfl | rfl | rfl | rfl | rfl | rfl | rfl | rfl | rfl | rfl | rfl | rfl | rfl | rfl | rfl | rfl | rfl | rfl | rfl
  · exact w_c0
  · exact w_c1
  · exact w_c2
  · exact w_c3
  · exact w_c4
  · exact w_c5
  · exact w_c6
  · exact w_c7
  · exact w_c8
  · exact w_c9
  · exact w_c10
  · exact w_c11
  · exact w_c12
  · exact w_c13
  · exact w_c14
  · exact w_c15
  · exact w_c16
  · exact w_c17
  · exact w_c18
  · exact w_c19
set_option maxRecDepth 65536 in
theorem w_t1 : (words1.take 24).all (fun c => isCode c || c.before args0 about1) = true := by decide +kernel
set_option maxRecDepth 65536 in
theorem w_t2 : ((words1.drop 24).take 24).all (fun c => isCode c || c.before args0 about1) = true := by decide +kernel
set_option maxRecDepth 65536 in
theorem w_t3 : (((words1.drop 24).drop 24).take 24).all (fun c => isCode c || c.before args0 about1) = true := by decide +kernel
set_option maxRecDepth 65536 in
theorem w_t4 : ((((words1.drop 24).drop 24).drop 24).take 24).all (fun c => isCode c || c.before args0 about1) = true := by decide +kernel
set_option maxRecDepth 65536 in
theorem w_t5 : ((((words1.drop 24).drop 24).drop 24).drop 24).all (fun c => isCode c || c.before args0 about1) = true := by decide +kernel
theorem w_tables : (allAtoms (Jvm.Cond.code x code maxLocals ret :: tables_1)).before args0 about1 = true := by
  rw [allAtoms_all]
  show words1.all (fun c => c.before args0 about1) = true
  refine all_split ?_ w_codes
  rw [← List.take_append_drop 24 words1, List.all_append, w_t1, ← List.take_append_drop 24 (words1.drop 24), List.all_append, w_t2, ← List.take_append_drop 24 ((words1.drop 24).drop 24), List.all_append, w_t3, ← List.take_append_drop 24 (((words1.drop 24).drop 24).drop 24), List.all_append, w_t4, w_t5]
  rfl
set_option maxRecDepth 65536 in
theorem w_rest : rest_1_c.before args0 about1 = true := by decide +kernel
set_option maxRecDepth 65536 in
theorem w_case : (Jvm.Cond.and given_1 narrow_1).before args0 about1 = true := by decide +kernel
theorem w_applies : (headSpec (Jvm.Cond.code x code maxLocals ret :: tables_1) room_1).applies x e0.platform about1 = true :=
  (Spec.applies_iff w_frames).mpr ⟨w_running, w_runnable, w_alone, w_named, w_hears, w_ripe, w_room, w_tables⟩
theorem atStart : AtStart classFile x code maxLocals ret World_1 tables_1 room_1 Calls_1 rest_1 Pre_1 launch0 p0 e0 about1 theMethod args0 below0 :=
  ⟨lists_1, trivial, launch0.admits_env _ _ _, launch0.least_env, fairChoices_fair.cas, fairChoices_fair.clock, w_frames, w_args, w_heap, w_applies, trivial, w_rest, w_case⟩
end start1
theorem witness_1 : WitnessClaimed_1 := ⟨start1.p0, start1.e0, start1.about1, start1.theMethod, start1.args0, start1.below0, start1.atStart⟩
end Jvm.Pilot.@@N@@
