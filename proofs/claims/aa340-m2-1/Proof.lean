import JvmDerived
import JvmDerived.Pilot.@@N@@Statement
import JvmDerived.Pilot.@@N@@Code
set_option linter.unusedVariables false
set_option linter.unusedSimpArgs false
namespace Jvm.RoadKit
open Sem ClassFile Op Lib Jvm.Stand Jvm.Free Jvm.LawKit
section New
variable {p : Program} {l : Launch} {e : Env} {R : Room} {s : State} {m : MethodId} {args : Array Value} {below : List Frame} {meth : Method} {c : Code} {T : State} {locs : List Loc} {cells slots : Nat}
theorem retI (X : Stand p l e R s m args below meth c T locs cells slots) (hx : p.tables.exec = Jvm.exec) {pc : Nat} {Ls : Array Slot} {z : Int32} {rest : List Value} (hret : meth.sig.returnType = some .int) (hd : decode c.code pc = .ok (.ireturn, 1)) {fs : List Frame}
    (hl : ∀ (f : JFrame) (acts : List Action), f.method = m → f.locked = none → f.entered = [] → (doReturn e (T.setTop f) acts (some (.int z))).1 = T.setFrames fs) : Steps p.tables e below (T.setTop (mkF m pc Ls (.int z :: rest))) (T.setFrames fs) := by
  have hm' : T.vm.method? m = some meth := X.method'
  have hn : narrow .int (.int z) = .int z := rfl
  show Steps p.tables e below (T.setTop { method := m, pc := pc, locals := Ls, stack := _ :: rest, locked := none }) _
  jvm_step X.here [X.here.top, hx, hd, hm', hret, hn]
  first | (intro acts; rw [hl _ acts rfl rfl rfl]) | rw [hl _ _ rfl rfl rfl]
  exact Steps.refl _
theorem own_retA (X : Stand p l e R s m args below meth c T locs cells slots) (hx : p.tables.exec = Jvm.exec) {pc : Nat} {Ls : Array Slot} {z : Value} {ty : FieldType} {rest : List Value} (hret : meth.sig.returnType = some ty) (hty : ty.isReference = true) (hz : z.isRef = true) (hd : decode c.code pc = .ok (.areturn, 1)) {fs : List Frame}
    (hl : ∀ (f : JFrame) (acts : List Action), f.method = m → f.locked = none → f.entered = [] → (doReturn e (T.setTop f) acts (some z)).1 = T.setFrames fs) : Steps p.tables e below (T.setTop (mkF m pc Ls (z :: rest))) (T.setFrames fs) := by
  have hm' : T.vm.method? m = some meth := X.method'
  show Steps p.tables e below (T.setTop { method := m, pc := pc, locals := Ls, stack := _ :: rest, locked := none }) _
  jvm_step X.here [X.here.top, hx, hd, hm', hret, hz, hty]
  first | (intro acts; rw [hl _ acts rfl rfl rfl]) | rw [hl _ _ rfl rfl rfl]
  exact Steps.refl _
theorem own_lremM {g : JFrame} {target : State} (X : Stand p l e R s m args below meth c T locs cells slots) (hx : p.tables.exec = Jvm.exec) (hg : g.method = m) {x y : Int64} {rest : List Value} (hd : decode c.code g.pc = .ok (.lrem, 1)) (hs : g.stack = .long y :: .long x :: rest) (hy : y ≠ 0)
    (hr : Steps p.tables e below (T.setTop { g with pc := g.pc + 1, stack := .long (x % y) :: rest }) target) : Steps p.tables e below (T.setTop g) target :=
  XS.lrem X.here hx hg hd hs hy (by rw [lrem_mod]; exact hr)
end New
end Jvm.RoadKit
namespace Jvm.Pilot.@@N@@
open Jvm Jvm.ClassFile Sem Op Lib Jvm.Free Jvm.Stand Jvm.LawKit Jvm.RoadKit Bundle Jvm.Pilot.@@N@@.Jvm.D
theorem own_selP {Z s : State} {args a0 : Array Value} {y : MethodName} {n : Nat} (hZ : Z.Warmed39 s.vm) (wi : (Jvm.Cond.instantiable y.cls n).before a0 Z = true) (wp : (Jvm.Cond.privateMethod y).before a0 Z = true) (wm : (Jvm.Cond.instanceMethod y).before a0 Z = true) (hy : y.cls ≠ "java/lang/invoke/MethodHandle" ∧ y.cls ≠ "java/lang/invoke/VarHandle") : (Jvm.Cond.selects y.cls y y).before args s = true := by
  obtain ⟨c, k, h1, h2, -, h3, -⟩ := Cond.instantiable_spec (mv (args := args) hZ wi)
  exact Jvm.Stand.selects_self_of_private h1 h2 (by simp only [Bool.or_eq_false_iff] at h3; exact h3.1) (Cond.privateMethod_at (mvP hZ wp (args := args))) (mv hZ wm) hy
theorem own_fitC {Z : State} {h : Heap} {a : Addr} {cl : Cell} {ty : FieldType} {vs : List Value} {dv : Value} (A : Arr Z h a cl ty) (H : Has cl vs dv) (G : ∀ i, i < cl.slots.size → fits ty (vs.getD i dv) = true) : FitC Z cl := fun i v hv => by
  obtain ⟨hi, -⟩ := Array.getElem?_eq_some_iff.mp hv
  obtain ⟨hs, k, hk, comp, hkind⟩ := A.2.1
  have e : Z.slotType? cl.cls .none i = some ty := by simp [State.slotType?, hk, hkind]
  have q := G i hi
  have hv' : v = vs.getD i dv := Option.some.inj (hv.symm.trans (H i hi))
  rw [State.fitsSlot, e, hv']
  exact q
theorem own_ibW {Z s : State} {vm₁ : Vm} {Ts : List String} (I : IB Z s.vm Ts) (h : s.WarmedH vm₁) : IB Z vm₁ Ts := by
  obtain ⟨more, q1, q2⟩ := I
  exact ⟨more, by rw [h.interned_eq]; exact q1, q2⟩
theorem own_litS {Z s : State} {vm₁ : Vm} {own : String} {i : Nat} {a : Addr} (L : Lit s own i a) (h : s.Warmed39 vm₁) : Lit (Z.setVm vm₁) own i a := State.resolvedAt?_warmed39 (s := s) h L
theorem own_litW {Z s : State} {vm₁ : Vm} {own : String} {i : Nat} {a : Addr} (L : Lit s own i a) (h : s.WarmedH vm₁) : Lit (Z.setVm vm₁) own i a := own_litS L h.wide
theorem own_backOfV {p : Program} {l : Launch} {e : Env} {R : Room} {s : State} {args : Array Value} {below : List Frame} {Z : State} {a0 : Array Value} {h : Heap} {y : MethodName} {bytes : ByteArray} {maxL : Nat} {ret : Option FieldType} {rm : Room} {len W : Nat} {as' : Array Value} {VP : Vm → Prop} {Q : Option Value → Heap → Vm → List Loc → Prop}
    (hM : MetFree l y (head1 [Jvm.Cond.code y bytes maxL ret] rm) (fun a U => a = as' ∧ Z.Warmed39 U.vm ∧ U.heap = h ∧ VP U.vm) (fun _ _ _ _ _ => True) (fun _ U o U' => ∃ v L, o = .returned v ∧ Q v U'.heap U'.vm L ∧ ReturnedEndW U o U' L rm.cells rm.slots))
    (hZ : Z.Warmed39 s.vm) (wc : (Jvm.Cond.code y bytes maxL ret).before a0 Z = true) (wz : (Jvm.Cond.initialized y.cls).before a0 Z = true) (hf : rm.frames + 1 ≤ R.frames) (hl : W + (maxL + 11) + rm.locals ≤ R.locals) :
    BackS l R p e below s args y len W (fun A a => a = as' ∧ A.U.heap = h ∧ VP A.U.vm ∧ A.cells + rm.cells ≤ R.cells ∧ A.slots + rm.slots ≤ R.slots)
      (fun A _ v B => ∃ L, Q v B.U.heap B.U.vm L ∧ B.locs = A.locs ++ L ∧ B.cells = A.cells + rm.cells ∧ B.slots = A.slots + rm.slots) := by
  refine BackS.of_freeW (bytes := bytes) (maxL := maxL) (ret := ret) (E := fun _ _ o t L k n => k = rm.cells ∧ n = rm.slots ∧ ∃ v, o = .returned v ∧ Q v t.heap t.vm L) hM hf hl ?_ ?_ (fun _ _ _ _ _ _ _ _ _ => trivial) ?_ ?_
  · intro m meth c A a Y hp
    have hU : Z.Warmed39 A.U.vm := wtrans hZ Y.warmed
    refine ⟨?_, mv hU wc, mv hU wz, hp.2.2.2.1, hp.2.2.2.2⟩
    show (Jvm.Cond.and _ .tt).before a A.U = true
    rw [Cond.before_and, mv hU wc]
    rfl
  · intro m meth c A a g mk Y hp
    exact ⟨hp.1, wtrans hZ Y.warmed, hp.2.1, hp.2.2.1⟩
  · rintro _ _ _ _ ⟨v, L, h1, h2, h3⟩
    exact ⟨L, _, _, h3, rfl, rfl, v, h1, h2⟩
  · rintro m meth c A a g mk v t L k n Y hp _ _ ⟨e1, e2, v', e3, e4⟩
    cases e3
    subst e1 e2
    exact ⟨L, e4, rfl, rfl, rfl⟩
theorem own_n0 {Z : State} {n0 : Nat} {h : Heap} (X : Old Z n0 h) : n0 ≤ h.size := X.1 ▸ X.2.1
/-- the run comes from U to an end of which P says enough -/
def Go (p : Program) (e : Env) (below : List Frame) (P : Outcome → State → Prop) (U : State) : Prop := ∃ s₂ o, Steps p.tables e below U s₂ ∧ s₂.status = .running ∧ Ended s₂ below o ∧ P o s₂
theorem Go.st {p : Program} {e : Env} {below : List Frame} {P : Outcome → State → Prop} {U V : State} (k : ∀ t, Steps p.tables e below V t → Steps p.tables e below U t) (g : Go p e below P V) : Go p e below P U := by
  obtain ⟨a, b, h, r⟩ := g
  exact ⟨a, b, k _ h, r⟩
theorem Go.tr {p : Program} {e : Env} {below : List Frame} {P : Outcome → State → Prop} {U V : State} (k : Steps p.tables e below U V) (g : Go p e below P V) : Go p e below P U := by
  obtain ⟨a, b, h, r⟩ := g
  exact ⟨a, b, k.trans h, r⟩
theorem Go.start {p : Program} {e : Env} {below : List Frame} {P : Outcome → State → Prop} {U V : State} (k : ∀ {t}, Steps p.tables e below V t → Steps p.tables e below U t) (g : Go p e below P V) : ∃ s₂ o, Steps p.tables e below U s₂ ∧ s₂.status = .running ∧ Ended s₂ below o ∧ P o s₂ := by
  obtain ⟨a, b, h, r⟩ := g
  exact ⟨a, b, k h, r⟩
theorem own_valI {args : Array Value} {s : State} {t : Term} {k : Int32} (h : (Cond.eq t (.int k)).value args s none s [] = some true) : t.eval args s none [] s = some (.int k) := by
  obtain ⟨x, y, h1, h2, h3, -⟩ := cmp_v (Or.inl h)
  have e2 : y = .int k := (Option.some.inj h2).symm
  subst e2
  cases x <;> simp [Kin, Value.isRef] at h3
  simp only [Cond.value, h1, h2] at h
  simp at h
  rw [h1, h]
theorem own_valJ {args : Array Value} {s : State} {t : Term} {k : Int64} (h : (Cond.eq t (.long k)).value args s none s [] = some true) : t.eval args s none [] s = some (.long k) := by
  obtain ⟨x, y, h1, h2, h3, -⟩ := cmp_v (Or.inl h)
  have e2 : y = .long k := (Option.some.inj h2).symm
  subst e2
  cases x <;> simp [Kin, Value.isRef] at h3
  simp only [Cond.value, h1, h2] at h
  simp at h
  rw [h1, h]
theorem own_eqR {args : Array Value} {s : State} {t u : Term} {a : Addr} (ev : t.eval args s none [] s = some (.ref a)) (h : (Cond.eq t u).value args s none s [] = some true) : u.eval args s none [] s = some (.ref a) := by
  obtain ⟨x, y, h1, h2, h3, -⟩ := cmp_v (Or.inl h)
  cases h1.symm.trans ev
  have hy : y.isRef = true := h3.2
  have q := gotT (eq_R h1 h2 rfl hy) h
  rw [h2, ← q]
theorem own_eqL {args : Array Value} {s : State} {t u : Term} {a : Addr} (ev : u.eval args s none [] s = some (.ref a)) (h : (Cond.eq t u).value args s none s [] = some true) : t.eval args s none [] s = some (.ref a) := by
  obtain ⟨x, y, h1, h2, -, h4⟩ := cmp_v (Or.inl h)
  cases h2.symm.trans ev
  have hx : x.isRef = true := h4.2
  have q := gotT (eq_R h1 h2 hx rfl) h
  rw [h1, q]
theorem own_elI {Z : State} {args : Array Value} {t : Term} {a : Addr} {cl : Cell} {ty : FieldType} {i k : Int32} (A : Arr Z Z.heap a cl ty) (ev : t.eval args Z none [] Z = some (.ref a)) (h : (Cond.eq (.elem t (.int i)) (.int k)).value args Z none Z [] = some true) : cl.slots[i.toNatClampNeg]? = some (.int k) := (elem_in (own_valI h) ev rfl A.1).2
theorem own_elJ {Z : State} {args : Array Value} {t : Term} {a : Addr} {cl : Cell} {ty : FieldType} {i : Int32} {k : Int64} (A : Arr Z Z.heap a cl ty) (ev : t.eval args Z none [] Z = some (.ref a)) (h : (Cond.eq (.elem t (.int i)) (.long k)).value args Z none Z [] = some true) : cl.slots[i.toNatClampNeg]? = some (.long k) := (elem_in (own_valJ h) ev rfl A.1).2
theorem own_elR {Z : State} {args : Array Value} {t u : Term} {a b : Addr} {cl : Cell} {ty : FieldType} {i : Int32} (A : Arr Z Z.heap a cl ty) (ev : t.eval args Z none [] Z = some (.ref a)) (eu : u.eval args Z none [] Z = some (.ref b)) (h : (Cond.eq (.elem t (.int i)) u).value args Z none Z [] = some true) : cl.slots[i.toNatClampNeg]? = some (.ref b) := (elem_in (own_eqL eu h) ev rfl A.1).2
theorem own_arv {Z : State} {args : Array Value} {t : Term} {a : Addr} {cl : Cell} {ty : FieldType} {z : Int32} {vs : List Value} {dv : Value} (hf : Fit Z) (A : Arr Z Z.heap a cl ty) (ev : t.eval args Z none [] Z = some (.ref a)) (h : (Cond.eq (.length t) (.int z)).value args Z none Z [] = some true) (hz : ¬ z < 0) (hl : z.toNatClampNeg = vs.length) (H : HasL cl 0 vs) : Arv Z Z.heap a cl.cls ty z vs dv := by
  have hv := own_valI h
  have hA : Z.arrayAt? a = some cl := A.fin (Vm.Alike.refl _)
  have q : cl.slots.size < 2 ^ 31 := by
    simp only [Term.eval, ev, hA] at hv
    by_cases hq : cl.slots.size < 2 ^ 31
    · exact hq
    · simp [hA, hq] at hv
  have e : cl.slots.size.toInt32 = z := by
    have := len_f (args := args) (first := Z) (o := none) (idx := []) ev hA q
    rw [this] at hv
    exact Value.int.inj (Option.some.inj hv)
  exact Arv.start hf A q e hz hl H
theorem own_neI {args : Array Value} {s : State} {t : Term} {x k : Int32} (ev : t.eval args s none [] s = some (.int x)) (h : (Cond.not (Cond.eq t (.int k))).value args s none s [] = some true) : ¬ (x = k) := by
  have h' := not_v h
  intro e
  subst e
  simp [Cond.value, ev, Term.eval] at h'
theorem own_b32 (x : Int32) : -2147483648 ≤ x.toInt ∧ x.toInt < 2147483648 := ⟨Int32.le_toInt x, Int32.toInt_lt x⟩
theorem own_b64 (x : Int64) : -9223372036854775808 ≤ x.toInt ∧ x.toInt < 9223372036854775808 := ⟨Int64.le_toInt x, Int64.toInt_lt x⟩
theorem own_nlt32 {x y : Int32} (h : ¬ x < y) : ¬ x.toInt < y.toInt := fun q => h (Int32.lt_iff_toInt_lt.mpr q)
theorem own_nlt64 {x y : Int64} (h : ¬ x < y) : ¬ x.toInt < y.toInt := fun q => h (Int64.lt_iff_toInt_lt.mpr q)
theorem own_neq32 {x y : Int32} (h : ¬ x = y) : ¬ x.toInt = y.toInt := fun q => h (Int32.toInt_inj.mp q)
theorem own_neq64 {x y : Int64} (h : ¬ x = y) : ¬ x.toInt = y.toInt := fun q => h (Int64.toInt_inj.mp q)
theorem own_mask32 (x m : Int32) (k : Nat) (P : Int) (hk : k ≤ 31) (hm : m.toBitVec.toNat = 2 ^ k - 1) (hP : P = (2 ^ k : Nat)) : (x &&& m).toInt = x.toInt % P := by rw [hP]; exact c_mask x m k hk hm
theorem own_mask64 (x m : Int64) (k : Nat) (P : Int) (hk : k ≤ 63) (hm : m.toBitVec.toNat = 2 ^ k - 1) (hP : P = (2 ^ k : Nat)) : (x &&& m).toInt = x.toInt % P := by rw [hP]; exact c_maskL x m k hk hm
theorem own_rem32 (x y : Int32) (d : Int) (hy : y.toInt = d) : (0 ≤ x.toInt → (x % y).toInt = x.toInt % d) ∧ (x.toInt < 0 → (x % y).toInt = -((-x.toInt) % d)) := c_irem x y d hy
theorem own_rem64 (x y : Int64) (d : Int) (hy : y.toInt = d) : (0 ≤ x.toInt → (x % y).toInt = x.toInt % d) ∧ (x.toInt < 0 → (x % y).toInt = -((-x.toInt) % d)) := by rw [Int64.toInt_mod, hy]; exact tr _ _
theorem own_iushr0 (x q : Int32) (hk : q.toBitVec.toNat % 32 = 0) : ((x.toUInt32 >>> (q &&& 31).toUInt32).toInt32).toInt = x.toInt := by
  have e : q &&& 31 = 0 := by
    apply Int32.toBitVec_inj.mp
    apply BitVec.eq_of_toNat_eq
    rw [Int32.toBitVec_and, BitVec.toNat_and]
    show q.toBitVec.toNat &&& 31 = 0
    rw [show (31 : Nat) = 2 ^ 5 - 1 from rfl, Nat.and_two_pow_sub_one_eq_mod]
    exact hk
  rw [e, show (0 : Int32).toUInt32 = 0 from by decide]
  simp
theorem own_lushr0 (x : Int64) (q : Int32) (hk : q.toBitVec.toNat % 64 = 0) : ((x.toUInt64 >>> (q &&& 0x3f).toInt64.toUInt64).toInt64).toInt = x.toInt := by
  have e : q &&& 0x3f = 0 := by
    apply Int32.toBitVec_inj.mp
    apply BitVec.eq_of_toNat_eq
    rw [Int32.toBitVec_and, BitVec.toNat_and]
    show q.toBitVec.toNat &&& 63 = 0
    rw [show (63 : Nat) = 2 ^ 6 - 1 from rfl, Nat.and_two_pow_sub_one_eq_mod]
    exact hk
  rw [e, show (0 : Int32).toInt64.toUInt64 = 0 from by decide]
  simp
theorem own_ishr (x q : Int32) (k : Nat) (P : Int) (hk : q.toBitVec.toNat % 32 = k) (hP : P = (2 ^ k : Nat)) : (x >>> (q &&& 31)).toInt = x.toInt / P := by rw [hP]; exact c_ishr x q k hk
theorem own_ishl (x q : Int32) (k : Nat) (P : Int) (hk : q.toBitVec.toNat % 32 = k) (hP : P = (2 ^ k : Nat)) : ((x <<< (q &&& 31)).toInt - x.toInt * P) % 4294967296 = 0 := by rw [hP]; exact c_ishl x q k hk
theorem own_iushr (x q : Int32) (k : Nat) (P : Int) (hk : q.toBitVec.toNat % 32 = k) (hP : P = (2 ^ k : Nat)) (h0 : 0 < k) : ((x.toUInt32 >>> (q &&& 31).toUInt32).toInt32).toInt = (x.toInt % 4294967296) / P := by rw [hP]; exact c_iushr x q k hk h0
theorem own_lshr (x : Int64) (q : Int32) (k : Nat) (P : Int) (hk : q.toBitVec.toNat % 64 = k) (hP : P = (2 ^ k : Nat)) : (x >>> (q &&& 0x3f).toInt64).toInt = x.toInt / P := by rw [hP]; exact c_lshr x q k hk
theorem own_lshl (x : Int64) (q : Int32) (k : Nat) (P : Int) (hk : q.toBitVec.toNat % 64 = k) (hP : P = (2 ^ k : Nat)) : ((x <<< (q &&& 0x3f).toInt64).toInt - x.toInt * P) % 18446744073709551616 = 0 := by rw [hP]; exact c_lshl x q k hk
theorem own_lushr (x : Int64) (q : Int32) (k : Nat) (P : Int) (hk : q.toBitVec.toNat % 64 = k) (hP : P = (2 ^ k : Nat)) (h0 : 0 < k) : ((x.toUInt64 >>> (q &&& 0x3f).toInt64.toUInt64).toInt64).toInt = (x.toInt % 18446744073709551616) / P := by rw [hP]; exact c_lushr x q k hk h0
theorem own_addOk64 {x y : Int64} (h : Jvm.Free.XT.fits64 (x.toInt + y.toInt)) : ¬ (((x + y) ^^^ x) &&& ((x + y) ^^^ y)) < 0 := by
  have q := Jvm.Free.XT.addOk64 h
  rw [Int64.xor_comm (x + y) x, Int64.xor_comm (x + y) y]
  exact q
theorem own_keepSet {h : Heap} {a : Addr} {cl cl' : Cell} (hc : h[a]? = some cl) (e1 : cl'.cls = cl.cls) (e2 : cl'.vm = cl.vm) (e3 : cl'.slots.size = cl.slots.size) : Keep h (h.setIfInBounds a cl') [a] := ⟨by simp, fun x c q hn => by
    rw [Array.getElem?_setIfInBounds_ne (fun z => hn (by rw [z]; exact List.mem_cons_self ..))]; exact q, fun x c q => by
    by_cases z : a = x
    · subst z; cases hc.symm.trans q; exact ⟨cl', by simp [(Array.getElem?_eq_some_iff.mp hc).1], e1, e2, e3⟩
    · exact ⟨c, by rw [Array.getElem?_setIfInBounds_ne z]; exact q, rfl, rfl, rfl⟩⟩
theorem own_arvM {Z : State} {h h' : Heap} {a : Addr} {k : ClassId} {ty : FieldType} {n : Int32} {vs : List Value} {d : Value} (F : Arv Z h a k ty n vs d) (W : Mon h h') : Arv Z h' a k ty n vs d := by
  obtain ⟨c, A, r1, r2, r3, H, G⟩ := F
  obtain ⟨mo, q⟩ := W.2 _ _ A.1
  exact ⟨{ c with monitor := mo }, ⟨q, A.2⟩, r1, r2, r3, H, G⟩
theorem own_left (c : Cell) : c.left = if c.monitor.count ≤ 1 then { c with monitor := { c.monitor with owner := none, count := 0 } } else { c with monitor := { c.monitor with count := c.monitor.count - 1 } } := rfl
theorem own_leaveS {p : Program} {l : Launch} {e : Env} {R : Room} {s : State} {m : MethodId} {args : Array Value} {below : List Frame} {meth : Method} {c : Code} {T : State} {locs : List Loc} {cells slots : Nat} {a : Addr} {cell : Cell} (X : Stand p l e R (s.setCell a (cell.withEntry s.cur)) m args below meth c T locs cells slots) (hc : s.heap[a]? = some cell) (ho : cell.enterable s.cur) (hl : meth.locks = true)
    {v : Option Value} (hv : meth.sig.returnType = none → v = none) : ∃ V : State, (∀ (f : JFrame) (acts : List Action), f.method = m → f.locked = some a → f.entered = [] → (doReturn e (T.setTop f) acts v).1 = V) ∧ V.status = .running ∧ Ended V below (.returned v) ∧ Mon T.heap V.heap ∧ Keep T.heap V.heap [a] ∧ s.WarmedH V.vm ∧ s.sameButNew { V with vm := s.vm } locs cells slots := by
  obtain ⟨fs, cT, hcT, hr, hrun, hend, h1, h2⟩ := X.leaveSync hc ho hl hv
  have hL : cT.left.cls = cT.cls ∧ cT.left.vm = cT.vm ∧ cT.left.slots.size = cT.slots.size := by rw [own_left]; split <;> exact ⟨rfl, rfl, rfl⟩
  refine ⟨_, hr, hrun, hend, ?_, ?_, h1, h2⟩
  · show Mon T.heap (T.heap.setIfInBounds a cT.left)
    rw [own_left]; split <;> exact mon_set hcT _
  · show Keep T.heap (T.heap.setIfInBounds a cT.left) [a]
    exact own_keepSet hcT hL.1 hL.2.1 hL.2.2
theorem own_backSync {p : Program} {l : Launch} {e : Env} {R : Room} {s : State} {args : Array Value} {below : List Frame} {Z : State} {a0 : Array Value} {h : Heap} {y : MethodName} {bytes : ByteArray} {maxL : Nat} {ret : Option FieldType} {rm : Room} {len W : Nat} {as' : Array Value} {a : Addr} {Q : Option Value → Heap → List Loc → Prop}
    (hM : MetFree l y (head1 [Cond.codeSync y bytes maxL ret, Cond.instanceMethod y] rm) (fun as U => as = as' ∧ Z.Warmed39 U.vm ∧ U.heap = h ∧ ∃ cell : Cell, h[a]? = some cell ∧ cell.enterable U.cur) (fun _ _ _ _ _ => True) (fun _ U o U' => ∃ v L, o = .returned v ∧ Q v U'.heap L ∧ FrameEnd U o U' L rm.cells rm.slots))
    (hZ : Z.Warmed39 s.vm) (wc : (Cond.codeSync y bytes maxL ret).before a0 Z = true) (wi : (Cond.instanceMethod y).before a0 Z = true) (wz : (Cond.initialized y.cls).before a0 Z = true) (N : Unt h a) (hf : rm.frames + 1 ≤ R.frames) (hl : W + (maxL + 11) + rm.locals ≤ R.locals) :
    Back l R p e below s args y len W (fun A as => as = as' ∧ A.U.heap = h ∧ A.cells + rm.cells ≤ R.cells ∧ A.slots + rm.slots ≤ R.slots)
      (fun A _ v B => ∃ L, Q v B.U.heap L ∧ B.locs = A.locs ++ L ∧ B.cells = A.cells + rm.cells ∧ B.slots = A.slots + rm.slots) :=
  Jvm.Free.XT.back_of_sync (bytes := bytes) (maxL := maxL) (ret := ret) (E := fun _ _ o t L k n => k = rm.cells ∧ n = rm.slots ∧ ∃ v, o = .returned v ∧ Q v t.heap L) hM hf hl
    (fun m meth c A as Y hp => have hU : Z.Warmed39 A.U.vm := wtrans hZ Y.warmed
      ⟨by show (Cond.and _ (Cond.and _ .tt)).before as A.U = true; rw [Cond.before_and, Cond.before_and, mv hU wc, mv hU wi]; rfl, mv hU wc, mv hU wz, hp.2.2.1, hp.2.2.2⟩)
    (fun m meth c A as g mk Y hp => ⟨hp.1, wtrans hZ Y.warmed, hp.2.1, by obtain ⟨cl, u1, -, u3⟩ := N; exact ⟨cl, u1, by show (cl.monitor.owner = none ∧ cl.monitor.count = 0) ∨ _; rw [u3]; exact Or.inl ⟨rfl, rfl⟩⟩⟩)
    (fun _ _ _ _ _ _ _ _ _ => trivial)
    (fun _ _ _ _ ⟨v, L, h1, h2, h3⟩ => ⟨L, _, _, h3, rfl, rfl, v, h1, h2⟩)
    (fun m meth c A as g mk v t L k n Y hp _ _ ⟨e1, e2, v', e3, e4⟩ => by cases e3; subst e1 e2; exact ⟨L, e4, rfl, rfl, rfl⟩)

theorem w0 {Z : State} {a0 : Array Value} (hw : ∀ d ∈ tables_1, d.before a0 Z = true) : (Jvm.Cond.classLink "com/example/outbound_courier/outboundcourier/http/BodyReaderIsDonePinLaw" (9 : Nat) "com/example/outbound_courier/outboundcourier/http/BodyReader").before a0 Z = true := hw _ (List.mem_of_getElem? (i := 0) rfl)
theorem w1 {Z : State} {a0 : Array Value} (hw : ∀ d ∈ tables_1, d.before a0 Z = true) : (Jvm.Cond.instantiable "com/example/outbound_courier/outboundcourier/http/BodyReader" (8 : Nat)).before a0 Z = true := hw _ (List.mem_of_getElem? (i := 1) rfl)
theorem w2 {Z : State} {a0 : Array Value} (hw : ∀ d ∈ tables_1, d.before a0 Z = true) : (Jvm.Cond.initialized "com/example/outbound_courier/outboundcourier/http/BodyReader").before a0 Z = true := hw _ (List.mem_of_getElem? (i := 2) rfl)
theorem w3 {Z : State} {a0 : Array Value} (hw : ∀ d ∈ tables_1, d.before a0 Z = true) : (Jvm.Cond.methodLink "com/example/outbound_courier/outboundcourier/http/BodyReaderIsDonePinLaw" (11 : Nat) ({ cls := "com/example/outbound_courier/outboundcourier/http/BodyReader", name := "<init>", desc := "(JI)V" } : Jvm.MethodName)).before a0 Z = true := hw _ (List.mem_of_getElem? (i := 3) rfl)
theorem w4 {Z : State} {a0 : Array Value} (hw : ∀ d ∈ tables_1, d.before a0 Z = true) : (Jvm.Cond.instanceMethod ({ cls := "com/example/outbound_courier/outboundcourier/http/BodyReader", name := "<init>", desc := "(JI)V" } : Jvm.MethodName)).before a0 Z = true := hw _ (List.mem_of_getElem? (i := 4) rfl)
theorem w5 {Z : State} {a0 : Array Value} (hw : ∀ d ∈ tables_1, d.before a0 Z = true) : (Jvm.Cond.code ({ cls := "com/example/outbound_courier/outboundcourier/http/BodyReader", name := "<init>", desc := "(JI)V" } : Jvm.MethodName) prog_4_method_1_code (4 : Nat) (Option.none : Option Jvm.ClassFile.FieldType)).before a0 Z = true := hw _ (List.mem_of_getElem? (i := 5) rfl)
theorem w6 {Z : State} {a0 : Array Value} (hw : ∀ d ∈ tables_1, d.before a0 Z = true) : (Jvm.Cond.methodLink "com/example/outbound_courier/outboundcourier/http/BodyReader" (3 : Nat) ({ cls := "java/lang/Object", name := "<init>", desc := "()V" } : Jvm.MethodName)).before a0 Z = true := hw _ (List.mem_of_getElem? (i := 6) rfl)
theorem w7 {Z : State} {a0 : Array Value} (hw : ∀ d ∈ tables_1, d.before a0 Z = true) : (Jvm.Cond.instanceMethod ({ cls := "java/lang/Object", name := "<init>", desc := "()V" } : Jvm.MethodName)).before a0 Z = true := hw _ (List.mem_of_getElem? (i := 7) rfl)
theorem w8 {Z : State} {a0 : Array Value} (hw : ∀ d ∈ tables_1, d.before a0 Z = true) : (Jvm.Cond.code ({ cls := "java/lang/Object", name := "<init>", desc := "()V" } : Jvm.MethodName) object_method_1_code (1 : Nat) (Option.none : Option Jvm.ClassFile.FieldType)).before a0 Z = true := hw _ (List.mem_of_getElem? (i := 8) rfl)
theorem w9 {Z : State} {a0 : Array Value} (hw : ∀ d ∈ tables_1, d.before a0 Z = true) : (Jvm.Cond.classLink "com/example/outbound_courier/outboundcourier/http/BodyReader" (9 : Nat) "java/io/ByteArrayOutputStream").before a0 Z = true := hw _ (List.mem_of_getElem? (i := 9) rfl)
theorem w10 {Z : State} {a0 : Array Value} (hw : ∀ d ∈ tables_1, d.before a0 Z = true) : (Jvm.Cond.instantiable "java/io/ByteArrayOutputStream" (2 : Nat)).before a0 Z = true := hw _ (List.mem_of_getElem? (i := 10) rfl)
theorem w11 {Z : State} {a0 : Array Value} (hw : ∀ d ∈ tables_1, d.before a0 Z = true) : (Jvm.Cond.initialized "java/io/ByteArrayOutputStream").before a0 Z = true := hw _ (List.mem_of_getElem? (i := 11) rfl)
theorem w12 {Z : State} {a0 : Array Value} (hw : ∀ d ∈ tables_1, d.before a0 Z = true) : (Jvm.Cond.methodLink "com/example/outbound_courier/outboundcourier/http/BodyReader" (11 : Nat) ({ cls := "java/io/ByteArrayOutputStream", name := "<init>", desc := "()V" } : Jvm.MethodName)).before a0 Z = true := hw _ (List.mem_of_getElem? (i := 12) rfl)
theorem w13 {Z : State} {a0 : Array Value} (hw : ∀ d ∈ tables_1, d.before a0 Z = true) : (Jvm.Cond.instanceMethod ({ cls := "java/io/ByteArrayOutputStream", name := "<init>", desc := "()V" } : Jvm.MethodName)).before a0 Z = true := hw _ (List.mem_of_getElem? (i := 13) rfl)
theorem w14 {Z : State} {a0 : Array Value} (hw : ∀ d ∈ tables_1, d.before a0 Z = true) : (Jvm.Cond.code ({ cls := "java/io/ByteArrayOutputStream", name := "<init>", desc := "()V" } : Jvm.MethodName) jdk_2005_method_1_code (1 : Nat) (Option.none : Option Jvm.ClassFile.FieldType)).before a0 Z = true := hw _ (List.mem_of_getElem? (i := 14) rfl)
theorem w15 {Z : State} {a0 : Array Value} (hw : ∀ d ∈ tables_1, d.before a0 Z = true) : (Jvm.Cond.methodLink "java/io/ByteArrayOutputStream" (1 : Nat) ({ cls := "java/io/ByteArrayOutputStream", name := "<init>", desc := "(I)V" } : Jvm.MethodName)).before a0 Z = true := hw _ (List.mem_of_getElem? (i := 15) rfl)
theorem w16 {Z : State} {a0 : Array Value} (hw : ∀ d ∈ tables_1, d.before a0 Z = true) : (Jvm.Cond.instanceMethod ({ cls := "java/io/ByteArrayOutputStream", name := "<init>", desc := "(I)V" } : Jvm.MethodName)).before a0 Z = true := hw _ (List.mem_of_getElem? (i := 16) rfl)
theorem w18 {Z : State} {a0 : Array Value} (hw : ∀ d ∈ tables_1, d.before a0 Z = true) : (Jvm.Cond.code ({ cls := "java/io/ByteArrayOutputStream", name := "<init>", desc := "(I)V" } : Jvm.MethodName) jdk_2005_method_2_code (2 : Nat) (Option.none : Option Jvm.ClassFile.FieldType)).before a0 Z = true := hw _ (List.mem_of_getElem? (i := 18) rfl)
theorem w19 {Z : State} {a0 : Array Value} (hw : ∀ d ∈ tables_1, d.before a0 Z = true) : (Jvm.Cond.methodLink "java/io/ByteArrayOutputStream" (7 : Nat) ({ cls := "java/io/OutputStream", name := "<init>", desc := "()V" } : Jvm.MethodName)).before a0 Z = true := hw _ (List.mem_of_getElem? (i := 19) rfl)
theorem w20 {Z : State} {a0 : Array Value} (hw : ∀ d ∈ tables_1, d.before a0 Z = true) : (Jvm.Cond.instanceMethod ({ cls := "java/io/OutputStream", name := "<init>", desc := "()V" } : Jvm.MethodName)).before a0 Z = true := hw _ (List.mem_of_getElem? (i := 20) rfl)
theorem w23 {Z : State} {a0 : Array Value} (hw : ∀ d ∈ tables_1, d.before a0 Z = true) : (Jvm.Cond.initialized "java/io/OutputStream").before a0 Z = true := hw _ (List.mem_of_getElem? (i := 23) rfl)
theorem w24 {Z : State} {a0 : Array Value} (hw : ∀ d ∈ tables_1, d.before a0 Z = true) : (Jvm.Cond.code ({ cls := "java/io/OutputStream", name := "<init>", desc := "()V" } : Jvm.MethodName) jdk_2038_method_1_code (1 : Nat) (Option.none : Option Jvm.ClassFile.FieldType)).before a0 Z = true := hw _ (List.mem_of_getElem? (i := 24) rfl)
theorem w25 {Z : State} {a0 : Array Value} (hw : ∀ d ∈ tables_1, d.before a0 Z = true) : (Jvm.Cond.methodLink "java/io/OutputStream" (1 : Nat) ({ cls := "java/lang/Object", name := "<init>", desc := "()V" } : Jvm.MethodName)).before a0 Z = true := hw _ (List.mem_of_getElem? (i := 25) rfl)
theorem w26 {Z : State} {a0 : Array Value} (hw : ∀ d ∈ tables_1, d.before a0 Z = true) : (Jvm.Cond.arrayClass Jvm.ClassFile.FieldType.byte).before a0 Z = true := hw _ (List.mem_of_getElem? (i := 26) rfl)
theorem w27 {Z : State} {a0 : Array Value} (hw : ∀ d ∈ tables_1, d.before a0 Z = true) : (Jvm.Cond.fieldLink "java/io/ByteArrayOutputStream" (33 : Nat) "java/io/ByteArrayOutputStream" "buf" "[B").before a0 Z = true := hw _ (List.mem_of_getElem? (i := 27) rfl)
theorem w28 {Z : State} {a0 : Array Value} (hw : ∀ d ∈ tables_1, d.before a0 Z = true) : (Jvm.Cond.lays "java/io/ByteArrayOutputStream" "java/io/ByteArrayOutputStream" "buf" "[B").before a0 Z = true := hw _ (List.mem_of_getElem? (i := 28) rfl)
theorem w29 {Z : State} {a0 : Array Value} (hw : ∀ d ∈ tables_1, d.before a0 Z = true) : (Jvm.Cond.fieldLink "com/example/outbound_courier/outboundcourier/http/BodyReader" (12 : Nat) "com/example/outbound_courier/outboundcourier/http/BodyReader" "kept" "Ljava/io/ByteArrayOutputStream;").before a0 Z = true := hw _ (List.mem_of_getElem? (i := 29) rfl)
theorem w30 {Z : State} {a0 : Array Value} (hw : ∀ d ∈ tables_1, d.before a0 Z = true) : (Jvm.Cond.laysFinal "com/example/outbound_courier/outboundcourier/http/BodyReader" "com/example/outbound_courier/outboundcourier/http/BodyReader" "kept" "Ljava/io/ByteArrayOutputStream;").before a0 Z = true := hw _ (List.mem_of_getElem? (i := 30) rfl)
theorem w31 {Z : State} {a0 : Array Value} (hw : ∀ d ∈ tables_1, d.before a0 Z = true) : (Jvm.Cond.classLink "com/example/outbound_courier/outboundcourier/http/BodyReader" (18 : Nat) "java/lang/StringBuilder").before a0 Z = true := hw _ (List.mem_of_getElem? (i := 31) rfl)
theorem w32 {Z : State} {a0 : Array Value} (hw : ∀ d ∈ tables_1, d.before a0 Z = true) : (Jvm.Cond.instantiable "java/lang/StringBuilder" (4 : Nat)).before a0 Z = true := hw _ (List.mem_of_getElem? (i := 32) rfl)
theorem w33 {Z : State} {a0 : Array Value} (hw : ∀ d ∈ tables_1, d.before a0 Z = true) : (Jvm.Cond.initialized "java/lang/StringBuilder").before a0 Z = true := hw _ (List.mem_of_getElem? (i := 33) rfl)
theorem w34 {Z : State} {a0 : Array Value} (hw : ∀ d ∈ tables_1, d.before a0 Z = true) : (Jvm.Cond.methodLink "com/example/outbound_courier/outboundcourier/http/BodyReader" (20 : Nat) ({ cls := "java/lang/StringBuilder", name := "<init>", desc := "()V" } : Jvm.MethodName)).before a0 Z = true := hw _ (List.mem_of_getElem? (i := 34) rfl)
theorem w35 {Z : State} {a0 : Array Value} (hw : ∀ d ∈ tables_1, d.before a0 Z = true) : (Jvm.Cond.instanceMethod ({ cls := "java/lang/StringBuilder", name := "<init>", desc := "()V" } : Jvm.MethodName)).before a0 Z = true := hw _ (List.mem_of_getElem? (i := 35) rfl)
theorem w36 {Z : State} {a0 : Array Value} (hw : ∀ d ∈ tables_1, d.before a0 Z = true) : (Jvm.Cond.code ({ cls := "java/lang/StringBuilder", name := "<init>", desc := "()V" } : Jvm.MethodName) jdk_67_method_1_code (1 : Nat) (Option.none : Option Jvm.ClassFile.FieldType)).before a0 Z = true := hw _ (List.mem_of_getElem? (i := 36) rfl)
theorem w37 {Z : State} {a0 : Array Value} (hw : ∀ d ∈ tables_1, d.before a0 Z = true) : (Jvm.Cond.methodLink "java/lang/StringBuilder" (1 : Nat) ({ cls := "java/lang/AbstractStringBuilder", name := "<init>", desc := "(I)V" } : Jvm.MethodName)).before a0 Z = true := hw _ (List.mem_of_getElem? (i := 37) rfl)
theorem w38 {Z : State} {a0 : Array Value} (hw : ∀ d ∈ tables_1, d.before a0 Z = true) : (Jvm.Cond.instanceMethod ({ cls := "java/lang/AbstractStringBuilder", name := "<init>", desc := "(I)V" } : Jvm.MethodName)).before a0 Z = true := hw _ (List.mem_of_getElem? (i := 38) rfl)
theorem w41 {Z : State} {a0 : Array Value} (hw : ∀ d ∈ tables_1, d.before a0 Z = true) : (Jvm.Cond.initialized "java/lang/AbstractStringBuilder").before a0 Z = true := hw _ (List.mem_of_getElem? (i := 41) rfl)
theorem w42 {Z : State} {a0 : Array Value} (hw : ∀ d ∈ tables_1, d.before a0 Z = true) : (Jvm.Cond.code ({ cls := "java/lang/AbstractStringBuilder", name := "<init>", desc := "(I)V" } : Jvm.MethodName) jdk_68_method_2_code (2 : Nat) (Option.none : Option Jvm.ClassFile.FieldType)).before a0 Z = true := hw _ (List.mem_of_getElem? (i := 42) rfl)
theorem w43 {Z : State} {a0 : Array Value} (hw : ∀ d ∈ tables_1, d.before a0 Z = true) : (Jvm.Cond.methodLink "java/lang/AbstractStringBuilder" (3 : Nat) ({ cls := "java/lang/Object", name := "<init>", desc := "()V" } : Jvm.MethodName)).before a0 Z = true := hw _ (List.mem_of_getElem? (i := 43) rfl)
theorem w44 {Z : State} {a0 : Array Value} (hw : ∀ d ∈ tables_1, d.before a0 Z = true) : (Jvm.Cond.fieldLink "java/lang/AbstractStringBuilder" (18 : Nat) "java/lang/String" "COMPACT_STRINGS" "Z").before a0 Z = true := hw _ (List.mem_of_getElem? (i := 44) rfl)
theorem w45 {Z : State} {a0 : Array Value} (hw : ∀ d ∈ tables_1, d.before a0 Z = true) : (Jvm.Cond.initialized "java/lang/String").before a0 Z = true := hw _ (List.mem_of_getElem? (i := 45) rfl)
theorem w46 {Z : State} {a0 : Array Value} (hw : ∀ d ∈ tables_1, d.before a0 Z = true) : (Jvm.Cond.fieldLink "java/lang/AbstractStringBuilder" (15 : Nat) "java/lang/AbstractStringBuilder" "value" "[B").before a0 Z = true := hw _ (List.mem_of_getElem? (i := 46) rfl)
theorem w47 {Z : State} {a0 : Array Value} (hw : ∀ d ∈ tables_1, d.before a0 Z = true) : (Jvm.Cond.lays "java/lang/StringBuilder" "java/lang/AbstractStringBuilder" "value" "[B").before a0 Z = true := hw _ (List.mem_of_getElem? (i := 47) rfl)
theorem w48 {Z : State} {a0 : Array Value} (hw : ∀ d ∈ tables_1, d.before a0 Z = true) : (Jvm.Cond.fieldLink "java/lang/AbstractStringBuilder" (22 : Nat) "java/lang/AbstractStringBuilder" "coder" "B").before a0 Z = true := hw _ (List.mem_of_getElem? (i := 48) rfl)
theorem w49 {Z : State} {a0 : Array Value} (hw : ∀ d ∈ tables_1, d.before a0 Z = true) : (Jvm.Cond.lays "java/lang/StringBuilder" "java/lang/AbstractStringBuilder" "coder" "B").before a0 Z = true := hw _ (List.mem_of_getElem? (i := 49) rfl)
theorem w50 {Z : State} {a0 : Array Value} (hw : ∀ d ∈ tables_1, d.before a0 Z = true) : (Jvm.Cond.fieldLink "com/example/outbound_courier/outboundcourier/http/BodyReader" (21 : Nat) "com/example/outbound_courier/outboundcourier/http/BodyReader" "line" "Ljava/lang/StringBuilder;").before a0 Z = true := hw _ (List.mem_of_getElem? (i := 50) rfl)
theorem w51 {Z : State} {a0 : Array Value} (hw : ∀ d ∈ tables_1, d.before a0 Z = true) : (Jvm.Cond.laysFinal "com/example/outbound_courier/outboundcourier/http/BodyReader" "com/example/outbound_courier/outboundcourier/http/BodyReader" "line" "Ljava/lang/StringBuilder;").before a0 Z = true := hw _ (List.mem_of_getElem? (i := 51) rfl)
theorem w52 {Z : State} {a0 : Array Value} (hw : ∀ d ∈ tables_1, d.before a0 Z = true) : (Jvm.Cond.fieldLink "com/example/outbound_courier/outboundcourier/http/BodyReader" (25 : Nat) "com/example/outbound_courier/outboundcourier/http/BodyReader" "maxBytes" "I").before a0 Z = true := hw _ (List.mem_of_getElem? (i := 52) rfl)
theorem w53 {Z : State} {a0 : Array Value} (hw : ∀ d ∈ tables_1, d.before a0 Z = true) : (Jvm.Cond.laysFinal "com/example/outbound_courier/outboundcourier/http/BodyReader" "com/example/outbound_courier/outboundcourier/http/BodyReader" "maxBytes" "I").before a0 Z = true := hw _ (List.mem_of_getElem? (i := 53) rfl)
theorem w54 {Z : State} {a0 : Array Value} (hw : ∀ d ∈ tables_1, d.before a0 Z = true) : (Jvm.Cond.constantLong "com/example/outbound_courier/outboundcourier/http/BodyReader" (31 : Nat) (-1 : Int64)).before a0 Z = true := hw _ (List.mem_of_getElem? (i := 54) rfl)
theorem w55 {Z : State} {a0 : Array Value} (hw : ∀ d ∈ tables_1, d.before a0 Z = true) : (Jvm.Cond.fieldLink "com/example/outbound_courier/outboundcourier/http/BodyReader" (33 : Nat) "com/example/outbound_courier/outboundcourier/http/BodyReader" "chunked" "Z").before a0 Z = true := hw _ (List.mem_of_getElem? (i := 55) rfl)
theorem w56 {Z : State} {a0 : Array Value} (hw : ∀ d ∈ tables_1, d.before a0 Z = true) : (Jvm.Cond.laysFinal "com/example/outbound_courier/outboundcourier/http/BodyReader" "com/example/outbound_courier/outboundcourier/http/BodyReader" "chunked" "Z").before a0 Z = true := hw _ (List.mem_of_getElem? (i := 56) rfl)
theorem w57 {Z : State} {a0 : Array Value} (hw : ∀ d ∈ tables_1, d.before a0 Z = true) : (Jvm.Cond.fieldLink "com/example/outbound_courier/outboundcourier/http/BodyReader" (37 : Nat) "com/example/outbound_courier/outboundcourier/http/BodyReader" "left" "J").before a0 Z = true := hw _ (List.mem_of_getElem? (i := 57) rfl)
theorem w58 {Z : State} {a0 : Array Value} (hw : ∀ d ∈ tables_1, d.before a0 Z = true) : (Jvm.Cond.lays "com/example/outbound_courier/outboundcourier/http/BodyReader" "com/example/outbound_courier/outboundcourier/http/BodyReader" "left" "J").before a0 Z = true := hw _ (List.mem_of_getElem? (i := 58) rfl)
theorem w59 {Z : State} {a0 : Array Value} (hw : ∀ d ∈ tables_1, d.before a0 Z = true) : (Jvm.Cond.fieldLink "com/example/outbound_courier/outboundcourier/http/BodyReader" (47 : Nat) "com/example/outbound_courier/outboundcourier/http/BodyReader$State" "DATA" "Lcom/example/outbound_courier/outboundcourier/http/BodyReader$State;").before a0 Z = true := hw _ (List.mem_of_getElem? (i := 59) rfl)
theorem w60 {Z : State} {a0 : Array Value} (hw : ∀ d ∈ tables_1, d.before a0 Z = true) : (Jvm.Cond.initialized "com/example/outbound_courier/outboundcourier/http/BodyReader$State").before a0 Z = true := hw _ (List.mem_of_getElem? (i := 60) rfl)
theorem w61 {Z : State} {a0 : Array Value} (hw : ∀ d ∈ tables_1, d.before a0 Z = true) : (Jvm.Cond.laysStatic "com/example/outbound_courier/outboundcourier/http/BodyReader$State" "DATA" "Lcom/example/outbound_courier/outboundcourier/http/BodyReader$State;").before a0 Z = true := hw _ (List.mem_of_getElem? (i := 61) rfl)
theorem w62 {Z : State} {a0 : Array Value} (hw : ∀ d ∈ tables_1, d.before a0 Z = true) : (Jvm.Cond.fieldLink "com/example/outbound_courier/outboundcourier/http/BodyReader" (50 : Nat) "com/example/outbound_courier/outboundcourier/http/BodyReader" "state" "Lcom/example/outbound_courier/outboundcourier/http/BodyReader$State;").before a0 Z = true := hw _ (List.mem_of_getElem? (i := 62) rfl)
theorem w63 {Z : State} {a0 : Array Value} (hw : ∀ d ∈ tables_1, d.before a0 Z = true) : (Jvm.Cond.lays "com/example/outbound_courier/outboundcourier/http/BodyReader" "com/example/outbound_courier/outboundcourier/http/BodyReader" "state" "Lcom/example/outbound_courier/outboundcourier/http/BodyReader$State;").before a0 Z = true := hw _ (List.mem_of_getElem? (i := 63) rfl)
theorem w64 {Z : State} {a0 : Array Value} (hw : ∀ d ∈ tables_1, d.before a0 Z = true) : (Jvm.Cond.fieldLink "com/example/outbound_courier/outboundcourier/http/BodyReader" (56 : Nat) "com/example/outbound_courier/outboundcourier/http/BodyReader$State" "DONE" "Lcom/example/outbound_courier/outboundcourier/http/BodyReader$State;").before a0 Z = true := hw _ (List.mem_of_getElem? (i := 64) rfl)
theorem w65 {Z : State} {a0 : Array Value} (hw : ∀ d ∈ tables_1, d.before a0 Z = true) : (Jvm.Cond.laysStatic "com/example/outbound_courier/outboundcourier/http/BodyReader$State" "DONE" "Lcom/example/outbound_courier/outboundcourier/http/BodyReader$State;").before a0 Z = true := hw _ (List.mem_of_getElem? (i := 65) rfl)
theorem w66 {Z : State} {a0 : Array Value} (hw : ∀ d ∈ tables_1, d.before a0 Z = true) : (Jvm.Cond.constantLong "com/example/outbound_courier/outboundcourier/http/BodyReaderIsDonePinLaw" (7 : Nat) (-1 : Int64)).before a0 Z = true := hw _ (List.mem_of_getElem? (i := 66) rfl)
theorem w67 {Z : State} {a0 : Array Value} (hw : ∀ d ∈ tables_1, d.before a0 Z = true) : (Jvm.Cond.methodLink "com/example/outbound_courier/outboundcourier/http/BodyReaderIsDonePinLaw" (14 : Nat) ({ cls := "com/example/outbound_courier/outboundcourier/http/BodyReader", name := "isDone", desc := "()Z" } : Jvm.MethodName)).before a0 Z = true := hw _ (List.mem_of_getElem? (i := 67) rfl)
theorem w68 {Z : State} {a0 : Array Value} (hw : ∀ d ∈ tables_1, d.before a0 Z = true) : (Jvm.Cond.declares ({ cls := "com/example/outbound_courier/outboundcourier/http/BodyReader", name := "isDone", desc := "()Z" } : Jvm.MethodName)).before a0 Z = true := hw _ (List.mem_of_getElem? (i := 68) rfl)
theorem w69 {Z : State} {a0 : Array Value} (hw : ∀ d ∈ tables_1, d.before a0 Z = true) : (Jvm.Cond.instanceMethod ({ cls := "com/example/outbound_courier/outboundcourier/http/BodyReader", name := "isDone", desc := "()Z" } : Jvm.MethodName)).before a0 Z = true := hw _ (List.mem_of_getElem? (i := 69) rfl)
theorem w70 {Z : State} {a0 : Array Value} (hw : ∀ d ∈ tables_1, d.before a0 Z = true) : (Jvm.Cond.selects "com/example/outbound_courier/outboundcourier/http/BodyReader" ({ cls := "com/example/outbound_courier/outboundcourier/http/BodyReader", name := "isDone", desc := "()Z" } : Jvm.MethodName) ({ cls := "com/example/outbound_courier/outboundcourier/http/BodyReader", name := "isDone", desc := "()Z" } : Jvm.MethodName)).before a0 Z = true := hw _ (List.mem_of_getElem? (i := 70) rfl)
theorem w71 {Z : State} {a0 : Array Value} (hw : ∀ d ∈ tables_1, d.before a0 Z = true) : (Jvm.Cond.code ({ cls := "com/example/outbound_courier/outboundcourier/http/BodyReader", name := "isDone", desc := "()Z" } : Jvm.MethodName) prog_4_method_3_code (1 : Nat) (Option.some Jvm.ClassFile.FieldType.boolean)).before a0 Z = true := hw _ (List.mem_of_getElem? (i := 71) rfl)
theorem w72 {Z : State} {a0 : Array Value} (hw : ∀ d ∈ tables_1, d.before a0 Z = true) : (Jvm.Cond.methodLink "com/example/outbound_courier/outboundcourier/http/BodyReaderIsDonePinLaw" (18 : Nat) ({ cls := "com/example/outbound_courier/outboundcourier/http/BodyReader", name := "isTooLarge", desc := "()Z" } : Jvm.MethodName)).before a0 Z = true := hw _ (List.mem_of_getElem? (i := 72) rfl)
theorem w73 {Z : State} {a0 : Array Value} (hw : ∀ d ∈ tables_1, d.before a0 Z = true) : (Jvm.Cond.declares ({ cls := "com/example/outbound_courier/outboundcourier/http/BodyReader", name := "isTooLarge", desc := "()Z" } : Jvm.MethodName)).before a0 Z = true := hw _ (List.mem_of_getElem? (i := 73) rfl)
theorem w74 {Z : State} {a0 : Array Value} (hw : ∀ d ∈ tables_1, d.before a0 Z = true) : (Jvm.Cond.instanceMethod ({ cls := "com/example/outbound_courier/outboundcourier/http/BodyReader", name := "isTooLarge", desc := "()Z" } : Jvm.MethodName)).before a0 Z = true := hw _ (List.mem_of_getElem? (i := 74) rfl)
theorem w75 {Z : State} {a0 : Array Value} (hw : ∀ d ∈ tables_1, d.before a0 Z = true) : (Jvm.Cond.selects "com/example/outbound_courier/outboundcourier/http/BodyReader" ({ cls := "com/example/outbound_courier/outboundcourier/http/BodyReader", name := "isTooLarge", desc := "()Z" } : Jvm.MethodName) ({ cls := "com/example/outbound_courier/outboundcourier/http/BodyReader", name := "isTooLarge", desc := "()Z" } : Jvm.MethodName)).before a0 Z = true := hw _ (List.mem_of_getElem? (i := 75) rfl)
theorem w76 {Z : State} {a0 : Array Value} (hw : ∀ d ∈ tables_1, d.before a0 Z = true) : (Jvm.Cond.code ({ cls := "com/example/outbound_courier/outboundcourier/http/BodyReader", name := "isTooLarge", desc := "()Z" } : Jvm.MethodName) prog_4_method_4_code (1 : Nat) (Option.some Jvm.ClassFile.FieldType.boolean)).before a0 Z = true := hw _ (List.mem_of_getElem? (i := 76) rfl)
theorem w77 {Z : State} {a0 : Array Value} (hw : ∀ d ∈ tables_1, d.before a0 Z = true) : (Jvm.Cond.fieldLink "com/example/outbound_courier/outboundcourier/http/BodyReader" (53 : Nat) "com/example/outbound_courier/outboundcourier/http/BodyReader" "tooLarge" "Z").before a0 Z = true := hw _ (List.mem_of_getElem? (i := 77) rfl)
theorem w78 {Z : State} {a0 : Array Value} (hw : ∀ d ∈ tables_1, d.before a0 Z = true) : (Jvm.Cond.lays "com/example/outbound_courier/outboundcourier/http/BodyReader" "com/example/outbound_courier/outboundcourier/http/BodyReader" "tooLarge" "Z").before a0 Z = true := hw _ (List.mem_of_getElem? (i := 78) rfl)
theorem w79 {Z : State} {a0 : Array Value} (hw : ∀ d ∈ tables_1, d.before a0 Z = true) : (Jvm.Cond.methodLink "com/example/outbound_courier/outboundcourier/http/BodyReaderIsDonePinLaw" (21 : Nat) ({ cls := "com/example/outbound_courier/outboundcourier/http/BodyReader", name := "body", desc := "()[B" } : Jvm.MethodName)).before a0 Z = true := hw _ (List.mem_of_getElem? (i := 79) rfl)
theorem w80 {Z : State} {a0 : Array Value} (hw : ∀ d ∈ tables_1, d.before a0 Z = true) : (Jvm.Cond.declares ({ cls := "com/example/outbound_courier/outboundcourier/http/BodyReader", name := "body", desc := "()[B" } : Jvm.MethodName)).before a0 Z = true := hw _ (List.mem_of_getElem? (i := 80) rfl)
theorem w81 {Z : State} {a0 : Array Value} (hw : ∀ d ∈ tables_1, d.before a0 Z = true) : (Jvm.Cond.instanceMethod ({ cls := "com/example/outbound_courier/outboundcourier/http/BodyReader", name := "body", desc := "()[B" } : Jvm.MethodName)).before a0 Z = true := hw _ (List.mem_of_getElem? (i := 81) rfl)
theorem w82 {Z : State} {a0 : Array Value} (hw : ∀ d ∈ tables_1, d.before a0 Z = true) : (Jvm.Cond.selects "com/example/outbound_courier/outboundcourier/http/BodyReader" ({ cls := "com/example/outbound_courier/outboundcourier/http/BodyReader", name := "body", desc := "()[B" } : Jvm.MethodName) ({ cls := "com/example/outbound_courier/outboundcourier/http/BodyReader", name := "body", desc := "()[B" } : Jvm.MethodName)).before a0 Z = true := hw _ (List.mem_of_getElem? (i := 82) rfl)
theorem w83 {Z : State} {a0 : Array Value} (hw : ∀ d ∈ tables_1, d.before a0 Z = true) : (Jvm.Cond.code ({ cls := "com/example/outbound_courier/outboundcourier/http/BodyReader", name := "body", desc := "()[B" } : Jvm.MethodName) prog_4_method_5_code (1 : Nat) (Option.some (Jvm.ClassFile.FieldType.array Jvm.ClassFile.FieldType.byte))).before a0 Z = true := hw _ (List.mem_of_getElem? (i := 83) rfl)
theorem w84 {Z : State} {a0 : Array Value} (hw : ∀ d ∈ tables_1, d.before a0 Z = true) : (Jvm.Cond.methodLink "com/example/outbound_courier/outboundcourier/http/BodyReader" (97 : Nat) ({ cls := "java/io/ByteArrayOutputStream", name := "toByteArray", desc := "()[B" } : Jvm.MethodName)).before a0 Z = true := hw _ (List.mem_of_getElem? (i := 84) rfl)
theorem w85 {Z : State} {a0 : Array Value} (hw : ∀ d ∈ tables_1, d.before a0 Z = true) : (Jvm.Cond.declares ({ cls := "java/io/ByteArrayOutputStream", name := "toByteArray", desc := "()[B" } : Jvm.MethodName)).before a0 Z = true := hw _ (List.mem_of_getElem? (i := 85) rfl)
theorem w86 {Z : State} {a0 : Array Value} (hw : ∀ d ∈ tables_1, d.before a0 Z = true) : (Jvm.Cond.instanceMethod ({ cls := "java/io/ByteArrayOutputStream", name := "toByteArray", desc := "()[B" } : Jvm.MethodName)).before a0 Z = true := hw _ (List.mem_of_getElem? (i := 86) rfl)
theorem w87 {Z : State} {a0 : Array Value} (hw : ∀ d ∈ tables_1, d.before a0 Z = true) : (Jvm.Cond.selects "java/io/ByteArrayOutputStream" ({ cls := "java/io/ByteArrayOutputStream", name := "toByteArray", desc := "()[B" } : Jvm.MethodName) ({ cls := "java/io/ByteArrayOutputStream", name := "toByteArray", desc := "()[B" } : Jvm.MethodName)).before a0 Z = true := hw _ (List.mem_of_getElem? (i := 87) rfl)
theorem w88 {Z : State} {a0 : Array Value} (hw : ∀ d ∈ tables_1, d.before a0 Z = true) : (Jvm.Cond.codeSync ({ cls := "java/io/ByteArrayOutputStream", name := "toByteArray", desc := "()[B" } : Jvm.MethodName) jdk_2005_method_9_code (1 : Nat) (Option.some (Jvm.ClassFile.FieldType.array Jvm.ClassFile.FieldType.byte))).before a0 Z = true := hw _ (List.mem_of_getElem? (i := 88) rfl)
theorem w89 {Z : State} {a0 : Array Value} (hw : ∀ d ∈ tables_1, d.before a0 Z = true) : (Jvm.Cond.fieldLink "java/io/ByteArrayOutputStream" (49 : Nat) "java/io/ByteArrayOutputStream" "count" "I").before a0 Z = true := hw _ (List.mem_of_getElem? (i := 89) rfl)
theorem w90 {Z : State} {a0 : Array Value} (hw : ∀ d ∈ tables_1, d.before a0 Z = true) : (Jvm.Cond.lays "java/io/ByteArrayOutputStream" "java/io/ByteArrayOutputStream" "count" "I").before a0 Z = true := hw _ (List.mem_of_getElem? (i := 90) rfl)
theorem w91 {Z : State} {a0 : Array Value} (hw : ∀ d ∈ tables_1, d.before a0 Z = true) : (Jvm.Cond.methodLink "java/io/ByteArrayOutputStream" (43 : Nat) ({ cls := "java/util/Arrays", name := "copyOf", desc := "([BI)[B" } : Jvm.MethodName)).before a0 Z = true := hw _ (List.mem_of_getElem? (i := 91) rfl)
theorem w92 {Z : State} {a0 : Array Value} (hw : ∀ d ∈ tables_1, d.before a0 Z = true) : (Jvm.Cond.static ({ cls := "java/util/Arrays", name := "copyOf", desc := "([BI)[B" } : Jvm.MethodName)).before a0 Z = true := hw _ (List.mem_of_getElem? (i := 92) rfl)
theorem w93 {Z : State} {a0 : Array Value} (hw : ∀ d ∈ tables_1, d.before a0 Z = true) : (Jvm.Cond.initialized "java/util/Arrays").before a0 Z = true := hw _ (List.mem_of_getElem? (i := 93) rfl)
theorem w94 {Z : State} {a0 : Array Value} (hw : ∀ d ∈ tables_1, d.before a0 Z = true) : (Jvm.Cond.code ({ cls := "java/util/Arrays", name := "copyOf", desc := "([BI)[B" } : Jvm.MethodName) jdk_65_method_121_code (3 : Nat) (Option.some (Jvm.ClassFile.FieldType.array Jvm.ClassFile.FieldType.byte))).before a0 Z = true := hw _ (List.mem_of_getElem? (i := 94) rfl)
theorem w95 {Z : State} {a0 : Array Value} (hw : ∀ d ∈ tables_1, d.before a0 Z = true) : (Jvm.Cond.methodLink "java/util/Arrays" (304 : Nat) ({ cls := "java/lang/Math", name := "min", desc := "(II)I" } : Jvm.MethodName)).before a0 Z = true := hw _ (List.mem_of_getElem? (i := 95) rfl)
theorem w96 {Z : State} {a0 : Array Value} (hw : ∀ d ∈ tables_1, d.before a0 Z = true) : (Jvm.Cond.static ({ cls := "java/lang/Math", name := "min", desc := "(II)I" } : Jvm.MethodName)).before a0 Z = true := hw _ (List.mem_of_getElem? (i := 96) rfl)
theorem w97 {Z : State} {a0 : Array Value} (hw : ∀ d ∈ tables_1, d.before a0 Z = true) : (Jvm.Cond.initialized "java/lang/Math").before a0 Z = true := hw _ (List.mem_of_getElem? (i := 97) rfl)
theorem w98 {Z : State} {a0 : Array Value} (hw : ∀ d ∈ tables_1, d.before a0 Z = true) : (Jvm.Cond.code ({ cls := "java/lang/Math", name := "min", desc := "(II)I" } : Jvm.MethodName) jdk_29_method_69_code (2 : Nat) (Option.some Jvm.ClassFile.FieldType.int)).before a0 Z = true := hw _ (List.mem_of_getElem? (i := 98) rfl)
theorem w99 {Z : State} {a0 : Array Value} (hw : ∀ d ∈ tables_1, d.before a0 Z = true) : (Jvm.Cond.methodLink "java/util/Arrays" (150 : Nat) ({ cls := "java/lang/System", name := "arraycopy", desc := "(Ljava/lang/Object;ILjava/lang/Object;II)V" } : Jvm.MethodName)).before a0 Z = true := hw _ (List.mem_of_getElem? (i := 99) rfl)
theorem w100 {Z : State} {a0 : Array Value} (hw : ∀ d ∈ tables_1, d.before a0 Z = true) : (Jvm.Cond.static ({ cls := "java/lang/System", name := "arraycopy", desc := "(Ljava/lang/Object;ILjava/lang/Object;II)V" } : Jvm.MethodName)).before a0 Z = true := hw _ (List.mem_of_getElem? (i := 100) rfl)
theorem w101 {Z : State} {a0 : Array Value} (hw : ∀ d ∈ tables_1, d.before a0 Z = true) : (Jvm.Cond.initialized "java/lang/System").before a0 Z = true := hw _ (List.mem_of_getElem? (i := 101) rfl)
theorem w102 {Z : State} {a0 : Array Value} (hw : ∀ d ∈ tables_1, d.before a0 Z = true) : (Jvm.Cond.native ({ cls := "java/lang/System", name := "arraycopy", desc := "(Ljava/lang/Object;ILjava/lang/Object;II)V" } : Jvm.MethodName)).before a0 Z = true := hw _ (List.mem_of_getElem? (i := 102) rfl)
theorem w103 {Z : State} {a0 : Array Value} (hw : ∀ d ∈ tables_1, d.before a0 Z = true) : (Jvm.Cond.fieldLink "com/example/outbound_courier/outboundcourier/http/BodyReader" (41 : Nat) "com/example/outbound_courier/outboundcourier/http/BodyReader$State" "SIZE_LINE" "Lcom/example/outbound_courier/outboundcourier/http/BodyReader$State;").before a0 Z = true := hw _ (List.mem_of_getElem? (i := 103) rfl)
theorem w104 {Z : State} {a0 : Array Value} (hw : ∀ d ∈ tables_1, d.before a0 Z = true) : (Jvm.Cond.laysStatic "com/example/outbound_courier/outboundcourier/http/BodyReader$State" "SIZE_LINE" "Lcom/example/outbound_courier/outboundcourier/http/BodyReader$State;").before a0 Z = true := hw _ (List.mem_of_getElem? (i := 104) rfl)
theorem d1_0 : decode prog_4_method_1_code 0 = .ok (.aload_n 0, 1) := by decide +kernel
theorem d1_1 : decode prog_4_method_1_code 1 = .ok (.invokespecial 3, 3) := by decide +kernel
theorem d1_4 : decode prog_4_method_1_code 4 = .ok (.aload_n 0, 1) := by decide +kernel
theorem d1_5 : decode prog_4_method_1_code 5 = .ok (.new 9, 3) := by decide +kernel
theorem d1_8 : decode prog_4_method_1_code 8 = .ok (.dup, 1) := by decide +kernel
theorem d1_9 : decode prog_4_method_1_code 9 = .ok (.invokespecial 11, 3) := by decide +kernel
theorem d1_12 : decode prog_4_method_1_code 12 = .ok (.putfield 12, 3) := by decide +kernel
theorem d1_15 : decode prog_4_method_1_code 15 = .ok (.aload_n 0, 1) := by decide +kernel
theorem d1_16 : decode prog_4_method_1_code 16 = .ok (.new 18, 3) := by decide +kernel
theorem d1_19 : decode prog_4_method_1_code 19 = .ok (.dup, 1) := by decide +kernel
theorem d1_20 : decode prog_4_method_1_code 20 = .ok (.invokespecial 20, 3) := by decide +kernel
theorem d1_23 : decode prog_4_method_1_code 23 = .ok (.putfield 21, 3) := by decide +kernel
theorem d1_26 : decode prog_4_method_1_code 26 = .ok (.aload_n 0, 1) := by decide +kernel
theorem d1_27 : decode prog_4_method_1_code 27 = .ok (.iload_n 3, 1) := by decide +kernel
theorem d1_28 : decode prog_4_method_1_code 28 = .ok (.putfield 25, 3) := by decide +kernel
theorem d1_31 : decode prog_4_method_1_code 31 = .ok (.aload_n 0, 1) := by decide +kernel
theorem d1_32 : decode prog_4_method_1_code 32 = .ok (.lload_n 1, 1) := by decide +kernel
theorem d1_33 : decode prog_4_method_1_code 33 = .ok (.ldc2_w 31, 3) := by decide +kernel
theorem d1_36 : decode prog_4_method_1_code 36 = .ok (.lcmp, 1) := by decide +kernel
theorem d1_37 : decode prog_4_method_1_code 37 = .ok (.ifCond .ne 7, 3) := by decide +kernel
theorem d1_40 : decode prog_4_method_1_code 40 = .ok (.iconst 1, 1) := by decide +kernel
theorem d1_41 : decode prog_4_method_1_code 41 = .ok (.goto 4, 3) := by decide +kernel
theorem d1_44 : decode prog_4_method_1_code 44 = .ok (.iconst 0, 1) := by decide +kernel
theorem d1_45 : decode prog_4_method_1_code 45 = .ok (.putfield 33, 3) := by decide +kernel
theorem d1_48 : decode prog_4_method_1_code 48 = .ok (.aload_n 0, 1) := by decide +kernel
theorem d1_49 : decode prog_4_method_1_code 49 = .ok (.aload_n 0, 1) := by decide +kernel
theorem d1_50 : decode prog_4_method_1_code 50 = .ok (.getfield 33, 3) := by decide +kernel
theorem d1_53 : decode prog_4_method_1_code 53 = .ok (.ifCond .eq 7, 3) := by decide +kernel
theorem d1_56 : decode prog_4_method_1_code 56 = .ok (.lconst 0, 1) := by decide +kernel
theorem d1_57 : decode prog_4_method_1_code 57 = .ok (.goto 4, 3) := by decide +kernel
theorem d1_60 : decode prog_4_method_1_code 60 = .ok (.lload_n 1, 1) := by decide +kernel
theorem d1_61 : decode prog_4_method_1_code 61 = .ok (.putfield 37, 3) := by decide +kernel
theorem d1_64 : decode prog_4_method_1_code 64 = .ok (.aload_n 0, 1) := by decide +kernel
theorem d1_65 : decode prog_4_method_1_code 65 = .ok (.aload_n 0, 1) := by decide +kernel
theorem d1_66 : decode prog_4_method_1_code 66 = .ok (.getfield 33, 3) := by decide +kernel
theorem d1_69 : decode prog_4_method_1_code 69 = .ok (.ifCond .eq 9, 3) := by decide +kernel
theorem d1_72 : decode prog_4_method_1_code 72 = .ok (.getstatic 41, 3) := by decide +kernel
theorem d1_75 : decode prog_4_method_1_code 75 = .ok (.goto 6, 3) := by decide +kernel
theorem d1_78 : decode prog_4_method_1_code 78 = .ok (.getstatic 47, 3) := by decide +kernel
theorem d1_81 : decode prog_4_method_1_code 81 = .ok (.putfield 50, 3) := by decide +kernel
theorem d1_84 : decode prog_4_method_1_code 84 = .ok (.aload_n 0, 1) := by decide +kernel
theorem d1_85 : decode prog_4_method_1_code 85 = .ok (.getfield 33, 3) := by decide +kernel
theorem d1_88 : decode prog_4_method_1_code 88 = .ok (.ifCond .ne 15, 3) := by decide +kernel
theorem d1_91 : decode prog_4_method_1_code 91 = .ok (.lload_n 1, 1) := by decide +kernel
theorem d1_92 : decode prog_4_method_1_code 92 = .ok (.iload_n 3, 1) := by decide +kernel
theorem d1_93 : decode prog_4_method_1_code 93 = .ok (.i2l, 1) := by decide +kernel
theorem d1_94 : decode prog_4_method_1_code 94 = .ok (.lcmp, 1) := by decide +kernel
theorem d1_95 : decode prog_4_method_1_code 95 = .ok (.ifCond .le 8, 3) := by decide +kernel
theorem d1_98 : decode prog_4_method_1_code 98 = .ok (.aload_n 0, 1) := by decide +kernel
theorem d1_99 : decode prog_4_method_1_code 99 = .ok (.iconst 1, 1) := by decide +kernel
theorem d1_100 : decode prog_4_method_1_code 100 = .ok (.putfield 53, 3) := by decide +kernel
theorem d1_103 : decode prog_4_method_1_code 103 = .ok (.aload_n 0, 1) := by decide +kernel
theorem d1_104 : decode prog_4_method_1_code 104 = .ok (.getfield 33, 3) := by decide +kernel
theorem d1_107 : decode prog_4_method_1_code 107 = .ok (.ifCond .ne 16, 3) := by decide +kernel
theorem d1_110 : decode prog_4_method_1_code 110 = .ok (.lload_n 1, 1) := by decide +kernel
theorem d1_111 : decode prog_4_method_1_code 111 = .ok (.lconst 0, 1) := by decide +kernel
theorem d1_112 : decode prog_4_method_1_code 112 = .ok (.lcmp, 1) := by decide +kernel
theorem d1_113 : decode prog_4_method_1_code 113 = .ok (.ifCond .ne 10, 3) := by decide +kernel
theorem d1_116 : decode prog_4_method_1_code 116 = .ok (.aload_n 0, 1) := by decide +kernel
theorem d1_117 : decode prog_4_method_1_code 117 = .ok (.getstatic 56, 3) := by decide +kernel
theorem d1_120 : decode prog_4_method_1_code 120 = .ok (.putfield 50, 3) := by decide +kernel
theorem d1_123 : decode prog_4_method_1_code 123 = .ok (.return_, 1) := by decide +kernel
theorem d3_0 : decode jdk_2005_method_1_code 0 = .ok (.aload_n 0, 1) := by decide +kernel
theorem d3_1 : decode jdk_2005_method_1_code 1 = .ok (.bipush 32, 2) := by decide +kernel
theorem d3_3 : decode jdk_2005_method_1_code 3 = .ok (.invokespecial 1, 3) := by decide +kernel
theorem d3_6 : decode jdk_2005_method_1_code 6 = .ok (.return_, 1) := by decide +kernel
theorem d4_0 : decode jdk_2005_method_2_code 0 = .ok (.aload_n 0, 1) := by decide +kernel
theorem d4_1 : decode jdk_2005_method_2_code 1 = .ok (.invokespecial 7, 3) := by decide +kernel
theorem d4_4 : decode jdk_2005_method_2_code 4 = .ok (.iload_n 1, 1) := by decide +kernel
theorem d4_5 : decode jdk_2005_method_2_code 5 = .ok (.ifCond .ge 30, 3) := by decide +kernel
theorem d4_35 : decode jdk_2005_method_2_code 35 = .ok (.aload_n 0, 1) := by decide +kernel
theorem d4_36 : decode jdk_2005_method_2_code 36 = .ok (.iload_n 1, 1) := by decide +kernel
theorem d4_37 : decode jdk_2005_method_2_code 37 = .ok (.newarray .byte, 2) := by decide +kernel
theorem d4_39 : decode jdk_2005_method_2_code 39 = .ok (.putfield 33, 3) := by decide +kernel
theorem d4_42 : decode jdk_2005_method_2_code 42 = .ok (.return_, 1) := by decide +kernel
theorem d5_0 : decode jdk_2038_method_1_code 0 = .ok (.aload_n 0, 1) := by decide +kernel
theorem d5_1 : decode jdk_2038_method_1_code 1 = .ok (.invokespecial 1, 3) := by decide +kernel
theorem d5_4 : decode jdk_2038_method_1_code 4 = .ok (.return_, 1) := by decide +kernel
theorem d6_0 : decode jdk_67_method_1_code 0 = .ok (.aload_n 0, 1) := by decide +kernel
theorem d6_1 : decode jdk_67_method_1_code 1 = .ok (.bipush 16, 2) := by decide +kernel
theorem d6_3 : decode jdk_67_method_1_code 3 = .ok (.invokespecial 1, 3) := by decide +kernel
theorem d6_6 : decode jdk_67_method_1_code 6 = .ok (.return_, 1) := by decide +kernel
theorem d7_0 : decode jdk_68_method_2_code 0 = .ok (.aload_n 0, 1) := by decide +kernel
theorem d7_1 : decode jdk_68_method_2_code 1 = .ok (.invokespecial 3, 3) := by decide +kernel
theorem d7_4 : decode jdk_68_method_2_code 4 = .ok (.getstatic 18, 3) := by decide +kernel
theorem d7_7 : decode jdk_68_method_2_code 7 = .ok (.ifCond .eq 18, 3) := by decide +kernel
theorem d7_10 : decode jdk_68_method_2_code 10 = .ok (.aload_n 0, 1) := by decide +kernel
theorem d7_11 : decode jdk_68_method_2_code 11 = .ok (.iload_n 1, 1) := by decide +kernel
theorem d7_12 : decode jdk_68_method_2_code 12 = .ok (.newarray .byte, 2) := by decide +kernel
theorem d7_14 : decode jdk_68_method_2_code 14 = .ok (.putfield 15, 3) := by decide +kernel
theorem d7_17 : decode jdk_68_method_2_code 17 = .ok (.aload_n 0, 1) := by decide +kernel
theorem d7_18 : decode jdk_68_method_2_code 18 = .ok (.iconst 0, 1) := by decide +kernel
theorem d7_19 : decode jdk_68_method_2_code 19 = .ok (.putfield 22, 3) := by decide +kernel
theorem d7_22 : decode jdk_68_method_2_code 22 = .ok (.goto 16, 3) := by decide +kernel
theorem d7_38 : decode jdk_68_method_2_code 38 = .ok (.return_, 1) := by decide +kernel
theorem d8_0 : decode prog_4_method_3_code 0 = .ok (.aload_n 0, 1) := by decide +kernel
theorem d8_1 : decode prog_4_method_3_code 1 = .ok (.getfield 50, 3) := by decide +kernel
theorem d8_4 : decode prog_4_method_3_code 4 = .ok (.getstatic 56, 3) := by decide +kernel
theorem d8_7 : decode prog_4_method_3_code 7 = .ok (.if_acmp .eq 10, 3) := by decide +kernel
theorem d8_10 : decode prog_4_method_3_code 10 = .ok (.aload_n 0, 1) := by decide +kernel
theorem d8_11 : decode prog_4_method_3_code 11 = .ok (.getfield 53, 3) := by decide +kernel
theorem d8_14 : decode prog_4_method_3_code 14 = .ok (.ifCond .eq 7, 3) := by decide +kernel
theorem d8_17 : decode prog_4_method_3_code 17 = .ok (.iconst 1, 1) := by decide +kernel
theorem d8_18 : decode prog_4_method_3_code 18 = .ok (.goto 4, 3) := by decide +kernel
theorem d8_21 : decode prog_4_method_3_code 21 = .ok (.iconst 0, 1) := by decide +kernel
theorem d8_22 : decode prog_4_method_3_code 22 = .ok (.ireturn, 1) := by decide +kernel
theorem d9_0 : decode prog_4_method_4_code 0 = .ok (.aload_n 0, 1) := by decide +kernel
theorem d9_1 : decode prog_4_method_4_code 1 = .ok (.getfield 53, 3) := by decide +kernel
theorem d9_4 : decode prog_4_method_4_code 4 = .ok (.ireturn, 1) := by decide +kernel
theorem d10_0 : decode prog_4_method_5_code 0 = .ok (.aload_n 0, 1) := by decide +kernel
theorem d10_1 : decode prog_4_method_5_code 1 = .ok (.getfield 12, 3) := by decide +kernel
theorem d10_4 : decode prog_4_method_5_code 4 = .ok (.invokevirtual 97, 3) := by decide +kernel
theorem d10_7 : decode prog_4_method_5_code 7 = .ok (.areturn, 1) := by decide +kernel
theorem d11_0 : decode jdk_2005_method_9_code 0 = .ok (.aload_n 0, 1) := by decide +kernel
theorem d11_1 : decode jdk_2005_method_9_code 1 = .ok (.getfield 33, 3) := by decide +kernel
theorem d11_4 : decode jdk_2005_method_9_code 4 = .ok (.aload_n 0, 1) := by decide +kernel
theorem d11_5 : decode jdk_2005_method_9_code 5 = .ok (.getfield 49, 3) := by decide +kernel
theorem d11_8 : decode jdk_2005_method_9_code 8 = .ok (.invokestatic 43, 3) := by decide +kernel
theorem d11_11 : decode jdk_2005_method_9_code 11 = .ok (.areturn, 1) := by decide +kernel
theorem d12_0 : decode jdk_65_method_121_code 0 = .ok (.iload_n 1, 1) := by decide +kernel
theorem d12_1 : decode jdk_65_method_121_code 1 = .ok (.aload_n 0, 1) := by decide +kernel
theorem d12_2 : decode jdk_65_method_121_code 2 = .ok (.arraylength, 1) := by decide +kernel
theorem d12_3 : decode jdk_65_method_121_code 3 = .ok (.if_icmp .ne 11, 3) := by decide +kernel
theorem d12_14 : decode jdk_65_method_121_code 14 = .ok (.iload_n 1, 1) := by decide +kernel
theorem d12_15 : decode jdk_65_method_121_code 15 = .ok (.newarray .byte, 2) := by decide +kernel
theorem d12_17 : decode jdk_65_method_121_code 17 = .ok (.astore_n 2, 1) := by decide +kernel
theorem d12_18 : decode jdk_65_method_121_code 18 = .ok (.aload_n 0, 1) := by decide +kernel
theorem d12_19 : decode jdk_65_method_121_code 19 = .ok (.iconst 0, 1) := by decide +kernel
theorem d12_20 : decode jdk_65_method_121_code 20 = .ok (.aload_n 2, 1) := by decide +kernel
theorem d12_21 : decode jdk_65_method_121_code 21 = .ok (.iconst 0, 1) := by decide +kernel
theorem d12_22 : decode jdk_65_method_121_code 22 = .ok (.aload_n 0, 1) := by decide +kernel
theorem d12_23 : decode jdk_65_method_121_code 23 = .ok (.arraylength, 1) := by decide +kernel
theorem d12_24 : decode jdk_65_method_121_code 24 = .ok (.iload_n 1, 1) := by decide +kernel
theorem d12_25 : decode jdk_65_method_121_code 25 = .ok (.invokestatic 304, 3) := by decide +kernel
theorem d12_28 : decode jdk_65_method_121_code 28 = .ok (.invokestatic 150, 3) := by decide +kernel
theorem d12_31 : decode jdk_65_method_121_code 31 = .ok (.aload_n 2, 1) := by decide +kernel
theorem d12_32 : decode jdk_65_method_121_code 32 = .ok (.areturn, 1) := by decide +kernel
theorem d13_0 : decode jdk_29_method_69_code 0 = .ok (.iload_n 0, 1) := by decide +kernel
theorem d13_1 : decode jdk_29_method_69_code 1 = .ok (.iload_n 1, 1) := by decide +kernel
theorem d13_2 : decode jdk_29_method_69_code 2 = .ok (.if_icmp .gt 7, 3) := by decide +kernel
theorem d13_9 : decode jdk_29_method_69_code 9 = .ok (.iload_n 1, 1) := by decide +kernel
theorem d13_10 : decode jdk_29_method_69_code 10 = .ok (.ireturn, 1) := by decide +kernel
theorem pd_0 : parseMethodDescriptor "()V" = some ⟨[], none⟩ := by decide +kernel
theorem pd_1 : parseMethodDescriptor "(I)V" = some ⟨[.int], none⟩ := by decide +kernel
theorem pd_2 : parseMethodDescriptor "(JI)V" = some ⟨[.long, .int], none⟩ := by decide +kernel
theorem pd_3 : parseMethodDescriptor "()Z" = some ⟨[], some .boolean⟩ := by decide +kernel
theorem pd_4 : parseMethodDescriptor "(II)I" = some ⟨[.int, .int], some .int⟩ := by decide +kernel
theorem pd_5 : parseMethodDescriptor "([BI)[B" = some ⟨[(.array .byte), .int], some (.array .byte)⟩ := by decide +kernel
theorem pd_6 : parseMethodDescriptor "()[B" = some ⟨[], some (.array .byte)⟩ := by decide +kernel
theorem pn_0 : plainName "java/io/OutputStream" = true := by first | (simp [plainName, overriddenIn]; done) | decide +kernel
theorem pn_1 : plainName "java/io/ByteArrayOutputStream" = true := by first | (simp [plainName, overriddenIn]; done) | decide +kernel
theorem pn_2 : plainName "java/lang/AbstractStringBuilder" = true := by first | (simp [plainName, overriddenIn]; done) | decide +kernel
theorem pn_3 : plainName "java/lang/StringBuilder" = true := by first | (simp [plainName, overriddenIn]; done) | decide +kernel
theorem pn_4 : plainName "com/example/outbound_courier/outboundcourier/http/BodyReader" = true := by first | (simp [plainName, overriddenIn]; done) | decide +kernel
theorem pn_5 : plainName "java/util/Arrays" = true := by first | (simp [plainName, overriddenIn]; done) | decide +kernel
theorem pn_6 : plainName "com/example/outbound_courier/outboundcourier/http/BodyReaderIsDonePinLaw" = true := by first | (simp [plainName, overriddenIn]; done) | decide +kernel
def Q_rm5_1 (Z : State) (a1 : Addr) (h0 : Heap) (n0 : Nat) (v : Option Value) (h : Heap) (L : List Loc) : Prop := v = none ∧ Fr n0 L ∧ h = h0
set_option maxRecDepth 65536 in
set_option maxHeartbeats 40000000 in
theorem rm5_1 (l : Launch) (Z : State) (a0 : Array Value) (hw : ∀ d ∈ tables_1, d.before a0 Z = true) (ws : List Jvm.Cond) (a1 : Addr) (h0 : Heap) (n0 : Nat) (O0 : Old Z n0 h0) :
    MetFree l (⟨"java/io/OutputStream", "<init>", "()V"⟩ : MethodName) (head1 (Jvm.Cond.code (⟨"java/io/OutputStream", "<init>", "()V"⟩ : MethodName) jdk_2038_method_1_code 1 none :: ws) ({ frames := 1, cells := 0, slots := 0, locals := 12 } : Room)) (fun a U => a = #[(.ref a1)] ∧ Z.Warmed39 U.vm ∧ U.heap = h0) (fun _ _ _ _ _ => True) (fun _ U o U' => ∃ v L, o = .returned v ∧ Q_rm5_1 Z a1 h0 n0 v U'.heap L ∧ FrameEnd U o U' L ({ frames := 1, cells := 0, slots := 0, locals := 12 } : Room).cells ({ frames := 1, cells := 0, slots := 0, locals := 12 } : Room).slots) := by
  refine MetFree.of_bodySF (plainFor_of_name pn_0) hisR ?_
  intro p e s m args below meth c s₁ Bd hml0 hP hK
  obtain ⟨rfl, hZ, hh⟩ := hP
  have hx := Bd.exec
  have hby := Bd.bytes
  have hml : c.maxLocals = 1 := hml0
  have hown : s.vm.findClass "java/io/OutputStream" = some m.cls := findClass_of_methodNamed Bd.named
  have hnm := (name_of_methodNamed Bd.named Bd.method).1
  have X0 : Stand p l e ({ frames := 1, cells := 0, slots := 0, locals := 12 } : Room) s m #[(.ref a1)] below meth c s₁ [] 0 0 := Stand.of_body Bd
  have e0 : s₁.heap = h0 := by rw [← hh, Bd.state]; rfl
  have N0 := Fr.nil n0
  refine Go.start (P := (fun o U' => ∃ v L, o = .returned v ∧ Q_rm5_1 Z a1 h0 n0 v U'.heap L ∧ FrameEnd s o U' L ({ frames := 1, cells := 0, slots := 0, locals := 12 } : Room).cells ({ frames := 1, cells := 0, slots := 0, locals := 12 } : Room).slots)) (castTop (g' := (mkF m 0 #[.val (.ref a1)] [])) (by first | rfl | simp [entryFrame, mkF, argsToLocals, Value.category]) (T := s₁)) ?_
  refine Go.st (fun t k => XS.aloadN X0.here hx rfl (hb hby d5_0) rfl rfl k) ?_
  show Go p e below _ (s₁.setTop (mkF m 1 #[.val (.ref a1)] [(.ref a1)]))
  obtain ⟨T1, X1, e1, st1⟩ := initO X0 hx hZ hown (w25 hw) (w7 hw) (w8 hw) e0 (g := (mkF m 1 #[.val (.ref a1)] [(.ref a1)])) rfl (by rw [hml]; rfl) rfl (hb hby d5_1) (by decide) (W := 0) (by show 2 * 0 + _ ≤ _; exact Nat.le_of_eq rfl) (by decide)
  refine Go.st st1 ?_
  show Go p e below _ (T1.setTop (mkF m 4 #[.val (.ref a1)] []))
  obtain ⟨fs, hr, hrun, hended, hWd, hsame⟩ := X1.leave (v := none) (fun _ => rfl)
  refine ⟨_, _, ?_, hrun, hended, _, _, rfl, ?_, ⟨⟨_, rfl⟩, hWd, hsame.mono (by decide) (by decide)⟩⟩
  · exact X1.returnOut hx Bd.returns (hb hby d5_4) hr
  · show Q_rm5_1 Z a1 h0 n0 _ T1.heap _
    rw [e1]
    exact ⟨rfl, N0, rfl⟩
def Q_rm4_1 (Z : State) (a1 : Addr) (h0 : Heap) (n0 : Nat) (v : Option Value) (h : Heap) (L : List Loc) : Prop := ∃ (b2 : Addr) (k2 : ClassId), v = none ∧ Fr n0 L ∧ Keep h0 h [a1] ∧ h0.size ≤ b2 ∧ Fld Z h a1 "java/io/ByteArrayOutputStream" "buf" "[B" (.ref b2) ∧ Unt h a1 ∧ Fld Z h a1 "java/io/ByteArrayOutputStream" "count" "I" (.int (0 : Int32)) ∧ Arv Z h b2 k2 .byte (32 : Int32) [(.int (0 : Int32)), (.int (0 : Int32)), (.int (0 : Int32)), (.int (0 : Int32)), (.int (0 : Int32)), (.int (0 : Int32)), (.int (0 : Int32)), (.int (0 : Int32)), (.int (0 : Int32)), (.int (0 : Int32)), (.int (0 : Int32)), (.int (0 : Int32)), (.int (0 : Int32)), (.int (0 : Int32)), (.int (0 : Int32)), (.int (0 : Int32)), (.int (0 : Int32)), (.int (0 : Int32)), (.int (0 : Int32)), (.int (0 : Int32)), (.int (0 : Int32)), (.int (0 : Int32)), (.int (0 : Int32)), (.int (0 : Int32)), (.int (0 : Int32)), (.int (0 : Int32)), (.int (0 : Int32)), (.int (0 : Int32)), (.int (0 : Int32)), (.int (0 : Int32)), (.int (0 : Int32)), (.int (0 : Int32))] (.int (0 : Int32))
set_option maxRecDepth 65536 in
set_option maxHeartbeats 40000000 in
theorem rm4_1 (l : Launch) (Z : State) (a0 : Array Value) (hw : ∀ d ∈ tables_1, d.before a0 Z = true) (ws : List Jvm.Cond) (a1 : Addr) (h0 : Heap) (n0 : Nat) (O0 : Old Z n0 h0) (P1 : Exa Z h0 a1 "java/io/ByteArrayOutputStream") (P2 : Fld Z h0 a1 "java/io/ByteArrayOutputStream" "buf" "[B" .null) (P3 : n0 ≤ a1) (P4 : Unt h0 a1) (P5 : Fld Z h0 a1 "java/io/ByteArrayOutputStream" "count" "I" (.int (0 : Int32))) :
    MetFree l (⟨"java/io/ByteArrayOutputStream", "<init>", "(I)V"⟩ : MethodName) (head1 (Jvm.Cond.code (⟨"java/io/ByteArrayOutputStream", "<init>", "(I)V"⟩ : MethodName) jdk_2005_method_2_code 2 none :: ws) ({ frames := 2, cells := 1, slots := 32, locals := 24 } : Room)) (fun a U => a = #[(.ref a1), (.int (32 : Int32))] ∧ Z.Warmed39 U.vm ∧ U.heap = h0) (fun _ _ _ _ _ => True) (fun _ U o U' => ∃ v L, o = .returned v ∧ Q_rm4_1 Z a1 h0 n0 v U'.heap L ∧ FrameEnd U o U' L ({ frames := 2, cells := 1, slots := 32, locals := 24 } : Room).cells ({ frames := 2, cells := 1, slots := 32, locals := 24 } : Room).slots) := by
  refine MetFree.of_bodySF (plainFor_of_name pn_1) hisR ?_
  intro p e s m args below meth c s₁ Bd hml0 hP hK
  obtain ⟨rfl, hZ, hh⟩ := hP
  have hx := Bd.exec
  have hby := Bd.bytes
  have hml : c.maxLocals = 2 := hml0
  have hown : s.vm.findClass "java/io/ByteArrayOutputStream" = some m.cls := findClass_of_methodNamed Bd.named
  have hnm := (name_of_methodNamed Bd.named Bd.method).1
  have X0 : Stand p l e ({ frames := 2, cells := 1, slots := 32, locals := 24 } : Room) s m #[(.ref a1), (.int (32 : Int32))] below meth c s₁ [] 0 0 := Stand.of_body Bd
  have e0 : s₁.heap = h0 := by rw [← hh, Bd.state]; rfl
  have N0 := Fr.nil n0
  refine Go.start (P := (fun o U' => ∃ v L, o = .returned v ∧ Q_rm4_1 Z a1 h0 n0 v U'.heap L ∧ FrameEnd s o U' L ({ frames := 2, cells := 1, slots := 32, locals := 24 } : Room).cells ({ frames := 2, cells := 1, slots := 32, locals := 24 } : Room).slots)) (castTop (g' := (mkF m 0 #[.val (.ref a1), .val (.int (32 : Int32))] [])) (by first | rfl | simp [entryFrame, mkF, argsToLocals, Value.category]) (T := s₁)) ?_
  refine Go.st (fun t k => XS.aloadN X0.here hx rfl (hb hby d4_0) rfl rfl k) ?_
  show Go p e below _ (s₁.setTop (mkF m 1 #[.val (.ref a1), .val (.int (32 : Int32))] [(.ref a1)]))
  obtain ⟨_, _, ⟨T1, L1, k1, n1⟩, -, X1, ⟨Lc1, hQ1, l1, y1, z1⟩, st1⟩ := X0.specialBack hx (y := (⟨"java/io/OutputStream", "<init>", "()V"⟩ : MethodName)) rfl hown (mvT hZ (w19 hw)) (mvT hZ (w20 hw)) (mvT hZ (w24 hw)) (by decide) (backOf (W := 0) (rm5_1 l Z a0 hw [] a1 h0 n0 O0 ) hZ (w24 hw) (w23 hw) (by decide) (by decide)) (g := (mkF m 1 #[.val (.ref a1), .val (.int (32 : Int32))] [(.ref a1)])) rfl (by rw [hml]; rfl) (Steps.refl _) (a := a1) (argsL := []) (rest := []) (lenOf pd_0 rfl) rfl (by show 2 * 0 + _ ≤ _; exact Nat.le_of_eq rfl) (hb hby d4_1) (fun vm₁ hw₁ => ⟨rfl, e0, (by decide : 0 + 0 ≤ _), (by decide : 0 + 0 ≤ _)⟩)
  dsimp only [Pt.U, Pt.locs, Pt.cells, Pt.slots] at X1 l1 y1 z1 st1 hQ1
  subst l1 y1 z1
  obtain ⟨rfl, M1, eh1⟩ := hQ1
  have N1 := Fr.app N0 M1
  refine Go.tr st1 ?_
  show Go p e below _ (T1.setTop (mkF m 4 #[.val (.ref a1), .val (.int (32 : Int32))] []))
  refine Go.st (fun t k => XS.iloadN X1.here hx rfl (hb hby d4_4) rfl k) ?_
  show Go p e below _ (T1.setTop (mkF m 5 #[.val (.ref a1), .val (.int (32 : Int32))] [(.int (32 : Int32))]))
  refine Go.st (fun t k => XS.ifYes X1.here hx rfl (pc0 := 5) (pc' := 35) rfl (hb hby d4_5) rfl (Jvm.Free.XT.i0_ge_t (by decide : ¬ ((32 : Int32) < (0 : Int32)))) (by decide) (by decide) k) ?_
  show Go p e below _ (T1.setTop (mkF m 35 #[.val (.ref a1), .val (.int (32 : Int32))] []))
  refine Go.st (fun t k => XS.aloadN X1.here hx rfl (hb hby d4_35) rfl rfl k) ?_
  show Go p e below _ (T1.setTop (mkF m 36 #[.val (.ref a1), .val (.int (32 : Int32))] [(.ref a1)]))
  refine Go.st (fun t k => XS.iloadN X1.here hx rfl (hb hby d4_36) rfl k) ?_
  show Go p e below _ (T1.setTop (mkF m 37 #[.val (.ref a1), .val (.int (32 : Int32))] [(.int (32 : Int32)), (.ref a1)]))
  obtain ⟨T2, h2, k2, X2, e2, E2, A2, st2⟩ := newP X1 hx hZ (aty := .byte) (w26 hw) eh1 (g := (mkF m 37 #[.val (.ref a1), .val (.int (32 : Int32))] [(.int (32 : Int32)), (.ref a1)])) rfl (hb hby d4_37) rfl (by decide) (cap := 32) (by decide) (by decide) (by decide) (by decide)
  obtain ⟨b2, z2⟩ : ∃ z, z = h0.size := ⟨_, rfl⟩
  rw [← z2] at A2 st2
  have g_b2 : n0 ≤ b2 := Nat.le_trans (own_n0 O0) (Nat.le_of_eq z2.symm)
  have s_b2 : h0.size ≤ b2 := Nat.le_trans (Keep.refl h0 [a1]).1 (Nat.le_of_eq z2.symm)
  have V2 : Arv Z h2 b2 k2 .byte (32 : Int32) [(.int (0 : Int32)), (.int (0 : Int32)), (.int (0 : Int32)), (.int (0 : Int32)), (.int (0 : Int32)), (.int (0 : Int32)), (.int (0 : Int32)), (.int (0 : Int32)), (.int (0 : Int32)), (.int (0 : Int32)), (.int (0 : Int32)), (.int (0 : Int32)), (.int (0 : Int32)), (.int (0 : Int32)), (.int (0 : Int32)), (.int (0 : Int32)), (.int (0 : Int32)), (.int (0 : Int32)), (.int (0 : Int32)), (.int (0 : Int32)), (.int (0 : Int32)), (.int (0 : Int32)), (.int (0 : Int32)), (.int (0 : Int32)), (.int (0 : Int32)), (.int (0 : Int32)), (.int (0 : Int32)), (.int (0 : Int32)), (.int (0 : Int32)), (.int (0 : Int32)), (.int (0 : Int32)), (.int (0 : Int32))] (.int (0 : Int32)) := (Arv.new A2 (by decide)).pad (pad_rep [] (.int (0 : Int32)) 32)
  have O2 : Old Z n0 h2 := O0.ext E2
  have K2 : Keep h0 h2 [a1] := (Keep.refl h0 [a1]).ext E2
  refine Go.st st2 ?_
  show Go p e below _ (T2.setTop (mkF m 39 #[.val (.ref a1), .val (.int (32 : Int32))] [(.ref b2), (.ref a1)]))
  obtain ⟨T3, h3, X3, e3, W3, st3⟩ := putF X2 hx hZ hown (host := "") (Or.inl (w27 hw)) Via.refl e2 (P2.ext E2) (P1.ext E2) (Or.inl (w28 hw)) (w10 hw) (ty := (.array .byte)) (by decide) rfl rfl (g := (mkF m 39 #[.val (.ref a1), .val (.int (32 : Int32))] [(.ref b2), (.ref a1)])) rfl rfl (hb hby d4_39)
  have F3 : Fld Z h3 a1 "java/io/ByteArrayOutputStream" "buf" "[B" (.ref b2) := (P2.ext E2).same W3
  have N3 := Fr.snoc X3 N1 P3
  have O3 : Old Z n0 h3 := O2.wr W3 P3
  have K3 : Keep h0 h3 [a1] := K2.wr W3 (Or.inl (List.mem_of_getElem? (i := 0) rfl))
  refine Go.st st3 ?_
  show Go p e below _ (T3.setTop (mkF m 42 #[.val (.ref a1), .val (.int (32 : Int32))] []))
  obtain ⟨fs, hr, hrun, hended, hWd, hsame⟩ := X3.leave (v := none) (fun _ => rfl)
  have c4 := ((P5.ext E2).other W3 (Or.inr (slot_ne (Or.inl (w90 hw)) (Or.inl (w28 hw)) (by decide) (t := .int) (t' := (.array .byte)) (by decide) (by decide))))
  have c5 := (V2.other W3 (Ne.symm (Nat.ne_of_lt (Nat.lt_of_lt_of_le P1.lt (Nat.le_of_eq z2.symm)))))
  refine ⟨_, _, ?_, hrun, hended, _, _, rfl, ?_, ⟨⟨_, rfl⟩, hWd, hsame.mono (by decide) (by decide)⟩⟩
  · exact X3.returnOut hx Bd.returns (hb hby d4_42) hr
  · show Q_rm4_1 Z a1 h0 n0 _ T3.heap _
    rw [e3]
    exact ⟨b2, k2, rfl, N3, K3, s_b2, F3, ((P4.ext E2).wr W3), c4, c5⟩
def Q_rm3_1 (Z : State) (a1 : Addr) (h0 : Heap) (n0 : Nat) (v : Option Value) (h : Heap) (L : List Loc) : Prop := ∃ (b2_1 : Addr) (k2_1 : ClassId), v = none ∧ Fr n0 L ∧ Keep h0 h [a1] ∧ h0.size ≤ b2_1 ∧ Fld Z h a1 "java/io/ByteArrayOutputStream" "buf" "[B" (.ref b2_1) ∧ Unt h a1 ∧ Fld Z h a1 "java/io/ByteArrayOutputStream" "count" "I" (.int (0 : Int32)) ∧ Arv Z h b2_1 k2_1 .byte (32 : Int32) [(.int (0 : Int32)), (.int (0 : Int32)), (.int (0 : Int32)), (.int (0 : Int32)), (.int (0 : Int32)), (.int (0 : Int32)), (.int (0 : Int32)), (.int (0 : Int32)), (.int (0 : Int32)), (.int (0 : Int32)), (.int (0 : Int32)), (.int (0 : Int32)), (.int (0 : Int32)), (.int (0 : Int32)), (.int (0 : Int32)), (.int (0 : Int32)), (.int (0 : Int32)), (.int (0 : Int32)), (.int (0 : Int32)), (.int (0 : Int32)), (.int (0 : Int32)), (.int (0 : Int32)), (.int (0 : Int32)), (.int (0 : Int32)), (.int (0 : Int32)), (.int (0 : Int32)), (.int (0 : Int32)), (.int (0 : Int32)), (.int (0 : Int32)), (.int (0 : Int32)), (.int (0 : Int32)), (.int (0 : Int32))] (.int (0 : Int32))
set_option maxRecDepth 65536 in
set_option maxHeartbeats 40000000 in
theorem rm3_1 (l : Launch) (Z : State) (a0 : Array Value) (hw : ∀ d ∈ tables_1, d.before a0 Z = true) (ws : List Jvm.Cond) (a1 : Addr) (h0 : Heap) (n0 : Nat) (O0 : Old Z n0 h0) (P1 : Exa Z h0 a1 "java/io/ByteArrayOutputStream") (P2 : Fld Z h0 a1 "java/io/ByteArrayOutputStream" "buf" "[B" .null) (P3 : n0 ≤ a1) (P4 : Unt h0 a1) (P5 : Fld Z h0 a1 "java/io/ByteArrayOutputStream" "count" "I" (.int (0 : Int32))) :
    MetFree l (⟨"java/io/ByteArrayOutputStream", "<init>", "()V"⟩ : MethodName) (head1 (Jvm.Cond.code (⟨"java/io/ByteArrayOutputStream", "<init>", "()V"⟩ : MethodName) jdk_2005_method_1_code 1 none :: ws) ({ frames := 3, cells := 1, slots := 32, locals := 37 } : Room)) (fun a U => a = #[(.ref a1)] ∧ Z.Warmed39 U.vm ∧ U.heap = h0) (fun _ _ _ _ _ => True) (fun _ U o U' => ∃ v L, o = .returned v ∧ Q_rm3_1 Z a1 h0 n0 v U'.heap L ∧ FrameEnd U o U' L ({ frames := 3, cells := 1, slots := 32, locals := 37 } : Room).cells ({ frames := 3, cells := 1, slots := 32, locals := 37 } : Room).slots) := by
  refine MetFree.of_bodySF (plainFor_of_name pn_1) hisR ?_
  intro p e s m args below meth c s₁ Bd hml0 hP hK
  obtain ⟨rfl, hZ, hh⟩ := hP
  have hx := Bd.exec
  have hby := Bd.bytes
  have hml : c.maxLocals = 1 := hml0
  have hown : s.vm.findClass "java/io/ByteArrayOutputStream" = some m.cls := findClass_of_methodNamed Bd.named
  have hnm := (name_of_methodNamed Bd.named Bd.method).1
  have X0 : Stand p l e ({ frames := 3, cells := 1, slots := 32, locals := 37 } : Room) s m #[(.ref a1)] below meth c s₁ [] 0 0 := Stand.of_body Bd
  have e0 : s₁.heap = h0 := by rw [← hh, Bd.state]; rfl
  have N0 := Fr.nil n0
  refine Go.start (P := (fun o U' => ∃ v L, o = .returned v ∧ Q_rm3_1 Z a1 h0 n0 v U'.heap L ∧ FrameEnd s o U' L ({ frames := 3, cells := 1, slots := 32, locals := 37 } : Room).cells ({ frames := 3, cells := 1, slots := 32, locals := 37 } : Room).slots)) (castTop (g' := (mkF m 0 #[.val (.ref a1)] [])) (by first | rfl | simp [entryFrame, mkF, argsToLocals, Value.category]) (T := s₁)) ?_
  refine Go.st (fun t k => XS.aloadN X0.here hx rfl (hb hby d3_0) rfl rfl k) ?_
  show Go p e below _ (s₁.setTop (mkF m 1 #[.val (.ref a1)] [(.ref a1)]))
  refine Go.st (fun t k => XS.bipush X0.here hx rfl (hb hby d3_1) k) ?_
  show Go p e below _ (s₁.setTop (mkF m 3 #[.val (.ref a1)] [(.int (32 : Int32)), (.ref a1)]))
  obtain ⟨_, _, ⟨T1, L1, k1, n1⟩, -, X1, ⟨Lc1, hQ1, l1, y1, z1⟩, st1⟩ := X0.specialBack hx (y := (⟨"java/io/ByteArrayOutputStream", "<init>", "(I)V"⟩ : MethodName)) rfl hown (mvT hZ (w15 hw)) (mvT hZ (w16 hw)) (mvT hZ (w18 hw)) (by decide) (backOf (W := 0) (rm4_1 l Z a0 hw [] a1 h0 n0 O0 P1 P2 P3 P4 P5) hZ (w18 hw) (w11 hw) (by decide) (by decide)) (g := (mkF m 3 #[.val (.ref a1)] [(.int (32 : Int32)), (.ref a1)])) rfl (by rw [hml]; rfl) (Steps.refl _) (a := a1) (argsL := [(.int (32 : Int32))]) (rest := []) (lenOf pd_1 rfl) rfl (by show 2 * 0 + _ ≤ _; exact Nat.le_of_eq rfl) (hb hby d3_3) (fun vm₁ hw₁ => ⟨rfl, e0, (by decide : 0 + 1 ≤ _), (by decide : 0 + 32 ≤ _)⟩)
  dsimp only [Pt.U, Pt.locs, Pt.cells, Pt.slots] at X1 l1 y1 z1 st1 hQ1
  subst l1 y1 z1
  obtain ⟨b2_1, k2_1, rfl, M1, K1c, r1_0, r1_1, r1_2, r1_3, r1_4⟩ := hQ1
  have N1 := Fr.app N0 M1
  have g_b2_1 : n0 ≤ b2_1 := Nat.le_trans (own_n0 O0) r1_0
  have s_b2_1 : h0.size ≤ b2_1 := Nat.le_trans (Keep.refl h0 [a1]).1 r1_0
  have O1 : Old Z n0 T1.heap := O0.keep K1c (allS P3 all0)
  have K1 : Keep h0 T1.heap [a1] := (Keep.refl h0 [a1]).trans K1c (allS (Or.inl (List.mem_of_getElem? (i := 0) rfl)) all0)
  refine Go.tr st1 ?_
  show Go p e below _ (T1.setTop (mkF m 6 #[.val (.ref a1)] []))
  obtain ⟨fs, hr, hrun, hended, hWd, hsame⟩ := X1.leave (v := none) (fun _ => rfl)
  refine ⟨_, _, ?_, hrun, hended, _, _, rfl, ?_, ⟨⟨_, rfl⟩, hWd, hsame.mono (by decide) (by decide)⟩⟩
  · exact X1.returnOut hx Bd.returns (hb hby d3_6) hr
  · show Q_rm3_1 Z a1 h0 n0 _ T1.heap _
    exact ⟨b2_1, k2_1, rfl, N1, K1, s_b2_1, r1_1, r1_2, r1_3, r1_4⟩
def Q_rm7_1 (Z : State) (a1 : Addr) (p2 : Int32) (h0 : Heap) (n0 : Nat) (v : Option Value) (h : Heap) (L : List Loc) : Prop := ∃ (b3 : Addr) (k3 : ClassId), v = none ∧ Fr n0 L ∧ Keep h0 h [a1] ∧ h0.size ≤ b3 ∧ Fld Z h a1 "java/lang/AbstractStringBuilder" "value" "[B" (.ref b3) ∧ Fld Z h a1 "java/lang/AbstractStringBuilder" "coder" "B" (.int (0 : Int32)) ∧ Arv Z h b3 k3 .byte (16 : Int32) [(.int (0 : Int32)), (.int (0 : Int32)), (.int (0 : Int32)), (.int (0 : Int32)), (.int (0 : Int32)), (.int (0 : Int32)), (.int (0 : Int32)), (.int (0 : Int32)), (.int (0 : Int32)), (.int (0 : Int32)), (.int (0 : Int32)), (.int (0 : Int32)), (.int (0 : Int32)), (.int (0 : Int32)), (.int (0 : Int32)), (.int (0 : Int32))] (.int (0 : Int32))
set_option maxRecDepth 65536 in
set_option maxHeartbeats 40000000 in
theorem rm7_1 (l : Launch) (Z : State) (a0 : Array Value) (hw : ∀ d ∈ tables_1, d.before a0 Z = true) (ws : List Jvm.Cond) (a1 : Addr) (p2 : Int32) (h0 : Heap) (n0 : Nat) (O0 : Old Z n0 h0) (P1 : Sta Z Z.heap "java/lang/String" "COMPACT_STRINGS" "Z" (.int p2)) (P2 : ¬ (p2 = (0 : Int32))) (P3 : Exa Z h0 a1 "java/lang/StringBuilder") (P4 : Fld Z h0 a1 "java/lang/AbstractStringBuilder" "value" "[B" .null) (P5 : n0 ≤ a1) (P6 : Fld Z h0 a1 "java/lang/AbstractStringBuilder" "coder" "B" (.int (0 : Int32))) :
    MetFree l (⟨"java/lang/AbstractStringBuilder", "<init>", "(I)V"⟩ : MethodName) (head1 (Jvm.Cond.code (⟨"java/lang/AbstractStringBuilder", "<init>", "(I)V"⟩ : MethodName) jdk_68_method_2_code 2 none :: ws) ({ frames := 1, cells := 1, slots := 16, locals := 12 } : Room)) (fun a U => a = #[(.ref a1), (.int (16 : Int32))] ∧ Z.Warmed39 U.vm ∧ U.heap = h0) (fun _ _ _ _ _ => True) (fun _ U o U' => ∃ v L, o = .returned v ∧ Q_rm7_1 Z a1 p2 h0 n0 v U'.heap L ∧ FrameEnd U o U' L ({ frames := 1, cells := 1, slots := 16, locals := 12 } : Room).cells ({ frames := 1, cells := 1, slots := 16, locals := 12 } : Room).slots) := by
  refine MetFree.of_bodySF (plainFor_of_name pn_2) hisR ?_
  intro p e s m args below meth c s₁ Bd hml0 hP hK
  obtain ⟨rfl, hZ, hh⟩ := hP
  have hx := Bd.exec
  have hby := Bd.bytes
  have hml : c.maxLocals = 2 := hml0
  have hown : s.vm.findClass "java/lang/AbstractStringBuilder" = some m.cls := findClass_of_methodNamed Bd.named
  have hnm := (name_of_methodNamed Bd.named Bd.method).1
  have X0 : Stand p l e ({ frames := 1, cells := 1, slots := 16, locals := 12 } : Room) s m #[(.ref a1), (.int (16 : Int32))] below meth c s₁ [] 0 0 := Stand.of_body Bd
  have e0 : s₁.heap = h0 := by rw [← hh, Bd.state]; rfl
  have N0 := Fr.nil n0
  refine Go.start (P := (fun o U' => ∃ v L, o = .returned v ∧ Q_rm7_1 Z a1 p2 h0 n0 v U'.heap L ∧ FrameEnd s o U' L ({ frames := 1, cells := 1, slots := 16, locals := 12 } : Room).cells ({ frames := 1, cells := 1, slots := 16, locals := 12 } : Room).slots)) (castTop (g' := (mkF m 0 #[.val (.ref a1), .val (.int (16 : Int32))] [])) (by first | rfl | simp [entryFrame, mkF, argsToLocals, Value.category]) (T := s₁)) ?_
  refine Go.st (fun t k => XS.aloadN X0.here hx rfl (hb hby d7_0) rfl rfl k) ?_
  show Go p e below _ (s₁.setTop (mkF m 1 #[.val (.ref a1), .val (.int (16 : Int32))] [(.ref a1)]))
  obtain ⟨T1, X1, e1, st1⟩ := initO X0 hx hZ hown (w43 hw) (w7 hw) (w8 hw) e0 (g := (mkF m 1 #[.val (.ref a1), .val (.int (16 : Int32))] [(.ref a1)])) rfl (by rw [hml]; rfl) rfl (hb hby d7_1) (by decide) (W := 0) (by show 2 * 0 + _ ≤ _; exact Nat.le_of_eq rfl) (by decide)
  refine Go.st st1 ?_
  show Go p e below _ (T1.setTop (mkF m 4 #[.val (.ref a1), .val (.int (16 : Int32))] []))
  obtain ⟨T2, X2, e2, st2⟩ := getS2 X1 hx hZ hown (host := "") (Or.inl (w44 hw)) Via.refl e1 (P1.ext O0.2) (g := (mkF m 4 #[.val (.ref a1), .val (.int (16 : Int32))] [])) rfl (hb hby d7_4)
  refine Go.st st2 ?_
  show Go p e below _ (T2.setTop (mkF m 7 #[.val (.ref a1), .val (.int (16 : Int32))] [(.int p2)]))
  refine Go.st (fun t k => XS.ifNo X2.here hx rfl (hb hby d7_7) rfl (Jvm.Free.XT.i0_eq_f P2) k) ?_
  show Go p e below _ (T2.setTop (mkF m 10 #[.val (.ref a1), .val (.int (16 : Int32))] []))
  refine Go.st (fun t k => XS.aloadN X2.here hx rfl (hb hby d7_10) rfl rfl k) ?_
  show Go p e below _ (T2.setTop (mkF m 11 #[.val (.ref a1), .val (.int (16 : Int32))] [(.ref a1)]))
  refine Go.st (fun t k => XS.iloadN X2.here hx rfl (hb hby d7_11) rfl k) ?_
  show Go p e below _ (T2.setTop (mkF m 12 #[.val (.ref a1), .val (.int (16 : Int32))] [(.int (16 : Int32)), (.ref a1)]))
  obtain ⟨T3, h3, k3, X3, e3, E3, A3, st3⟩ := newP X2 hx hZ (aty := .byte) (w26 hw) e2 (g := (mkF m 12 #[.val (.ref a1), .val (.int (16 : Int32))] [(.int (16 : Int32)), (.ref a1)])) rfl (hb hby d7_12) rfl (by decide) (cap := 16) (by decide) (by decide) (by decide) (by decide)
  obtain ⟨b3, z3⟩ : ∃ z, z = h0.size := ⟨_, rfl⟩
  rw [← z3] at A3 st3
  have g_b3 : n0 ≤ b3 := Nat.le_trans (own_n0 O0) (Nat.le_of_eq z3.symm)
  have s_b3 : h0.size ≤ b3 := Nat.le_trans (Keep.refl h0 [a1]).1 (Nat.le_of_eq z3.symm)
  have V3 : Arv Z h3 b3 k3 .byte (16 : Int32) [(.int (0 : Int32)), (.int (0 : Int32)), (.int (0 : Int32)), (.int (0 : Int32)), (.int (0 : Int32)), (.int (0 : Int32)), (.int (0 : Int32)), (.int (0 : Int32)), (.int (0 : Int32)), (.int (0 : Int32)), (.int (0 : Int32)), (.int (0 : Int32)), (.int (0 : Int32)), (.int (0 : Int32)), (.int (0 : Int32)), (.int (0 : Int32))] (.int (0 : Int32)) := (Arv.new A3 (by decide)).pad (pad_rep [] (.int (0 : Int32)) 16)
  have O3 : Old Z n0 h3 := O0.ext E3
  have K3 : Keep h0 h3 [a1] := (Keep.refl h0 [a1]).ext E3
  refine Go.st st3 ?_
  show Go p e below _ (T3.setTop (mkF m 14 #[.val (.ref a1), .val (.int (16 : Int32))] [(.ref b3), (.ref a1)]))
  obtain ⟨T4, h4, X4, e4, W4, st4⟩ := putF X3 hx hZ hown (host := "") (Or.inl (w46 hw)) Via.refl e3 (P4.ext E3) (P3.ext E3) (Or.inl (w47 hw)) (w32 hw) (ty := (.array .byte)) (by decide) rfl rfl (g := (mkF m 14 #[.val (.ref a1), .val (.int (16 : Int32))] [(.ref b3), (.ref a1)])) rfl rfl (hb hby d7_14)
  have F4 : Fld Z h4 a1 "java/lang/AbstractStringBuilder" "value" "[B" (.ref b3) := (P4.ext E3).same W4
  have N4 := Fr.snoc X4 N0 P5
  have O4 : Old Z n0 h4 := O3.wr W4 P5
  have K4 : Keep h0 h4 [a1] := K3.wr W4 (Or.inl (List.mem_of_getElem? (i := 0) rfl))
  refine Go.st st4 ?_
  show Go p e below _ (T4.setTop (mkF m 17 #[.val (.ref a1), .val (.int (16 : Int32))] []))
  refine Go.st (fun t k => XS.aloadN X4.here hx rfl (hb hby d7_17) rfl rfl k) ?_
  show Go p e below _ (T4.setTop (mkF m 18 #[.val (.ref a1), .val (.int (16 : Int32))] [(.ref a1)]))
  refine Go.st (fun t k => XS.iconst X4.here hx rfl (hb hby d7_18) k) ?_
  show Go p e below _ (T4.setTop (mkF m 19 #[.val (.ref a1), .val (.int (16 : Int32))] [(.int (0 : Int32)), (.ref a1)]))
  have c5 := ((P6.ext E3).other W4 (Or.inr (slot_ne (Or.inl (w49 hw)) (Or.inl (w47 hw)) (by decide) (t := .byte) (t' := (.array .byte)) (by decide) (by decide))))
  obtain ⟨T6, h6, X6, e6, W6, st6⟩ := putFN X4 hx hZ hown (w48 hw) Via.refl e4 c5 ((P3.ext E3).wr W4) (Or.inl (w49 hw)) (w32 hw) (ty := .byte) (v' := (.int (0 : Int32))) (by decide) rfl (by decide) (g := (mkF m 19 #[.val (.ref a1), .val (.int (16 : Int32))] [(.int (0 : Int32)), (.ref a1)])) rfl rfl (hb hby d7_19)
  have F6 : Fld Z h6 a1 "java/lang/AbstractStringBuilder" "coder" "B" (.int (0 : Int32)) := c5.same W6
  have N6 := Fr.snoc X6 N4 P5
  have O6 : Old Z n0 h6 := O4.wr W6 P5
  have K6 : Keep h0 h6 [a1] := K4.wr W6 (Or.inl (List.mem_of_getElem? (i := 0) rfl))
  refine Go.st st6 ?_
  show Go p e below _ (T6.setTop (mkF m 22 #[.val (.ref a1), .val (.int (16 : Int32))] []))
  refine Go.st (fun t k => XS.goto X6.here hx rfl (pc0 := 22) (pc' := 38) rfl (hb hby d7_22) (by decide) (by decide) k) ?_
  show Go p e below _ (T6.setTop (mkF m 38 #[.val (.ref a1), .val (.int (16 : Int32))] []))
  obtain ⟨fs, hr, hrun, hended, hWd, hsame⟩ := X6.leave (v := none) (fun _ => rfl)
  have c7 := (F4.other W6 (Or.inr (slot_ne (Or.inl (w47 hw)) (Or.inl (w49 hw)) (by decide) (t := (.array .byte)) (t' := .byte) (by decide) (by decide))))
  have c8 := ((V3.other W4 (Ne.symm (Nat.ne_of_lt (Nat.lt_of_lt_of_le P3.lt (Nat.le_of_eq z3.symm))))).other W6 (Ne.symm (Nat.ne_of_lt (Nat.lt_of_lt_of_le P3.lt (Nat.le_of_eq z3.symm)))))
  refine ⟨_, _, ?_, hrun, hended, _, _, rfl, ?_, ⟨⟨_, rfl⟩, hWd, hsame.mono (by decide) (by decide)⟩⟩
  · exact X6.returnOut hx Bd.returns (hb hby d7_38) hr
  · show Q_rm7_1 Z a1 p2 h0 n0 _ T6.heap _
    rw [e6]
    exact ⟨b3, k3, rfl, N6, K6, s_b3, c7, F6, c8⟩
def Q_rm6_1 (Z : State) (a1 : Addr) (p2 : Int32) (h0 : Heap) (n0 : Nat) (v : Option Value) (h : Heap) (L : List Loc) : Prop := ∃ (b3_1 : Addr) (k3_1 : ClassId), v = none ∧ Fr n0 L ∧ Keep h0 h [a1] ∧ h0.size ≤ b3_1 ∧ Fld Z h a1 "java/lang/AbstractStringBuilder" "value" "[B" (.ref b3_1) ∧ Fld Z h a1 "java/lang/AbstractStringBuilder" "coder" "B" (.int (0 : Int32)) ∧ Arv Z h b3_1 k3_1 .byte (16 : Int32) [(.int (0 : Int32)), (.int (0 : Int32)), (.int (0 : Int32)), (.int (0 : Int32)), (.int (0 : Int32)), (.int (0 : Int32)), (.int (0 : Int32)), (.int (0 : Int32)), (.int (0 : Int32)), (.int (0 : Int32)), (.int (0 : Int32)), (.int (0 : Int32)), (.int (0 : Int32)), (.int (0 : Int32)), (.int (0 : Int32)), (.int (0 : Int32))] (.int (0 : Int32))
set_option maxRecDepth 65536 in
set_option maxHeartbeats 40000000 in
theorem rm6_1 (l : Launch) (Z : State) (a0 : Array Value) (hw : ∀ d ∈ tables_1, d.before a0 Z = true) (ws : List Jvm.Cond) (a1 : Addr) (p2 : Int32) (h0 : Heap) (n0 : Nat) (O0 : Old Z n0 h0) (P1 : Sta Z Z.heap "java/lang/String" "COMPACT_STRINGS" "Z" (.int p2)) (P2 : ¬ (p2 = (0 : Int32))) (P3 : Exa Z h0 a1 "java/lang/StringBuilder") (P4 : Fld Z h0 a1 "java/lang/AbstractStringBuilder" "value" "[B" .null) (P5 : n0 ≤ a1) (P6 : Fld Z h0 a1 "java/lang/AbstractStringBuilder" "coder" "B" (.int (0 : Int32))) :
    MetFree l (⟨"java/lang/StringBuilder", "<init>", "()V"⟩ : MethodName) (head1 (Jvm.Cond.code (⟨"java/lang/StringBuilder", "<init>", "()V"⟩ : MethodName) jdk_67_method_1_code 1 none :: ws) ({ frames := 2, cells := 1, slots := 16, locals := 25 } : Room)) (fun a U => a = #[(.ref a1)] ∧ Z.Warmed39 U.vm ∧ U.heap = h0) (fun _ _ _ _ _ => True) (fun _ U o U' => ∃ v L, o = .returned v ∧ Q_rm6_1 Z a1 p2 h0 n0 v U'.heap L ∧ FrameEnd U o U' L ({ frames := 2, cells := 1, slots := 16, locals := 25 } : Room).cells ({ frames := 2, cells := 1, slots := 16, locals := 25 } : Room).slots) := by
  refine MetFree.of_bodySF (plainFor_of_name pn_3) hisR ?_
  intro p e s m args below meth c s₁ Bd hml0 hP hK
  obtain ⟨rfl, hZ, hh⟩ := hP
  have hx := Bd.exec
  have hby := Bd.bytes
  have hml : c.maxLocals = 1 := hml0
  have hown : s.vm.findClass "java/lang/StringBuilder" = some m.cls := findClass_of_methodNamed Bd.named
  have hnm := (name_of_methodNamed Bd.named Bd.method).1
  have X0 : Stand p l e ({ frames := 2, cells := 1, slots := 16, locals := 25 } : Room) s m #[(.ref a1)] below meth c s₁ [] 0 0 := Stand.of_body Bd
  have e0 : s₁.heap = h0 := by rw [← hh, Bd.state]; rfl
  have N0 := Fr.nil n0
  refine Go.start (P := (fun o U' => ∃ v L, o = .returned v ∧ Q_rm6_1 Z a1 p2 h0 n0 v U'.heap L ∧ FrameEnd s o U' L ({ frames := 2, cells := 1, slots := 16, locals := 25 } : Room).cells ({ frames := 2, cells := 1, slots := 16, locals := 25 } : Room).slots)) (castTop (g' := (mkF m 0 #[.val (.ref a1)] [])) (by first | rfl | simp [entryFrame, mkF, argsToLocals, Value.category]) (T := s₁)) ?_
  refine Go.st (fun t k => XS.aloadN X0.here hx rfl (hb hby d6_0) rfl rfl k) ?_
  show Go p e below _ (s₁.setTop (mkF m 1 #[.val (.ref a1)] [(.ref a1)]))
  refine Go.st (fun t k => XS.bipush X0.here hx rfl (hb hby d6_1) k) ?_
  show Go p e below _ (s₁.setTop (mkF m 3 #[.val (.ref a1)] [(.int (16 : Int32)), (.ref a1)]))
  obtain ⟨_, _, ⟨T1, L1, k1, n1⟩, -, X1, ⟨Lc1, hQ1, l1, y1, z1⟩, st1⟩ := X0.specialBack hx (y := (⟨"java/lang/AbstractStringBuilder", "<init>", "(I)V"⟩ : MethodName)) rfl hown (mvT hZ (w37 hw)) (mvT hZ (w38 hw)) (mvT hZ (w42 hw)) (by decide) (backOf (W := 0) (rm7_1 l Z a0 hw [] a1 p2 h0 n0 O0 P1 P2 P3 P4 P5 P6) hZ (w42 hw) (w41 hw) (by decide) (by decide)) (g := (mkF m 3 #[.val (.ref a1)] [(.int (16 : Int32)), (.ref a1)])) rfl (by rw [hml]; rfl) (Steps.refl _) (a := a1) (argsL := [(.int (16 : Int32))]) (rest := []) (lenOf pd_1 rfl) rfl (by show 2 * 0 + _ ≤ _; exact Nat.le_of_eq rfl) (hb hby d6_3) (fun vm₁ hw₁ => ⟨rfl, e0, (by decide : 0 + 1 ≤ _), (by decide : 0 + 16 ≤ _)⟩)
  dsimp only [Pt.U, Pt.locs, Pt.cells, Pt.slots] at X1 l1 y1 z1 st1 hQ1
  subst l1 y1 z1
  obtain ⟨b3_1, k3_1, rfl, M1, K1c, r1_0, r1_1, r1_2, r1_3⟩ := hQ1
  have N1 := Fr.app N0 M1
  have g_b3_1 : n0 ≤ b3_1 := Nat.le_trans (own_n0 O0) r1_0
  have s_b3_1 : h0.size ≤ b3_1 := Nat.le_trans (Keep.refl h0 [a1]).1 r1_0
  have O1 : Old Z n0 T1.heap := O0.keep K1c (allS P5 all0)
  have K1 : Keep h0 T1.heap [a1] := (Keep.refl h0 [a1]).trans K1c (allS (Or.inl (List.mem_of_getElem? (i := 0) rfl)) all0)
  refine Go.tr st1 ?_
  show Go p e below _ (T1.setTop (mkF m 6 #[.val (.ref a1)] []))
  obtain ⟨fs, hr, hrun, hended, hWd, hsame⟩ := X1.leave (v := none) (fun _ => rfl)
  refine ⟨_, _, ?_, hrun, hended, _, _, rfl, ?_, ⟨⟨_, rfl⟩, hWd, hsame.mono (by decide) (by decide)⟩⟩
  · exact X1.returnOut hx Bd.returns (hb hby d6_6) hr
  · show Q_rm6_1 Z a1 p2 h0 n0 _ T1.heap _
    exact ⟨b3_1, k3_1, rfl, N1, K1, s_b3_1, r1_1, r1_2, r1_3⟩
def Q_rm1_1 (Z : State) (a1 : Addr) (q2 : Int64) (p3 : Int32) (p4 : Int32) (a5 : Addr) (h0 : Heap) (n0 : Nat) (v : Option Value) (h : Heap) (L : List Loc) : Prop := ∃ (b2 : Addr) (b2_1_3 : Addr) (b6 : Addr) (b3_1_7 : Addr) (k2_1_3 : ClassId) (k3_1_7 : ClassId), v = none ∧ Fr n0 L ∧ Keep h0 h [a1] ∧ h0.size ≤ b2 ∧ h0.size ≤ b2_1_3 ∧ h0.size ≤ b6 ∧ h0.size ≤ b3_1_7 ∧ b2 ≠ b2_1_3 ∧ b2 ≠ b6 ∧ b2 ≠ b3_1_7 ∧ b2_1_3 ≠ b6 ∧ b2_1_3 ≠ b3_1_7 ∧ b6 ≠ b3_1_7 ∧ Fld Z h a1 "com/example/outbound_courier/outboundcourier/http/BodyReader" "kept" "Ljava/io/ByteArrayOutputStream;" (.ref b2) ∧ Fld Z h a1 "com/example/outbound_courier/outboundcourier/http/BodyReader" "line" "Ljava/lang/StringBuilder;" (.ref b6) ∧ Fld Z h a1 "com/example/outbound_courier/outboundcourier/http/BodyReader" "maxBytes" "I" (.int p3) ∧ Fld Z h a1 "com/example/outbound_courier/outboundcourier/http/BodyReader" "chunked" "Z" (.int (1 : Int32)) ∧ Fld Z h a1 "com/example/outbound_courier/outboundcourier/http/BodyReader" "left" "J" (.long (0 : Int64)) ∧ Fld Z h a1 "com/example/outbound_courier/outboundcourier/http/BodyReader" "state" "Lcom/example/outbound_courier/outboundcourier/http/BodyReader$State;" (.ref a5) ∧ Fld Z h a1 "com/example/outbound_courier/outboundcourier/http/BodyReader" "tooLarge" "Z" (.int (0 : Int32)) ∧ Exa Z h b2 "java/io/ByteArrayOutputStream" ∧ Unt h b2 ∧ Fld Z h b2 "java/io/ByteArrayOutputStream" "buf" "[B" (.ref b2_1_3) ∧ Fld Z h b2 "java/io/ByteArrayOutputStream" "count" "I" (.int (0 : Int32)) ∧ Exa Z h b6 "java/lang/StringBuilder" ∧ Fld Z h b6 "java/lang/AbstractStringBuilder" "value" "[B" (.ref b3_1_7) ∧ Fld Z h b6 "java/lang/AbstractStringBuilder" "coder" "B" (.int (0 : Int32)) ∧ Arv Z h b2_1_3 k2_1_3 .byte (32 : Int32) [(.int (0 : Int32)), (.int (0 : Int32)), (.int (0 : Int32)), (.int (0 : Int32)), (.int (0 : Int32)), (.int (0 : Int32)), (.int (0 : Int32)), (.int (0 : Int32)), (.int (0 : Int32)), (.int (0 : Int32)), (.int (0 : Int32)), (.int (0 : Int32)), (.int (0 : Int32)), (.int (0 : Int32)), (.int (0 : Int32)), (.int (0 : Int32)), (.int (0 : Int32)), (.int (0 : Int32)), (.int (0 : Int32)), (.int (0 : Int32)), (.int (0 : Int32)), (.int (0 : Int32)), (.int (0 : Int32)), (.int (0 : Int32)), (.int (0 : Int32)), (.int (0 : Int32)), (.int (0 : Int32)), (.int (0 : Int32)), (.int (0 : Int32)), (.int (0 : Int32)), (.int (0 : Int32)), (.int (0 : Int32))] (.int (0 : Int32)) ∧ Arv Z h b3_1_7 k3_1_7 .byte (16 : Int32) [(.int (0 : Int32)), (.int (0 : Int32)), (.int (0 : Int32)), (.int (0 : Int32)), (.int (0 : Int32)), (.int (0 : Int32)), (.int (0 : Int32)), (.int (0 : Int32)), (.int (0 : Int32)), (.int (0 : Int32)), (.int (0 : Int32)), (.int (0 : Int32)), (.int (0 : Int32)), (.int (0 : Int32)), (.int (0 : Int32)), (.int (0 : Int32))] (.int (0 : Int32))
set_option maxRecDepth 65536 in
set_option maxHeartbeats 40000000 in
theorem rm1_1 (l : Launch) (Z : State) (a0 : Array Value) (hw : ∀ d ∈ tables_1, d.before a0 Z = true) (ws : List Jvm.Cond) (a1 : Addr) (q2 : Int64) (p3 : Int32) (p4 : Int32) (a5 : Addr) (h0 : Heap) (n0 : Nat) (O0 : Old Z n0 h0) (P1 : Exa Z h0 a1 "com/example/outbound_courier/outboundcourier/http/BodyReader") (P2 : Fld Z h0 a1 "com/example/outbound_courier/outboundcourier/http/BodyReader" "kept" "Ljava/io/ByteArrayOutputStream;" .null) (P3 : n0 ≤ a1) (P4 : Sta Z Z.heap "java/lang/String" "COMPACT_STRINGS" "Z" (.int p4)) (P5 : ¬ (p4 = (0 : Int32))) (P6 : Fld Z h0 a1 "com/example/outbound_courier/outboundcourier/http/BodyReader" "line" "Ljava/lang/StringBuilder;" .null) (P7 : Fld Z h0 a1 "com/example/outbound_courier/outboundcourier/http/BodyReader" "maxBytes" "I" (.int (0 : Int32))) (P8 : q2 = (-1 : Int64)) (P9 : Fld Z h0 a1 "com/example/outbound_courier/outboundcourier/http/BodyReader" "chunked" "Z" (.int (0 : Int32))) (P10 : Fld Z h0 a1 "com/example/outbound_courier/outboundcourier/http/BodyReader" "left" "J" (.long (0 : Int64))) (P11 : Sta Z Z.heap "com/example/outbound_courier/outboundcourier/http/BodyReader$State" "SIZE_LINE" "Lcom/example/outbound_courier/outboundcourier/http/BodyReader$State;" (.ref a5)) (P12 : Fld Z h0 a1 "com/example/outbound_courier/outboundcourier/http/BodyReader" "state" "Lcom/example/outbound_courier/outboundcourier/http/BodyReader$State;" .null) (P13 : Fld Z h0 a1 "com/example/outbound_courier/outboundcourier/http/BodyReader" "tooLarge" "Z" (.int (0 : Int32))) :
    MetFree l (⟨"com/example/outbound_courier/outboundcourier/http/BodyReader", "<init>", "(JI)V"⟩ : MethodName) (head1 (Jvm.Cond.code (⟨"com/example/outbound_courier/outboundcourier/http/BodyReader", "<init>", "(JI)V"⟩ : MethodName) prog_4_method_1_code 4 none :: ws) ({ frames := 4, cells := 4, slots := 54, locals := 51 } : Room)) (fun a U => a = #[(.ref a1), (.long q2), (.int p3)] ∧ Z.Warmed39 U.vm ∧ U.heap = h0) (fun _ _ _ _ _ => True) (fun _ U o U' => ∃ v L, o = .returned v ∧ Q_rm1_1 Z a1 q2 p3 p4 a5 h0 n0 v U'.heap L ∧ FrameEnd U o U' L ({ frames := 4, cells := 4, slots := 54, locals := 51 } : Room).cells ({ frames := 4, cells := 4, slots := 54, locals := 51 } : Room).slots) := by
  refine MetFree.of_bodySF (plainFor_of_name pn_4) hisR ?_
  intro p e s m args below meth c s₁ Bd hml0 hP hK
  obtain ⟨rfl, hZ, hh⟩ := hP
  have hx := Bd.exec
  have hby := Bd.bytes
  have hml : c.maxLocals = 4 := hml0
  have hown : s.vm.findClass "com/example/outbound_courier/outboundcourier/http/BodyReader" = some m.cls := findClass_of_methodNamed Bd.named
  have hnm := (name_of_methodNamed Bd.named Bd.method).1
  have X0 : Stand p l e ({ frames := 4, cells := 4, slots := 54, locals := 51 } : Room) s m #[(.ref a1), (.long q2), (.int p3)] below meth c s₁ [] 0 0 := Stand.of_body Bd
  have e0 : s₁.heap = h0 := by rw [← hh, Bd.state]; rfl
  have N0 := Fr.nil n0
  refine Go.start (P := (fun o U' => ∃ v L, o = .returned v ∧ Q_rm1_1 Z a1 q2 p3 p4 a5 h0 n0 v U'.heap L ∧ FrameEnd s o U' L ({ frames := 4, cells := 4, slots := 54, locals := 51 } : Room).cells ({ frames := 4, cells := 4, slots := 54, locals := 51 } : Room).slots)) (castTop (g' := (mkF m 0 #[.val (.ref a1), .val (.long q2), .second, .val (.int p3)] [])) (by first | rfl | simp [entryFrame, mkF, argsToLocals, Value.category]) (T := s₁)) ?_
  refine Go.st (fun t k => XS.aloadN X0.here hx rfl (hb hby d1_0) rfl rfl k) ?_
  show Go p e below _ (s₁.setTop (mkF m 1 #[.val (.ref a1), .val (.long q2), .second, .val (.int p3)] [(.ref a1)]))
  obtain ⟨T1, X1, e1, st1⟩ := initO X0 hx hZ hown (w6 hw) (w7 hw) (w8 hw) e0 (g := (mkF m 1 #[.val (.ref a1), .val (.long q2), .second, .val (.int p3)] [(.ref a1)])) rfl (by rw [hml]; rfl) rfl (hb hby d1_1) (by decide) (W := 0) (by show 2 * 0 + _ ≤ _; exact Nat.le_of_eq rfl) (by decide)
  refine Go.st st1 ?_
  show Go p e below _ (T1.setTop (mkF m 4 #[.val (.ref a1), .val (.long q2), .second, .val (.int p3)] []))
  refine Go.st (fun t k => XS.aloadN X1.here hx rfl (hb hby d1_4) rfl rfl k) ?_
  show Go p e below _ (T1.setTop (mkF m 5 #[.val (.ref a1), .val (.long q2), .second, .val (.int p3)] [(.ref a1)]))
  obtain ⟨T2, h2, X2, e2, E2, A2, D2, U2, st2⟩ := newO X1 hx hZ hown (w9 hw) (w10 hw) (w11 hw) e1 (g := (mkF m 5 #[.val (.ref a1), .val (.long q2), .second, .val (.int p3)] [(.ref a1)])) rfl (hb hby d1_5) (by decide) (by decide)
  obtain ⟨b2, z2⟩ : ∃ z, z = h0.size := ⟨_, rfl⟩
  rw [← z2] at A2 D2 U2 st2
  have g_b2 : n0 ≤ b2 := Nat.le_trans (own_n0 O0) (Nat.le_of_eq z2.symm)
  have s_b2 : h0.size ≤ b2 := Nat.le_trans (Keep.refl h0 [a1]).1 (Nat.le_of_eq z2.symm)
  have O2 : Old Z n0 h2 := O0.ext E2
  have K2 : Keep h0 h2 [a1] := (Keep.refl h0 [a1]).ext E2
  have f2_28 : Fld Z h2 b2 "java/io/ByteArrayOutputStream" "buf" "[B" .null := D2 (Or.inl (w28 hw)) (ty := (.array .byte)) (by decide)
  have f2_90 : Fld Z h2 b2 "java/io/ByteArrayOutputStream" "count" "I" (.int (0 : Int32)) := D2 (Or.inl (w90 hw)) (ty := .int) (by decide)
  refine Go.st st2 ?_
  show Go p e below _ (T2.setTop (mkF m 8 #[.val (.ref a1), .val (.long q2), .second, .val (.int p3)] [(.ref b2), (.ref a1)]))
  refine Go.st (fun t k => XS.dup X2.here hx rfl (hb hby d1_8) rfl rfl k) ?_
  show Go p e below _ (T2.setTop (mkF m 9 #[.val (.ref a1), .val (.long q2), .second, .val (.int p3)] [(.ref b2), (.ref b2), (.ref a1)]))
  obtain ⟨_, _, ⟨T3, L3, k3, n3⟩, -, X3, ⟨Lc3, hQ3, l3, y3, z3⟩, st3⟩ := X2.specialBack hx (y := (⟨"java/io/ByteArrayOutputStream", "<init>", "()V"⟩ : MethodName)) rfl hown (mvT hZ (w12 hw)) (mvT hZ (w13 hw)) (mvT hZ (w14 hw)) (by decide) (backOf (W := 2) (rm3_1 l Z a0 hw [] b2 h2 n0 O2 A2 f2_28 g_b2 U2 f2_90) hZ (w14 hw) (w11 hw) (by decide) (by decide)) (g := (mkF m 9 #[.val (.ref a1), .val (.long q2), .second, .val (.int p3)] [(.ref b2), (.ref b2), (.ref a1)])) rfl (by rw [hml]; rfl) (Steps.refl _) (a := b2) (argsL := []) (rest := [(.ref b2), (.ref a1)]) (lenOf pd_0 rfl) rfl (by show 2 * 0 + _ ≤ _; exact Nat.le_of_eq rfl) (hb hby d1_9) (fun vm₁ hw₁ => ⟨rfl, e2, (by decide : 1 + 1 ≤ _), (by decide : 2 + 32 ≤ _)⟩)
  dsimp only [Pt.U, Pt.locs, Pt.cells, Pt.slots] at X3 l3 y3 z3 st3 hQ3
  subst l3 y3 z3
  obtain ⟨b2_1_3, k2_1_3, rfl, M3, K3c, r3_0, r3_1, r3_2, r3_3, r3_4⟩ := hQ3
  have N3 := Fr.app N0 M3
  have g_b2_1_3 : n0 ≤ b2_1_3 := Nat.le_trans (own_n0 O2) r3_0
  have s_b2_1_3 : h0.size ≤ b2_1_3 := Nat.le_trans K2.1 r3_0
  have O3 : Old Z n0 T3.heap := O2.keep K3c (allS g_b2 all0)
  have K3 : Keep h0 T3.heap [a1] := K2.trans K3c (allS (Or.inr s_b2) all0)
  refine Go.tr st3 ?_
  show Go p e below _ (T3.setTop (mkF m 12 #[.val (.ref a1), .val (.long q2), .second, .val (.int p3)] [(.ref b2), (.ref a1)]))
  have c4 := ((P2.ext E2).keep K3c (ninS (Nat.ne_of_lt (Nat.lt_of_lt_of_le P1.lt (Nat.le_of_eq z2.symm))) nin0))
  obtain ⟨T5, h5, X5, e5, W5, st5⟩ := putF X3 hx hZ hown (host := "") (Or.inl (w29 hw)) Via.refl rfl c4 ((P1.ext E2).keep K3c) (Or.inr ⟨(w30 hw), rfl, hnm⟩) (w1 hw) (ty := (.object "java/io/ByteArrayOutputStream")) (by decide) rfl rfl (g := (mkF m 12 #[.val (.ref a1), .val (.long q2), .second, .val (.int p3)] [(.ref b2), (.ref a1)])) rfl rfl (hb hby d1_12)
  have F5 : Fld Z h5 a1 "com/example/outbound_courier/outboundcourier/http/BodyReader" "kept" "Ljava/io/ByteArrayOutputStream;" (.ref b2) := c4.same W5
  have N5 := Fr.snoc X5 N3 P3
  have O5 : Old Z n0 h5 := O3.wr W5 P3
  have K5 : Keep h0 h5 [a1] := K3.wr W5 (Or.inl (List.mem_of_getElem? (i := 0) rfl))
  refine Go.st st5 ?_
  show Go p e below _ (T5.setTop (mkF m 15 #[.val (.ref a1), .val (.long q2), .second, .val (.int p3)] []))
  refine Go.st (fun t k => XS.aloadN X5.here hx rfl (hb hby d1_15) rfl rfl k) ?_
  show Go p e below _ (T5.setTop (mkF m 16 #[.val (.ref a1), .val (.long q2), .second, .val (.int p3)] [(.ref a1)]))
  obtain ⟨T6, h6, X6, e6, E6, A6, D6, -, st6⟩ := newO X5 hx hZ hown (w31 hw) (w32 hw) (w33 hw) e5 (g := (mkF m 16 #[.val (.ref a1), .val (.long q2), .second, .val (.int p3)] [(.ref a1)])) rfl (hb hby d1_16) (by decide) (by decide)
  obtain ⟨b6, z6⟩ : ∃ z, z = h5.size := ⟨_, rfl⟩
  rw [← z6] at A6 D6 st6
  have g_b6 : n0 ≤ b6 := Nat.le_trans (own_n0 O5) (Nat.le_of_eq z6.symm)
  have s_b6 : h0.size ≤ b6 := Nat.le_trans K5.1 (Nat.le_of_eq z6.symm)
  have O6 : Old Z n0 h6 := O5.ext E6
  have K6 : Keep h0 h6 [a1] := K5.ext E6
  have f6_47 : Fld Z h6 b6 "java/lang/AbstractStringBuilder" "value" "[B" .null := D6 (Or.inl (w47 hw)) (ty := (.array .byte)) (by decide)
  have f6_49 : Fld Z h6 b6 "java/lang/AbstractStringBuilder" "coder" "B" (.int (0 : Int32)) := D6 (Or.inl (w49 hw)) (ty := .byte) (by decide)
  refine Go.st st6 ?_
  show Go p e below _ (T6.setTop (mkF m 19 #[.val (.ref a1), .val (.long q2), .second, .val (.int p3)] [(.ref b6), (.ref a1)]))
  refine Go.st (fun t k => XS.dup X6.here hx rfl (hb hby d1_19) rfl rfl k) ?_
  show Go p e below _ (T6.setTop (mkF m 20 #[.val (.ref a1), .val (.long q2), .second, .val (.int p3)] [(.ref b6), (.ref b6), (.ref a1)]))
  obtain ⟨_, _, ⟨T7, L7, k7, n7⟩, -, X7, ⟨Lc7, hQ7, l7, y7, z7⟩, st7⟩ := X6.specialBack hx (y := (⟨"java/lang/StringBuilder", "<init>", "()V"⟩ : MethodName)) rfl hown (mvT hZ (w34 hw)) (mvT hZ (w35 hw)) (mvT hZ (w36 hw)) (by decide) (backOf (W := 2) (rm6_1 l Z a0 hw [] b6 p4 h6 n0 O6 P4 P5 A6 f6_47 g_b6 f6_49) hZ (w36 hw) (w33 hw) (by decide) (by decide)) (g := (mkF m 20 #[.val (.ref a1), .val (.long q2), .second, .val (.int p3)] [(.ref b6), (.ref b6), (.ref a1)])) rfl (by rw [hml]; rfl) (Steps.refl _) (a := b6) (argsL := []) (rest := [(.ref b6), (.ref a1)]) (lenOf pd_0 rfl) rfl (by show 2 * 0 + _ ≤ _; exact Nat.le_of_eq rfl) (hb hby d1_20) (fun vm₁ hw₁ => ⟨rfl, e6, (by decide : 3 + 1 ≤ _), (by decide : 38 + 16 ≤ _)⟩)
  dsimp only [Pt.U, Pt.locs, Pt.cells, Pt.slots] at X7 l7 y7 z7 st7 hQ7
  subst l7 y7 z7
  obtain ⟨b3_1_7, k3_1_7, rfl, M7, K7c, r7_0, r7_1, r7_2, r7_3⟩ := hQ7
  have N7 := Fr.app N5 M7
  have g_b3_1_7 : n0 ≤ b3_1_7 := Nat.le_trans (own_n0 O6) r7_0
  have s_b3_1_7 : h0.size ≤ b3_1_7 := Nat.le_trans K6.1 r7_0
  have O7 : Old Z n0 T7.heap := O6.keep K7c (allS g_b6 all0)
  have K7 : Keep h0 T7.heap [a1] := K6.trans K7c (allS (Or.inr s_b6) all0)
  refine Go.tr st7 ?_
  show Go p e below _ (T7.setTop (mkF m 23 #[.val (.ref a1), .val (.long q2), .second, .val (.int p3)] [(.ref b6), (.ref a1)]))
  have c8 := (((((P1.ext E2).keep K3c).wr W5).ext E6).keep K7c)
  have c9 := (((((P6.ext E2).keep K3c (ninS (Nat.ne_of_lt (Nat.lt_of_lt_of_le P1.lt (Nat.le_of_eq z2.symm))) nin0)).other W5 (Or.inr (slot_ne (Or.inr (w51 hw)) (Or.inr (w30 hw)) (by decide) (t := (.object "java/lang/StringBuilder")) (t' := (.object "java/io/ByteArrayOutputStream")) (by decide) (by decide)))).ext E6).keep K7c (ninS (Nat.ne_of_lt (Nat.lt_of_lt_of_le (Nat.lt_of_lt_of_le (Nat.lt_of_lt_of_le (Nat.lt_of_lt_of_le P1.lt E2.1) K3c.1) (Nat.le_of_eq W5.size.symm)) (Nat.le_of_eq z6.symm))) nin0))
  obtain ⟨T10, h10, X10, e10, W10, st10⟩ := putF X7 hx hZ hown (host := "") (Or.inl (w50 hw)) Via.refl rfl c9 c8 (Or.inr ⟨(w51 hw), rfl, hnm⟩) (w1 hw) (ty := (.object "java/lang/StringBuilder")) (by decide) rfl rfl (g := (mkF m 23 #[.val (.ref a1), .val (.long q2), .second, .val (.int p3)] [(.ref b6), (.ref a1)])) rfl rfl (hb hby d1_23)
  have F10 : Fld Z h10 a1 "com/example/outbound_courier/outboundcourier/http/BodyReader" "line" "Ljava/lang/StringBuilder;" (.ref b6) := c9.same W10
  have N10 := Fr.snoc X10 N7 P3
  have O10 : Old Z n0 h10 := O7.wr W10 P3
  have K10 : Keep h0 h10 [a1] := K7.wr W10 (Or.inl (List.mem_of_getElem? (i := 0) rfl))
  refine Go.st st10 ?_
  show Go p e below _ (T10.setTop (mkF m 26 #[.val (.ref a1), .val (.long q2), .second, .val (.int p3)] []))
  refine Go.st (fun t k => XS.aloadN X10.here hx rfl (hb hby d1_26) rfl rfl k) ?_
  show Go p e below _ (T10.setTop (mkF m 27 #[.val (.ref a1), .val (.long q2), .second, .val (.int p3)] [(.ref a1)]))
  refine Go.st (fun t k => XS.iloadN X10.here hx rfl (hb hby d1_27) rfl k) ?_
  show Go p e below _ (T10.setTop (mkF m 28 #[.val (.ref a1), .val (.long q2), .second, .val (.int p3)] [(.int p3), (.ref a1)]))
  have c11 := ((((((P7.ext E2).keep K3c (ninS (Nat.ne_of_lt (Nat.lt_of_lt_of_le P1.lt (Nat.le_of_eq z2.symm))) nin0)).other W5 (Or.inr (slot_ne (Or.inr (w53 hw)) (Or.inr (w30 hw)) (by decide) (t := .int) (t' := (.object "java/io/ByteArrayOutputStream")) (by decide) (by decide)))).ext E6).keep K7c (ninS (Nat.ne_of_lt (Nat.lt_of_lt_of_le (Nat.lt_of_lt_of_le (Nat.lt_of_lt_of_le (Nat.lt_of_lt_of_le P1.lt E2.1) K3c.1) (Nat.le_of_eq W5.size.symm)) (Nat.le_of_eq z6.symm))) nin0)).other W10 (Or.inr (slot_ne (Or.inr (w53 hw)) (Or.inr (w51 hw)) (by decide) (t := .int) (t' := (.object "java/lang/StringBuilder")) (by decide) (by decide))))
  obtain ⟨T12, h12, X12, e12, W12, st12⟩ := putF X10 hx hZ hown (host := "") (Or.inl (w52 hw)) Via.refl e10 c11 (c8.wr W10) (Or.inr ⟨(w53 hw), rfl, hnm⟩) (w1 hw) (ty := .int) (by decide) rfl rfl (g := (mkF m 28 #[.val (.ref a1), .val (.long q2), .second, .val (.int p3)] [(.int p3), (.ref a1)])) rfl rfl (hb hby d1_28)
  have F12 : Fld Z h12 a1 "com/example/outbound_courier/outboundcourier/http/BodyReader" "maxBytes" "I" (.int p3) := c11.same W12
  have N12 := Fr.snoc X12 N10 P3
  have O12 : Old Z n0 h12 := O10.wr W12 P3
  have K12 : Keep h0 h12 [a1] := K10.wr W12 (Or.inl (List.mem_of_getElem? (i := 0) rfl))
  refine Go.st st12 ?_
  show Go p e below _ (T12.setTop (mkF m 31 #[.val (.ref a1), .val (.long q2), .second, .val (.int p3)] []))
  refine Go.st (fun t k => XS.aloadN X12.here hx rfl (hb hby d1_31) rfl rfl k) ?_
  show Go p e below _ (T12.setTop (mkF m 32 #[.val (.ref a1), .val (.long q2), .second, .val (.int p3)] [(.ref a1)]))
  refine Go.st (fun t k => XS.lloadN X12.here hx rfl (hb hby d1_32) rfl k) ?_
  show Go p e below _ (T12.setTop (mkF m 33 #[.val (.ref a1), .val (.long q2), .second, .val (.int p3)] [(.long q2), (.ref a1)]))
  refine Go.st (fun t k => X12.ldc2J hx hown (mvT hZ (w54 hw)) (g := (mkF m 33 #[.val (.ref a1), .val (.long q2), .second, .val (.int p3)] [(.long q2), (.ref a1)])) rfl (hb hby d1_33) k) ?_
  show Go p e below _ (T12.setTop (mkF m 36 #[.val (.ref a1), .val (.long q2), .second, .val (.int p3)] [(.long (-1 : Int64)), (.long q2), (.ref a1)]))
  refine Go.st (fun t k => Jvm.Free.XT.lcmp X12.here hx rfl (hb hby d1_36) rfl k) ?_
  show Go p e below _ (T12.setTop (mkF m 37 #[.val (.ref a1), .val (.long q2), .second, .val (.int p3)] [(.int (Jvm.Free.XT.cmpL q2 (-1 : Int64))), (.ref a1)]))
  refine Go.st (fun t k => XS.ifNo X12.here hx rfl (hb hby d1_37) rfl (Jvm.Free.XT.ll_ne_f P8) k) ?_
  show Go p e below _ (T12.setTop (mkF m 40 #[.val (.ref a1), .val (.long q2), .second, .val (.int p3)] [(.ref a1)]))
  refine Go.st (fun t k => XS.iconst X12.here hx rfl (hb hby d1_40) k) ?_
  show Go p e below _ (T12.setTop (mkF m 41 #[.val (.ref a1), .val (.long q2), .second, .val (.int p3)] [(.int (1 : Int32)), (.ref a1)]))
  refine Go.st (fun t k => XS.goto X12.here hx rfl (pc0 := 41) (pc' := 45) rfl (hb hby d1_41) (by decide) (by decide) k) ?_
  show Go p e below _ (T12.setTop (mkF m 45 #[.val (.ref a1), .val (.long q2), .second, .val (.int p3)] [(.int (1 : Int32)), (.ref a1)]))
  have c13 := (((((((P9.ext E2).keep K3c (ninS (Nat.ne_of_lt (Nat.lt_of_lt_of_le P1.lt (Nat.le_of_eq z2.symm))) nin0)).other W5 (Or.inr (slot_ne (Or.inr (w56 hw)) (Or.inr (w30 hw)) (by decide) (t := .boolean) (t' := (.object "java/io/ByteArrayOutputStream")) (by decide) (by decide)))).ext E6).keep K7c (ninS (Nat.ne_of_lt (Nat.lt_of_lt_of_le (Nat.lt_of_lt_of_le (Nat.lt_of_lt_of_le (Nat.lt_of_lt_of_le P1.lt E2.1) K3c.1) (Nat.le_of_eq W5.size.symm)) (Nat.le_of_eq z6.symm))) nin0)).other W10 (Or.inr (slot_ne (Or.inr (w56 hw)) (Or.inr (w51 hw)) (by decide) (t := .boolean) (t' := (.object "java/lang/StringBuilder")) (by decide) (by decide)))).other W12 (Or.inr (slot_ne (Or.inr (w56 hw)) (Or.inr (w53 hw)) (by decide) (t := .boolean) (t' := .int) (by decide) (by decide))))
  obtain ⟨T14, h14, X14, e14, W14, st14⟩ := putFN X12 hx hZ hown (w55 hw) Via.refl e12 c13 ((c8.wr W10).wr W12) (Or.inr ⟨(w56 hw), rfl, hnm⟩) (w1 hw) (ty := .boolean) (v' := (.int (1 : Int32))) (by decide) rfl (by decide) (g := (mkF m 45 #[.val (.ref a1), .val (.long q2), .second, .val (.int p3)] [(.int (1 : Int32)), (.ref a1)])) rfl rfl (hb hby d1_45)
  have F14 : Fld Z h14 a1 "com/example/outbound_courier/outboundcourier/http/BodyReader" "chunked" "Z" (.int (1 : Int32)) := c13.same W14
  have N14 := Fr.snoc X14 N12 P3
  have O14 : Old Z n0 h14 := O12.wr W14 P3
  have K14 : Keep h0 h14 [a1] := K12.wr W14 (Or.inl (List.mem_of_getElem? (i := 0) rfl))
  refine Go.st st14 ?_
  show Go p e below _ (T14.setTop (mkF m 48 #[.val (.ref a1), .val (.long q2), .second, .val (.int p3)] []))
  refine Go.st (fun t k => XS.aloadN X14.here hx rfl (hb hby d1_48) rfl rfl k) ?_
  show Go p e below _ (T14.setTop (mkF m 49 #[.val (.ref a1), .val (.long q2), .second, .val (.int p3)] [(.ref a1)]))
  refine Go.st (fun t k => XS.aloadN X14.here hx rfl (hb hby d1_49) rfl rfl k) ?_
  show Go p e below _ (T14.setTop (mkF m 50 #[.val (.ref a1), .val (.long q2), .second, .val (.int p3)] [(.ref a1), (.ref a1)]))
  obtain ⟨T15, X15, e15, st15⟩ := getF X14 hx hZ hown (host := "") (Or.inl (w55 hw)) Via.refl e14 F14 (g := (mkF m 50 #[.val (.ref a1), .val (.long q2), .second, .val (.int p3)] [(.ref a1), (.ref a1)])) rfl rfl (hb hby d1_50)
  refine Go.st st15 ?_
  show Go p e below _ (T15.setTop (mkF m 53 #[.val (.ref a1), .val (.long q2), .second, .val (.int p3)] [(.int (1 : Int32)), (.ref a1)]))
  refine Go.st (fun t k => XS.ifNo X15.here hx rfl (hb hby d1_53) rfl (Jvm.Free.XT.i0_eq_f (by decide : ¬ ((1 : Int32) = (0 : Int32)))) k) ?_
  show Go p e below _ (T15.setTop (mkF m 56 #[.val (.ref a1), .val (.long q2), .second, .val (.int p3)] [(.ref a1)]))
  refine Go.st (fun t k => XS.lconst X15.here hx rfl (hb hby d1_56) k) ?_
  show Go p e below _ (T15.setTop (mkF m 57 #[.val (.ref a1), .val (.long q2), .second, .val (.int p3)] [(.long (0 : Int64)), (.ref a1)]))
  refine Go.st (fun t k => XS.goto X15.here hx rfl (pc0 := 57) (pc' := 61) rfl (hb hby d1_57) (by decide) (by decide) k) ?_
  show Go p e below _ (T15.setTop (mkF m 61 #[.val (.ref a1), .val (.long q2), .second, .val (.int p3)] [(.long (0 : Int64)), (.ref a1)]))
  have c16 := ((((((((P10.ext E2).keep K3c (ninS (Nat.ne_of_lt (Nat.lt_of_lt_of_le P1.lt (Nat.le_of_eq z2.symm))) nin0)).other W5 (Or.inr (slot_ne (Or.inl (w58 hw)) (Or.inr (w30 hw)) (by decide) (t := .long) (t' := (.object "java/io/ByteArrayOutputStream")) (by decide) (by decide)))).ext E6).keep K7c (ninS (Nat.ne_of_lt (Nat.lt_of_lt_of_le (Nat.lt_of_lt_of_le (Nat.lt_of_lt_of_le (Nat.lt_of_lt_of_le P1.lt E2.1) K3c.1) (Nat.le_of_eq W5.size.symm)) (Nat.le_of_eq z6.symm))) nin0)).other W10 (Or.inr (slot_ne (Or.inl (w58 hw)) (Or.inr (w51 hw)) (by decide) (t := .long) (t' := (.object "java/lang/StringBuilder")) (by decide) (by decide)))).other W12 (Or.inr (slot_ne (Or.inl (w58 hw)) (Or.inr (w53 hw)) (by decide) (t := .long) (t' := .int) (by decide) (by decide)))).other W14 (Or.inr (slot_ne (Or.inl (w58 hw)) (Or.inr (w56 hw)) (by decide) (t := .long) (t' := .boolean) (by decide) (by decide))))
  obtain ⟨T17, h17, X17, e17, W17, st17⟩ := putF X15 hx hZ hown (host := "") (Or.inl (w57 hw)) Via.refl e15 c16 (((c8.wr W10).wr W12).wr W14) (Or.inl (w58 hw)) (w1 hw) (ty := .long) (by decide) rfl rfl (g := (mkF m 61 #[.val (.ref a1), .val (.long q2), .second, .val (.int p3)] [(.long (0 : Int64)), (.ref a1)])) rfl rfl (hb hby d1_61)
  have F17 : Fld Z h17 a1 "com/example/outbound_courier/outboundcourier/http/BodyReader" "left" "J" (.long (0 : Int64)) := c16.same W17
  have N17 := Fr.snoc X17 N14 P3
  have O17 : Old Z n0 h17 := O14.wr W17 P3
  have K17 : Keep h0 h17 [a1] := K14.wr W17 (Or.inl (List.mem_of_getElem? (i := 0) rfl))
  refine Go.st st17 ?_
  show Go p e below _ (T17.setTop (mkF m 64 #[.val (.ref a1), .val (.long q2), .second, .val (.int p3)] []))
  refine Go.st (fun t k => XS.aloadN X17.here hx rfl (hb hby d1_64) rfl rfl k) ?_
  show Go p e below _ (T17.setTop (mkF m 65 #[.val (.ref a1), .val (.long q2), .second, .val (.int p3)] [(.ref a1)]))
  refine Go.st (fun t k => XS.aloadN X17.here hx rfl (hb hby d1_65) rfl rfl k) ?_
  show Go p e below _ (T17.setTop (mkF m 66 #[.val (.ref a1), .val (.long q2), .second, .val (.int p3)] [(.ref a1), (.ref a1)]))
  have c18 := (F14.other W17 (Or.inr (slot_ne (Or.inr (w56 hw)) (Or.inl (w58 hw)) (by decide) (t := .boolean) (t' := .long) (by decide) (by decide))))
  obtain ⟨T19, X19, e19, st19⟩ := getF X17 hx hZ hown (host := "") (Or.inl (w55 hw)) Via.refl e17 c18 (g := (mkF m 66 #[.val (.ref a1), .val (.long q2), .second, .val (.int p3)] [(.ref a1), (.ref a1)])) rfl rfl (hb hby d1_66)
  refine Go.st st19 ?_
  show Go p e below _ (T19.setTop (mkF m 69 #[.val (.ref a1), .val (.long q2), .second, .val (.int p3)] [(.int (1 : Int32)), (.ref a1)]))
  refine Go.st (fun t k => XS.ifNo X19.here hx rfl (hb hby d1_69) rfl (Jvm.Free.XT.i0_eq_f (by decide : ¬ ((1 : Int32) = (0 : Int32)))) k) ?_
  show Go p e below _ (T19.setTop (mkF m 72 #[.val (.ref a1), .val (.long q2), .second, .val (.int p3)] [(.ref a1)]))
  obtain ⟨T20, X20, e20, st20⟩ := getS2 X19 hx hZ hown (host := "") (Or.inl (w103 hw)) Via.refl e19 (P11.ext O17.2) (g := (mkF m 72 #[.val (.ref a1), .val (.long q2), .second, .val (.int p3)] [(.ref a1)])) rfl (hb hby d1_72)
  refine Go.st st20 ?_
  show Go p e below _ (T20.setTop (mkF m 75 #[.val (.ref a1), .val (.long q2), .second, .val (.int p3)] [(.ref a5), (.ref a1)]))
  refine Go.st (fun t k => XS.goto X20.here hx rfl (pc0 := 75) (pc' := 81) rfl (hb hby d1_75) (by decide) (by decide) k) ?_
  show Go p e below _ (T20.setTop (mkF m 81 #[.val (.ref a1), .val (.long q2), .second, .val (.int p3)] [(.ref a5), (.ref a1)]))
  have c21 := (((((((((P12.ext E2).keep K3c (ninS (Nat.ne_of_lt (Nat.lt_of_lt_of_le P1.lt (Nat.le_of_eq z2.symm))) nin0)).other W5 (Or.inr (slot_ne (Or.inl (w63 hw)) (Or.inr (w30 hw)) (by decide) (t := (.object "com/example/outbound_courier/outboundcourier/http/BodyReader$State")) (t' := (.object "java/io/ByteArrayOutputStream")) (by decide) (by decide)))).ext E6).keep K7c (ninS (Nat.ne_of_lt (Nat.lt_of_lt_of_le (Nat.lt_of_lt_of_le (Nat.lt_of_lt_of_le (Nat.lt_of_lt_of_le P1.lt E2.1) K3c.1) (Nat.le_of_eq W5.size.symm)) (Nat.le_of_eq z6.symm))) nin0)).other W10 (Or.inr (slot_ne (Or.inl (w63 hw)) (Or.inr (w51 hw)) (by decide) (t := (.object "com/example/outbound_courier/outboundcourier/http/BodyReader$State")) (t' := (.object "java/lang/StringBuilder")) (by decide) (by decide)))).other W12 (Or.inr (slot_ne (Or.inl (w63 hw)) (Or.inr (w53 hw)) (by decide) (t := (.object "com/example/outbound_courier/outboundcourier/http/BodyReader$State")) (t' := .int) (by decide) (by decide)))).other W14 (Or.inr (slot_ne (Or.inl (w63 hw)) (Or.inr (w56 hw)) (by decide) (t := (.object "com/example/outbound_courier/outboundcourier/http/BodyReader$State")) (t' := .boolean) (by decide) (by decide)))).other W17 (Or.inr (slot_ne (Or.inl (w63 hw)) (Or.inl (w58 hw)) (by decide) (t := (.object "com/example/outbound_courier/outboundcourier/http/BodyReader$State")) (t' := .long) (by decide) (by decide))))
  obtain ⟨T22, h22, X22, e22, W22, st22⟩ := putF X20 hx hZ hown (host := "") (Or.inl (w62 hw)) Via.refl e20 c21 ((((c8.wr W10).wr W12).wr W14).wr W17) (Or.inl (w63 hw)) (w1 hw) (ty := (.object "com/example/outbound_courier/outboundcourier/http/BodyReader$State")) (by decide) rfl rfl (g := (mkF m 81 #[.val (.ref a1), .val (.long q2), .second, .val (.int p3)] [(.ref a5), (.ref a1)])) rfl rfl (hb hby d1_81)
  have F22 : Fld Z h22 a1 "com/example/outbound_courier/outboundcourier/http/BodyReader" "state" "Lcom/example/outbound_courier/outboundcourier/http/BodyReader$State;" (.ref a5) := c21.same W22
  have N22 := Fr.snoc X22 N17 P3
  have O22 : Old Z n0 h22 := O17.wr W22 P3
  have K22 : Keep h0 h22 [a1] := K17.wr W22 (Or.inl (List.mem_of_getElem? (i := 0) rfl))
  refine Go.st st22 ?_
  show Go p e below _ (T22.setTop (mkF m 84 #[.val (.ref a1), .val (.long q2), .second, .val (.int p3)] []))
  refine Go.st (fun t k => XS.aloadN X22.here hx rfl (hb hby d1_84) rfl rfl k) ?_
  show Go p e below _ (T22.setTop (mkF m 85 #[.val (.ref a1), .val (.long q2), .second, .val (.int p3)] [(.ref a1)]))
  have c23 := (c18.other W22 (Or.inr (slot_ne (Or.inr (w56 hw)) (Or.inl (w63 hw)) (by decide) (t := .boolean) (t' := (.object "com/example/outbound_courier/outboundcourier/http/BodyReader$State")) (by decide) (by decide))))
  obtain ⟨T24, X24, e24, st24⟩ := getF X22 hx hZ hown (host := "") (Or.inl (w55 hw)) Via.refl e22 c23 (g := (mkF m 85 #[.val (.ref a1), .val (.long q2), .second, .val (.int p3)] [(.ref a1)])) rfl rfl (hb hby d1_85)
  refine Go.st st24 ?_
  show Go p e below _ (T24.setTop (mkF m 88 #[.val (.ref a1), .val (.long q2), .second, .val (.int p3)] [(.int (1 : Int32))]))
  refine Go.st (fun t k => XS.ifYes X24.here hx rfl (pc0 := 88) (pc' := 103) rfl (hb hby d1_88) rfl (Jvm.Free.XT.i0_ne_t (by decide : ¬ ((1 : Int32) = (0 : Int32)))) (by decide) (by decide) k) ?_
  show Go p e below _ (T24.setTop (mkF m 103 #[.val (.ref a1), .val (.long q2), .second, .val (.int p3)] []))
  refine Go.st (fun t k => XS.aloadN X24.here hx rfl (hb hby d1_103) rfl rfl k) ?_
  show Go p e below _ (T24.setTop (mkF m 104 #[.val (.ref a1), .val (.long q2), .second, .val (.int p3)] [(.ref a1)]))
  obtain ⟨T25, X25, e25, st25⟩ := getF X24 hx hZ hown (host := "") (Or.inl (w55 hw)) Via.refl e24 c23 (g := (mkF m 104 #[.val (.ref a1), .val (.long q2), .second, .val (.int p3)] [(.ref a1)])) rfl rfl (hb hby d1_104)
  refine Go.st st25 ?_
  show Go p e below _ (T25.setTop (mkF m 107 #[.val (.ref a1), .val (.long q2), .second, .val (.int p3)] [(.int (1 : Int32))]))
  refine Go.st (fun t k => XS.ifYes X25.here hx rfl (pc0 := 107) (pc' := 123) rfl (hb hby d1_107) rfl (Jvm.Free.XT.i0_ne_t (by decide : ¬ ((1 : Int32) = (0 : Int32)))) (by decide) (by decide) k) ?_
  show Go p e below _ (T25.setTop (mkF m 123 #[.val (.ref a1), .val (.long q2), .second, .val (.int p3)] []))
  obtain ⟨fs, hr, hrun, hended, hWd, hsame⟩ := X25.leave (v := none) (fun _ => rfl)
  have c26 := (((((((F5.ext E6).keep K7c (ninS (Nat.ne_of_lt (Nat.lt_of_lt_of_le (Nat.lt_of_lt_of_le (Nat.lt_of_lt_of_le (Nat.lt_of_lt_of_le P1.lt E2.1) K3c.1) (Nat.le_of_eq W5.size.symm)) (Nat.le_of_eq z6.symm))) nin0)).other W10 (Or.inr (slot_ne (Or.inr (w30 hw)) (Or.inr (w51 hw)) (by decide) (t := (.object "java/io/ByteArrayOutputStream")) (t' := (.object "java/lang/StringBuilder")) (by decide) (by decide)))).other W12 (Or.inr (slot_ne (Or.inr (w30 hw)) (Or.inr (w53 hw)) (by decide) (t := (.object "java/io/ByteArrayOutputStream")) (t' := .int) (by decide) (by decide)))).other W14 (Or.inr (slot_ne (Or.inr (w30 hw)) (Or.inr (w56 hw)) (by decide) (t := (.object "java/io/ByteArrayOutputStream")) (t' := .boolean) (by decide) (by decide)))).other W17 (Or.inr (slot_ne (Or.inr (w30 hw)) (Or.inl (w58 hw)) (by decide) (t := (.object "java/io/ByteArrayOutputStream")) (t' := .long) (by decide) (by decide)))).other W22 (Or.inr (slot_ne (Or.inr (w30 hw)) (Or.inl (w63 hw)) (by decide) (t := (.object "java/io/ByteArrayOutputStream")) (t' := (.object "com/example/outbound_courier/outboundcourier/http/BodyReader$State")) (by decide) (by decide))))
  have c27 := ((((F10.other W12 (Or.inr (slot_ne (Or.inr (w51 hw)) (Or.inr (w53 hw)) (by decide) (t := (.object "java/lang/StringBuilder")) (t' := .int) (by decide) (by decide)))).other W14 (Or.inr (slot_ne (Or.inr (w51 hw)) (Or.inr (w56 hw)) (by decide) (t := (.object "java/lang/StringBuilder")) (t' := .boolean) (by decide) (by decide)))).other W17 (Or.inr (slot_ne (Or.inr (w51 hw)) (Or.inl (w58 hw)) (by decide) (t := (.object "java/lang/StringBuilder")) (t' := .long) (by decide) (by decide)))).other W22 (Or.inr (slot_ne (Or.inr (w51 hw)) (Or.inl (w63 hw)) (by decide) (t := (.object "java/lang/StringBuilder")) (t' := (.object "com/example/outbound_courier/outboundcourier/http/BodyReader$State")) (by decide) (by decide))))
  have c28 := (((F12.other W14 (Or.inr (slot_ne (Or.inr (w53 hw)) (Or.inr (w56 hw)) (by decide) (t := .int) (t' := .boolean) (by decide) (by decide)))).other W17 (Or.inr (slot_ne (Or.inr (w53 hw)) (Or.inl (w58 hw)) (by decide) (t := .int) (t' := .long) (by decide) (by decide)))).other W22 (Or.inr (slot_ne (Or.inr (w53 hw)) (Or.inl (w63 hw)) (by decide) (t := .int) (t' := (.object "com/example/outbound_courier/outboundcourier/http/BodyReader$State")) (by decide) (by decide))))
  have c29 := (F17.other W22 (Or.inr (slot_ne (Or.inl (w58 hw)) (Or.inl (w63 hw)) (by decide) (t := .long) (t' := (.object "com/example/outbound_courier/outboundcourier/http/BodyReader$State")) (by decide) (by decide))))
  have c30 := ((((((((((P13.ext E2).keep K3c (ninS (Nat.ne_of_lt (Nat.lt_of_lt_of_le P1.lt (Nat.le_of_eq z2.symm))) nin0)).other W5 (Or.inr (slot_ne (Or.inl (w78 hw)) (Or.inr (w30 hw)) (by decide) (t := .boolean) (t' := (.object "java/io/ByteArrayOutputStream")) (by decide) (by decide)))).ext E6).keep K7c (ninS (Nat.ne_of_lt (Nat.lt_of_lt_of_le (Nat.lt_of_lt_of_le (Nat.lt_of_lt_of_le (Nat.lt_of_lt_of_le P1.lt E2.1) K3c.1) (Nat.le_of_eq W5.size.symm)) (Nat.le_of_eq z6.symm))) nin0)).other W10 (Or.inr (slot_ne (Or.inl (w78 hw)) (Or.inr (w51 hw)) (by decide) (t := .boolean) (t' := (.object "java/lang/StringBuilder")) (by decide) (by decide)))).other W12 (Or.inr (slot_ne (Or.inl (w78 hw)) (Or.inr (w53 hw)) (by decide) (t := .boolean) (t' := .int) (by decide) (by decide)))).other W14 (Or.inr (slot_ne (Or.inl (w78 hw)) (Or.inr (w56 hw)) (by decide) (t := .boolean) (t' := .boolean) (by decide) (by decide)))).other W17 (Or.inr (slot_ne (Or.inl (w78 hw)) (Or.inl (w58 hw)) (by decide) (t := .boolean) (t' := .long) (by decide) (by decide)))).other W22 (Or.inr (slot_ne (Or.inl (w78 hw)) (Or.inl (w63 hw)) (by decide) (t := .boolean) (t' := (.object "com/example/outbound_courier/outboundcourier/http/BodyReader$State")) (by decide) (by decide))))
  have c31 := (((((((((A2.keep K3c).wr W5).ext E6).keep K7c).wr W10).wr W12).wr W14).wr W17).wr W22)
  have c32 := ((((((((r3_2.wr W5).ext E6).keep K7c (ninS (Nat.ne_of_lt (Nat.lt_of_lt_of_le (Nat.lt_of_lt_of_le (Nat.lt_of_lt_of_le A2.lt K3c.1) (Nat.le_of_eq W5.size.symm)) (Nat.le_of_eq z6.symm))) nin0)).wr W10).wr W12).wr W14).wr W17).wr W22)
  have c33 := ((((((((r3_1.other W5 (Or.inl (Ne.symm (Nat.ne_of_lt (Nat.lt_of_lt_of_le P1.lt (Nat.le_of_eq z2.symm)))))).ext E6).keep K7c (ninS (Nat.ne_of_lt (Nat.lt_of_lt_of_le (Nat.lt_of_lt_of_le (Nat.lt_of_lt_of_le A2.lt K3c.1) (Nat.le_of_eq W5.size.symm)) (Nat.le_of_eq z6.symm))) nin0)).other W10 (Or.inl (Ne.symm (Nat.ne_of_lt (Nat.lt_of_lt_of_le P1.lt (Nat.le_of_eq z2.symm)))))).other W12 (Or.inl (Ne.symm (Nat.ne_of_lt (Nat.lt_of_lt_of_le P1.lt (Nat.le_of_eq z2.symm)))))).other W14 (Or.inl (Ne.symm (Nat.ne_of_lt (Nat.lt_of_lt_of_le P1.lt (Nat.le_of_eq z2.symm)))))).other W17 (Or.inl (Ne.symm (Nat.ne_of_lt (Nat.lt_of_lt_of_le P1.lt (Nat.le_of_eq z2.symm)))))).other W22 (Or.inl (Ne.symm (Nat.ne_of_lt (Nat.lt_of_lt_of_le P1.lt (Nat.le_of_eq z2.symm))))))
  have c34 := ((((((((r3_3.other W5 (Or.inl (Ne.symm (Nat.ne_of_lt (Nat.lt_of_lt_of_le P1.lt (Nat.le_of_eq z2.symm)))))).ext E6).keep K7c (ninS (Nat.ne_of_lt (Nat.lt_of_lt_of_le (Nat.lt_of_lt_of_le (Nat.lt_of_lt_of_le A2.lt K3c.1) (Nat.le_of_eq W5.size.symm)) (Nat.le_of_eq z6.symm))) nin0)).other W10 (Or.inl (Ne.symm (Nat.ne_of_lt (Nat.lt_of_lt_of_le P1.lt (Nat.le_of_eq z2.symm)))))).other W12 (Or.inl (Ne.symm (Nat.ne_of_lt (Nat.lt_of_lt_of_le P1.lt (Nat.le_of_eq z2.symm)))))).other W14 (Or.inl (Ne.symm (Nat.ne_of_lt (Nat.lt_of_lt_of_le P1.lt (Nat.le_of_eq z2.symm)))))).other W17 (Or.inl (Ne.symm (Nat.ne_of_lt (Nat.lt_of_lt_of_le P1.lt (Nat.le_of_eq z2.symm)))))).other W22 (Or.inl (Ne.symm (Nat.ne_of_lt (Nat.lt_of_lt_of_le P1.lt (Nat.le_of_eq z2.symm))))))
  have c35 := ((((((A6.keep K7c).wr W10).wr W12).wr W14).wr W17).wr W22)
  have c36 := (((((r7_1.other W10 (Or.inl (Ne.symm (Nat.ne_of_lt (Nat.lt_of_lt_of_le (Nat.lt_of_lt_of_le (Nat.lt_of_lt_of_le (Nat.lt_of_lt_of_le P1.lt E2.1) K3c.1) (Nat.le_of_eq W5.size.symm)) (Nat.le_of_eq z6.symm)))))).other W12 (Or.inl (Ne.symm (Nat.ne_of_lt (Nat.lt_of_lt_of_le (Nat.lt_of_lt_of_le (Nat.lt_of_lt_of_le (Nat.lt_of_lt_of_le P1.lt E2.1) K3c.1) (Nat.le_of_eq W5.size.symm)) (Nat.le_of_eq z6.symm)))))).other W14 (Or.inl (Ne.symm (Nat.ne_of_lt (Nat.lt_of_lt_of_le (Nat.lt_of_lt_of_le (Nat.lt_of_lt_of_le (Nat.lt_of_lt_of_le P1.lt E2.1) K3c.1) (Nat.le_of_eq W5.size.symm)) (Nat.le_of_eq z6.symm)))))).other W17 (Or.inl (Ne.symm (Nat.ne_of_lt (Nat.lt_of_lt_of_le (Nat.lt_of_lt_of_le (Nat.lt_of_lt_of_le (Nat.lt_of_lt_of_le P1.lt E2.1) K3c.1) (Nat.le_of_eq W5.size.symm)) (Nat.le_of_eq z6.symm)))))).other W22 (Or.inl (Ne.symm (Nat.ne_of_lt (Nat.lt_of_lt_of_le (Nat.lt_of_lt_of_le (Nat.lt_of_lt_of_le (Nat.lt_of_lt_of_le P1.lt E2.1) K3c.1) (Nat.le_of_eq W5.size.symm)) (Nat.le_of_eq z6.symm))))))
  have c37 := (((((r7_2.other W10 (Or.inl (Ne.symm (Nat.ne_of_lt (Nat.lt_of_lt_of_le (Nat.lt_of_lt_of_le (Nat.lt_of_lt_of_le (Nat.lt_of_lt_of_le P1.lt E2.1) K3c.1) (Nat.le_of_eq W5.size.symm)) (Nat.le_of_eq z6.symm)))))).other W12 (Or.inl (Ne.symm (Nat.ne_of_lt (Nat.lt_of_lt_of_le (Nat.lt_of_lt_of_le (Nat.lt_of_lt_of_le (Nat.lt_of_lt_of_le P1.lt E2.1) K3c.1) (Nat.le_of_eq W5.size.symm)) (Nat.le_of_eq z6.symm)))))).other W14 (Or.inl (Ne.symm (Nat.ne_of_lt (Nat.lt_of_lt_of_le (Nat.lt_of_lt_of_le (Nat.lt_of_lt_of_le (Nat.lt_of_lt_of_le P1.lt E2.1) K3c.1) (Nat.le_of_eq W5.size.symm)) (Nat.le_of_eq z6.symm)))))).other W17 (Or.inl (Ne.symm (Nat.ne_of_lt (Nat.lt_of_lt_of_le (Nat.lt_of_lt_of_le (Nat.lt_of_lt_of_le (Nat.lt_of_lt_of_le P1.lt E2.1) K3c.1) (Nat.le_of_eq W5.size.symm)) (Nat.le_of_eq z6.symm)))))).other W22 (Or.inl (Ne.symm (Nat.ne_of_lt (Nat.lt_of_lt_of_le (Nat.lt_of_lt_of_le (Nat.lt_of_lt_of_le (Nat.lt_of_lt_of_le P1.lt E2.1) K3c.1) (Nat.le_of_eq W5.size.symm)) (Nat.le_of_eq z6.symm))))))
  have c38 := ((((((((r3_4.other W5 (Ne.symm (Nat.ne_of_lt (Nat.lt_of_lt_of_le (Nat.lt_of_lt_of_le P1.lt E2.1) r3_0)))).ext E6).keep K7c (ninS (Nat.ne_of_lt (Nat.lt_of_lt_of_le (Nat.lt_of_lt_of_le r3_4.lt (Nat.le_of_eq W5.size.symm)) (Nat.le_of_eq z6.symm))) nin0)).other W10 (Ne.symm (Nat.ne_of_lt (Nat.lt_of_lt_of_le (Nat.lt_of_lt_of_le P1.lt E2.1) r3_0)))).other W12 (Ne.symm (Nat.ne_of_lt (Nat.lt_of_lt_of_le (Nat.lt_of_lt_of_le P1.lt E2.1) r3_0)))).other W14 (Ne.symm (Nat.ne_of_lt (Nat.lt_of_lt_of_le (Nat.lt_of_lt_of_le P1.lt E2.1) r3_0)))).other W17 (Ne.symm (Nat.ne_of_lt (Nat.lt_of_lt_of_le (Nat.lt_of_lt_of_le P1.lt E2.1) r3_0)))).other W22 (Ne.symm (Nat.ne_of_lt (Nat.lt_of_lt_of_le (Nat.lt_of_lt_of_le P1.lt E2.1) r3_0))))
  have c39 := (((((r7_3.other W10 (Ne.symm (Nat.ne_of_lt (Nat.lt_of_lt_of_le (Nat.lt_of_lt_of_le (Nat.lt_of_lt_of_le (Nat.lt_of_lt_of_le (Nat.lt_of_lt_of_le P1.lt E2.1) K3c.1) (Nat.le_of_eq W5.size.symm)) E6.1) r7_0)))).other W12 (Ne.symm (Nat.ne_of_lt (Nat.lt_of_lt_of_le (Nat.lt_of_lt_of_le (Nat.lt_of_lt_of_le (Nat.lt_of_lt_of_le (Nat.lt_of_lt_of_le P1.lt E2.1) K3c.1) (Nat.le_of_eq W5.size.symm)) E6.1) r7_0)))).other W14 (Ne.symm (Nat.ne_of_lt (Nat.lt_of_lt_of_le (Nat.lt_of_lt_of_le (Nat.lt_of_lt_of_le (Nat.lt_of_lt_of_le (Nat.lt_of_lt_of_le P1.lt E2.1) K3c.1) (Nat.le_of_eq W5.size.symm)) E6.1) r7_0)))).other W17 (Ne.symm (Nat.ne_of_lt (Nat.lt_of_lt_of_le (Nat.lt_of_lt_of_le (Nat.lt_of_lt_of_le (Nat.lt_of_lt_of_le (Nat.lt_of_lt_of_le P1.lt E2.1) K3c.1) (Nat.le_of_eq W5.size.symm)) E6.1) r7_0)))).other W22 (Ne.symm (Nat.ne_of_lt (Nat.lt_of_lt_of_le (Nat.lt_of_lt_of_le (Nat.lt_of_lt_of_le (Nat.lt_of_lt_of_le (Nat.lt_of_lt_of_le P1.lt E2.1) K3c.1) (Nat.le_of_eq W5.size.symm)) E6.1) r7_0))))
  refine ⟨_, _, ?_, hrun, hended, _, _, rfl, ?_, ⟨⟨_, rfl⟩, hWd, hsame.mono (by decide) (by decide)⟩⟩
  · exact X25.returnOut hx Bd.returns (hb hby d1_123) hr
  · show Q_rm1_1 Z a1 q2 p3 p4 a5 h0 n0 _ T25.heap _
    rw [e25]
    exact ⟨b2, b2_1_3, b6, b3_1_7, k2_1_3, k3_1_7, rfl, N22, K22, s_b2, s_b2_1_3, s_b6, s_b3_1_7, (Nat.ne_of_lt (Nat.lt_of_lt_of_le A2.lt r3_0)), (Nat.ne_of_lt (Nat.lt_of_lt_of_le (Nat.lt_of_lt_of_le (Nat.lt_of_lt_of_le A2.lt K3c.1) (Nat.le_of_eq W5.size.symm)) (Nat.le_of_eq z6.symm))), (Nat.ne_of_lt (Nat.lt_of_lt_of_le (Nat.lt_of_lt_of_le (Nat.lt_of_lt_of_le (Nat.lt_of_lt_of_le A2.lt K3c.1) (Nat.le_of_eq W5.size.symm)) E6.1) r7_0)), (Nat.ne_of_lt (Nat.lt_of_lt_of_le (Nat.lt_of_lt_of_le r3_4.lt (Nat.le_of_eq W5.size.symm)) (Nat.le_of_eq z6.symm))), (Nat.ne_of_lt (Nat.lt_of_lt_of_le (Nat.lt_of_lt_of_le (Nat.lt_of_lt_of_le r3_4.lt (Nat.le_of_eq W5.size.symm)) E6.1) r7_0)), (Nat.ne_of_lt (Nat.lt_of_lt_of_le A6.lt r7_0)), c26, c27, c28, c23, c29, F22, c30, c31, c32, c33, c34, c35, c36, c37, c38, c39⟩
def Q_rm8_1 (Z : State) (a1 : Addr) (a2 : Addr) (a3 : Addr) (h0 : Heap) (n0 : Nat) (v : Option Value) (h : Heap) (L : List Loc) : Prop := v = some (.int (0 : Int32)) ∧ Fr n0 L ∧ h = h0
set_option maxRecDepth 65536 in
set_option maxHeartbeats 40000000 in
theorem rm8_1 (l : Launch) (Z : State) (a0 : Array Value) (hw : ∀ d ∈ tables_1, d.before a0 Z = true) (ws : List Jvm.Cond) (a1 : Addr) (a2 : Addr) (a3 : Addr) (h0 : Heap) (n0 : Nat) (O0 : Old Z n0 h0) (P1 : Fld Z h0 a1 "com/example/outbound_courier/outboundcourier/http/BodyReader" "state" "Lcom/example/outbound_courier/outboundcourier/http/BodyReader$State;" (.ref a2)) (P2 : Sta Z Z.heap "com/example/outbound_courier/outboundcourier/http/BodyReader$State" "DONE" "Lcom/example/outbound_courier/outboundcourier/http/BodyReader$State;" (.ref a3)) (P3 : a2 ≠ a3) (P4 : Fld Z h0 a1 "com/example/outbound_courier/outboundcourier/http/BodyReader" "tooLarge" "Z" (.int (0 : Int32))) :
    MetFree l (⟨"com/example/outbound_courier/outboundcourier/http/BodyReader", "isDone", "()Z"⟩ : MethodName) (head1 (Jvm.Cond.code (⟨"com/example/outbound_courier/outboundcourier/http/BodyReader", "isDone", "()Z"⟩ : MethodName) prog_4_method_3_code 1 (some .boolean) :: ws) ({ frames := 0, cells := 0, slots := 0, locals := 0 } : Room)) (fun a U => a = #[(.ref a1)] ∧ Z.Warmed39 U.vm ∧ U.heap = h0) (fun _ _ _ _ _ => True) (fun _ U o U' => ∃ v L, o = .returned v ∧ Q_rm8_1 Z a1 a2 a3 h0 n0 v U'.heap L ∧ FrameEnd U o U' L ({ frames := 0, cells := 0, slots := 0, locals := 0 } : Room).cells ({ frames := 0, cells := 0, slots := 0, locals := 0 } : Room).slots) := by
  refine MetFree.of_bodySF (plainFor_of_name pn_4) hisR ?_
  intro p e s m args below meth c s₁ Bd hml0 hP hK
  obtain ⟨rfl, hZ, hh⟩ := hP
  have hx := Bd.exec
  have hby := Bd.bytes
  have hml : c.maxLocals = 1 := hml0
  have hown : s.vm.findClass "com/example/outbound_courier/outboundcourier/http/BodyReader" = some m.cls := findClass_of_methodNamed Bd.named
  have hnm := (name_of_methodNamed Bd.named Bd.method).1
  have X0 : Stand p l e ({ frames := 0, cells := 0, slots := 0, locals := 0 } : Room) s m #[(.ref a1)] below meth c s₁ [] 0 0 := Stand.of_body Bd
  have e0 : s₁.heap = h0 := by rw [← hh, Bd.state]; rfl
  have N0 := Fr.nil n0
  refine Go.start (P := (fun o U' => ∃ v L, o = .returned v ∧ Q_rm8_1 Z a1 a2 a3 h0 n0 v U'.heap L ∧ FrameEnd s o U' L ({ frames := 0, cells := 0, slots := 0, locals := 0 } : Room).cells ({ frames := 0, cells := 0, slots := 0, locals := 0 } : Room).slots)) (castTop (g' := (mkF m 0 #[.val (.ref a1)] [])) (by first | rfl | simp [entryFrame, mkF, argsToLocals, Value.category]) (T := s₁)) ?_
  refine Go.st (fun t k => XS.aloadN X0.here hx rfl (hb hby d8_0) rfl rfl k) ?_
  show Go p e below _ (s₁.setTop (mkF m 1 #[.val (.ref a1)] [(.ref a1)]))
  obtain ⟨T1, X1, e1, st1⟩ := getF X0 hx hZ hown (host := "") (Or.inl (w62 hw)) Via.refl e0 P1 (g := (mkF m 1 #[.val (.ref a1)] [(.ref a1)])) rfl rfl (hb hby d8_1)
  refine Go.st st1 ?_
  show Go p e below _ (T1.setTop (mkF m 4 #[.val (.ref a1)] [(.ref a2)]))
  obtain ⟨T2, X2, e2, st2⟩ := getS2 X1 hx hZ hown (host := "") (Or.inl (w64 hw)) Via.refl e1 (P2.ext O0.2) (g := (mkF m 4 #[.val (.ref a1)] [(.ref a2)])) rfl (hb hby d8_4)
  refine Go.st st2 ?_
  show Go p e below _ (T2.setTop (mkF m 7 #[.val (.ref a1)] [(.ref a3), (.ref a2)]))
  refine Go.st (fun t k => Jvm.RoadKit.acmp (g := (mkF m 7 #[.val (.ref a1)] [(.ref a3), (.ref a2)])) X2 hx rfl rfl rfl (pc0 := 7) (pc' := 10) (same := false) rfl (hb hby d8_7) rfl (decide_eq_false fun q => P3 (Value.ref.inj q)) (by decide) (by decide) k) ?_
  show Go p e below _ (T2.setTop (mkF m 10 #[.val (.ref a1)] []))
  refine Go.st (fun t k => XS.aloadN X2.here hx rfl (hb hby d8_10) rfl rfl k) ?_
  show Go p e below _ (T2.setTop (mkF m 11 #[.val (.ref a1)] [(.ref a1)]))
  obtain ⟨T3, X3, e3, st3⟩ := getF X2 hx hZ hown (host := "") (Or.inl (w77 hw)) Via.refl e2 P4 (g := (mkF m 11 #[.val (.ref a1)] [(.ref a1)])) rfl rfl (hb hby d8_11)
  refine Go.st st3 ?_
  show Go p e below _ (T3.setTop (mkF m 14 #[.val (.ref a1)] [(.int (0 : Int32))]))
  refine Go.st (fun t k => XS.ifYes X3.here hx rfl (pc0 := 14) (pc' := 21) rfl (hb hby d8_14) rfl (Jvm.Free.XT.i0_eq_t (by decide : (0 : Int32) = (0 : Int32))) (by decide) (by decide) k) ?_
  show Go p e below _ (T3.setTop (mkF m 21 #[.val (.ref a1)] []))
  refine Go.st (fun t k => XS.iconst X3.here hx rfl (hb hby d8_21) k) ?_
  show Go p e below _ (T3.setTop (mkF m 22 #[.val (.ref a1)] [(.int (0 : Int32))]))
  obtain ⟨fs, hr, hrun, hended, hWd, hsame⟩ := X3.leave (v := some (.int (0 : Int32))) (fun h => by rw [Bd.returns] at h; cases h)
  refine ⟨_, _, ?_, hrun, hended, _, _, rfl, ?_, ⟨⟨_, rfl⟩, hWd, hsame.mono (by decide) (by decide)⟩⟩
  · exact retN X3 hx (t := .boolean) Bd.returns (by simp) (hb hby d8_22) hr
  · show Q_rm8_1 Z a1 a2 a3 h0 n0 _ T3.heap _
    rw [e3]
    exact ⟨rfl, N0, rfl⟩
def Q_rm9_1 (Z : State) (a1 : Addr) (h0 : Heap) (n0 : Nat) (v : Option Value) (h : Heap) (L : List Loc) : Prop := v = some (.int (0 : Int32)) ∧ Fr n0 L ∧ h = h0
set_option maxRecDepth 65536 in
set_option maxHeartbeats 40000000 in
theorem rm9_1 (l : Launch) (Z : State) (a0 : Array Value) (hw : ∀ d ∈ tables_1, d.before a0 Z = true) (ws : List Jvm.Cond) (a1 : Addr) (h0 : Heap) (n0 : Nat) (O0 : Old Z n0 h0) (P1 : Fld Z h0 a1 "com/example/outbound_courier/outboundcourier/http/BodyReader" "tooLarge" "Z" (.int (0 : Int32))) :
    MetFree l (⟨"com/example/outbound_courier/outboundcourier/http/BodyReader", "isTooLarge", "()Z"⟩ : MethodName) (head1 (Jvm.Cond.code (⟨"com/example/outbound_courier/outboundcourier/http/BodyReader", "isTooLarge", "()Z"⟩ : MethodName) prog_4_method_4_code 1 (some .boolean) :: ws) ({ frames := 0, cells := 0, slots := 0, locals := 0 } : Room)) (fun a U => a = #[(.ref a1)] ∧ Z.Warmed39 U.vm ∧ U.heap = h0) (fun _ _ _ _ _ => True) (fun _ U o U' => ∃ v L, o = .returned v ∧ Q_rm9_1 Z a1 h0 n0 v U'.heap L ∧ FrameEnd U o U' L ({ frames := 0, cells := 0, slots := 0, locals := 0 } : Room).cells ({ frames := 0, cells := 0, slots := 0, locals := 0 } : Room).slots) := by
  refine MetFree.of_bodySF (plainFor_of_name pn_4) hisR ?_
  intro p e s m args below meth c s₁ Bd hml0 hP hK
  obtain ⟨rfl, hZ, hh⟩ := hP
  have hx := Bd.exec
  have hby := Bd.bytes
  have hml : c.maxLocals = 1 := hml0
  have hown : s.vm.findClass "com/example/outbound_courier/outboundcourier/http/BodyReader" = some m.cls := findClass_of_methodNamed Bd.named
  have hnm := (name_of_methodNamed Bd.named Bd.method).1
  have X0 : Stand p l e ({ frames := 0, cells := 0, slots := 0, locals := 0 } : Room) s m #[(.ref a1)] below meth c s₁ [] 0 0 := Stand.of_body Bd
  have e0 : s₁.heap = h0 := by rw [← hh, Bd.state]; rfl
  have N0 := Fr.nil n0
  refine Go.start (P := (fun o U' => ∃ v L, o = .returned v ∧ Q_rm9_1 Z a1 h0 n0 v U'.heap L ∧ FrameEnd s o U' L ({ frames := 0, cells := 0, slots := 0, locals := 0 } : Room).cells ({ frames := 0, cells := 0, slots := 0, locals := 0 } : Room).slots)) (castTop (g' := (mkF m 0 #[.val (.ref a1)] [])) (by first | rfl | simp [entryFrame, mkF, argsToLocals, Value.category]) (T := s₁)) ?_
  refine Go.st (fun t k => XS.aloadN X0.here hx rfl (hb hby d9_0) rfl rfl k) ?_
  show Go p e below _ (s₁.setTop (mkF m 1 #[.val (.ref a1)] [(.ref a1)]))
  obtain ⟨T1, X1, e1, st1⟩ := getF X0 hx hZ hown (host := "") (Or.inl (w77 hw)) Via.refl e0 P1 (g := (mkF m 1 #[.val (.ref a1)] [(.ref a1)])) rfl rfl (hb hby d9_1)
  refine Go.st st1 ?_
  show Go p e below _ (T1.setTop (mkF m 4 #[.val (.ref a1)] [(.int (0 : Int32))]))
  obtain ⟨fs, hr, hrun, hended, hWd, hsame⟩ := X1.leave (v := some (.int (0 : Int32))) (fun h => by rw [Bd.returns] at h; cases h)
  refine ⟨_, _, ?_, hrun, hended, _, _, rfl, ?_, ⟨⟨_, rfl⟩, hWd, hsame.mono (by decide) (by decide)⟩⟩
  · exact retN X1 hx (t := .boolean) Bd.returns (by simp) (hb hby d9_4) hr
  · show Q_rm9_1 Z a1 h0 n0 _ T1.heap _
    rw [e1]
    exact ⟨rfl, N0, rfl⟩
def Q_rm13_1 (Z : State)  (h0 : Heap) (n0 : Nat) (v : Option Value) (h : Heap) (L : List Loc) : Prop := v = some (.int (0 : Int32)) ∧ Fr n0 L ∧ h = h0
set_option maxRecDepth 65536 in
set_option maxHeartbeats 40000000 in
theorem rm13_1 (l : Launch) (Z : State) (a0 : Array Value) (hw : ∀ d ∈ tables_1, d.before a0 Z = true) (ws : List Jvm.Cond)  (h0 : Heap) (n0 : Nat) (O0 : Old Z n0 h0) :
    MetFree l (⟨"java/lang/Math", "min", "(II)I"⟩ : MethodName) (head1 (Jvm.Cond.code (⟨"java/lang/Math", "min", "(II)I"⟩ : MethodName) jdk_29_method_69_code 2 (some .int) :: ws) ({ frames := 0, cells := 0, slots := 0, locals := 0 } : Room)) (fun a U => a = #[(.int (32 : Int32)), (.int (0 : Int32))] ∧ Z.Warmed39 U.vm ∧ U.heap = h0) (fun _ _ _ _ _ => True) (fun _ U o U' => ∃ v L, o = .returned v ∧ Q_rm13_1 Z  h0 n0 v U'.heap L ∧ FrameEnd U o U' L ({ frames := 0, cells := 0, slots := 0, locals := 0 } : Room).cells ({ frames := 0, cells := 0, slots := 0, locals := 0 } : Room).slots) := by
  refine MetFree.of_bodySF (Jvm.Free.JP.mathPlain rfl (by decide +kernel)) hisR ?_
  intro p e s m args below meth c s₁ Bd hml0 hP hK
  obtain ⟨rfl, hZ, hh⟩ := hP
  have hx := Bd.exec
  have hby := Bd.bytes
  have hml : c.maxLocals = 2 := hml0
  have hown : s.vm.findClass "java/lang/Math" = some m.cls := findClass_of_methodNamed Bd.named
  have hnm := (name_of_methodNamed Bd.named Bd.method).1
  have X0 : Stand p l e ({ frames := 0, cells := 0, slots := 0, locals := 0 } : Room) s m #[(.int (32 : Int32)), (.int (0 : Int32))] below meth c s₁ [] 0 0 := Stand.of_body Bd
  have e0 : s₁.heap = h0 := by rw [← hh, Bd.state]; rfl
  have N0 := Fr.nil n0
  refine Go.start (P := (fun o U' => ∃ v L, o = .returned v ∧ Q_rm13_1 Z  h0 n0 v U'.heap L ∧ FrameEnd s o U' L ({ frames := 0, cells := 0, slots := 0, locals := 0 } : Room).cells ({ frames := 0, cells := 0, slots := 0, locals := 0 } : Room).slots)) (castTop (g' := (mkF m 0 #[.val (.int (32 : Int32)), .val (.int (0 : Int32))] [])) (by first | rfl | simp [entryFrame, mkF, argsToLocals, Value.category]) (T := s₁)) ?_
  refine Go.st (fun t k => XS.iloadN X0.here hx rfl (hb hby d13_0) rfl k) ?_
  show Go p e below _ (s₁.setTop (mkF m 1 #[.val (.int (32 : Int32)), .val (.int (0 : Int32))] [(.int (32 : Int32))]))
  refine Go.st (fun t k => XS.iloadN X0.here hx rfl (hb hby d13_1) rfl k) ?_
  show Go p e below _ (s₁.setTop (mkF m 2 #[.val (.int (32 : Int32)), .val (.int (0 : Int32))] [(.int (0 : Int32)), (.int (32 : Int32))]))
  refine Go.st (fun t k => XS.icmpYes X0.here hx rfl (pc0 := 2) (pc' := 9) rfl (hb hby d13_2) rfl (Jvm.Free.XT.ii_gt_t (by decide : (0 : Int32) < (32 : Int32))) (by decide) (by decide) k) ?_
  show Go p e below _ (s₁.setTop (mkF m 9 #[.val (.int (32 : Int32)), .val (.int (0 : Int32))] []))
  refine Go.st (fun t k => XS.iloadN X0.here hx rfl (hb hby d13_9) rfl k) ?_
  show Go p e below _ (s₁.setTop (mkF m 10 #[.val (.int (32 : Int32)), .val (.int (0 : Int32))] [(.int (0 : Int32))]))
  obtain ⟨fs, hr, hrun, hended, hWd, hsame⟩ := X0.leave (v := some (.int (0 : Int32))) (fun h => by rw [Bd.returns] at h; cases h)
  refine ⟨_, _, ?_, hrun, hended, _, _, rfl, ?_, ⟨⟨_, rfl⟩, hWd, hsame.mono (by decide) (by decide)⟩⟩
  · exact retI X0 hx Bd.returns (hb hby d13_10) hr
  · show Q_rm13_1 Z  h0 n0 _ s₁.heap _
    rw [e0]
    exact ⟨rfl, N0, rfl⟩
def Q_rm12_1 (Z : State) (a1 : Addr) (kz2 : ClassId) (h0 : Heap) (n0 : Nat) (v : Option Value) (h : Heap) (L : List Loc) : Prop := ∃ (b2 : Addr) (k2 : ClassId), v = some (.ref b2) ∧ Fr n0 L ∧ Keep h0 h [] ∧ h0.size ≤ b2 ∧ Arv Z h b2 k2 .byte (0 : Int32) [] (.int (0 : Int32))
set_option maxRecDepth 65536 in
set_option maxHeartbeats 40000000 in
theorem rm12_1 (l : Launch) (Z : State) (a0 : Array Value) (hw : ∀ d ∈ tables_1, d.before a0 Z = true) (ws : List Jvm.Cond) (a1 : Addr) (kz2 : ClassId) (h0 : Heap) (n0 : Nat) (O0 : Old Z n0 h0) (P1 : Arv Z h0 a1 kz2 .byte (32 : Int32) [(.int (0 : Int32)), (.int (0 : Int32)), (.int (0 : Int32)), (.int (0 : Int32)), (.int (0 : Int32)), (.int (0 : Int32)), (.int (0 : Int32)), (.int (0 : Int32)), (.int (0 : Int32)), (.int (0 : Int32)), (.int (0 : Int32)), (.int (0 : Int32)), (.int (0 : Int32)), (.int (0 : Int32)), (.int (0 : Int32)), (.int (0 : Int32)), (.int (0 : Int32)), (.int (0 : Int32)), (.int (0 : Int32)), (.int (0 : Int32)), (.int (0 : Int32)), (.int (0 : Int32)), (.int (0 : Int32)), (.int (0 : Int32)), (.int (0 : Int32)), (.int (0 : Int32)), (.int (0 : Int32)), (.int (0 : Int32)), (.int (0 : Int32)), (.int (0 : Int32)), (.int (0 : Int32)), (.int (0 : Int32))] (.int (0 : Int32))) :
    MetFree l (⟨"java/util/Arrays", "copyOf", "([BI)[B"⟩ : MethodName) (head1 (Jvm.Cond.code (⟨"java/util/Arrays", "copyOf", "([BI)[B"⟩ : MethodName) jdk_65_method_121_code 3 (some (.array .byte)) :: ws) ({ frames := 1, cells := 1, slots := 0, locals := 18 } : Room)) (fun a U => a = #[(.ref a1), (.int (0 : Int32))] ∧ Z.Warmed39 U.vm ∧ U.heap = h0) (fun _ _ _ _ _ => True) (fun _ U o U' => ∃ v L, o = .returned v ∧ Q_rm12_1 Z a1 kz2 h0 n0 v U'.heap L ∧ FrameEnd U o U' L ({ frames := 1, cells := 1, slots := 0, locals := 18 } : Room).cells ({ frames := 1, cells := 1, slots := 0, locals := 18 } : Room).slots) := by
  refine MetFree.of_bodySF (plainFor_of_name pn_5) hisR ?_
  intro p e s m args below meth c s₁ Bd hml0 hP hK
  obtain ⟨rfl, hZ, hh⟩ := hP
  have hx := Bd.exec
  have hby := Bd.bytes
  have hml : c.maxLocals = 3 := hml0
  have hown : s.vm.findClass "java/util/Arrays" = some m.cls := findClass_of_methodNamed Bd.named
  have hnm := (name_of_methodNamed Bd.named Bd.method).1
  have X0 : Stand p l e ({ frames := 1, cells := 1, slots := 0, locals := 18 } : Room) s m #[(.ref a1), (.int (0 : Int32))] below meth c s₁ [] 0 0 := Stand.of_body Bd
  have e0 : s₁.heap = h0 := by rw [← hh, Bd.state]; rfl
  have N0 := Fr.nil n0
  refine Go.start (P := (fun o U' => ∃ v L, o = .returned v ∧ Q_rm12_1 Z a1 kz2 h0 n0 v U'.heap L ∧ FrameEnd s o U' L ({ frames := 1, cells := 1, slots := 0, locals := 18 } : Room).cells ({ frames := 1, cells := 1, slots := 0, locals := 18 } : Room).slots)) (castTop (g' := (mkF m 0 #[.val (.ref a1), .val (.int (0 : Int32)), .unset] [])) (by first | rfl | simp [entryFrame, mkF, argsToLocals, Value.category]) (T := s₁)) ?_
  refine Go.st (fun t k => XS.iloadN X0.here hx rfl (hb hby d12_0) rfl k) ?_
  show Go p e below _ (s₁.setTop (mkF m 1 #[.val (.ref a1), .val (.int (0 : Int32)), .unset] [(.int (0 : Int32))]))
  refine Go.st (fun t k => XS.aloadN X0.here hx rfl (hb hby d12_1) rfl rfl k) ?_
  show Go p e below _ (s₁.setTop (mkF m 2 #[.val (.ref a1), .val (.int (0 : Int32)), .unset] [(.ref a1), (.int (0 : Int32))]))
  obtain ⟨cl1, Ar1, -, S1, M1, -, -⟩ := id P1
  refine Go.st (fun t k => X0.arraylength hx (by rw [e0]; exact Ar1.1) (State.isArrayOf_alike hZ.alike Ar1.2.1) (g := (mkF m 2 #[.val (.ref a1), .val (.int (0 : Int32)), .unset] [(.ref a1), (.int (0 : Int32))])) rfl rfl (hb hby d12_2) t k) ?_
  rw [len_of S1 M1]
  show Go p e below _ (s₁.setTop (mkF m 3 #[.val (.ref a1), .val (.int (0 : Int32)), .unset] [(.int (32 : Int32)), (.int (0 : Int32))]))
  refine Go.st (fun t k => XS.icmpYes X0.here hx rfl (pc0 := 3) (pc' := 14) rfl (hb hby d12_3) rfl (Jvm.Free.XT.ii_ne_t (by decide : ¬ ((0 : Int32) = (32 : Int32)))) (by decide) (by decide) k) ?_
  show Go p e below _ (s₁.setTop (mkF m 14 #[.val (.ref a1), .val (.int (0 : Int32)), .unset] []))
  refine Go.st (fun t k => XS.iloadN X0.here hx rfl (hb hby d12_14) rfl k) ?_
  show Go p e below _ (s₁.setTop (mkF m 15 #[.val (.ref a1), .val (.int (0 : Int32)), .unset] [(.int (0 : Int32))]))
  obtain ⟨T2, h2, k2, X2, e2, E2, A2, st2⟩ := newP X0 hx hZ (aty := .byte) (w26 hw) e0 (g := (mkF m 15 #[.val (.ref a1), .val (.int (0 : Int32)), .unset] [(.int (0 : Int32))])) rfl (hb hby d12_15) rfl (by decide) (cap := 0) (by decide) (by decide) (by decide) (by decide)
  obtain ⟨b2, z2⟩ : ∃ z, z = h0.size := ⟨_, rfl⟩
  rw [← z2] at A2 st2
  have g_b2 : n0 ≤ b2 := Nat.le_trans (own_n0 O0) (Nat.le_of_eq z2.symm)
  have s_b2 : h0.size ≤ b2 := Nat.le_trans (Keep.refl h0 []).1 (Nat.le_of_eq z2.symm)
  have V2 : Arv Z h2 b2 k2 .byte (0 : Int32) [] (.int (0 : Int32)) := (Arv.new A2 (by decide)).pad (pad_rep [] (.int (0 : Int32)) 0)
  have O2 : Old Z n0 h2 := O0.ext E2
  have K2 : Keep h0 h2 [] := (Keep.refl h0 []).ext E2
  refine Go.st st2 ?_
  show Go p e below _ (T2.setTop (mkF m 17 #[.val (.ref a1), .val (.int (0 : Int32)), .unset] [(.ref b2)]))
  refine Go.st (fun t k => XS.astoreN X2.here hx rfl (hb hby d12_17) rfl rfl (l' := #[.val (.ref a1), .val (.int (0 : Int32)), .val (.ref b2)]) rfl k) ?_
  show Go p e below _ (T2.setTop (mkF m 18 #[.val (.ref a1), .val (.int (0 : Int32)), .val (.ref b2)] []))
  refine Go.st (fun t k => XS.aloadN X2.here hx rfl (hb hby d12_18) rfl rfl k) ?_
  show Go p e below _ (T2.setTop (mkF m 19 #[.val (.ref a1), .val (.int (0 : Int32)), .val (.ref b2)] [(.ref a1)]))
  refine Go.st (fun t k => XS.iconst X2.here hx rfl (hb hby d12_19) k) ?_
  show Go p e below _ (T2.setTop (mkF m 20 #[.val (.ref a1), .val (.int (0 : Int32)), .val (.ref b2)] [(.int (0 : Int32)), (.ref a1)]))
  refine Go.st (fun t k => XS.aloadN X2.here hx rfl (hb hby d12_20) rfl rfl k) ?_
  show Go p e below _ (T2.setTop (mkF m 21 #[.val (.ref a1), .val (.int (0 : Int32)), .val (.ref b2)] [(.ref b2), (.int (0 : Int32)), (.ref a1)]))
  refine Go.st (fun t k => XS.iconst X2.here hx rfl (hb hby d12_21) k) ?_
  show Go p e below _ (T2.setTop (mkF m 22 #[.val (.ref a1), .val (.int (0 : Int32)), .val (.ref b2)] [(.int (0 : Int32)), (.ref b2), (.int (0 : Int32)), (.ref a1)]))
  refine Go.st (fun t k => XS.aloadN X2.here hx rfl (hb hby d12_22) rfl rfl k) ?_
  show Go p e below _ (T2.setTop (mkF m 23 #[.val (.ref a1), .val (.int (0 : Int32)), .val (.ref b2)] [(.ref a1), (.int (0 : Int32)), (.ref b2), (.int (0 : Int32)), (.ref a1)]))
  obtain ⟨cl3, Ar3, -, S3, M3, -, -⟩ := id (P1.ext E2)
  refine Go.st (fun t k => X2.arraylength hx (by rw [e2]; exact Ar3.1) (State.isArrayOf_alike hZ.alike Ar3.2.1) (g := (mkF m 23 #[.val (.ref a1), .val (.int (0 : Int32)), .val (.ref b2)] [(.ref a1), (.int (0 : Int32)), (.ref b2), (.int (0 : Int32)), (.ref a1)])) rfl rfl (hb hby d12_23) t k) ?_
  rw [len_of S3 M3]
  show Go p e below _ (T2.setTop (mkF m 24 #[.val (.ref a1), .val (.int (0 : Int32)), .val (.ref b2)] [(.int (32 : Int32)), (.int (0 : Int32)), (.ref b2), (.int (0 : Int32)), (.ref a1)]))
  refine Go.st (fun t k => XS.iloadN X2.here hx rfl (hb hby d12_24) rfl k) ?_
  show Go p e below _ (T2.setTop (mkF m 25 #[.val (.ref a1), .val (.int (0 : Int32)), .val (.ref b2)] [(.int (0 : Int32)), (.int (32 : Int32)), (.int (0 : Int32)), (.ref b2), (.int (0 : Int32)), (.ref a1)]))
  obtain ⟨_, _, ⟨T4, L4, k4, n4⟩, -, X4, ⟨Lc4, hQ4, l4, y4, z4⟩, st4⟩ := Jvm.LawKit.callS X2 hx (y := (⟨"java/lang/Math", "min", "(II)I"⟩ : MethodName)) hown (mvT hZ (w95 hw)) (mvT hZ (w96 hw)) (mvT hZ (w97 hw)) (mvT hZ (w98 hw)) (by decide) (backOf (W := 4) (rm13_1 l Z a0 hw []  h2 n0 O2 ) hZ (w98 hw) (w97 hw) (by decide) (by decide)) (g := (mkF m 25 #[.val (.ref a1), .val (.int (0 : Int32)), .val (.ref b2)] [(.int (0 : Int32)), (.int (32 : Int32)), (.int (0 : Int32)), (.ref b2), (.int (0 : Int32)), (.ref a1)])) rfl (by rw [hml]; rfl) (argsL := [(.int (32 : Int32)), (.int (0 : Int32))]) (rest := [(.int (0 : Int32)), (.ref b2), (.int (0 : Int32)), (.ref a1)]) (lenOf pd_4 rfl) rfl (by show 2 * 0 + _ ≤ _; exact Nat.le_of_eq rfl) (hb hby d12_25) (fun vm₁ hw₁ => ⟨rfl, e2, (by decide : 1 + 0 ≤ _), (by decide : 0 + 0 ≤ _)⟩)
  dsimp only [Pt.U, Pt.locs, Pt.cells, Pt.slots] at X4 l4 y4 z4 st4 hQ4
  subst l4 y4 z4
  obtain ⟨rfl, M4, eh4⟩ := hQ4
  have N4 := Fr.app N0 M4
  refine Go.st st4 ?_
  show Go p e below _ (T4.setTop (mkF m 28 #[.val (.ref a1), .val (.int (0 : Int32)), .val (.ref b2)] [(.int (0 : Int32)), (.int (0 : Int32)), (.ref b2), (.int (0 : Int32)), (.ref a1)]))
  obtain ⟨T5, h5, L5, X5, e5, N5, K5c, V50, st5⟩ := cpA X4 hx hZ hown (w99 hw) (w102 hw) (w100 hw) (w101 hw) eh4 (P1.ext E2) V2 (Or.inl ⟨rfl, rfl⟩) (sp := (0 : Int32)) (dp := (0 : Int32)) (nn := (0 : Int32)) (by decide) (by decide) (by decide) (by decide) (by decide) (us := []) rfl (by decide) N4 g_b2 (g := (mkF m 28 #[.val (.ref a1), .val (.int (0 : Int32)), .val (.ref b2)] [(.int (0 : Int32)), (.int (0 : Int32)), (.ref b2), (.int (0 : Int32)), (.ref a1)])) rfl (by rw [hml]; rfl) (rest := []) rfl (hb hby d12_28) (by decide) (W := 0) (by show 2 * 0 + _ ≤ _; exact Nat.le_of_eq rfl) (by decide)
  have V5 : Arv Z h5 b2 k2 .byte (0 : Int32) [] (.int (0 : Int32)) := V50
  have O5 : Old Z n0 h5 := O2.keep K5c (allS g_b2 all0)
  have K5 : Keep h0 h5 [] := K2.trans K5c (allS (Or.inr s_b2) all0)
  refine Go.st st5 ?_
  show Go p e below _ (T5.setTop (mkF m 31 #[.val (.ref a1), .val (.int (0 : Int32)), .val (.ref b2)] []))
  refine Go.st (fun t k => XS.aloadN X5.here hx rfl (hb hby d12_31) rfl rfl k) ?_
  show Go p e below _ (T5.setTop (mkF m 32 #[.val (.ref a1), .val (.int (0 : Int32)), .val (.ref b2)] [(.ref b2)]))
  obtain ⟨fs, hr, hrun, hended, hWd, hsame⟩ := X5.leave (v := some (.ref b2)) (fun h => by rw [Bd.returns] at h; cases h)
  refine ⟨_, _, ?_, hrun, hended, _, _, rfl, ?_, ⟨⟨_, rfl⟩, hWd, hsame.mono (by decide) (by decide)⟩⟩
  · exact own_retA X5 hx Bd.returns rfl rfl (hb hby d12_32) hr
  · show Q_rm12_1 Z a1 kz2 h0 n0 _ T5.heap _
    rw [e5]
    exact ⟨b2, k2, rfl, N5, K5, s_b2, V5⟩
def Q_rm11_1 (Z : State) (a1 : Addr) (a2 : Addr) (kz3 : ClassId) (h0 : Heap) (n0 : Nat) (v : Option Value) (h : Heap) (L : List Loc) : Prop := ∃ (b2_3 : Addr) (k2_3 : ClassId), v = some (.ref b2_3) ∧ Fr n0 L ∧ Keep h0 h [a1] ∧ h0.size ≤ b2_3 ∧ Arv Z h b2_3 k2_3 .byte (0 : Int32) [] (.int (0 : Int32)) ∧ Fld Z h a1 "java/io/ByteArrayOutputStream" "buf" "[B" (.ref a2) ∧ Fld Z h a1 "java/io/ByteArrayOutputStream" "count" "I" (.int (0 : Int32))
set_option maxRecDepth 65536 in
set_option maxHeartbeats 40000000 in
theorem rm11_1 (l : Launch) (Z : State) (a0 : Array Value) (hw : ∀ d ∈ tables_1, d.before a0 Z = true) (ws : List Jvm.Cond) (a1 : Addr) (a2 : Addr) (kz3 : ClassId) (h0 : Heap) (n0 : Nat) (O0 : Old Z n0 h0) (P1 : n0 ≤ a1) (P2 : Fld Z h0 a1 "java/io/ByteArrayOutputStream" "buf" "[B" (.ref a2)) (P3 : Fld Z h0 a1 "java/io/ByteArrayOutputStream" "count" "I" (.int (0 : Int32))) (P4 : Arv Z h0 a2 kz3 .byte (32 : Int32) [(.int (0 : Int32)), (.int (0 : Int32)), (.int (0 : Int32)), (.int (0 : Int32)), (.int (0 : Int32)), (.int (0 : Int32)), (.int (0 : Int32)), (.int (0 : Int32)), (.int (0 : Int32)), (.int (0 : Int32)), (.int (0 : Int32)), (.int (0 : Int32)), (.int (0 : Int32)), (.int (0 : Int32)), (.int (0 : Int32)), (.int (0 : Int32)), (.int (0 : Int32)), (.int (0 : Int32)), (.int (0 : Int32)), (.int (0 : Int32)), (.int (0 : Int32)), (.int (0 : Int32)), (.int (0 : Int32)), (.int (0 : Int32)), (.int (0 : Int32)), (.int (0 : Int32)), (.int (0 : Int32)), (.int (0 : Int32)), (.int (0 : Int32)), (.int (0 : Int32)), (.int (0 : Int32)), (.int (0 : Int32))] (.int (0 : Int32))) (P5 : Exa Z h0 a1 "java/io/ByteArrayOutputStream") (P6 : Unt h0 a1) :
    MetFree l (⟨"java/io/ByteArrayOutputStream", "toByteArray", "()[B"⟩ : MethodName) (head1 (Jvm.Cond.codeSync (⟨"java/io/ByteArrayOutputStream", "toByteArray", "()[B"⟩ : MethodName) jdk_2005_method_9_code 1 (some (.array .byte)) :: Jvm.Cond.instanceMethod (⟨"java/io/ByteArrayOutputStream", "toByteArray", "()[B"⟩ : MethodName) :: ws) ({ frames := 2, cells := 1, slots := 0, locals := 34 } : Room)) (fun a U => a = #[(.ref a1)] ∧ Z.Warmed39 U.vm ∧ U.heap = h0 ∧ ∃ cell : Cell, h0[a1]? = some cell ∧ cell.enterable U.cur) (fun _ _ _ _ _ => True) (fun _ U o U' => ∃ v L, o = .returned v ∧ Q_rm11_1 Z a1 a2 kz3 h0 n0 v U'.heap L ∧ FrameEnd U o U' L ({ frames := 2, cells := 1, slots := 0, locals := 34 } : Room).cells ({ frames := 2, cells := 1, slots := 0, locals := 34 } : Room).slots) := by
  refine MetFree.of_bodySync (plainFor_of_name pn_1) (hisS (List.mem_cons_self ..)) (fun _ s _ ⟨h1, _, h2, cl, h3, h4⟩ => ⟨a1, cl, by rw [h1]; rfl, by rw [h2]; exact h3, h4⟩) ?_
  intro p e s m args below meth c a' cell s₁ Bd hml0 hP hK
  obtain ⟨rfl, hZ0, hh, -⟩ := hP
  cases Bd.receiver
  have hx := Bd.exec
  have hby := Bd.bytes
  have hml : c.maxLocals = 1 := hml0
  have hZ : Z.Warmed39 (s.setCell a1 (cell.withEntry s.cur)).vm := hZ0
  have hown : (s.setCell a1 (cell.withEntry s.cur)).vm.findClass "java/io/ByteArrayOutputStream" = some m.cls := (findClass_of_methodNamed Bd.named :)
  have X0 : Stand p l e ({ frames := 2, cells := 1, slots := 0, locals := 34 } : Room) (s.setCell a1 (cell.withEntry s.cur)) m #[(.ref a1)] below meth c s₁ [] 0 0 := Stand.of_bodySync Bd
  obtain ⟨hm0, e0, M0, K0m⟩ : ∃ hm, s₁.heap = hm ∧ Mon h0 hm ∧ Keep h0 hm [a1] := ⟨_, rfl, by rw [← hh, Bd.state]; exact mon_set Bd.object _, by rw [← hh, Bd.state]; exact own_keepSet Bd.object rfl rfl rfl⟩
  have N0 := Fr.nil n0
  have O0m : Old Z n0 hm0 := O0.keep K0m (allS P1 all0)
  have K0m : Keep h0 hm0 [a1] := (Keep.refl h0 [a1]).trans K0m (allS (Or.inl (List.mem_of_getElem? (i := 0) rfl)) all0)
  refine Go.start (P := (fun o U' => ∃ v L, o = .returned v ∧ Q_rm11_1 Z a1 a2 kz3 h0 n0 v U'.heap L ∧ FrameEnd s o U' L ({ frames := 2, cells := 1, slots := 0, locals := 34 } : Room).cells ({ frames := 2, cells := 1, slots := 0, locals := 34 } : Room).slots)) (castTop (g' := (mkL a1 m 0 #[.val (.ref a1)] [])) (by first | rfl | simp [entryFrameSync, mkL, argsToLocals, Value.category]) (T := s₁)) ?_
  refine Go.st (fun t k => XS.aloadN X0.here hx rfl (hb hby d11_0) rfl rfl k) ?_
  show Go p e below _ (s₁.setTop (mkL a1 m 1 #[.val (.ref a1)] [(.ref a1)]))
  obtain ⟨T1, X1, e1, st1⟩ := getF X0 hx hZ hown (host := "") (Or.inl (w27 hw)) Via.refl e0 (P2.mon M0) (g := (mkL a1 m 1 #[.val (.ref a1)] [(.ref a1)])) rfl rfl (hb hby d11_1)
  refine Go.st st1 ?_
  show Go p e below _ (T1.setTop (mkL a1 m 4 #[.val (.ref a1)] [(.ref a2)]))
  refine Go.st (fun t k => XS.aloadN X1.here hx rfl (hb hby d11_4) rfl rfl k) ?_
  show Go p e below _ (T1.setTop (mkL a1 m 5 #[.val (.ref a1)] [(.ref a1), (.ref a2)]))
  obtain ⟨T2, X2, e2, st2⟩ := getF X1 hx hZ hown (host := "") (Or.inl (w89 hw)) Via.refl e1 (P3.mon M0) (g := (mkL a1 m 5 #[.val (.ref a1)] [(.ref a1), (.ref a2)])) rfl rfl (hb hby d11_5)
  refine Go.st st2 ?_
  show Go p e below _ (T2.setTop (mkL a1 m 8 #[.val (.ref a1)] [(.int (0 : Int32)), (.ref a2)]))
  obtain ⟨_, _, ⟨T3, L3, k3, n3⟩, -, X3, ⟨Lc3, hQ3, l3, y3, z3⟩, st3⟩ := Jvm.LawKit.callS X2 hx (y := (⟨"java/util/Arrays", "copyOf", "([BI)[B"⟩ : MethodName)) hown (mvT hZ (w91 hw)) (mvT hZ (w92 hw)) (mvT hZ (w93 hw)) (mvT hZ (w94 hw)) (by decide) (backOf (W := 2) (rm12_1 l Z a0 hw [] a2 kz3 hm0 n0 O0m (own_arvM P4 M0)) hZ (w94 hw) (w93 hw) (by decide) (by decide)) (g := (mkL a1 m 8 #[.val (.ref a1)] [(.int (0 : Int32)), (.ref a2)])) rfl (by rw [hml]; rfl) (argsL := [(.ref a2), (.int (0 : Int32))]) (rest := []) (lenOf pd_5 rfl) rfl (by show 2 * 1 + _ ≤ _; exact Nat.le_of_eq rfl) (hb hby d11_8) (fun vm₁ hw₁ => ⟨rfl, e2, (by decide : 0 + 1 ≤ _), (by decide : 0 + 0 ≤ _)⟩)
  dsimp only [Pt.U, Pt.locs, Pt.cells, Pt.slots] at X3 l3 y3 z3 st3 hQ3
  subst l3 y3 z3
  obtain ⟨b2_3, k2_3, rfl, M3, K3c, r3_0, r3_1⟩ := hQ3
  have N3 := Fr.app N0 M3
  have g_b2_3 : n0 ≤ b2_3 := Nat.le_trans (own_n0 O0m) r3_0
  have s_b2_3 : h0.size ≤ b2_3 := Nat.le_trans K0m.1 r3_0
  have O3 : Old Z n0 T3.heap := O0m.keep K3c all0
  have K3 : Keep h0 T3.heap [a1] := K0m.trans K3c all0
  refine Go.st st3 ?_
  show Go p e below _ (T3.setTop (mkL a1 m 11 #[.val (.ref a1)] [(.ref b2_3)]))
  obtain ⟨V, hr, hrun, hended, MV, KV, hWd, hsame⟩ := own_leaveS X3 Bd.object Bd.enterable Bd.synchronized (v := some (.ref b2_3)) (fun h => by rw [Bd.returns] at h; cases h)
  have OV : Old Z n0 V.heap := O3.keep KV (allS P1 all0)
  have KV : Keep h0 V.heap [a1] := K3.trans KV (allS (Or.inl (List.mem_of_getElem? (i := 0) rfl)) all0)
  refine ⟨_, _, ?_, hrun, hended, _, _, rfl, ?_, ⟨⟨_, rfl⟩, hWd, hsame.mono (by decide) (by decide)⟩⟩
  · exact retS X3 hx Bd.returns rfl (Or.inr (Or.inr (Or.inr (Or.inr ⟨rfl, rfl, rfl⟩)))) (hb hby d11_11) hr
  · show Q_rm11_1 Z a1 a2 kz3 h0 n0 _ V.heap _
    exact ⟨b2_3, k2_3, rfl, N3, KV, s_b2_3, (own_arvM r3_1 MV), (((P2.mon M0).keep K3c nin0).mon MV), (((P3.mon M0).keep K3c nin0).mon MV)⟩
def Q_rm10_1 (Z : State) (a1 : Addr) (a2 : Addr) (a3 : Addr) (kz4 : ClassId) (h0 : Heap) (n0 : Nat) (v : Option Value) (h : Heap) (L : List Loc) : Prop := ∃ (b2_3_2 : Addr) (k2_3_2 : ClassId), v = some (.ref b2_3_2) ∧ Fr n0 L ∧ Keep h0 h [a2] ∧ h0.size ≤ b2_3_2 ∧ Arv Z h b2_3_2 k2_3_2 .byte (0 : Int32) [] (.int (0 : Int32)) ∧ Fld Z h a2 "java/io/ByteArrayOutputStream" "buf" "[B" (.ref a3) ∧ Fld Z h a2 "java/io/ByteArrayOutputStream" "count" "I" (.int (0 : Int32))
set_option maxRecDepth 65536 in
set_option maxHeartbeats 40000000 in
theorem rm10_1 (l : Launch) (Z : State) (a0 : Array Value) (hw : ∀ d ∈ tables_1, d.before a0 Z = true) (ws : List Jvm.Cond) (a1 : Addr) (a2 : Addr) (a3 : Addr) (kz4 : ClassId) (h0 : Heap) (n0 : Nat) (O0 : Old Z n0 h0) (P1 : Fld Z h0 a1 "com/example/outbound_courier/outboundcourier/http/BodyReader" "kept" "Ljava/io/ByteArrayOutputStream;" (.ref a2)) (P2 : Exa Z h0 a2 "java/io/ByteArrayOutputStream") (P3 : n0 ≤ a2) (P4 : Fld Z h0 a2 "java/io/ByteArrayOutputStream" "buf" "[B" (.ref a3)) (P5 : Fld Z h0 a2 "java/io/ByteArrayOutputStream" "count" "I" (.int (0 : Int32))) (P6 : Arv Z h0 a3 kz4 .byte (32 : Int32) [(.int (0 : Int32)), (.int (0 : Int32)), (.int (0 : Int32)), (.int (0 : Int32)), (.int (0 : Int32)), (.int (0 : Int32)), (.int (0 : Int32)), (.int (0 : Int32)), (.int (0 : Int32)), (.int (0 : Int32)), (.int (0 : Int32)), (.int (0 : Int32)), (.int (0 : Int32)), (.int (0 : Int32)), (.int (0 : Int32)), (.int (0 : Int32)), (.int (0 : Int32)), (.int (0 : Int32)), (.int (0 : Int32)), (.int (0 : Int32)), (.int (0 : Int32)), (.int (0 : Int32)), (.int (0 : Int32)), (.int (0 : Int32)), (.int (0 : Int32)), (.int (0 : Int32)), (.int (0 : Int32)), (.int (0 : Int32)), (.int (0 : Int32)), (.int (0 : Int32)), (.int (0 : Int32)), (.int (0 : Int32))] (.int (0 : Int32))) (P7 : Unt h0 a2) :
    MetFree l (⟨"com/example/outbound_courier/outboundcourier/http/BodyReader", "body", "()[B"⟩ : MethodName) (head1 (Jvm.Cond.code (⟨"com/example/outbound_courier/outboundcourier/http/BodyReader", "body", "()[B"⟩ : MethodName) prog_4_method_5_code 1 (some (.array .byte)) :: ws) ({ frames := 3, cells := 1, slots := 0, locals := 46 } : Room)) (fun a U => a = #[(.ref a1)] ∧ Z.Warmed39 U.vm ∧ U.heap = h0) (fun _ _ _ _ _ => True) (fun _ U o U' => ∃ v L, o = .returned v ∧ Q_rm10_1 Z a1 a2 a3 kz4 h0 n0 v U'.heap L ∧ FrameEnd U o U' L ({ frames := 3, cells := 1, slots := 0, locals := 46 } : Room).cells ({ frames := 3, cells := 1, slots := 0, locals := 46 } : Room).slots) := by
  refine MetFree.of_bodySF (plainFor_of_name pn_4) hisR ?_
  intro p e s m args below meth c s₁ Bd hml0 hP hK
  obtain ⟨rfl, hZ, hh⟩ := hP
  have hx := Bd.exec
  have hby := Bd.bytes
  have hml : c.maxLocals = 1 := hml0
  have hown : s.vm.findClass "com/example/outbound_courier/outboundcourier/http/BodyReader" = some m.cls := findClass_of_methodNamed Bd.named
  have hnm := (name_of_methodNamed Bd.named Bd.method).1
  have X0 : Stand p l e ({ frames := 3, cells := 1, slots := 0, locals := 46 } : Room) s m #[(.ref a1)] below meth c s₁ [] 0 0 := Stand.of_body Bd
  have e0 : s₁.heap = h0 := by rw [← hh, Bd.state]; rfl
  have N0 := Fr.nil n0
  refine Go.start (P := (fun o U' => ∃ v L, o = .returned v ∧ Q_rm10_1 Z a1 a2 a3 kz4 h0 n0 v U'.heap L ∧ FrameEnd s o U' L ({ frames := 3, cells := 1, slots := 0, locals := 46 } : Room).cells ({ frames := 3, cells := 1, slots := 0, locals := 46 } : Room).slots)) (castTop (g' := (mkF m 0 #[.val (.ref a1)] [])) (by first | rfl | simp [entryFrame, mkF, argsToLocals, Value.category]) (T := s₁)) ?_
  refine Go.st (fun t k => XS.aloadN X0.here hx rfl (hb hby d10_0) rfl rfl k) ?_
  show Go p e below _ (s₁.setTop (mkF m 1 #[.val (.ref a1)] [(.ref a1)]))
  obtain ⟨T1, X1, e1, st1⟩ := getF X0 hx hZ hown (host := "") (Or.inl (w29 hw)) Via.refl e0 P1 (g := (mkF m 1 #[.val (.ref a1)] [(.ref a1)])) rfl rfl (hb hby d10_1)
  refine Go.st st1 ?_
  show Go p e below _ (T1.setTop (mkF m 4 #[.val (.ref a1)] [(.ref a2)]))
  obtain ⟨cq2, kq2, q2a, q2b, q2c⟩ := isOf hZ e1 P2
  obtain ⟨_, _, ⟨T2, L2, k2, n2⟩, -, X2, ⟨Lc2, hQ2, l2, y2, z2⟩, st2⟩ := X1.virtualBack hx (y := (⟨"java/io/ByteArrayOutputStream", "toByteArray", "()[B"⟩ : MethodName)) (z := (⟨"java/io/ByteArrayOutputStream", "toByteArray", "()[B"⟩ : MethodName)) hown (mvT hZ (w84 hw)) (mvT hZ (w85 hw)) (notFace_of_selects (args := #[]) (mvT hZ (w87 hw))) (mvT hZ (w87 hw)) (mvT hZ (w86 hw)) (by decide) (own_backSync (W := 0) (rm11_1 l Z a0 hw [] a2 a3 kz4 h0 n0 O0 P3 P4 P5 P6 P2 P7) hZ (w88 hw) (w86 hw) (w11 hw) P7 (by decide) (by decide)) q2a q2c (g := (mkF m 4 #[.val (.ref a1)] [(.ref a2)])) rfl (by rw [hml]; rfl) (Steps.refl _) (argsL := []) (rest := []) (lenOf pd_6 rfl) rfl (by show 2 * 0 + _ ≤ _; exact Nat.le_of_eq rfl) (hb hby d10_4) (fun vm₁ hw₁ => ⟨rfl, e1, (by decide : 0 + 1 ≤ _), (by decide : 0 + 0 ≤ _)⟩)
  dsimp only [Pt.U, Pt.locs, Pt.cells, Pt.slots] at X2 l2 y2 z2 st2 hQ2
  subst l2 y2 z2
  obtain ⟨b2_3_2, k2_3_2, rfl, M2, K2c, r2_0, r2_1, r2_2, r2_3⟩ := hQ2
  have N2 := Fr.app N0 M2
  have g_b2_3_2 : n0 ≤ b2_3_2 := Nat.le_trans (own_n0 O0) r2_0
  have s_b2_3_2 : h0.size ≤ b2_3_2 := Nat.le_trans (Keep.refl h0 [a2]).1 r2_0
  have O2 : Old Z n0 T2.heap := O0.keep K2c (allS P3 all0)
  have K2 : Keep h0 T2.heap [a2] := (Keep.refl h0 [a2]).trans K2c (allS (Or.inl (List.mem_of_getElem? (i := 0) rfl)) all0)
  refine Go.tr st2 ?_
  show Go p e below _ (T2.setTop (mkF m 7 #[.val (.ref a1)] [(.ref b2_3_2)]))
  obtain ⟨fs, hr, hrun, hended, hWd, hsame⟩ := X2.leave (v := some (.ref b2_3_2)) (fun h => by rw [Bd.returns] at h; cases h)
  refine ⟨_, _, ?_, hrun, hended, _, _, rfl, ?_, ⟨⟨_, rfl⟩, hWd, hsame.mono (by decide) (by decide)⟩⟩
  · exact own_retA X2 hx Bd.returns rfl rfl (hb hby d10_7) hr
  · show Q_rm10_1 Z a1 a2 a3 kz4 h0 n0 _ T2.heap _
    exact ⟨b2_3_2, k2_3_2, rfl, N2, K2, s_b2_3_2, r2_1, r2_2, r2_3⟩
def Q_rm1_2 (Z : State) (a1 : Addr) (q2 : Int64) (p3 : Int32) (p4 : Int32) (a5 : Addr) (a6 : Addr) (h0 : Heap) (n0 : Nat) (v : Option Value) (h : Heap) (L : List Loc) : Prop := ∃ (b2 : Addr) (b2_1_3 : Addr) (b6 : Addr) (b3_1_7 : Addr) (k2_1_3 : ClassId) (k3_1_7 : ClassId), v = none ∧ Fr n0 L ∧ Keep h0 h [a1] ∧ h0.size ≤ b2 ∧ h0.size ≤ b2_1_3 ∧ h0.size ≤ b6 ∧ h0.size ≤ b3_1_7 ∧ b2 ≠ b2_1_3 ∧ b2 ≠ b6 ∧ b2 ≠ b3_1_7 ∧ b2_1_3 ≠ b6 ∧ b2_1_3 ≠ b3_1_7 ∧ b6 ≠ b3_1_7 ∧ Fld Z h a1 "com/example/outbound_courier/outboundcourier/http/BodyReader" "kept" "Ljava/io/ByteArrayOutputStream;" (.ref b2) ∧ Fld Z h a1 "com/example/outbound_courier/outboundcourier/http/BodyReader" "line" "Ljava/lang/StringBuilder;" (.ref b6) ∧ Fld Z h a1 "com/example/outbound_courier/outboundcourier/http/BodyReader" "maxBytes" "I" (.int p3) ∧ Fld Z h a1 "com/example/outbound_courier/outboundcourier/http/BodyReader" "chunked" "Z" (.int (0 : Int32)) ∧ Fld Z h a1 "com/example/outbound_courier/outboundcourier/http/BodyReader" "left" "J" (.long q2) ∧ Fld Z h a1 "com/example/outbound_courier/outboundcourier/http/BodyReader" "state" "Lcom/example/outbound_courier/outboundcourier/http/BodyReader$State;" (.ref a6) ∧ Fld Z h a1 "com/example/outbound_courier/outboundcourier/http/BodyReader" "tooLarge" "Z" (.int (1 : Int32)) ∧ Exa Z h b2 "java/io/ByteArrayOutputStream" ∧ Unt h b2 ∧ Fld Z h b2 "java/io/ByteArrayOutputStream" "buf" "[B" (.ref b2_1_3) ∧ Fld Z h b2 "java/io/ByteArrayOutputStream" "count" "I" (.int (0 : Int32)) ∧ Exa Z h b6 "java/lang/StringBuilder" ∧ Fld Z h b6 "java/lang/AbstractStringBuilder" "value" "[B" (.ref b3_1_7) ∧ Fld Z h b6 "java/lang/AbstractStringBuilder" "coder" "B" (.int (0 : Int32)) ∧ Arv Z h b2_1_3 k2_1_3 .byte (32 : Int32) [(.int (0 : Int32)), (.int (0 : Int32)), (.int (0 : Int32)), (.int (0 : Int32)), (.int (0 : Int32)), (.int (0 : Int32)), (.int (0 : Int32)), (.int (0 : Int32)), (.int (0 : Int32)), (.int (0 : Int32)), (.int (0 : Int32)), (.int (0 : Int32)), (.int (0 : Int32)), (.int (0 : Int32)), (.int (0 : Int32)), (.int (0 : Int32)), (.int (0 : Int32)), (.int (0 : Int32)), (.int (0 : Int32)), (.int (0 : Int32)), (.int (0 : Int32)), (.int (0 : Int32)), (.int (0 : Int32)), (.int (0 : Int32)), (.int (0 : Int32)), (.int (0 : Int32)), (.int (0 : Int32)), (.int (0 : Int32)), (.int (0 : Int32)), (.int (0 : Int32)), (.int (0 : Int32)), (.int (0 : Int32))] (.int (0 : Int32)) ∧ Arv Z h b3_1_7 k3_1_7 .byte (16 : Int32) [(.int (0 : Int32)), (.int (0 : Int32)), (.int (0 : Int32)), (.int (0 : Int32)), (.int (0 : Int32)), (.int (0 : Int32)), (.int (0 : Int32)), (.int (0 : Int32)), (.int (0 : Int32)), (.int (0 : Int32)), (.int (0 : Int32)), (.int (0 : Int32)), (.int (0 : Int32)), (.int (0 : Int32)), (.int (0 : Int32)), (.int (0 : Int32))] (.int (0 : Int32))
set_option maxRecDepth 65536 in
set_option maxHeartbeats 40000000 in
theorem rm1_2 (l : Launch) (Z : State) (a0 : Array Value) (hw : ∀ d ∈ tables_1, d.before a0 Z = true) (ws : List Jvm.Cond) (a1 : Addr) (q2 : Int64) (p3 : Int32) (p4 : Int32) (a5 : Addr) (a6 : Addr) (h0 : Heap) (n0 : Nat) (O0 : Old Z n0 h0) (P1 : Exa Z h0 a1 "com/example/outbound_courier/outboundcourier/http/BodyReader") (P2 : Fld Z h0 a1 "com/example/outbound_courier/outboundcourier/http/BodyReader" "kept" "Ljava/io/ByteArrayOutputStream;" .null) (P3 : n0 ≤ a1) (P4 : Sta Z Z.heap "java/lang/String" "COMPACT_STRINGS" "Z" (.int p4)) (P5 : ¬ (p4 = (0 : Int32))) (P6 : Fld Z h0 a1 "com/example/outbound_courier/outboundcourier/http/BodyReader" "line" "Ljava/lang/StringBuilder;" .null) (P7 : Fld Z h0 a1 "com/example/outbound_courier/outboundcourier/http/BodyReader" "maxBytes" "I" (.int (0 : Int32))) (P8 : ¬ (q2 = (-1 : Int64))) (P9 : Fld Z h0 a1 "com/example/outbound_courier/outboundcourier/http/BodyReader" "chunked" "Z" (.int (0 : Int32))) (P10 : Fld Z h0 a1 "com/example/outbound_courier/outboundcourier/http/BodyReader" "left" "J" (.long (0 : Int64))) (P11 : Sta Z Z.heap "com/example/outbound_courier/outboundcourier/http/BodyReader$State" "DATA" "Lcom/example/outbound_courier/outboundcourier/http/BodyReader$State;" (.ref a5)) (P12 : Fld Z h0 a1 "com/example/outbound_courier/outboundcourier/http/BodyReader" "state" "Lcom/example/outbound_courier/outboundcourier/http/BodyReader$State;" .null) (P13 : (p3.toInt64) < q2) (P14 : Fld Z h0 a1 "com/example/outbound_courier/outboundcourier/http/BodyReader" "tooLarge" "Z" (.int (0 : Int32))) (P15 : q2 = (0 : Int64)) (P16 : Sta Z Z.heap "com/example/outbound_courier/outboundcourier/http/BodyReader$State" "DONE" "Lcom/example/outbound_courier/outboundcourier/http/BodyReader$State;" (.ref a6)) :
    MetFree l (⟨"com/example/outbound_courier/outboundcourier/http/BodyReader", "<init>", "(JI)V"⟩ : MethodName) (head1 (Jvm.Cond.code (⟨"com/example/outbound_courier/outboundcourier/http/BodyReader", "<init>", "(JI)V"⟩ : MethodName) prog_4_method_1_code 4 none :: ws) ({ frames := 4, cells := 4, slots := 54, locals := 51 } : Room)) (fun a U => a = #[(.ref a1), (.long q2), (.int p3)] ∧ Z.Warmed39 U.vm ∧ U.heap = h0) (fun _ _ _ _ _ => True) (fun _ U o U' => ∃ v L, o = .returned v ∧ Q_rm1_2 Z a1 q2 p3 p4 a5 a6 h0 n0 v U'.heap L ∧ FrameEnd U o U' L ({ frames := 4, cells := 4, slots := 54, locals := 51 } : Room).cells ({ frames := 4, cells := 4, slots := 54, locals := 51 } : Room).slots) := by
  refine MetFree.of_bodySF (plainFor_of_name pn_4) hisR ?_
  intro p e s m args below meth c s₁ Bd hml0 hP hK
  obtain ⟨rfl, hZ, hh⟩ := hP
  have hx := Bd.exec
  have hby := Bd.bytes
  have hml : c.maxLocals = 4 := hml0
  have hown : s.vm.findClass "com/example/outbound_courier/outboundcourier/http/BodyReader" = some m.cls := findClass_of_methodNamed Bd.named
  have hnm := (name_of_methodNamed Bd.named Bd.method).1
  have X0 : Stand p l e ({ frames := 4, cells := 4, slots := 54, locals := 51 } : Room) s m #[(.ref a1), (.long q2), (.int p3)] below meth c s₁ [] 0 0 := Stand.of_body Bd
  have e0 : s₁.heap = h0 := by rw [← hh, Bd.state]; rfl
  have N0 := Fr.nil n0
  refine Go.start (P := (fun o U' => ∃ v L, o = .returned v ∧ Q_rm1_2 Z a1 q2 p3 p4 a5 a6 h0 n0 v U'.heap L ∧ FrameEnd s o U' L ({ frames := 4, cells := 4, slots := 54, locals := 51 } : Room).cells ({ frames := 4, cells := 4, slots := 54, locals := 51 } : Room).slots)) (castTop (g' := (mkF m 0 #[.val (.ref a1), .val (.long q2), .second, .val (.int p3)] [])) (by first | rfl | simp [entryFrame, mkF, argsToLocals, Value.category]) (T := s₁)) ?_
  refine Go.st (fun t k => XS.aloadN X0.here hx rfl (hb hby d1_0) rfl rfl k) ?_
  show Go p e below _ (s₁.setTop (mkF m 1 #[.val (.ref a1), .val (.long q2), .second, .val (.int p3)] [(.ref a1)]))
  obtain ⟨T1, X1, e1, st1⟩ := initO X0 hx hZ hown (w6 hw) (w7 hw) (w8 hw) e0 (g := (mkF m 1 #[.val (.ref a1), .val (.long q2), .second, .val (.int p3)] [(.ref a1)])) rfl (by rw [hml]; rfl) rfl (hb hby d1_1) (by decide) (W := 0) (by show 2 * 0 + _ ≤ _; exact Nat.le_of_eq rfl) (by decide)
  refine Go.st st1 ?_
  show Go p e below _ (T1.setTop (mkF m 4 #[.val (.ref a1), .val (.long q2), .second, .val (.int p3)] []))
  refine Go.st (fun t k => XS.aloadN X1.here hx rfl (hb hby d1_4) rfl rfl k) ?_
  show Go p e below _ (T1.setTop (mkF m 5 #[.val (.ref a1), .val (.long q2), .second, .val (.int p3)] [(.ref a1)]))
  obtain ⟨T2, h2, X2, e2, E2, A2, D2, U2, st2⟩ := newO X1 hx hZ hown (w9 hw) (w10 hw) (w11 hw) e1 (g := (mkF m 5 #[.val (.ref a1), .val (.long q2), .second, .val (.int p3)] [(.ref a1)])) rfl (hb hby d1_5) (by decide) (by decide)
  obtain ⟨b2, z2⟩ : ∃ z, z = h0.size := ⟨_, rfl⟩
  rw [← z2] at A2 D2 U2 st2
  have g_b2 : n0 ≤ b2 := Nat.le_trans (own_n0 O0) (Nat.le_of_eq z2.symm)
  have s_b2 : h0.size ≤ b2 := Nat.le_trans (Keep.refl h0 [a1]).1 (Nat.le_of_eq z2.symm)
  have O2 : Old Z n0 h2 := O0.ext E2
  have K2 : Keep h0 h2 [a1] := (Keep.refl h0 [a1]).ext E2
  have f2_28 : Fld Z h2 b2 "java/io/ByteArrayOutputStream" "buf" "[B" .null := D2 (Or.inl (w28 hw)) (ty := (.array .byte)) (by decide)
  have f2_90 : Fld Z h2 b2 "java/io/ByteArrayOutputStream" "count" "I" (.int (0 : Int32)) := D2 (Or.inl (w90 hw)) (ty := .int) (by decide)
  refine Go.st st2 ?_
  show Go p e below _ (T2.setTop (mkF m 8 #[.val (.ref a1), .val (.long q2), .second, .val (.int p3)] [(.ref b2), (.ref a1)]))
  refine Go.st (fun t k => XS.dup X2.here hx rfl (hb hby d1_8) rfl rfl k) ?_
  show Go p e below _ (T2.setTop (mkF m 9 #[.val (.ref a1), .val (.long q2), .second, .val (.int p3)] [(.ref b2), (.ref b2), (.ref a1)]))
  obtain ⟨_, _, ⟨T3, L3, k3, n3⟩, -, X3, ⟨Lc3, hQ3, l3, y3, z3⟩, st3⟩ := X2.specialBack hx (y := (⟨"java/io/ByteArrayOutputStream", "<init>", "()V"⟩ : MethodName)) rfl hown (mvT hZ (w12 hw)) (mvT hZ (w13 hw)) (mvT hZ (w14 hw)) (by decide) (backOf (W := 2) (rm3_1 l Z a0 hw [] b2 h2 n0 O2 A2 f2_28 g_b2 U2 f2_90) hZ (w14 hw) (w11 hw) (by decide) (by decide)) (g := (mkF m 9 #[.val (.ref a1), .val (.long q2), .second, .val (.int p3)] [(.ref b2), (.ref b2), (.ref a1)])) rfl (by rw [hml]; rfl) (Steps.refl _) (a := b2) (argsL := []) (rest := [(.ref b2), (.ref a1)]) (lenOf pd_0 rfl) rfl (by show 2 * 0 + _ ≤ _; exact Nat.le_of_eq rfl) (hb hby d1_9) (fun vm₁ hw₁ => ⟨rfl, e2, (by decide : 1 + 1 ≤ _), (by decide : 2 + 32 ≤ _)⟩)
  dsimp only [Pt.U, Pt.locs, Pt.cells, Pt.slots] at X3 l3 y3 z3 st3 hQ3
  subst l3 y3 z3
  obtain ⟨b2_1_3, k2_1_3, rfl, M3, K3c, r3_0, r3_1, r3_2, r3_3, r3_4⟩ := hQ3
  have N3 := Fr.app N0 M3
  have g_b2_1_3 : n0 ≤ b2_1_3 := Nat.le_trans (own_n0 O2) r3_0
  have s_b2_1_3 : h0.size ≤ b2_1_3 := Nat.le_trans K2.1 r3_0
  have O3 : Old Z n0 T3.heap := O2.keep K3c (allS g_b2 all0)
  have K3 : Keep h0 T3.heap [a1] := K2.trans K3c (allS (Or.inr s_b2) all0)
  refine Go.tr st3 ?_
  show Go p e below _ (T3.setTop (mkF m 12 #[.val (.ref a1), .val (.long q2), .second, .val (.int p3)] [(.ref b2), (.ref a1)]))
  have c4 := ((P2.ext E2).keep K3c (ninS (Nat.ne_of_lt (Nat.lt_of_lt_of_le P1.lt (Nat.le_of_eq z2.symm))) nin0))
  obtain ⟨T5, h5, X5, e5, W5, st5⟩ := putF X3 hx hZ hown (host := "") (Or.inl (w29 hw)) Via.refl rfl c4 ((P1.ext E2).keep K3c) (Or.inr ⟨(w30 hw), rfl, hnm⟩) (w1 hw) (ty := (.object "java/io/ByteArrayOutputStream")) (by decide) rfl rfl (g := (mkF m 12 #[.val (.ref a1), .val (.long q2), .second, .val (.int p3)] [(.ref b2), (.ref a1)])) rfl rfl (hb hby d1_12)
  have F5 : Fld Z h5 a1 "com/example/outbound_courier/outboundcourier/http/BodyReader" "kept" "Ljava/io/ByteArrayOutputStream;" (.ref b2) := c4.same W5
  have N5 := Fr.snoc X5 N3 P3
  have O5 : Old Z n0 h5 := O3.wr W5 P3
  have K5 : Keep h0 h5 [a1] := K3.wr W5 (Or.inl (List.mem_of_getElem? (i := 0) rfl))
  refine Go.st st5 ?_
  show Go p e below _ (T5.setTop (mkF m 15 #[.val (.ref a1), .val (.long q2), .second, .val (.int p3)] []))
  refine Go.st (fun t k => XS.aloadN X5.here hx rfl (hb hby d1_15) rfl rfl k) ?_
  show Go p e below _ (T5.setTop (mkF m 16 #[.val (.ref a1), .val (.long q2), .second, .val (.int p3)] [(.ref a1)]))
  obtain ⟨T6, h6, X6, e6, E6, A6, D6, -, st6⟩ := newO X5 hx hZ hown (w31 hw) (w32 hw) (w33 hw) e5 (g := (mkF m 16 #[.val (.ref a1), .val (.long q2), .second, .val (.int p3)] [(.ref a1)])) rfl (hb hby d1_16) (by decide) (by decide)
  obtain ⟨b6, z6⟩ : ∃ z, z = h5.size := ⟨_, rfl⟩
  rw [← z6] at A6 D6 st6
  have g_b6 : n0 ≤ b6 := Nat.le_trans (own_n0 O5) (Nat.le_of_eq z6.symm)
  have s_b6 : h0.size ≤ b6 := Nat.le_trans K5.1 (Nat.le_of_eq z6.symm)
  have O6 : Old Z n0 h6 := O5.ext E6
  have K6 : Keep h0 h6 [a1] := K5.ext E6
  have f6_47 : Fld Z h6 b6 "java/lang/AbstractStringBuilder" "value" "[B" .null := D6 (Or.inl (w47 hw)) (ty := (.array .byte)) (by decide)
  have f6_49 : Fld Z h6 b6 "java/lang/AbstractStringBuilder" "coder" "B" (.int (0 : Int32)) := D6 (Or.inl (w49 hw)) (ty := .byte) (by decide)
  refine Go.st st6 ?_
  show Go p e below _ (T6.setTop (mkF m 19 #[.val (.ref a1), .val (.long q2), .second, .val (.int p3)] [(.ref b6), (.ref a1)]))
  refine Go.st (fun t k => XS.dup X6.here hx rfl (hb hby d1_19) rfl rfl k) ?_
  show Go p e below _ (T6.setTop (mkF m 20 #[.val (.ref a1), .val (.long q2), .second, .val (.int p3)] [(.ref b6), (.ref b6), (.ref a1)]))
  obtain ⟨_, _, ⟨T7, L7, k7, n7⟩, -, X7, ⟨Lc7, hQ7, l7, y7, z7⟩, st7⟩ := X6.specialBack hx (y := (⟨"java/lang/StringBuilder", "<init>", "()V"⟩ : MethodName)) rfl hown (mvT hZ (w34 hw)) (mvT hZ (w35 hw)) (mvT hZ (w36 hw)) (by decide) (backOf (W := 2) (rm6_1 l Z a0 hw [] b6 p4 h6 n0 O6 P4 P5 A6 f6_47 g_b6 f6_49) hZ (w36 hw) (w33 hw) (by decide) (by decide)) (g := (mkF m 20 #[.val (.ref a1), .val (.long q2), .second, .val (.int p3)] [(.ref b6), (.ref b6), (.ref a1)])) rfl (by rw [hml]; rfl) (Steps.refl _) (a := b6) (argsL := []) (rest := [(.ref b6), (.ref a1)]) (lenOf pd_0 rfl) rfl (by show 2 * 0 + _ ≤ _; exact Nat.le_of_eq rfl) (hb hby d1_20) (fun vm₁ hw₁ => ⟨rfl, e6, (by decide : 3 + 1 ≤ _), (by decide : 38 + 16 ≤ _)⟩)
  dsimp only [Pt.U, Pt.locs, Pt.cells, Pt.slots] at X7 l7 y7 z7 st7 hQ7
  subst l7 y7 z7
  obtain ⟨b3_1_7, k3_1_7, rfl, M7, K7c, r7_0, r7_1, r7_2, r7_3⟩ := hQ7
  have N7 := Fr.app N5 M7
  have g_b3_1_7 : n0 ≤ b3_1_7 := Nat.le_trans (own_n0 O6) r7_0
  have s_b3_1_7 : h0.size ≤ b3_1_7 := Nat.le_trans K6.1 r7_0
  have O7 : Old Z n0 T7.heap := O6.keep K7c (allS g_b6 all0)
  have K7 : Keep h0 T7.heap [a1] := K6.trans K7c (allS (Or.inr s_b6) all0)
  refine Go.tr st7 ?_
  show Go p e below _ (T7.setTop (mkF m 23 #[.val (.ref a1), .val (.long q2), .second, .val (.int p3)] [(.ref b6), (.ref a1)]))
  have c8 := (((((P1.ext E2).keep K3c).wr W5).ext E6).keep K7c)
  have c9 := (((((P6.ext E2).keep K3c (ninS (Nat.ne_of_lt (Nat.lt_of_lt_of_le P1.lt (Nat.le_of_eq z2.symm))) nin0)).other W5 (Or.inr (slot_ne (Or.inr (w51 hw)) (Or.inr (w30 hw)) (by decide) (t := (.object "java/lang/StringBuilder")) (t' := (.object "java/io/ByteArrayOutputStream")) (by decide) (by decide)))).ext E6).keep K7c (ninS (Nat.ne_of_lt (Nat.lt_of_lt_of_le (Nat.lt_of_lt_of_le (Nat.lt_of_lt_of_le (Nat.lt_of_lt_of_le P1.lt E2.1) K3c.1) (Nat.le_of_eq W5.size.symm)) (Nat.le_of_eq z6.symm))) nin0))
  obtain ⟨T10, h10, X10, e10, W10, st10⟩ := putF X7 hx hZ hown (host := "") (Or.inl (w50 hw)) Via.refl rfl c9 c8 (Or.inr ⟨(w51 hw), rfl, hnm⟩) (w1 hw) (ty := (.object "java/lang/StringBuilder")) (by decide) rfl rfl (g := (mkF m 23 #[.val (.ref a1), .val (.long q2), .second, .val (.int p3)] [(.ref b6), (.ref a1)])) rfl rfl (hb hby d1_23)
  have F10 : Fld Z h10 a1 "com/example/outbound_courier/outboundcourier/http/BodyReader" "line" "Ljava/lang/StringBuilder;" (.ref b6) := c9.same W10
  have N10 := Fr.snoc X10 N7 P3
  have O10 : Old Z n0 h10 := O7.wr W10 P3
  have K10 : Keep h0 h10 [a1] := K7.wr W10 (Or.inl (List.mem_of_getElem? (i := 0) rfl))
  refine Go.st st10 ?_
  show Go p e below _ (T10.setTop (mkF m 26 #[.val (.ref a1), .val (.long q2), .second, .val (.int p3)] []))
  refine Go.st (fun t k => XS.aloadN X10.here hx rfl (hb hby d1_26) rfl rfl k) ?_
  show Go p e below _ (T10.setTop (mkF m 27 #[.val (.ref a1), .val (.long q2), .second, .val (.int p3)] [(.ref a1)]))
  refine Go.st (fun t k => XS.iloadN X10.here hx rfl (hb hby d1_27) rfl k) ?_
  show Go p e below _ (T10.setTop (mkF m 28 #[.val (.ref a1), .val (.long q2), .second, .val (.int p3)] [(.int p3), (.ref a1)]))
  have c11 := ((((((P7.ext E2).keep K3c (ninS (Nat.ne_of_lt (Nat.lt_of_lt_of_le P1.lt (Nat.le_of_eq z2.symm))) nin0)).other W5 (Or.inr (slot_ne (Or.inr (w53 hw)) (Or.inr (w30 hw)) (by decide) (t := .int) (t' := (.object "java/io/ByteArrayOutputStream")) (by decide) (by decide)))).ext E6).keep K7c (ninS (Nat.ne_of_lt (Nat.lt_of_lt_of_le (Nat.lt_of_lt_of_le (Nat.lt_of_lt_of_le (Nat.lt_of_lt_of_le P1.lt E2.1) K3c.1) (Nat.le_of_eq W5.size.symm)) (Nat.le_of_eq z6.symm))) nin0)).other W10 (Or.inr (slot_ne (Or.inr (w53 hw)) (Or.inr (w51 hw)) (by decide) (t := .int) (t' := (.object "java/lang/StringBuilder")) (by decide) (by decide))))
  obtain ⟨T12, h12, X12, e12, W12, st12⟩ := putF X10 hx hZ hown (host := "") (Or.inl (w52 hw)) Via.refl e10 c11 (c8.wr W10) (Or.inr ⟨(w53 hw), rfl, hnm⟩) (w1 hw) (ty := .int) (by decide) rfl rfl (g := (mkF m 28 #[.val (.ref a1), .val (.long q2), .second, .val (.int p3)] [(.int p3), (.ref a1)])) rfl rfl (hb hby d1_28)
  have F12 : Fld Z h12 a1 "com/example/outbound_courier/outboundcourier/http/BodyReader" "maxBytes" "I" (.int p3) := c11.same W12
  have N12 := Fr.snoc X12 N10 P3
  have O12 : Old Z n0 h12 := O10.wr W12 P3
  have K12 : Keep h0 h12 [a1] := K10.wr W12 (Or.inl (List.mem_of_getElem? (i := 0) rfl))
  refine Go.st st12 ?_
  show Go p e below _ (T12.setTop (mkF m 31 #[.val (.ref a1), .val (.long q2), .second, .val (.int p3)] []))
  refine Go.st (fun t k => XS.aloadN X12.here hx rfl (hb hby d1_31) rfl rfl k) ?_
  show Go p e below _ (T12.setTop (mkF m 32 #[.val (.ref a1), .val (.long q2), .second, .val (.int p3)] [(.ref a1)]))
  refine Go.st (fun t k => XS.lloadN X12.here hx rfl (hb hby d1_32) rfl k) ?_
  show Go p e below _ (T12.setTop (mkF m 33 #[.val (.ref a1), .val (.long q2), .second, .val (.int p3)] [(.long q2), (.ref a1)]))
  refine Go.st (fun t k => X12.ldc2J hx hown (mvT hZ (w54 hw)) (g := (mkF m 33 #[.val (.ref a1), .val (.long q2), .second, .val (.int p3)] [(.long q2), (.ref a1)])) rfl (hb hby d1_33) k) ?_
  show Go p e below _ (T12.setTop (mkF m 36 #[.val (.ref a1), .val (.long q2), .second, .val (.int p3)] [(.long (-1 : Int64)), (.long q2), (.ref a1)]))
  refine Go.st (fun t k => Jvm.Free.XT.lcmp X12.here hx rfl (hb hby d1_36) rfl k) ?_
  show Go p e below _ (T12.setTop (mkF m 37 #[.val (.ref a1), .val (.long q2), .second, .val (.int p3)] [(.int (Jvm.Free.XT.cmpL q2 (-1 : Int64))), (.ref a1)]))
  refine Go.st (fun t k => XS.ifYes X12.here hx rfl (pc0 := 37) (pc' := 44) rfl (hb hby d1_37) rfl (Jvm.Free.XT.ll_ne_t P8) (by decide) (by decide) k) ?_
  show Go p e below _ (T12.setTop (mkF m 44 #[.val (.ref a1), .val (.long q2), .second, .val (.int p3)] [(.ref a1)]))
  refine Go.st (fun t k => XS.iconst X12.here hx rfl (hb hby d1_44) k) ?_
  show Go p e below _ (T12.setTop (mkF m 45 #[.val (.ref a1), .val (.long q2), .second, .val (.int p3)] [(.int (0 : Int32)), (.ref a1)]))
  have c13 := (((((((P9.ext E2).keep K3c (ninS (Nat.ne_of_lt (Nat.lt_of_lt_of_le P1.lt (Nat.le_of_eq z2.symm))) nin0)).other W5 (Or.inr (slot_ne (Or.inr (w56 hw)) (Or.inr (w30 hw)) (by decide) (t := .boolean) (t' := (.object "java/io/ByteArrayOutputStream")) (by decide) (by decide)))).ext E6).keep K7c (ninS (Nat.ne_of_lt (Nat.lt_of_lt_of_le (Nat.lt_of_lt_of_le (Nat.lt_of_lt_of_le (Nat.lt_of_lt_of_le P1.lt E2.1) K3c.1) (Nat.le_of_eq W5.size.symm)) (Nat.le_of_eq z6.symm))) nin0)).other W10 (Or.inr (slot_ne (Or.inr (w56 hw)) (Or.inr (w51 hw)) (by decide) (t := .boolean) (t' := (.object "java/lang/StringBuilder")) (by decide) (by decide)))).other W12 (Or.inr (slot_ne (Or.inr (w56 hw)) (Or.inr (w53 hw)) (by decide) (t := .boolean) (t' := .int) (by decide) (by decide))))
  obtain ⟨T14, h14, X14, e14, W14, st14⟩ := putFN X12 hx hZ hown (w55 hw) Via.refl e12 c13 ((c8.wr W10).wr W12) (Or.inr ⟨(w56 hw), rfl, hnm⟩) (w1 hw) (ty := .boolean) (v' := (.int (0 : Int32))) (by decide) rfl (by decide) (g := (mkF m 45 #[.val (.ref a1), .val (.long q2), .second, .val (.int p3)] [(.int (0 : Int32)), (.ref a1)])) rfl rfl (hb hby d1_45)
  have F14 : Fld Z h14 a1 "com/example/outbound_courier/outboundcourier/http/BodyReader" "chunked" "Z" (.int (0 : Int32)) := c13.same W14
  have N14 := Fr.snoc X14 N12 P3
  have O14 : Old Z n0 h14 := O12.wr W14 P3
  have K14 : Keep h0 h14 [a1] := K12.wr W14 (Or.inl (List.mem_of_getElem? (i := 0) rfl))
  refine Go.st st14 ?_
  show Go p e below _ (T14.setTop (mkF m 48 #[.val (.ref a1), .val (.long q2), .second, .val (.int p3)] []))
  refine Go.st (fun t k => XS.aloadN X14.here hx rfl (hb hby d1_48) rfl rfl k) ?_
  show Go p e below _ (T14.setTop (mkF m 49 #[.val (.ref a1), .val (.long q2), .second, .val (.int p3)] [(.ref a1)]))
  refine Go.st (fun t k => XS.aloadN X14.here hx rfl (hb hby d1_49) rfl rfl k) ?_
  show Go p e below _ (T14.setTop (mkF m 50 #[.val (.ref a1), .val (.long q2), .second, .val (.int p3)] [(.ref a1), (.ref a1)]))
  obtain ⟨T15, X15, e15, st15⟩ := getF X14 hx hZ hown (host := "") (Or.inl (w55 hw)) Via.refl e14 F14 (g := (mkF m 50 #[.val (.ref a1), .val (.long q2), .second, .val (.int p3)] [(.ref a1), (.ref a1)])) rfl rfl (hb hby d1_50)
  refine Go.st st15 ?_
  show Go p e below _ (T15.setTop (mkF m 53 #[.val (.ref a1), .val (.long q2), .second, .val (.int p3)] [(.int (0 : Int32)), (.ref a1)]))
  refine Go.st (fun t k => XS.ifYes X15.here hx rfl (pc0 := 53) (pc' := 60) rfl (hb hby d1_53) rfl (Jvm.Free.XT.i0_eq_t (by decide : (0 : Int32) = (0 : Int32))) (by decide) (by decide) k) ?_
  show Go p e below _ (T15.setTop (mkF m 60 #[.val (.ref a1), .val (.long q2), .second, .val (.int p3)] [(.ref a1)]))
  refine Go.st (fun t k => XS.lloadN X15.here hx rfl (hb hby d1_60) rfl k) ?_
  show Go p e below _ (T15.setTop (mkF m 61 #[.val (.ref a1), .val (.long q2), .second, .val (.int p3)] [(.long q2), (.ref a1)]))
  have c16 := ((((((((P10.ext E2).keep K3c (ninS (Nat.ne_of_lt (Nat.lt_of_lt_of_le P1.lt (Nat.le_of_eq z2.symm))) nin0)).other W5 (Or.inr (slot_ne (Or.inl (w58 hw)) (Or.inr (w30 hw)) (by decide) (t := .long) (t' := (.object "java/io/ByteArrayOutputStream")) (by decide) (by decide)))).ext E6).keep K7c (ninS (Nat.ne_of_lt (Nat.lt_of_lt_of_le (Nat.lt_of_lt_of_le (Nat.lt_of_lt_of_le (Nat.lt_of_lt_of_le P1.lt E2.1) K3c.1) (Nat.le_of_eq W5.size.symm)) (Nat.le_of_eq z6.symm))) nin0)).other W10 (Or.inr (slot_ne (Or.inl (w58 hw)) (Or.inr (w51 hw)) (by decide) (t := .long) (t' := (.object "java/lang/StringBuilder")) (by decide) (by decide)))).other W12 (Or.inr (slot_ne (Or.inl (w58 hw)) (Or.inr (w53 hw)) (by decide) (t := .long) (t' := .int) (by decide) (by decide)))).other W14 (Or.inr (slot_ne (Or.inl (w58 hw)) (Or.inr (w56 hw)) (by decide) (t := .long) (t' := .boolean) (by decide) (by decide))))
  obtain ⟨T17, h17, X17, e17, W17, st17⟩ := putF X15 hx hZ hown (host := "") (Or.inl (w57 hw)) Via.refl e15 c16 (((c8.wr W10).wr W12).wr W14) (Or.inl (w58 hw)) (w1 hw) (ty := .long) (by decide) rfl rfl (g := (mkF m 61 #[.val (.ref a1), .val (.long q2), .second, .val (.int p3)] [(.long q2), (.ref a1)])) rfl rfl (hb hby d1_61)
  have F17 : Fld Z h17 a1 "com/example/outbound_courier/outboundcourier/http/BodyReader" "left" "J" (.long q2) := c16.same W17
  have N17 := Fr.snoc X17 N14 P3
  have O17 : Old Z n0 h17 := O14.wr W17 P3
  have K17 : Keep h0 h17 [a1] := K14.wr W17 (Or.inl (List.mem_of_getElem? (i := 0) rfl))
  refine Go.st st17 ?_
  show Go p e below _ (T17.setTop (mkF m 64 #[.val (.ref a1), .val (.long q2), .second, .val (.int p3)] []))
  refine Go.st (fun t k => XS.aloadN X17.here hx rfl (hb hby d1_64) rfl rfl k) ?_
  show Go p e below _ (T17.setTop (mkF m 65 #[.val (.ref a1), .val (.long q2), .second, .val (.int p3)] [(.ref a1)]))
  refine Go.st (fun t k => XS.aloadN X17.here hx rfl (hb hby d1_65) rfl rfl k) ?_
  show Go p e below _ (T17.setTop (mkF m 66 #[.val (.ref a1), .val (.long q2), .second, .val (.int p3)] [(.ref a1), (.ref a1)]))
  have c18 := (F14.other W17 (Or.inr (slot_ne (Or.inr (w56 hw)) (Or.inl (w58 hw)) (by decide) (t := .boolean) (t' := .long) (by decide) (by decide))))
  obtain ⟨T19, X19, e19, st19⟩ := getF X17 hx hZ hown (host := "") (Or.inl (w55 hw)) Via.refl e17 c18 (g := (mkF m 66 #[.val (.ref a1), .val (.long q2), .second, .val (.int p3)] [(.ref a1), (.ref a1)])) rfl rfl (hb hby d1_66)
  refine Go.st st19 ?_
  show Go p e below _ (T19.setTop (mkF m 69 #[.val (.ref a1), .val (.long q2), .second, .val (.int p3)] [(.int (0 : Int32)), (.ref a1)]))
  refine Go.st (fun t k => XS.ifYes X19.here hx rfl (pc0 := 69) (pc' := 78) rfl (hb hby d1_69) rfl (Jvm.Free.XT.i0_eq_t (by decide : (0 : Int32) = (0 : Int32))) (by decide) (by decide) k) ?_
  show Go p e below _ (T19.setTop (mkF m 78 #[.val (.ref a1), .val (.long q2), .second, .val (.int p3)] [(.ref a1)]))
  obtain ⟨T20, X20, e20, st20⟩ := getS2 X19 hx hZ hown (host := "") (Or.inl (w59 hw)) Via.refl e19 (P11.ext O17.2) (g := (mkF m 78 #[.val (.ref a1), .val (.long q2), .second, .val (.int p3)] [(.ref a1)])) rfl (hb hby d1_78)
  refine Go.st st20 ?_
  show Go p e below _ (T20.setTop (mkF m 81 #[.val (.ref a1), .val (.long q2), .second, .val (.int p3)] [(.ref a5), (.ref a1)]))
  have c21 := (((((((((P12.ext E2).keep K3c (ninS (Nat.ne_of_lt (Nat.lt_of_lt_of_le P1.lt (Nat.le_of_eq z2.symm))) nin0)).other W5 (Or.inr (slot_ne (Or.inl (w63 hw)) (Or.inr (w30 hw)) (by decide) (t := (.object "com/example/outbound_courier/outboundcourier/http/BodyReader$State")) (t' := (.object "java/io/ByteArrayOutputStream")) (by decide) (by decide)))).ext E6).keep K7c (ninS (Nat.ne_of_lt (Nat.lt_of_lt_of_le (Nat.lt_of_lt_of_le (Nat.lt_of_lt_of_le (Nat.lt_of_lt_of_le P1.lt E2.1) K3c.1) (Nat.le_of_eq W5.size.symm)) (Nat.le_of_eq z6.symm))) nin0)).other W10 (Or.inr (slot_ne (Or.inl (w63 hw)) (Or.inr (w51 hw)) (by decide) (t := (.object "com/example/outbound_courier/outboundcourier/http/BodyReader$State")) (t' := (.object "java/lang/StringBuilder")) (by decide) (by decide)))).other W12 (Or.inr (slot_ne (Or.inl (w63 hw)) (Or.inr (w53 hw)) (by decide) (t := (.object "com/example/outbound_courier/outboundcourier/http/BodyReader$State")) (t' := .int) (by decide) (by decide)))).other W14 (Or.inr (slot_ne (Or.inl (w63 hw)) (Or.inr (w56 hw)) (by decide) (t := (.object "com/example/outbound_courier/outboundcourier/http/BodyReader$State")) (t' := .boolean) (by decide) (by decide)))).other W17 (Or.inr (slot_ne (Or.inl (w63 hw)) (Or.inl (w58 hw)) (by decide) (t := (.object "com/example/outbound_courier/outboundcourier/http/BodyReader$State")) (t' := .long) (by decide) (by decide))))
  obtain ⟨T22, h22, X22, e22, W22, st22⟩ := putF X20 hx hZ hown (host := "") (Or.inl (w62 hw)) Via.refl e20 c21 ((((c8.wr W10).wr W12).wr W14).wr W17) (Or.inl (w63 hw)) (w1 hw) (ty := (.object "com/example/outbound_courier/outboundcourier/http/BodyReader$State")) (by decide) rfl rfl (g := (mkF m 81 #[.val (.ref a1), .val (.long q2), .second, .val (.int p3)] [(.ref a5), (.ref a1)])) rfl rfl (hb hby d1_81)
  have F22 : Fld Z h22 a1 "com/example/outbound_courier/outboundcourier/http/BodyReader" "state" "Lcom/example/outbound_courier/outboundcourier/http/BodyReader$State;" (.ref a5) := c21.same W22
  have N22 := Fr.snoc X22 N17 P3
  have O22 : Old Z n0 h22 := O17.wr W22 P3
  have K22 : Keep h0 h22 [a1] := K17.wr W22 (Or.inl (List.mem_of_getElem? (i := 0) rfl))
  refine Go.st st22 ?_
  show Go p e below _ (T22.setTop (mkF m 84 #[.val (.ref a1), .val (.long q2), .second, .val (.int p3)] []))
  refine Go.st (fun t k => XS.aloadN X22.here hx rfl (hb hby d1_84) rfl rfl k) ?_
  show Go p e below _ (T22.setTop (mkF m 85 #[.val (.ref a1), .val (.long q2), .second, .val (.int p3)] [(.ref a1)]))
  have c23 := (c18.other W22 (Or.inr (slot_ne (Or.inr (w56 hw)) (Or.inl (w63 hw)) (by decide) (t := .boolean) (t' := (.object "com/example/outbound_courier/outboundcourier/http/BodyReader$State")) (by decide) (by decide))))
  obtain ⟨T24, X24, e24, st24⟩ := getF X22 hx hZ hown (host := "") (Or.inl (w55 hw)) Via.refl e22 c23 (g := (mkF m 85 #[.val (.ref a1), .val (.long q2), .second, .val (.int p3)] [(.ref a1)])) rfl rfl (hb hby d1_85)
  refine Go.st st24 ?_
  show Go p e below _ (T24.setTop (mkF m 88 #[.val (.ref a1), .val (.long q2), .second, .val (.int p3)] [(.int (0 : Int32))]))
  refine Go.st (fun t k => XS.ifNo X24.here hx rfl (hb hby d1_88) rfl (Jvm.Free.XT.i0_ne_f (by decide : (0 : Int32) = (0 : Int32))) k) ?_
  show Go p e below _ (T24.setTop (mkF m 91 #[.val (.ref a1), .val (.long q2), .second, .val (.int p3)] []))
  refine Go.st (fun t k => XS.lloadN X24.here hx rfl (hb hby d1_91) rfl k) ?_
  show Go p e below _ (T24.setTop (mkF m 92 #[.val (.ref a1), .val (.long q2), .second, .val (.int p3)] [(.long q2)]))
  refine Go.st (fun t k => XS.iloadN X24.here hx rfl (hb hby d1_92) rfl k) ?_
  show Go p e below _ (T24.setTop (mkF m 93 #[.val (.ref a1), .val (.long q2), .second, .val (.int p3)] [(.int p3), (.long q2)]))
  refine Go.st (fun t k => XS.i2l X24.here hx rfl (hb hby d1_93) rfl k) ?_
  show Go p e below _ (T24.setTop (mkF m 94 #[.val (.ref a1), .val (.long q2), .second, .val (.int p3)] [(.long (p3.toInt64)), (.long q2)]))
  refine Go.st (fun t k => Jvm.Free.XT.lcmp X24.here hx rfl (hb hby d1_94) rfl k) ?_
  show Go p e below _ (T24.setTop (mkF m 95 #[.val (.ref a1), .val (.long q2), .second, .val (.int p3)] [(.int (Jvm.Free.XT.cmpL q2 (p3.toInt64)))]))
  refine Go.st (fun t k => XS.ifNo X24.here hx rfl (hb hby d1_95) rfl (Jvm.Free.XT.ll_le_f P13) k) ?_
  show Go p e below _ (T24.setTop (mkF m 98 #[.val (.ref a1), .val (.long q2), .second, .val (.int p3)] []))
  refine Go.st (fun t k => XS.aloadN X24.here hx rfl (hb hby d1_98) rfl rfl k) ?_
  show Go p e below _ (T24.setTop (mkF m 99 #[.val (.ref a1), .val (.long q2), .second, .val (.int p3)] [(.ref a1)]))
  refine Go.st (fun t k => XS.iconst X24.here hx rfl (hb hby d1_99) k) ?_
  show Go p e below _ (T24.setTop (mkF m 100 #[.val (.ref a1), .val (.long q2), .second, .val (.int p3)] [(.int (1 : Int32)), (.ref a1)]))
  have c25 := (((((c8.wr W10).wr W12).wr W14).wr W17).wr W22)
  have c26 := ((((((((((P14.ext E2).keep K3c (ninS (Nat.ne_of_lt (Nat.lt_of_lt_of_le P1.lt (Nat.le_of_eq z2.symm))) nin0)).other W5 (Or.inr (slot_ne (Or.inl (w78 hw)) (Or.inr (w30 hw)) (by decide) (t := .boolean) (t' := (.object "java/io/ByteArrayOutputStream")) (by decide) (by decide)))).ext E6).keep K7c (ninS (Nat.ne_of_lt (Nat.lt_of_lt_of_le (Nat.lt_of_lt_of_le (Nat.lt_of_lt_of_le (Nat.lt_of_lt_of_le P1.lt E2.1) K3c.1) (Nat.le_of_eq W5.size.symm)) (Nat.le_of_eq z6.symm))) nin0)).other W10 (Or.inr (slot_ne (Or.inl (w78 hw)) (Or.inr (w51 hw)) (by decide) (t := .boolean) (t' := (.object "java/lang/StringBuilder")) (by decide) (by decide)))).other W12 (Or.inr (slot_ne (Or.inl (w78 hw)) (Or.inr (w53 hw)) (by decide) (t := .boolean) (t' := .int) (by decide) (by decide)))).other W14 (Or.inr (slot_ne (Or.inl (w78 hw)) (Or.inr (w56 hw)) (by decide) (t := .boolean) (t' := .boolean) (by decide) (by decide)))).other W17 (Or.inr (slot_ne (Or.inl (w78 hw)) (Or.inl (w58 hw)) (by decide) (t := .boolean) (t' := .long) (by decide) (by decide)))).other W22 (Or.inr (slot_ne (Or.inl (w78 hw)) (Or.inl (w63 hw)) (by decide) (t := .boolean) (t' := (.object "com/example/outbound_courier/outboundcourier/http/BodyReader$State")) (by decide) (by decide))))
  obtain ⟨T27, h27, X27, e27, W27, st27⟩ := putFN X24 hx hZ hown (w77 hw) Via.refl e24 c26 c25 (Or.inl (w78 hw)) (w1 hw) (ty := .boolean) (v' := (.int (1 : Int32))) (by decide) rfl (by decide) (g := (mkF m 100 #[.val (.ref a1), .val (.long q2), .second, .val (.int p3)] [(.int (1 : Int32)), (.ref a1)])) rfl rfl (hb hby d1_100)
  have F27 : Fld Z h27 a1 "com/example/outbound_courier/outboundcourier/http/BodyReader" "tooLarge" "Z" (.int (1 : Int32)) := c26.same W27
  have N27 := Fr.snoc X27 N22 P3
  have O27 : Old Z n0 h27 := O22.wr W27 P3
  have K27 : Keep h0 h27 [a1] := K22.wr W27 (Or.inl (List.mem_of_getElem? (i := 0) rfl))
  refine Go.st st27 ?_
  show Go p e below _ (T27.setTop (mkF m 103 #[.val (.ref a1), .val (.long q2), .second, .val (.int p3)] []))
  refine Go.st (fun t k => XS.aloadN X27.here hx rfl (hb hby d1_103) rfl rfl k) ?_
  show Go p e below _ (T27.setTop (mkF m 104 #[.val (.ref a1), .val (.long q2), .second, .val (.int p3)] [(.ref a1)]))
  have c28 := (c23.other W27 (Or.inr (slot_ne (Or.inr (w56 hw)) (Or.inl (w78 hw)) (by decide) (t := .boolean) (t' := .boolean) (by decide) (by decide))))
  obtain ⟨T29, X29, e29, st29⟩ := getF X27 hx hZ hown (host := "") (Or.inl (w55 hw)) Via.refl e27 c28 (g := (mkF m 104 #[.val (.ref a1), .val (.long q2), .second, .val (.int p3)] [(.ref a1)])) rfl rfl (hb hby d1_104)
  refine Go.st st29 ?_
  show Go p e below _ (T29.setTop (mkF m 107 #[.val (.ref a1), .val (.long q2), .second, .val (.int p3)] [(.int (0 : Int32))]))
  refine Go.st (fun t k => XS.ifNo X29.here hx rfl (hb hby d1_107) rfl (Jvm.Free.XT.i0_ne_f (by decide : (0 : Int32) = (0 : Int32))) k) ?_
  show Go p e below _ (T29.setTop (mkF m 110 #[.val (.ref a1), .val (.long q2), .second, .val (.int p3)] []))
  refine Go.st (fun t k => XS.lloadN X29.here hx rfl (hb hby d1_110) rfl k) ?_
  show Go p e below _ (T29.setTop (mkF m 111 #[.val (.ref a1), .val (.long q2), .second, .val (.int p3)] [(.long q2)]))
  refine Go.st (fun t k => XS.lconst X29.here hx rfl (hb hby d1_111) k) ?_
  show Go p e below _ (T29.setTop (mkF m 112 #[.val (.ref a1), .val (.long q2), .second, .val (.int p3)] [(.long (0 : Int64)), (.long q2)]))
  refine Go.st (fun t k => Jvm.Free.XT.lcmp X29.here hx rfl (hb hby d1_112) rfl k) ?_
  show Go p e below _ (T29.setTop (mkF m 113 #[.val (.ref a1), .val (.long q2), .second, .val (.int p3)] [(.int (Jvm.Free.XT.cmpL q2 (0 : Int64)))]))
  refine Go.st (fun t k => XS.ifNo X29.here hx rfl (hb hby d1_113) rfl (Jvm.Free.XT.ll_ne_f P15) k) ?_
  show Go p e below _ (T29.setTop (mkF m 116 #[.val (.ref a1), .val (.long q2), .second, .val (.int p3)] []))
  refine Go.st (fun t k => XS.aloadN X29.here hx rfl (hb hby d1_116) rfl rfl k) ?_
  show Go p e below _ (T29.setTop (mkF m 117 #[.val (.ref a1), .val (.long q2), .second, .val (.int p3)] [(.ref a1)]))
  obtain ⟨T30, X30, e30, st30⟩ := getS2 X29 hx hZ hown (host := "") (Or.inl (w64 hw)) Via.refl e29 (P16.ext O27.2) (g := (mkF m 117 #[.val (.ref a1), .val (.long q2), .second, .val (.int p3)] [(.ref a1)])) rfl (hb hby d1_117)
  refine Go.st st30 ?_
  show Go p e below _ (T30.setTop (mkF m 120 #[.val (.ref a1), .val (.long q2), .second, .val (.int p3)] [(.ref a6), (.ref a1)]))
  have c31 := (F22.other W27 (Or.inr (slot_ne (Or.inl (w63 hw)) (Or.inl (w78 hw)) (by decide) (t := (.object "com/example/outbound_courier/outboundcourier/http/BodyReader$State")) (t' := .boolean) (by decide) (by decide))))
  obtain ⟨T32, h32, X32, e32, W32, st32⟩ := putF X30 hx hZ hown (host := "") (Or.inl (w62 hw)) Via.refl e30 c31 (c25.wr W27) (Or.inl (w63 hw)) (w1 hw) (ty := (.object "com/example/outbound_courier/outboundcourier/http/BodyReader$State")) (by decide) rfl rfl (g := (mkF m 120 #[.val (.ref a1), .val (.long q2), .second, .val (.int p3)] [(.ref a6), (.ref a1)])) rfl rfl (hb hby d1_120)
  have F32 : Fld Z h32 a1 "com/example/outbound_courier/outboundcourier/http/BodyReader" "state" "Lcom/example/outbound_courier/outboundcourier/http/BodyReader$State;" (.ref a6) := c31.same W32
  have N32 := Fr.snoc X32 N27 P3
  have O32 : Old Z n0 h32 := O27.wr W32 P3
  have K32 : Keep h0 h32 [a1] := K27.wr W32 (Or.inl (List.mem_of_getElem? (i := 0) rfl))
  refine Go.st st32 ?_
  show Go p e below _ (T32.setTop (mkF m 123 #[.val (.ref a1), .val (.long q2), .second, .val (.int p3)] []))
  obtain ⟨fs, hr, hrun, hended, hWd, hsame⟩ := X32.leave (v := none) (fun _ => rfl)
  have c33 := (((((((((F5.ext E6).keep K7c (ninS (Nat.ne_of_lt (Nat.lt_of_lt_of_le (Nat.lt_of_lt_of_le (Nat.lt_of_lt_of_le (Nat.lt_of_lt_of_le P1.lt E2.1) K3c.1) (Nat.le_of_eq W5.size.symm)) (Nat.le_of_eq z6.symm))) nin0)).other W10 (Or.inr (slot_ne (Or.inr (w30 hw)) (Or.inr (w51 hw)) (by decide) (t := (.object "java/io/ByteArrayOutputStream")) (t' := (.object "java/lang/StringBuilder")) (by decide) (by decide)))).other W12 (Or.inr (slot_ne (Or.inr (w30 hw)) (Or.inr (w53 hw)) (by decide) (t := (.object "java/io/ByteArrayOutputStream")) (t' := .int) (by decide) (by decide)))).other W14 (Or.inr (slot_ne (Or.inr (w30 hw)) (Or.inr (w56 hw)) (by decide) (t := (.object "java/io/ByteArrayOutputStream")) (t' := .boolean) (by decide) (by decide)))).other W17 (Or.inr (slot_ne (Or.inr (w30 hw)) (Or.inl (w58 hw)) (by decide) (t := (.object "java/io/ByteArrayOutputStream")) (t' := .long) (by decide) (by decide)))).other W22 (Or.inr (slot_ne (Or.inr (w30 hw)) (Or.inl (w63 hw)) (by decide) (t := (.object "java/io/ByteArrayOutputStream")) (t' := (.object "com/example/outbound_courier/outboundcourier/http/BodyReader$State")) (by decide) (by decide)))).other W27 (Or.inr (slot_ne (Or.inr (w30 hw)) (Or.inl (w78 hw)) (by decide) (t := (.object "java/io/ByteArrayOutputStream")) (t' := .boolean) (by decide) (by decide)))).other W32 (Or.inr (slot_ne (Or.inr (w30 hw)) (Or.inl (w63 hw)) (by decide) (t := (.object "java/io/ByteArrayOutputStream")) (t' := (.object "com/example/outbound_courier/outboundcourier/http/BodyReader$State")) (by decide) (by decide))))
  have c34 := ((((((F10.other W12 (Or.inr (slot_ne (Or.inr (w51 hw)) (Or.inr (w53 hw)) (by decide) (t := (.object "java/lang/StringBuilder")) (t' := .int) (by decide) (by decide)))).other W14 (Or.inr (slot_ne (Or.inr (w51 hw)) (Or.inr (w56 hw)) (by decide) (t := (.object "java/lang/StringBuilder")) (t' := .boolean) (by decide) (by decide)))).other W17 (Or.inr (slot_ne (Or.inr (w51 hw)) (Or.inl (w58 hw)) (by decide) (t := (.object "java/lang/StringBuilder")) (t' := .long) (by decide) (by decide)))).other W22 (Or.inr (slot_ne (Or.inr (w51 hw)) (Or.inl (w63 hw)) (by decide) (t := (.object "java/lang/StringBuilder")) (t' := (.object "com/example/outbound_courier/outboundcourier/http/BodyReader$State")) (by decide) (by decide)))).other W27 (Or.inr (slot_ne (Or.inr (w51 hw)) (Or.inl (w78 hw)) (by decide) (t := (.object "java/lang/StringBuilder")) (t' := .boolean) (by decide) (by decide)))).other W32 (Or.inr (slot_ne (Or.inr (w51 hw)) (Or.inl (w63 hw)) (by decide) (t := (.object "java/lang/StringBuilder")) (t' := (.object "com/example/outbound_courier/outboundcourier/http/BodyReader$State")) (by decide) (by decide))))
  have c35 := (((((F12.other W14 (Or.inr (slot_ne (Or.inr (w53 hw)) (Or.inr (w56 hw)) (by decide) (t := .int) (t' := .boolean) (by decide) (by decide)))).other W17 (Or.inr (slot_ne (Or.inr (w53 hw)) (Or.inl (w58 hw)) (by decide) (t := .int) (t' := .long) (by decide) (by decide)))).other W22 (Or.inr (slot_ne (Or.inr (w53 hw)) (Or.inl (w63 hw)) (by decide) (t := .int) (t' := (.object "com/example/outbound_courier/outboundcourier/http/BodyReader$State")) (by decide) (by decide)))).other W27 (Or.inr (slot_ne (Or.inr (w53 hw)) (Or.inl (w78 hw)) (by decide) (t := .int) (t' := .boolean) (by decide) (by decide)))).other W32 (Or.inr (slot_ne (Or.inr (w53 hw)) (Or.inl (w63 hw)) (by decide) (t := .int) (t' := (.object "com/example/outbound_courier/outboundcourier/http/BodyReader$State")) (by decide) (by decide))))
  have c36 := (c28.other W32 (Or.inr (slot_ne (Or.inr (w56 hw)) (Or.inl (w63 hw)) (by decide) (t := .boolean) (t' := (.object "com/example/outbound_courier/outboundcourier/http/BodyReader$State")) (by decide) (by decide))))
  have c37 := (((F17.other W22 (Or.inr (slot_ne (Or.inl (w58 hw)) (Or.inl (w63 hw)) (by decide) (t := .long) (t' := (.object "com/example/outbound_courier/outboundcourier/http/BodyReader$State")) (by decide) (by decide)))).other W27 (Or.inr (slot_ne (Or.inl (w58 hw)) (Or.inl (w78 hw)) (by decide) (t := .long) (t' := .boolean) (by decide) (by decide)))).other W32 (Or.inr (slot_ne (Or.inl (w58 hw)) (Or.inl (w63 hw)) (by decide) (t := .long) (t' := (.object "com/example/outbound_courier/outboundcourier/http/BodyReader$State")) (by decide) (by decide))))
  have c38 := (F27.other W32 (Or.inr (slot_ne (Or.inl (w78 hw)) (Or.inl (w63 hw)) (by decide) (t := .boolean) (t' := (.object "com/example/outbound_courier/outboundcourier/http/BodyReader$State")) (by decide) (by decide))))
  have c39 := (((((((((((A2.keep K3c).wr W5).ext E6).keep K7c).wr W10).wr W12).wr W14).wr W17).wr W22).wr W27).wr W32)
  have c40 := ((((((((((r3_2.wr W5).ext E6).keep K7c (ninS (Nat.ne_of_lt (Nat.lt_of_lt_of_le (Nat.lt_of_lt_of_le (Nat.lt_of_lt_of_le A2.lt K3c.1) (Nat.le_of_eq W5.size.symm)) (Nat.le_of_eq z6.symm))) nin0)).wr W10).wr W12).wr W14).wr W17).wr W22).wr W27).wr W32)
  have c41 := ((((((((((r3_1.other W5 (Or.inl (Ne.symm (Nat.ne_of_lt (Nat.lt_of_lt_of_le P1.lt (Nat.le_of_eq z2.symm)))))).ext E6).keep K7c (ninS (Nat.ne_of_lt (Nat.lt_of_lt_of_le (Nat.lt_of_lt_of_le (Nat.lt_of_lt_of_le A2.lt K3c.1) (Nat.le_of_eq W5.size.symm)) (Nat.le_of_eq z6.symm))) nin0)).other W10 (Or.inl (Ne.symm (Nat.ne_of_lt (Nat.lt_of_lt_of_le P1.lt (Nat.le_of_eq z2.symm)))))).other W12 (Or.inl (Ne.symm (Nat.ne_of_lt (Nat.lt_of_lt_of_le P1.lt (Nat.le_of_eq z2.symm)))))).other W14 (Or.inl (Ne.symm (Nat.ne_of_lt (Nat.lt_of_lt_of_le P1.lt (Nat.le_of_eq z2.symm)))))).other W17 (Or.inl (Ne.symm (Nat.ne_of_lt (Nat.lt_of_lt_of_le P1.lt (Nat.le_of_eq z2.symm)))))).other W22 (Or.inl (Ne.symm (Nat.ne_of_lt (Nat.lt_of_lt_of_le P1.lt (Nat.le_of_eq z2.symm)))))).other W27 (Or.inl (Ne.symm (Nat.ne_of_lt (Nat.lt_of_lt_of_le P1.lt (Nat.le_of_eq z2.symm)))))).other W32 (Or.inl (Ne.symm (Nat.ne_of_lt (Nat.lt_of_lt_of_le P1.lt (Nat.le_of_eq z2.symm))))))
  have c42 := ((((((((((r3_3.other W5 (Or.inl (Ne.symm (Nat.ne_of_lt (Nat.lt_of_lt_of_le P1.lt (Nat.le_of_eq z2.symm)))))).ext E6).keep K7c (ninS (Nat.ne_of_lt (Nat.lt_of_lt_of_le (Nat.lt_of_lt_of_le (Nat.lt_of_lt_of_le A2.lt K3c.1) (Nat.le_of_eq W5.size.symm)) (Nat.le_of_eq z6.symm))) nin0)).other W10 (Or.inl (Ne.symm (Nat.ne_of_lt (Nat.lt_of_lt_of_le P1.lt (Nat.le_of_eq z2.symm)))))).other W12 (Or.inl (Ne.symm (Nat.ne_of_lt (Nat.lt_of_lt_of_le P1.lt (Nat.le_of_eq z2.symm)))))).other W14 (Or.inl (Ne.symm (Nat.ne_of_lt (Nat.lt_of_lt_of_le P1.lt (Nat.le_of_eq z2.symm)))))).other W17 (Or.inl (Ne.symm (Nat.ne_of_lt (Nat.lt_of_lt_of_le P1.lt (Nat.le_of_eq z2.symm)))))).other W22 (Or.inl (Ne.symm (Nat.ne_of_lt (Nat.lt_of_lt_of_le P1.lt (Nat.le_of_eq z2.symm)))))).other W27 (Or.inl (Ne.symm (Nat.ne_of_lt (Nat.lt_of_lt_of_le P1.lt (Nat.le_of_eq z2.symm)))))).other W32 (Or.inl (Ne.symm (Nat.ne_of_lt (Nat.lt_of_lt_of_le P1.lt (Nat.le_of_eq z2.symm))))))
  have c43 := ((((((((A6.keep K7c).wr W10).wr W12).wr W14).wr W17).wr W22).wr W27).wr W32)
  have c44 := (((((((r7_1.other W10 (Or.inl (Ne.symm (Nat.ne_of_lt (Nat.lt_of_lt_of_le (Nat.lt_of_lt_of_le (Nat.lt_of_lt_of_le (Nat.lt_of_lt_of_le P1.lt E2.1) K3c.1) (Nat.le_of_eq W5.size.symm)) (Nat.le_of_eq z6.symm)))))).other W12 (Or.inl (Ne.symm (Nat.ne_of_lt (Nat.lt_of_lt_of_le (Nat.lt_of_lt_of_le (Nat.lt_of_lt_of_le (Nat.lt_of_lt_of_le P1.lt E2.1) K3c.1) (Nat.le_of_eq W5.size.symm)) (Nat.le_of_eq z6.symm)))))).other W14 (Or.inl (Ne.symm (Nat.ne_of_lt (Nat.lt_of_lt_of_le (Nat.lt_of_lt_of_le (Nat.lt_of_lt_of_le (Nat.lt_of_lt_of_le P1.lt E2.1) K3c.1) (Nat.le_of_eq W5.size.symm)) (Nat.le_of_eq z6.symm)))))).other W17 (Or.inl (Ne.symm (Nat.ne_of_lt (Nat.lt_of_lt_of_le (Nat.lt_of_lt_of_le (Nat.lt_of_lt_of_le (Nat.lt_of_lt_of_le P1.lt E2.1) K3c.1) (Nat.le_of_eq W5.size.symm)) (Nat.le_of_eq z6.symm)))))).other W22 (Or.inl (Ne.symm (Nat.ne_of_lt (Nat.lt_of_lt_of_le (Nat.lt_of_lt_of_le (Nat.lt_of_lt_of_le (Nat.lt_of_lt_of_le P1.lt E2.1) K3c.1) (Nat.le_of_eq W5.size.symm)) (Nat.le_of_eq z6.symm)))))).other W27 (Or.inl (Ne.symm (Nat.ne_of_lt (Nat.lt_of_lt_of_le (Nat.lt_of_lt_of_le (Nat.lt_of_lt_of_le (Nat.lt_of_lt_of_le P1.lt E2.1) K3c.1) (Nat.le_of_eq W5.size.symm)) (Nat.le_of_eq z6.symm)))))).other W32 (Or.inl (Ne.symm (Nat.ne_of_lt (Nat.lt_of_lt_of_le (Nat.lt_of_lt_of_le (Nat.lt_of_lt_of_le (Nat.lt_of_lt_of_le P1.lt E2.1) K3c.1) (Nat.le_of_eq W5.size.symm)) (Nat.le_of_eq z6.symm))))))
  have c45 := (((((((r7_2.other W10 (Or.inl (Ne.symm (Nat.ne_of_lt (Nat.lt_of_lt_of_le (Nat.lt_of_lt_of_le (Nat.lt_of_lt_of_le (Nat.lt_of_lt_of_le P1.lt E2.1) K3c.1) (Nat.le_of_eq W5.size.symm)) (Nat.le_of_eq z6.symm)))))).other W12 (Or.inl (Ne.symm (Nat.ne_of_lt (Nat.lt_of_lt_of_le (Nat.lt_of_lt_of_le (Nat.lt_of_lt_of_le (Nat.lt_of_lt_of_le P1.lt E2.1) K3c.1) (Nat.le_of_eq W5.size.symm)) (Nat.le_of_eq z6.symm)))))).other W14 (Or.inl (Ne.symm (Nat.ne_of_lt (Nat.lt_of_lt_of_le (Nat.lt_of_lt_of_le (Nat.lt_of_lt_of_le (Nat.lt_of_lt_of_le P1.lt E2.1) K3c.1) (Nat.le_of_eq W5.size.symm)) (Nat.le_of_eq z6.symm)))))).other W17 (Or.inl (Ne.symm (Nat.ne_of_lt (Nat.lt_of_lt_of_le (Nat.lt_of_lt_of_le (Nat.lt_of_lt_of_le (Nat.lt_of_lt_of_le P1.lt E2.1) K3c.1) (Nat.le_of_eq W5.size.symm)) (Nat.le_of_eq z6.symm)))))).other W22 (Or.inl (Ne.symm (Nat.ne_of_lt (Nat.lt_of_lt_of_le (Nat.lt_of_lt_of_le (Nat.lt_of_lt_of_le (Nat.lt_of_lt_of_le P1.lt E2.1) K3c.1) (Nat.le_of_eq W5.size.symm)) (Nat.le_of_eq z6.symm)))))).other W27 (Or.inl (Ne.symm (Nat.ne_of_lt (Nat.lt_of_lt_of_le (Nat.lt_of_lt_of_le (Nat.lt_of_lt_of_le (Nat.lt_of_lt_of_le P1.lt E2.1) K3c.1) (Nat.le_of_eq W5.size.symm)) (Nat.le_of_eq z6.symm)))))).other W32 (Or.inl (Ne.symm (Nat.ne_of_lt (Nat.lt_of_lt_of_le (Nat.lt_of_lt_of_le (Nat.lt_of_lt_of_le (Nat.lt_of_lt_of_le P1.lt E2.1) K3c.1) (Nat.le_of_eq W5.size.symm)) (Nat.le_of_eq z6.symm))))))
  have c46 := ((((((((((r3_4.other W5 (Ne.symm (Nat.ne_of_lt (Nat.lt_of_lt_of_le (Nat.lt_of_lt_of_le P1.lt E2.1) r3_0)))).ext E6).keep K7c (ninS (Nat.ne_of_lt (Nat.lt_of_lt_of_le (Nat.lt_of_lt_of_le r3_4.lt (Nat.le_of_eq W5.size.symm)) (Nat.le_of_eq z6.symm))) nin0)).other W10 (Ne.symm (Nat.ne_of_lt (Nat.lt_of_lt_of_le (Nat.lt_of_lt_of_le P1.lt E2.1) r3_0)))).other W12 (Ne.symm (Nat.ne_of_lt (Nat.lt_of_lt_of_le (Nat.lt_of_lt_of_le P1.lt E2.1) r3_0)))).other W14 (Ne.symm (Nat.ne_of_lt (Nat.lt_of_lt_of_le (Nat.lt_of_lt_of_le P1.lt E2.1) r3_0)))).other W17 (Ne.symm (Nat.ne_of_lt (Nat.lt_of_lt_of_le (Nat.lt_of_lt_of_le P1.lt E2.1) r3_0)))).other W22 (Ne.symm (Nat.ne_of_lt (Nat.lt_of_lt_of_le (Nat.lt_of_lt_of_le P1.lt E2.1) r3_0)))).other W27 (Ne.symm (Nat.ne_of_lt (Nat.lt_of_lt_of_le (Nat.lt_of_lt_of_le P1.lt E2.1) r3_0)))).other W32 (Ne.symm (Nat.ne_of_lt (Nat.lt_of_lt_of_le (Nat.lt_of_lt_of_le P1.lt E2.1) r3_0))))
  have c47 := (((((((r7_3.other W10 (Ne.symm (Nat.ne_of_lt (Nat.lt_of_lt_of_le (Nat.lt_of_lt_of_le (Nat.lt_of_lt_of_le (Nat.lt_of_lt_of_le (Nat.lt_of_lt_of_le P1.lt E2.1) K3c.1) (Nat.le_of_eq W5.size.symm)) E6.1) r7_0)))).other W12 (Ne.symm (Nat.ne_of_lt (Nat.lt_of_lt_of_le (Nat.lt_of_lt_of_le (Nat.lt_of_lt_of_le (Nat.lt_of_lt_of_le (Nat.lt_of_lt_of_le P1.lt E2.1) K3c.1) (Nat.le_of_eq W5.size.symm)) E6.1) r7_0)))).other W14 (Ne.symm (Nat.ne_of_lt (Nat.lt_of_lt_of_le (Nat.lt_of_lt_of_le (Nat.lt_of_lt_of_le (Nat.lt_of_lt_of_le (Nat.lt_of_lt_of_le P1.lt E2.1) K3c.1) (Nat.le_of_eq W5.size.symm)) E6.1) r7_0)))).other W17 (Ne.symm (Nat.ne_of_lt (Nat.lt_of_lt_of_le (Nat.lt_of_lt_of_le (Nat.lt_of_lt_of_le (Nat.lt_of_lt_of_le (Nat.lt_of_lt_of_le P1.lt E2.1) K3c.1) (Nat.le_of_eq W5.size.symm)) E6.1) r7_0)))).other W22 (Ne.symm (Nat.ne_of_lt (Nat.lt_of_lt_of_le (Nat.lt_of_lt_of_le (Nat.lt_of_lt_of_le (Nat.lt_of_lt_of_le (Nat.lt_of_lt_of_le P1.lt E2.1) K3c.1) (Nat.le_of_eq W5.size.symm)) E6.1) r7_0)))).other W27 (Ne.symm (Nat.ne_of_lt (Nat.lt_of_lt_of_le (Nat.lt_of_lt_of_le (Nat.lt_of_lt_of_le (Nat.lt_of_lt_of_le (Nat.lt_of_lt_of_le P1.lt E2.1) K3c.1) (Nat.le_of_eq W5.size.symm)) E6.1) r7_0)))).other W32 (Ne.symm (Nat.ne_of_lt (Nat.lt_of_lt_of_le (Nat.lt_of_lt_of_le (Nat.lt_of_lt_of_le (Nat.lt_of_lt_of_le (Nat.lt_of_lt_of_le P1.lt E2.1) K3c.1) (Nat.le_of_eq W5.size.symm)) E6.1) r7_0))))
  refine ⟨_, _, ?_, hrun, hended, _, _, rfl, ?_, ⟨⟨_, rfl⟩, hWd, hsame.mono (by decide) (by decide)⟩⟩
  · exact X32.returnOut hx Bd.returns (hb hby d1_123) hr
  · show Q_rm1_2 Z a1 q2 p3 p4 a5 a6 h0 n0 _ T32.heap _
    rw [e32]
    exact ⟨b2, b2_1_3, b6, b3_1_7, k2_1_3, k3_1_7, rfl, N32, K32, s_b2, s_b2_1_3, s_b6, s_b3_1_7, (Nat.ne_of_lt (Nat.lt_of_lt_of_le A2.lt r3_0)), (Nat.ne_of_lt (Nat.lt_of_lt_of_le (Nat.lt_of_lt_of_le (Nat.lt_of_lt_of_le A2.lt K3c.1) (Nat.le_of_eq W5.size.symm)) (Nat.le_of_eq z6.symm))), (Nat.ne_of_lt (Nat.lt_of_lt_of_le (Nat.lt_of_lt_of_le (Nat.lt_of_lt_of_le (Nat.lt_of_lt_of_le A2.lt K3c.1) (Nat.le_of_eq W5.size.symm)) E6.1) r7_0)), (Nat.ne_of_lt (Nat.lt_of_lt_of_le (Nat.lt_of_lt_of_le r3_4.lt (Nat.le_of_eq W5.size.symm)) (Nat.le_of_eq z6.symm))), (Nat.ne_of_lt (Nat.lt_of_lt_of_le (Nat.lt_of_lt_of_le (Nat.lt_of_lt_of_le r3_4.lt (Nat.le_of_eq W5.size.symm)) E6.1) r7_0)), (Nat.ne_of_lt (Nat.lt_of_lt_of_le A6.lt r7_0)), c33, c34, c35, c36, c37, F32, c38, c39, c40, c41, c42, c43, c44, c45, c46, c47⟩
def Q_rm8_2 (Z : State) (a1 : Addr) (a2 : Addr) (h0 : Heap) (n0 : Nat) (v : Option Value) (h : Heap) (L : List Loc) : Prop := v = some (.int (1 : Int32)) ∧ Fr n0 L ∧ h = h0
set_option maxRecDepth 65536 in
set_option maxHeartbeats 40000000 in
theorem rm8_2 (l : Launch) (Z : State) (a0 : Array Value) (hw : ∀ d ∈ tables_1, d.before a0 Z = true) (ws : List Jvm.Cond) (a1 : Addr) (a2 : Addr) (h0 : Heap) (n0 : Nat) (O0 : Old Z n0 h0) (P1 : Fld Z h0 a1 "com/example/outbound_courier/outboundcourier/http/BodyReader" "state" "Lcom/example/outbound_courier/outboundcourier/http/BodyReader$State;" (.ref a2)) (P2 : Sta Z Z.heap "com/example/outbound_courier/outboundcourier/http/BodyReader$State" "DONE" "Lcom/example/outbound_courier/outboundcourier/http/BodyReader$State;" (.ref a2)) :
    MetFree l (⟨"com/example/outbound_courier/outboundcourier/http/BodyReader", "isDone", "()Z"⟩ : MethodName) (head1 (Jvm.Cond.code (⟨"com/example/outbound_courier/outboundcourier/http/BodyReader", "isDone", "()Z"⟩ : MethodName) prog_4_method_3_code 1 (some .boolean) :: ws) ({ frames := 0, cells := 0, slots := 0, locals := 0 } : Room)) (fun a U => a = #[(.ref a1)] ∧ Z.Warmed39 U.vm ∧ U.heap = h0) (fun _ _ _ _ _ => True) (fun _ U o U' => ∃ v L, o = .returned v ∧ Q_rm8_2 Z a1 a2 h0 n0 v U'.heap L ∧ FrameEnd U o U' L ({ frames := 0, cells := 0, slots := 0, locals := 0 } : Room).cells ({ frames := 0, cells := 0, slots := 0, locals := 0 } : Room).slots) := by
  refine MetFree.of_bodySF (plainFor_of_name pn_4) hisR ?_
  intro p e s m args below meth c s₁ Bd hml0 hP hK
  obtain ⟨rfl, hZ, hh⟩ := hP
  have hx := Bd.exec
  have hby := Bd.bytes
  have hml : c.maxLocals = 1 := hml0
  have hown : s.vm.findClass "com/example/outbound_courier/outboundcourier/http/BodyReader" = some m.cls := findClass_of_methodNamed Bd.named
  have hnm := (name_of_methodNamed Bd.named Bd.method).1
  have X0 : Stand p l e ({ frames := 0, cells := 0, slots := 0, locals := 0 } : Room) s m #[(.ref a1)] below meth c s₁ [] 0 0 := Stand.of_body Bd
  have e0 : s₁.heap = h0 := by rw [← hh, Bd.state]; rfl
  have N0 := Fr.nil n0
  refine Go.start (P := (fun o U' => ∃ v L, o = .returned v ∧ Q_rm8_2 Z a1 a2 h0 n0 v U'.heap L ∧ FrameEnd s o U' L ({ frames := 0, cells := 0, slots := 0, locals := 0 } : Room).cells ({ frames := 0, cells := 0, slots := 0, locals := 0 } : Room).slots)) (castTop (g' := (mkF m 0 #[.val (.ref a1)] [])) (by first | rfl | simp [entryFrame, mkF, argsToLocals, Value.category]) (T := s₁)) ?_
  refine Go.st (fun t k => XS.aloadN X0.here hx rfl (hb hby d8_0) rfl rfl k) ?_
  show Go p e below _ (s₁.setTop (mkF m 1 #[.val (.ref a1)] [(.ref a1)]))
  obtain ⟨T1, X1, e1, st1⟩ := getF X0 hx hZ hown (host := "") (Or.inl (w62 hw)) Via.refl e0 P1 (g := (mkF m 1 #[.val (.ref a1)] [(.ref a1)])) rfl rfl (hb hby d8_1)
  refine Go.st st1 ?_
  show Go p e below _ (T1.setTop (mkF m 4 #[.val (.ref a1)] [(.ref a2)]))
  obtain ⟨T2, X2, e2, st2⟩ := getS2 X1 hx hZ hown (host := "") (Or.inl (w64 hw)) Via.refl e1 (P2.ext O0.2) (g := (mkF m 4 #[.val (.ref a1)] [(.ref a2)])) rfl (hb hby d8_4)
  refine Go.st st2 ?_
  show Go p e below _ (T2.setTop (mkF m 7 #[.val (.ref a1)] [(.ref a2), (.ref a2)]))
  refine Go.st (fun t k => Jvm.RoadKit.acmp (g := (mkF m 7 #[.val (.ref a1)] [(.ref a2), (.ref a2)])) X2 hx rfl rfl rfl (pc0 := 7) (pc' := 17) (same := true) rfl (hb hby d8_7) rfl (decide_eq_true (congrArg Value.ref rfl)) (by decide) (by decide) k) ?_
  show Go p e below _ (T2.setTop (mkF m 17 #[.val (.ref a1)] []))
  refine Go.st (fun t k => XS.iconst X2.here hx rfl (hb hby d8_17) k) ?_
  show Go p e below _ (T2.setTop (mkF m 18 #[.val (.ref a1)] [(.int (1 : Int32))]))
  refine Go.st (fun t k => XS.goto X2.here hx rfl (pc0 := 18) (pc' := 22) rfl (hb hby d8_18) (by decide) (by decide) k) ?_
  show Go p e below _ (T2.setTop (mkF m 22 #[.val (.ref a1)] [(.int (1 : Int32))]))
  obtain ⟨fs, hr, hrun, hended, hWd, hsame⟩ := X2.leave (v := some (.int (1 : Int32))) (fun h => by rw [Bd.returns] at h; cases h)
  refine ⟨_, _, ?_, hrun, hended, _, _, rfl, ?_, ⟨⟨_, rfl⟩, hWd, hsame.mono (by decide) (by decide)⟩⟩
  · exact retN X2 hx (t := .boolean) Bd.returns (by simp) (hb hby d8_22) hr
  · show Q_rm8_2 Z a1 a2 h0 n0 _ T2.heap _
    rw [e2]
    exact ⟨rfl, N0, rfl⟩
def Q_rm9_2 (Z : State) (a1 : Addr) (h0 : Heap) (n0 : Nat) (v : Option Value) (h : Heap) (L : List Loc) : Prop := v = some (.int (1 : Int32)) ∧ Fr n0 L ∧ h = h0
set_option maxRecDepth 65536 in
set_option maxHeartbeats 40000000 in
theorem rm9_2 (l : Launch) (Z : State) (a0 : Array Value) (hw : ∀ d ∈ tables_1, d.before a0 Z = true) (ws : List Jvm.Cond) (a1 : Addr) (h0 : Heap) (n0 : Nat) (O0 : Old Z n0 h0) (P1 : Fld Z h0 a1 "com/example/outbound_courier/outboundcourier/http/BodyReader" "tooLarge" "Z" (.int (1 : Int32))) :
    MetFree l (⟨"com/example/outbound_courier/outboundcourier/http/BodyReader", "isTooLarge", "()Z"⟩ : MethodName) (head1 (Jvm.Cond.code (⟨"com/example/outbound_courier/outboundcourier/http/BodyReader", "isTooLarge", "()Z"⟩ : MethodName) prog_4_method_4_code 1 (some .boolean) :: ws) ({ frames := 0, cells := 0, slots := 0, locals := 0 } : Room)) (fun a U => a = #[(.ref a1)] ∧ Z.Warmed39 U.vm ∧ U.heap = h0) (fun _ _ _ _ _ => True) (fun _ U o U' => ∃ v L, o = .returned v ∧ Q_rm9_2 Z a1 h0 n0 v U'.heap L ∧ FrameEnd U o U' L ({ frames := 0, cells := 0, slots := 0, locals := 0 } : Room).cells ({ frames := 0, cells := 0, slots := 0, locals := 0 } : Room).slots) := by
  refine MetFree.of_bodySF (plainFor_of_name pn_4) hisR ?_
  intro p e s m args below meth c s₁ Bd hml0 hP hK
  obtain ⟨rfl, hZ, hh⟩ := hP
  have hx := Bd.exec
  have hby := Bd.bytes
  have hml : c.maxLocals = 1 := hml0
  have hown : s.vm.findClass "com/example/outbound_courier/outboundcourier/http/BodyReader" = some m.cls := findClass_of_methodNamed Bd.named
  have hnm := (name_of_methodNamed Bd.named Bd.method).1
  have X0 : Stand p l e ({ frames := 0, cells := 0, slots := 0, locals := 0 } : Room) s m #[(.ref a1)] below meth c s₁ [] 0 0 := Stand.of_body Bd
  have e0 : s₁.heap = h0 := by rw [← hh, Bd.state]; rfl
  have N0 := Fr.nil n0
  refine Go.start (P := (fun o U' => ∃ v L, o = .returned v ∧ Q_rm9_2 Z a1 h0 n0 v U'.heap L ∧ FrameEnd s o U' L ({ frames := 0, cells := 0, slots := 0, locals := 0 } : Room).cells ({ frames := 0, cells := 0, slots := 0, locals := 0 } : Room).slots)) (castTop (g' := (mkF m 0 #[.val (.ref a1)] [])) (by first | rfl | simp [entryFrame, mkF, argsToLocals, Value.category]) (T := s₁)) ?_
  refine Go.st (fun t k => XS.aloadN X0.here hx rfl (hb hby d9_0) rfl rfl k) ?_
  show Go p e below _ (s₁.setTop (mkF m 1 #[.val (.ref a1)] [(.ref a1)]))
  obtain ⟨T1, X1, e1, st1⟩ := getF X0 hx hZ hown (host := "") (Or.inl (w77 hw)) Via.refl e0 P1 (g := (mkF m 1 #[.val (.ref a1)] [(.ref a1)])) rfl rfl (hb hby d9_1)
  refine Go.st st1 ?_
  show Go p e below _ (T1.setTop (mkF m 4 #[.val (.ref a1)] [(.int (1 : Int32))]))
  obtain ⟨fs, hr, hrun, hended, hWd, hsame⟩ := X1.leave (v := some (.int (1 : Int32))) (fun h => by rw [Bd.returns] at h; cases h)
  refine ⟨_, _, ?_, hrun, hended, _, _, rfl, ?_, ⟨⟨_, rfl⟩, hWd, hsame.mono (by decide) (by decide)⟩⟩
  · exact retN X1 hx (t := .boolean) Bd.returns (by simp) (hb hby d9_4) hr
  · show Q_rm9_2 Z a1 h0 n0 _ T1.heap _
    rw [e1]
    exact ⟨rfl, N0, rfl⟩
def Q_rm1_3 (Z : State) (a1 : Addr) (q2 : Int64) (p3 : Int32) (p4 : Int32) (a5 : Addr) (h0 : Heap) (n0 : Nat) (v : Option Value) (h : Heap) (L : List Loc) : Prop := ∃ (b2 : Addr) (b2_1_3 : Addr) (b6 : Addr) (b3_1_7 : Addr) (k2_1_3 : ClassId) (k3_1_7 : ClassId), v = none ∧ Fr n0 L ∧ Keep h0 h [a1] ∧ h0.size ≤ b2 ∧ h0.size ≤ b2_1_3 ∧ h0.size ≤ b6 ∧ h0.size ≤ b3_1_7 ∧ b2 ≠ b2_1_3 ∧ b2 ≠ b6 ∧ b2 ≠ b3_1_7 ∧ b2_1_3 ≠ b6 ∧ b2_1_3 ≠ b3_1_7 ∧ b6 ≠ b3_1_7 ∧ Fld Z h a1 "com/example/outbound_courier/outboundcourier/http/BodyReader" "kept" "Ljava/io/ByteArrayOutputStream;" (.ref b2) ∧ Fld Z h a1 "com/example/outbound_courier/outboundcourier/http/BodyReader" "line" "Ljava/lang/StringBuilder;" (.ref b6) ∧ Fld Z h a1 "com/example/outbound_courier/outboundcourier/http/BodyReader" "maxBytes" "I" (.int p3) ∧ Fld Z h a1 "com/example/outbound_courier/outboundcourier/http/BodyReader" "chunked" "Z" (.int (0 : Int32)) ∧ Fld Z h a1 "com/example/outbound_courier/outboundcourier/http/BodyReader" "left" "J" (.long q2) ∧ Fld Z h a1 "com/example/outbound_courier/outboundcourier/http/BodyReader" "state" "Lcom/example/outbound_courier/outboundcourier/http/BodyReader$State;" (.ref a5) ∧ Fld Z h a1 "com/example/outbound_courier/outboundcourier/http/BodyReader" "tooLarge" "Z" (.int (1 : Int32)) ∧ Exa Z h b2 "java/io/ByteArrayOutputStream" ∧ Unt h b2 ∧ Fld Z h b2 "java/io/ByteArrayOutputStream" "buf" "[B" (.ref b2_1_3) ∧ Fld Z h b2 "java/io/ByteArrayOutputStream" "count" "I" (.int (0 : Int32)) ∧ Exa Z h b6 "java/lang/StringBuilder" ∧ Fld Z h b6 "java/lang/AbstractStringBuilder" "value" "[B" (.ref b3_1_7) ∧ Fld Z h b6 "java/lang/AbstractStringBuilder" "coder" "B" (.int (0 : Int32)) ∧ Arv Z h b2_1_3 k2_1_3 .byte (32 : Int32) [(.int (0 : Int32)), (.int (0 : Int32)), (.int (0 : Int32)), (.int (0 : Int32)), (.int (0 : Int32)), (.int (0 : Int32)), (.int (0 : Int32)), (.int (0 : Int32)), (.int (0 : Int32)), (.int (0 : Int32)), (.int (0 : Int32)), (.int (0 : Int32)), (.int (0 : Int32)), (.int (0 : Int32)), (.int (0 : Int32)), (.int (0 : Int32)), (.int (0 : Int32)), (.int (0 : Int32)), (.int (0 : Int32)), (.int (0 : Int32)), (.int (0 : Int32)), (.int (0 : Int32)), (.int (0 : Int32)), (.int (0 : Int32)), (.int (0 : Int32)), (.int (0 : Int32)), (.int (0 : Int32)), (.int (0 : Int32)), (.int (0 : Int32)), (.int (0 : Int32)), (.int (0 : Int32)), (.int (0 : Int32))] (.int (0 : Int32)) ∧ Arv Z h b3_1_7 k3_1_7 .byte (16 : Int32) [(.int (0 : Int32)), (.int (0 : Int32)), (.int (0 : Int32)), (.int (0 : Int32)), (.int (0 : Int32)), (.int (0 : Int32)), (.int (0 : Int32)), (.int (0 : Int32)), (.int (0 : Int32)), (.int (0 : Int32)), (.int (0 : Int32)), (.int (0 : Int32)), (.int (0 : Int32)), (.int (0 : Int32)), (.int (0 : Int32)), (.int (0 : Int32))] (.int (0 : Int32))
set_option maxRecDepth 65536 in
set_option maxHeartbeats 40000000 in
theorem rm1_3 (l : Launch) (Z : State) (a0 : Array Value) (hw : ∀ d ∈ tables_1, d.before a0 Z = true) (ws : List Jvm.Cond) (a1 : Addr) (q2 : Int64) (p3 : Int32) (p4 : Int32) (a5 : Addr) (h0 : Heap) (n0 : Nat) (O0 : Old Z n0 h0) (P1 : Exa Z h0 a1 "com/example/outbound_courier/outboundcourier/http/BodyReader") (P2 : Fld Z h0 a1 "com/example/outbound_courier/outboundcourier/http/BodyReader" "kept" "Ljava/io/ByteArrayOutputStream;" .null) (P3 : n0 ≤ a1) (P4 : Sta Z Z.heap "java/lang/String" "COMPACT_STRINGS" "Z" (.int p4)) (P5 : ¬ (p4 = (0 : Int32))) (P6 : Fld Z h0 a1 "com/example/outbound_courier/outboundcourier/http/BodyReader" "line" "Ljava/lang/StringBuilder;" .null) (P7 : Fld Z h0 a1 "com/example/outbound_courier/outboundcourier/http/BodyReader" "maxBytes" "I" (.int (0 : Int32))) (P8 : ¬ (q2 = (-1 : Int64))) (P9 : Fld Z h0 a1 "com/example/outbound_courier/outboundcourier/http/BodyReader" "chunked" "Z" (.int (0 : Int32))) (P10 : Fld Z h0 a1 "com/example/outbound_courier/outboundcourier/http/BodyReader" "left" "J" (.long (0 : Int64))) (P11 : Sta Z Z.heap "com/example/outbound_courier/outboundcourier/http/BodyReader$State" "DATA" "Lcom/example/outbound_courier/outboundcourier/http/BodyReader$State;" (.ref a5)) (P12 : Fld Z h0 a1 "com/example/outbound_courier/outboundcourier/http/BodyReader" "state" "Lcom/example/outbound_courier/outboundcourier/http/BodyReader$State;" .null) (P13 : (p3.toInt64) < q2) (P14 : Fld Z h0 a1 "com/example/outbound_courier/outboundcourier/http/BodyReader" "tooLarge" "Z" (.int (0 : Int32))) (P15 : ¬ (q2 = (0 : Int64))) :
    MetFree l (⟨"com/example/outbound_courier/outboundcourier/http/BodyReader", "<init>", "(JI)V"⟩ : MethodName) (head1 (Jvm.Cond.code (⟨"com/example/outbound_courier/outboundcourier/http/BodyReader", "<init>", "(JI)V"⟩ : MethodName) prog_4_method_1_code 4 none :: ws) ({ frames := 4, cells := 4, slots := 54, locals := 51 } : Room)) (fun a U => a = #[(.ref a1), (.long q2), (.int p3)] ∧ Z.Warmed39 U.vm ∧ U.heap = h0) (fun _ _ _ _ _ => True) (fun _ U o U' => ∃ v L, o = .returned v ∧ Q_rm1_3 Z a1 q2 p3 p4 a5 h0 n0 v U'.heap L ∧ FrameEnd U o U' L ({ frames := 4, cells := 4, slots := 54, locals := 51 } : Room).cells ({ frames := 4, cells := 4, slots := 54, locals := 51 } : Room).slots) := by
  refine MetFree.of_bodySF (plainFor_of_name pn_4) hisR ?_
  intro p e s m args below meth c s₁ Bd hml0 hP hK
  obtain ⟨rfl, hZ, hh⟩ := hP
  have hx := Bd.exec
  have hby := Bd.bytes
  have hml : c.maxLocals = 4 := hml0
  have hown : s.vm.findClass "com/example/outbound_courier/outboundcourier/http/BodyReader" = some m.cls := findClass_of_methodNamed Bd.named
  have hnm := (name_of_methodNamed Bd.named Bd.method).1
  have X0 : Stand p l e ({ frames := 4, cells := 4, slots := 54, locals := 51 } : Room) s m #[(.ref a1), (.long q2), (.int p3)] below meth c s₁ [] 0 0 := Stand.of_body Bd
  have e0 : s₁.heap = h0 := by rw [← hh, Bd.state]; rfl
  have N0 := Fr.nil n0
  refine Go.start (P := (fun o U' => ∃ v L, o = .returned v ∧ Q_rm1_3 Z a1 q2 p3 p4 a5 h0 n0 v U'.heap L ∧ FrameEnd s o U' L ({ frames := 4, cells := 4, slots := 54, locals := 51 } : Room).cells ({ frames := 4, cells := 4, slots := 54, locals := 51 } : Room).slots)) (castTop (g' := (mkF m 0 #[.val (.ref a1), .val (.long q2), .second, .val (.int p3)] [])) (by first | rfl | simp [entryFrame, mkF, argsToLocals, Value.category]) (T := s₁)) ?_
  refine Go.st (fun t k => XS.aloadN X0.here hx rfl (hb hby d1_0) rfl rfl k) ?_
  show Go p e below _ (s₁.setTop (mkF m 1 #[.val (.ref a1), .val (.long q2), .second, .val (.int p3)] [(.ref a1)]))
  obtain ⟨T1, X1, e1, st1⟩ := initO X0 hx hZ hown (w6 hw) (w7 hw) (w8 hw) e0 (g := (mkF m 1 #[.val (.ref a1), .val (.long q2), .second, .val (.int p3)] [(.ref a1)])) rfl (by rw [hml]; rfl) rfl (hb hby d1_1) (by decide) (W := 0) (by show 2 * 0 + _ ≤ _; exact Nat.le_of_eq rfl) (by decide)
  refine Go.st st1 ?_
  show Go p e below _ (T1.setTop (mkF m 4 #[.val (.ref a1), .val (.long q2), .second, .val (.int p3)] []))
  refine Go.st (fun t k => XS.aloadN X1.here hx rfl (hb hby d1_4) rfl rfl k) ?_
  show Go p e below _ (T1.setTop (mkF m 5 #[.val (.ref a1), .val (.long q2), .second, .val (.int p3)] [(.ref a1)]))
  obtain ⟨T2, h2, X2, e2, E2, A2, D2, U2, st2⟩ := newO X1 hx hZ hown (w9 hw) (w10 hw) (w11 hw) e1 (g := (mkF m 5 #[.val (.ref a1), .val (.long q2), .second, .val (.int p3)] [(.ref a1)])) rfl (hb hby d1_5) (by decide) (by decide)
  obtain ⟨b2, z2⟩ : ∃ z, z = h0.size := ⟨_, rfl⟩
  rw [← z2] at A2 D2 U2 st2
  have g_b2 : n0 ≤ b2 := Nat.le_trans (own_n0 O0) (Nat.le_of_eq z2.symm)
  have s_b2 : h0.size ≤ b2 := Nat.le_trans (Keep.refl h0 [a1]).1 (Nat.le_of_eq z2.symm)
  have O2 : Old Z n0 h2 := O0.ext E2
  have K2 : Keep h0 h2 [a1] := (Keep.refl h0 [a1]).ext E2
  have f2_28 : Fld Z h2 b2 "java/io/ByteArrayOutputStream" "buf" "[B" .null := D2 (Or.inl (w28 hw)) (ty := (.array .byte)) (by decide)
  have f2_90 : Fld Z h2 b2 "java/io/ByteArrayOutputStream" "count" "I" (.int (0 : Int32)) := D2 (Or.inl (w90 hw)) (ty := .int) (by decide)
  refine Go.st st2 ?_
  show Go p e below _ (T2.setTop (mkF m 8 #[.val (.ref a1), .val (.long q2), .second, .val (.int p3)] [(.ref b2), (.ref a1)]))
  refine Go.st (fun t k => XS.dup X2.here hx rfl (hb hby d1_8) rfl rfl k) ?_
  show Go p e below _ (T2.setTop (mkF m 9 #[.val (.ref a1), .val (.long q2), .second, .val (.int p3)] [(.ref b2), (.ref b2), (.ref a1)]))
  obtain ⟨_, _, ⟨T3, L3, k3, n3⟩, -, X3, ⟨Lc3, hQ3, l3, y3, z3⟩, st3⟩ := X2.specialBack hx (y := (⟨"java/io/ByteArrayOutputStream", "<init>", "()V"⟩ : MethodName)) rfl hown (mvT hZ (w12 hw)) (mvT hZ (w13 hw)) (mvT hZ (w14 hw)) (by decide) (backOf (W := 2) (rm3_1 l Z a0 hw [] b2 h2 n0 O2 A2 f2_28 g_b2 U2 f2_90) hZ (w14 hw) (w11 hw) (by decide) (by decide)) (g := (mkF m 9 #[.val (.ref a1), .val (.long q2), .second, .val (.int p3)] [(.ref b2), (.ref b2), (.ref a1)])) rfl (by rw [hml]; rfl) (Steps.refl _) (a := b2) (argsL := []) (rest := [(.ref b2), (.ref a1)]) (lenOf pd_0 rfl) rfl (by show 2 * 0 + _ ≤ _; exact Nat.le_of_eq rfl) (hb hby d1_9) (fun vm₁ hw₁ => ⟨rfl, e2, (by decide : 1 + 1 ≤ _), (by decide : 2 + 32 ≤ _)⟩)
  dsimp only [Pt.U, Pt.locs, Pt.cells, Pt.slots] at X3 l3 y3 z3 st3 hQ3
  subst l3 y3 z3
  obtain ⟨b2_1_3, k2_1_3, rfl, M3, K3c, r3_0, r3_1, r3_2, r3_3, r3_4⟩ := hQ3
  have N3 := Fr.app N0 M3
  have g_b2_1_3 : n0 ≤ b2_1_3 := Nat.le_trans (own_n0 O2) r3_0
  have s_b2_1_3 : h0.size ≤ b2_1_3 := Nat.le_trans K2.1 r3_0
  have O3 : Old Z n0 T3.heap := O2.keep K3c (allS g_b2 all0)
  have K3 : Keep h0 T3.heap [a1] := K2.trans K3c (allS (Or.inr s_b2) all0)
  refine Go.tr st3 ?_
  show Go p e below _ (T3.setTop (mkF m 12 #[.val (.ref a1), .val (.long q2), .second, .val (.int p3)] [(.ref b2), (.ref a1)]))
  have c4 := ((P2.ext E2).keep K3c (ninS (Nat.ne_of_lt (Nat.lt_of_lt_of_le P1.lt (Nat.le_of_eq z2.symm))) nin0))
  obtain ⟨T5, h5, X5, e5, W5, st5⟩ := putF X3 hx hZ hown (host := "") (Or.inl (w29 hw)) Via.refl rfl c4 ((P1.ext E2).keep K3c) (Or.inr ⟨(w30 hw), rfl, hnm⟩) (w1 hw) (ty := (.object "java/io/ByteArrayOutputStream")) (by decide) rfl rfl (g := (mkF m 12 #[.val (.ref a1), .val (.long q2), .second, .val (.int p3)] [(.ref b2), (.ref a1)])) rfl rfl (hb hby d1_12)
  have F5 : Fld Z h5 a1 "com/example/outbound_courier/outboundcourier/http/BodyReader" "kept" "Ljava/io/ByteArrayOutputStream;" (.ref b2) := c4.same W5
  have N5 := Fr.snoc X5 N3 P3
  have O5 : Old Z n0 h5 := O3.wr W5 P3
  have K5 : Keep h0 h5 [a1] := K3.wr W5 (Or.inl (List.mem_of_getElem? (i := 0) rfl))
  refine Go.st st5 ?_
  show Go p e below _ (T5.setTop (mkF m 15 #[.val (.ref a1), .val (.long q2), .second, .val (.int p3)] []))
  refine Go.st (fun t k => XS.aloadN X5.here hx rfl (hb hby d1_15) rfl rfl k) ?_
  show Go p e below _ (T5.setTop (mkF m 16 #[.val (.ref a1), .val (.long q2), .second, .val (.int p3)] [(.ref a1)]))
  obtain ⟨T6, h6, X6, e6, E6, A6, D6, -, st6⟩ := newO X5 hx hZ hown (w31 hw) (w32 hw) (w33 hw) e5 (g := (mkF m 16 #[.val (.ref a1), .val (.long q2), .second, .val (.int p3)] [(.ref a1)])) rfl (hb hby d1_16) (by decide) (by decide)
  obtain ⟨b6, z6⟩ : ∃ z, z = h5.size := ⟨_, rfl⟩
  rw [← z6] at A6 D6 st6
  have g_b6 : n0 ≤ b6 := Nat.le_trans (own_n0 O5) (Nat.le_of_eq z6.symm)
  have s_b6 : h0.size ≤ b6 := Nat.le_trans K5.1 (Nat.le_of_eq z6.symm)
  have O6 : Old Z n0 h6 := O5.ext E6
  have K6 : Keep h0 h6 [a1] := K5.ext E6
  have f6_47 : Fld Z h6 b6 "java/lang/AbstractStringBuilder" "value" "[B" .null := D6 (Or.inl (w47 hw)) (ty := (.array .byte)) (by decide)
  have f6_49 : Fld Z h6 b6 "java/lang/AbstractStringBuilder" "coder" "B" (.int (0 : Int32)) := D6 (Or.inl (w49 hw)) (ty := .byte) (by decide)
  refine Go.st st6 ?_
  show Go p e below _ (T6.setTop (mkF m 19 #[.val (.ref a1), .val (.long q2), .second, .val (.int p3)] [(.ref b6), (.ref a1)]))
  refine Go.st (fun t k => XS.dup X6.here hx rfl (hb hby d1_19) rfl rfl k) ?_
  show Go p e below _ (T6.setTop (mkF m 20 #[.val (.ref a1), .val (.long q2), .second, .val (.int p3)] [(.ref b6), (.ref b6), (.ref a1)]))
  obtain ⟨_, _, ⟨T7, L7, k7, n7⟩, -, X7, ⟨Lc7, hQ7, l7, y7, z7⟩, st7⟩ := X6.specialBack hx (y := (⟨"java/lang/StringBuilder", "<init>", "()V"⟩ : MethodName)) rfl hown (mvT hZ (w34 hw)) (mvT hZ (w35 hw)) (mvT hZ (w36 hw)) (by decide) (backOf (W := 2) (rm6_1 l Z a0 hw [] b6 p4 h6 n0 O6 P4 P5 A6 f6_47 g_b6 f6_49) hZ (w36 hw) (w33 hw) (by decide) (by decide)) (g := (mkF m 20 #[.val (.ref a1), .val (.long q2), .second, .val (.int p3)] [(.ref b6), (.ref b6), (.ref a1)])) rfl (by rw [hml]; rfl) (Steps.refl _) (a := b6) (argsL := []) (rest := [(.ref b6), (.ref a1)]) (lenOf pd_0 rfl) rfl (by show 2 * 0 + _ ≤ _; exact Nat.le_of_eq rfl) (hb hby d1_20) (fun vm₁ hw₁ => ⟨rfl, e6, (by decide : 3 + 1 ≤ _), (by decide : 38 + 16 ≤ _)⟩)
  dsimp only [Pt.U, Pt.locs, Pt.cells, Pt.slots] at X7 l7 y7 z7 st7 hQ7
  subst l7 y7 z7
  obtain ⟨b3_1_7, k3_1_7, rfl, M7, K7c, r7_0, r7_1, r7_2, r7_3⟩ := hQ7
  have N7 := Fr.app N5 M7
  have g_b3_1_7 : n0 ≤ b3_1_7 := Nat.le_trans (own_n0 O6) r7_0
  have s_b3_1_7 : h0.size ≤ b3_1_7 := Nat.le_trans K6.1 r7_0
  have O7 : Old Z n0 T7.heap := O6.keep K7c (allS g_b6 all0)
  have K7 : Keep h0 T7.heap [a1] := K6.trans K7c (allS (Or.inr s_b6) all0)
  refine Go.tr st7 ?_
  show Go p e below _ (T7.setTop (mkF m 23 #[.val (.ref a1), .val (.long q2), .second, .val (.int p3)] [(.ref b6), (.ref a1)]))
  have c8 := (((((P1.ext E2).keep K3c).wr W5).ext E6).keep K7c)
  have c9 := (((((P6.ext E2).keep K3c (ninS (Nat.ne_of_lt (Nat.lt_of_lt_of_le P1.lt (Nat.le_of_eq z2.symm))) nin0)).other W5 (Or.inr (slot_ne (Or.inr (w51 hw)) (Or.inr (w30 hw)) (by decide) (t := (.object "java/lang/StringBuilder")) (t' := (.object "java/io/ByteArrayOutputStream")) (by decide) (by decide)))).ext E6).keep K7c (ninS (Nat.ne_of_lt (Nat.lt_of_lt_of_le (Nat.lt_of_lt_of_le (Nat.lt_of_lt_of_le (Nat.lt_of_lt_of_le P1.lt E2.1) K3c.1) (Nat.le_of_eq W5.size.symm)) (Nat.le_of_eq z6.symm))) nin0))
  obtain ⟨T10, h10, X10, e10, W10, st10⟩ := putF X7 hx hZ hown (host := "") (Or.inl (w50 hw)) Via.refl rfl c9 c8 (Or.inr ⟨(w51 hw), rfl, hnm⟩) (w1 hw) (ty := (.object "java/lang/StringBuilder")) (by decide) rfl rfl (g := (mkF m 23 #[.val (.ref a1), .val (.long q2), .second, .val (.int p3)] [(.ref b6), (.ref a1)])) rfl rfl (hb hby d1_23)
  have F10 : Fld Z h10 a1 "com/example/outbound_courier/outboundcourier/http/BodyReader" "line" "Ljava/lang/StringBuilder;" (.ref b6) := c9.same W10
  have N10 := Fr.snoc X10 N7 P3
  have O10 : Old Z n0 h10 := O7.wr W10 P3
  have K10 : Keep h0 h10 [a1] := K7.wr W10 (Or.inl (List.mem_of_getElem? (i := 0) rfl))
  refine Go.st st10 ?_
  show Go p e below _ (T10.setTop (mkF m 26 #[.val (.ref a1), .val (.long q2), .second, .val (.int p3)] []))
  refine Go.st (fun t k => XS.aloadN X10.here hx rfl (hb hby d1_26) rfl rfl k) ?_
  show Go p e below _ (T10.setTop (mkF m 27 #[.val (.ref a1), .val (.long q2), .second, .val (.int p3)] [(.ref a1)]))
  refine Go.st (fun t k => XS.iloadN X10.here hx rfl (hb hby d1_27) rfl k) ?_
  show Go p e below _ (T10.setTop (mkF m 28 #[.val (.ref a1), .val (.long q2), .second, .val (.int p3)] [(.int p3), (.ref a1)]))
  have c11 := ((((((P7.ext E2).keep K3c (ninS (Nat.ne_of_lt (Nat.lt_of_lt_of_le P1.lt (Nat.le_of_eq z2.symm))) nin0)).other W5 (Or.inr (slot_ne (Or.inr (w53 hw)) (Or.inr (w30 hw)) (by decide) (t := .int) (t' := (.object "java/io/ByteArrayOutputStream")) (by decide) (by decide)))).ext E6).keep K7c (ninS (Nat.ne_of_lt (Nat.lt_of_lt_of_le (Nat.lt_of_lt_of_le (Nat.lt_of_lt_of_le (Nat.lt_of_lt_of_le P1.lt E2.1) K3c.1) (Nat.le_of_eq W5.size.symm)) (Nat.le_of_eq z6.symm))) nin0)).other W10 (Or.inr (slot_ne (Or.inr (w53 hw)) (Or.inr (w51 hw)) (by decide) (t := .int) (t' := (.object "java/lang/StringBuilder")) (by decide) (by decide))))
  obtain ⟨T12, h12, X12, e12, W12, st12⟩ := putF X10 hx hZ hown (host := "") (Or.inl (w52 hw)) Via.refl e10 c11 (c8.wr W10) (Or.inr ⟨(w53 hw), rfl, hnm⟩) (w1 hw) (ty := .int) (by decide) rfl rfl (g := (mkF m 28 #[.val (.ref a1), .val (.long q2), .second, .val (.int p3)] [(.int p3), (.ref a1)])) rfl rfl (hb hby d1_28)
  have F12 : Fld Z h12 a1 "com/example/outbound_courier/outboundcourier/http/BodyReader" "maxBytes" "I" (.int p3) := c11.same W12
  have N12 := Fr.snoc X12 N10 P3
  have O12 : Old Z n0 h12 := O10.wr W12 P3
  have K12 : Keep h0 h12 [a1] := K10.wr W12 (Or.inl (List.mem_of_getElem? (i := 0) rfl))
  refine Go.st st12 ?_
  show Go p e below _ (T12.setTop (mkF m 31 #[.val (.ref a1), .val (.long q2), .second, .val (.int p3)] []))
  refine Go.st (fun t k => XS.aloadN X12.here hx rfl (hb hby d1_31) rfl rfl k) ?_
  show Go p e below _ (T12.setTop (mkF m 32 #[.val (.ref a1), .val (.long q2), .second, .val (.int p3)] [(.ref a1)]))
  refine Go.st (fun t k => XS.lloadN X12.here hx rfl (hb hby d1_32) rfl k) ?_
  show Go p e below _ (T12.setTop (mkF m 33 #[.val (.ref a1), .val (.long q2), .second, .val (.int p3)] [(.long q2), (.ref a1)]))
  refine Go.st (fun t k => X12.ldc2J hx hown (mvT hZ (w54 hw)) (g := (mkF m 33 #[.val (.ref a1), .val (.long q2), .second, .val (.int p3)] [(.long q2), (.ref a1)])) rfl (hb hby d1_33) k) ?_
  show Go p e below _ (T12.setTop (mkF m 36 #[.val (.ref a1), .val (.long q2), .second, .val (.int p3)] [(.long (-1 : Int64)), (.long q2), (.ref a1)]))
  refine Go.st (fun t k => Jvm.Free.XT.lcmp X12.here hx rfl (hb hby d1_36) rfl k) ?_
  show Go p e below _ (T12.setTop (mkF m 37 #[.val (.ref a1), .val (.long q2), .second, .val (.int p3)] [(.int (Jvm.Free.XT.cmpL q2 (-1 : Int64))), (.ref a1)]))
  refine Go.st (fun t k => XS.ifYes X12.here hx rfl (pc0 := 37) (pc' := 44) rfl (hb hby d1_37) rfl (Jvm.Free.XT.ll_ne_t P8) (by decide) (by decide) k) ?_
  show Go p e below _ (T12.setTop (mkF m 44 #[.val (.ref a1), .val (.long q2), .second, .val (.int p3)] [(.ref a1)]))
  refine Go.st (fun t k => XS.iconst X12.here hx rfl (hb hby d1_44) k) ?_
  show Go p e below _ (T12.setTop (mkF m 45 #[.val (.ref a1), .val (.long q2), .second, .val (.int p3)] [(.int (0 : Int32)), (.ref a1)]))
  have c13 := (((((((P9.ext E2).keep K3c (ninS (Nat.ne_of_lt (Nat.lt_of_lt_of_le P1.lt (Nat.le_of_eq z2.symm))) nin0)).other W5 (Or.inr (slot_ne (Or.inr (w56 hw)) (Or.inr (w30 hw)) (by decide) (t := .boolean) (t' := (.object "java/io/ByteArrayOutputStream")) (by decide) (by decide)))).ext E6).keep K7c (ninS (Nat.ne_of_lt (Nat.lt_of_lt_of_le (Nat.lt_of_lt_of_le (Nat.lt_of_lt_of_le (Nat.lt_of_lt_of_le P1.lt E2.1) K3c.1) (Nat.le_of_eq W5.size.symm)) (Nat.le_of_eq z6.symm))) nin0)).other W10 (Or.inr (slot_ne (Or.inr (w56 hw)) (Or.inr (w51 hw)) (by decide) (t := .boolean) (t' := (.object "java/lang/StringBuilder")) (by decide) (by decide)))).other W12 (Or.inr (slot_ne (Or.inr (w56 hw)) (Or.inr (w53 hw)) (by decide) (t := .boolean) (t' := .int) (by decide) (by decide))))
  obtain ⟨T14, h14, X14, e14, W14, st14⟩ := putFN X12 hx hZ hown (w55 hw) Via.refl e12 c13 ((c8.wr W10).wr W12) (Or.inr ⟨(w56 hw), rfl, hnm⟩) (w1 hw) (ty := .boolean) (v' := (.int (0 : Int32))) (by decide) rfl (by decide) (g := (mkF m 45 #[.val (.ref a1), .val (.long q2), .second, .val (.int p3)] [(.int (0 : Int32)), (.ref a1)])) rfl rfl (hb hby d1_45)
  have F14 : Fld Z h14 a1 "com/example/outbound_courier/outboundcourier/http/BodyReader" "chunked" "Z" (.int (0 : Int32)) := c13.same W14
  have N14 := Fr.snoc X14 N12 P3
  have O14 : Old Z n0 h14 := O12.wr W14 P3
  have K14 : Keep h0 h14 [a1] := K12.wr W14 (Or.inl (List.mem_of_getElem? (i := 0) rfl))
  refine Go.st st14 ?_
  show Go p e below _ (T14.setTop (mkF m 48 #[.val (.ref a1), .val (.long q2), .second, .val (.int p3)] []))
  refine Go.st (fun t k => XS.aloadN X14.here hx rfl (hb hby d1_48) rfl rfl k) ?_
  show Go p e below _ (T14.setTop (mkF m 49 #[.val (.ref a1), .val (.long q2), .second, .val (.int p3)] [(.ref a1)]))
  refine Go.st (fun t k => XS.aloadN X14.here hx rfl (hb hby d1_49) rfl rfl k) ?_
  show Go p e below _ (T14.setTop (mkF m 50 #[.val (.ref a1), .val (.long q2), .second, .val (.int p3)] [(.ref a1), (.ref a1)]))
  obtain ⟨T15, X15, e15, st15⟩ := getF X14 hx hZ hown (host := "") (Or.inl (w55 hw)) Via.refl e14 F14 (g := (mkF m 50 #[.val (.ref a1), .val (.long q2), .second, .val (.int p3)] [(.ref a1), (.ref a1)])) rfl rfl (hb hby d1_50)
  refine Go.st st15 ?_
  show Go p e below _ (T15.setTop (mkF m 53 #[.val (.ref a1), .val (.long q2), .second, .val (.int p3)] [(.int (0 : Int32)), (.ref a1)]))
  refine Go.st (fun t k => XS.ifYes X15.here hx rfl (pc0 := 53) (pc' := 60) rfl (hb hby d1_53) rfl (Jvm.Free.XT.i0_eq_t (by decide : (0 : Int32) = (0 : Int32))) (by decide) (by decide) k) ?_
  show Go p e below _ (T15.setTop (mkF m 60 #[.val (.ref a1), .val (.long q2), .second, .val (.int p3)] [(.ref a1)]))
  refine Go.st (fun t k => XS.lloadN X15.here hx rfl (hb hby d1_60) rfl k) ?_
  show Go p e below _ (T15.setTop (mkF m 61 #[.val (.ref a1), .val (.long q2), .second, .val (.int p3)] [(.long q2), (.ref a1)]))
  have c16 := ((((((((P10.ext E2).keep K3c (ninS (Nat.ne_of_lt (Nat.lt_of_lt_of_le P1.lt (Nat.le_of_eq z2.symm))) nin0)).other W5 (Or.inr (slot_ne (Or.inl (w58 hw)) (Or.inr (w30 hw)) (by decide) (t := .long) (t' := (.object "java/io/ByteArrayOutputStream")) (by decide) (by decide)))).ext E6).keep K7c (ninS (Nat.ne_of_lt (Nat.lt_of_lt_of_le (Nat.lt_of_lt_of_le (Nat.lt_of_lt_of_le (Nat.lt_of_lt_of_le P1.lt E2.1) K3c.1) (Nat.le_of_eq W5.size.symm)) (Nat.le_of_eq z6.symm))) nin0)).other W10 (Or.inr (slot_ne (Or.inl (w58 hw)) (Or.inr (w51 hw)) (by decide) (t := .long) (t' := (.object "java/lang/StringBuilder")) (by decide) (by decide)))).other W12 (Or.inr (slot_ne (Or.inl (w58 hw)) (Or.inr (w53 hw)) (by decide) (t := .long) (t' := .int) (by decide) (by decide)))).other W14 (Or.inr (slot_ne (Or.inl (w58 hw)) (Or.inr (w56 hw)) (by decide) (t := .long) (t' := .boolean) (by decide) (by decide))))
  obtain ⟨T17, h17, X17, e17, W17, st17⟩ := putF X15 hx hZ hown (host := "") (Or.inl (w57 hw)) Via.refl e15 c16 (((c8.wr W10).wr W12).wr W14) (Or.inl (w58 hw)) (w1 hw) (ty := .long) (by decide) rfl rfl (g := (mkF m 61 #[.val (.ref a1), .val (.long q2), .second, .val (.int p3)] [(.long q2), (.ref a1)])) rfl rfl (hb hby d1_61)
  have F17 : Fld Z h17 a1 "com/example/outbound_courier/outboundcourier/http/BodyReader" "left" "J" (.long q2) := c16.same W17
  have N17 := Fr.snoc X17 N14 P3
  have O17 : Old Z n0 h17 := O14.wr W17 P3
  have K17 : Keep h0 h17 [a1] := K14.wr W17 (Or.inl (List.mem_of_getElem? (i := 0) rfl))
  refine Go.st st17 ?_
  show Go p e below _ (T17.setTop (mkF m 64 #[.val (.ref a1), .val (.long q2), .second, .val (.int p3)] []))
  refine Go.st (fun t k => XS.aloadN X17.here hx rfl (hb hby d1_64) rfl rfl k) ?_
  show Go p e below _ (T17.setTop (mkF m 65 #[.val (.ref a1), .val (.long q2), .second, .val (.int p3)] [(.ref a1)]))
  refine Go.st (fun t k => XS.aloadN X17.here hx rfl (hb hby d1_65) rfl rfl k) ?_
  show Go p e below _ (T17.setTop (mkF m 66 #[.val (.ref a1), .val (.long q2), .second, .val (.int p3)] [(.ref a1), (.ref a1)]))
  have c18 := (F14.other W17 (Or.inr (slot_ne (Or.inr (w56 hw)) (Or.inl (w58 hw)) (by decide) (t := .boolean) (t' := .long) (by decide) (by decide))))
  obtain ⟨T19, X19, e19, st19⟩ := getF X17 hx hZ hown (host := "") (Or.inl (w55 hw)) Via.refl e17 c18 (g := (mkF m 66 #[.val (.ref a1), .val (.long q2), .second, .val (.int p3)] [(.ref a1), (.ref a1)])) rfl rfl (hb hby d1_66)
  refine Go.st st19 ?_
  show Go p e below _ (T19.setTop (mkF m 69 #[.val (.ref a1), .val (.long q2), .second, .val (.int p3)] [(.int (0 : Int32)), (.ref a1)]))
  refine Go.st (fun t k => XS.ifYes X19.here hx rfl (pc0 := 69) (pc' := 78) rfl (hb hby d1_69) rfl (Jvm.Free.XT.i0_eq_t (by decide : (0 : Int32) = (0 : Int32))) (by decide) (by decide) k) ?_
  show Go p e below _ (T19.setTop (mkF m 78 #[.val (.ref a1), .val (.long q2), .second, .val (.int p3)] [(.ref a1)]))
  obtain ⟨T20, X20, e20, st20⟩ := getS2 X19 hx hZ hown (host := "") (Or.inl (w59 hw)) Via.refl e19 (P11.ext O17.2) (g := (mkF m 78 #[.val (.ref a1), .val (.long q2), .second, .val (.int p3)] [(.ref a1)])) rfl (hb hby d1_78)
  refine Go.st st20 ?_
  show Go p e below _ (T20.setTop (mkF m 81 #[.val (.ref a1), .val (.long q2), .second, .val (.int p3)] [(.ref a5), (.ref a1)]))
  have c21 := (((((((((P12.ext E2).keep K3c (ninS (Nat.ne_of_lt (Nat.lt_of_lt_of_le P1.lt (Nat.le_of_eq z2.symm))) nin0)).other W5 (Or.inr (slot_ne (Or.inl (w63 hw)) (Or.inr (w30 hw)) (by decide) (t := (.object "com/example/outbound_courier/outboundcourier/http/BodyReader$State")) (t' := (.object "java/io/ByteArrayOutputStream")) (by decide) (by decide)))).ext E6).keep K7c (ninS (Nat.ne_of_lt (Nat.lt_of_lt_of_le (Nat.lt_of_lt_of_le (Nat.lt_of_lt_of_le (Nat.lt_of_lt_of_le P1.lt E2.1) K3c.1) (Nat.le_of_eq W5.size.symm)) (Nat.le_of_eq z6.symm))) nin0)).other W10 (Or.inr (slot_ne (Or.inl (w63 hw)) (Or.inr (w51 hw)) (by decide) (t := (.object "com/example/outbound_courier/outboundcourier/http/BodyReader$State")) (t' := (.object "java/lang/StringBuilder")) (by decide) (by decide)))).other W12 (Or.inr (slot_ne (Or.inl (w63 hw)) (Or.inr (w53 hw)) (by decide) (t := (.object "com/example/outbound_courier/outboundcourier/http/BodyReader$State")) (t' := .int) (by decide) (by decide)))).other W14 (Or.inr (slot_ne (Or.inl (w63 hw)) (Or.inr (w56 hw)) (by decide) (t := (.object "com/example/outbound_courier/outboundcourier/http/BodyReader$State")) (t' := .boolean) (by decide) (by decide)))).other W17 (Or.inr (slot_ne (Or.inl (w63 hw)) (Or.inl (w58 hw)) (by decide) (t := (.object "com/example/outbound_courier/outboundcourier/http/BodyReader$State")) (t' := .long) (by decide) (by decide))))
  obtain ⟨T22, h22, X22, e22, W22, st22⟩ := putF X20 hx hZ hown (host := "") (Or.inl (w62 hw)) Via.refl e20 c21 ((((c8.wr W10).wr W12).wr W14).wr W17) (Or.inl (w63 hw)) (w1 hw) (ty := (.object "com/example/outbound_courier/outboundcourier/http/BodyReader$State")) (by decide) rfl rfl (g := (mkF m 81 #[.val (.ref a1), .val (.long q2), .second, .val (.int p3)] [(.ref a5), (.ref a1)])) rfl rfl (hb hby d1_81)
  have F22 : Fld Z h22 a1 "com/example/outbound_courier/outboundcourier/http/BodyReader" "state" "Lcom/example/outbound_courier/outboundcourier/http/BodyReader$State;" (.ref a5) := c21.same W22
  have N22 := Fr.snoc X22 N17 P3
  have O22 : Old Z n0 h22 := O17.wr W22 P3
  have K22 : Keep h0 h22 [a1] := K17.wr W22 (Or.inl (List.mem_of_getElem? (i := 0) rfl))
  refine Go.st st22 ?_
  show Go p e below _ (T22.setTop (mkF m 84 #[.val (.ref a1), .val (.long q2), .second, .val (.int p3)] []))
  refine Go.st (fun t k => XS.aloadN X22.here hx rfl (hb hby d1_84) rfl rfl k) ?_
  show Go p e below _ (T22.setTop (mkF m 85 #[.val (.ref a1), .val (.long q2), .second, .val (.int p3)] [(.ref a1)]))
  have c23 := (c18.other W22 (Or.inr (slot_ne (Or.inr (w56 hw)) (Or.inl (w63 hw)) (by decide) (t := .boolean) (t' := (.object "com/example/outbound_courier/outboundcourier/http/BodyReader$State")) (by decide) (by decide))))
  obtain ⟨T24, X24, e24, st24⟩ := getF X22 hx hZ hown (host := "") (Or.inl (w55 hw)) Via.refl e22 c23 (g := (mkF m 85 #[.val (.ref a1), .val (.long q2), .second, .val (.int p3)] [(.ref a1)])) rfl rfl (hb hby d1_85)
  refine Go.st st24 ?_
  show Go p e below _ (T24.setTop (mkF m 88 #[.val (.ref a1), .val (.long q2), .second, .val (.int p3)] [(.int (0 : Int32))]))
  refine Go.st (fun t k => XS.ifNo X24.here hx rfl (hb hby d1_88) rfl (Jvm.Free.XT.i0_ne_f (by decide : (0 : Int32) = (0 : Int32))) k) ?_
  show Go p e below _ (T24.setTop (mkF m 91 #[.val (.ref a1), .val (.long q2), .second, .val (.int p3)] []))
  refine Go.st (fun t k => XS.lloadN X24.here hx rfl (hb hby d1_91) rfl k) ?_
  show Go p e below _ (T24.setTop (mkF m 92 #[.val (.ref a1), .val (.long q2), .second, .val (.int p3)] [(.long q2)]))
  refine Go.st (fun t k => XS.iloadN X24.here hx rfl (hb hby d1_92) rfl k) ?_
  show Go p e below _ (T24.setTop (mkF m 93 #[.val (.ref a1), .val (.long q2), .second, .val (.int p3)] [(.int p3), (.long q2)]))
  refine Go.st (fun t k => XS.i2l X24.here hx rfl (hb hby d1_93) rfl k) ?_
  show Go p e below _ (T24.setTop (mkF m 94 #[.val (.ref a1), .val (.long q2), .second, .val (.int p3)] [(.long (p3.toInt64)), (.long q2)]))
  refine Go.st (fun t k => Jvm.Free.XT.lcmp X24.here hx rfl (hb hby d1_94) rfl k) ?_
  show Go p e below _ (T24.setTop (mkF m 95 #[.val (.ref a1), .val (.long q2), .second, .val (.int p3)] [(.int (Jvm.Free.XT.cmpL q2 (p3.toInt64)))]))
  refine Go.st (fun t k => XS.ifNo X24.here hx rfl (hb hby d1_95) rfl (Jvm.Free.XT.ll_le_f P13) k) ?_
  show Go p e below _ (T24.setTop (mkF m 98 #[.val (.ref a1), .val (.long q2), .second, .val (.int p3)] []))
  refine Go.st (fun t k => XS.aloadN X24.here hx rfl (hb hby d1_98) rfl rfl k) ?_
  show Go p e below _ (T24.setTop (mkF m 99 #[.val (.ref a1), .val (.long q2), .second, .val (.int p3)] [(.ref a1)]))
  refine Go.st (fun t k => XS.iconst X24.here hx rfl (hb hby d1_99) k) ?_
  show Go p e below _ (T24.setTop (mkF m 100 #[.val (.ref a1), .val (.long q2), .second, .val (.int p3)] [(.int (1 : Int32)), (.ref a1)]))
  have c25 := (((((c8.wr W10).wr W12).wr W14).wr W17).wr W22)
  have c26 := ((((((((((P14.ext E2).keep K3c (ninS (Nat.ne_of_lt (Nat.lt_of_lt_of_le P1.lt (Nat.le_of_eq z2.symm))) nin0)).other W5 (Or.inr (slot_ne (Or.inl (w78 hw)) (Or.inr (w30 hw)) (by decide) (t := .boolean) (t' := (.object "java/io/ByteArrayOutputStream")) (by decide) (by decide)))).ext E6).keep K7c (ninS (Nat.ne_of_lt (Nat.lt_of_lt_of_le (Nat.lt_of_lt_of_le (Nat.lt_of_lt_of_le (Nat.lt_of_lt_of_le P1.lt E2.1) K3c.1) (Nat.le_of_eq W5.size.symm)) (Nat.le_of_eq z6.symm))) nin0)).other W10 (Or.inr (slot_ne (Or.inl (w78 hw)) (Or.inr (w51 hw)) (by decide) (t := .boolean) (t' := (.object "java/lang/StringBuilder")) (by decide) (by decide)))).other W12 (Or.inr (slot_ne (Or.inl (w78 hw)) (Or.inr (w53 hw)) (by decide) (t := .boolean) (t' := .int) (by decide) (by decide)))).other W14 (Or.inr (slot_ne (Or.inl (w78 hw)) (Or.inr (w56 hw)) (by decide) (t := .boolean) (t' := .boolean) (by decide) (by decide)))).other W17 (Or.inr (slot_ne (Or.inl (w78 hw)) (Or.inl (w58 hw)) (by decide) (t := .boolean) (t' := .long) (by decide) (by decide)))).other W22 (Or.inr (slot_ne (Or.inl (w78 hw)) (Or.inl (w63 hw)) (by decide) (t := .boolean) (t' := (.object "com/example/outbound_courier/outboundcourier/http/BodyReader$State")) (by decide) (by decide))))
  obtain ⟨T27, h27, X27, e27, W27, st27⟩ := putFN X24 hx hZ hown (w77 hw) Via.refl e24 c26 c25 (Or.inl (w78 hw)) (w1 hw) (ty := .boolean) (v' := (.int (1 : Int32))) (by decide) rfl (by decide) (g := (mkF m 100 #[.val (.ref a1), .val (.long q2), .second, .val (.int p3)] [(.int (1 : Int32)), (.ref a1)])) rfl rfl (hb hby d1_100)
  have F27 : Fld Z h27 a1 "com/example/outbound_courier/outboundcourier/http/BodyReader" "tooLarge" "Z" (.int (1 : Int32)) := c26.same W27
  have N27 := Fr.snoc X27 N22 P3
  have O27 : Old Z n0 h27 := O22.wr W27 P3
  have K27 : Keep h0 h27 [a1] := K22.wr W27 (Or.inl (List.mem_of_getElem? (i := 0) rfl))
  refine Go.st st27 ?_
  show Go p e below _ (T27.setTop (mkF m 103 #[.val (.ref a1), .val (.long q2), .second, .val (.int p3)] []))
  refine Go.st (fun t k => XS.aloadN X27.here hx rfl (hb hby d1_103) rfl rfl k) ?_
  show Go p e below _ (T27.setTop (mkF m 104 #[.val (.ref a1), .val (.long q2), .second, .val (.int p3)] [(.ref a1)]))
  have c28 := (c23.other W27 (Or.inr (slot_ne (Or.inr (w56 hw)) (Or.inl (w78 hw)) (by decide) (t := .boolean) (t' := .boolean) (by decide) (by decide))))
  obtain ⟨T29, X29, e29, st29⟩ := getF X27 hx hZ hown (host := "") (Or.inl (w55 hw)) Via.refl e27 c28 (g := (mkF m 104 #[.val (.ref a1), .val (.long q2), .second, .val (.int p3)] [(.ref a1)])) rfl rfl (hb hby d1_104)
  refine Go.st st29 ?_
  show Go p e below _ (T29.setTop (mkF m 107 #[.val (.ref a1), .val (.long q2), .second, .val (.int p3)] [(.int (0 : Int32))]))
  refine Go.st (fun t k => XS.ifNo X29.here hx rfl (hb hby d1_107) rfl (Jvm.Free.XT.i0_ne_f (by decide : (0 : Int32) = (0 : Int32))) k) ?_
  show Go p e below _ (T29.setTop (mkF m 110 #[.val (.ref a1), .val (.long q2), .second, .val (.int p3)] []))
  refine Go.st (fun t k => XS.lloadN X29.here hx rfl (hb hby d1_110) rfl k) ?_
  show Go p e below _ (T29.setTop (mkF m 111 #[.val (.ref a1), .val (.long q2), .second, .val (.int p3)] [(.long q2)]))
  refine Go.st (fun t k => XS.lconst X29.here hx rfl (hb hby d1_111) k) ?_
  show Go p e below _ (T29.setTop (mkF m 112 #[.val (.ref a1), .val (.long q2), .second, .val (.int p3)] [(.long (0 : Int64)), (.long q2)]))
  refine Go.st (fun t k => Jvm.Free.XT.lcmp X29.here hx rfl (hb hby d1_112) rfl k) ?_
  show Go p e below _ (T29.setTop (mkF m 113 #[.val (.ref a1), .val (.long q2), .second, .val (.int p3)] [(.int (Jvm.Free.XT.cmpL q2 (0 : Int64)))]))
  refine Go.st (fun t k => XS.ifYes X29.here hx rfl (pc0 := 113) (pc' := 123) rfl (hb hby d1_113) rfl (Jvm.Free.XT.ll_ne_t P15) (by decide) (by decide) k) ?_
  show Go p e below _ (T29.setTop (mkF m 123 #[.val (.ref a1), .val (.long q2), .second, .val (.int p3)] []))
  obtain ⟨fs, hr, hrun, hended, hWd, hsame⟩ := X29.leave (v := none) (fun _ => rfl)
  have c30 := ((((((((F5.ext E6).keep K7c (ninS (Nat.ne_of_lt (Nat.lt_of_lt_of_le (Nat.lt_of_lt_of_le (Nat.lt_of_lt_of_le (Nat.lt_of_lt_of_le P1.lt E2.1) K3c.1) (Nat.le_of_eq W5.size.symm)) (Nat.le_of_eq z6.symm))) nin0)).other W10 (Or.inr (slot_ne (Or.inr (w30 hw)) (Or.inr (w51 hw)) (by decide) (t := (.object "java/io/ByteArrayOutputStream")) (t' := (.object "java/lang/StringBuilder")) (by decide) (by decide)))).other W12 (Or.inr (slot_ne (Or.inr (w30 hw)) (Or.inr (w53 hw)) (by decide) (t := (.object "java/io/ByteArrayOutputStream")) (t' := .int) (by decide) (by decide)))).other W14 (Or.inr (slot_ne (Or.inr (w30 hw)) (Or.inr (w56 hw)) (by decide) (t := (.object "java/io/ByteArrayOutputStream")) (t' := .boolean) (by decide) (by decide)))).other W17 (Or.inr (slot_ne (Or.inr (w30 hw)) (Or.inl (w58 hw)) (by decide) (t := (.object "java/io/ByteArrayOutputStream")) (t' := .long) (by decide) (by decide)))).other W22 (Or.inr (slot_ne (Or.inr (w30 hw)) (Or.inl (w63 hw)) (by decide) (t := (.object "java/io/ByteArrayOutputStream")) (t' := (.object "com/example/outbound_courier/outboundcourier/http/BodyReader$State")) (by decide) (by decide)))).other W27 (Or.inr (slot_ne (Or.inr (w30 hw)) (Or.inl (w78 hw)) (by decide) (t := (.object "java/io/ByteArrayOutputStream")) (t' := .boolean) (by decide) (by decide))))
  have c31 := (((((F10.other W12 (Or.inr (slot_ne (Or.inr (w51 hw)) (Or.inr (w53 hw)) (by decide) (t := (.object "java/lang/StringBuilder")) (t' := .int) (by decide) (by decide)))).other W14 (Or.inr (slot_ne (Or.inr (w51 hw)) (Or.inr (w56 hw)) (by decide) (t := (.object "java/lang/StringBuilder")) (t' := .boolean) (by decide) (by decide)))).other W17 (Or.inr (slot_ne (Or.inr (w51 hw)) (Or.inl (w58 hw)) (by decide) (t := (.object "java/lang/StringBuilder")) (t' := .long) (by decide) (by decide)))).other W22 (Or.inr (slot_ne (Or.inr (w51 hw)) (Or.inl (w63 hw)) (by decide) (t := (.object "java/lang/StringBuilder")) (t' := (.object "com/example/outbound_courier/outboundcourier/http/BodyReader$State")) (by decide) (by decide)))).other W27 (Or.inr (slot_ne (Or.inr (w51 hw)) (Or.inl (w78 hw)) (by decide) (t := (.object "java/lang/StringBuilder")) (t' := .boolean) (by decide) (by decide))))
  have c32 := ((((F12.other W14 (Or.inr (slot_ne (Or.inr (w53 hw)) (Or.inr (w56 hw)) (by decide) (t := .int) (t' := .boolean) (by decide) (by decide)))).other W17 (Or.inr (slot_ne (Or.inr (w53 hw)) (Or.inl (w58 hw)) (by decide) (t := .int) (t' := .long) (by decide) (by decide)))).other W22 (Or.inr (slot_ne (Or.inr (w53 hw)) (Or.inl (w63 hw)) (by decide) (t := .int) (t' := (.object "com/example/outbound_courier/outboundcourier/http/BodyReader$State")) (by decide) (by decide)))).other W27 (Or.inr (slot_ne (Or.inr (w53 hw)) (Or.inl (w78 hw)) (by decide) (t := .int) (t' := .boolean) (by decide) (by decide))))
  have c33 := ((F17.other W22 (Or.inr (slot_ne (Or.inl (w58 hw)) (Or.inl (w63 hw)) (by decide) (t := .long) (t' := (.object "com/example/outbound_courier/outboundcourier/http/BodyReader$State")) (by decide) (by decide)))).other W27 (Or.inr (slot_ne (Or.inl (w58 hw)) (Or.inl (w78 hw)) (by decide) (t := .long) (t' := .boolean) (by decide) (by decide))))
  have c34 := (F22.other W27 (Or.inr (slot_ne (Or.inl (w63 hw)) (Or.inl (w78 hw)) (by decide) (t := (.object "com/example/outbound_courier/outboundcourier/http/BodyReader$State")) (t' := .boolean) (by decide) (by decide))))
  have c35 := ((((((((((A2.keep K3c).wr W5).ext E6).keep K7c).wr W10).wr W12).wr W14).wr W17).wr W22).wr W27)
  have c36 := (((((((((r3_2.wr W5).ext E6).keep K7c (ninS (Nat.ne_of_lt (Nat.lt_of_lt_of_le (Nat.lt_of_lt_of_le (Nat.lt_of_lt_of_le A2.lt K3c.1) (Nat.le_of_eq W5.size.symm)) (Nat.le_of_eq z6.symm))) nin0)).wr W10).wr W12).wr W14).wr W17).wr W22).wr W27)
  have c37 := (((((((((r3_1.other W5 (Or.inl (Ne.symm (Nat.ne_of_lt (Nat.lt_of_lt_of_le P1.lt (Nat.le_of_eq z2.symm)))))).ext E6).keep K7c (ninS (Nat.ne_of_lt (Nat.lt_of_lt_of_le (Nat.lt_of_lt_of_le (Nat.lt_of_lt_of_le A2.lt K3c.1) (Nat.le_of_eq W5.size.symm)) (Nat.le_of_eq z6.symm))) nin0)).other W10 (Or.inl (Ne.symm (Nat.ne_of_lt (Nat.lt_of_lt_of_le P1.lt (Nat.le_of_eq z2.symm)))))).other W12 (Or.inl (Ne.symm (Nat.ne_of_lt (Nat.lt_of_lt_of_le P1.lt (Nat.le_of_eq z2.symm)))))).other W14 (Or.inl (Ne.symm (Nat.ne_of_lt (Nat.lt_of_lt_of_le P1.lt (Nat.le_of_eq z2.symm)))))).other W17 (Or.inl (Ne.symm (Nat.ne_of_lt (Nat.lt_of_lt_of_le P1.lt (Nat.le_of_eq z2.symm)))))).other W22 (Or.inl (Ne.symm (Nat.ne_of_lt (Nat.lt_of_lt_of_le P1.lt (Nat.le_of_eq z2.symm)))))).other W27 (Or.inl (Ne.symm (Nat.ne_of_lt (Nat.lt_of_lt_of_le P1.lt (Nat.le_of_eq z2.symm))))))
  have c38 := (((((((((r3_3.other W5 (Or.inl (Ne.symm (Nat.ne_of_lt (Nat.lt_of_lt_of_le P1.lt (Nat.le_of_eq z2.symm)))))).ext E6).keep K7c (ninS (Nat.ne_of_lt (Nat.lt_of_lt_of_le (Nat.lt_of_lt_of_le (Nat.lt_of_lt_of_le A2.lt K3c.1) (Nat.le_of_eq W5.size.symm)) (Nat.le_of_eq z6.symm))) nin0)).other W10 (Or.inl (Ne.symm (Nat.ne_of_lt (Nat.lt_of_lt_of_le P1.lt (Nat.le_of_eq z2.symm)))))).other W12 (Or.inl (Ne.symm (Nat.ne_of_lt (Nat.lt_of_lt_of_le P1.lt (Nat.le_of_eq z2.symm)))))).other W14 (Or.inl (Ne.symm (Nat.ne_of_lt (Nat.lt_of_lt_of_le P1.lt (Nat.le_of_eq z2.symm)))))).other W17 (Or.inl (Ne.symm (Nat.ne_of_lt (Nat.lt_of_lt_of_le P1.lt (Nat.le_of_eq z2.symm)))))).other W22 (Or.inl (Ne.symm (Nat.ne_of_lt (Nat.lt_of_lt_of_le P1.lt (Nat.le_of_eq z2.symm)))))).other W27 (Or.inl (Ne.symm (Nat.ne_of_lt (Nat.lt_of_lt_of_le P1.lt (Nat.le_of_eq z2.symm))))))
  have c39 := (((((((A6.keep K7c).wr W10).wr W12).wr W14).wr W17).wr W22).wr W27)
  have c40 := ((((((r7_1.other W10 (Or.inl (Ne.symm (Nat.ne_of_lt (Nat.lt_of_lt_of_le (Nat.lt_of_lt_of_le (Nat.lt_of_lt_of_le (Nat.lt_of_lt_of_le P1.lt E2.1) K3c.1) (Nat.le_of_eq W5.size.symm)) (Nat.le_of_eq z6.symm)))))).other W12 (Or.inl (Ne.symm (Nat.ne_of_lt (Nat.lt_of_lt_of_le (Nat.lt_of_lt_of_le (Nat.lt_of_lt_of_le (Nat.lt_of_lt_of_le P1.lt E2.1) K3c.1) (Nat.le_of_eq W5.size.symm)) (Nat.le_of_eq z6.symm)))))).other W14 (Or.inl (Ne.symm (Nat.ne_of_lt (Nat.lt_of_lt_of_le (Nat.lt_of_lt_of_le (Nat.lt_of_lt_of_le (Nat.lt_of_lt_of_le P1.lt E2.1) K3c.1) (Nat.le_of_eq W5.size.symm)) (Nat.le_of_eq z6.symm)))))).other W17 (Or.inl (Ne.symm (Nat.ne_of_lt (Nat.lt_of_lt_of_le (Nat.lt_of_lt_of_le (Nat.lt_of_lt_of_le (Nat.lt_of_lt_of_le P1.lt E2.1) K3c.1) (Nat.le_of_eq W5.size.symm)) (Nat.le_of_eq z6.symm)))))).other W22 (Or.inl (Ne.symm (Nat.ne_of_lt (Nat.lt_of_lt_of_le (Nat.lt_of_lt_of_le (Nat.lt_of_lt_of_le (Nat.lt_of_lt_of_le P1.lt E2.1) K3c.1) (Nat.le_of_eq W5.size.symm)) (Nat.le_of_eq z6.symm)))))).other W27 (Or.inl (Ne.symm (Nat.ne_of_lt (Nat.lt_of_lt_of_le (Nat.lt_of_lt_of_le (Nat.lt_of_lt_of_le (Nat.lt_of_lt_of_le P1.lt E2.1) K3c.1) (Nat.le_of_eq W5.size.symm)) (Nat.le_of_eq z6.symm))))))
  have c41 := ((((((r7_2.other W10 (Or.inl (Ne.symm (Nat.ne_of_lt (Nat.lt_of_lt_of_le (Nat.lt_of_lt_of_le (Nat.lt_of_lt_of_le (Nat.lt_of_lt_of_le P1.lt E2.1) K3c.1) (Nat.le_of_eq W5.size.symm)) (Nat.le_of_eq z6.symm)))))).other W12 (Or.inl (Ne.symm (Nat.ne_of_lt (Nat.lt_of_lt_of_le (Nat.lt_of_lt_of_le (Nat.lt_of_lt_of_le (Nat.lt_of_lt_of_le P1.lt E2.1) K3c.1) (Nat.le_of_eq W5.size.symm)) (Nat.le_of_eq z6.symm)))))).other W14 (Or.inl (Ne.symm (Nat.ne_of_lt (Nat.lt_of_lt_of_le (Nat.lt_of_lt_of_le (Nat.lt_of_lt_of_le (Nat.lt_of_lt_of_le P1.lt E2.1) K3c.1) (Nat.le_of_eq W5.size.symm)) (Nat.le_of_eq z6.symm)))))).other W17 (Or.inl (Ne.symm (Nat.ne_of_lt (Nat.lt_of_lt_of_le (Nat.lt_of_lt_of_le (Nat.lt_of_lt_of_le (Nat.lt_of_lt_of_le P1.lt E2.1) K3c.1) (Nat.le_of_eq W5.size.symm)) (Nat.le_of_eq z6.symm)))))).other W22 (Or.inl (Ne.symm (Nat.ne_of_lt (Nat.lt_of_lt_of_le (Nat.lt_of_lt_of_le (Nat.lt_of_lt_of_le (Nat.lt_of_lt_of_le P1.lt E2.1) K3c.1) (Nat.le_of_eq W5.size.symm)) (Nat.le_of_eq z6.symm)))))).other W27 (Or.inl (Ne.symm (Nat.ne_of_lt (Nat.lt_of_lt_of_le (Nat.lt_of_lt_of_le (Nat.lt_of_lt_of_le (Nat.lt_of_lt_of_le P1.lt E2.1) K3c.1) (Nat.le_of_eq W5.size.symm)) (Nat.le_of_eq z6.symm))))))
  have c42 := (((((((((r3_4.other W5 (Ne.symm (Nat.ne_of_lt (Nat.lt_of_lt_of_le (Nat.lt_of_lt_of_le P1.lt E2.1) r3_0)))).ext E6).keep K7c (ninS (Nat.ne_of_lt (Nat.lt_of_lt_of_le (Nat.lt_of_lt_of_le r3_4.lt (Nat.le_of_eq W5.size.symm)) (Nat.le_of_eq z6.symm))) nin0)).other W10 (Ne.symm (Nat.ne_of_lt (Nat.lt_of_lt_of_le (Nat.lt_of_lt_of_le P1.lt E2.1) r3_0)))).other W12 (Ne.symm (Nat.ne_of_lt (Nat.lt_of_lt_of_le (Nat.lt_of_lt_of_le P1.lt E2.1) r3_0)))).other W14 (Ne.symm (Nat.ne_of_lt (Nat.lt_of_lt_of_le (Nat.lt_of_lt_of_le P1.lt E2.1) r3_0)))).other W17 (Ne.symm (Nat.ne_of_lt (Nat.lt_of_lt_of_le (Nat.lt_of_lt_of_le P1.lt E2.1) r3_0)))).other W22 (Ne.symm (Nat.ne_of_lt (Nat.lt_of_lt_of_le (Nat.lt_of_lt_of_le P1.lt E2.1) r3_0)))).other W27 (Ne.symm (Nat.ne_of_lt (Nat.lt_of_lt_of_le (Nat.lt_of_lt_of_le P1.lt E2.1) r3_0))))
  have c43 := ((((((r7_3.other W10 (Ne.symm (Nat.ne_of_lt (Nat.lt_of_lt_of_le (Nat.lt_of_lt_of_le (Nat.lt_of_lt_of_le (Nat.lt_of_lt_of_le (Nat.lt_of_lt_of_le P1.lt E2.1) K3c.1) (Nat.le_of_eq W5.size.symm)) E6.1) r7_0)))).other W12 (Ne.symm (Nat.ne_of_lt (Nat.lt_of_lt_of_le (Nat.lt_of_lt_of_le (Nat.lt_of_lt_of_le (Nat.lt_of_lt_of_le (Nat.lt_of_lt_of_le P1.lt E2.1) K3c.1) (Nat.le_of_eq W5.size.symm)) E6.1) r7_0)))).other W14 (Ne.symm (Nat.ne_of_lt (Nat.lt_of_lt_of_le (Nat.lt_of_lt_of_le (Nat.lt_of_lt_of_le (Nat.lt_of_lt_of_le (Nat.lt_of_lt_of_le P1.lt E2.1) K3c.1) (Nat.le_of_eq W5.size.symm)) E6.1) r7_0)))).other W17 (Ne.symm (Nat.ne_of_lt (Nat.lt_of_lt_of_le (Nat.lt_of_lt_of_le (Nat.lt_of_lt_of_le (Nat.lt_of_lt_of_le (Nat.lt_of_lt_of_le P1.lt E2.1) K3c.1) (Nat.le_of_eq W5.size.symm)) E6.1) r7_0)))).other W22 (Ne.symm (Nat.ne_of_lt (Nat.lt_of_lt_of_le (Nat.lt_of_lt_of_le (Nat.lt_of_lt_of_le (Nat.lt_of_lt_of_le (Nat.lt_of_lt_of_le P1.lt E2.1) K3c.1) (Nat.le_of_eq W5.size.symm)) E6.1) r7_0)))).other W27 (Ne.symm (Nat.ne_of_lt (Nat.lt_of_lt_of_le (Nat.lt_of_lt_of_le (Nat.lt_of_lt_of_le (Nat.lt_of_lt_of_le (Nat.lt_of_lt_of_le P1.lt E2.1) K3c.1) (Nat.le_of_eq W5.size.symm)) E6.1) r7_0))))
  refine ⟨_, _, ?_, hrun, hended, _, _, rfl, ?_, ⟨⟨_, rfl⟩, hWd, hsame.mono (by decide) (by decide)⟩⟩
  · exact X29.returnOut hx Bd.returns (hb hby d1_123) hr
  · show Q_rm1_3 Z a1 q2 p3 p4 a5 h0 n0 _ T29.heap _
    rw [e29]
    exact ⟨b2, b2_1_3, b6, b3_1_7, k2_1_3, k3_1_7, rfl, N27, K27, s_b2, s_b2_1_3, s_b6, s_b3_1_7, (Nat.ne_of_lt (Nat.lt_of_lt_of_le A2.lt r3_0)), (Nat.ne_of_lt (Nat.lt_of_lt_of_le (Nat.lt_of_lt_of_le (Nat.lt_of_lt_of_le A2.lt K3c.1) (Nat.le_of_eq W5.size.symm)) (Nat.le_of_eq z6.symm))), (Nat.ne_of_lt (Nat.lt_of_lt_of_le (Nat.lt_of_lt_of_le (Nat.lt_of_lt_of_le (Nat.lt_of_lt_of_le A2.lt K3c.1) (Nat.le_of_eq W5.size.symm)) E6.1) r7_0)), (Nat.ne_of_lt (Nat.lt_of_lt_of_le (Nat.lt_of_lt_of_le r3_4.lt (Nat.le_of_eq W5.size.symm)) (Nat.le_of_eq z6.symm))), (Nat.ne_of_lt (Nat.lt_of_lt_of_le (Nat.lt_of_lt_of_le (Nat.lt_of_lt_of_le r3_4.lt (Nat.le_of_eq W5.size.symm)) E6.1) r7_0)), (Nat.ne_of_lt (Nat.lt_of_lt_of_le A6.lt r7_0)), c30, c31, c32, c28, c33, c34, F27, c35, c36, c37, c38, c39, c40, c41, c42, c43⟩
def Q_rm8_3 (Z : State) (a1 : Addr) (a2 : Addr) (a3 : Addr) (h0 : Heap) (n0 : Nat) (v : Option Value) (h : Heap) (L : List Loc) : Prop := v = some (.int (1 : Int32)) ∧ Fr n0 L ∧ h = h0
set_option maxRecDepth 65536 in
set_option maxHeartbeats 40000000 in
theorem rm8_3 (l : Launch) (Z : State) (a0 : Array Value) (hw : ∀ d ∈ tables_1, d.before a0 Z = true) (ws : List Jvm.Cond) (a1 : Addr) (a2 : Addr) (a3 : Addr) (h0 : Heap) (n0 : Nat) (O0 : Old Z n0 h0) (P1 : Fld Z h0 a1 "com/example/outbound_courier/outboundcourier/http/BodyReader" "state" "Lcom/example/outbound_courier/outboundcourier/http/BodyReader$State;" (.ref a2)) (P2 : Sta Z Z.heap "com/example/outbound_courier/outboundcourier/http/BodyReader$State" "DONE" "Lcom/example/outbound_courier/outboundcourier/http/BodyReader$State;" (.ref a3)) (P3 : a2 ≠ a3) (P4 : Fld Z h0 a1 "com/example/outbound_courier/outboundcourier/http/BodyReader" "tooLarge" "Z" (.int (1 : Int32))) :
    MetFree l (⟨"com/example/outbound_courier/outboundcourier/http/BodyReader", "isDone", "()Z"⟩ : MethodName) (head1 (Jvm.Cond.code (⟨"com/example/outbound_courier/outboundcourier/http/BodyReader", "isDone", "()Z"⟩ : MethodName) prog_4_method_3_code 1 (some .boolean) :: ws) ({ frames := 0, cells := 0, slots := 0, locals := 0 } : Room)) (fun a U => a = #[(.ref a1)] ∧ Z.Warmed39 U.vm ∧ U.heap = h0) (fun _ _ _ _ _ => True) (fun _ U o U' => ∃ v L, o = .returned v ∧ Q_rm8_3 Z a1 a2 a3 h0 n0 v U'.heap L ∧ FrameEnd U o U' L ({ frames := 0, cells := 0, slots := 0, locals := 0 } : Room).cells ({ frames := 0, cells := 0, slots := 0, locals := 0 } : Room).slots) := by
  refine MetFree.of_bodySF (plainFor_of_name pn_4) hisR ?_
  intro p e s m args below meth c s₁ Bd hml0 hP hK
  obtain ⟨rfl, hZ, hh⟩ := hP
  have hx := Bd.exec
  have hby := Bd.bytes
  have hml : c.maxLocals = 1 := hml0
  have hown : s.vm.findClass "com/example/outbound_courier/outboundcourier/http/BodyReader" = some m.cls := findClass_of_methodNamed Bd.named
  have hnm := (name_of_methodNamed Bd.named Bd.method).1
  have X0 : Stand p l e ({ frames := 0, cells := 0, slots := 0, locals := 0 } : Room) s m #[(.ref a1)] below meth c s₁ [] 0 0 := Stand.of_body Bd
  have e0 : s₁.heap = h0 := by rw [← hh, Bd.state]; rfl
  have N0 := Fr.nil n0
  refine Go.start (P := (fun o U' => ∃ v L, o = .returned v ∧ Q_rm8_3 Z a1 a2 a3 h0 n0 v U'.heap L ∧ FrameEnd s o U' L ({ frames := 0, cells := 0, slots := 0, locals := 0 } : Room).cells ({ frames := 0, cells := 0, slots := 0, locals := 0 } : Room).slots)) (castTop (g' := (mkF m 0 #[.val (.ref a1)] [])) (by first | rfl | simp [entryFrame, mkF, argsToLocals, Value.category]) (T := s₁)) ?_
  refine Go.st (fun t k => XS.aloadN X0.here hx rfl (hb hby d8_0) rfl rfl k) ?_
  show Go p e below _ (s₁.setTop (mkF m 1 #[.val (.ref a1)] [(.ref a1)]))
  obtain ⟨T1, X1, e1, st1⟩ := getF X0 hx hZ hown (host := "") (Or.inl (w62 hw)) Via.refl e0 P1 (g := (mkF m 1 #[.val (.ref a1)] [(.ref a1)])) rfl rfl (hb hby d8_1)
  refine Go.st st1 ?_
  show Go p e below _ (T1.setTop (mkF m 4 #[.val (.ref a1)] [(.ref a2)]))
  obtain ⟨T2, X2, e2, st2⟩ := getS2 X1 hx hZ hown (host := "") (Or.inl (w64 hw)) Via.refl e1 (P2.ext O0.2) (g := (mkF m 4 #[.val (.ref a1)] [(.ref a2)])) rfl (hb hby d8_4)
  refine Go.st st2 ?_
  show Go p e below _ (T2.setTop (mkF m 7 #[.val (.ref a1)] [(.ref a3), (.ref a2)]))
  refine Go.st (fun t k => Jvm.RoadKit.acmp (g := (mkF m 7 #[.val (.ref a1)] [(.ref a3), (.ref a2)])) X2 hx rfl rfl rfl (pc0 := 7) (pc' := 10) (same := false) rfl (hb hby d8_7) rfl (decide_eq_false fun q => P3 (Value.ref.inj q)) (by decide) (by decide) k) ?_
  show Go p e below _ (T2.setTop (mkF m 10 #[.val (.ref a1)] []))
  refine Go.st (fun t k => XS.aloadN X2.here hx rfl (hb hby d8_10) rfl rfl k) ?_
  show Go p e below _ (T2.setTop (mkF m 11 #[.val (.ref a1)] [(.ref a1)]))
  obtain ⟨T3, X3, e3, st3⟩ := getF X2 hx hZ hown (host := "") (Or.inl (w77 hw)) Via.refl e2 P4 (g := (mkF m 11 #[.val (.ref a1)] [(.ref a1)])) rfl rfl (hb hby d8_11)
  refine Go.st st3 ?_
  show Go p e below _ (T3.setTop (mkF m 14 #[.val (.ref a1)] [(.int (1 : Int32))]))
  refine Go.st (fun t k => XS.ifNo X3.here hx rfl (hb hby d8_14) rfl (Jvm.Free.XT.i0_eq_f (by decide : ¬ ((1 : Int32) = (0 : Int32)))) k) ?_
  show Go p e below _ (T3.setTop (mkF m 17 #[.val (.ref a1)] []))
  refine Go.st (fun t k => XS.iconst X3.here hx rfl (hb hby d8_17) k) ?_
  show Go p e below _ (T3.setTop (mkF m 18 #[.val (.ref a1)] [(.int (1 : Int32))]))
  refine Go.st (fun t k => XS.goto X3.here hx rfl (pc0 := 18) (pc' := 22) rfl (hb hby d8_18) (by decide) (by decide) k) ?_
  show Go p e below _ (T3.setTop (mkF m 22 #[.val (.ref a1)] [(.int (1 : Int32))]))
  obtain ⟨fs, hr, hrun, hended, hWd, hsame⟩ := X3.leave (v := some (.int (1 : Int32))) (fun h => by rw [Bd.returns] at h; cases h)
  refine ⟨_, _, ?_, hrun, hended, _, _, rfl, ?_, ⟨⟨_, rfl⟩, hWd, hsame.mono (by decide) (by decide)⟩⟩
  · exact retN X3 hx (t := .boolean) Bd.returns (by simp) (hb hby d8_22) hr
  · show Q_rm8_3 Z a1 a2 a3 h0 n0 _ T3.heap _
    rw [e3]
    exact ⟨rfl, N0, rfl⟩
def Q_rm1_4 (Z : State) (a1 : Addr) (q2 : Int64) (p3 : Int32) (p4 : Int32) (a5 : Addr) (a6 : Addr) (h0 : Heap) (n0 : Nat) (v : Option Value) (h : Heap) (L : List Loc) : Prop := ∃ (b2 : Addr) (b2_1_3 : Addr) (b6 : Addr) (b3_1_7 : Addr) (k2_1_3 : ClassId) (k3_1_7 : ClassId), v = none ∧ Fr n0 L ∧ Keep h0 h [a1] ∧ h0.size ≤ b2 ∧ h0.size ≤ b2_1_3 ∧ h0.size ≤ b6 ∧ h0.size ≤ b3_1_7 ∧ b2 ≠ b2_1_3 ∧ b2 ≠ b6 ∧ b2 ≠ b3_1_7 ∧ b2_1_3 ≠ b6 ∧ b2_1_3 ≠ b3_1_7 ∧ b6 ≠ b3_1_7 ∧ Fld Z h a1 "com/example/outbound_courier/outboundcourier/http/BodyReader" "kept" "Ljava/io/ByteArrayOutputStream;" (.ref b2) ∧ Fld Z h a1 "com/example/outbound_courier/outboundcourier/http/BodyReader" "line" "Ljava/lang/StringBuilder;" (.ref b6) ∧ Fld Z h a1 "com/example/outbound_courier/outboundcourier/http/BodyReader" "maxBytes" "I" (.int p3) ∧ Fld Z h a1 "com/example/outbound_courier/outboundcourier/http/BodyReader" "chunked" "Z" (.int (0 : Int32)) ∧ Fld Z h a1 "com/example/outbound_courier/outboundcourier/http/BodyReader" "left" "J" (.long q2) ∧ Fld Z h a1 "com/example/outbound_courier/outboundcourier/http/BodyReader" "state" "Lcom/example/outbound_courier/outboundcourier/http/BodyReader$State;" (.ref a6) ∧ Fld Z h a1 "com/example/outbound_courier/outboundcourier/http/BodyReader" "tooLarge" "Z" (.int (0 : Int32)) ∧ Exa Z h b2 "java/io/ByteArrayOutputStream" ∧ Unt h b2 ∧ Fld Z h b2 "java/io/ByteArrayOutputStream" "buf" "[B" (.ref b2_1_3) ∧ Fld Z h b2 "java/io/ByteArrayOutputStream" "count" "I" (.int (0 : Int32)) ∧ Exa Z h b6 "java/lang/StringBuilder" ∧ Fld Z h b6 "java/lang/AbstractStringBuilder" "value" "[B" (.ref b3_1_7) ∧ Fld Z h b6 "java/lang/AbstractStringBuilder" "coder" "B" (.int (0 : Int32)) ∧ Arv Z h b2_1_3 k2_1_3 .byte (32 : Int32) [(.int (0 : Int32)), (.int (0 : Int32)), (.int (0 : Int32)), (.int (0 : Int32)), (.int (0 : Int32)), (.int (0 : Int32)), (.int (0 : Int32)), (.int (0 : Int32)), (.int (0 : Int32)), (.int (0 : Int32)), (.int (0 : Int32)), (.int (0 : Int32)), (.int (0 : Int32)), (.int (0 : Int32)), (.int (0 : Int32)), (.int (0 : Int32)), (.int (0 : Int32)), (.int (0 : Int32)), (.int (0 : Int32)), (.int (0 : Int32)), (.int (0 : Int32)), (.int (0 : Int32)), (.int (0 : Int32)), (.int (0 : Int32)), (.int (0 : Int32)), (.int (0 : Int32)), (.int (0 : Int32)), (.int (0 : Int32)), (.int (0 : Int32)), (.int (0 : Int32)), (.int (0 : Int32)), (.int (0 : Int32))] (.int (0 : Int32)) ∧ Arv Z h b3_1_7 k3_1_7 .byte (16 : Int32) [(.int (0 : Int32)), (.int (0 : Int32)), (.int (0 : Int32)), (.int (0 : Int32)), (.int (0 : Int32)), (.int (0 : Int32)), (.int (0 : Int32)), (.int (0 : Int32)), (.int (0 : Int32)), (.int (0 : Int32)), (.int (0 : Int32)), (.int (0 : Int32)), (.int (0 : Int32)), (.int (0 : Int32)), (.int (0 : Int32)), (.int (0 : Int32))] (.int (0 : Int32))
set_option maxRecDepth 65536 in
set_option maxHeartbeats 40000000 in
theorem rm1_4 (l : Launch) (Z : State) (a0 : Array Value) (hw : ∀ d ∈ tables_1, d.before a0 Z = true) (ws : List Jvm.Cond) (a1 : Addr) (q2 : Int64) (p3 : Int32) (p4 : Int32) (a5 : Addr) (a6 : Addr) (h0 : Heap) (n0 : Nat) (O0 : Old Z n0 h0) (P1 : Exa Z h0 a1 "com/example/outbound_courier/outboundcourier/http/BodyReader") (P2 : Fld Z h0 a1 "com/example/outbound_courier/outboundcourier/http/BodyReader" "kept" "Ljava/io/ByteArrayOutputStream;" .null) (P3 : n0 ≤ a1) (P4 : Sta Z Z.heap "java/lang/String" "COMPACT_STRINGS" "Z" (.int p4)) (P5 : ¬ (p4 = (0 : Int32))) (P6 : Fld Z h0 a1 "com/example/outbound_courier/outboundcourier/http/BodyReader" "line" "Ljava/lang/StringBuilder;" .null) (P7 : Fld Z h0 a1 "com/example/outbound_courier/outboundcourier/http/BodyReader" "maxBytes" "I" (.int (0 : Int32))) (P8 : ¬ (q2 = (-1 : Int64))) (P9 : Fld Z h0 a1 "com/example/outbound_courier/outboundcourier/http/BodyReader" "chunked" "Z" (.int (0 : Int32))) (P10 : Fld Z h0 a1 "com/example/outbound_courier/outboundcourier/http/BodyReader" "left" "J" (.long (0 : Int64))) (P11 : Sta Z Z.heap "com/example/outbound_courier/outboundcourier/http/BodyReader$State" "DATA" "Lcom/example/outbound_courier/outboundcourier/http/BodyReader$State;" (.ref a5)) (P12 : Fld Z h0 a1 "com/example/outbound_courier/outboundcourier/http/BodyReader" "state" "Lcom/example/outbound_courier/outboundcourier/http/BodyReader$State;" .null) (P13 : ¬ ((p3.toInt64) < q2)) (P14 : q2 = (0 : Int64)) (P15 : Sta Z Z.heap "com/example/outbound_courier/outboundcourier/http/BodyReader$State" "DONE" "Lcom/example/outbound_courier/outboundcourier/http/BodyReader$State;" (.ref a6)) (P16 : Fld Z h0 a1 "com/example/outbound_courier/outboundcourier/http/BodyReader" "tooLarge" "Z" (.int (0 : Int32))) :
    MetFree l (⟨"com/example/outbound_courier/outboundcourier/http/BodyReader", "<init>", "(JI)V"⟩ : MethodName) (head1 (Jvm.Cond.code (⟨"com/example/outbound_courier/outboundcourier/http/BodyReader", "<init>", "(JI)V"⟩ : MethodName) prog_4_method_1_code 4 none :: ws) ({ frames := 4, cells := 4, slots := 54, locals := 51 } : Room)) (fun a U => a = #[(.ref a1), (.long q2), (.int p3)] ∧ Z.Warmed39 U.vm ∧ U.heap = h0) (fun _ _ _ _ _ => True) (fun _ U o U' => ∃ v L, o = .returned v ∧ Q_rm1_4 Z a1 q2 p3 p4 a5 a6 h0 n0 v U'.heap L ∧ FrameEnd U o U' L ({ frames := 4, cells := 4, slots := 54, locals := 51 } : Room).cells ({ frames := 4, cells := 4, slots := 54, locals := 51 } : Room).slots) := by
  refine MetFree.of_bodySF (plainFor_of_name pn_4) hisR ?_
  intro p e s m args below meth c s₁ Bd hml0 hP hK
  obtain ⟨rfl, hZ, hh⟩ := hP
  have hx := Bd.exec
  have hby := Bd.bytes
  have hml : c.maxLocals = 4 := hml0
  have hown : s.vm.findClass "com/example/outbound_courier/outboundcourier/http/BodyReader" = some m.cls := findClass_of_methodNamed Bd.named
  have hnm := (name_of_methodNamed Bd.named Bd.method).1
  have X0 : Stand p l e ({ frames := 4, cells := 4, slots := 54, locals := 51 } : Room) s m #[(.ref a1), (.long q2), (.int p3)] below meth c s₁ [] 0 0 := Stand.of_body Bd
  have e0 : s₁.heap = h0 := by rw [← hh, Bd.state]; rfl
  have N0 := Fr.nil n0
  refine Go.start (P := (fun o U' => ∃ v L, o = .returned v ∧ Q_rm1_4 Z a1 q2 p3 p4 a5 a6 h0 n0 v U'.heap L ∧ FrameEnd s o U' L ({ frames := 4, cells := 4, slots := 54, locals := 51 } : Room).cells ({ frames := 4, cells := 4, slots := 54, locals := 51 } : Room).slots)) (castTop (g' := (mkF m 0 #[.val (.ref a1), .val (.long q2), .second, .val (.int p3)] [])) (by first | rfl | simp [entryFrame, mkF, argsToLocals, Value.category]) (T := s₁)) ?_
  refine Go.st (fun t k => XS.aloadN X0.here hx rfl (hb hby d1_0) rfl rfl k) ?_
  show Go p e below _ (s₁.setTop (mkF m 1 #[.val (.ref a1), .val (.long q2), .second, .val (.int p3)] [(.ref a1)]))
  obtain ⟨T1, X1, e1, st1⟩ := initO X0 hx hZ hown (w6 hw) (w7 hw) (w8 hw) e0 (g := (mkF m 1 #[.val (.ref a1), .val (.long q2), .second, .val (.int p3)] [(.ref a1)])) rfl (by rw [hml]; rfl) rfl (hb hby d1_1) (by decide) (W := 0) (by show 2 * 0 + _ ≤ _; exact Nat.le_of_eq rfl) (by decide)
  refine Go.st st1 ?_
  show Go p e below _ (T1.setTop (mkF m 4 #[.val (.ref a1), .val (.long q2), .second, .val (.int p3)] []))
  refine Go.st (fun t k => XS.aloadN X1.here hx rfl (hb hby d1_4) rfl rfl k) ?_
  show Go p e below _ (T1.setTop (mkF m 5 #[.val (.ref a1), .val (.long q2), .second, .val (.int p3)] [(.ref a1)]))
  obtain ⟨T2, h2, X2, e2, E2, A2, D2, U2, st2⟩ := newO X1 hx hZ hown (w9 hw) (w10 hw) (w11 hw) e1 (g := (mkF m 5 #[.val (.ref a1), .val (.long q2), .second, .val (.int p3)] [(.ref a1)])) rfl (hb hby d1_5) (by decide) (by decide)
  obtain ⟨b2, z2⟩ : ∃ z, z = h0.size := ⟨_, rfl⟩
  rw [← z2] at A2 D2 U2 st2
  have g_b2 : n0 ≤ b2 := Nat.le_trans (own_n0 O0) (Nat.le_of_eq z2.symm)
  have s_b2 : h0.size ≤ b2 := Nat.le_trans (Keep.refl h0 [a1]).1 (Nat.le_of_eq z2.symm)
  have O2 : Old Z n0 h2 := O0.ext E2
  have K2 : Keep h0 h2 [a1] := (Keep.refl h0 [a1]).ext E2
  have f2_28 : Fld Z h2 b2 "java/io/ByteArrayOutputStream" "buf" "[B" .null := D2 (Or.inl (w28 hw)) (ty := (.array .byte)) (by decide)
  have f2_90 : Fld Z h2 b2 "java/io/ByteArrayOutputStream" "count" "I" (.int (0 : Int32)) := D2 (Or.inl (w90 hw)) (ty := .int) (by decide)
  refine Go.st st2 ?_
  show Go p e below _ (T2.setTop (mkF m 8 #[.val (.ref a1), .val (.long q2), .second, .val (.int p3)] [(.ref b2), (.ref a1)]))
  refine Go.st (fun t k => XS.dup X2.here hx rfl (hb hby d1_8) rfl rfl k) ?_
  show Go p e below _ (T2.setTop (mkF m 9 #[.val (.ref a1), .val (.long q2), .second, .val (.int p3)] [(.ref b2), (.ref b2), (.ref a1)]))
  obtain ⟨_, _, ⟨T3, L3, k3, n3⟩, -, X3, ⟨Lc3, hQ3, l3, y3, z3⟩, st3⟩ := X2.specialBack hx (y := (⟨"java/io/ByteArrayOutputStream", "<init>", "()V"⟩ : MethodName)) rfl hown (mvT hZ (w12 hw)) (mvT hZ (w13 hw)) (mvT hZ (w14 hw)) (by decide) (backOf (W := 2) (rm3_1 l Z a0 hw [] b2 h2 n0 O2 A2 f2_28 g_b2 U2 f2_90) hZ (w14 hw) (w11 hw) (by decide) (by decide)) (g := (mkF m 9 #[.val (.ref a1), .val (.long q2), .second, .val (.int p3)] [(.ref b2), (.ref b2), (.ref a1)])) rfl (by rw [hml]; rfl) (Steps.refl _) (a := b2) (argsL := []) (rest := [(.ref b2), (.ref a1)]) (lenOf pd_0 rfl) rfl (by show 2 * 0 + _ ≤ _; exact Nat.le_of_eq rfl) (hb hby d1_9) (fun vm₁ hw₁ => ⟨rfl, e2, (by decide : 1 + 1 ≤ _), (by decide : 2 + 32 ≤ _)⟩)
  dsimp only [Pt.U, Pt.locs, Pt.cells, Pt.slots] at X3 l3 y3 z3 st3 hQ3
  subst l3 y3 z3
  obtain ⟨b2_1_3, k2_1_3, rfl, M3, K3c, r3_0, r3_1, r3_2, r3_3, r3_4⟩ := hQ3
  have N3 := Fr.app N0 M3
  have g_b2_1_3 : n0 ≤ b2_1_3 := Nat.le_trans (own_n0 O2) r3_0
  have s_b2_1_3 : h0.size ≤ b2_1_3 := Nat.le_trans K2.1 r3_0
  have O3 : Old Z n0 T3.heap := O2.keep K3c (allS g_b2 all0)
  have K3 : Keep h0 T3.heap [a1] := K2.trans K3c (allS (Or.inr s_b2) all0)
  refine Go.tr st3 ?_
  show Go p e below _ (T3.setTop (mkF m 12 #[.val (.ref a1), .val (.long q2), .second, .val (.int p3)] [(.ref b2), (.ref a1)]))
  have c4 := ((P2.ext E2).keep K3c (ninS (Nat.ne_of_lt (Nat.lt_of_lt_of_le P1.lt (Nat.le_of_eq z2.symm))) nin0))
  obtain ⟨T5, h5, X5, e5, W5, st5⟩ := putF X3 hx hZ hown (host := "") (Or.inl (w29 hw)) Via.refl rfl c4 ((P1.ext E2).keep K3c) (Or.inr ⟨(w30 hw), rfl, hnm⟩) (w1 hw) (ty := (.object "java/io/ByteArrayOutputStream")) (by decide) rfl rfl (g := (mkF m 12 #[.val (.ref a1), .val (.long q2), .second, .val (.int p3)] [(.ref b2), (.ref a1)])) rfl rfl (hb hby d1_12)
  have F5 : Fld Z h5 a1 "com/example/outbound_courier/outboundcourier/http/BodyReader" "kept" "Ljava/io/ByteArrayOutputStream;" (.ref b2) := c4.same W5
  have N5 := Fr.snoc X5 N3 P3
  have O5 : Old Z n0 h5 := O3.wr W5 P3
  have K5 : Keep h0 h5 [a1] := K3.wr W5 (Or.inl (List.mem_of_getElem? (i := 0) rfl))
  refine Go.st st5 ?_
  show Go p e below _ (T5.setTop (mkF m 15 #[.val (.ref a1), .val (.long q2), .second, .val (.int p3)] []))
  refine Go.st (fun t k => XS.aloadN X5.here hx rfl (hb hby d1_15) rfl rfl k) ?_
  show Go p e below _ (T5.setTop (mkF m 16 #[.val (.ref a1), .val (.long q2), .second, .val (.int p3)] [(.ref a1)]))
  obtain ⟨T6, h6, X6, e6, E6, A6, D6, -, st6⟩ := newO X5 hx hZ hown (w31 hw) (w32 hw) (w33 hw) e5 (g := (mkF m 16 #[.val (.ref a1), .val (.long q2), .second, .val (.int p3)] [(.ref a1)])) rfl (hb hby d1_16) (by decide) (by decide)
  obtain ⟨b6, z6⟩ : ∃ z, z = h5.size := ⟨_, rfl⟩
  rw [← z6] at A6 D6 st6
  have g_b6 : n0 ≤ b6 := Nat.le_trans (own_n0 O5) (Nat.le_of_eq z6.symm)
  have s_b6 : h0.size ≤ b6 := Nat.le_trans K5.1 (Nat.le_of_eq z6.symm)
  have O6 : Old Z n0 h6 := O5.ext E6
  have K6 : Keep h0 h6 [a1] := K5.ext E6
  have f6_47 : Fld Z h6 b6 "java/lang/AbstractStringBuilder" "value" "[B" .null := D6 (Or.inl (w47 hw)) (ty := (.array .byte)) (by decide)
  have f6_49 : Fld Z h6 b6 "java/lang/AbstractStringBuilder" "coder" "B" (.int (0 : Int32)) := D6 (Or.inl (w49 hw)) (ty := .byte) (by decide)
  refine Go.st st6 ?_
  show Go p e below _ (T6.setTop (mkF m 19 #[.val (.ref a1), .val (.long q2), .second, .val (.int p3)] [(.ref b6), (.ref a1)]))
  refine Go.st (fun t k => XS.dup X6.here hx rfl (hb hby d1_19) rfl rfl k) ?_
  show Go p e below _ (T6.setTop (mkF m 20 #[.val (.ref a1), .val (.long q2), .second, .val (.int p3)] [(.ref b6), (.ref b6), (.ref a1)]))
  obtain ⟨_, _, ⟨T7, L7, k7, n7⟩, -, X7, ⟨Lc7, hQ7, l7, y7, z7⟩, st7⟩ := X6.specialBack hx (y := (⟨"java/lang/StringBuilder", "<init>", "()V"⟩ : MethodName)) rfl hown (mvT hZ (w34 hw)) (mvT hZ (w35 hw)) (mvT hZ (w36 hw)) (by decide) (backOf (W := 2) (rm6_1 l Z a0 hw [] b6 p4 h6 n0 O6 P4 P5 A6 f6_47 g_b6 f6_49) hZ (w36 hw) (w33 hw) (by decide) (by decide)) (g := (mkF m 20 #[.val (.ref a1), .val (.long q2), .second, .val (.int p3)] [(.ref b6), (.ref b6), (.ref a1)])) rfl (by rw [hml]; rfl) (Steps.refl _) (a := b6) (argsL := []) (rest := [(.ref b6), (.ref a1)]) (lenOf pd_0 rfl) rfl (by show 2 * 0 + _ ≤ _; exact Nat.le_of_eq rfl) (hb hby d1_20) (fun vm₁ hw₁ => ⟨rfl, e6, (by decide : 3 + 1 ≤ _), (by decide : 38 + 16 ≤ _)⟩)
  dsimp only [Pt.U, Pt.locs, Pt.cells, Pt.slots] at X7 l7 y7 z7 st7 hQ7
  subst l7 y7 z7
  obtain ⟨b3_1_7, k3_1_7, rfl, M7, K7c, r7_0, r7_1, r7_2, r7_3⟩ := hQ7
  have N7 := Fr.app N5 M7
  have g_b3_1_7 : n0 ≤ b3_1_7 := Nat.le_trans (own_n0 O6) r7_0
  have s_b3_1_7 : h0.size ≤ b3_1_7 := Nat.le_trans K6.1 r7_0
  have O7 : Old Z n0 T7.heap := O6.keep K7c (allS g_b6 all0)
  have K7 : Keep h0 T7.heap [a1] := K6.trans K7c (allS (Or.inr s_b6) all0)
  refine Go.tr st7 ?_
  show Go p e below _ (T7.setTop (mkF m 23 #[.val (.ref a1), .val (.long q2), .second, .val (.int p3)] [(.ref b6), (.ref a1)]))
  have c8 := (((((P1.ext E2).keep K3c).wr W5).ext E6).keep K7c)
  have c9 := (((((P6.ext E2).keep K3c (ninS (Nat.ne_of_lt (Nat.lt_of_lt_of_le P1.lt (Nat.le_of_eq z2.symm))) nin0)).other W5 (Or.inr (slot_ne (Or.inr (w51 hw)) (Or.inr (w30 hw)) (by decide) (t := (.object "java/lang/StringBuilder")) (t' := (.object "java/io/ByteArrayOutputStream")) (by decide) (by decide)))).ext E6).keep K7c (ninS (Nat.ne_of_lt (Nat.lt_of_lt_of_le (Nat.lt_of_lt_of_le (Nat.lt_of_lt_of_le (Nat.lt_of_lt_of_le P1.lt E2.1) K3c.1) (Nat.le_of_eq W5.size.symm)) (Nat.le_of_eq z6.symm))) nin0))
  obtain ⟨T10, h10, X10, e10, W10, st10⟩ := putF X7 hx hZ hown (host := "") (Or.inl (w50 hw)) Via.refl rfl c9 c8 (Or.inr ⟨(w51 hw), rfl, hnm⟩) (w1 hw) (ty := (.object "java/lang/StringBuilder")) (by decide) rfl rfl (g := (mkF m 23 #[.val (.ref a1), .val (.long q2), .second, .val (.int p3)] [(.ref b6), (.ref a1)])) rfl rfl (hb hby d1_23)
  have F10 : Fld Z h10 a1 "com/example/outbound_courier/outboundcourier/http/BodyReader" "line" "Ljava/lang/StringBuilder;" (.ref b6) := c9.same W10
  have N10 := Fr.snoc X10 N7 P3
  have O10 : Old Z n0 h10 := O7.wr W10 P3
  have K10 : Keep h0 h10 [a1] := K7.wr W10 (Or.inl (List.mem_of_getElem? (i := 0) rfl))
  refine Go.st st10 ?_
  show Go p e below _ (T10.setTop (mkF m 26 #[.val (.ref a1), .val (.long q2), .second, .val (.int p3)] []))
  refine Go.st (fun t k => XS.aloadN X10.here hx rfl (hb hby d1_26) rfl rfl k) ?_
  show Go p e below _ (T10.setTop (mkF m 27 #[.val (.ref a1), .val (.long q2), .second, .val (.int p3)] [(.ref a1)]))
  refine Go.st (fun t k => XS.iloadN X10.here hx rfl (hb hby d1_27) rfl k) ?_
  show Go p e below _ (T10.setTop (mkF m 28 #[.val (.ref a1), .val (.long q2), .second, .val (.int p3)] [(.int p3), (.ref a1)]))
  have c11 := ((((((P7.ext E2).keep K3c (ninS (Nat.ne_of_lt (Nat.lt_of_lt_of_le P1.lt (Nat.le_of_eq z2.symm))) nin0)).other W5 (Or.inr (slot_ne (Or.inr (w53 hw)) (Or.inr (w30 hw)) (by decide) (t := .int) (t' := (.object "java/io/ByteArrayOutputStream")) (by decide) (by decide)))).ext E6).keep K7c (ninS (Nat.ne_of_lt (Nat.lt_of_lt_of_le (Nat.lt_of_lt_of_le (Nat.lt_of_lt_of_le (Nat.lt_of_lt_of_le P1.lt E2.1) K3c.1) (Nat.le_of_eq W5.size.symm)) (Nat.le_of_eq z6.symm))) nin0)).other W10 (Or.inr (slot_ne (Or.inr (w53 hw)) (Or.inr (w51 hw)) (by decide) (t := .int) (t' := (.object "java/lang/StringBuilder")) (by decide) (by decide))))
  obtain ⟨T12, h12, X12, e12, W12, st12⟩ := putF X10 hx hZ hown (host := "") (Or.inl (w52 hw)) Via.refl e10 c11 (c8.wr W10) (Or.inr ⟨(w53 hw), rfl, hnm⟩) (w1 hw) (ty := .int) (by decide) rfl rfl (g := (mkF m 28 #[.val (.ref a1), .val (.long q2), .second, .val (.int p3)] [(.int p3), (.ref a1)])) rfl rfl (hb hby d1_28)
  have F12 : Fld Z h12 a1 "com/example/outbound_courier/outboundcourier/http/BodyReader" "maxBytes" "I" (.int p3) := c11.same W12
  have N12 := Fr.snoc X12 N10 P3
  have O12 : Old Z n0 h12 := O10.wr W12 P3
  have K12 : Keep h0 h12 [a1] := K10.wr W12 (Or.inl (List.mem_of_getElem? (i := 0) rfl))
  refine Go.st st12 ?_
  show Go p e below _ (T12.setTop (mkF m 31 #[.val (.ref a1), .val (.long q2), .second, .val (.int p3)] []))
  refine Go.st (fun t k => XS.aloadN X12.here hx rfl (hb hby d1_31) rfl rfl k) ?_
  show Go p e below _ (T12.setTop (mkF m 32 #[.val (.ref a1), .val (.long q2), .second, .val (.int p3)] [(.ref a1)]))
  refine Go.st (fun t k => XS.lloadN X12.here hx rfl (hb hby d1_32) rfl k) ?_
  show Go p e below _ (T12.setTop (mkF m 33 #[.val (.ref a1), .val (.long q2), .second, .val (.int p3)] [(.long q2), (.ref a1)]))
  refine Go.st (fun t k => X12.ldc2J hx hown (mvT hZ (w54 hw)) (g := (mkF m 33 #[.val (.ref a1), .val (.long q2), .second, .val (.int p3)] [(.long q2), (.ref a1)])) rfl (hb hby d1_33) k) ?_
  show Go p e below _ (T12.setTop (mkF m 36 #[.val (.ref a1), .val (.long q2), .second, .val (.int p3)] [(.long (-1 : Int64)), (.long q2), (.ref a1)]))
  refine Go.st (fun t k => Jvm.Free.XT.lcmp X12.here hx rfl (hb hby d1_36) rfl k) ?_
  show Go p e below _ (T12.setTop (mkF m 37 #[.val (.ref a1), .val (.long q2), .second, .val (.int p3)] [(.int (Jvm.Free.XT.cmpL q2 (-1 : Int64))), (.ref a1)]))
  refine Go.st (fun t k => XS.ifYes X12.here hx rfl (pc0 := 37) (pc' := 44) rfl (hb hby d1_37) rfl (Jvm.Free.XT.ll_ne_t P8) (by decide) (by decide) k) ?_
  show Go p e below _ (T12.setTop (mkF m 44 #[.val (.ref a1), .val (.long q2), .second, .val (.int p3)] [(.ref a1)]))
  refine Go.st (fun t k => XS.iconst X12.here hx rfl (hb hby d1_44) k) ?_
  show Go p e below _ (T12.setTop (mkF m 45 #[.val (.ref a1), .val (.long q2), .second, .val (.int p3)] [(.int (0 : Int32)), (.ref a1)]))
  have c13 := (((((((P9.ext E2).keep K3c (ninS (Nat.ne_of_lt (Nat.lt_of_lt_of_le P1.lt (Nat.le_of_eq z2.symm))) nin0)).other W5 (Or.inr (slot_ne (Or.inr (w56 hw)) (Or.inr (w30 hw)) (by decide) (t := .boolean) (t' := (.object "java/io/ByteArrayOutputStream")) (by decide) (by decide)))).ext E6).keep K7c (ninS (Nat.ne_of_lt (Nat.lt_of_lt_of_le (Nat.lt_of_lt_of_le (Nat.lt_of_lt_of_le (Nat.lt_of_lt_of_le P1.lt E2.1) K3c.1) (Nat.le_of_eq W5.size.symm)) (Nat.le_of_eq z6.symm))) nin0)).other W10 (Or.inr (slot_ne (Or.inr (w56 hw)) (Or.inr (w51 hw)) (by decide) (t := .boolean) (t' := (.object "java/lang/StringBuilder")) (by decide) (by decide)))).other W12 (Or.inr (slot_ne (Or.inr (w56 hw)) (Or.inr (w53 hw)) (by decide) (t := .boolean) (t' := .int) (by decide) (by decide))))
  obtain ⟨T14, h14, X14, e14, W14, st14⟩ := putFN X12 hx hZ hown (w55 hw) Via.refl e12 c13 ((c8.wr W10).wr W12) (Or.inr ⟨(w56 hw), rfl, hnm⟩) (w1 hw) (ty := .boolean) (v' := (.int (0 : Int32))) (by decide) rfl (by decide) (g := (mkF m 45 #[.val (.ref a1), .val (.long q2), .second, .val (.int p3)] [(.int (0 : Int32)), (.ref a1)])) rfl rfl (hb hby d1_45)
  have F14 : Fld Z h14 a1 "com/example/outbound_courier/outboundcourier/http/BodyReader" "chunked" "Z" (.int (0 : Int32)) := c13.same W14
  have N14 := Fr.snoc X14 N12 P3
  have O14 : Old Z n0 h14 := O12.wr W14 P3
  have K14 : Keep h0 h14 [a1] := K12.wr W14 (Or.inl (List.mem_of_getElem? (i := 0) rfl))
  refine Go.st st14 ?_
  show Go p e below _ (T14.setTop (mkF m 48 #[.val (.ref a1), .val (.long q2), .second, .val (.int p3)] []))
  refine Go.st (fun t k => XS.aloadN X14.here hx rfl (hb hby d1_48) rfl rfl k) ?_
  show Go p e below _ (T14.setTop (mkF m 49 #[.val (.ref a1), .val (.long q2), .second, .val (.int p3)] [(.ref a1)]))
  refine Go.st (fun t k => XS.aloadN X14.here hx rfl (hb hby d1_49) rfl rfl k) ?_
  show Go p e below _ (T14.setTop (mkF m 50 #[.val (.ref a1), .val (.long q2), .second, .val (.int p3)] [(.ref a1), (.ref a1)]))
  obtain ⟨T15, X15, e15, st15⟩ := getF X14 hx hZ hown (host := "") (Or.inl (w55 hw)) Via.refl e14 F14 (g := (mkF m 50 #[.val (.ref a1), .val (.long q2), .second, .val (.int p3)] [(.ref a1), (.ref a1)])) rfl rfl (hb hby d1_50)
  refine Go.st st15 ?_
  show Go p e below _ (T15.setTop (mkF m 53 #[.val (.ref a1), .val (.long q2), .second, .val (.int p3)] [(.int (0 : Int32)), (.ref a1)]))
  refine Go.st (fun t k => XS.ifYes X15.here hx rfl (pc0 := 53) (pc' := 60) rfl (hb hby d1_53) rfl (Jvm.Free.XT.i0_eq_t (by decide : (0 : Int32) = (0 : Int32))) (by decide) (by decide) k) ?_
  show Go p e below _ (T15.setTop (mkF m 60 #[.val (.ref a1), .val (.long q2), .second, .val (.int p3)] [(.ref a1)]))
  refine Go.st (fun t k => XS.lloadN X15.here hx rfl (hb hby d1_60) rfl k) ?_
  show Go p e below _ (T15.setTop (mkF m 61 #[.val (.ref a1), .val (.long q2), .second, .val (.int p3)] [(.long q2), (.ref a1)]))
  have c16 := ((((((((P10.ext E2).keep K3c (ninS (Nat.ne_of_lt (Nat.lt_of_lt_of_le P1.lt (Nat.le_of_eq z2.symm))) nin0)).other W5 (Or.inr (slot_ne (Or.inl (w58 hw)) (Or.inr (w30 hw)) (by decide) (t := .long) (t' := (.object "java/io/ByteArrayOutputStream")) (by decide) (by decide)))).ext E6).keep K7c (ninS (Nat.ne_of_lt (Nat.lt_of_lt_of_le (Nat.lt_of_lt_of_le (Nat.lt_of_lt_of_le (Nat.lt_of_lt_of_le P1.lt E2.1) K3c.1) (Nat.le_of_eq W5.size.symm)) (Nat.le_of_eq z6.symm))) nin0)).other W10 (Or.inr (slot_ne (Or.inl (w58 hw)) (Or.inr (w51 hw)) (by decide) (t := .long) (t' := (.object "java/lang/StringBuilder")) (by decide) (by decide)))).other W12 (Or.inr (slot_ne (Or.inl (w58 hw)) (Or.inr (w53 hw)) (by decide) (t := .long) (t' := .int) (by decide) (by decide)))).other W14 (Or.inr (slot_ne (Or.inl (w58 hw)) (Or.inr (w56 hw)) (by decide) (t := .long) (t' := .boolean) (by decide) (by decide))))
  obtain ⟨T17, h17, X17, e17, W17, st17⟩ := putF X15 hx hZ hown (host := "") (Or.inl (w57 hw)) Via.refl e15 c16 (((c8.wr W10).wr W12).wr W14) (Or.inl (w58 hw)) (w1 hw) (ty := .long) (by decide) rfl rfl (g := (mkF m 61 #[.val (.ref a1), .val (.long q2), .second, .val (.int p3)] [(.long q2), (.ref a1)])) rfl rfl (hb hby d1_61)
  have F17 : Fld Z h17 a1 "com/example/outbound_courier/outboundcourier/http/BodyReader" "left" "J" (.long q2) := c16.same W17
  have N17 := Fr.snoc X17 N14 P3
  have O17 : Old Z n0 h17 := O14.wr W17 P3
  have K17 : Keep h0 h17 [a1] := K14.wr W17 (Or.inl (List.mem_of_getElem? (i := 0) rfl))
  refine Go.st st17 ?_
  show Go p e below _ (T17.setTop (mkF m 64 #[.val (.ref a1), .val (.long q2), .second, .val (.int p3)] []))
  refine Go.st (fun t k => XS.aloadN X17.here hx rfl (hb hby d1_64) rfl rfl k) ?_
  show Go p e below _ (T17.setTop (mkF m 65 #[.val (.ref a1), .val (.long q2), .second, .val (.int p3)] [(.ref a1)]))
  refine Go.st (fun t k => XS.aloadN X17.here hx rfl (hb hby d1_65) rfl rfl k) ?_
  show Go p e below _ (T17.setTop (mkF m 66 #[.val (.ref a1), .val (.long q2), .second, .val (.int p3)] [(.ref a1), (.ref a1)]))
  have c18 := (F14.other W17 (Or.inr (slot_ne (Or.inr (w56 hw)) (Or.inl (w58 hw)) (by decide) (t := .boolean) (t' := .long) (by decide) (by decide))))
  obtain ⟨T19, X19, e19, st19⟩ := getF X17 hx hZ hown (host := "") (Or.inl (w55 hw)) Via.refl e17 c18 (g := (mkF m 66 #[.val (.ref a1), .val (.long q2), .second, .val (.int p3)] [(.ref a1), (.ref a1)])) rfl rfl (hb hby d1_66)
  refine Go.st st19 ?_
  show Go p e below _ (T19.setTop (mkF m 69 #[.val (.ref a1), .val (.long q2), .second, .val (.int p3)] [(.int (0 : Int32)), (.ref a1)]))
  refine Go.st (fun t k => XS.ifYes X19.here hx rfl (pc0 := 69) (pc' := 78) rfl (hb hby d1_69) rfl (Jvm.Free.XT.i0_eq_t (by decide : (0 : Int32) = (0 : Int32))) (by decide) (by decide) k) ?_
  show Go p e below _ (T19.setTop (mkF m 78 #[.val (.ref a1), .val (.long q2), .second, .val (.int p3)] [(.ref a1)]))
  obtain ⟨T20, X20, e20, st20⟩ := getS2 X19 hx hZ hown (host := "") (Or.inl (w59 hw)) Via.refl e19 (P11.ext O17.2) (g := (mkF m 78 #[.val (.ref a1), .val (.long q2), .second, .val (.int p3)] [(.ref a1)])) rfl (hb hby d1_78)
  refine Go.st st20 ?_
  show Go p e below _ (T20.setTop (mkF m 81 #[.val (.ref a1), .val (.long q2), .second, .val (.int p3)] [(.ref a5), (.ref a1)]))
  have c21 := (((((((((P12.ext E2).keep K3c (ninS (Nat.ne_of_lt (Nat.lt_of_lt_of_le P1.lt (Nat.le_of_eq z2.symm))) nin0)).other W5 (Or.inr (slot_ne (Or.inl (w63 hw)) (Or.inr (w30 hw)) (by decide) (t := (.object "com/example/outbound_courier/outboundcourier/http/BodyReader$State")) (t' := (.object "java/io/ByteArrayOutputStream")) (by decide) (by decide)))).ext E6).keep K7c (ninS (Nat.ne_of_lt (Nat.lt_of_lt_of_le (Nat.lt_of_lt_of_le (Nat.lt_of_lt_of_le (Nat.lt_of_lt_of_le P1.lt E2.1) K3c.1) (Nat.le_of_eq W5.size.symm)) (Nat.le_of_eq z6.symm))) nin0)).other W10 (Or.inr (slot_ne (Or.inl (w63 hw)) (Or.inr (w51 hw)) (by decide) (t := (.object "com/example/outbound_courier/outboundcourier/http/BodyReader$State")) (t' := (.object "java/lang/StringBuilder")) (by decide) (by decide)))).other W12 (Or.inr (slot_ne (Or.inl (w63 hw)) (Or.inr (w53 hw)) (by decide) (t := (.object "com/example/outbound_courier/outboundcourier/http/BodyReader$State")) (t' := .int) (by decide) (by decide)))).other W14 (Or.inr (slot_ne (Or.inl (w63 hw)) (Or.inr (w56 hw)) (by decide) (t := (.object "com/example/outbound_courier/outboundcourier/http/BodyReader$State")) (t' := .boolean) (by decide) (by decide)))).other W17 (Or.inr (slot_ne (Or.inl (w63 hw)) (Or.inl (w58 hw)) (by decide) (t := (.object "com/example/outbound_courier/outboundcourier/http/BodyReader$State")) (t' := .long) (by decide) (by decide))))
  obtain ⟨T22, h22, X22, e22, W22, st22⟩ := putF X20 hx hZ hown (host := "") (Or.inl (w62 hw)) Via.refl e20 c21 ((((c8.wr W10).wr W12).wr W14).wr W17) (Or.inl (w63 hw)) (w1 hw) (ty := (.object "com/example/outbound_courier/outboundcourier/http/BodyReader$State")) (by decide) rfl rfl (g := (mkF m 81 #[.val (.ref a1), .val (.long q2), .second, .val (.int p3)] [(.ref a5), (.ref a1)])) rfl rfl (hb hby d1_81)
  have F22 : Fld Z h22 a1 "com/example/outbound_courier/outboundcourier/http/BodyReader" "state" "Lcom/example/outbound_courier/outboundcourier/http/BodyReader$State;" (.ref a5) := c21.same W22
  have N22 := Fr.snoc X22 N17 P3
  have O22 : Old Z n0 h22 := O17.wr W22 P3
  have K22 : Keep h0 h22 [a1] := K17.wr W22 (Or.inl (List.mem_of_getElem? (i := 0) rfl))
  refine Go.st st22 ?_
  show Go p e below _ (T22.setTop (mkF m 84 #[.val (.ref a1), .val (.long q2), .second, .val (.int p3)] []))
  refine Go.st (fun t k => XS.aloadN X22.here hx rfl (hb hby d1_84) rfl rfl k) ?_
  show Go p e below _ (T22.setTop (mkF m 85 #[.val (.ref a1), .val (.long q2), .second, .val (.int p3)] [(.ref a1)]))
  have c23 := (c18.other W22 (Or.inr (slot_ne (Or.inr (w56 hw)) (Or.inl (w63 hw)) (by decide) (t := .boolean) (t' := (.object "com/example/outbound_courier/outboundcourier/http/BodyReader$State")) (by decide) (by decide))))
  obtain ⟨T24, X24, e24, st24⟩ := getF X22 hx hZ hown (host := "") (Or.inl (w55 hw)) Via.refl e22 c23 (g := (mkF m 85 #[.val (.ref a1), .val (.long q2), .second, .val (.int p3)] [(.ref a1)])) rfl rfl (hb hby d1_85)
  refine Go.st st24 ?_
  show Go p e below _ (T24.setTop (mkF m 88 #[.val (.ref a1), .val (.long q2), .second, .val (.int p3)] [(.int (0 : Int32))]))
  refine Go.st (fun t k => XS.ifNo X24.here hx rfl (hb hby d1_88) rfl (Jvm.Free.XT.i0_ne_f (by decide : (0 : Int32) = (0 : Int32))) k) ?_
  show Go p e below _ (T24.setTop (mkF m 91 #[.val (.ref a1), .val (.long q2), .second, .val (.int p3)] []))
  refine Go.st (fun t k => XS.lloadN X24.here hx rfl (hb hby d1_91) rfl k) ?_
  show Go p e below _ (T24.setTop (mkF m 92 #[.val (.ref a1), .val (.long q2), .second, .val (.int p3)] [(.long q2)]))
  refine Go.st (fun t k => XS.iloadN X24.here hx rfl (hb hby d1_92) rfl k) ?_
  show Go p e below _ (T24.setTop (mkF m 93 #[.val (.ref a1), .val (.long q2), .second, .val (.int p3)] [(.int p3), (.long q2)]))
  refine Go.st (fun t k => XS.i2l X24.here hx rfl (hb hby d1_93) rfl k) ?_
  show Go p e below _ (T24.setTop (mkF m 94 #[.val (.ref a1), .val (.long q2), .second, .val (.int p3)] [(.long (p3.toInt64)), (.long q2)]))
  refine Go.st (fun t k => Jvm.Free.XT.lcmp X24.here hx rfl (hb hby d1_94) rfl k) ?_
  show Go p e below _ (T24.setTop (mkF m 95 #[.val (.ref a1), .val (.long q2), .second, .val (.int p3)] [(.int (Jvm.Free.XT.cmpL q2 (p3.toInt64)))]))
  refine Go.st (fun t k => XS.ifYes X24.here hx rfl (pc0 := 95) (pc' := 103) rfl (hb hby d1_95) rfl (Jvm.Free.XT.ll_le_t P13) (by decide) (by decide) k) ?_
  show Go p e below _ (T24.setTop (mkF m 103 #[.val (.ref a1), .val (.long q2), .second, .val (.int p3)] []))
  refine Go.st (fun t k => XS.aloadN X24.here hx rfl (hb hby d1_103) rfl rfl k) ?_
  show Go p e below _ (T24.setTop (mkF m 104 #[.val (.ref a1), .val (.long q2), .second, .val (.int p3)] [(.ref a1)]))
  obtain ⟨T25, X25, e25, st25⟩ := getF X24 hx hZ hown (host := "") (Or.inl (w55 hw)) Via.refl e24 c23 (g := (mkF m 104 #[.val (.ref a1), .val (.long q2), .second, .val (.int p3)] [(.ref a1)])) rfl rfl (hb hby d1_104)
  refine Go.st st25 ?_
  show Go p e below _ (T25.setTop (mkF m 107 #[.val (.ref a1), .val (.long q2), .second, .val (.int p3)] [(.int (0 : Int32))]))
  refine Go.st (fun t k => XS.ifNo X25.here hx rfl (hb hby d1_107) rfl (Jvm.Free.XT.i0_ne_f (by decide : (0 : Int32) = (0 : Int32))) k) ?_
  show Go p e below _ (T25.setTop (mkF m 110 #[.val (.ref a1), .val (.long q2), .second, .val (.int p3)] []))
  refine Go.st (fun t k => XS.lloadN X25.here hx rfl (hb hby d1_110) rfl k) ?_
  show Go p e below _ (T25.setTop (mkF m 111 #[.val (.ref a1), .val (.long q2), .second, .val (.int p3)] [(.long q2)]))
  refine Go.st (fun t k => XS.lconst X25.here hx rfl (hb hby d1_111) k) ?_
  show Go p e below _ (T25.setTop (mkF m 112 #[.val (.ref a1), .val (.long q2), .second, .val (.int p3)] [(.long (0 : Int64)), (.long q2)]))
  refine Go.st (fun t k => Jvm.Free.XT.lcmp X25.here hx rfl (hb hby d1_112) rfl k) ?_
  show Go p e below _ (T25.setTop (mkF m 113 #[.val (.ref a1), .val (.long q2), .second, .val (.int p3)] [(.int (Jvm.Free.XT.cmpL q2 (0 : Int64)))]))
  refine Go.st (fun t k => XS.ifNo X25.here hx rfl (hb hby d1_113) rfl (Jvm.Free.XT.ll_ne_f P14) k) ?_
  show Go p e below _ (T25.setTop (mkF m 116 #[.val (.ref a1), .val (.long q2), .second, .val (.int p3)] []))
  refine Go.st (fun t k => XS.aloadN X25.here hx rfl (hb hby d1_116) rfl rfl k) ?_
  show Go p e below _ (T25.setTop (mkF m 117 #[.val (.ref a1), .val (.long q2), .second, .val (.int p3)] [(.ref a1)]))
  obtain ⟨T26, X26, e26, st26⟩ := getS2 X25 hx hZ hown (host := "") (Or.inl (w64 hw)) Via.refl e25 (P15.ext O22.2) (g := (mkF m 117 #[.val (.ref a1), .val (.long q2), .second, .val (.int p3)] [(.ref a1)])) rfl (hb hby d1_117)
  refine Go.st st26 ?_
  show Go p e below _ (T26.setTop (mkF m 120 #[.val (.ref a1), .val (.long q2), .second, .val (.int p3)] [(.ref a6), (.ref a1)]))
  have c27 := (((((c8.wr W10).wr W12).wr W14).wr W17).wr W22)
  obtain ⟨T28, h28, X28, e28, W28, st28⟩ := putF X26 hx hZ hown (host := "") (Or.inl (w62 hw)) Via.refl e26 F22 c27 (Or.inl (w63 hw)) (w1 hw) (ty := (.object "com/example/outbound_courier/outboundcourier/http/BodyReader$State")) (by decide) rfl rfl (g := (mkF m 120 #[.val (.ref a1), .val (.long q2), .second, .val (.int p3)] [(.ref a6), (.ref a1)])) rfl rfl (hb hby d1_120)
  have F28 : Fld Z h28 a1 "com/example/outbound_courier/outboundcourier/http/BodyReader" "state" "Lcom/example/outbound_courier/outboundcourier/http/BodyReader$State;" (.ref a6) := F22.same W28
  have N28 := Fr.snoc X28 N22 P3
  have O28 : Old Z n0 h28 := O22.wr W28 P3
  have K28 : Keep h0 h28 [a1] := K22.wr W28 (Or.inl (List.mem_of_getElem? (i := 0) rfl))
  refine Go.st st28 ?_
  show Go p e below _ (T28.setTop (mkF m 123 #[.val (.ref a1), .val (.long q2), .second, .val (.int p3)] []))
  obtain ⟨fs, hr, hrun, hended, hWd, hsame⟩ := X28.leave (v := none) (fun _ => rfl)
  have c29 := ((((((((F5.ext E6).keep K7c (ninS (Nat.ne_of_lt (Nat.lt_of_lt_of_le (Nat.lt_of_lt_of_le (Nat.lt_of_lt_of_le (Nat.lt_of_lt_of_le P1.lt E2.1) K3c.1) (Nat.le_of_eq W5.size.symm)) (Nat.le_of_eq z6.symm))) nin0)).other W10 (Or.inr (slot_ne (Or.inr (w30 hw)) (Or.inr (w51 hw)) (by decide) (t := (.object "java/io/ByteArrayOutputStream")) (t' := (.object "java/lang/StringBuilder")) (by decide) (by decide)))).other W12 (Or.inr (slot_ne (Or.inr (w30 hw)) (Or.inr (w53 hw)) (by decide) (t := (.object "java/io/ByteArrayOutputStream")) (t' := .int) (by decide) (by decide)))).other W14 (Or.inr (slot_ne (Or.inr (w30 hw)) (Or.inr (w56 hw)) (by decide) (t := (.object "java/io/ByteArrayOutputStream")) (t' := .boolean) (by decide) (by decide)))).other W17 (Or.inr (slot_ne (Or.inr (w30 hw)) (Or.inl (w58 hw)) (by decide) (t := (.object "java/io/ByteArrayOutputStream")) (t' := .long) (by decide) (by decide)))).other W22 (Or.inr (slot_ne (Or.inr (w30 hw)) (Or.inl (w63 hw)) (by decide) (t := (.object "java/io/ByteArrayOutputStream")) (t' := (.object "com/example/outbound_courier/outboundcourier/http/BodyReader$State")) (by decide) (by decide)))).other W28 (Or.inr (slot_ne (Or.inr (w30 hw)) (Or.inl (w63 hw)) (by decide) (t := (.object "java/io/ByteArrayOutputStream")) (t' := (.object "com/example/outbound_courier/outboundcourier/http/BodyReader$State")) (by decide) (by decide))))
  have c30 := (((((F10.other W12 (Or.inr (slot_ne (Or.inr (w51 hw)) (Or.inr (w53 hw)) (by decide) (t := (.object "java/lang/StringBuilder")) (t' := .int) (by decide) (by decide)))).other W14 (Or.inr (slot_ne (Or.inr (w51 hw)) (Or.inr (w56 hw)) (by decide) (t := (.object "java/lang/StringBuilder")) (t' := .boolean) (by decide) (by decide)))).other W17 (Or.inr (slot_ne (Or.inr (w51 hw)) (Or.inl (w58 hw)) (by decide) (t := (.object "java/lang/StringBuilder")) (t' := .long) (by decide) (by decide)))).other W22 (Or.inr (slot_ne (Or.inr (w51 hw)) (Or.inl (w63 hw)) (by decide) (t := (.object "java/lang/StringBuilder")) (t' := (.object "com/example/outbound_courier/outboundcourier/http/BodyReader$State")) (by decide) (by decide)))).other W28 (Or.inr (slot_ne (Or.inr (w51 hw)) (Or.inl (w63 hw)) (by decide) (t := (.object "java/lang/StringBuilder")) (t' := (.object "com/example/outbound_courier/outboundcourier/http/BodyReader$State")) (by decide) (by decide))))
  have c31 := ((((F12.other W14 (Or.inr (slot_ne (Or.inr (w53 hw)) (Or.inr (w56 hw)) (by decide) (t := .int) (t' := .boolean) (by decide) (by decide)))).other W17 (Or.inr (slot_ne (Or.inr (w53 hw)) (Or.inl (w58 hw)) (by decide) (t := .int) (t' := .long) (by decide) (by decide)))).other W22 (Or.inr (slot_ne (Or.inr (w53 hw)) (Or.inl (w63 hw)) (by decide) (t := .int) (t' := (.object "com/example/outbound_courier/outboundcourier/http/BodyReader$State")) (by decide) (by decide)))).other W28 (Or.inr (slot_ne (Or.inr (w53 hw)) (Or.inl (w63 hw)) (by decide) (t := .int) (t' := (.object "com/example/outbound_courier/outboundcourier/http/BodyReader$State")) (by decide) (by decide))))
  have c32 := (c23.other W28 (Or.inr (slot_ne (Or.inr (w56 hw)) (Or.inl (w63 hw)) (by decide) (t := .boolean) (t' := (.object "com/example/outbound_courier/outboundcourier/http/BodyReader$State")) (by decide) (by decide))))
  have c33 := ((F17.other W22 (Or.inr (slot_ne (Or.inl (w58 hw)) (Or.inl (w63 hw)) (by decide) (t := .long) (t' := (.object "com/example/outbound_courier/outboundcourier/http/BodyReader$State")) (by decide) (by decide)))).other W28 (Or.inr (slot_ne (Or.inl (w58 hw)) (Or.inl (w63 hw)) (by decide) (t := .long) (t' := (.object "com/example/outbound_courier/outboundcourier/http/BodyReader$State")) (by decide) (by decide))))
  have c34 := (((((((((((P16.ext E2).keep K3c (ninS (Nat.ne_of_lt (Nat.lt_of_lt_of_le P1.lt (Nat.le_of_eq z2.symm))) nin0)).other W5 (Or.inr (slot_ne (Or.inl (w78 hw)) (Or.inr (w30 hw)) (by decide) (t := .boolean) (t' := (.object "java/io/ByteArrayOutputStream")) (by decide) (by decide)))).ext E6).keep K7c (ninS (Nat.ne_of_lt (Nat.lt_of_lt_of_le (Nat.lt_of_lt_of_le (Nat.lt_of_lt_of_le (Nat.lt_of_lt_of_le P1.lt E2.1) K3c.1) (Nat.le_of_eq W5.size.symm)) (Nat.le_of_eq z6.symm))) nin0)).other W10 (Or.inr (slot_ne (Or.inl (w78 hw)) (Or.inr (w51 hw)) (by decide) (t := .boolean) (t' := (.object "java/lang/StringBuilder")) (by decide) (by decide)))).other W12 (Or.inr (slot_ne (Or.inl (w78 hw)) (Or.inr (w53 hw)) (by decide) (t := .boolean) (t' := .int) (by decide) (by decide)))).other W14 (Or.inr (slot_ne (Or.inl (w78 hw)) (Or.inr (w56 hw)) (by decide) (t := .boolean) (t' := .boolean) (by decide) (by decide)))).other W17 (Or.inr (slot_ne (Or.inl (w78 hw)) (Or.inl (w58 hw)) (by decide) (t := .boolean) (t' := .long) (by decide) (by decide)))).other W22 (Or.inr (slot_ne (Or.inl (w78 hw)) (Or.inl (w63 hw)) (by decide) (t := .boolean) (t' := (.object "com/example/outbound_courier/outboundcourier/http/BodyReader$State")) (by decide) (by decide)))).other W28 (Or.inr (slot_ne (Or.inl (w78 hw)) (Or.inl (w63 hw)) (by decide) (t := .boolean) (t' := (.object "com/example/outbound_courier/outboundcourier/http/BodyReader$State")) (by decide) (by decide))))
  have c35 := ((((((((((A2.keep K3c).wr W5).ext E6).keep K7c).wr W10).wr W12).wr W14).wr W17).wr W22).wr W28)
  have c36 := (((((((((r3_2.wr W5).ext E6).keep K7c (ninS (Nat.ne_of_lt (Nat.lt_of_lt_of_le (Nat.lt_of_lt_of_le (Nat.lt_of_lt_of_le A2.lt K3c.1) (Nat.le_of_eq W5.size.symm)) (Nat.le_of_eq z6.symm))) nin0)).wr W10).wr W12).wr W14).wr W17).wr W22).wr W28)
  have c37 := (((((((((r3_1.other W5 (Or.inl (Ne.symm (Nat.ne_of_lt (Nat.lt_of_lt_of_le P1.lt (Nat.le_of_eq z2.symm)))))).ext E6).keep K7c (ninS (Nat.ne_of_lt (Nat.lt_of_lt_of_le (Nat.lt_of_lt_of_le (Nat.lt_of_lt_of_le A2.lt K3c.1) (Nat.le_of_eq W5.size.symm)) (Nat.le_of_eq z6.symm))) nin0)).other W10 (Or.inl (Ne.symm (Nat.ne_of_lt (Nat.lt_of_lt_of_le P1.lt (Nat.le_of_eq z2.symm)))))).other W12 (Or.inl (Ne.symm (Nat.ne_of_lt (Nat.lt_of_lt_of_le P1.lt (Nat.le_of_eq z2.symm)))))).other W14 (Or.inl (Ne.symm (Nat.ne_of_lt (Nat.lt_of_lt_of_le P1.lt (Nat.le_of_eq z2.symm)))))).other W17 (Or.inl (Ne.symm (Nat.ne_of_lt (Nat.lt_of_lt_of_le P1.lt (Nat.le_of_eq z2.symm)))))).other W22 (Or.inl (Ne.symm (Nat.ne_of_lt (Nat.lt_of_lt_of_le P1.lt (Nat.le_of_eq z2.symm)))))).other W28 (Or.inl (Ne.symm (Nat.ne_of_lt (Nat.lt_of_lt_of_le P1.lt (Nat.le_of_eq z2.symm))))))
  have c38 := (((((((((r3_3.other W5 (Or.inl (Ne.symm (Nat.ne_of_lt (Nat.lt_of_lt_of_le P1.lt (Nat.le_of_eq z2.symm)))))).ext E6).keep K7c (ninS (Nat.ne_of_lt (Nat.lt_of_lt_of_le (Nat.lt_of_lt_of_le (Nat.lt_of_lt_of_le A2.lt K3c.1) (Nat.le_of_eq W5.size.symm)) (Nat.le_of_eq z6.symm))) nin0)).other W10 (Or.inl (Ne.symm (Nat.ne_of_lt (Nat.lt_of_lt_of_le P1.lt (Nat.le_of_eq z2.symm)))))).other W12 (Or.inl (Ne.symm (Nat.ne_of_lt (Nat.lt_of_lt_of_le P1.lt (Nat.le_of_eq z2.symm)))))).other W14 (Or.inl (Ne.symm (Nat.ne_of_lt (Nat.lt_of_lt_of_le P1.lt (Nat.le_of_eq z2.symm)))))).other W17 (Or.inl (Ne.symm (Nat.ne_of_lt (Nat.lt_of_lt_of_le P1.lt (Nat.le_of_eq z2.symm)))))).other W22 (Or.inl (Ne.symm (Nat.ne_of_lt (Nat.lt_of_lt_of_le P1.lt (Nat.le_of_eq z2.symm)))))).other W28 (Or.inl (Ne.symm (Nat.ne_of_lt (Nat.lt_of_lt_of_le P1.lt (Nat.le_of_eq z2.symm))))))
  have c39 := (((((((A6.keep K7c).wr W10).wr W12).wr W14).wr W17).wr W22).wr W28)
  have c40 := ((((((r7_1.other W10 (Or.inl (Ne.symm (Nat.ne_of_lt (Nat.lt_of_lt_of_le (Nat.lt_of_lt_of_le (Nat.lt_of_lt_of_le (Nat.lt_of_lt_of_le P1.lt E2.1) K3c.1) (Nat.le_of_eq W5.size.symm)) (Nat.le_of_eq z6.symm)))))).other W12 (Or.inl (Ne.symm (Nat.ne_of_lt (Nat.lt_of_lt_of_le (Nat.lt_of_lt_of_le (Nat.lt_of_lt_of_le (Nat.lt_of_lt_of_le P1.lt E2.1) K3c.1) (Nat.le_of_eq W5.size.symm)) (Nat.le_of_eq z6.symm)))))).other W14 (Or.inl (Ne.symm (Nat.ne_of_lt (Nat.lt_of_lt_of_le (Nat.lt_of_lt_of_le (Nat.lt_of_lt_of_le (Nat.lt_of_lt_of_le P1.lt E2.1) K3c.1) (Nat.le_of_eq W5.size.symm)) (Nat.le_of_eq z6.symm)))))).other W17 (Or.inl (Ne.symm (Nat.ne_of_lt (Nat.lt_of_lt_of_le (Nat.lt_of_lt_of_le (Nat.lt_of_lt_of_le (Nat.lt_of_lt_of_le P1.lt E2.1) K3c.1) (Nat.le_of_eq W5.size.symm)) (Nat.le_of_eq z6.symm)))))).other W22 (Or.inl (Ne.symm (Nat.ne_of_lt (Nat.lt_of_lt_of_le (Nat.lt_of_lt_of_le (Nat.lt_of_lt_of_le (Nat.lt_of_lt_of_le P1.lt E2.1) K3c.1) (Nat.le_of_eq W5.size.symm)) (Nat.le_of_eq z6.symm)))))).other W28 (Or.inl (Ne.symm (Nat.ne_of_lt (Nat.lt_of_lt_of_le (Nat.lt_of_lt_of_le (Nat.lt_of_lt_of_le (Nat.lt_of_lt_of_le P1.lt E2.1) K3c.1) (Nat.le_of_eq W5.size.symm)) (Nat.le_of_eq z6.symm))))))
  have c41 := ((((((r7_2.other W10 (Or.inl (Ne.symm (Nat.ne_of_lt (Nat.lt_of_lt_of_le (Nat.lt_of_lt_of_le (Nat.lt_of_lt_of_le (Nat.lt_of_lt_of_le P1.lt E2.1) K3c.1) (Nat.le_of_eq W5.size.symm)) (Nat.le_of_eq z6.symm)))))).other W12 (Or.inl (Ne.symm (Nat.ne_of_lt (Nat.lt_of_lt_of_le (Nat.lt_of_lt_of_le (Nat.lt_of_lt_of_le (Nat.lt_of_lt_of_le P1.lt E2.1) K3c.1) (Nat.le_of_eq W5.size.symm)) (Nat.le_of_eq z6.symm)))))).other W14 (Or.inl (Ne.symm (Nat.ne_of_lt (Nat.lt_of_lt_of_le (Nat.lt_of_lt_of_le (Nat.lt_of_lt_of_le (Nat.lt_of_lt_of_le P1.lt E2.1) K3c.1) (Nat.le_of_eq W5.size.symm)) (Nat.le_of_eq z6.symm)))))).other W17 (Or.inl (Ne.symm (Nat.ne_of_lt (Nat.lt_of_lt_of_le (Nat.lt_of_lt_of_le (Nat.lt_of_lt_of_le (Nat.lt_of_lt_of_le P1.lt E2.1) K3c.1) (Nat.le_of_eq W5.size.symm)) (Nat.le_of_eq z6.symm)))))).other W22 (Or.inl (Ne.symm (Nat.ne_of_lt (Nat.lt_of_lt_of_le (Nat.lt_of_lt_of_le (Nat.lt_of_lt_of_le (Nat.lt_of_lt_of_le P1.lt E2.1) K3c.1) (Nat.le_of_eq W5.size.symm)) (Nat.le_of_eq z6.symm)))))).other W28 (Or.inl (Ne.symm (Nat.ne_of_lt (Nat.lt_of_lt_of_le (Nat.lt_of_lt_of_le (Nat.lt_of_lt_of_le (Nat.lt_of_lt_of_le P1.lt E2.1) K3c.1) (Nat.le_of_eq W5.size.symm)) (Nat.le_of_eq z6.symm))))))
  have c42 := (((((((((r3_4.other W5 (Ne.symm (Nat.ne_of_lt (Nat.lt_of_lt_of_le (Nat.lt_of_lt_of_le P1.lt E2.1) r3_0)))).ext E6).keep K7c (ninS (Nat.ne_of_lt (Nat.lt_of_lt_of_le (Nat.lt_of_lt_of_le r3_4.lt (Nat.le_of_eq W5.size.symm)) (Nat.le_of_eq z6.symm))) nin0)).other W10 (Ne.symm (Nat.ne_of_lt (Nat.lt_of_lt_of_le (Nat.lt_of_lt_of_le P1.lt E2.1) r3_0)))).other W12 (Ne.symm (Nat.ne_of_lt (Nat.lt_of_lt_of_le (Nat.lt_of_lt_of_le P1.lt E2.1) r3_0)))).other W14 (Ne.symm (Nat.ne_of_lt (Nat.lt_of_lt_of_le (Nat.lt_of_lt_of_le P1.lt E2.1) r3_0)))).other W17 (Ne.symm (Nat.ne_of_lt (Nat.lt_of_lt_of_le (Nat.lt_of_lt_of_le P1.lt E2.1) r3_0)))).other W22 (Ne.symm (Nat.ne_of_lt (Nat.lt_of_lt_of_le (Nat.lt_of_lt_of_le P1.lt E2.1) r3_0)))).other W28 (Ne.symm (Nat.ne_of_lt (Nat.lt_of_lt_of_le (Nat.lt_of_lt_of_le P1.lt E2.1) r3_0))))
  have c43 := ((((((r7_3.other W10 (Ne.symm (Nat.ne_of_lt (Nat.lt_of_lt_of_le (Nat.lt_of_lt_of_le (Nat.lt_of_lt_of_le (Nat.lt_of_lt_of_le (Nat.lt_of_lt_of_le P1.lt E2.1) K3c.1) (Nat.le_of_eq W5.size.symm)) E6.1) r7_0)))).other W12 (Ne.symm (Nat.ne_of_lt (Nat.lt_of_lt_of_le (Nat.lt_of_lt_of_le (Nat.lt_of_lt_of_le (Nat.lt_of_lt_of_le (Nat.lt_of_lt_of_le P1.lt E2.1) K3c.1) (Nat.le_of_eq W5.size.symm)) E6.1) r7_0)))).other W14 (Ne.symm (Nat.ne_of_lt (Nat.lt_of_lt_of_le (Nat.lt_of_lt_of_le (Nat.lt_of_lt_of_le (Nat.lt_of_lt_of_le (Nat.lt_of_lt_of_le P1.lt E2.1) K3c.1) (Nat.le_of_eq W5.size.symm)) E6.1) r7_0)))).other W17 (Ne.symm (Nat.ne_of_lt (Nat.lt_of_lt_of_le (Nat.lt_of_lt_of_le (Nat.lt_of_lt_of_le (Nat.lt_of_lt_of_le (Nat.lt_of_lt_of_le P1.lt E2.1) K3c.1) (Nat.le_of_eq W5.size.symm)) E6.1) r7_0)))).other W22 (Ne.symm (Nat.ne_of_lt (Nat.lt_of_lt_of_le (Nat.lt_of_lt_of_le (Nat.lt_of_lt_of_le (Nat.lt_of_lt_of_le (Nat.lt_of_lt_of_le P1.lt E2.1) K3c.1) (Nat.le_of_eq W5.size.symm)) E6.1) r7_0)))).other W28 (Ne.symm (Nat.ne_of_lt (Nat.lt_of_lt_of_le (Nat.lt_of_lt_of_le (Nat.lt_of_lt_of_le (Nat.lt_of_lt_of_le (Nat.lt_of_lt_of_le P1.lt E2.1) K3c.1) (Nat.le_of_eq W5.size.symm)) E6.1) r7_0))))
  refine ⟨_, _, ?_, hrun, hended, _, _, rfl, ?_, ⟨⟨_, rfl⟩, hWd, hsame.mono (by decide) (by decide)⟩⟩
  · exact X28.returnOut hx Bd.returns (hb hby d1_123) hr
  · show Q_rm1_4 Z a1 q2 p3 p4 a5 a6 h0 n0 _ T28.heap _
    rw [e28]
    exact ⟨b2, b2_1_3, b6, b3_1_7, k2_1_3, k3_1_7, rfl, N28, K28, s_b2, s_b2_1_3, s_b6, s_b3_1_7, (Nat.ne_of_lt (Nat.lt_of_lt_of_le A2.lt r3_0)), (Nat.ne_of_lt (Nat.lt_of_lt_of_le (Nat.lt_of_lt_of_le (Nat.lt_of_lt_of_le A2.lt K3c.1) (Nat.le_of_eq W5.size.symm)) (Nat.le_of_eq z6.symm))), (Nat.ne_of_lt (Nat.lt_of_lt_of_le (Nat.lt_of_lt_of_le (Nat.lt_of_lt_of_le (Nat.lt_of_lt_of_le A2.lt K3c.1) (Nat.le_of_eq W5.size.symm)) E6.1) r7_0)), (Nat.ne_of_lt (Nat.lt_of_lt_of_le (Nat.lt_of_lt_of_le r3_4.lt (Nat.le_of_eq W5.size.symm)) (Nat.le_of_eq z6.symm))), (Nat.ne_of_lt (Nat.lt_of_lt_of_le (Nat.lt_of_lt_of_le (Nat.lt_of_lt_of_le r3_4.lt (Nat.le_of_eq W5.size.symm)) E6.1) r7_0)), (Nat.ne_of_lt (Nat.lt_of_lt_of_le A6.lt r7_0)), c29, c30, c31, c32, c33, F28, c34, c35, c36, c37, c38, c39, c40, c41, c42, c43⟩
def Q_rm1_5 (Z : State) (a1 : Addr) (q2 : Int64) (p3 : Int32) (p4 : Int32) (a5 : Addr) (h0 : Heap) (n0 : Nat) (v : Option Value) (h : Heap) (L : List Loc) : Prop := ∃ (b2 : Addr) (b2_1_3 : Addr) (b6 : Addr) (b3_1_7 : Addr) (k2_1_3 : ClassId) (k3_1_7 : ClassId), v = none ∧ Fr n0 L ∧ Keep h0 h [a1] ∧ h0.size ≤ b2 ∧ h0.size ≤ b2_1_3 ∧ h0.size ≤ b6 ∧ h0.size ≤ b3_1_7 ∧ b2 ≠ b2_1_3 ∧ b2 ≠ b6 ∧ b2 ≠ b3_1_7 ∧ b2_1_3 ≠ b6 ∧ b2_1_3 ≠ b3_1_7 ∧ b6 ≠ b3_1_7 ∧ Fld Z h a1 "com/example/outbound_courier/outboundcourier/http/BodyReader" "kept" "Ljava/io/ByteArrayOutputStream;" (.ref b2) ∧ Fld Z h a1 "com/example/outbound_courier/outboundcourier/http/BodyReader" "line" "Ljava/lang/StringBuilder;" (.ref b6) ∧ Fld Z h a1 "com/example/outbound_courier/outboundcourier/http/BodyReader" "maxBytes" "I" (.int p3) ∧ Fld Z h a1 "com/example/outbound_courier/outboundcourier/http/BodyReader" "chunked" "Z" (.int (0 : Int32)) ∧ Fld Z h a1 "com/example/outbound_courier/outboundcourier/http/BodyReader" "left" "J" (.long q2) ∧ Fld Z h a1 "com/example/outbound_courier/outboundcourier/http/BodyReader" "state" "Lcom/example/outbound_courier/outboundcourier/http/BodyReader$State;" (.ref a5) ∧ Fld Z h a1 "com/example/outbound_courier/outboundcourier/http/BodyReader" "tooLarge" "Z" (.int (0 : Int32)) ∧ Exa Z h b2 "java/io/ByteArrayOutputStream" ∧ Unt h b2 ∧ Fld Z h b2 "java/io/ByteArrayOutputStream" "buf" "[B" (.ref b2_1_3) ∧ Fld Z h b2 "java/io/ByteArrayOutputStream" "count" "I" (.int (0 : Int32)) ∧ Exa Z h b6 "java/lang/StringBuilder" ∧ Fld Z h b6 "java/lang/AbstractStringBuilder" "value" "[B" (.ref b3_1_7) ∧ Fld Z h b6 "java/lang/AbstractStringBuilder" "coder" "B" (.int (0 : Int32)) ∧ Arv Z h b2_1_3 k2_1_3 .byte (32 : Int32) [(.int (0 : Int32)), (.int (0 : Int32)), (.int (0 : Int32)), (.int (0 : Int32)), (.int (0 : Int32)), (.int (0 : Int32)), (.int (0 : Int32)), (.int (0 : Int32)), (.int (0 : Int32)), (.int (0 : Int32)), (.int (0 : Int32)), (.int (0 : Int32)), (.int (0 : Int32)), (.int (0 : Int32)), (.int (0 : Int32)), (.int (0 : Int32)), (.int (0 : Int32)), (.int (0 : Int32)), (.int (0 : Int32)), (.int (0 : Int32)), (.int (0 : Int32)), (.int (0 : Int32)), (.int (0 : Int32)), (.int (0 : Int32)), (.int (0 : Int32)), (.int (0 : Int32)), (.int (0 : Int32)), (.int (0 : Int32)), (.int (0 : Int32)), (.int (0 : Int32)), (.int (0 : Int32)), (.int (0 : Int32))] (.int (0 : Int32)) ∧ Arv Z h b3_1_7 k3_1_7 .byte (16 : Int32) [(.int (0 : Int32)), (.int (0 : Int32)), (.int (0 : Int32)), (.int (0 : Int32)), (.int (0 : Int32)), (.int (0 : Int32)), (.int (0 : Int32)), (.int (0 : Int32)), (.int (0 : Int32)), (.int (0 : Int32)), (.int (0 : Int32)), (.int (0 : Int32)), (.int (0 : Int32)), (.int (0 : Int32)), (.int (0 : Int32)), (.int (0 : Int32))] (.int (0 : Int32))
set_option maxRecDepth 65536 in
set_option maxHeartbeats 40000000 in
theorem rm1_5 (l : Launch) (Z : State) (a0 : Array Value) (hw : ∀ d ∈ tables_1, d.before a0 Z = true) (ws : List Jvm.Cond) (a1 : Addr) (q2 : Int64) (p3 : Int32) (p4 : Int32) (a5 : Addr) (h0 : Heap) (n0 : Nat) (O0 : Old Z n0 h0) (P1 : Exa Z h0 a1 "com/example/outbound_courier/outboundcourier/http/BodyReader") (P2 : Fld Z h0 a1 "com/example/outbound_courier/outboundcourier/http/BodyReader" "kept" "Ljava/io/ByteArrayOutputStream;" .null) (P3 : n0 ≤ a1) (P4 : Sta Z Z.heap "java/lang/String" "COMPACT_STRINGS" "Z" (.int p4)) (P5 : ¬ (p4 = (0 : Int32))) (P6 : Fld Z h0 a1 "com/example/outbound_courier/outboundcourier/http/BodyReader" "line" "Ljava/lang/StringBuilder;" .null) (P7 : Fld Z h0 a1 "com/example/outbound_courier/outboundcourier/http/BodyReader" "maxBytes" "I" (.int (0 : Int32))) (P8 : ¬ (q2 = (-1 : Int64))) (P9 : Fld Z h0 a1 "com/example/outbound_courier/outboundcourier/http/BodyReader" "chunked" "Z" (.int (0 : Int32))) (P10 : Fld Z h0 a1 "com/example/outbound_courier/outboundcourier/http/BodyReader" "left" "J" (.long (0 : Int64))) (P11 : Sta Z Z.heap "com/example/outbound_courier/outboundcourier/http/BodyReader$State" "DATA" "Lcom/example/outbound_courier/outboundcourier/http/BodyReader$State;" (.ref a5)) (P12 : Fld Z h0 a1 "com/example/outbound_courier/outboundcourier/http/BodyReader" "state" "Lcom/example/outbound_courier/outboundcourier/http/BodyReader$State;" .null) (P13 : ¬ ((p3.toInt64) < q2)) (P14 : ¬ (q2 = (0 : Int64))) (P15 : Fld Z h0 a1 "com/example/outbound_courier/outboundcourier/http/BodyReader" "tooLarge" "Z" (.int (0 : Int32))) :
    MetFree l (⟨"com/example/outbound_courier/outboundcourier/http/BodyReader", "<init>", "(JI)V"⟩ : MethodName) (head1 (Jvm.Cond.code (⟨"com/example/outbound_courier/outboundcourier/http/BodyReader", "<init>", "(JI)V"⟩ : MethodName) prog_4_method_1_code 4 none :: ws) ({ frames := 4, cells := 4, slots := 54, locals := 51 } : Room)) (fun a U => a = #[(.ref a1), (.long q2), (.int p3)] ∧ Z.Warmed39 U.vm ∧ U.heap = h0) (fun _ _ _ _ _ => True) (fun _ U o U' => ∃ v L, o = .returned v ∧ Q_rm1_5 Z a1 q2 p3 p4 a5 h0 n0 v U'.heap L ∧ FrameEnd U o U' L ({ frames := 4, cells := 4, slots := 54, locals := 51 } : Room).cells ({ frames := 4, cells := 4, slots := 54, locals := 51 } : Room).slots) := by
  refine MetFree.of_bodySF (plainFor_of_name pn_4) hisR ?_
  intro p e s m args below meth c s₁ Bd hml0 hP hK
  obtain ⟨rfl, hZ, hh⟩ := hP
  have hx := Bd.exec
  have hby := Bd.bytes
  have hml : c.maxLocals = 4 := hml0
  have hown : s.vm.findClass "com/example/outbound_courier/outboundcourier/http/BodyReader" = some m.cls := findClass_of_methodNamed Bd.named
  have hnm := (name_of_methodNamed Bd.named Bd.method).1
  have X0 : Stand p l e ({ frames := 4, cells := 4, slots := 54, locals := 51 } : Room) s m #[(.ref a1), (.long q2), (.int p3)] below meth c s₁ [] 0 0 := Stand.of_body Bd
  have e0 : s₁.heap = h0 := by rw [← hh, Bd.state]; rfl
  have N0 := Fr.nil n0
  refine Go.start (P := (fun o U' => ∃ v L, o = .returned v ∧ Q_rm1_5 Z a1 q2 p3 p4 a5 h0 n0 v U'.heap L ∧ FrameEnd s o U' L ({ frames := 4, cells := 4, slots := 54, locals := 51 } : Room).cells ({ frames := 4, cells := 4, slots := 54, locals := 51 } : Room).slots)) (castTop (g' := (mkF m 0 #[.val (.ref a1), .val (.long q2), .second, .val (.int p3)] [])) (by first | rfl | simp [entryFrame, mkF, argsToLocals, Value.category]) (T := s₁)) ?_
  refine Go.st (fun t k => XS.aloadN X0.here hx rfl (hb hby d1_0) rfl rfl k) ?_
  show Go p e below _ (s₁.setTop (mkF m 1 #[.val (.ref a1), .val (.long q2), .second, .val (.int p3)] [(.ref a1)]))
  obtain ⟨T1, X1, e1, st1⟩ := initO X0 hx hZ hown (w6 hw) (w7 hw) (w8 hw) e0 (g := (mkF m 1 #[.val (.ref a1), .val (.long q2), .second, .val (.int p3)] [(.ref a1)])) rfl (by rw [hml]; rfl) rfl (hb hby d1_1) (by decide) (W := 0) (by show 2 * 0 + _ ≤ _; exact Nat.le_of_eq rfl) (by decide)
  refine Go.st st1 ?_
  show Go p e below _ (T1.setTop (mkF m 4 #[.val (.ref a1), .val (.long q2), .second, .val (.int p3)] []))
  refine Go.st (fun t k => XS.aloadN X1.here hx rfl (hb hby d1_4) rfl rfl k) ?_
  show Go p e below _ (T1.setTop (mkF m 5 #[.val (.ref a1), .val (.long q2), .second, .val (.int p3)] [(.ref a1)]))
  obtain ⟨T2, h2, X2, e2, E2, A2, D2, U2, st2⟩ := newO X1 hx hZ hown (w9 hw) (w10 hw) (w11 hw) e1 (g := (mkF m 5 #[.val (.ref a1), .val (.long q2), .second, .val (.int p3)] [(.ref a1)])) rfl (hb hby d1_5) (by decide) (by decide)
  obtain ⟨b2, z2⟩ : ∃ z, z = h0.size := ⟨_, rfl⟩
  rw [← z2] at A2 D2 U2 st2
  have g_b2 : n0 ≤ b2 := Nat.le_trans (own_n0 O0) (Nat.le_of_eq z2.symm)
  have s_b2 : h0.size ≤ b2 := Nat.le_trans (Keep.refl h0 [a1]).1 (Nat.le_of_eq z2.symm)
  have O2 : Old Z n0 h2 := O0.ext E2
  have K2 : Keep h0 h2 [a1] := (Keep.refl h0 [a1]).ext E2
  have f2_28 : Fld Z h2 b2 "java/io/ByteArrayOutputStream" "buf" "[B" .null := D2 (Or.inl (w28 hw)) (ty := (.array .byte)) (by decide)
  have f2_90 : Fld Z h2 b2 "java/io/ByteArrayOutputStream" "count" "I" (.int (0 : Int32)) := D2 (Or.inl (w90 hw)) (ty := .int) (by decide)
  refine Go.st st2 ?_
  show Go p e below _ (T2.setTop (mkF m 8 #[.val (.ref a1), .val (.long q2), .second, .val (.int p3)] [(.ref b2), (.ref a1)]))
  refine Go.st (fun t k => XS.dup X2.here hx rfl (hb hby d1_8) rfl rfl k) ?_
  show Go p e below _ (T2.setTop (mkF m 9 #[.val (.ref a1), .val (.long q2), .second, .val (.int p3)] [(.ref b2), (.ref b2), (.ref a1)]))
  obtain ⟨_, _, ⟨T3, L3, k3, n3⟩, -, X3, ⟨Lc3, hQ3, l3, y3, z3⟩, st3⟩ := X2.specialBack hx (y := (⟨"java/io/ByteArrayOutputStream", "<init>", "()V"⟩ : MethodName)) rfl hown (mvT hZ (w12 hw)) (mvT hZ (w13 hw)) (mvT hZ (w14 hw)) (by decide) (backOf (W := 2) (rm3_1 l Z a0 hw [] b2 h2 n0 O2 A2 f2_28 g_b2 U2 f2_90) hZ (w14 hw) (w11 hw) (by decide) (by decide)) (g := (mkF m 9 #[.val (.ref a1), .val (.long q2), .second, .val (.int p3)] [(.ref b2), (.ref b2), (.ref a1)])) rfl (by rw [hml]; rfl) (Steps.refl _) (a := b2) (argsL := []) (rest := [(.ref b2), (.ref a1)]) (lenOf pd_0 rfl) rfl (by show 2 * 0 + _ ≤ _; exact Nat.le_of_eq rfl) (hb hby d1_9) (fun vm₁ hw₁ => ⟨rfl, e2, (by decide : 1 + 1 ≤ _), (by decide : 2 + 32 ≤ _)⟩)
  dsimp only [Pt.U, Pt.locs, Pt.cells, Pt.slots] at X3 l3 y3 z3 st3 hQ3
  subst l3 y3 z3
  obtain ⟨b2_1_3, k2_1_3, rfl, M3, K3c, r3_0, r3_1, r3_2, r3_3, r3_4⟩ := hQ3
  have N3 := Fr.app N0 M3
  have g_b2_1_3 : n0 ≤ b2_1_3 := Nat.le_trans (own_n0 O2) r3_0
  have s_b2_1_3 : h0.size ≤ b2_1_3 := Nat.le_trans K2.1 r3_0
  have O3 : Old Z n0 T3.heap := O2.keep K3c (allS g_b2 all0)
  have K3 : Keep h0 T3.heap [a1] := K2.trans K3c (allS (Or.inr s_b2) all0)
  refine Go.tr st3 ?_
  show Go p e below _ (T3.setTop (mkF m 12 #[.val (.ref a1), .val (.long q2), .second, .val (.int p3)] [(.ref b2), (.ref a1)]))
  have c4 := ((P2.ext E2).keep K3c (ninS (Nat.ne_of_lt (Nat.lt_of_lt_of_le P1.lt (Nat.le_of_eq z2.symm))) nin0))
  obtain ⟨T5, h5, X5, e5, W5, st5⟩ := putF X3 hx hZ hown (host := "") (Or.inl (w29 hw)) Via.refl rfl c4 ((P1.ext E2).keep K3c) (Or.inr ⟨(w30 hw), rfl, hnm⟩) (w1 hw) (ty := (.object "java/io/ByteArrayOutputStream")) (by decide) rfl rfl (g := (mkF m 12 #[.val (.ref a1), .val (.long q2), .second, .val (.int p3)] [(.ref b2), (.ref a1)])) rfl rfl (hb hby d1_12)
  have F5 : Fld Z h5 a1 "com/example/outbound_courier/outboundcourier/http/BodyReader" "kept" "Ljava/io/ByteArrayOutputStream;" (.ref b2) := c4.same W5
  have N5 := Fr.snoc X5 N3 P3
  have O5 : Old Z n0 h5 := O3.wr W5 P3
  have K5 : Keep h0 h5 [a1] := K3.wr W5 (Or.inl (List.mem_of_getElem? (i := 0) rfl))
  refine Go.st st5 ?_
  show Go p e below _ (T5.setTop (mkF m 15 #[.val (.ref a1), .val (.long q2), .second, .val (.int p3)] []))
  refine Go.st (fun t k => XS.aloadN X5.here hx rfl (hb hby d1_15) rfl rfl k) ?_
  show Go p e below _ (T5.setTop (mkF m 16 #[.val (.ref a1), .val (.long q2), .second, .val (.int p3)] [(.ref a1)]))
  obtain ⟨T6, h6, X6, e6, E6, A6, D6, -, st6⟩ := newO X5 hx hZ hown (w31 hw) (w32 hw) (w33 hw) e5 (g := (mkF m 16 #[.val (.ref a1), .val (.long q2), .second, .val (.int p3)] [(.ref a1)])) rfl (hb hby d1_16) (by decide) (by decide)
  obtain ⟨b6, z6⟩ : ∃ z, z = h5.size := ⟨_, rfl⟩
  rw [← z6] at A6 D6 st6
  have g_b6 : n0 ≤ b6 := Nat.le_trans (own_n0 O5) (Nat.le_of_eq z6.symm)
  have s_b6 : h0.size ≤ b6 := Nat.le_trans K5.1 (Nat.le_of_eq z6.symm)
  have O6 : Old Z n0 h6 := O5.ext E6
  have K6 : Keep h0 h6 [a1] := K5.ext E6
  have f6_47 : Fld Z h6 b6 "java/lang/AbstractStringBuilder" "value" "[B" .null := D6 (Or.inl (w47 hw)) (ty := (.array .byte)) (by decide)
  have f6_49 : Fld Z h6 b6 "java/lang/AbstractStringBuilder" "coder" "B" (.int (0 : Int32)) := D6 (Or.inl (w49 hw)) (ty := .byte) (by decide)
  refine Go.st st6 ?_
  show Go p e below _ (T6.setTop (mkF m 19 #[.val (.ref a1), .val (.long q2), .second, .val (.int p3)] [(.ref b6), (.ref a1)]))
  refine Go.st (fun t k => XS.dup X6.here hx rfl (hb hby d1_19) rfl rfl k) ?_
  show Go p e below _ (T6.setTop (mkF m 20 #[.val (.ref a1), .val (.long q2), .second, .val (.int p3)] [(.ref b6), (.ref b6), (.ref a1)]))
  obtain ⟨_, _, ⟨T7, L7, k7, n7⟩, -, X7, ⟨Lc7, hQ7, l7, y7, z7⟩, st7⟩ := X6.specialBack hx (y := (⟨"java/lang/StringBuilder", "<init>", "()V"⟩ : MethodName)) rfl hown (mvT hZ (w34 hw)) (mvT hZ (w35 hw)) (mvT hZ (w36 hw)) (by decide) (backOf (W := 2) (rm6_1 l Z a0 hw [] b6 p4 h6 n0 O6 P4 P5 A6 f6_47 g_b6 f6_49) hZ (w36 hw) (w33 hw) (by decide) (by decide)) (g := (mkF m 20 #[.val (.ref a1), .val (.long q2), .second, .val (.int p3)] [(.ref b6), (.ref b6), (.ref a1)])) rfl (by rw [hml]; rfl) (Steps.refl _) (a := b6) (argsL := []) (rest := [(.ref b6), (.ref a1)]) (lenOf pd_0 rfl) rfl (by show 2 * 0 + _ ≤ _; exact Nat.le_of_eq rfl) (hb hby d1_20) (fun vm₁ hw₁ => ⟨rfl, e6, (by decide : 3 + 1 ≤ _), (by decide : 38 + 16 ≤ _)⟩)
  dsimp only [Pt.U, Pt.locs, Pt.cells, Pt.slots] at X7 l7 y7 z7 st7 hQ7
  subst l7 y7 z7
  obtain ⟨b3_1_7, k3_1_7, rfl, M7, K7c, r7_0, r7_1, r7_2, r7_3⟩ := hQ7
  have N7 := Fr.app N5 M7
  have g_b3_1_7 : n0 ≤ b3_1_7 := Nat.le_trans (own_n0 O6) r7_0
  have s_b3_1_7 : h0.size ≤ b3_1_7 := Nat.le_trans K6.1 r7_0
  have O7 : Old Z n0 T7.heap := O6.keep K7c (allS g_b6 all0)
  have K7 : Keep h0 T7.heap [a1] := K6.trans K7c (allS (Or.inr s_b6) all0)
  refine Go.tr st7 ?_
  show Go p e below _ (T7.setTop (mkF m 23 #[.val (.ref a1), .val (.long q2), .second, .val (.int p3)] [(.ref b6), (.ref a1)]))
  have c8 := (((((P1.ext E2).keep K3c).wr W5).ext E6).keep K7c)
  have c9 := (((((P6.ext E2).keep K3c (ninS (Nat.ne_of_lt (Nat.lt_of_lt_of_le P1.lt (Nat.le_of_eq z2.symm))) nin0)).other W5 (Or.inr (slot_ne (Or.inr (w51 hw)) (Or.inr (w30 hw)) (by decide) (t := (.object "java/lang/StringBuilder")) (t' := (.object "java/io/ByteArrayOutputStream")) (by decide) (by decide)))).ext E6).keep K7c (ninS (Nat.ne_of_lt (Nat.lt_of_lt_of_le (Nat.lt_of_lt_of_le (Nat.lt_of_lt_of_le (Nat.lt_of_lt_of_le P1.lt E2.1) K3c.1) (Nat.le_of_eq W5.size.symm)) (Nat.le_of_eq z6.symm))) nin0))
  obtain ⟨T10, h10, X10, e10, W10, st10⟩ := putF X7 hx hZ hown (host := "") (Or.inl (w50 hw)) Via.refl rfl c9 c8 (Or.inr ⟨(w51 hw), rfl, hnm⟩) (w1 hw) (ty := (.object "java/lang/StringBuilder")) (by decide) rfl rfl (g := (mkF m 23 #[.val (.ref a1), .val (.long q2), .second, .val (.int p3)] [(.ref b6), (.ref a1)])) rfl rfl (hb hby d1_23)
  have F10 : Fld Z h10 a1 "com/example/outbound_courier/outboundcourier/http/BodyReader" "line" "Ljava/lang/StringBuilder;" (.ref b6) := c9.same W10
  have N10 := Fr.snoc X10 N7 P3
  have O10 : Old Z n0 h10 := O7.wr W10 P3
  have K10 : Keep h0 h10 [a1] := K7.wr W10 (Or.inl (List.mem_of_getElem? (i := 0) rfl))
  refine Go.st st10 ?_
  show Go p e below _ (T10.setTop (mkF m 26 #[.val (.ref a1), .val (.long q2), .second, .val (.int p3)] []))
  refine Go.st (fun t k => XS.aloadN X10.here hx rfl (hb hby d1_26) rfl rfl k) ?_
  show Go p e below _ (T10.setTop (mkF m 27 #[.val (.ref a1), .val (.long q2), .second, .val (.int p3)] [(.ref a1)]))
  refine Go.st (fun t k => XS.iloadN X10.here hx rfl (hb hby d1_27) rfl k) ?_
  show Go p e below _ (T10.setTop (mkF m 28 #[.val (.ref a1), .val (.long q2), .second, .val (.int p3)] [(.int p3), (.ref a1)]))
  have c11 := ((((((P7.ext E2).keep K3c (ninS (Nat.ne_of_lt (Nat.lt_of_lt_of_le P1.lt (Nat.le_of_eq z2.symm))) nin0)).other W5 (Or.inr (slot_ne (Or.inr (w53 hw)) (Or.inr (w30 hw)) (by decide) (t := .int) (t' := (.object "java/io/ByteArrayOutputStream")) (by decide) (by decide)))).ext E6).keep K7c (ninS (Nat.ne_of_lt (Nat.lt_of_lt_of_le (Nat.lt_of_lt_of_le (Nat.lt_of_lt_of_le (Nat.lt_of_lt_of_le P1.lt E2.1) K3c.1) (Nat.le_of_eq W5.size.symm)) (Nat.le_of_eq z6.symm))) nin0)).other W10 (Or.inr (slot_ne (Or.inr (w53 hw)) (Or.inr (w51 hw)) (by decide) (t := .int) (t' := (.object "java/lang/StringBuilder")) (by decide) (by decide))))
  obtain ⟨T12, h12, X12, e12, W12, st12⟩ := putF X10 hx hZ hown (host := "") (Or.inl (w52 hw)) Via.refl e10 c11 (c8.wr W10) (Or.inr ⟨(w53 hw), rfl, hnm⟩) (w1 hw) (ty := .int) (by decide) rfl rfl (g := (mkF m 28 #[.val (.ref a1), .val (.long q2), .second, .val (.int p3)] [(.int p3), (.ref a1)])) rfl rfl (hb hby d1_28)
  have F12 : Fld Z h12 a1 "com/example/outbound_courier/outboundcourier/http/BodyReader" "maxBytes" "I" (.int p3) := c11.same W12
  have N12 := Fr.snoc X12 N10 P3
  have O12 : Old Z n0 h12 := O10.wr W12 P3
  have K12 : Keep h0 h12 [a1] := K10.wr W12 (Or.inl (List.mem_of_getElem? (i := 0) rfl))
  refine Go.st st12 ?_
  show Go p e below _ (T12.setTop (mkF m 31 #[.val (.ref a1), .val (.long q2), .second, .val (.int p3)] []))
  refine Go.st (fun t k => XS.aloadN X12.here hx rfl (hb hby d1_31) rfl rfl k) ?_
  show Go p e below _ (T12.setTop (mkF m 32 #[.val (.ref a1), .val (.long q2), .second, .val (.int p3)] [(.ref a1)]))
  refine Go.st (fun t k => XS.lloadN X12.here hx rfl (hb hby d1_32) rfl k) ?_
  show Go p e below _ (T12.setTop (mkF m 33 #[.val (.ref a1), .val (.long q2), .second, .val (.int p3)] [(.long q2), (.ref a1)]))
  refine Go.st (fun t k => X12.ldc2J hx hown (mvT hZ (w54 hw)) (g := (mkF m 33 #[.val (.ref a1), .val (.long q2), .second, .val (.int p3)] [(.long q2), (.ref a1)])) rfl (hb hby d1_33) k) ?_
  show Go p e below _ (T12.setTop (mkF m 36 #[.val (.ref a1), .val (.long q2), .second, .val (.int p3)] [(.long (-1 : Int64)), (.long q2), (.ref a1)]))
  refine Go.st (fun t k => Jvm.Free.XT.lcmp X12.here hx rfl (hb hby d1_36) rfl k) ?_
  show Go p e below _ (T12.setTop (mkF m 37 #[.val (.ref a1), .val (.long q2), .second, .val (.int p3)] [(.int (Jvm.Free.XT.cmpL q2 (-1 : Int64))), (.ref a1)]))
  refine Go.st (fun t k => XS.ifYes X12.here hx rfl (pc0 := 37) (pc' := 44) rfl (hb hby d1_37) rfl (Jvm.Free.XT.ll_ne_t P8) (by decide) (by decide) k) ?_
  show Go p e below _ (T12.setTop (mkF m 44 #[.val (.ref a1), .val (.long q2), .second, .val (.int p3)] [(.ref a1)]))
  refine Go.st (fun t k => XS.iconst X12.here hx rfl (hb hby d1_44) k) ?_
  show Go p e below _ (T12.setTop (mkF m 45 #[.val (.ref a1), .val (.long q2), .second, .val (.int p3)] [(.int (0 : Int32)), (.ref a1)]))
  have c13 := (((((((P9.ext E2).keep K3c (ninS (Nat.ne_of_lt (Nat.lt_of_lt_of_le P1.lt (Nat.le_of_eq z2.symm))) nin0)).other W5 (Or.inr (slot_ne (Or.inr (w56 hw)) (Or.inr (w30 hw)) (by decide) (t := .boolean) (t' := (.object "java/io/ByteArrayOutputStream")) (by decide) (by decide)))).ext E6).keep K7c (ninS (Nat.ne_of_lt (Nat.lt_of_lt_of_le (Nat.lt_of_lt_of_le (Nat.lt_of_lt_of_le (Nat.lt_of_lt_of_le P1.lt E2.1) K3c.1) (Nat.le_of_eq W5.size.symm)) (Nat.le_of_eq z6.symm))) nin0)).other W10 (Or.inr (slot_ne (Or.inr (w56 hw)) (Or.inr (w51 hw)) (by decide) (t := .boolean) (t' := (.object "java/lang/StringBuilder")) (by decide) (by decide)))).other W12 (Or.inr (slot_ne (Or.inr (w56 hw)) (Or.inr (w53 hw)) (by decide) (t := .boolean) (t' := .int) (by decide) (by decide))))
  obtain ⟨T14, h14, X14, e14, W14, st14⟩ := putFN X12 hx hZ hown (w55 hw) Via.refl e12 c13 ((c8.wr W10).wr W12) (Or.inr ⟨(w56 hw), rfl, hnm⟩) (w1 hw) (ty := .boolean) (v' := (.int (0 : Int32))) (by decide) rfl (by decide) (g := (mkF m 45 #[.val (.ref a1), .val (.long q2), .second, .val (.int p3)] [(.int (0 : Int32)), (.ref a1)])) rfl rfl (hb hby d1_45)
  have F14 : Fld Z h14 a1 "com/example/outbound_courier/outboundcourier/http/BodyReader" "chunked" "Z" (.int (0 : Int32)) := c13.same W14
  have N14 := Fr.snoc X14 N12 P3
  have O14 : Old Z n0 h14 := O12.wr W14 P3
  have K14 : Keep h0 h14 [a1] := K12.wr W14 (Or.inl (List.mem_of_getElem? (i := 0) rfl))
  refine Go.st st14 ?_
  show Go p e below _ (T14.setTop (mkF m 48 #[.val (.ref a1), .val (.long q2), .second, .val (.int p3)] []))
  refine Go.st (fun t k => XS.aloadN X14.here hx rfl (hb hby d1_48) rfl rfl k) ?_
  show Go p e below _ (T14.setTop (mkF m 49 #[.val (.ref a1), .val (.long q2), .second, .val (.int p3)] [(.ref a1)]))
  refine Go.st (fun t k => XS.aloadN X14.here hx rfl (hb hby d1_49) rfl rfl k) ?_
  show Go p e below _ (T14.setTop (mkF m 50 #[.val (.ref a1), .val (.long q2), .second, .val (.int p3)] [(.ref a1), (.ref a1)]))
  obtain ⟨T15, X15, e15, st15⟩ := getF X14 hx hZ hown (host := "") (Or.inl (w55 hw)) Via.refl e14 F14 (g := (mkF m 50 #[.val (.ref a1), .val (.long q2), .second, .val (.int p3)] [(.ref a1), (.ref a1)])) rfl rfl (hb hby d1_50)
  refine Go.st st15 ?_
  show Go p e below _ (T15.setTop (mkF m 53 #[.val (.ref a1), .val (.long q2), .second, .val (.int p3)] [(.int (0 : Int32)), (.ref a1)]))
  refine Go.st (fun t k => XS.ifYes X15.here hx rfl (pc0 := 53) (pc' := 60) rfl (hb hby d1_53) rfl (Jvm.Free.XT.i0_eq_t (by decide : (0 : Int32) = (0 : Int32))) (by decide) (by decide) k) ?_
  show Go p e below _ (T15.setTop (mkF m 60 #[.val (.ref a1), .val (.long q2), .second, .val (.int p3)] [(.ref a1)]))
  refine Go.st (fun t k => XS.lloadN X15.here hx rfl (hb hby d1_60) rfl k) ?_
  show Go p e below _ (T15.setTop (mkF m 61 #[.val (.ref a1), .val (.long q2), .second, .val (.int p3)] [(.long q2), (.ref a1)]))
  have c16 := ((((((((P10.ext E2).keep K3c (ninS (Nat.ne_of_lt (Nat.lt_of_lt_of_le P1.lt (Nat.le_of_eq z2.symm))) nin0)).other W5 (Or.inr (slot_ne (Or.inl (w58 hw)) (Or.inr (w30 hw)) (by decide) (t := .long) (t' := (.object "java/io/ByteArrayOutputStream")) (by decide) (by decide)))).ext E6).keep K7c (ninS (Nat.ne_of_lt (Nat.lt_of_lt_of_le (Nat.lt_of_lt_of_le (Nat.lt_of_lt_of_le (Nat.lt_of_lt_of_le P1.lt E2.1) K3c.1) (Nat.le_of_eq W5.size.symm)) (Nat.le_of_eq z6.symm))) nin0)).other W10 (Or.inr (slot_ne (Or.inl (w58 hw)) (Or.inr (w51 hw)) (by decide) (t := .long) (t' := (.object "java/lang/StringBuilder")) (by decide) (by decide)))).other W12 (Or.inr (slot_ne (Or.inl (w58 hw)) (Or.inr (w53 hw)) (by decide) (t := .long) (t' := .int) (by decide) (by decide)))).other W14 (Or.inr (slot_ne (Or.inl (w58 hw)) (Or.inr (w56 hw)) (by decide) (t := .long) (t' := .boolean) (by decide) (by decide))))
  obtain ⟨T17, h17, X17, e17, W17, st17⟩ := putF X15 hx hZ hown (host := "") (Or.inl (w57 hw)) Via.refl e15 c16 (((c8.wr W10).wr W12).wr W14) (Or.inl (w58 hw)) (w1 hw) (ty := .long) (by decide) rfl rfl (g := (mkF m 61 #[.val (.ref a1), .val (.long q2), .second, .val (.int p3)] [(.long q2), (.ref a1)])) rfl rfl (hb hby d1_61)
  have F17 : Fld Z h17 a1 "com/example/outbound_courier/outboundcourier/http/BodyReader" "left" "J" (.long q2) := c16.same W17
  have N17 := Fr.snoc X17 N14 P3
  have O17 : Old Z n0 h17 := O14.wr W17 P3
  have K17 : Keep h0 h17 [a1] := K14.wr W17 (Or.inl (List.mem_of_getElem? (i := 0) rfl))
  refine Go.st st17 ?_
  show Go p e below _ (T17.setTop (mkF m 64 #[.val (.ref a1), .val (.long q2), .second, .val (.int p3)] []))
  refine Go.st (fun t k => XS.aloadN X17.here hx rfl (hb hby d1_64) rfl rfl k) ?_
  show Go p e below _ (T17.setTop (mkF m 65 #[.val (.ref a1), .val (.long q2), .second, .val (.int p3)] [(.ref a1)]))
  refine Go.st (fun t k => XS.aloadN X17.here hx rfl (hb hby d1_65) rfl rfl k) ?_
  show Go p e below _ (T17.setTop (mkF m 66 #[.val (.ref a1), .val (.long q2), .second, .val (.int p3)] [(.ref a1), (.ref a1)]))
  have c18 := (F14.other W17 (Or.inr (slot_ne (Or.inr (w56 hw)) (Or.inl (w58 hw)) (by decide) (t := .boolean) (t' := .long) (by decide) (by decide))))
  obtain ⟨T19, X19, e19, st19⟩ := getF X17 hx hZ hown (host := "") (Or.inl (w55 hw)) Via.refl e17 c18 (g := (mkF m 66 #[.val (.ref a1), .val (.long q2), .second, .val (.int p3)] [(.ref a1), (.ref a1)])) rfl rfl (hb hby d1_66)
  refine Go.st st19 ?_
  show Go p e below _ (T19.setTop (mkF m 69 #[.val (.ref a1), .val (.long q2), .second, .val (.int p3)] [(.int (0 : Int32)), (.ref a1)]))
  refine Go.st (fun t k => XS.ifYes X19.here hx rfl (pc0 := 69) (pc' := 78) rfl (hb hby d1_69) rfl (Jvm.Free.XT.i0_eq_t (by decide : (0 : Int32) = (0 : Int32))) (by decide) (by decide) k) ?_
  show Go p e below _ (T19.setTop (mkF m 78 #[.val (.ref a1), .val (.long q2), .second, .val (.int p3)] [(.ref a1)]))
  obtain ⟨T20, X20, e20, st20⟩ := getS2 X19 hx hZ hown (host := "") (Or.inl (w59 hw)) Via.refl e19 (P11.ext O17.2) (g := (mkF m 78 #[.val (.ref a1), .val (.long q2), .second, .val (.int p3)] [(.ref a1)])) rfl (hb hby d1_78)
  refine Go.st st20 ?_
  show Go p e below _ (T20.setTop (mkF m 81 #[.val (.ref a1), .val (.long q2), .second, .val (.int p3)] [(.ref a5), (.ref a1)]))
  have c21 := (((((((((P12.ext E2).keep K3c (ninS (Nat.ne_of_lt (Nat.lt_of_lt_of_le P1.lt (Nat.le_of_eq z2.symm))) nin0)).other W5 (Or.inr (slot_ne (Or.inl (w63 hw)) (Or.inr (w30 hw)) (by decide) (t := (.object "com/example/outbound_courier/outboundcourier/http/BodyReader$State")) (t' := (.object "java/io/ByteArrayOutputStream")) (by decide) (by decide)))).ext E6).keep K7c (ninS (Nat.ne_of_lt (Nat.lt_of_lt_of_le (Nat.lt_of_lt_of_le (Nat.lt_of_lt_of_le (Nat.lt_of_lt_of_le P1.lt E2.1) K3c.1) (Nat.le_of_eq W5.size.symm)) (Nat.le_of_eq z6.symm))) nin0)).other W10 (Or.inr (slot_ne (Or.inl (w63 hw)) (Or.inr (w51 hw)) (by decide) (t := (.object "com/example/outbound_courier/outboundcourier/http/BodyReader$State")) (t' := (.object "java/lang/StringBuilder")) (by decide) (by decide)))).other W12 (Or.inr (slot_ne (Or.inl (w63 hw)) (Or.inr (w53 hw)) (by decide) (t := (.object "com/example/outbound_courier/outboundcourier/http/BodyReader$State")) (t' := .int) (by decide) (by decide)))).other W14 (Or.inr (slot_ne (Or.inl (w63 hw)) (Or.inr (w56 hw)) (by decide) (t := (.object "com/example/outbound_courier/outboundcourier/http/BodyReader$State")) (t' := .boolean) (by decide) (by decide)))).other W17 (Or.inr (slot_ne (Or.inl (w63 hw)) (Or.inl (w58 hw)) (by decide) (t := (.object "com/example/outbound_courier/outboundcourier/http/BodyReader$State")) (t' := .long) (by decide) (by decide))))
  obtain ⟨T22, h22, X22, e22, W22, st22⟩ := putF X20 hx hZ hown (host := "") (Or.inl (w62 hw)) Via.refl e20 c21 ((((c8.wr W10).wr W12).wr W14).wr W17) (Or.inl (w63 hw)) (w1 hw) (ty := (.object "com/example/outbound_courier/outboundcourier/http/BodyReader$State")) (by decide) rfl rfl (g := (mkF m 81 #[.val (.ref a1), .val (.long q2), .second, .val (.int p3)] [(.ref a5), (.ref a1)])) rfl rfl (hb hby d1_81)
  have F22 : Fld Z h22 a1 "com/example/outbound_courier/outboundcourier/http/BodyReader" "state" "Lcom/example/outbound_courier/outboundcourier/http/BodyReader$State;" (.ref a5) := c21.same W22
  have N22 := Fr.snoc X22 N17 P3
  have O22 : Old Z n0 h22 := O17.wr W22 P3
  have K22 : Keep h0 h22 [a1] := K17.wr W22 (Or.inl (List.mem_of_getElem? (i := 0) rfl))
  refine Go.st st22 ?_
  show Go p e below _ (T22.setTop (mkF m 84 #[.val (.ref a1), .val (.long q2), .second, .val (.int p3)] []))
  refine Go.st (fun t k => XS.aloadN X22.here hx rfl (hb hby d1_84) rfl rfl k) ?_
  show Go p e below _ (T22.setTop (mkF m 85 #[.val (.ref a1), .val (.long q2), .second, .val (.int p3)] [(.ref a1)]))
  have c23 := (c18.other W22 (Or.inr (slot_ne (Or.inr (w56 hw)) (Or.inl (w63 hw)) (by decide) (t := .boolean) (t' := (.object "com/example/outbound_courier/outboundcourier/http/BodyReader$State")) (by decide) (by decide))))
  obtain ⟨T24, X24, e24, st24⟩ := getF X22 hx hZ hown (host := "") (Or.inl (w55 hw)) Via.refl e22 c23 (g := (mkF m 85 #[.val (.ref a1), .val (.long q2), .second, .val (.int p3)] [(.ref a1)])) rfl rfl (hb hby d1_85)
  refine Go.st st24 ?_
  show Go p e below _ (T24.setTop (mkF m 88 #[.val (.ref a1), .val (.long q2), .second, .val (.int p3)] [(.int (0 : Int32))]))
  refine Go.st (fun t k => XS.ifNo X24.here hx rfl (hb hby d1_88) rfl (Jvm.Free.XT.i0_ne_f (by decide : (0 : Int32) = (0 : Int32))) k) ?_
  show Go p e below _ (T24.setTop (mkF m 91 #[.val (.ref a1), .val (.long q2), .second, .val (.int p3)] []))
  refine Go.st (fun t k => XS.lloadN X24.here hx rfl (hb hby d1_91) rfl k) ?_
  show Go p e below _ (T24.setTop (mkF m 92 #[.val (.ref a1), .val (.long q2), .second, .val (.int p3)] [(.long q2)]))
  refine Go.st (fun t k => XS.iloadN X24.here hx rfl (hb hby d1_92) rfl k) ?_
  show Go p e below _ (T24.setTop (mkF m 93 #[.val (.ref a1), .val (.long q2), .second, .val (.int p3)] [(.int p3), (.long q2)]))
  refine Go.st (fun t k => XS.i2l X24.here hx rfl (hb hby d1_93) rfl k) ?_
  show Go p e below _ (T24.setTop (mkF m 94 #[.val (.ref a1), .val (.long q2), .second, .val (.int p3)] [(.long (p3.toInt64)), (.long q2)]))
  refine Go.st (fun t k => Jvm.Free.XT.lcmp X24.here hx rfl (hb hby d1_94) rfl k) ?_
  show Go p e below _ (T24.setTop (mkF m 95 #[.val (.ref a1), .val (.long q2), .second, .val (.int p3)] [(.int (Jvm.Free.XT.cmpL q2 (p3.toInt64)))]))
  refine Go.st (fun t k => XS.ifYes X24.here hx rfl (pc0 := 95) (pc' := 103) rfl (hb hby d1_95) rfl (Jvm.Free.XT.ll_le_t P13) (by decide) (by decide) k) ?_
  show Go p e below _ (T24.setTop (mkF m 103 #[.val (.ref a1), .val (.long q2), .second, .val (.int p3)] []))
  refine Go.st (fun t k => XS.aloadN X24.here hx rfl (hb hby d1_103) rfl rfl k) ?_
  show Go p e below _ (T24.setTop (mkF m 104 #[.val (.ref a1), .val (.long q2), .second, .val (.int p3)] [(.ref a1)]))
  obtain ⟨T25, X25, e25, st25⟩ := getF X24 hx hZ hown (host := "") (Or.inl (w55 hw)) Via.refl e24 c23 (g := (mkF m 104 #[.val (.ref a1), .val (.long q2), .second, .val (.int p3)] [(.ref a1)])) rfl rfl (hb hby d1_104)
  refine Go.st st25 ?_
  show Go p e below _ (T25.setTop (mkF m 107 #[.val (.ref a1), .val (.long q2), .second, .val (.int p3)] [(.int (0 : Int32))]))
  refine Go.st (fun t k => XS.ifNo X25.here hx rfl (hb hby d1_107) rfl (Jvm.Free.XT.i0_ne_f (by decide : (0 : Int32) = (0 : Int32))) k) ?_
  show Go p e below _ (T25.setTop (mkF m 110 #[.val (.ref a1), .val (.long q2), .second, .val (.int p3)] []))
  refine Go.st (fun t k => XS.lloadN X25.here hx rfl (hb hby d1_110) rfl k) ?_
  show Go p e below _ (T25.setTop (mkF m 111 #[.val (.ref a1), .val (.long q2), .second, .val (.int p3)] [(.long q2)]))
  refine Go.st (fun t k => XS.lconst X25.here hx rfl (hb hby d1_111) k) ?_
  show Go p e below _ (T25.setTop (mkF m 112 #[.val (.ref a1), .val (.long q2), .second, .val (.int p3)] [(.long (0 : Int64)), (.long q2)]))
  refine Go.st (fun t k => Jvm.Free.XT.lcmp X25.here hx rfl (hb hby d1_112) rfl k) ?_
  show Go p e below _ (T25.setTop (mkF m 113 #[.val (.ref a1), .val (.long q2), .second, .val (.int p3)] [(.int (Jvm.Free.XT.cmpL q2 (0 : Int64)))]))
  refine Go.st (fun t k => XS.ifYes X25.here hx rfl (pc0 := 113) (pc' := 123) rfl (hb hby d1_113) rfl (Jvm.Free.XT.ll_ne_t P14) (by decide) (by decide) k) ?_
  show Go p e below _ (T25.setTop (mkF m 123 #[.val (.ref a1), .val (.long q2), .second, .val (.int p3)] []))
  obtain ⟨fs, hr, hrun, hended, hWd, hsame⟩ := X25.leave (v := none) (fun _ => rfl)
  have c26 := (((((((F5.ext E6).keep K7c (ninS (Nat.ne_of_lt (Nat.lt_of_lt_of_le (Nat.lt_of_lt_of_le (Nat.lt_of_lt_of_le (Nat.lt_of_lt_of_le P1.lt E2.1) K3c.1) (Nat.le_of_eq W5.size.symm)) (Nat.le_of_eq z6.symm))) nin0)).other W10 (Or.inr (slot_ne (Or.inr (w30 hw)) (Or.inr (w51 hw)) (by decide) (t := (.object "java/io/ByteArrayOutputStream")) (t' := (.object "java/lang/StringBuilder")) (by decide) (by decide)))).other W12 (Or.inr (slot_ne (Or.inr (w30 hw)) (Or.inr (w53 hw)) (by decide) (t := (.object "java/io/ByteArrayOutputStream")) (t' := .int) (by decide) (by decide)))).other W14 (Or.inr (slot_ne (Or.inr (w30 hw)) (Or.inr (w56 hw)) (by decide) (t := (.object "java/io/ByteArrayOutputStream")) (t' := .boolean) (by decide) (by decide)))).other W17 (Or.inr (slot_ne (Or.inr (w30 hw)) (Or.inl (w58 hw)) (by decide) (t := (.object "java/io/ByteArrayOutputStream")) (t' := .long) (by decide) (by decide)))).other W22 (Or.inr (slot_ne (Or.inr (w30 hw)) (Or.inl (w63 hw)) (by decide) (t := (.object "java/io/ByteArrayOutputStream")) (t' := (.object "com/example/outbound_courier/outboundcourier/http/BodyReader$State")) (by decide) (by decide))))
  have c27 := ((((F10.other W12 (Or.inr (slot_ne (Or.inr (w51 hw)) (Or.inr (w53 hw)) (by decide) (t := (.object "java/lang/StringBuilder")) (t' := .int) (by decide) (by decide)))).other W14 (Or.inr (slot_ne (Or.inr (w51 hw)) (Or.inr (w56 hw)) (by decide) (t := (.object "java/lang/StringBuilder")) (t' := .boolean) (by decide) (by decide)))).other W17 (Or.inr (slot_ne (Or.inr (w51 hw)) (Or.inl (w58 hw)) (by decide) (t := (.object "java/lang/StringBuilder")) (t' := .long) (by decide) (by decide)))).other W22 (Or.inr (slot_ne (Or.inr (w51 hw)) (Or.inl (w63 hw)) (by decide) (t := (.object "java/lang/StringBuilder")) (t' := (.object "com/example/outbound_courier/outboundcourier/http/BodyReader$State")) (by decide) (by decide))))
  have c28 := (((F12.other W14 (Or.inr (slot_ne (Or.inr (w53 hw)) (Or.inr (w56 hw)) (by decide) (t := .int) (t' := .boolean) (by decide) (by decide)))).other W17 (Or.inr (slot_ne (Or.inr (w53 hw)) (Or.inl (w58 hw)) (by decide) (t := .int) (t' := .long) (by decide) (by decide)))).other W22 (Or.inr (slot_ne (Or.inr (w53 hw)) (Or.inl (w63 hw)) (by decide) (t := .int) (t' := (.object "com/example/outbound_courier/outboundcourier/http/BodyReader$State")) (by decide) (by decide))))
  have c29 := (F17.other W22 (Or.inr (slot_ne (Or.inl (w58 hw)) (Or.inl (w63 hw)) (by decide) (t := .long) (t' := (.object "com/example/outbound_courier/outboundcourier/http/BodyReader$State")) (by decide) (by decide))))
  have c30 := ((((((((((P15.ext E2).keep K3c (ninS (Nat.ne_of_lt (Nat.lt_of_lt_of_le P1.lt (Nat.le_of_eq z2.symm))) nin0)).other W5 (Or.inr (slot_ne (Or.inl (w78 hw)) (Or.inr (w30 hw)) (by decide) (t := .boolean) (t' := (.object "java/io/ByteArrayOutputStream")) (by decide) (by decide)))).ext E6).keep K7c (ninS (Nat.ne_of_lt (Nat.lt_of_lt_of_le (Nat.lt_of_lt_of_le (Nat.lt_of_lt_of_le (Nat.lt_of_lt_of_le P1.lt E2.1) K3c.1) (Nat.le_of_eq W5.size.symm)) (Nat.le_of_eq z6.symm))) nin0)).other W10 (Or.inr (slot_ne (Or.inl (w78 hw)) (Or.inr (w51 hw)) (by decide) (t := .boolean) (t' := (.object "java/lang/StringBuilder")) (by decide) (by decide)))).other W12 (Or.inr (slot_ne (Or.inl (w78 hw)) (Or.inr (w53 hw)) (by decide) (t := .boolean) (t' := .int) (by decide) (by decide)))).other W14 (Or.inr (slot_ne (Or.inl (w78 hw)) (Or.inr (w56 hw)) (by decide) (t := .boolean) (t' := .boolean) (by decide) (by decide)))).other W17 (Or.inr (slot_ne (Or.inl (w78 hw)) (Or.inl (w58 hw)) (by decide) (t := .boolean) (t' := .long) (by decide) (by decide)))).other W22 (Or.inr (slot_ne (Or.inl (w78 hw)) (Or.inl (w63 hw)) (by decide) (t := .boolean) (t' := (.object "com/example/outbound_courier/outboundcourier/http/BodyReader$State")) (by decide) (by decide))))
  have c31 := (((((((((A2.keep K3c).wr W5).ext E6).keep K7c).wr W10).wr W12).wr W14).wr W17).wr W22)
  have c32 := ((((((((r3_2.wr W5).ext E6).keep K7c (ninS (Nat.ne_of_lt (Nat.lt_of_lt_of_le (Nat.lt_of_lt_of_le (Nat.lt_of_lt_of_le A2.lt K3c.1) (Nat.le_of_eq W5.size.symm)) (Nat.le_of_eq z6.symm))) nin0)).wr W10).wr W12).wr W14).wr W17).wr W22)
  have c33 := ((((((((r3_1.other W5 (Or.inl (Ne.symm (Nat.ne_of_lt (Nat.lt_of_lt_of_le P1.lt (Nat.le_of_eq z2.symm)))))).ext E6).keep K7c (ninS (Nat.ne_of_lt (Nat.lt_of_lt_of_le (Nat.lt_of_lt_of_le (Nat.lt_of_lt_of_le A2.lt K3c.1) (Nat.le_of_eq W5.size.symm)) (Nat.le_of_eq z6.symm))) nin0)).other W10 (Or.inl (Ne.symm (Nat.ne_of_lt (Nat.lt_of_lt_of_le P1.lt (Nat.le_of_eq z2.symm)))))).other W12 (Or.inl (Ne.symm (Nat.ne_of_lt (Nat.lt_of_lt_of_le P1.lt (Nat.le_of_eq z2.symm)))))).other W14 (Or.inl (Ne.symm (Nat.ne_of_lt (Nat.lt_of_lt_of_le P1.lt (Nat.le_of_eq z2.symm)))))).other W17 (Or.inl (Ne.symm (Nat.ne_of_lt (Nat.lt_of_lt_of_le P1.lt (Nat.le_of_eq z2.symm)))))).other W22 (Or.inl (Ne.symm (Nat.ne_of_lt (Nat.lt_of_lt_of_le P1.lt (Nat.le_of_eq z2.symm))))))
  have c34 := ((((((((r3_3.other W5 (Or.inl (Ne.symm (Nat.ne_of_lt (Nat.lt_of_lt_of_le P1.lt (Nat.le_of_eq z2.symm)))))).ext E6).keep K7c (ninS (Nat.ne_of_lt (Nat.lt_of_lt_of_le (Nat.lt_of_lt_of_le (Nat.lt_of_lt_of_le A2.lt K3c.1) (Nat.le_of_eq W5.size.symm)) (Nat.le_of_eq z6.symm))) nin0)).other W10 (Or.inl (Ne.symm (Nat.ne_of_lt (Nat.lt_of_lt_of_le P1.lt (Nat.le_of_eq z2.symm)))))).other W12 (Or.inl (Ne.symm (Nat.ne_of_lt (Nat.lt_of_lt_of_le P1.lt (Nat.le_of_eq z2.symm)))))).other W14 (Or.inl (Ne.symm (Nat.ne_of_lt (Nat.lt_of_lt_of_le P1.lt (Nat.le_of_eq z2.symm)))))).other W17 (Or.inl (Ne.symm (Nat.ne_of_lt (Nat.lt_of_lt_of_le P1.lt (Nat.le_of_eq z2.symm)))))).other W22 (Or.inl (Ne.symm (Nat.ne_of_lt (Nat.lt_of_lt_of_le P1.lt (Nat.le_of_eq z2.symm))))))
  have c35 := ((((((A6.keep K7c).wr W10).wr W12).wr W14).wr W17).wr W22)
  have c36 := (((((r7_1.other W10 (Or.inl (Ne.symm (Nat.ne_of_lt (Nat.lt_of_lt_of_le (Nat.lt_of_lt_of_le (Nat.lt_of_lt_of_le (Nat.lt_of_lt_of_le P1.lt E2.1) K3c.1) (Nat.le_of_eq W5.size.symm)) (Nat.le_of_eq z6.symm)))))).other W12 (Or.inl (Ne.symm (Nat.ne_of_lt (Nat.lt_of_lt_of_le (Nat.lt_of_lt_of_le (Nat.lt_of_lt_of_le (Nat.lt_of_lt_of_le P1.lt E2.1) K3c.1) (Nat.le_of_eq W5.size.symm)) (Nat.le_of_eq z6.symm)))))).other W14 (Or.inl (Ne.symm (Nat.ne_of_lt (Nat.lt_of_lt_of_le (Nat.lt_of_lt_of_le (Nat.lt_of_lt_of_le (Nat.lt_of_lt_of_le P1.lt E2.1) K3c.1) (Nat.le_of_eq W5.size.symm)) (Nat.le_of_eq z6.symm)))))).other W17 (Or.inl (Ne.symm (Nat.ne_of_lt (Nat.lt_of_lt_of_le (Nat.lt_of_lt_of_le (Nat.lt_of_lt_of_le (Nat.lt_of_lt_of_le P1.lt E2.1) K3c.1) (Nat.le_of_eq W5.size.symm)) (Nat.le_of_eq z6.symm)))))).other W22 (Or.inl (Ne.symm (Nat.ne_of_lt (Nat.lt_of_lt_of_le (Nat.lt_of_lt_of_le (Nat.lt_of_lt_of_le (Nat.lt_of_lt_of_le P1.lt E2.1) K3c.1) (Nat.le_of_eq W5.size.symm)) (Nat.le_of_eq z6.symm))))))
  have c37 := (((((r7_2.other W10 (Or.inl (Ne.symm (Nat.ne_of_lt (Nat.lt_of_lt_of_le (Nat.lt_of_lt_of_le (Nat.lt_of_lt_of_le (Nat.lt_of_lt_of_le P1.lt E2.1) K3c.1) (Nat.le_of_eq W5.size.symm)) (Nat.le_of_eq z6.symm)))))).other W12 (Or.inl (Ne.symm (Nat.ne_of_lt (Nat.lt_of_lt_of_le (Nat.lt_of_lt_of_le (Nat.lt_of_lt_of_le (Nat.lt_of_lt_of_le P1.lt E2.1) K3c.1) (Nat.le_of_eq W5.size.symm)) (Nat.le_of_eq z6.symm)))))).other W14 (Or.inl (Ne.symm (Nat.ne_of_lt (Nat.lt_of_lt_of_le (Nat.lt_of_lt_of_le (Nat.lt_of_lt_of_le (Nat.lt_of_lt_of_le P1.lt E2.1) K3c.1) (Nat.le_of_eq W5.size.symm)) (Nat.le_of_eq z6.symm)))))).other W17 (Or.inl (Ne.symm (Nat.ne_of_lt (Nat.lt_of_lt_of_le (Nat.lt_of_lt_of_le (Nat.lt_of_lt_of_le (Nat.lt_of_lt_of_le P1.lt E2.1) K3c.1) (Nat.le_of_eq W5.size.symm)) (Nat.le_of_eq z6.symm)))))).other W22 (Or.inl (Ne.symm (Nat.ne_of_lt (Nat.lt_of_lt_of_le (Nat.lt_of_lt_of_le (Nat.lt_of_lt_of_le (Nat.lt_of_lt_of_le P1.lt E2.1) K3c.1) (Nat.le_of_eq W5.size.symm)) (Nat.le_of_eq z6.symm))))))
  have c38 := ((((((((r3_4.other W5 (Ne.symm (Nat.ne_of_lt (Nat.lt_of_lt_of_le (Nat.lt_of_lt_of_le P1.lt E2.1) r3_0)))).ext E6).keep K7c (ninS (Nat.ne_of_lt (Nat.lt_of_lt_of_le (Nat.lt_of_lt_of_le r3_4.lt (Nat.le_of_eq W5.size.symm)) (Nat.le_of_eq z6.symm))) nin0)).other W10 (Ne.symm (Nat.ne_of_lt (Nat.lt_of_lt_of_le (Nat.lt_of_lt_of_le P1.lt E2.1) r3_0)))).other W12 (Ne.symm (Nat.ne_of_lt (Nat.lt_of_lt_of_le (Nat.lt_of_lt_of_le P1.lt E2.1) r3_0)))).other W14 (Ne.symm (Nat.ne_of_lt (Nat.lt_of_lt_of_le (Nat.lt_of_lt_of_le P1.lt E2.1) r3_0)))).other W17 (Ne.symm (Nat.ne_of_lt (Nat.lt_of_lt_of_le (Nat.lt_of_lt_of_le P1.lt E2.1) r3_0)))).other W22 (Ne.symm (Nat.ne_of_lt (Nat.lt_of_lt_of_le (Nat.lt_of_lt_of_le P1.lt E2.1) r3_0))))
  have c39 := (((((r7_3.other W10 (Ne.symm (Nat.ne_of_lt (Nat.lt_of_lt_of_le (Nat.lt_of_lt_of_le (Nat.lt_of_lt_of_le (Nat.lt_of_lt_of_le (Nat.lt_of_lt_of_le P1.lt E2.1) K3c.1) (Nat.le_of_eq W5.size.symm)) E6.1) r7_0)))).other W12 (Ne.symm (Nat.ne_of_lt (Nat.lt_of_lt_of_le (Nat.lt_of_lt_of_le (Nat.lt_of_lt_of_le (Nat.lt_of_lt_of_le (Nat.lt_of_lt_of_le P1.lt E2.1) K3c.1) (Nat.le_of_eq W5.size.symm)) E6.1) r7_0)))).other W14 (Ne.symm (Nat.ne_of_lt (Nat.lt_of_lt_of_le (Nat.lt_of_lt_of_le (Nat.lt_of_lt_of_le (Nat.lt_of_lt_of_le (Nat.lt_of_lt_of_le P1.lt E2.1) K3c.1) (Nat.le_of_eq W5.size.symm)) E6.1) r7_0)))).other W17 (Ne.symm (Nat.ne_of_lt (Nat.lt_of_lt_of_le (Nat.lt_of_lt_of_le (Nat.lt_of_lt_of_le (Nat.lt_of_lt_of_le (Nat.lt_of_lt_of_le P1.lt E2.1) K3c.1) (Nat.le_of_eq W5.size.symm)) E6.1) r7_0)))).other W22 (Ne.symm (Nat.ne_of_lt (Nat.lt_of_lt_of_le (Nat.lt_of_lt_of_le (Nat.lt_of_lt_of_le (Nat.lt_of_lt_of_le (Nat.lt_of_lt_of_le P1.lt E2.1) K3c.1) (Nat.le_of_eq W5.size.symm)) E6.1) r7_0))))
  refine ⟨_, _, ?_, hrun, hended, _, _, rfl, ?_, ⟨⟨_, rfl⟩, hWd, hsame.mono (by decide) (by decide)⟩⟩
  · exact X25.returnOut hx Bd.returns (hb hby d1_123) hr
  · show Q_rm1_5 Z a1 q2 p3 p4 a5 h0 n0 _ T25.heap _
    rw [e25]
    exact ⟨b2, b2_1_3, b6, b3_1_7, k2_1_3, k3_1_7, rfl, N22, K22, s_b2, s_b2_1_3, s_b6, s_b3_1_7, (Nat.ne_of_lt (Nat.lt_of_lt_of_le A2.lt r3_0)), (Nat.ne_of_lt (Nat.lt_of_lt_of_le (Nat.lt_of_lt_of_le (Nat.lt_of_lt_of_le A2.lt K3c.1) (Nat.le_of_eq W5.size.symm)) (Nat.le_of_eq z6.symm))), (Nat.ne_of_lt (Nat.lt_of_lt_of_le (Nat.lt_of_lt_of_le (Nat.lt_of_lt_of_le (Nat.lt_of_lt_of_le A2.lt K3c.1) (Nat.le_of_eq W5.size.symm)) E6.1) r7_0)), (Nat.ne_of_lt (Nat.lt_of_lt_of_le (Nat.lt_of_lt_of_le r3_4.lt (Nat.le_of_eq W5.size.symm)) (Nat.le_of_eq z6.symm))), (Nat.ne_of_lt (Nat.lt_of_lt_of_le (Nat.lt_of_lt_of_le (Nat.lt_of_lt_of_le r3_4.lt (Nat.le_of_eq W5.size.symm)) E6.1) r7_0)), (Nat.ne_of_lt (Nat.lt_of_lt_of_le A6.lt r7_0)), c26, c27, c28, c23, c29, F22, c30, c31, c32, c33, c34, c35, c36, c37, c38, c39⟩
def Q_rm0 (n0 : Nat) (v : Option Value) (L : List Loc) : Prop := v = some (.int (1 : Int32)) ∧ Fr n0 L
set_option maxRecDepth 65536 in
set_option maxHeartbeats 400000000 in
theorem rm0 (l : Launch) (Z : State) (a0 : Array Value) (hw : ∀ d ∈ tables_1, d.before a0 Z = true) (ws : List Jvm.Cond) (i0 : Int64) (i1 : Int32) (i2 : Int32) (w11a : Addr) (w15a : Addr) (w19a : Addr) (w23i : Int32) (h0 : Heap) (n0 : Nat) (O0 : Old Z n0 h0) (Y13 : Sta Z Z.heap "com/example/outbound_courier/outboundcourier/http/BodyReader$State" "DATA" "Lcom/example/outbound_courier/outboundcourier/http/BodyReader$State;" (.ref w11a)) (Y17 : Sta Z Z.heap "com/example/outbound_courier/outboundcourier/http/BodyReader$State" "DONE" "Lcom/example/outbound_courier/outboundcourier/http/BodyReader$State;" (.ref w15a)) (Y21 : Sta Z Z.heap "com/example/outbound_courier/outboundcourier/http/BodyReader$State" "SIZE_LINE" "Lcom/example/outbound_courier/outboundcourier/http/BodyReader$State;" (.ref w19a)) (Y25 : Sta Z Z.heap "java/lang/String" "COMPACT_STRINGS" "Z" (.int w23i)) (Y32 : ¬ (w23i = (0 : Int32))) (D37 : w11a ≠ w15a) (D39 : w15a ≠ w19a) :
    MetFree l x (head1 (Jvm.Cond.code x code maxLocals ret :: ws) room_1) (fun a U => a = #[(.long i0), (.int i1), (.int i2)] ∧ Z.Warmed39 U.vm ∧ U.heap = h0) (fun _ _ _ _ _ => True) (fun _ U o U' => ∃ v L, o = .returned v ∧ Q_rm0 n0 v L ∧ FrameEnd U o U' L room_1.cells room_1.slots) := by
  refine MetFree.of_bodySF (plainFor_of_name pn_6) hisR ?_
  intro p e s m args below meth c s₁ Bd hml0 hP hK
  obtain ⟨rfl, hZ, hh⟩ := hP
  have hx := Bd.exec
  have hby := Bd.bytes
  have hml : c.maxLocals = 12 := hml0
  have hown : s.vm.findClass "com/example/outbound_courier/outboundcourier/http/BodyReaderIsDonePinLaw" = some m.cls := findClass_of_methodNamed Bd.named
  have hnm := (name_of_methodNamed Bd.named Bd.method).1
  have X0 : Stand p l e room_1 s m #[(.long i0), (.int i1), (.int i2)] below meth c s₁ [] 0 0 := Stand.of_body Bd
  have e0 : s₁.heap = h0 := by rw [← hh, Bd.state]; rfl
  have N0 := Fr.nil n0
  refine Go.start (P := (fun o U' => ∃ v L, o = .returned v ∧ Q_rm0 n0 v L ∧ FrameEnd s o U' L room_1.cells room_1.slots)) (castTop (g' := (mkF m 0 #[.val (.long i0), .second, .val (.int i1), .val (.int i2), .unset, .unset, .unset, .unset, .unset, .unset, .unset, .unset] [])) (by first | rfl | simp [entryFrame, mkF, argsToLocals, Value.category, maxLocals]) (T := s₁)) ?_
  have tail : ∀ (qlen : Int64), Go p e below (fun o U' => ∃ v L, o = .returned v ∧ Q_rm0 n0 v L ∧ FrameEnd s o U' L room_1.cells room_1.slots) (s₁.setTop (mkF m 55 #[.val (.long i0), .second, .val (.int i1), .val (.int i2), .val (.int (i2 &&& (3 : Int32))), .val (.long qlen), .second, .unset, .unset, .unset, .unset, .unset] [])) := by
    intro qlen
    obtain ⟨T1, h1, X1, e1, E1, A1, D1, -, st1⟩ := newO X0 hx hZ hown (w0 hw) (w1 hw) (w2 hw) e0 (g := (mkF m 55 #[.val (.long i0), .second, .val (.int i1), .val (.int i2), .val (.int (i2 &&& (3 : Int32))), .val (.long qlen), .second, .unset, .unset, .unset, .unset, .unset] [])) rfl (hb hby at_55) (by decide) (by decide)
    obtain ⟨b1, z1⟩ : ∃ z, z = h0.size := ⟨_, rfl⟩
    rw [← z1] at A1 D1 st1
    have g_b1 : n0 ≤ b1 := Nat.le_trans (own_n0 O0) (Nat.le_of_eq z1.symm)
    have O1 : Old Z n0 h1 := O0.ext E1
    have f1_30 : Fld Z h1 b1 "com/example/outbound_courier/outboundcourier/http/BodyReader" "kept" "Ljava/io/ByteArrayOutputStream;" .null := D1 (Or.inr (w30 hw)) (ty := (.object "java/io/ByteArrayOutputStream")) (by decide)
    have f1_51 : Fld Z h1 b1 "com/example/outbound_courier/outboundcourier/http/BodyReader" "line" "Ljava/lang/StringBuilder;" .null := D1 (Or.inr (w51 hw)) (ty := (.object "java/lang/StringBuilder")) (by decide)
    have f1_53 : Fld Z h1 b1 "com/example/outbound_courier/outboundcourier/http/BodyReader" "maxBytes" "I" (.int (0 : Int32)) := D1 (Or.inr (w53 hw)) (ty := .int) (by decide)
    have f1_56 : Fld Z h1 b1 "com/example/outbound_courier/outboundcourier/http/BodyReader" "chunked" "Z" (.int (0 : Int32)) := D1 (Or.inr (w56 hw)) (ty := .boolean) (by decide)
    have f1_58 : Fld Z h1 b1 "com/example/outbound_courier/outboundcourier/http/BodyReader" "left" "J" (.long (0 : Int64)) := D1 (Or.inl (w58 hw)) (ty := .long) (by decide)
    have f1_63 : Fld Z h1 b1 "com/example/outbound_courier/outboundcourier/http/BodyReader" "state" "Lcom/example/outbound_courier/outboundcourier/http/BodyReader$State;" .null := D1 (Or.inl (w63 hw)) (ty := (.object "com/example/outbound_courier/outboundcourier/http/BodyReader$State")) (by decide)
    have f1_78 : Fld Z h1 b1 "com/example/outbound_courier/outboundcourier/http/BodyReader" "tooLarge" "Z" (.int (0 : Int32)) := D1 (Or.inl (w78 hw)) (ty := .boolean) (by decide)
    refine Go.st st1 ?_
    show Go p e below _ (T1.setTop (mkF m 58 #[.val (.long i0), .second, .val (.int i1), .val (.int i2), .val (.int (i2 &&& (3 : Int32))), .val (.long qlen), .second, .unset, .unset, .unset, .unset, .unset] [(.ref b1)]))
    refine Go.st (fun t k => XS.dup X1.here hx rfl (hb hby at_58) rfl rfl k) ?_
    show Go p e below _ (T1.setTop (mkF m 59 #[.val (.long i0), .second, .val (.int i1), .val (.int i2), .val (.int (i2 &&& (3 : Int32))), .val (.long qlen), .second, .unset, .unset, .unset, .unset, .unset] [(.ref b1), (.ref b1)]))
    refine Go.st (fun t k => XS.lload X1.here hx rfl (hb hby at_59) rfl k) ?_
    show Go p e below _ (T1.setTop (mkF m 61 #[.val (.long i0), .second, .val (.int i1), .val (.int i2), .val (.int (i2 &&& (3 : Int32))), .val (.long qlen), .second, .unset, .unset, .unset, .unset, .unset] [(.long qlen), (.ref b1), (.ref b1)]))
    refine Go.st (fun t k => XS.iloadN X1.here hx rfl (hb hby at_61) rfl k) ?_
    show Go p e below _ (T1.setTop (mkF m 62 #[.val (.long i0), .second, .val (.int i1), .val (.int i2), .val (.int (i2 &&& (3 : Int32))), .val (.long qlen), .second, .unset, .unset, .unset, .unset, .unset] [(.int i1), (.long qlen), (.ref b1), (.ref b1)]))
    by_cases hc2 : qlen = (-1 : Int64)
    · obtain ⟨_, _, ⟨T3, L3, k3, n3⟩, -, X3, ⟨Lc3, hQ3, l3, y3, z3⟩, st3⟩ := X1.specialBack hx (y := (⟨"com/example/outbound_courier/outboundcourier/http/BodyReader", "<init>", "(JI)V"⟩ : MethodName)) rfl hown (mvT hZ (w3 hw)) (mvT hZ (w4 hw)) (mvT hZ (w5 hw)) (by decide) (backOf (W := 1) (rm1_1 l Z a0 hw [] b1 qlen i1 w23i w19a h1 n0 O1 A1 f1_30 g_b1 Y25 Y32 f1_51 f1_53 hc2 f1_56 f1_58 Y21 f1_63 f1_78) hZ (w5 hw) (w2 hw) (by decide) (by decide)) (g := (mkF m 62 #[.val (.long i0), .second, .val (.int i1), .val (.int i2), .val (.int (i2 &&& (3 : Int32))), .val (.long qlen), .second, .unset, .unset, .unset, .unset, .unset] [(.int i1), (.long qlen), (.ref b1), (.ref b1)])) rfl (by rw [hml]; rfl) (Steps.refl _) (a := b1) (argsL := [(.long qlen), (.int i1)]) (rest := [(.ref b1)]) (lenOf pd_2 rfl) rfl (by show 2 * 0 + _ ≤ _; exact Nat.le_of_eq rfl) (hb hby at_62) (fun vm₁ hw₁ => ⟨rfl, e1, (by decide : 1 + 4 ≤ _), (by decide : 8 + 54 ≤ _)⟩)
      dsimp only [Pt.U, Pt.locs, Pt.cells, Pt.slots] at X3 l3 y3 z3 st3 hQ3
      subst l3 y3 z3
      obtain ⟨b2_3, b2_1_3_3, b6_3, b3_1_7_3, k2_1_3_3, k3_1_7_3, rfl, M3, K3c, r3_0, r3_1, r3_2, r3_3, r3_4, r3_5, r3_6, r3_7, r3_8, r3_9, r3_10, r3_11, r3_12, r3_13, r3_14, r3_15, r3_16, r3_17, r3_18, r3_19, r3_20, r3_21, r3_22, r3_23, r3_24, r3_25⟩ := hQ3
      have N3 := Fr.app N0 M3
      have g_b2_3 : n0 ≤ b2_3 := Nat.le_trans (own_n0 O1) r3_0
      have g_b2_1_3_3 : n0 ≤ b2_1_3_3 := Nat.le_trans (own_n0 O1) r3_1
      have g_b6_3 : n0 ≤ b6_3 := Nat.le_trans (own_n0 O1) r3_2
      have g_b3_1_7_3 : n0 ≤ b3_1_7_3 := Nat.le_trans (own_n0 O1) r3_3
      have O3 : Old Z n0 T3.heap := O1.keep K3c (allS g_b1 all0)
      refine Go.tr st3 ?_
      show Go p e below _ (T3.setTop (mkF m 65 #[.val (.long i0), .second, .val (.int i1), .val (.int i2), .val (.int (i2 &&& (3 : Int32))), .val (.long qlen), .second, .unset, .unset, .unset, .unset, .unset] [(.ref b1)]))
      refine Go.st (fun t k => XS.astore X3.here hx rfl (hb hby at_65) rfl rfl (l' := #[.val (.long i0), .second, .val (.int i1), .val (.int i2), .val (.int (i2 &&& (3 : Int32))), .val (.long qlen), .second, .val (.ref b1), .unset, .unset, .unset, .unset]) rfl k) ?_
      show Go p e below _ (T3.setTop (mkF m 67 #[.val (.long i0), .second, .val (.int i1), .val (.int i2), .val (.int (i2 &&& (3 : Int32))), .val (.long qlen), .second, .val (.ref b1), .unset, .unset, .unset, .unset] []))
      refine Go.st (fun t k => XS.lload X3.here hx rfl (hb hby at_67) rfl k) ?_
      show Go p e below _ (T3.setTop (mkF m 69 #[.val (.long i0), .second, .val (.int i1), .val (.int i2), .val (.int (i2 &&& (3 : Int32))), .val (.long qlen), .second, .val (.ref b1), .unset, .unset, .unset, .unset] [(.long qlen)]))
      refine Go.st (fun t k => X3.ldc2J hx hown (mvT hZ (w66 hw)) (g := (mkF m 69 #[.val (.long i0), .second, .val (.int i1), .val (.int i2), .val (.int (i2 &&& (3 : Int32))), .val (.long qlen), .second, .val (.ref b1), .unset, .unset, .unset, .unset] [(.long qlen)])) rfl (hb hby at_69) k) ?_
      show Go p e below _ (T3.setTop (mkF m 72 #[.val (.long i0), .second, .val (.int i1), .val (.int i2), .val (.int (i2 &&& (3 : Int32))), .val (.long qlen), .second, .val (.ref b1), .unset, .unset, .unset, .unset] [(.long (-1 : Int64)), (.long qlen)]))
      refine Go.st (fun t k => Jvm.Free.XT.lcmp X3.here hx rfl (hb hby at_72) rfl k) ?_
      show Go p e below _ (T3.setTop (mkF m 73 #[.val (.long i0), .second, .val (.int i1), .val (.int i2), .val (.int (i2 &&& (3 : Int32))), .val (.long qlen), .second, .val (.ref b1), .unset, .unset, .unset, .unset] [(.int (Jvm.Free.XT.cmpL qlen (-1 : Int64)))]))
      refine Go.st (fun t k => XS.ifNo X3.here hx rfl (hb hby at_73) rfl (Jvm.Free.XT.ll_ne_f hc2) k) ?_
      show Go p e below _ (T3.setTop (mkF m 76 #[.val (.long i0), .second, .val (.int i1), .val (.int i2), .val (.int (i2 &&& (3 : Int32))), .val (.long qlen), .second, .val (.ref b1), .unset, .unset, .unset, .unset] []))
      refine Go.st (fun t k => XS.iconst X3.here hx rfl (hb hby at_76) k) ?_
      show Go p e below _ (T3.setTop (mkF m 77 #[.val (.long i0), .second, .val (.int i1), .val (.int i2), .val (.int (i2 &&& (3 : Int32))), .val (.long qlen), .second, .val (.ref b1), .unset, .unset, .unset, .unset] [(.int (1 : Int32))]))
      refine Go.st (fun t k => XS.goto X3.here hx rfl (pc0 := 77) (pc' := 81) rfl (hb hby at_77) (by decide) (by decide) k) ?_
      show Go p e below _ (T3.setTop (mkF m 81 #[.val (.long i0), .second, .val (.int i1), .val (.int i2), .val (.int (i2 &&& (3 : Int32))), .val (.long qlen), .second, .val (.ref b1), .unset, .unset, .unset, .unset] [(.int (1 : Int32))]))
      refine Go.st (fun t k => XS.istore X3.here hx rfl (hb hby at_81) rfl (l' := #[.val (.long i0), .second, .val (.int i1), .val (.int i2), .val (.int (i2 &&& (3 : Int32))), .val (.long qlen), .second, .val (.ref b1), .val (.int (1 : Int32)), .unset, .unset, .unset]) rfl k) ?_
      show Go p e below _ (T3.setTop (mkF m 83 #[.val (.long i0), .second, .val (.int i1), .val (.int i2), .val (.int (i2 &&& (3 : Int32))), .val (.long qlen), .second, .val (.ref b1), .val (.int (1 : Int32)), .unset, .unset, .unset] []))
      refine Go.st (fun t k => XS.iload X3.here hx rfl (hb hby at_83) rfl k) ?_
      show Go p e below _ (T3.setTop (mkF m 85 #[.val (.long i0), .second, .val (.int i1), .val (.int i2), .val (.int (i2 &&& (3 : Int32))), .val (.long qlen), .second, .val (.ref b1), .val (.int (1 : Int32)), .unset, .unset, .unset] [(.int (1 : Int32))]))
      refine Go.st (fun t k => XS.ifYes X3.here hx rfl (pc0 := 85) (pc' := 100) rfl (hb hby at_85) rfl (Jvm.Free.XT.i0_ne_t (by decide : ¬ ((1 : Int32) = (0 : Int32)))) (by decide) (by decide) k) ?_
      show Go p e below _ (T3.setTop (mkF m 100 #[.val (.long i0), .second, .val (.int i1), .val (.int i2), .val (.int (i2 &&& (3 : Int32))), .val (.long qlen), .second, .val (.ref b1), .val (.int (1 : Int32)), .unset, .unset, .unset] []))
      refine Go.st (fun t k => XS.iconst X3.here hx rfl (hb hby at_100) k) ?_
      show Go p e below _ (T3.setTop (mkF m 101 #[.val (.long i0), .second, .val (.int i1), .val (.int i2), .val (.int (i2 &&& (3 : Int32))), .val (.long qlen), .second, .val (.ref b1), .val (.int (1 : Int32)), .unset, .unset, .unset] [(.int (0 : Int32))]))
      refine Go.st (fun t k => XS.istore X3.here hx rfl (hb hby at_101) rfl (l' := #[.val (.long i0), .second, .val (.int i1), .val (.int i2), .val (.int (i2 &&& (3 : Int32))), .val (.long qlen), .second, .val (.ref b1), .val (.int (1 : Int32)), .val (.int (0 : Int32)), .unset, .unset]) rfl k) ?_
      show Go p e below _ (T3.setTop (mkF m 103 #[.val (.long i0), .second, .val (.int i1), .val (.int i2), .val (.int (i2 &&& (3 : Int32))), .val (.long qlen), .second, .val (.ref b1), .val (.int (1 : Int32)), .val (.int (0 : Int32)), .unset, .unset] []))
      refine Go.st (fun t k => XS.iload X3.here hx rfl (hb hby at_103) rfl k) ?_
      show Go p e below _ (T3.setTop (mkF m 105 #[.val (.long i0), .second, .val (.int i1), .val (.int i2), .val (.int (i2 &&& (3 : Int32))), .val (.long qlen), .second, .val (.ref b1), .val (.int (1 : Int32)), .val (.int (0 : Int32)), .unset, .unset] [(.int (1 : Int32))]))
      refine Go.st (fun t k => XS.ifYes X3.here hx rfl (pc0 := 105) (pc' := 119) rfl (hb hby at_105) rfl (Jvm.Free.XT.i0_ne_t (by decide : ¬ ((1 : Int32) = (0 : Int32)))) (by decide) (by decide) k) ?_
      show Go p e below _ (T3.setTop (mkF m 119 #[.val (.long i0), .second, .val (.int i1), .val (.int i2), .val (.int (i2 &&& (3 : Int32))), .val (.long qlen), .second, .val (.ref b1), .val (.int (1 : Int32)), .val (.int (0 : Int32)), .unset, .unset] []))
      refine Go.st (fun t k => XS.iconst X3.here hx rfl (hb hby at_119) k) ?_
      show Go p e below _ (T3.setTop (mkF m 120 #[.val (.long i0), .second, .val (.int i1), .val (.int i2), .val (.int (i2 &&& (3 : Int32))), .val (.long qlen), .second, .val (.ref b1), .val (.int (1 : Int32)), .val (.int (0 : Int32)), .unset, .unset] [(.int (0 : Int32))]))
      refine Go.st (fun t k => XS.istore X3.here hx rfl (hb hby at_120) rfl (l' := #[.val (.long i0), .second, .val (.int i1), .val (.int i2), .val (.int (i2 &&& (3 : Int32))), .val (.long qlen), .second, .val (.ref b1), .val (.int (1 : Int32)), .val (.int (0 : Int32)), .val (.int (0 : Int32)), .unset]) rfl k) ?_
      show Go p e below _ (T3.setTop (mkF m 122 #[.val (.long i0), .second, .val (.int i1), .val (.int i2), .val (.int (i2 &&& (3 : Int32))), .val (.long qlen), .second, .val (.ref b1), .val (.int (1 : Int32)), .val (.int (0 : Int32)), .val (.int (0 : Int32)), .unset] []))
      refine Go.st (fun t k => XS.iload X3.here hx rfl (hb hby at_122) rfl k) ?_
      show Go p e below _ (T3.setTop (mkF m 124 #[.val (.long i0), .second, .val (.int i1), .val (.int i2), .val (.int (i2 &&& (3 : Int32))), .val (.long qlen), .second, .val (.ref b1), .val (.int (1 : Int32)), .val (.int (0 : Int32)), .val (.int (0 : Int32)), .unset] [(.int (0 : Int32))]))
      refine Go.st (fun t k => XS.ifNo X3.here hx rfl (hb hby at_124) rfl (Jvm.Free.XT.i0_ne_f (by decide : (0 : Int32) = (0 : Int32))) k) ?_
      show Go p e below _ (T3.setTop (mkF m 127 #[.val (.long i0), .second, .val (.int i1), .val (.int i2), .val (.int (i2 &&& (3 : Int32))), .val (.long qlen), .second, .val (.ref b1), .val (.int (1 : Int32)), .val (.int (0 : Int32)), .val (.int (0 : Int32)), .unset] []))
      refine Go.st (fun t k => XS.iload X3.here hx rfl (hb hby at_127) rfl k) ?_
      show Go p e below _ (T3.setTop (mkF m 129 #[.val (.long i0), .second, .val (.int i1), .val (.int i2), .val (.int (i2 &&& (3 : Int32))), .val (.long qlen), .second, .val (.ref b1), .val (.int (1 : Int32)), .val (.int (0 : Int32)), .val (.int (0 : Int32)), .unset] [(.int (0 : Int32))]))
      refine Go.st (fun t k => XS.ifYes X3.here hx rfl (pc0 := 129) (pc' := 136) rfl (hb hby at_129) rfl (Jvm.Free.XT.i0_eq_t (by decide : (0 : Int32) = (0 : Int32))) (by decide) (by decide) k) ?_
      show Go p e below _ (T3.setTop (mkF m 136 #[.val (.long i0), .second, .val (.int i1), .val (.int i2), .val (.int (i2 &&& (3 : Int32))), .val (.long qlen), .second, .val (.ref b1), .val (.int (1 : Int32)), .val (.int (0 : Int32)), .val (.int (0 : Int32)), .unset] []))
      refine Go.st (fun t k => XS.iconst X3.here hx rfl (hb hby at_136) k) ?_
      show Go p e below _ (T3.setTop (mkF m 137 #[.val (.long i0), .second, .val (.int i1), .val (.int i2), .val (.int (i2 &&& (3 : Int32))), .val (.long qlen), .second, .val (.ref b1), .val (.int (1 : Int32)), .val (.int (0 : Int32)), .val (.int (0 : Int32)), .unset] [(.int (0 : Int32))]))
      refine Go.st (fun t k => XS.istore X3.here hx rfl (hb hby at_137) rfl (l' := #[.val (.long i0), .second, .val (.int i1), .val (.int i2), .val (.int (i2 &&& (3 : Int32))), .val (.long qlen), .second, .val (.ref b1), .val (.int (1 : Int32)), .val (.int (0 : Int32)), .val (.int (0 : Int32)), .val (.int (0 : Int32))]) rfl k) ?_
      show Go p e below _ (T3.setTop (mkF m 139 #[.val (.long i0), .second, .val (.int i1), .val (.int i2), .val (.int (i2 &&& (3 : Int32))), .val (.long qlen), .second, .val (.ref b1), .val (.int (1 : Int32)), .val (.int (0 : Int32)), .val (.int (0 : Int32)), .val (.int (0 : Int32))] []))
      refine Go.st (fun t k => XS.aload X3.here hx rfl (hb hby at_139) rfl rfl k) ?_
      show Go p e below _ (T3.setTop (mkF m 141 #[.val (.long i0), .second, .val (.int i1), .val (.int i2), .val (.int (i2 &&& (3 : Int32))), .val (.long qlen), .second, .val (.ref b1), .val (.int (1 : Int32)), .val (.int (0 : Int32)), .val (.int (0 : Int32)), .val (.int (0 : Int32))] [(.ref b1)]))
      obtain ⟨cq4, kq4, q4a, q4b, q4c⟩ := isOf hZ rfl (A1.keep K3c)
      obtain ⟨_, _, ⟨T4, L4, k4, n4⟩, -, X4, ⟨Lc4, hQ4, l4, y4, z4⟩, st4⟩ := X3.virtualBack hx (y := (⟨"com/example/outbound_courier/outboundcourier/http/BodyReader", "isDone", "()Z"⟩ : MethodName)) (z := (⟨"com/example/outbound_courier/outboundcourier/http/BodyReader", "isDone", "()Z"⟩ : MethodName)) hown (mvT hZ (w67 hw)) (mvT hZ (w68 hw)) (notFace_of_selects (args := #[]) (mvT hZ (w70 hw))) (mvT hZ (w70 hw)) (mvT hZ (w69 hw)) (by decide) (backOf (W := 0) (rm8_1 l Z a0 hw [] b1 w19a w15a T3.heap n0 O3 r3_15 Y17 (Ne.symm D39) r3_16) hZ (w71 hw) (w2 hw) (by decide) (by decide)) q4a q4c (g := (mkF m 141 #[.val (.long i0), .second, .val (.int i1), .val (.int i2), .val (.int (i2 &&& (3 : Int32))), .val (.long qlen), .second, .val (.ref b1), .val (.int (1 : Int32)), .val (.int (0 : Int32)), .val (.int (0 : Int32)), .val (.int (0 : Int32))] [(.ref b1)])) rfl (by rw [hml]; rfl) (Steps.refl _) (argsL := []) (rest := []) (lenOf pd_3 rfl) rfl (by show 2 * 0 + _ ≤ _; exact Nat.le_of_eq rfl) (hb hby at_141) (fun vm₁ hw₁ => ⟨rfl, rfl, (by decide : 5 + 0 ≤ _), (by decide : 62 + 0 ≤ _)⟩)
      dsimp only [Pt.U, Pt.locs, Pt.cells, Pt.slots] at X4 l4 y4 z4 st4 hQ4
      subst l4 y4 z4
      obtain ⟨rfl, M4, eh4⟩ := hQ4
      have N4 := Fr.app N3 M4
      refine Go.tr st4 ?_
      show Go p e below _ (T4.setTop (mkF m 144 #[.val (.long i0), .second, .val (.int i1), .val (.int i2), .val (.int (i2 &&& (3 : Int32))), .val (.long qlen), .second, .val (.ref b1), .val (.int (1 : Int32)), .val (.int (0 : Int32)), .val (.int (0 : Int32)), .val (.int (0 : Int32))] [(.int (0 : Int32))]))
      refine Go.st (fun t k => XS.iload X4.here hx rfl (hb hby at_144) rfl k) ?_
      show Go p e below _ (T4.setTop (mkF m 146 #[.val (.long i0), .second, .val (.int i1), .val (.int i2), .val (.int (i2 &&& (3 : Int32))), .val (.long qlen), .second, .val (.ref b1), .val (.int (1 : Int32)), .val (.int (0 : Int32)), .val (.int (0 : Int32)), .val (.int (0 : Int32))] [(.int (0 : Int32)), (.int (0 : Int32))]))
      refine Go.st (fun t k => XS.icmpNo X4.here hx rfl (hb hby at_146) rfl (Jvm.Free.XT.ii_ne_f (by decide : (0 : Int32) = (0 : Int32))) k) ?_
      show Go p e below _ (T4.setTop (mkF m 149 #[.val (.long i0), .second, .val (.int i1), .val (.int i2), .val (.int (i2 &&& (3 : Int32))), .val (.long qlen), .second, .val (.ref b1), .val (.int (1 : Int32)), .val (.int (0 : Int32)), .val (.int (0 : Int32)), .val (.int (0 : Int32))] []))
      refine Go.st (fun t k => XS.aload X4.here hx rfl (hb hby at_149) rfl rfl k) ?_
      show Go p e below _ (T4.setTop (mkF m 151 #[.val (.long i0), .second, .val (.int i1), .val (.int i2), .val (.int (i2 &&& (3 : Int32))), .val (.long qlen), .second, .val (.ref b1), .val (.int (1 : Int32)), .val (.int (0 : Int32)), .val (.int (0 : Int32)), .val (.int (0 : Int32))] [(.ref b1)]))
      obtain ⟨cq5, kq5, q5a, q5b, q5c⟩ := isOf hZ eh4 (A1.keep K3c)
      obtain ⟨_, _, ⟨T5, L5, k5, n5⟩, -, X5, ⟨Lc5, hQ5, l5, y5, z5⟩, st5⟩ := X4.virtualBack hx (y := (⟨"com/example/outbound_courier/outboundcourier/http/BodyReader", "isTooLarge", "()Z"⟩ : MethodName)) (z := (⟨"com/example/outbound_courier/outboundcourier/http/BodyReader", "isTooLarge", "()Z"⟩ : MethodName)) hown (mvT hZ (w72 hw)) (mvT hZ (w73 hw)) (notFace_of_selects (args := #[]) (mvT hZ (w75 hw))) (mvT hZ (w75 hw)) (mvT hZ (w74 hw)) (by decide) (backOf (W := 0) (rm9_1 l Z a0 hw [] b1 T3.heap n0 O3 r3_16) hZ (w76 hw) (w2 hw) (by decide) (by decide)) q5a q5c (g := (mkF m 151 #[.val (.long i0), .second, .val (.int i1), .val (.int i2), .val (.int (i2 &&& (3 : Int32))), .val (.long qlen), .second, .val (.ref b1), .val (.int (1 : Int32)), .val (.int (0 : Int32)), .val (.int (0 : Int32)), .val (.int (0 : Int32))] [(.ref b1)])) rfl (by rw [hml]; rfl) (Steps.refl _) (argsL := []) (rest := []) (lenOf pd_3 rfl) rfl (by show 2 * 0 + _ ≤ _; exact Nat.le_of_eq rfl) (hb hby at_151) (fun vm₁ hw₁ => ⟨rfl, eh4, (by decide : 5 + 0 ≤ _), (by decide : 62 + 0 ≤ _)⟩)
      dsimp only [Pt.U, Pt.locs, Pt.cells, Pt.slots] at X5 l5 y5 z5 st5 hQ5
      subst l5 y5 z5
      obtain ⟨rfl, M5, eh5⟩ := hQ5
      have N5 := Fr.app N4 M5
      refine Go.tr st5 ?_
      show Go p e below _ (T5.setTop (mkF m 154 #[.val (.long i0), .second, .val (.int i1), .val (.int i2), .val (.int (i2 &&& (3 : Int32))), .val (.long qlen), .second, .val (.ref b1), .val (.int (1 : Int32)), .val (.int (0 : Int32)), .val (.int (0 : Int32)), .val (.int (0 : Int32))] [(.int (0 : Int32))]))
      refine Go.st (fun t k => XS.iload X5.here hx rfl (hb hby at_154) rfl k) ?_
      show Go p e below _ (T5.setTop (mkF m 156 #[.val (.long i0), .second, .val (.int i1), .val (.int i2), .val (.int (i2 &&& (3 : Int32))), .val (.long qlen), .second, .val (.ref b1), .val (.int (1 : Int32)), .val (.int (0 : Int32)), .val (.int (0 : Int32)), .val (.int (0 : Int32))] [(.int (0 : Int32)), (.int (0 : Int32))]))
      refine Go.st (fun t k => XS.icmpNo X5.here hx rfl (hb hby at_156) rfl (Jvm.Free.XT.ii_ne_f (by decide : (0 : Int32) = (0 : Int32))) k) ?_
      show Go p e below _ (T5.setTop (mkF m 159 #[.val (.long i0), .second, .val (.int i1), .val (.int i2), .val (.int (i2 &&& (3 : Int32))), .val (.long qlen), .second, .val (.ref b1), .val (.int (1 : Int32)), .val (.int (0 : Int32)), .val (.int (0 : Int32)), .val (.int (0 : Int32))] []))
      refine Go.st (fun t k => XS.aload X5.here hx rfl (hb hby at_159) rfl rfl k) ?_
      show Go p e below _ (T5.setTop (mkF m 161 #[.val (.long i0), .second, .val (.int i1), .val (.int i2), .val (.int (i2 &&& (3 : Int32))), .val (.long qlen), .second, .val (.ref b1), .val (.int (1 : Int32)), .val (.int (0 : Int32)), .val (.int (0 : Int32)), .val (.int (0 : Int32))] [(.ref b1)]))
      obtain ⟨cq6, kq6, q6a, q6b, q6c⟩ := isOf hZ eh5 (A1.keep K3c)
      obtain ⟨_, _, ⟨T6, L6, k6, n6⟩, -, X6, ⟨Lc6, hQ6, l6, y6, z6⟩, st6⟩ := X5.virtualBack hx (y := (⟨"com/example/outbound_courier/outboundcourier/http/BodyReader", "body", "()[B"⟩ : MethodName)) (z := (⟨"com/example/outbound_courier/outboundcourier/http/BodyReader", "body", "()[B"⟩ : MethodName)) hown (mvT hZ (w79 hw)) (mvT hZ (w80 hw)) (notFace_of_selects (args := #[]) (mvT hZ (w82 hw))) (mvT hZ (w82 hw)) (mvT hZ (w81 hw)) (by decide) (backOf (W := 0) (rm10_1 l Z a0 hw [] b1 b2_3 b2_1_3_3 k2_1_3_3 T3.heap n0 O3 r3_10 r3_17 g_b2_3 r3_19 r3_20 r3_24 r3_18) hZ (w83 hw) (w2 hw) (by decide) (by decide)) q6a q6c (g := (mkF m 161 #[.val (.long i0), .second, .val (.int i1), .val (.int i2), .val (.int (i2 &&& (3 : Int32))), .val (.long qlen), .second, .val (.ref b1), .val (.int (1 : Int32)), .val (.int (0 : Int32)), .val (.int (0 : Int32)), .val (.int (0 : Int32))] [(.ref b1)])) rfl (by rw [hml]; rfl) (Steps.refl _) (argsL := []) (rest := []) (lenOf pd_6 rfl) rfl (by show 2 * 0 + _ ≤ _; exact Nat.le_of_eq rfl) (hb hby at_161) (fun vm₁ hw₁ => ⟨rfl, eh5, (by decide : 5 + 1 ≤ _), (by decide : 62 + 0 ≤ _)⟩)
      dsimp only [Pt.U, Pt.locs, Pt.cells, Pt.slots] at X6 l6 y6 z6 st6 hQ6
      subst l6 y6 z6
      obtain ⟨b2_3_2_6, k2_3_2_6, rfl, M6, K6c, r6_0, r6_1, r6_2, r6_3⟩ := hQ6
      have N6 := Fr.app N5 M6
      have g_b2_3_2_6 : n0 ≤ b2_3_2_6 := Nat.le_trans (own_n0 O3) r6_0
      have O6 : Old Z n0 T6.heap := O3.keep K6c (allS g_b2_3 all0)
      refine Go.tr st6 ?_
      show Go p e below _ (T6.setTop (mkF m 164 #[.val (.long i0), .second, .val (.int i1), .val (.int i2), .val (.int (i2 &&& (3 : Int32))), .val (.long qlen), .second, .val (.ref b1), .val (.int (1 : Int32)), .val (.int (0 : Int32)), .val (.int (0 : Int32)), .val (.int (0 : Int32))] [(.ref b2_3_2_6)]))
      obtain ⟨cl7, Ar7, -, S7, M7, -, -⟩ := id r6_1
      refine Go.st (fun t k => X6.arraylength hx Ar7.1 (State.isArrayOf_alike hZ.alike Ar7.2.1) (g := (mkF m 164 #[.val (.long i0), .second, .val (.int i1), .val (.int i2), .val (.int (i2 &&& (3 : Int32))), .val (.long qlen), .second, .val (.ref b1), .val (.int (1 : Int32)), .val (.int (0 : Int32)), .val (.int (0 : Int32)), .val (.int (0 : Int32))] [(.ref b2_3_2_6)])) rfl rfl (hb hby at_164) t k) ?_
      rw [len_of S7 M7]
      show Go p e below _ (T6.setTop (mkF m 165 #[.val (.long i0), .second, .val (.int i1), .val (.int i2), .val (.int (i2 &&& (3 : Int32))), .val (.long qlen), .second, .val (.ref b1), .val (.int (1 : Int32)), .val (.int (0 : Int32)), .val (.int (0 : Int32)), .val (.int (0 : Int32))] [(.int (0 : Int32))]))
      refine Go.st (fun t k => XS.ifNo X6.here hx rfl (hb hby at_165) rfl (Jvm.Free.XT.i0_ne_f (by decide : (0 : Int32) = (0 : Int32))) k) ?_
      show Go p e below _ (T6.setTop (mkF m 168 #[.val (.long i0), .second, .val (.int i1), .val (.int i2), .val (.int (i2 &&& (3 : Int32))), .val (.long qlen), .second, .val (.ref b1), .val (.int (1 : Int32)), .val (.int (0 : Int32)), .val (.int (0 : Int32)), .val (.int (0 : Int32))] []))
      refine Go.st (fun t k => XS.iconst X6.here hx rfl (hb hby at_168) k) ?_
      show Go p e below _ (T6.setTop (mkF m 169 #[.val (.long i0), .second, .val (.int i1), .val (.int i2), .val (.int (i2 &&& (3 : Int32))), .val (.long qlen), .second, .val (.ref b1), .val (.int (1 : Int32)), .val (.int (0 : Int32)), .val (.int (0 : Int32)), .val (.int (0 : Int32))] [(.int (1 : Int32))]))
      refine Go.st (fun t k => XS.goto X6.here hx rfl (pc0 := 169) (pc' := 173) rfl (hb hby at_169) (by decide) (by decide) k) ?_
      show Go p e below _ (T6.setTop (mkF m 173 #[.val (.long i0), .second, .val (.int i1), .val (.int i2), .val (.int (i2 &&& (3 : Int32))), .val (.long qlen), .second, .val (.ref b1), .val (.int (1 : Int32)), .val (.int (0 : Int32)), .val (.int (0 : Int32)), .val (.int (0 : Int32))] [(.int (1 : Int32))]))
      obtain ⟨fs, hr, hrun, hended, hWd, hsame⟩ := X6.leave (v := some (.int (1 : Int32))) (fun h => by rw [Bd.returns] at h; cases h)
      refine ⟨_, _, ?_, hrun, hended, _, _, rfl, ?_, ⟨⟨_, rfl⟩, hWd, hsame.mono (by decide) (by decide)⟩⟩
      · exact retN X6 hx (t := .boolean) Bd.returns (by simp) (hb hby at_173) hr
      · exact ⟨rfl, N6⟩
    · by_cases hc8 : (i1.toInt64) < qlen
      · by_cases hc9 : qlen = (0 : Int64)
        · obtain ⟨_, _, ⟨T10, L10, k10, n10⟩, -, X10, ⟨Lc10, hQ10, l10, y10, z10⟩, st10⟩ := X1.specialBack hx (y := (⟨"com/example/outbound_courier/outboundcourier/http/BodyReader", "<init>", "(JI)V"⟩ : MethodName)) rfl hown (mvT hZ (w3 hw)) (mvT hZ (w4 hw)) (mvT hZ (w5 hw)) (by decide) (backOf (W := 1) (rm1_2 l Z a0 hw [] b1 qlen i1 w23i w11a w15a h1 n0 O1 A1 f1_30 g_b1 Y25 Y32 f1_51 f1_53 hc2 f1_56 f1_58 Y13 f1_63 hc8 f1_78 hc9 Y17) hZ (w5 hw) (w2 hw) (by decide) (by decide)) (g := (mkF m 62 #[.val (.long i0), .second, .val (.int i1), .val (.int i2), .val (.int (i2 &&& (3 : Int32))), .val (.long qlen), .second, .unset, .unset, .unset, .unset, .unset] [(.int i1), (.long qlen), (.ref b1), (.ref b1)])) rfl (by rw [hml]; rfl) (Steps.refl _) (a := b1) (argsL := [(.long qlen), (.int i1)]) (rest := [(.ref b1)]) (lenOf pd_2 rfl) rfl (by show 2 * 0 + _ ≤ _; exact Nat.le_of_eq rfl) (hb hby at_62) (fun vm₁ hw₁ => ⟨rfl, e1, (by decide : 1 + 4 ≤ _), (by decide : 8 + 54 ≤ _)⟩)
          dsimp only [Pt.U, Pt.locs, Pt.cells, Pt.slots] at X10 l10 y10 z10 st10 hQ10
          subst l10 y10 z10
          obtain ⟨b2_10, b2_1_3_10, b6_10, b3_1_7_10, k2_1_3_10, k3_1_7_10, rfl, M10, K10c, r10_0, r10_1, r10_2, r10_3, r10_4, r10_5, r10_6, r10_7, r10_8, r10_9, r10_10, r10_11, r10_12, r10_13, r10_14, r10_15, r10_16, r10_17, r10_18, r10_19, r10_20, r10_21, r10_22, r10_23, r10_24, r10_25⟩ := hQ10
          have N10 := Fr.app N0 M10
          have g_b2_10 : n0 ≤ b2_10 := Nat.le_trans (own_n0 O1) r10_0
          have g_b2_1_3_10 : n0 ≤ b2_1_3_10 := Nat.le_trans (own_n0 O1) r10_1
          have g_b6_10 : n0 ≤ b6_10 := Nat.le_trans (own_n0 O1) r10_2
          have g_b3_1_7_10 : n0 ≤ b3_1_7_10 := Nat.le_trans (own_n0 O1) r10_3
          have O10 : Old Z n0 T10.heap := O1.keep K10c (allS g_b1 all0)
          refine Go.tr st10 ?_
          show Go p e below _ (T10.setTop (mkF m 65 #[.val (.long i0), .second, .val (.int i1), .val (.int i2), .val (.int (i2 &&& (3 : Int32))), .val (.long qlen), .second, .unset, .unset, .unset, .unset, .unset] [(.ref b1)]))
          refine Go.st (fun t k => XS.astore X10.here hx rfl (hb hby at_65) rfl rfl (l' := #[.val (.long i0), .second, .val (.int i1), .val (.int i2), .val (.int (i2 &&& (3 : Int32))), .val (.long qlen), .second, .val (.ref b1), .unset, .unset, .unset, .unset]) rfl k) ?_
          show Go p e below _ (T10.setTop (mkF m 67 #[.val (.long i0), .second, .val (.int i1), .val (.int i2), .val (.int (i2 &&& (3 : Int32))), .val (.long qlen), .second, .val (.ref b1), .unset, .unset, .unset, .unset] []))
          refine Go.st (fun t k => XS.lload X10.here hx rfl (hb hby at_67) rfl k) ?_
          show Go p e below _ (T10.setTop (mkF m 69 #[.val (.long i0), .second, .val (.int i1), .val (.int i2), .val (.int (i2 &&& (3 : Int32))), .val (.long qlen), .second, .val (.ref b1), .unset, .unset, .unset, .unset] [(.long qlen)]))
          refine Go.st (fun t k => X10.ldc2J hx hown (mvT hZ (w66 hw)) (g := (mkF m 69 #[.val (.long i0), .second, .val (.int i1), .val (.int i2), .val (.int (i2 &&& (3 : Int32))), .val (.long qlen), .second, .val (.ref b1), .unset, .unset, .unset, .unset] [(.long qlen)])) rfl (hb hby at_69) k) ?_
          show Go p e below _ (T10.setTop (mkF m 72 #[.val (.long i0), .second, .val (.int i1), .val (.int i2), .val (.int (i2 &&& (3 : Int32))), .val (.long qlen), .second, .val (.ref b1), .unset, .unset, .unset, .unset] [(.long (-1 : Int64)), (.long qlen)]))
          refine Go.st (fun t k => Jvm.Free.XT.lcmp X10.here hx rfl (hb hby at_72) rfl k) ?_
          show Go p e below _ (T10.setTop (mkF m 73 #[.val (.long i0), .second, .val (.int i1), .val (.int i2), .val (.int (i2 &&& (3 : Int32))), .val (.long qlen), .second, .val (.ref b1), .unset, .unset, .unset, .unset] [(.int (Jvm.Free.XT.cmpL qlen (-1 : Int64)))]))
          refine Go.st (fun t k => XS.ifYes X10.here hx rfl (pc0 := 73) (pc' := 80) rfl (hb hby at_73) rfl (Jvm.Free.XT.ll_ne_t hc2) (by decide) (by decide) k) ?_
          show Go p e below _ (T10.setTop (mkF m 80 #[.val (.long i0), .second, .val (.int i1), .val (.int i2), .val (.int (i2 &&& (3 : Int32))), .val (.long qlen), .second, .val (.ref b1), .unset, .unset, .unset, .unset] []))
          refine Go.st (fun t k => XS.iconst X10.here hx rfl (hb hby at_80) k) ?_
          show Go p e below _ (T10.setTop (mkF m 81 #[.val (.long i0), .second, .val (.int i1), .val (.int i2), .val (.int (i2 &&& (3 : Int32))), .val (.long qlen), .second, .val (.ref b1), .unset, .unset, .unset, .unset] [(.int (0 : Int32))]))
          refine Go.st (fun t k => XS.istore X10.here hx rfl (hb hby at_81) rfl (l' := #[.val (.long i0), .second, .val (.int i1), .val (.int i2), .val (.int (i2 &&& (3 : Int32))), .val (.long qlen), .second, .val (.ref b1), .val (.int (0 : Int32)), .unset, .unset, .unset]) rfl k) ?_
          show Go p e below _ (T10.setTop (mkF m 83 #[.val (.long i0), .second, .val (.int i1), .val (.int i2), .val (.int (i2 &&& (3 : Int32))), .val (.long qlen), .second, .val (.ref b1), .val (.int (0 : Int32)), .unset, .unset, .unset] []))
          refine Go.st (fun t k => XS.iload X10.here hx rfl (hb hby at_83) rfl k) ?_
          show Go p e below _ (T10.setTop (mkF m 85 #[.val (.long i0), .second, .val (.int i1), .val (.int i2), .val (.int (i2 &&& (3 : Int32))), .val (.long qlen), .second, .val (.ref b1), .val (.int (0 : Int32)), .unset, .unset, .unset] [(.int (0 : Int32))]))
          refine Go.st (fun t k => XS.ifNo X10.here hx rfl (hb hby at_85) rfl (Jvm.Free.XT.i0_ne_f (by decide : (0 : Int32) = (0 : Int32))) k) ?_
          show Go p e below _ (T10.setTop (mkF m 88 #[.val (.long i0), .second, .val (.int i1), .val (.int i2), .val (.int (i2 &&& (3 : Int32))), .val (.long qlen), .second, .val (.ref b1), .val (.int (0 : Int32)), .unset, .unset, .unset] []))
          refine Go.st (fun t k => XS.lload X10.here hx rfl (hb hby at_88) rfl k) ?_
          show Go p e below _ (T10.setTop (mkF m 90 #[.val (.long i0), .second, .val (.int i1), .val (.int i2), .val (.int (i2 &&& (3 : Int32))), .val (.long qlen), .second, .val (.ref b1), .val (.int (0 : Int32)), .unset, .unset, .unset] [(.long qlen)]))
          refine Go.st (fun t k => XS.iloadN X10.here hx rfl (hb hby at_90) rfl k) ?_
          show Go p e below _ (T10.setTop (mkF m 91 #[.val (.long i0), .second, .val (.int i1), .val (.int i2), .val (.int (i2 &&& (3 : Int32))), .val (.long qlen), .second, .val (.ref b1), .val (.int (0 : Int32)), .unset, .unset, .unset] [(.int i1), (.long qlen)]))
          refine Go.st (fun t k => XS.i2l X10.here hx rfl (hb hby at_91) rfl k) ?_
          show Go p e below _ (T10.setTop (mkF m 92 #[.val (.long i0), .second, .val (.int i1), .val (.int i2), .val (.int (i2 &&& (3 : Int32))), .val (.long qlen), .second, .val (.ref b1), .val (.int (0 : Int32)), .unset, .unset, .unset] [(.long (i1.toInt64)), (.long qlen)]))
          refine Go.st (fun t k => Jvm.Free.XT.lcmp X10.here hx rfl (hb hby at_92) rfl k) ?_
          show Go p e below _ (T10.setTop (mkF m 93 #[.val (.long i0), .second, .val (.int i1), .val (.int i2), .val (.int (i2 &&& (3 : Int32))), .val (.long qlen), .second, .val (.ref b1), .val (.int (0 : Int32)), .unset, .unset, .unset] [(.int (Jvm.Free.XT.cmpL qlen (i1.toInt64)))]))
          refine Go.st (fun t k => XS.ifNo X10.here hx rfl (hb hby at_93) rfl (Jvm.Free.XT.ll_le_f hc8) k) ?_
          show Go p e below _ (T10.setTop (mkF m 96 #[.val (.long i0), .second, .val (.int i1), .val (.int i2), .val (.int (i2 &&& (3 : Int32))), .val (.long qlen), .second, .val (.ref b1), .val (.int (0 : Int32)), .unset, .unset, .unset] []))
          refine Go.st (fun t k => XS.iconst X10.here hx rfl (hb hby at_96) k) ?_
          show Go p e below _ (T10.setTop (mkF m 97 #[.val (.long i0), .second, .val (.int i1), .val (.int i2), .val (.int (i2 &&& (3 : Int32))), .val (.long qlen), .second, .val (.ref b1), .val (.int (0 : Int32)), .unset, .unset, .unset] [(.int (1 : Int32))]))
          refine Go.st (fun t k => XS.goto X10.here hx rfl (pc0 := 97) (pc' := 101) rfl (hb hby at_97) (by decide) (by decide) k) ?_
          show Go p e below _ (T10.setTop (mkF m 101 #[.val (.long i0), .second, .val (.int i1), .val (.int i2), .val (.int (i2 &&& (3 : Int32))), .val (.long qlen), .second, .val (.ref b1), .val (.int (0 : Int32)), .unset, .unset, .unset] [(.int (1 : Int32))]))
          refine Go.st (fun t k => XS.istore X10.here hx rfl (hb hby at_101) rfl (l' := #[.val (.long i0), .second, .val (.int i1), .val (.int i2), .val (.int (i2 &&& (3 : Int32))), .val (.long qlen), .second, .val (.ref b1), .val (.int (0 : Int32)), .val (.int (1 : Int32)), .unset, .unset]) rfl k) ?_
          show Go p e below _ (T10.setTop (mkF m 103 #[.val (.long i0), .second, .val (.int i1), .val (.int i2), .val (.int (i2 &&& (3 : Int32))), .val (.long qlen), .second, .val (.ref b1), .val (.int (0 : Int32)), .val (.int (1 : Int32)), .unset, .unset] []))
          refine Go.st (fun t k => XS.iload X10.here hx rfl (hb hby at_103) rfl k) ?_
          show Go p e below _ (T10.setTop (mkF m 105 #[.val (.long i0), .second, .val (.int i1), .val (.int i2), .val (.int (i2 &&& (3 : Int32))), .val (.long qlen), .second, .val (.ref b1), .val (.int (0 : Int32)), .val (.int (1 : Int32)), .unset, .unset] [(.int (0 : Int32))]))
          refine Go.st (fun t k => XS.ifNo X10.here hx rfl (hb hby at_105) rfl (Jvm.Free.XT.i0_ne_f (by decide : (0 : Int32) = (0 : Int32))) k) ?_
          show Go p e below _ (T10.setTop (mkF m 108 #[.val (.long i0), .second, .val (.int i1), .val (.int i2), .val (.int (i2 &&& (3 : Int32))), .val (.long qlen), .second, .val (.ref b1), .val (.int (0 : Int32)), .val (.int (1 : Int32)), .unset, .unset] []))
          refine Go.st (fun t k => XS.lload X10.here hx rfl (hb hby at_108) rfl k) ?_
          show Go p e below _ (T10.setTop (mkF m 110 #[.val (.long i0), .second, .val (.int i1), .val (.int i2), .val (.int (i2 &&& (3 : Int32))), .val (.long qlen), .second, .val (.ref b1), .val (.int (0 : Int32)), .val (.int (1 : Int32)), .unset, .unset] [(.long qlen)]))
          refine Go.st (fun t k => XS.lconst X10.here hx rfl (hb hby at_110) k) ?_
          show Go p e below _ (T10.setTop (mkF m 111 #[.val (.long i0), .second, .val (.int i1), .val (.int i2), .val (.int (i2 &&& (3 : Int32))), .val (.long qlen), .second, .val (.ref b1), .val (.int (0 : Int32)), .val (.int (1 : Int32)), .unset, .unset] [(.long (0 : Int64)), (.long qlen)]))
          refine Go.st (fun t k => Jvm.Free.XT.lcmp X10.here hx rfl (hb hby at_111) rfl k) ?_
          show Go p e below _ (T10.setTop (mkF m 112 #[.val (.long i0), .second, .val (.int i1), .val (.int i2), .val (.int (i2 &&& (3 : Int32))), .val (.long qlen), .second, .val (.ref b1), .val (.int (0 : Int32)), .val (.int (1 : Int32)), .unset, .unset] [(.int (Jvm.Free.XT.cmpL qlen (0 : Int64)))]))
          refine Go.st (fun t k => XS.ifNo X10.here hx rfl (hb hby at_112) rfl (Jvm.Free.XT.ll_ne_f hc9) k) ?_
          show Go p e below _ (T10.setTop (mkF m 115 #[.val (.long i0), .second, .val (.int i1), .val (.int i2), .val (.int (i2 &&& (3 : Int32))), .val (.long qlen), .second, .val (.ref b1), .val (.int (0 : Int32)), .val (.int (1 : Int32)), .unset, .unset] []))
          refine Go.st (fun t k => XS.iconst X10.here hx rfl (hb hby at_115) k) ?_
          show Go p e below _ (T10.setTop (mkF m 116 #[.val (.long i0), .second, .val (.int i1), .val (.int i2), .val (.int (i2 &&& (3 : Int32))), .val (.long qlen), .second, .val (.ref b1), .val (.int (0 : Int32)), .val (.int (1 : Int32)), .unset, .unset] [(.int (1 : Int32))]))
          refine Go.st (fun t k => XS.goto X10.here hx rfl (pc0 := 116) (pc' := 120) rfl (hb hby at_116) (by decide) (by decide) k) ?_
          show Go p e below _ (T10.setTop (mkF m 120 #[.val (.long i0), .second, .val (.int i1), .val (.int i2), .val (.int (i2 &&& (3 : Int32))), .val (.long qlen), .second, .val (.ref b1), .val (.int (0 : Int32)), .val (.int (1 : Int32)), .unset, .unset] [(.int (1 : Int32))]))
          refine Go.st (fun t k => XS.istore X10.here hx rfl (hb hby at_120) rfl (l' := #[.val (.long i0), .second, .val (.int i1), .val (.int i2), .val (.int (i2 &&& (3 : Int32))), .val (.long qlen), .second, .val (.ref b1), .val (.int (0 : Int32)), .val (.int (1 : Int32)), .val (.int (1 : Int32)), .unset]) rfl k) ?_
          show Go p e below _ (T10.setTop (mkF m 122 #[.val (.long i0), .second, .val (.int i1), .val (.int i2), .val (.int (i2 &&& (3 : Int32))), .val (.long qlen), .second, .val (.ref b1), .val (.int (0 : Int32)), .val (.int (1 : Int32)), .val (.int (1 : Int32)), .unset] []))
          refine Go.st (fun t k => XS.iload X10.here hx rfl (hb hby at_122) rfl k) ?_
          show Go p e below _ (T10.setTop (mkF m 124 #[.val (.long i0), .second, .val (.int i1), .val (.int i2), .val (.int (i2 &&& (3 : Int32))), .val (.long qlen), .second, .val (.ref b1), .val (.int (0 : Int32)), .val (.int (1 : Int32)), .val (.int (1 : Int32)), .unset] [(.int (1 : Int32))]))
          refine Go.st (fun t k => XS.ifYes X10.here hx rfl (pc0 := 124) (pc' := 132) rfl (hb hby at_124) rfl (Jvm.Free.XT.i0_ne_t (by decide : ¬ ((1 : Int32) = (0 : Int32)))) (by decide) (by decide) k) ?_
          show Go p e below _ (T10.setTop (mkF m 132 #[.val (.long i0), .second, .val (.int i1), .val (.int i2), .val (.int (i2 &&& (3 : Int32))), .val (.long qlen), .second, .val (.ref b1), .val (.int (0 : Int32)), .val (.int (1 : Int32)), .val (.int (1 : Int32)), .unset] []))
          refine Go.st (fun t k => XS.iconst X10.here hx rfl (hb hby at_132) k) ?_
          show Go p e below _ (T10.setTop (mkF m 133 #[.val (.long i0), .second, .val (.int i1), .val (.int i2), .val (.int (i2 &&& (3 : Int32))), .val (.long qlen), .second, .val (.ref b1), .val (.int (0 : Int32)), .val (.int (1 : Int32)), .val (.int (1 : Int32)), .unset] [(.int (1 : Int32))]))
          refine Go.st (fun t k => XS.goto X10.here hx rfl (pc0 := 133) (pc' := 137) rfl (hb hby at_133) (by decide) (by decide) k) ?_
          show Go p e below _ (T10.setTop (mkF m 137 #[.val (.long i0), .second, .val (.int i1), .val (.int i2), .val (.int (i2 &&& (3 : Int32))), .val (.long qlen), .second, .val (.ref b1), .val (.int (0 : Int32)), .val (.int (1 : Int32)), .val (.int (1 : Int32)), .unset] [(.int (1 : Int32))]))
          refine Go.st (fun t k => XS.istore X10.here hx rfl (hb hby at_137) rfl (l' := #[.val (.long i0), .second, .val (.int i1), .val (.int i2), .val (.int (i2 &&& (3 : Int32))), .val (.long qlen), .second, .val (.ref b1), .val (.int (0 : Int32)), .val (.int (1 : Int32)), .val (.int (1 : Int32)), .val (.int (1 : Int32))]) rfl k) ?_
          show Go p e below _ (T10.setTop (mkF m 139 #[.val (.long i0), .second, .val (.int i1), .val (.int i2), .val (.int (i2 &&& (3 : Int32))), .val (.long qlen), .second, .val (.ref b1), .val (.int (0 : Int32)), .val (.int (1 : Int32)), .val (.int (1 : Int32)), .val (.int (1 : Int32))] []))
          refine Go.st (fun t k => XS.aload X10.here hx rfl (hb hby at_139) rfl rfl k) ?_
          show Go p e below _ (T10.setTop (mkF m 141 #[.val (.long i0), .second, .val (.int i1), .val (.int i2), .val (.int (i2 &&& (3 : Int32))), .val (.long qlen), .second, .val (.ref b1), .val (.int (0 : Int32)), .val (.int (1 : Int32)), .val (.int (1 : Int32)), .val (.int (1 : Int32))] [(.ref b1)]))
          obtain ⟨cq11, kq11, q11a, q11b, q11c⟩ := isOf hZ rfl (A1.keep K10c)
          obtain ⟨_, _, ⟨T11, L11, k11, n11⟩, -, X11, ⟨Lc11, hQ11, l11, y11, z11⟩, st11⟩ := X10.virtualBack hx (y := (⟨"com/example/outbound_courier/outboundcourier/http/BodyReader", "isDone", "()Z"⟩ : MethodName)) (z := (⟨"com/example/outbound_courier/outboundcourier/http/BodyReader", "isDone", "()Z"⟩ : MethodName)) hown (mvT hZ (w67 hw)) (mvT hZ (w68 hw)) (notFace_of_selects (args := #[]) (mvT hZ (w70 hw))) (mvT hZ (w70 hw)) (mvT hZ (w69 hw)) (by decide) (backOf (W := 0) (rm8_2 l Z a0 hw [] b1 w15a T10.heap n0 O10 r10_15 Y17) hZ (w71 hw) (w2 hw) (by decide) (by decide)) q11a q11c (g := (mkF m 141 #[.val (.long i0), .second, .val (.int i1), .val (.int i2), .val (.int (i2 &&& (3 : Int32))), .val (.long qlen), .second, .val (.ref b1), .val (.int (0 : Int32)), .val (.int (1 : Int32)), .val (.int (1 : Int32)), .val (.int (1 : Int32))] [(.ref b1)])) rfl (by rw [hml]; rfl) (Steps.refl _) (argsL := []) (rest := []) (lenOf pd_3 rfl) rfl (by show 2 * 0 + _ ≤ _; exact Nat.le_of_eq rfl) (hb hby at_141) (fun vm₁ hw₁ => ⟨rfl, rfl, (by decide : 5 + 0 ≤ _), (by decide : 62 + 0 ≤ _)⟩)
          dsimp only [Pt.U, Pt.locs, Pt.cells, Pt.slots] at X11 l11 y11 z11 st11 hQ11
          subst l11 y11 z11
          obtain ⟨rfl, M11, eh11⟩ := hQ11
          have N11 := Fr.app N10 M11
          refine Go.tr st11 ?_
          show Go p e below _ (T11.setTop (mkF m 144 #[.val (.long i0), .second, .val (.int i1), .val (.int i2), .val (.int (i2 &&& (3 : Int32))), .val (.long qlen), .second, .val (.ref b1), .val (.int (0 : Int32)), .val (.int (1 : Int32)), .val (.int (1 : Int32)), .val (.int (1 : Int32))] [(.int (1 : Int32))]))
          refine Go.st (fun t k => XS.iload X11.here hx rfl (hb hby at_144) rfl k) ?_
          show Go p e below _ (T11.setTop (mkF m 146 #[.val (.long i0), .second, .val (.int i1), .val (.int i2), .val (.int (i2 &&& (3 : Int32))), .val (.long qlen), .second, .val (.ref b1), .val (.int (0 : Int32)), .val (.int (1 : Int32)), .val (.int (1 : Int32)), .val (.int (1 : Int32))] [(.int (1 : Int32)), (.int (1 : Int32))]))
          refine Go.st (fun t k => XS.icmpNo X11.here hx rfl (hb hby at_146) rfl (Jvm.Free.XT.ii_ne_f (by decide : (1 : Int32) = (1 : Int32))) k) ?_
          show Go p e below _ (T11.setTop (mkF m 149 #[.val (.long i0), .second, .val (.int i1), .val (.int i2), .val (.int (i2 &&& (3 : Int32))), .val (.long qlen), .second, .val (.ref b1), .val (.int (0 : Int32)), .val (.int (1 : Int32)), .val (.int (1 : Int32)), .val (.int (1 : Int32))] []))
          refine Go.st (fun t k => XS.aload X11.here hx rfl (hb hby at_149) rfl rfl k) ?_
          show Go p e below _ (T11.setTop (mkF m 151 #[.val (.long i0), .second, .val (.int i1), .val (.int i2), .val (.int (i2 &&& (3 : Int32))), .val (.long qlen), .second, .val (.ref b1), .val (.int (0 : Int32)), .val (.int (1 : Int32)), .val (.int (1 : Int32)), .val (.int (1 : Int32))] [(.ref b1)]))
          obtain ⟨cq12, kq12, q12a, q12b, q12c⟩ := isOf hZ eh11 (A1.keep K10c)
          obtain ⟨_, _, ⟨T12, L12, k12, n12⟩, -, X12, ⟨Lc12, hQ12, l12, y12, z12⟩, st12⟩ := X11.virtualBack hx (y := (⟨"com/example/outbound_courier/outboundcourier/http/BodyReader", "isTooLarge", "()Z"⟩ : MethodName)) (z := (⟨"com/example/outbound_courier/outboundcourier/http/BodyReader", "isTooLarge", "()Z"⟩ : MethodName)) hown (mvT hZ (w72 hw)) (mvT hZ (w73 hw)) (notFace_of_selects (args := #[]) (mvT hZ (w75 hw))) (mvT hZ (w75 hw)) (mvT hZ (w74 hw)) (by decide) (backOf (W := 0) (rm9_2 l Z a0 hw [] b1 T10.heap n0 O10 r10_16) hZ (w76 hw) (w2 hw) (by decide) (by decide)) q12a q12c (g := (mkF m 151 #[.val (.long i0), .second, .val (.int i1), .val (.int i2), .val (.int (i2 &&& (3 : Int32))), .val (.long qlen), .second, .val (.ref b1), .val (.int (0 : Int32)), .val (.int (1 : Int32)), .val (.int (1 : Int32)), .val (.int (1 : Int32))] [(.ref b1)])) rfl (by rw [hml]; rfl) (Steps.refl _) (argsL := []) (rest := []) (lenOf pd_3 rfl) rfl (by show 2 * 0 + _ ≤ _; exact Nat.le_of_eq rfl) (hb hby at_151) (fun vm₁ hw₁ => ⟨rfl, eh11, (by decide : 5 + 0 ≤ _), (by decide : 62 + 0 ≤ _)⟩)
          dsimp only [Pt.U, Pt.locs, Pt.cells, Pt.slots] at X12 l12 y12 z12 st12 hQ12
          subst l12 y12 z12
          obtain ⟨rfl, M12, eh12⟩ := hQ12
          have N12 := Fr.app N11 M12
          refine Go.tr st12 ?_
          show Go p e below _ (T12.setTop (mkF m 154 #[.val (.long i0), .second, .val (.int i1), .val (.int i2), .val (.int (i2 &&& (3 : Int32))), .val (.long qlen), .second, .val (.ref b1), .val (.int (0 : Int32)), .val (.int (1 : Int32)), .val (.int (1 : Int32)), .val (.int (1 : Int32))] [(.int (1 : Int32))]))
          refine Go.st (fun t k => XS.iload X12.here hx rfl (hb hby at_154) rfl k) ?_
          show Go p e below _ (T12.setTop (mkF m 156 #[.val (.long i0), .second, .val (.int i1), .val (.int i2), .val (.int (i2 &&& (3 : Int32))), .val (.long qlen), .second, .val (.ref b1), .val (.int (0 : Int32)), .val (.int (1 : Int32)), .val (.int (1 : Int32)), .val (.int (1 : Int32))] [(.int (1 : Int32)), (.int (1 : Int32))]))
          refine Go.st (fun t k => XS.icmpNo X12.here hx rfl (hb hby at_156) rfl (Jvm.Free.XT.ii_ne_f (by decide : (1 : Int32) = (1 : Int32))) k) ?_
          show Go p e below _ (T12.setTop (mkF m 159 #[.val (.long i0), .second, .val (.int i1), .val (.int i2), .val (.int (i2 &&& (3 : Int32))), .val (.long qlen), .second, .val (.ref b1), .val (.int (0 : Int32)), .val (.int (1 : Int32)), .val (.int (1 : Int32)), .val (.int (1 : Int32))] []))
          refine Go.st (fun t k => XS.aload X12.here hx rfl (hb hby at_159) rfl rfl k) ?_
          show Go p e below _ (T12.setTop (mkF m 161 #[.val (.long i0), .second, .val (.int i1), .val (.int i2), .val (.int (i2 &&& (3 : Int32))), .val (.long qlen), .second, .val (.ref b1), .val (.int (0 : Int32)), .val (.int (1 : Int32)), .val (.int (1 : Int32)), .val (.int (1 : Int32))] [(.ref b1)]))
          obtain ⟨cq13, kq13, q13a, q13b, q13c⟩ := isOf hZ eh12 (A1.keep K10c)
          obtain ⟨_, _, ⟨T13, L13, k13, n13⟩, -, X13, ⟨Lc13, hQ13, l13, y13, z13⟩, st13⟩ := X12.virtualBack hx (y := (⟨"com/example/outbound_courier/outboundcourier/http/BodyReader", "body", "()[B"⟩ : MethodName)) (z := (⟨"com/example/outbound_courier/outboundcourier/http/BodyReader", "body", "()[B"⟩ : MethodName)) hown (mvT hZ (w79 hw)) (mvT hZ (w80 hw)) (notFace_of_selects (args := #[]) (mvT hZ (w82 hw))) (mvT hZ (w82 hw)) (mvT hZ (w81 hw)) (by decide) (backOf (W := 0) (rm10_1 l Z a0 hw [] b1 b2_10 b2_1_3_10 k2_1_3_10 T10.heap n0 O10 r10_10 r10_17 g_b2_10 r10_19 r10_20 r10_24 r10_18) hZ (w83 hw) (w2 hw) (by decide) (by decide)) q13a q13c (g := (mkF m 161 #[.val (.long i0), .second, .val (.int i1), .val (.int i2), .val (.int (i2 &&& (3 : Int32))), .val (.long qlen), .second, .val (.ref b1), .val (.int (0 : Int32)), .val (.int (1 : Int32)), .val (.int (1 : Int32)), .val (.int (1 : Int32))] [(.ref b1)])) rfl (by rw [hml]; rfl) (Steps.refl _) (argsL := []) (rest := []) (lenOf pd_6 rfl) rfl (by show 2 * 0 + _ ≤ _; exact Nat.le_of_eq rfl) (hb hby at_161) (fun vm₁ hw₁ => ⟨rfl, eh12, (by decide : 5 + 1 ≤ _), (by decide : 62 + 0 ≤ _)⟩)
          dsimp only [Pt.U, Pt.locs, Pt.cells, Pt.slots] at X13 l13 y13 z13 st13 hQ13
          subst l13 y13 z13
          obtain ⟨b2_3_2_13, k2_3_2_13, rfl, M13, K13c, r13_0, r13_1, r13_2, r13_3⟩ := hQ13
          have N13 := Fr.app N12 M13
          have g_b2_3_2_13 : n0 ≤ b2_3_2_13 := Nat.le_trans (own_n0 O10) r13_0
          have O13 : Old Z n0 T13.heap := O10.keep K13c (allS g_b2_10 all0)
          refine Go.tr st13 ?_
          show Go p e below _ (T13.setTop (mkF m 164 #[.val (.long i0), .second, .val (.int i1), .val (.int i2), .val (.int (i2 &&& (3 : Int32))), .val (.long qlen), .second, .val (.ref b1), .val (.int (0 : Int32)), .val (.int (1 : Int32)), .val (.int (1 : Int32)), .val (.int (1 : Int32))] [(.ref b2_3_2_13)]))
          obtain ⟨cl14, Ar14, -, S14, M14, -, -⟩ := id r13_1
          refine Go.st (fun t k => X13.arraylength hx Ar14.1 (State.isArrayOf_alike hZ.alike Ar14.2.1) (g := (mkF m 164 #[.val (.long i0), .second, .val (.int i1), .val (.int i2), .val (.int (i2 &&& (3 : Int32))), .val (.long qlen), .second, .val (.ref b1), .val (.int (0 : Int32)), .val (.int (1 : Int32)), .val (.int (1 : Int32)), .val (.int (1 : Int32))] [(.ref b2_3_2_13)])) rfl rfl (hb hby at_164) t k) ?_
          rw [len_of S14 M14]
          show Go p e below _ (T13.setTop (mkF m 165 #[.val (.long i0), .second, .val (.int i1), .val (.int i2), .val (.int (i2 &&& (3 : Int32))), .val (.long qlen), .second, .val (.ref b1), .val (.int (0 : Int32)), .val (.int (1 : Int32)), .val (.int (1 : Int32)), .val (.int (1 : Int32))] [(.int (0 : Int32))]))
          refine Go.st (fun t k => XS.ifNo X13.here hx rfl (hb hby at_165) rfl (Jvm.Free.XT.i0_ne_f (by decide : (0 : Int32) = (0 : Int32))) k) ?_
          show Go p e below _ (T13.setTop (mkF m 168 #[.val (.long i0), .second, .val (.int i1), .val (.int i2), .val (.int (i2 &&& (3 : Int32))), .val (.long qlen), .second, .val (.ref b1), .val (.int (0 : Int32)), .val (.int (1 : Int32)), .val (.int (1 : Int32)), .val (.int (1 : Int32))] []))
          refine Go.st (fun t k => XS.iconst X13.here hx rfl (hb hby at_168) k) ?_
          show Go p e below _ (T13.setTop (mkF m 169 #[.val (.long i0), .second, .val (.int i1), .val (.int i2), .val (.int (i2 &&& (3 : Int32))), .val (.long qlen), .second, .val (.ref b1), .val (.int (0 : Int32)), .val (.int (1 : Int32)), .val (.int (1 : Int32)), .val (.int (1 : Int32))] [(.int (1 : Int32))]))
          refine Go.st (fun t k => XS.goto X13.here hx rfl (pc0 := 169) (pc' := 173) rfl (hb hby at_169) (by decide) (by decide) k) ?_
          show Go p e below _ (T13.setTop (mkF m 173 #[.val (.long i0), .second, .val (.int i1), .val (.int i2), .val (.int (i2 &&& (3 : Int32))), .val (.long qlen), .second, .val (.ref b1), .val (.int (0 : Int32)), .val (.int (1 : Int32)), .val (.int (1 : Int32)), .val (.int (1 : Int32))] [(.int (1 : Int32))]))
          obtain ⟨fs, hr, hrun, hended, hWd, hsame⟩ := X13.leave (v := some (.int (1 : Int32))) (fun h => by rw [Bd.returns] at h; cases h)
          refine ⟨_, _, ?_, hrun, hended, _, _, rfl, ?_, ⟨⟨_, rfl⟩, hWd, hsame.mono (by decide) (by decide)⟩⟩
          · exact retN X13 hx (t := .boolean) Bd.returns (by simp) (hb hby at_173) hr
          · exact ⟨rfl, N13⟩
        · obtain ⟨_, _, ⟨T15, L15, k15, n15⟩, -, X15, ⟨Lc15, hQ15, l15, y15, z15⟩, st15⟩ := X1.specialBack hx (y := (⟨"com/example/outbound_courier/outboundcourier/http/BodyReader", "<init>", "(JI)V"⟩ : MethodName)) rfl hown (mvT hZ (w3 hw)) (mvT hZ (w4 hw)) (mvT hZ (w5 hw)) (by decide) (backOf (W := 1) (rm1_3 l Z a0 hw [] b1 qlen i1 w23i w11a h1 n0 O1 A1 f1_30 g_b1 Y25 Y32 f1_51 f1_53 hc2 f1_56 f1_58 Y13 f1_63 hc8 f1_78 hc9) hZ (w5 hw) (w2 hw) (by decide) (by decide)) (g := (mkF m 62 #[.val (.long i0), .second, .val (.int i1), .val (.int i2), .val (.int (i2 &&& (3 : Int32))), .val (.long qlen), .second, .unset, .unset, .unset, .unset, .unset] [(.int i1), (.long qlen), (.ref b1), (.ref b1)])) rfl (by rw [hml]; rfl) (Steps.refl _) (a := b1) (argsL := [(.long qlen), (.int i1)]) (rest := [(.ref b1)]) (lenOf pd_2 rfl) rfl (by show 2 * 0 + _ ≤ _; exact Nat.le_of_eq rfl) (hb hby at_62) (fun vm₁ hw₁ => ⟨rfl, e1, (by decide : 1 + 4 ≤ _), (by decide : 8 + 54 ≤ _)⟩)
          dsimp only [Pt.U, Pt.locs, Pt.cells, Pt.slots] at X15 l15 y15 z15 st15 hQ15
          subst l15 y15 z15
          obtain ⟨b2_15, b2_1_3_15, b6_15, b3_1_7_15, k2_1_3_15, k3_1_7_15, rfl, M15, K15c, r15_0, r15_1, r15_2, r15_3, r15_4, r15_5, r15_6, r15_7, r15_8, r15_9, r15_10, r15_11, r15_12, r15_13, r15_14, r15_15, r15_16, r15_17, r15_18, r15_19, r15_20, r15_21, r15_22, r15_23, r15_24, r15_25⟩ := hQ15
          have N15 := Fr.app N0 M15
          have g_b2_15 : n0 ≤ b2_15 := Nat.le_trans (own_n0 O1) r15_0
          have g_b2_1_3_15 : n0 ≤ b2_1_3_15 := Nat.le_trans (own_n0 O1) r15_1
          have g_b6_15 : n0 ≤ b6_15 := Nat.le_trans (own_n0 O1) r15_2
          have g_b3_1_7_15 : n0 ≤ b3_1_7_15 := Nat.le_trans (own_n0 O1) r15_3
          have O15 : Old Z n0 T15.heap := O1.keep K15c (allS g_b1 all0)
          refine Go.tr st15 ?_
          show Go p e below _ (T15.setTop (mkF m 65 #[.val (.long i0), .second, .val (.int i1), .val (.int i2), .val (.int (i2 &&& (3 : Int32))), .val (.long qlen), .second, .unset, .unset, .unset, .unset, .unset] [(.ref b1)]))
          refine Go.st (fun t k => XS.astore X15.here hx rfl (hb hby at_65) rfl rfl (l' := #[.val (.long i0), .second, .val (.int i1), .val (.int i2), .val (.int (i2 &&& (3 : Int32))), .val (.long qlen), .second, .val (.ref b1), .unset, .unset, .unset, .unset]) rfl k) ?_
          show Go p e below _ (T15.setTop (mkF m 67 #[.val (.long i0), .second, .val (.int i1), .val (.int i2), .val (.int (i2 &&& (3 : Int32))), .val (.long qlen), .second, .val (.ref b1), .unset, .unset, .unset, .unset] []))
          refine Go.st (fun t k => XS.lload X15.here hx rfl (hb hby at_67) rfl k) ?_
          show Go p e below _ (T15.setTop (mkF m 69 #[.val (.long i0), .second, .val (.int i1), .val (.int i2), .val (.int (i2 &&& (3 : Int32))), .val (.long qlen), .second, .val (.ref b1), .unset, .unset, .unset, .unset] [(.long qlen)]))
          refine Go.st (fun t k => X15.ldc2J hx hown (mvT hZ (w66 hw)) (g := (mkF m 69 #[.val (.long i0), .second, .val (.int i1), .val (.int i2), .val (.int (i2 &&& (3 : Int32))), .val (.long qlen), .second, .val (.ref b1), .unset, .unset, .unset, .unset] [(.long qlen)])) rfl (hb hby at_69) k) ?_
          show Go p e below _ (T15.setTop (mkF m 72 #[.val (.long i0), .second, .val (.int i1), .val (.int i2), .val (.int (i2 &&& (3 : Int32))), .val (.long qlen), .second, .val (.ref b1), .unset, .unset, .unset, .unset] [(.long (-1 : Int64)), (.long qlen)]))
          refine Go.st (fun t k => Jvm.Free.XT.lcmp X15.here hx rfl (hb hby at_72) rfl k) ?_
          show Go p e below _ (T15.setTop (mkF m 73 #[.val (.long i0), .second, .val (.int i1), .val (.int i2), .val (.int (i2 &&& (3 : Int32))), .val (.long qlen), .second, .val (.ref b1), .unset, .unset, .unset, .unset] [(.int (Jvm.Free.XT.cmpL qlen (-1 : Int64)))]))
          refine Go.st (fun t k => XS.ifYes X15.here hx rfl (pc0 := 73) (pc' := 80) rfl (hb hby at_73) rfl (Jvm.Free.XT.ll_ne_t hc2) (by decide) (by decide) k) ?_
          show Go p e below _ (T15.setTop (mkF m 80 #[.val (.long i0), .second, .val (.int i1), .val (.int i2), .val (.int (i2 &&& (3 : Int32))), .val (.long qlen), .second, .val (.ref b1), .unset, .unset, .unset, .unset] []))
          refine Go.st (fun t k => XS.iconst X15.here hx rfl (hb hby at_80) k) ?_
          show Go p e below _ (T15.setTop (mkF m 81 #[.val (.long i0), .second, .val (.int i1), .val (.int i2), .val (.int (i2 &&& (3 : Int32))), .val (.long qlen), .second, .val (.ref b1), .unset, .unset, .unset, .unset] [(.int (0 : Int32))]))
          refine Go.st (fun t k => XS.istore X15.here hx rfl (hb hby at_81) rfl (l' := #[.val (.long i0), .second, .val (.int i1), .val (.int i2), .val (.int (i2 &&& (3 : Int32))), .val (.long qlen), .second, .val (.ref b1), .val (.int (0 : Int32)), .unset, .unset, .unset]) rfl k) ?_
          show Go p e below _ (T15.setTop (mkF m 83 #[.val (.long i0), .second, .val (.int i1), .val (.int i2), .val (.int (i2 &&& (3 : Int32))), .val (.long qlen), .second, .val (.ref b1), .val (.int (0 : Int32)), .unset, .unset, .unset] []))
          refine Go.st (fun t k => XS.iload X15.here hx rfl (hb hby at_83) rfl k) ?_
          show Go p e below _ (T15.setTop (mkF m 85 #[.val (.long i0), .second, .val (.int i1), .val (.int i2), .val (.int (i2 &&& (3 : Int32))), .val (.long qlen), .second, .val (.ref b1), .val (.int (0 : Int32)), .unset, .unset, .unset] [(.int (0 : Int32))]))
          refine Go.st (fun t k => XS.ifNo X15.here hx rfl (hb hby at_85) rfl (Jvm.Free.XT.i0_ne_f (by decide : (0 : Int32) = (0 : Int32))) k) ?_
          show Go p e below _ (T15.setTop (mkF m 88 #[.val (.long i0), .second, .val (.int i1), .val (.int i2), .val (.int (i2 &&& (3 : Int32))), .val (.long qlen), .second, .val (.ref b1), .val (.int (0 : Int32)), .unset, .unset, .unset] []))
          refine Go.st (fun t k => XS.lload X15.here hx rfl (hb hby at_88) rfl k) ?_
          show Go p e below _ (T15.setTop (mkF m 90 #[.val (.long i0), .second, .val (.int i1), .val (.int i2), .val (.int (i2 &&& (3 : Int32))), .val (.long qlen), .second, .val (.ref b1), .val (.int (0 : Int32)), .unset, .unset, .unset] [(.long qlen)]))
          refine Go.st (fun t k => XS.iloadN X15.here hx rfl (hb hby at_90) rfl k) ?_
          show Go p e below _ (T15.setTop (mkF m 91 #[.val (.long i0), .second, .val (.int i1), .val (.int i2), .val (.int (i2 &&& (3 : Int32))), .val (.long qlen), .second, .val (.ref b1), .val (.int (0 : Int32)), .unset, .unset, .unset] [(.int i1), (.long qlen)]))
          refine Go.st (fun t k => XS.i2l X15.here hx rfl (hb hby at_91) rfl k) ?_
          show Go p e below _ (T15.setTop (mkF m 92 #[.val (.long i0), .second, .val (.int i1), .val (.int i2), .val (.int (i2 &&& (3 : Int32))), .val (.long qlen), .second, .val (.ref b1), .val (.int (0 : Int32)), .unset, .unset, .unset] [(.long (i1.toInt64)), (.long qlen)]))
          refine Go.st (fun t k => Jvm.Free.XT.lcmp X15.here hx rfl (hb hby at_92) rfl k) ?_
          show Go p e below _ (T15.setTop (mkF m 93 #[.val (.long i0), .second, .val (.int i1), .val (.int i2), .val (.int (i2 &&& (3 : Int32))), .val (.long qlen), .second, .val (.ref b1), .val (.int (0 : Int32)), .unset, .unset, .unset] [(.int (Jvm.Free.XT.cmpL qlen (i1.toInt64)))]))
          refine Go.st (fun t k => XS.ifNo X15.here hx rfl (hb hby at_93) rfl (Jvm.Free.XT.ll_le_f hc8) k) ?_
          show Go p e below _ (T15.setTop (mkF m 96 #[.val (.long i0), .second, .val (.int i1), .val (.int i2), .val (.int (i2 &&& (3 : Int32))), .val (.long qlen), .second, .val (.ref b1), .val (.int (0 : Int32)), .unset, .unset, .unset] []))
          refine Go.st (fun t k => XS.iconst X15.here hx rfl (hb hby at_96) k) ?_
          show Go p e below _ (T15.setTop (mkF m 97 #[.val (.long i0), .second, .val (.int i1), .val (.int i2), .val (.int (i2 &&& (3 : Int32))), .val (.long qlen), .second, .val (.ref b1), .val (.int (0 : Int32)), .unset, .unset, .unset] [(.int (1 : Int32))]))
          refine Go.st (fun t k => XS.goto X15.here hx rfl (pc0 := 97) (pc' := 101) rfl (hb hby at_97) (by decide) (by decide) k) ?_
          show Go p e below _ (T15.setTop (mkF m 101 #[.val (.long i0), .second, .val (.int i1), .val (.int i2), .val (.int (i2 &&& (3 : Int32))), .val (.long qlen), .second, .val (.ref b1), .val (.int (0 : Int32)), .unset, .unset, .unset] [(.int (1 : Int32))]))
          refine Go.st (fun t k => XS.istore X15.here hx rfl (hb hby at_101) rfl (l' := #[.val (.long i0), .second, .val (.int i1), .val (.int i2), .val (.int (i2 &&& (3 : Int32))), .val (.long qlen), .second, .val (.ref b1), .val (.int (0 : Int32)), .val (.int (1 : Int32)), .unset, .unset]) rfl k) ?_
          show Go p e below _ (T15.setTop (mkF m 103 #[.val (.long i0), .second, .val (.int i1), .val (.int i2), .val (.int (i2 &&& (3 : Int32))), .val (.long qlen), .second, .val (.ref b1), .val (.int (0 : Int32)), .val (.int (1 : Int32)), .unset, .unset] []))
          refine Go.st (fun t k => XS.iload X15.here hx rfl (hb hby at_103) rfl k) ?_
          show Go p e below _ (T15.setTop (mkF m 105 #[.val (.long i0), .second, .val (.int i1), .val (.int i2), .val (.int (i2 &&& (3 : Int32))), .val (.long qlen), .second, .val (.ref b1), .val (.int (0 : Int32)), .val (.int (1 : Int32)), .unset, .unset] [(.int (0 : Int32))]))
          refine Go.st (fun t k => XS.ifNo X15.here hx rfl (hb hby at_105) rfl (Jvm.Free.XT.i0_ne_f (by decide : (0 : Int32) = (0 : Int32))) k) ?_
          show Go p e below _ (T15.setTop (mkF m 108 #[.val (.long i0), .second, .val (.int i1), .val (.int i2), .val (.int (i2 &&& (3 : Int32))), .val (.long qlen), .second, .val (.ref b1), .val (.int (0 : Int32)), .val (.int (1 : Int32)), .unset, .unset] []))
          refine Go.st (fun t k => XS.lload X15.here hx rfl (hb hby at_108) rfl k) ?_
          show Go p e below _ (T15.setTop (mkF m 110 #[.val (.long i0), .second, .val (.int i1), .val (.int i2), .val (.int (i2 &&& (3 : Int32))), .val (.long qlen), .second, .val (.ref b1), .val (.int (0 : Int32)), .val (.int (1 : Int32)), .unset, .unset] [(.long qlen)]))
          refine Go.st (fun t k => XS.lconst X15.here hx rfl (hb hby at_110) k) ?_
          show Go p e below _ (T15.setTop (mkF m 111 #[.val (.long i0), .second, .val (.int i1), .val (.int i2), .val (.int (i2 &&& (3 : Int32))), .val (.long qlen), .second, .val (.ref b1), .val (.int (0 : Int32)), .val (.int (1 : Int32)), .unset, .unset] [(.long (0 : Int64)), (.long qlen)]))
          refine Go.st (fun t k => Jvm.Free.XT.lcmp X15.here hx rfl (hb hby at_111) rfl k) ?_
          show Go p e below _ (T15.setTop (mkF m 112 #[.val (.long i0), .second, .val (.int i1), .val (.int i2), .val (.int (i2 &&& (3 : Int32))), .val (.long qlen), .second, .val (.ref b1), .val (.int (0 : Int32)), .val (.int (1 : Int32)), .unset, .unset] [(.int (Jvm.Free.XT.cmpL qlen (0 : Int64)))]))
          refine Go.st (fun t k => XS.ifYes X15.here hx rfl (pc0 := 112) (pc' := 119) rfl (hb hby at_112) rfl (Jvm.Free.XT.ll_ne_t hc9) (by decide) (by decide) k) ?_
          show Go p e below _ (T15.setTop (mkF m 119 #[.val (.long i0), .second, .val (.int i1), .val (.int i2), .val (.int (i2 &&& (3 : Int32))), .val (.long qlen), .second, .val (.ref b1), .val (.int (0 : Int32)), .val (.int (1 : Int32)), .unset, .unset] []))
          refine Go.st (fun t k => XS.iconst X15.here hx rfl (hb hby at_119) k) ?_
          show Go p e below _ (T15.setTop (mkF m 120 #[.val (.long i0), .second, .val (.int i1), .val (.int i2), .val (.int (i2 &&& (3 : Int32))), .val (.long qlen), .second, .val (.ref b1), .val (.int (0 : Int32)), .val (.int (1 : Int32)), .unset, .unset] [(.int (0 : Int32))]))
          refine Go.st (fun t k => XS.istore X15.here hx rfl (hb hby at_120) rfl (l' := #[.val (.long i0), .second, .val (.int i1), .val (.int i2), .val (.int (i2 &&& (3 : Int32))), .val (.long qlen), .second, .val (.ref b1), .val (.int (0 : Int32)), .val (.int (1 : Int32)), .val (.int (0 : Int32)), .unset]) rfl k) ?_
          show Go p e below _ (T15.setTop (mkF m 122 #[.val (.long i0), .second, .val (.int i1), .val (.int i2), .val (.int (i2 &&& (3 : Int32))), .val (.long qlen), .second, .val (.ref b1), .val (.int (0 : Int32)), .val (.int (1 : Int32)), .val (.int (0 : Int32)), .unset] []))
          refine Go.st (fun t k => XS.iload X15.here hx rfl (hb hby at_122) rfl k) ?_
          show Go p e below _ (T15.setTop (mkF m 124 #[.val (.long i0), .second, .val (.int i1), .val (.int i2), .val (.int (i2 &&& (3 : Int32))), .val (.long qlen), .second, .val (.ref b1), .val (.int (0 : Int32)), .val (.int (1 : Int32)), .val (.int (0 : Int32)), .unset] [(.int (1 : Int32))]))
          refine Go.st (fun t k => XS.ifYes X15.here hx rfl (pc0 := 124) (pc' := 132) rfl (hb hby at_124) rfl (Jvm.Free.XT.i0_ne_t (by decide : ¬ ((1 : Int32) = (0 : Int32)))) (by decide) (by decide) k) ?_
          show Go p e below _ (T15.setTop (mkF m 132 #[.val (.long i0), .second, .val (.int i1), .val (.int i2), .val (.int (i2 &&& (3 : Int32))), .val (.long qlen), .second, .val (.ref b1), .val (.int (0 : Int32)), .val (.int (1 : Int32)), .val (.int (0 : Int32)), .unset] []))
          refine Go.st (fun t k => XS.iconst X15.here hx rfl (hb hby at_132) k) ?_
          show Go p e below _ (T15.setTop (mkF m 133 #[.val (.long i0), .second, .val (.int i1), .val (.int i2), .val (.int (i2 &&& (3 : Int32))), .val (.long qlen), .second, .val (.ref b1), .val (.int (0 : Int32)), .val (.int (1 : Int32)), .val (.int (0 : Int32)), .unset] [(.int (1 : Int32))]))
          refine Go.st (fun t k => XS.goto X15.here hx rfl (pc0 := 133) (pc' := 137) rfl (hb hby at_133) (by decide) (by decide) k) ?_
          show Go p e below _ (T15.setTop (mkF m 137 #[.val (.long i0), .second, .val (.int i1), .val (.int i2), .val (.int (i2 &&& (3 : Int32))), .val (.long qlen), .second, .val (.ref b1), .val (.int (0 : Int32)), .val (.int (1 : Int32)), .val (.int (0 : Int32)), .unset] [(.int (1 : Int32))]))
          refine Go.st (fun t k => XS.istore X15.here hx rfl (hb hby at_137) rfl (l' := #[.val (.long i0), .second, .val (.int i1), .val (.int i2), .val (.int (i2 &&& (3 : Int32))), .val (.long qlen), .second, .val (.ref b1), .val (.int (0 : Int32)), .val (.int (1 : Int32)), .val (.int (0 : Int32)), .val (.int (1 : Int32))]) rfl k) ?_
          show Go p e below _ (T15.setTop (mkF m 139 #[.val (.long i0), .second, .val (.int i1), .val (.int i2), .val (.int (i2 &&& (3 : Int32))), .val (.long qlen), .second, .val (.ref b1), .val (.int (0 : Int32)), .val (.int (1 : Int32)), .val (.int (0 : Int32)), .val (.int (1 : Int32))] []))
          refine Go.st (fun t k => XS.aload X15.here hx rfl (hb hby at_139) rfl rfl k) ?_
          show Go p e below _ (T15.setTop (mkF m 141 #[.val (.long i0), .second, .val (.int i1), .val (.int i2), .val (.int (i2 &&& (3 : Int32))), .val (.long qlen), .second, .val (.ref b1), .val (.int (0 : Int32)), .val (.int (1 : Int32)), .val (.int (0 : Int32)), .val (.int (1 : Int32))] [(.ref b1)]))
          obtain ⟨cq16, kq16, q16a, q16b, q16c⟩ := isOf hZ rfl (A1.keep K15c)
          obtain ⟨_, _, ⟨T16, L16, k16, n16⟩, -, X16, ⟨Lc16, hQ16, l16, y16, z16⟩, st16⟩ := X15.virtualBack hx (y := (⟨"com/example/outbound_courier/outboundcourier/http/BodyReader", "isDone", "()Z"⟩ : MethodName)) (z := (⟨"com/example/outbound_courier/outboundcourier/http/BodyReader", "isDone", "()Z"⟩ : MethodName)) hown (mvT hZ (w67 hw)) (mvT hZ (w68 hw)) (notFace_of_selects (args := #[]) (mvT hZ (w70 hw))) (mvT hZ (w70 hw)) (mvT hZ (w69 hw)) (by decide) (backOf (W := 0) (rm8_3 l Z a0 hw [] b1 w11a w15a T15.heap n0 O15 r15_15 Y17 D37 r15_16) hZ (w71 hw) (w2 hw) (by decide) (by decide)) q16a q16c (g := (mkF m 141 #[.val (.long i0), .second, .val (.int i1), .val (.int i2), .val (.int (i2 &&& (3 : Int32))), .val (.long qlen), .second, .val (.ref b1), .val (.int (0 : Int32)), .val (.int (1 : Int32)), .val (.int (0 : Int32)), .val (.int (1 : Int32))] [(.ref b1)])) rfl (by rw [hml]; rfl) (Steps.refl _) (argsL := []) (rest := []) (lenOf pd_3 rfl) rfl (by show 2 * 0 + _ ≤ _; exact Nat.le_of_eq rfl) (hb hby at_141) (fun vm₁ hw₁ => ⟨rfl, rfl, (by decide : 5 + 0 ≤ _), (by decide : 62 + 0 ≤ _)⟩)
          dsimp only [Pt.U, Pt.locs, Pt.cells, Pt.slots] at X16 l16 y16 z16 st16 hQ16
          subst l16 y16 z16
          obtain ⟨rfl, M16, eh16⟩ := hQ16
          have N16 := Fr.app N15 M16
          refine Go.tr st16 ?_
          show Go p e below _ (T16.setTop (mkF m 144 #[.val (.long i0), .second, .val (.int i1), .val (.int i2), .val (.int (i2 &&& (3 : Int32))), .val (.long qlen), .second, .val (.ref b1), .val (.int (0 : Int32)), .val (.int (1 : Int32)), .val (.int (0 : Int32)), .val (.int (1 : Int32))] [(.int (1 : Int32))]))
          refine Go.st (fun t k => XS.iload X16.here hx rfl (hb hby at_144) rfl k) ?_
          show Go p e below _ (T16.setTop (mkF m 146 #[.val (.long i0), .second, .val (.int i1), .val (.int i2), .val (.int (i2 &&& (3 : Int32))), .val (.long qlen), .second, .val (.ref b1), .val (.int (0 : Int32)), .val (.int (1 : Int32)), .val (.int (0 : Int32)), .val (.int (1 : Int32))] [(.int (1 : Int32)), (.int (1 : Int32))]))
          refine Go.st (fun t k => XS.icmpNo X16.here hx rfl (hb hby at_146) rfl (Jvm.Free.XT.ii_ne_f (by decide : (1 : Int32) = (1 : Int32))) k) ?_
          show Go p e below _ (T16.setTop (mkF m 149 #[.val (.long i0), .second, .val (.int i1), .val (.int i2), .val (.int (i2 &&& (3 : Int32))), .val (.long qlen), .second, .val (.ref b1), .val (.int (0 : Int32)), .val (.int (1 : Int32)), .val (.int (0 : Int32)), .val (.int (1 : Int32))] []))
          refine Go.st (fun t k => XS.aload X16.here hx rfl (hb hby at_149) rfl rfl k) ?_
          show Go p e below _ (T16.setTop (mkF m 151 #[.val (.long i0), .second, .val (.int i1), .val (.int i2), .val (.int (i2 &&& (3 : Int32))), .val (.long qlen), .second, .val (.ref b1), .val (.int (0 : Int32)), .val (.int (1 : Int32)), .val (.int (0 : Int32)), .val (.int (1 : Int32))] [(.ref b1)]))
          obtain ⟨cq17, kq17, q17a, q17b, q17c⟩ := isOf hZ eh16 (A1.keep K15c)
          obtain ⟨_, _, ⟨T17, L17, k17, n17⟩, -, X17, ⟨Lc17, hQ17, l17, y17, z17⟩, st17⟩ := X16.virtualBack hx (y := (⟨"com/example/outbound_courier/outboundcourier/http/BodyReader", "isTooLarge", "()Z"⟩ : MethodName)) (z := (⟨"com/example/outbound_courier/outboundcourier/http/BodyReader", "isTooLarge", "()Z"⟩ : MethodName)) hown (mvT hZ (w72 hw)) (mvT hZ (w73 hw)) (notFace_of_selects (args := #[]) (mvT hZ (w75 hw))) (mvT hZ (w75 hw)) (mvT hZ (w74 hw)) (by decide) (backOf (W := 0) (rm9_2 l Z a0 hw [] b1 T15.heap n0 O15 r15_16) hZ (w76 hw) (w2 hw) (by decide) (by decide)) q17a q17c (g := (mkF m 151 #[.val (.long i0), .second, .val (.int i1), .val (.int i2), .val (.int (i2 &&& (3 : Int32))), .val (.long qlen), .second, .val (.ref b1), .val (.int (0 : Int32)), .val (.int (1 : Int32)), .val (.int (0 : Int32)), .val (.int (1 : Int32))] [(.ref b1)])) rfl (by rw [hml]; rfl) (Steps.refl _) (argsL := []) (rest := []) (lenOf pd_3 rfl) rfl (by show 2 * 0 + _ ≤ _; exact Nat.le_of_eq rfl) (hb hby at_151) (fun vm₁ hw₁ => ⟨rfl, eh16, (by decide : 5 + 0 ≤ _), (by decide : 62 + 0 ≤ _)⟩)
          dsimp only [Pt.U, Pt.locs, Pt.cells, Pt.slots] at X17 l17 y17 z17 st17 hQ17
          subst l17 y17 z17
          obtain ⟨rfl, M17, eh17⟩ := hQ17
          have N17 := Fr.app N16 M17
          refine Go.tr st17 ?_
          show Go p e below _ (T17.setTop (mkF m 154 #[.val (.long i0), .second, .val (.int i1), .val (.int i2), .val (.int (i2 &&& (3 : Int32))), .val (.long qlen), .second, .val (.ref b1), .val (.int (0 : Int32)), .val (.int (1 : Int32)), .val (.int (0 : Int32)), .val (.int (1 : Int32))] [(.int (1 : Int32))]))
          refine Go.st (fun t k => XS.iload X17.here hx rfl (hb hby at_154) rfl k) ?_
          show Go p e below _ (T17.setTop (mkF m 156 #[.val (.long i0), .second, .val (.int i1), .val (.int i2), .val (.int (i2 &&& (3 : Int32))), .val (.long qlen), .second, .val (.ref b1), .val (.int (0 : Int32)), .val (.int (1 : Int32)), .val (.int (0 : Int32)), .val (.int (1 : Int32))] [(.int (1 : Int32)), (.int (1 : Int32))]))
          refine Go.st (fun t k => XS.icmpNo X17.here hx rfl (hb hby at_156) rfl (Jvm.Free.XT.ii_ne_f (by decide : (1 : Int32) = (1 : Int32))) k) ?_
          show Go p e below _ (T17.setTop (mkF m 159 #[.val (.long i0), .second, .val (.int i1), .val (.int i2), .val (.int (i2 &&& (3 : Int32))), .val (.long qlen), .second, .val (.ref b1), .val (.int (0 : Int32)), .val (.int (1 : Int32)), .val (.int (0 : Int32)), .val (.int (1 : Int32))] []))
          refine Go.st (fun t k => XS.aload X17.here hx rfl (hb hby at_159) rfl rfl k) ?_
          show Go p e below _ (T17.setTop (mkF m 161 #[.val (.long i0), .second, .val (.int i1), .val (.int i2), .val (.int (i2 &&& (3 : Int32))), .val (.long qlen), .second, .val (.ref b1), .val (.int (0 : Int32)), .val (.int (1 : Int32)), .val (.int (0 : Int32)), .val (.int (1 : Int32))] [(.ref b1)]))
          obtain ⟨cq18, kq18, q18a, q18b, q18c⟩ := isOf hZ eh17 (A1.keep K15c)
          obtain ⟨_, _, ⟨T18, L18, k18, n18⟩, -, X18, ⟨Lc18, hQ18, l18, y18, z18⟩, st18⟩ := X17.virtualBack hx (y := (⟨"com/example/outbound_courier/outboundcourier/http/BodyReader", "body", "()[B"⟩ : MethodName)) (z := (⟨"com/example/outbound_courier/outboundcourier/http/BodyReader", "body", "()[B"⟩ : MethodName)) hown (mvT hZ (w79 hw)) (mvT hZ (w80 hw)) (notFace_of_selects (args := #[]) (mvT hZ (w82 hw))) (mvT hZ (w82 hw)) (mvT hZ (w81 hw)) (by decide) (backOf (W := 0) (rm10_1 l Z a0 hw [] b1 b2_15 b2_1_3_15 k2_1_3_15 T15.heap n0 O15 r15_10 r15_17 g_b2_15 r15_19 r15_20 r15_24 r15_18) hZ (w83 hw) (w2 hw) (by decide) (by decide)) q18a q18c (g := (mkF m 161 #[.val (.long i0), .second, .val (.int i1), .val (.int i2), .val (.int (i2 &&& (3 : Int32))), .val (.long qlen), .second, .val (.ref b1), .val (.int (0 : Int32)), .val (.int (1 : Int32)), .val (.int (0 : Int32)), .val (.int (1 : Int32))] [(.ref b1)])) rfl (by rw [hml]; rfl) (Steps.refl _) (argsL := []) (rest := []) (lenOf pd_6 rfl) rfl (by show 2 * 0 + _ ≤ _; exact Nat.le_of_eq rfl) (hb hby at_161) (fun vm₁ hw₁ => ⟨rfl, eh17, (by decide : 5 + 1 ≤ _), (by decide : 62 + 0 ≤ _)⟩)
          dsimp only [Pt.U, Pt.locs, Pt.cells, Pt.slots] at X18 l18 y18 z18 st18 hQ18
          subst l18 y18 z18
          obtain ⟨b2_3_2_18, k2_3_2_18, rfl, M18, K18c, r18_0, r18_1, r18_2, r18_3⟩ := hQ18
          have N18 := Fr.app N17 M18
          have g_b2_3_2_18 : n0 ≤ b2_3_2_18 := Nat.le_trans (own_n0 O15) r18_0
          have O18 : Old Z n0 T18.heap := O15.keep K18c (allS g_b2_15 all0)
          refine Go.tr st18 ?_
          show Go p e below _ (T18.setTop (mkF m 164 #[.val (.long i0), .second, .val (.int i1), .val (.int i2), .val (.int (i2 &&& (3 : Int32))), .val (.long qlen), .second, .val (.ref b1), .val (.int (0 : Int32)), .val (.int (1 : Int32)), .val (.int (0 : Int32)), .val (.int (1 : Int32))] [(.ref b2_3_2_18)]))
          obtain ⟨cl19, Ar19, -, S19, M19, -, -⟩ := id r18_1
          refine Go.st (fun t k => X18.arraylength hx Ar19.1 (State.isArrayOf_alike hZ.alike Ar19.2.1) (g := (mkF m 164 #[.val (.long i0), .second, .val (.int i1), .val (.int i2), .val (.int (i2 &&& (3 : Int32))), .val (.long qlen), .second, .val (.ref b1), .val (.int (0 : Int32)), .val (.int (1 : Int32)), .val (.int (0 : Int32)), .val (.int (1 : Int32))] [(.ref b2_3_2_18)])) rfl rfl (hb hby at_164) t k) ?_
          rw [len_of S19 M19]
          show Go p e below _ (T18.setTop (mkF m 165 #[.val (.long i0), .second, .val (.int i1), .val (.int i2), .val (.int (i2 &&& (3 : Int32))), .val (.long qlen), .second, .val (.ref b1), .val (.int (0 : Int32)), .val (.int (1 : Int32)), .val (.int (0 : Int32)), .val (.int (1 : Int32))] [(.int (0 : Int32))]))
          refine Go.st (fun t k => XS.ifNo X18.here hx rfl (hb hby at_165) rfl (Jvm.Free.XT.i0_ne_f (by decide : (0 : Int32) = (0 : Int32))) k) ?_
          show Go p e below _ (T18.setTop (mkF m 168 #[.val (.long i0), .second, .val (.int i1), .val (.int i2), .val (.int (i2 &&& (3 : Int32))), .val (.long qlen), .second, .val (.ref b1), .val (.int (0 : Int32)), .val (.int (1 : Int32)), .val (.int (0 : Int32)), .val (.int (1 : Int32))] []))
          refine Go.st (fun t k => XS.iconst X18.here hx rfl (hb hby at_168) k) ?_
          show Go p e below _ (T18.setTop (mkF m 169 #[.val (.long i0), .second, .val (.int i1), .val (.int i2), .val (.int (i2 &&& (3 : Int32))), .val (.long qlen), .second, .val (.ref b1), .val (.int (0 : Int32)), .val (.int (1 : Int32)), .val (.int (0 : Int32)), .val (.int (1 : Int32))] [(.int (1 : Int32))]))
          refine Go.st (fun t k => XS.goto X18.here hx rfl (pc0 := 169) (pc' := 173) rfl (hb hby at_169) (by decide) (by decide) k) ?_
          show Go p e below _ (T18.setTop (mkF m 173 #[.val (.long i0), .second, .val (.int i1), .val (.int i2), .val (.int (i2 &&& (3 : Int32))), .val (.long qlen), .second, .val (.ref b1), .val (.int (0 : Int32)), .val (.int (1 : Int32)), .val (.int (0 : Int32)), .val (.int (1 : Int32))] [(.int (1 : Int32))]))
          obtain ⟨fs, hr, hrun, hended, hWd, hsame⟩ := X18.leave (v := some (.int (1 : Int32))) (fun h => by rw [Bd.returns] at h; cases h)
          refine ⟨_, _, ?_, hrun, hended, _, _, rfl, ?_, ⟨⟨_, rfl⟩, hWd, hsame.mono (by decide) (by decide)⟩⟩
          · exact retN X18 hx (t := .boolean) Bd.returns (by simp) (hb hby at_173) hr
          · exact ⟨rfl, N18⟩
      · by_cases hc20 : qlen = (0 : Int64)
        · obtain ⟨_, _, ⟨T21, L21, k21, n21⟩, -, X21, ⟨Lc21, hQ21, l21, y21, z21⟩, st21⟩ := X1.specialBack hx (y := (⟨"com/example/outbound_courier/outboundcourier/http/BodyReader", "<init>", "(JI)V"⟩ : MethodName)) rfl hown (mvT hZ (w3 hw)) (mvT hZ (w4 hw)) (mvT hZ (w5 hw)) (by decide) (backOf (W := 1) (rm1_4 l Z a0 hw [] b1 qlen i1 w23i w11a w15a h1 n0 O1 A1 f1_30 g_b1 Y25 Y32 f1_51 f1_53 hc2 f1_56 f1_58 Y13 f1_63 hc8 hc20 Y17 f1_78) hZ (w5 hw) (w2 hw) (by decide) (by decide)) (g := (mkF m 62 #[.val (.long i0), .second, .val (.int i1), .val (.int i2), .val (.int (i2 &&& (3 : Int32))), .val (.long qlen), .second, .unset, .unset, .unset, .unset, .unset] [(.int i1), (.long qlen), (.ref b1), (.ref b1)])) rfl (by rw [hml]; rfl) (Steps.refl _) (a := b1) (argsL := [(.long qlen), (.int i1)]) (rest := [(.ref b1)]) (lenOf pd_2 rfl) rfl (by show 2 * 0 + _ ≤ _; exact Nat.le_of_eq rfl) (hb hby at_62) (fun vm₁ hw₁ => ⟨rfl, e1, (by decide : 1 + 4 ≤ _), (by decide : 8 + 54 ≤ _)⟩)
          dsimp only [Pt.U, Pt.locs, Pt.cells, Pt.slots] at X21 l21 y21 z21 st21 hQ21
          subst l21 y21 z21
          obtain ⟨b2_21, b2_1_3_21, b6_21, b3_1_7_21, k2_1_3_21, k3_1_7_21, rfl, M21, K21c, r21_0, r21_1, r21_2, r21_3, r21_4, r21_5, r21_6, r21_7, r21_8, r21_9, r21_10, r21_11, r21_12, r21_13, r21_14, r21_15, r21_16, r21_17, r21_18, r21_19, r21_20, r21_21, r21_22, r21_23, r21_24, r21_25⟩ := hQ21
          have N21 := Fr.app N0 M21
          have g_b2_21 : n0 ≤ b2_21 := Nat.le_trans (own_n0 O1) r21_0
          have g_b2_1_3_21 : n0 ≤ b2_1_3_21 := Nat.le_trans (own_n0 O1) r21_1
          have g_b6_21 : n0 ≤ b6_21 := Nat.le_trans (own_n0 O1) r21_2
          have g_b3_1_7_21 : n0 ≤ b3_1_7_21 := Nat.le_trans (own_n0 O1) r21_3
          have O21 : Old Z n0 T21.heap := O1.keep K21c (allS g_b1 all0)
          refine Go.tr st21 ?_
          show Go p e below _ (T21.setTop (mkF m 65 #[.val (.long i0), .second, .val (.int i1), .val (.int i2), .val (.int (i2 &&& (3 : Int32))), .val (.long qlen), .second, .unset, .unset, .unset, .unset, .unset] [(.ref b1)]))
          refine Go.st (fun t k => XS.astore X21.here hx rfl (hb hby at_65) rfl rfl (l' := #[.val (.long i0), .second, .val (.int i1), .val (.int i2), .val (.int (i2 &&& (3 : Int32))), .val (.long qlen), .second, .val (.ref b1), .unset, .unset, .unset, .unset]) rfl k) ?_
          show Go p e below _ (T21.setTop (mkF m 67 #[.val (.long i0), .second, .val (.int i1), .val (.int i2), .val (.int (i2 &&& (3 : Int32))), .val (.long qlen), .second, .val (.ref b1), .unset, .unset, .unset, .unset] []))
          refine Go.st (fun t k => XS.lload X21.here hx rfl (hb hby at_67) rfl k) ?_
          show Go p e below _ (T21.setTop (mkF m 69 #[.val (.long i0), .second, .val (.int i1), .val (.int i2), .val (.int (i2 &&& (3 : Int32))), .val (.long qlen), .second, .val (.ref b1), .unset, .unset, .unset, .unset] [(.long qlen)]))
          refine Go.st (fun t k => X21.ldc2J hx hown (mvT hZ (w66 hw)) (g := (mkF m 69 #[.val (.long i0), .second, .val (.int i1), .val (.int i2), .val (.int (i2 &&& (3 : Int32))), .val (.long qlen), .second, .val (.ref b1), .unset, .unset, .unset, .unset] [(.long qlen)])) rfl (hb hby at_69) k) ?_
          show Go p e below _ (T21.setTop (mkF m 72 #[.val (.long i0), .second, .val (.int i1), .val (.int i2), .val (.int (i2 &&& (3 : Int32))), .val (.long qlen), .second, .val (.ref b1), .unset, .unset, .unset, .unset] [(.long (-1 : Int64)), (.long qlen)]))
          refine Go.st (fun t k => Jvm.Free.XT.lcmp X21.here hx rfl (hb hby at_72) rfl k) ?_
          show Go p e below _ (T21.setTop (mkF m 73 #[.val (.long i0), .second, .val (.int i1), .val (.int i2), .val (.int (i2 &&& (3 : Int32))), .val (.long qlen), .second, .val (.ref b1), .unset, .unset, .unset, .unset] [(.int (Jvm.Free.XT.cmpL qlen (-1 : Int64)))]))
          refine Go.st (fun t k => XS.ifYes X21.here hx rfl (pc0 := 73) (pc' := 80) rfl (hb hby at_73) rfl (Jvm.Free.XT.ll_ne_t hc2) (by decide) (by decide) k) ?_
          show Go p e below _ (T21.setTop (mkF m 80 #[.val (.long i0), .second, .val (.int i1), .val (.int i2), .val (.int (i2 &&& (3 : Int32))), .val (.long qlen), .second, .val (.ref b1), .unset, .unset, .unset, .unset] []))
          refine Go.st (fun t k => XS.iconst X21.here hx rfl (hb hby at_80) k) ?_
          show Go p e below _ (T21.setTop (mkF m 81 #[.val (.long i0), .second, .val (.int i1), .val (.int i2), .val (.int (i2 &&& (3 : Int32))), .val (.long qlen), .second, .val (.ref b1), .unset, .unset, .unset, .unset] [(.int (0 : Int32))]))
          refine Go.st (fun t k => XS.istore X21.here hx rfl (hb hby at_81) rfl (l' := #[.val (.long i0), .second, .val (.int i1), .val (.int i2), .val (.int (i2 &&& (3 : Int32))), .val (.long qlen), .second, .val (.ref b1), .val (.int (0 : Int32)), .unset, .unset, .unset]) rfl k) ?_
          show Go p e below _ (T21.setTop (mkF m 83 #[.val (.long i0), .second, .val (.int i1), .val (.int i2), .val (.int (i2 &&& (3 : Int32))), .val (.long qlen), .second, .val (.ref b1), .val (.int (0 : Int32)), .unset, .unset, .unset] []))
          refine Go.st (fun t k => XS.iload X21.here hx rfl (hb hby at_83) rfl k) ?_
          show Go p e below _ (T21.setTop (mkF m 85 #[.val (.long i0), .second, .val (.int i1), .val (.int i2), .val (.int (i2 &&& (3 : Int32))), .val (.long qlen), .second, .val (.ref b1), .val (.int (0 : Int32)), .unset, .unset, .unset] [(.int (0 : Int32))]))
          refine Go.st (fun t k => XS.ifNo X21.here hx rfl (hb hby at_85) rfl (Jvm.Free.XT.i0_ne_f (by decide : (0 : Int32) = (0 : Int32))) k) ?_
          show Go p e below _ (T21.setTop (mkF m 88 #[.val (.long i0), .second, .val (.int i1), .val (.int i2), .val (.int (i2 &&& (3 : Int32))), .val (.long qlen), .second, .val (.ref b1), .val (.int (0 : Int32)), .unset, .unset, .unset] []))
          refine Go.st (fun t k => XS.lload X21.here hx rfl (hb hby at_88) rfl k) ?_
          show Go p e below _ (T21.setTop (mkF m 90 #[.val (.long i0), .second, .val (.int i1), .val (.int i2), .val (.int (i2 &&& (3 : Int32))), .val (.long qlen), .second, .val (.ref b1), .val (.int (0 : Int32)), .unset, .unset, .unset] [(.long qlen)]))
          refine Go.st (fun t k => XS.iloadN X21.here hx rfl (hb hby at_90) rfl k) ?_
          show Go p e below _ (T21.setTop (mkF m 91 #[.val (.long i0), .second, .val (.int i1), .val (.int i2), .val (.int (i2 &&& (3 : Int32))), .val (.long qlen), .second, .val (.ref b1), .val (.int (0 : Int32)), .unset, .unset, .unset] [(.int i1), (.long qlen)]))
          refine Go.st (fun t k => XS.i2l X21.here hx rfl (hb hby at_91) rfl k) ?_
          show Go p e below _ (T21.setTop (mkF m 92 #[.val (.long i0), .second, .val (.int i1), .val (.int i2), .val (.int (i2 &&& (3 : Int32))), .val (.long qlen), .second, .val (.ref b1), .val (.int (0 : Int32)), .unset, .unset, .unset] [(.long (i1.toInt64)), (.long qlen)]))
          refine Go.st (fun t k => Jvm.Free.XT.lcmp X21.here hx rfl (hb hby at_92) rfl k) ?_
          show Go p e below _ (T21.setTop (mkF m 93 #[.val (.long i0), .second, .val (.int i1), .val (.int i2), .val (.int (i2 &&& (3 : Int32))), .val (.long qlen), .second, .val (.ref b1), .val (.int (0 : Int32)), .unset, .unset, .unset] [(.int (Jvm.Free.XT.cmpL qlen (i1.toInt64)))]))
          refine Go.st (fun t k => XS.ifYes X21.here hx rfl (pc0 := 93) (pc' := 100) rfl (hb hby at_93) rfl (Jvm.Free.XT.ll_le_t hc8) (by decide) (by decide) k) ?_
          show Go p e below _ (T21.setTop (mkF m 100 #[.val (.long i0), .second, .val (.int i1), .val (.int i2), .val (.int (i2 &&& (3 : Int32))), .val (.long qlen), .second, .val (.ref b1), .val (.int (0 : Int32)), .unset, .unset, .unset] []))
          refine Go.st (fun t k => XS.iconst X21.here hx rfl (hb hby at_100) k) ?_
          show Go p e below _ (T21.setTop (mkF m 101 #[.val (.long i0), .second, .val (.int i1), .val (.int i2), .val (.int (i2 &&& (3 : Int32))), .val (.long qlen), .second, .val (.ref b1), .val (.int (0 : Int32)), .unset, .unset, .unset] [(.int (0 : Int32))]))
          refine Go.st (fun t k => XS.istore X21.here hx rfl (hb hby at_101) rfl (l' := #[.val (.long i0), .second, .val (.int i1), .val (.int i2), .val (.int (i2 &&& (3 : Int32))), .val (.long qlen), .second, .val (.ref b1), .val (.int (0 : Int32)), .val (.int (0 : Int32)), .unset, .unset]) rfl k) ?_
          show Go p e below _ (T21.setTop (mkF m 103 #[.val (.long i0), .second, .val (.int i1), .val (.int i2), .val (.int (i2 &&& (3 : Int32))), .val (.long qlen), .second, .val (.ref b1), .val (.int (0 : Int32)), .val (.int (0 : Int32)), .unset, .unset] []))
          refine Go.st (fun t k => XS.iload X21.here hx rfl (hb hby at_103) rfl k) ?_
          show Go p e below _ (T21.setTop (mkF m 105 #[.val (.long i0), .second, .val (.int i1), .val (.int i2), .val (.int (i2 &&& (3 : Int32))), .val (.long qlen), .second, .val (.ref b1), .val (.int (0 : Int32)), .val (.int (0 : Int32)), .unset, .unset] [(.int (0 : Int32))]))
          refine Go.st (fun t k => XS.ifNo X21.here hx rfl (hb hby at_105) rfl (Jvm.Free.XT.i0_ne_f (by decide : (0 : Int32) = (0 : Int32))) k) ?_
          show Go p e below _ (T21.setTop (mkF m 108 #[.val (.long i0), .second, .val (.int i1), .val (.int i2), .val (.int (i2 &&& (3 : Int32))), .val (.long qlen), .second, .val (.ref b1), .val (.int (0 : Int32)), .val (.int (0 : Int32)), .unset, .unset] []))
          refine Go.st (fun t k => XS.lload X21.here hx rfl (hb hby at_108) rfl k) ?_
          show Go p e below _ (T21.setTop (mkF m 110 #[.val (.long i0), .second, .val (.int i1), .val (.int i2), .val (.int (i2 &&& (3 : Int32))), .val (.long qlen), .second, .val (.ref b1), .val (.int (0 : Int32)), .val (.int (0 : Int32)), .unset, .unset] [(.long qlen)]))
          refine Go.st (fun t k => XS.lconst X21.here hx rfl (hb hby at_110) k) ?_
          show Go p e below _ (T21.setTop (mkF m 111 #[.val (.long i0), .second, .val (.int i1), .val (.int i2), .val (.int (i2 &&& (3 : Int32))), .val (.long qlen), .second, .val (.ref b1), .val (.int (0 : Int32)), .val (.int (0 : Int32)), .unset, .unset] [(.long (0 : Int64)), (.long qlen)]))
          refine Go.st (fun t k => Jvm.Free.XT.lcmp X21.here hx rfl (hb hby at_111) rfl k) ?_
          show Go p e below _ (T21.setTop (mkF m 112 #[.val (.long i0), .second, .val (.int i1), .val (.int i2), .val (.int (i2 &&& (3 : Int32))), .val (.long qlen), .second, .val (.ref b1), .val (.int (0 : Int32)), .val (.int (0 : Int32)), .unset, .unset] [(.int (Jvm.Free.XT.cmpL qlen (0 : Int64)))]))
          refine Go.st (fun t k => XS.ifNo X21.here hx rfl (hb hby at_112) rfl (Jvm.Free.XT.ll_ne_f hc20) k) ?_
          show Go p e below _ (T21.setTop (mkF m 115 #[.val (.long i0), .second, .val (.int i1), .val (.int i2), .val (.int (i2 &&& (3 : Int32))), .val (.long qlen), .second, .val (.ref b1), .val (.int (0 : Int32)), .val (.int (0 : Int32)), .unset, .unset] []))
          refine Go.st (fun t k => XS.iconst X21.here hx rfl (hb hby at_115) k) ?_
          show Go p e below _ (T21.setTop (mkF m 116 #[.val (.long i0), .second, .val (.int i1), .val (.int i2), .val (.int (i2 &&& (3 : Int32))), .val (.long qlen), .second, .val (.ref b1), .val (.int (0 : Int32)), .val (.int (0 : Int32)), .unset, .unset] [(.int (1 : Int32))]))
          refine Go.st (fun t k => XS.goto X21.here hx rfl (pc0 := 116) (pc' := 120) rfl (hb hby at_116) (by decide) (by decide) k) ?_
          show Go p e below _ (T21.setTop (mkF m 120 #[.val (.long i0), .second, .val (.int i1), .val (.int i2), .val (.int (i2 &&& (3 : Int32))), .val (.long qlen), .second, .val (.ref b1), .val (.int (0 : Int32)), .val (.int (0 : Int32)), .unset, .unset] [(.int (1 : Int32))]))
          refine Go.st (fun t k => XS.istore X21.here hx rfl (hb hby at_120) rfl (l' := #[.val (.long i0), .second, .val (.int i1), .val (.int i2), .val (.int (i2 &&& (3 : Int32))), .val (.long qlen), .second, .val (.ref b1), .val (.int (0 : Int32)), .val (.int (0 : Int32)), .val (.int (1 : Int32)), .unset]) rfl k) ?_
          show Go p e below _ (T21.setTop (mkF m 122 #[.val (.long i0), .second, .val (.int i1), .val (.int i2), .val (.int (i2 &&& (3 : Int32))), .val (.long qlen), .second, .val (.ref b1), .val (.int (0 : Int32)), .val (.int (0 : Int32)), .val (.int (1 : Int32)), .unset] []))
          refine Go.st (fun t k => XS.iload X21.here hx rfl (hb hby at_122) rfl k) ?_
          show Go p e below _ (T21.setTop (mkF m 124 #[.val (.long i0), .second, .val (.int i1), .val (.int i2), .val (.int (i2 &&& (3 : Int32))), .val (.long qlen), .second, .val (.ref b1), .val (.int (0 : Int32)), .val (.int (0 : Int32)), .val (.int (1 : Int32)), .unset] [(.int (0 : Int32))]))
          refine Go.st (fun t k => XS.ifNo X21.here hx rfl (hb hby at_124) rfl (Jvm.Free.XT.i0_ne_f (by decide : (0 : Int32) = (0 : Int32))) k) ?_
          show Go p e below _ (T21.setTop (mkF m 127 #[.val (.long i0), .second, .val (.int i1), .val (.int i2), .val (.int (i2 &&& (3 : Int32))), .val (.long qlen), .second, .val (.ref b1), .val (.int (0 : Int32)), .val (.int (0 : Int32)), .val (.int (1 : Int32)), .unset] []))
          refine Go.st (fun t k => XS.iload X21.here hx rfl (hb hby at_127) rfl k) ?_
          show Go p e below _ (T21.setTop (mkF m 129 #[.val (.long i0), .second, .val (.int i1), .val (.int i2), .val (.int (i2 &&& (3 : Int32))), .val (.long qlen), .second, .val (.ref b1), .val (.int (0 : Int32)), .val (.int (0 : Int32)), .val (.int (1 : Int32)), .unset] [(.int (1 : Int32))]))
          refine Go.st (fun t k => XS.ifNo X21.here hx rfl (hb hby at_129) rfl (Jvm.Free.XT.i0_eq_f (by decide : ¬ ((1 : Int32) = (0 : Int32)))) k) ?_
          show Go p e below _ (T21.setTop (mkF m 132 #[.val (.long i0), .second, .val (.int i1), .val (.int i2), .val (.int (i2 &&& (3 : Int32))), .val (.long qlen), .second, .val (.ref b1), .val (.int (0 : Int32)), .val (.int (0 : Int32)), .val (.int (1 : Int32)), .unset] []))
          refine Go.st (fun t k => XS.iconst X21.here hx rfl (hb hby at_132) k) ?_
          show Go p e below _ (T21.setTop (mkF m 133 #[.val (.long i0), .second, .val (.int i1), .val (.int i2), .val (.int (i2 &&& (3 : Int32))), .val (.long qlen), .second, .val (.ref b1), .val (.int (0 : Int32)), .val (.int (0 : Int32)), .val (.int (1 : Int32)), .unset] [(.int (1 : Int32))]))
          refine Go.st (fun t k => XS.goto X21.here hx rfl (pc0 := 133) (pc' := 137) rfl (hb hby at_133) (by decide) (by decide) k) ?_
          show Go p e below _ (T21.setTop (mkF m 137 #[.val (.long i0), .second, .val (.int i1), .val (.int i2), .val (.int (i2 &&& (3 : Int32))), .val (.long qlen), .second, .val (.ref b1), .val (.int (0 : Int32)), .val (.int (0 : Int32)), .val (.int (1 : Int32)), .unset] [(.int (1 : Int32))]))
          refine Go.st (fun t k => XS.istore X21.here hx rfl (hb hby at_137) rfl (l' := #[.val (.long i0), .second, .val (.int i1), .val (.int i2), .val (.int (i2 &&& (3 : Int32))), .val (.long qlen), .second, .val (.ref b1), .val (.int (0 : Int32)), .val (.int (0 : Int32)), .val (.int (1 : Int32)), .val (.int (1 : Int32))]) rfl k) ?_
          show Go p e below _ (T21.setTop (mkF m 139 #[.val (.long i0), .second, .val (.int i1), .val (.int i2), .val (.int (i2 &&& (3 : Int32))), .val (.long qlen), .second, .val (.ref b1), .val (.int (0 : Int32)), .val (.int (0 : Int32)), .val (.int (1 : Int32)), .val (.int (1 : Int32))] []))
          refine Go.st (fun t k => XS.aload X21.here hx rfl (hb hby at_139) rfl rfl k) ?_
          show Go p e below _ (T21.setTop (mkF m 141 #[.val (.long i0), .second, .val (.int i1), .val (.int i2), .val (.int (i2 &&& (3 : Int32))), .val (.long qlen), .second, .val (.ref b1), .val (.int (0 : Int32)), .val (.int (0 : Int32)), .val (.int (1 : Int32)), .val (.int (1 : Int32))] [(.ref b1)]))
          obtain ⟨cq22, kq22, q22a, q22b, q22c⟩ := isOf hZ rfl (A1.keep K21c)
          obtain ⟨_, _, ⟨T22, L22, k22, n22⟩, -, X22, ⟨Lc22, hQ22, l22, y22, z22⟩, st22⟩ := X21.virtualBack hx (y := (⟨"com/example/outbound_courier/outboundcourier/http/BodyReader", "isDone", "()Z"⟩ : MethodName)) (z := (⟨"com/example/outbound_courier/outboundcourier/http/BodyReader", "isDone", "()Z"⟩ : MethodName)) hown (mvT hZ (w67 hw)) (mvT hZ (w68 hw)) (notFace_of_selects (args := #[]) (mvT hZ (w70 hw))) (mvT hZ (w70 hw)) (mvT hZ (w69 hw)) (by decide) (backOf (W := 0) (rm8_2 l Z a0 hw [] b1 w15a T21.heap n0 O21 r21_15 Y17) hZ (w71 hw) (w2 hw) (by decide) (by decide)) q22a q22c (g := (mkF m 141 #[.val (.long i0), .second, .val (.int i1), .val (.int i2), .val (.int (i2 &&& (3 : Int32))), .val (.long qlen), .second, .val (.ref b1), .val (.int (0 : Int32)), .val (.int (0 : Int32)), .val (.int (1 : Int32)), .val (.int (1 : Int32))] [(.ref b1)])) rfl (by rw [hml]; rfl) (Steps.refl _) (argsL := []) (rest := []) (lenOf pd_3 rfl) rfl (by show 2 * 0 + _ ≤ _; exact Nat.le_of_eq rfl) (hb hby at_141) (fun vm₁ hw₁ => ⟨rfl, rfl, (by decide : 5 + 0 ≤ _), (by decide : 62 + 0 ≤ _)⟩)
          dsimp only [Pt.U, Pt.locs, Pt.cells, Pt.slots] at X22 l22 y22 z22 st22 hQ22
          subst l22 y22 z22
          obtain ⟨rfl, M22, eh22⟩ := hQ22
          have N22 := Fr.app N21 M22
          refine Go.tr st22 ?_
          show Go p e below _ (T22.setTop (mkF m 144 #[.val (.long i0), .second, .val (.int i1), .val (.int i2), .val (.int (i2 &&& (3 : Int32))), .val (.long qlen), .second, .val (.ref b1), .val (.int (0 : Int32)), .val (.int (0 : Int32)), .val (.int (1 : Int32)), .val (.int (1 : Int32))] [(.int (1 : Int32))]))
          refine Go.st (fun t k => XS.iload X22.here hx rfl (hb hby at_144) rfl k) ?_
          show Go p e below _ (T22.setTop (mkF m 146 #[.val (.long i0), .second, .val (.int i1), .val (.int i2), .val (.int (i2 &&& (3 : Int32))), .val (.long qlen), .second, .val (.ref b1), .val (.int (0 : Int32)), .val (.int (0 : Int32)), .val (.int (1 : Int32)), .val (.int (1 : Int32))] [(.int (1 : Int32)), (.int (1 : Int32))]))
          refine Go.st (fun t k => XS.icmpNo X22.here hx rfl (hb hby at_146) rfl (Jvm.Free.XT.ii_ne_f (by decide : (1 : Int32) = (1 : Int32))) k) ?_
          show Go p e below _ (T22.setTop (mkF m 149 #[.val (.long i0), .second, .val (.int i1), .val (.int i2), .val (.int (i2 &&& (3 : Int32))), .val (.long qlen), .second, .val (.ref b1), .val (.int (0 : Int32)), .val (.int (0 : Int32)), .val (.int (1 : Int32)), .val (.int (1 : Int32))] []))
          refine Go.st (fun t k => XS.aload X22.here hx rfl (hb hby at_149) rfl rfl k) ?_
          show Go p e below _ (T22.setTop (mkF m 151 #[.val (.long i0), .second, .val (.int i1), .val (.int i2), .val (.int (i2 &&& (3 : Int32))), .val (.long qlen), .second, .val (.ref b1), .val (.int (0 : Int32)), .val (.int (0 : Int32)), .val (.int (1 : Int32)), .val (.int (1 : Int32))] [(.ref b1)]))
          obtain ⟨cq23, kq23, q23a, q23b, q23c⟩ := isOf hZ eh22 (A1.keep K21c)
          obtain ⟨_, _, ⟨T23, L23, k23, n23⟩, -, X23, ⟨Lc23, hQ23, l23, y23, z23⟩, st23⟩ := X22.virtualBack hx (y := (⟨"com/example/outbound_courier/outboundcourier/http/BodyReader", "isTooLarge", "()Z"⟩ : MethodName)) (z := (⟨"com/example/outbound_courier/outboundcourier/http/BodyReader", "isTooLarge", "()Z"⟩ : MethodName)) hown (mvT hZ (w72 hw)) (mvT hZ (w73 hw)) (notFace_of_selects (args := #[]) (mvT hZ (w75 hw))) (mvT hZ (w75 hw)) (mvT hZ (w74 hw)) (by decide) (backOf (W := 0) (rm9_1 l Z a0 hw [] b1 T21.heap n0 O21 r21_16) hZ (w76 hw) (w2 hw) (by decide) (by decide)) q23a q23c (g := (mkF m 151 #[.val (.long i0), .second, .val (.int i1), .val (.int i2), .val (.int (i2 &&& (3 : Int32))), .val (.long qlen), .second, .val (.ref b1), .val (.int (0 : Int32)), .val (.int (0 : Int32)), .val (.int (1 : Int32)), .val (.int (1 : Int32))] [(.ref b1)])) rfl (by rw [hml]; rfl) (Steps.refl _) (argsL := []) (rest := []) (lenOf pd_3 rfl) rfl (by show 2 * 0 + _ ≤ _; exact Nat.le_of_eq rfl) (hb hby at_151) (fun vm₁ hw₁ => ⟨rfl, eh22, (by decide : 5 + 0 ≤ _), (by decide : 62 + 0 ≤ _)⟩)
          dsimp only [Pt.U, Pt.locs, Pt.cells, Pt.slots] at X23 l23 y23 z23 st23 hQ23
          subst l23 y23 z23
          obtain ⟨rfl, M23, eh23⟩ := hQ23
          have N23 := Fr.app N22 M23
          refine Go.tr st23 ?_
          show Go p e below _ (T23.setTop (mkF m 154 #[.val (.long i0), .second, .val (.int i1), .val (.int i2), .val (.int (i2 &&& (3 : Int32))), .val (.long qlen), .second, .val (.ref b1), .val (.int (0 : Int32)), .val (.int (0 : Int32)), .val (.int (1 : Int32)), .val (.int (1 : Int32))] [(.int (0 : Int32))]))
          refine Go.st (fun t k => XS.iload X23.here hx rfl (hb hby at_154) rfl k) ?_
          show Go p e below _ (T23.setTop (mkF m 156 #[.val (.long i0), .second, .val (.int i1), .val (.int i2), .val (.int (i2 &&& (3 : Int32))), .val (.long qlen), .second, .val (.ref b1), .val (.int (0 : Int32)), .val (.int (0 : Int32)), .val (.int (1 : Int32)), .val (.int (1 : Int32))] [(.int (0 : Int32)), (.int (0 : Int32))]))
          refine Go.st (fun t k => XS.icmpNo X23.here hx rfl (hb hby at_156) rfl (Jvm.Free.XT.ii_ne_f (by decide : (0 : Int32) = (0 : Int32))) k) ?_
          show Go p e below _ (T23.setTop (mkF m 159 #[.val (.long i0), .second, .val (.int i1), .val (.int i2), .val (.int (i2 &&& (3 : Int32))), .val (.long qlen), .second, .val (.ref b1), .val (.int (0 : Int32)), .val (.int (0 : Int32)), .val (.int (1 : Int32)), .val (.int (1 : Int32))] []))
          refine Go.st (fun t k => XS.aload X23.here hx rfl (hb hby at_159) rfl rfl k) ?_
          show Go p e below _ (T23.setTop (mkF m 161 #[.val (.long i0), .second, .val (.int i1), .val (.int i2), .val (.int (i2 &&& (3 : Int32))), .val (.long qlen), .second, .val (.ref b1), .val (.int (0 : Int32)), .val (.int (0 : Int32)), .val (.int (1 : Int32)), .val (.int (1 : Int32))] [(.ref b1)]))
          obtain ⟨cq24, kq24, q24a, q24b, q24c⟩ := isOf hZ eh23 (A1.keep K21c)
          obtain ⟨_, _, ⟨T24, L24, k24, n24⟩, -, X24, ⟨Lc24, hQ24, l24, y24, z24⟩, st24⟩ := X23.virtualBack hx (y := (⟨"com/example/outbound_courier/outboundcourier/http/BodyReader", "body", "()[B"⟩ : MethodName)) (z := (⟨"com/example/outbound_courier/outboundcourier/http/BodyReader", "body", "()[B"⟩ : MethodName)) hown (mvT hZ (w79 hw)) (mvT hZ (w80 hw)) (notFace_of_selects (args := #[]) (mvT hZ (w82 hw))) (mvT hZ (w82 hw)) (mvT hZ (w81 hw)) (by decide) (backOf (W := 0) (rm10_1 l Z a0 hw [] b1 b2_21 b2_1_3_21 k2_1_3_21 T21.heap n0 O21 r21_10 r21_17 g_b2_21 r21_19 r21_20 r21_24 r21_18) hZ (w83 hw) (w2 hw) (by decide) (by decide)) q24a q24c (g := (mkF m 161 #[.val (.long i0), .second, .val (.int i1), .val (.int i2), .val (.int (i2 &&& (3 : Int32))), .val (.long qlen), .second, .val (.ref b1), .val (.int (0 : Int32)), .val (.int (0 : Int32)), .val (.int (1 : Int32)), .val (.int (1 : Int32))] [(.ref b1)])) rfl (by rw [hml]; rfl) (Steps.refl _) (argsL := []) (rest := []) (lenOf pd_6 rfl) rfl (by show 2 * 0 + _ ≤ _; exact Nat.le_of_eq rfl) (hb hby at_161) (fun vm₁ hw₁ => ⟨rfl, eh23, (by decide : 5 + 1 ≤ _), (by decide : 62 + 0 ≤ _)⟩)
          dsimp only [Pt.U, Pt.locs, Pt.cells, Pt.slots] at X24 l24 y24 z24 st24 hQ24
          subst l24 y24 z24
          obtain ⟨b2_3_2_24, k2_3_2_24, rfl, M24, K24c, r24_0, r24_1, r24_2, r24_3⟩ := hQ24
          have N24 := Fr.app N23 M24
          have g_b2_3_2_24 : n0 ≤ b2_3_2_24 := Nat.le_trans (own_n0 O21) r24_0
          have O24 : Old Z n0 T24.heap := O21.keep K24c (allS g_b2_21 all0)
          refine Go.tr st24 ?_
          show Go p e below _ (T24.setTop (mkF m 164 #[.val (.long i0), .second, .val (.int i1), .val (.int i2), .val (.int (i2 &&& (3 : Int32))), .val (.long qlen), .second, .val (.ref b1), .val (.int (0 : Int32)), .val (.int (0 : Int32)), .val (.int (1 : Int32)), .val (.int (1 : Int32))] [(.ref b2_3_2_24)]))
          obtain ⟨cl25, Ar25, -, S25, M25, -, -⟩ := id r24_1
          refine Go.st (fun t k => X24.arraylength hx Ar25.1 (State.isArrayOf_alike hZ.alike Ar25.2.1) (g := (mkF m 164 #[.val (.long i0), .second, .val (.int i1), .val (.int i2), .val (.int (i2 &&& (3 : Int32))), .val (.long qlen), .second, .val (.ref b1), .val (.int (0 : Int32)), .val (.int (0 : Int32)), .val (.int (1 : Int32)), .val (.int (1 : Int32))] [(.ref b2_3_2_24)])) rfl rfl (hb hby at_164) t k) ?_
          rw [len_of S25 M25]
          show Go p e below _ (T24.setTop (mkF m 165 #[.val (.long i0), .second, .val (.int i1), .val (.int i2), .val (.int (i2 &&& (3 : Int32))), .val (.long qlen), .second, .val (.ref b1), .val (.int (0 : Int32)), .val (.int (0 : Int32)), .val (.int (1 : Int32)), .val (.int (1 : Int32))] [(.int (0 : Int32))]))
          refine Go.st (fun t k => XS.ifNo X24.here hx rfl (hb hby at_165) rfl (Jvm.Free.XT.i0_ne_f (by decide : (0 : Int32) = (0 : Int32))) k) ?_
          show Go p e below _ (T24.setTop (mkF m 168 #[.val (.long i0), .second, .val (.int i1), .val (.int i2), .val (.int (i2 &&& (3 : Int32))), .val (.long qlen), .second, .val (.ref b1), .val (.int (0 : Int32)), .val (.int (0 : Int32)), .val (.int (1 : Int32)), .val (.int (1 : Int32))] []))
          refine Go.st (fun t k => XS.iconst X24.here hx rfl (hb hby at_168) k) ?_
          show Go p e below _ (T24.setTop (mkF m 169 #[.val (.long i0), .second, .val (.int i1), .val (.int i2), .val (.int (i2 &&& (3 : Int32))), .val (.long qlen), .second, .val (.ref b1), .val (.int (0 : Int32)), .val (.int (0 : Int32)), .val (.int (1 : Int32)), .val (.int (1 : Int32))] [(.int (1 : Int32))]))
          refine Go.st (fun t k => XS.goto X24.here hx rfl (pc0 := 169) (pc' := 173) rfl (hb hby at_169) (by decide) (by decide) k) ?_
          show Go p e below _ (T24.setTop (mkF m 173 #[.val (.long i0), .second, .val (.int i1), .val (.int i2), .val (.int (i2 &&& (3 : Int32))), .val (.long qlen), .second, .val (.ref b1), .val (.int (0 : Int32)), .val (.int (0 : Int32)), .val (.int (1 : Int32)), .val (.int (1 : Int32))] [(.int (1 : Int32))]))
          obtain ⟨fs, hr, hrun, hended, hWd, hsame⟩ := X24.leave (v := some (.int (1 : Int32))) (fun h => by rw [Bd.returns] at h; cases h)
          refine ⟨_, _, ?_, hrun, hended, _, _, rfl, ?_, ⟨⟨_, rfl⟩, hWd, hsame.mono (by decide) (by decide)⟩⟩
          · exact retN X24 hx (t := .boolean) Bd.returns (by simp) (hb hby at_173) hr
          · exact ⟨rfl, N24⟩
        · obtain ⟨_, _, ⟨T26, L26, k26, n26⟩, -, X26, ⟨Lc26, hQ26, l26, y26, z26⟩, st26⟩ := X1.specialBack hx (y := (⟨"com/example/outbound_courier/outboundcourier/http/BodyReader", "<init>", "(JI)V"⟩ : MethodName)) rfl hown (mvT hZ (w3 hw)) (mvT hZ (w4 hw)) (mvT hZ (w5 hw)) (by decide) (backOf (W := 1) (rm1_5 l Z a0 hw [] b1 qlen i1 w23i w11a h1 n0 O1 A1 f1_30 g_b1 Y25 Y32 f1_51 f1_53 hc2 f1_56 f1_58 Y13 f1_63 hc8 hc20 f1_78) hZ (w5 hw) (w2 hw) (by decide) (by decide)) (g := (mkF m 62 #[.val (.long i0), .second, .val (.int i1), .val (.int i2), .val (.int (i2 &&& (3 : Int32))), .val (.long qlen), .second, .unset, .unset, .unset, .unset, .unset] [(.int i1), (.long qlen), (.ref b1), (.ref b1)])) rfl (by rw [hml]; rfl) (Steps.refl _) (a := b1) (argsL := [(.long qlen), (.int i1)]) (rest := [(.ref b1)]) (lenOf pd_2 rfl) rfl (by show 2 * 0 + _ ≤ _; exact Nat.le_of_eq rfl) (hb hby at_62) (fun vm₁ hw₁ => ⟨rfl, e1, (by decide : 1 + 4 ≤ _), (by decide : 8 + 54 ≤ _)⟩)
          dsimp only [Pt.U, Pt.locs, Pt.cells, Pt.slots] at X26 l26 y26 z26 st26 hQ26
          subst l26 y26 z26
          obtain ⟨b2_26, b2_1_3_26, b6_26, b3_1_7_26, k2_1_3_26, k3_1_7_26, rfl, M26, K26c, r26_0, r26_1, r26_2, r26_3, r26_4, r26_5, r26_6, r26_7, r26_8, r26_9, r26_10, r26_11, r26_12, r26_13, r26_14, r26_15, r26_16, r26_17, r26_18, r26_19, r26_20, r26_21, r26_22, r26_23, r26_24, r26_25⟩ := hQ26
          have N26 := Fr.app N0 M26
          have g_b2_26 : n0 ≤ b2_26 := Nat.le_trans (own_n0 O1) r26_0
          have g_b2_1_3_26 : n0 ≤ b2_1_3_26 := Nat.le_trans (own_n0 O1) r26_1
          have g_b6_26 : n0 ≤ b6_26 := Nat.le_trans (own_n0 O1) r26_2
          have g_b3_1_7_26 : n0 ≤ b3_1_7_26 := Nat.le_trans (own_n0 O1) r26_3
          have O26 : Old Z n0 T26.heap := O1.keep K26c (allS g_b1 all0)
          refine Go.tr st26 ?_
          show Go p e below _ (T26.setTop (mkF m 65 #[.val (.long i0), .second, .val (.int i1), .val (.int i2), .val (.int (i2 &&& (3 : Int32))), .val (.long qlen), .second, .unset, .unset, .unset, .unset, .unset] [(.ref b1)]))
          refine Go.st (fun t k => XS.astore X26.here hx rfl (hb hby at_65) rfl rfl (l' := #[.val (.long i0), .second, .val (.int i1), .val (.int i2), .val (.int (i2 &&& (3 : Int32))), .val (.long qlen), .second, .val (.ref b1), .unset, .unset, .unset, .unset]) rfl k) ?_
          show Go p e below _ (T26.setTop (mkF m 67 #[.val (.long i0), .second, .val (.int i1), .val (.int i2), .val (.int (i2 &&& (3 : Int32))), .val (.long qlen), .second, .val (.ref b1), .unset, .unset, .unset, .unset] []))
          refine Go.st (fun t k => XS.lload X26.here hx rfl (hb hby at_67) rfl k) ?_
          show Go p e below _ (T26.setTop (mkF m 69 #[.val (.long i0), .second, .val (.int i1), .val (.int i2), .val (.int (i2 &&& (3 : Int32))), .val (.long qlen), .second, .val (.ref b1), .unset, .unset, .unset, .unset] [(.long qlen)]))
          refine Go.st (fun t k => X26.ldc2J hx hown (mvT hZ (w66 hw)) (g := (mkF m 69 #[.val (.long i0), .second, .val (.int i1), .val (.int i2), .val (.int (i2 &&& (3 : Int32))), .val (.long qlen), .second, .val (.ref b1), .unset, .unset, .unset, .unset] [(.long qlen)])) rfl (hb hby at_69) k) ?_
          show Go p e below _ (T26.setTop (mkF m 72 #[.val (.long i0), .second, .val (.int i1), .val (.int i2), .val (.int (i2 &&& (3 : Int32))), .val (.long qlen), .second, .val (.ref b1), .unset, .unset, .unset, .unset] [(.long (-1 : Int64)), (.long qlen)]))
          refine Go.st (fun t k => Jvm.Free.XT.lcmp X26.here hx rfl (hb hby at_72) rfl k) ?_
          show Go p e below _ (T26.setTop (mkF m 73 #[.val (.long i0), .second, .val (.int i1), .val (.int i2), .val (.int (i2 &&& (3 : Int32))), .val (.long qlen), .second, .val (.ref b1), .unset, .unset, .unset, .unset] [(.int (Jvm.Free.XT.cmpL qlen (-1 : Int64)))]))
          refine Go.st (fun t k => XS.ifYes X26.here hx rfl (pc0 := 73) (pc' := 80) rfl (hb hby at_73) rfl (Jvm.Free.XT.ll_ne_t hc2) (by decide) (by decide) k) ?_
          show Go p e below _ (T26.setTop (mkF m 80 #[.val (.long i0), .second, .val (.int i1), .val (.int i2), .val (.int (i2 &&& (3 : Int32))), .val (.long qlen), .second, .val (.ref b1), .unset, .unset, .unset, .unset] []))
          refine Go.st (fun t k => XS.iconst X26.here hx rfl (hb hby at_80) k) ?_
          show Go p e below _ (T26.setTop (mkF m 81 #[.val (.long i0), .second, .val (.int i1), .val (.int i2), .val (.int (i2 &&& (3 : Int32))), .val (.long qlen), .second, .val (.ref b1), .unset, .unset, .unset, .unset] [(.int (0 : Int32))]))
          refine Go.st (fun t k => XS.istore X26.here hx rfl (hb hby at_81) rfl (l' := #[.val (.long i0), .second, .val (.int i1), .val (.int i2), .val (.int (i2 &&& (3 : Int32))), .val (.long qlen), .second, .val (.ref b1), .val (.int (0 : Int32)), .unset, .unset, .unset]) rfl k) ?_
          show Go p e below _ (T26.setTop (mkF m 83 #[.val (.long i0), .second, .val (.int i1), .val (.int i2), .val (.int (i2 &&& (3 : Int32))), .val (.long qlen), .second, .val (.ref b1), .val (.int (0 : Int32)), .unset, .unset, .unset] []))
          refine Go.st (fun t k => XS.iload X26.here hx rfl (hb hby at_83) rfl k) ?_
          show Go p e below _ (T26.setTop (mkF m 85 #[.val (.long i0), .second, .val (.int i1), .val (.int i2), .val (.int (i2 &&& (3 : Int32))), .val (.long qlen), .second, .val (.ref b1), .val (.int (0 : Int32)), .unset, .unset, .unset] [(.int (0 : Int32))]))
          refine Go.st (fun t k => XS.ifNo X26.here hx rfl (hb hby at_85) rfl (Jvm.Free.XT.i0_ne_f (by decide : (0 : Int32) = (0 : Int32))) k) ?_
          show Go p e below _ (T26.setTop (mkF m 88 #[.val (.long i0), .second, .val (.int i1), .val (.int i2), .val (.int (i2 &&& (3 : Int32))), .val (.long qlen), .second, .val (.ref b1), .val (.int (0 : Int32)), .unset, .unset, .unset] []))
          refine Go.st (fun t k => XS.lload X26.here hx rfl (hb hby at_88) rfl k) ?_
          show Go p e below _ (T26.setTop (mkF m 90 #[.val (.long i0), .second, .val (.int i1), .val (.int i2), .val (.int (i2 &&& (3 : Int32))), .val (.long qlen), .second, .val (.ref b1), .val (.int (0 : Int32)), .unset, .unset, .unset] [(.long qlen)]))
          refine Go.st (fun t k => XS.iloadN X26.here hx rfl (hb hby at_90) rfl k) ?_
          show Go p e below _ (T26.setTop (mkF m 91 #[.val (.long i0), .second, .val (.int i1), .val (.int i2), .val (.int (i2 &&& (3 : Int32))), .val (.long qlen), .second, .val (.ref b1), .val (.int (0 : Int32)), .unset, .unset, .unset] [(.int i1), (.long qlen)]))
          refine Go.st (fun t k => XS.i2l X26.here hx rfl (hb hby at_91) rfl k) ?_
          show Go p e below _ (T26.setTop (mkF m 92 #[.val (.long i0), .second, .val (.int i1), .val (.int i2), .val (.int (i2 &&& (3 : Int32))), .val (.long qlen), .second, .val (.ref b1), .val (.int (0 : Int32)), .unset, .unset, .unset] [(.long (i1.toInt64)), (.long qlen)]))
          refine Go.st (fun t k => Jvm.Free.XT.lcmp X26.here hx rfl (hb hby at_92) rfl k) ?_
          show Go p e below _ (T26.setTop (mkF m 93 #[.val (.long i0), .second, .val (.int i1), .val (.int i2), .val (.int (i2 &&& (3 : Int32))), .val (.long qlen), .second, .val (.ref b1), .val (.int (0 : Int32)), .unset, .unset, .unset] [(.int (Jvm.Free.XT.cmpL qlen (i1.toInt64)))]))
          refine Go.st (fun t k => XS.ifYes X26.here hx rfl (pc0 := 93) (pc' := 100) rfl (hb hby at_93) rfl (Jvm.Free.XT.ll_le_t hc8) (by decide) (by decide) k) ?_
          show Go p e below _ (T26.setTop (mkF m 100 #[.val (.long i0), .second, .val (.int i1), .val (.int i2), .val (.int (i2 &&& (3 : Int32))), .val (.long qlen), .second, .val (.ref b1), .val (.int (0 : Int32)), .unset, .unset, .unset] []))
          refine Go.st (fun t k => XS.iconst X26.here hx rfl (hb hby at_100) k) ?_
          show Go p e below _ (T26.setTop (mkF m 101 #[.val (.long i0), .second, .val (.int i1), .val (.int i2), .val (.int (i2 &&& (3 : Int32))), .val (.long qlen), .second, .val (.ref b1), .val (.int (0 : Int32)), .unset, .unset, .unset] [(.int (0 : Int32))]))
          refine Go.st (fun t k => XS.istore X26.here hx rfl (hb hby at_101) rfl (l' := #[.val (.long i0), .second, .val (.int i1), .val (.int i2), .val (.int (i2 &&& (3 : Int32))), .val (.long qlen), .second, .val (.ref b1), .val (.int (0 : Int32)), .val (.int (0 : Int32)), .unset, .unset]) rfl k) ?_
          show Go p e below _ (T26.setTop (mkF m 103 #[.val (.long i0), .second, .val (.int i1), .val (.int i2), .val (.int (i2 &&& (3 : Int32))), .val (.long qlen), .second, .val (.ref b1), .val (.int (0 : Int32)), .val (.int (0 : Int32)), .unset, .unset] []))
          refine Go.st (fun t k => XS.iload X26.here hx rfl (hb hby at_103) rfl k) ?_
          show Go p e below _ (T26.setTop (mkF m 105 #[.val (.long i0), .second, .val (.int i1), .val (.int i2), .val (.int (i2 &&& (3 : Int32))), .val (.long qlen), .second, .val (.ref b1), .val (.int (0 : Int32)), .val (.int (0 : Int32)), .unset, .unset] [(.int (0 : Int32))]))
          refine Go.st (fun t k => XS.ifNo X26.here hx rfl (hb hby at_105) rfl (Jvm.Free.XT.i0_ne_f (by decide : (0 : Int32) = (0 : Int32))) k) ?_
          show Go p e below _ (T26.setTop (mkF m 108 #[.val (.long i0), .second, .val (.int i1), .val (.int i2), .val (.int (i2 &&& (3 : Int32))), .val (.long qlen), .second, .val (.ref b1), .val (.int (0 : Int32)), .val (.int (0 : Int32)), .unset, .unset] []))
          refine Go.st (fun t k => XS.lload X26.here hx rfl (hb hby at_108) rfl k) ?_
          show Go p e below _ (T26.setTop (mkF m 110 #[.val (.long i0), .second, .val (.int i1), .val (.int i2), .val (.int (i2 &&& (3 : Int32))), .val (.long qlen), .second, .val (.ref b1), .val (.int (0 : Int32)), .val (.int (0 : Int32)), .unset, .unset] [(.long qlen)]))
          refine Go.st (fun t k => XS.lconst X26.here hx rfl (hb hby at_110) k) ?_
          show Go p e below _ (T26.setTop (mkF m 111 #[.val (.long i0), .second, .val (.int i1), .val (.int i2), .val (.int (i2 &&& (3 : Int32))), .val (.long qlen), .second, .val (.ref b1), .val (.int (0 : Int32)), .val (.int (0 : Int32)), .unset, .unset] [(.long (0 : Int64)), (.long qlen)]))
          refine Go.st (fun t k => Jvm.Free.XT.lcmp X26.here hx rfl (hb hby at_111) rfl k) ?_
          show Go p e below _ (T26.setTop (mkF m 112 #[.val (.long i0), .second, .val (.int i1), .val (.int i2), .val (.int (i2 &&& (3 : Int32))), .val (.long qlen), .second, .val (.ref b1), .val (.int (0 : Int32)), .val (.int (0 : Int32)), .unset, .unset] [(.int (Jvm.Free.XT.cmpL qlen (0 : Int64)))]))
          refine Go.st (fun t k => XS.ifYes X26.here hx rfl (pc0 := 112) (pc' := 119) rfl (hb hby at_112) rfl (Jvm.Free.XT.ll_ne_t hc20) (by decide) (by decide) k) ?_
          show Go p e below _ (T26.setTop (mkF m 119 #[.val (.long i0), .second, .val (.int i1), .val (.int i2), .val (.int (i2 &&& (3 : Int32))), .val (.long qlen), .second, .val (.ref b1), .val (.int (0 : Int32)), .val (.int (0 : Int32)), .unset, .unset] []))
          refine Go.st (fun t k => XS.iconst X26.here hx rfl (hb hby at_119) k) ?_
          show Go p e below _ (T26.setTop (mkF m 120 #[.val (.long i0), .second, .val (.int i1), .val (.int i2), .val (.int (i2 &&& (3 : Int32))), .val (.long qlen), .second, .val (.ref b1), .val (.int (0 : Int32)), .val (.int (0 : Int32)), .unset, .unset] [(.int (0 : Int32))]))
          refine Go.st (fun t k => XS.istore X26.here hx rfl (hb hby at_120) rfl (l' := #[.val (.long i0), .second, .val (.int i1), .val (.int i2), .val (.int (i2 &&& (3 : Int32))), .val (.long qlen), .second, .val (.ref b1), .val (.int (0 : Int32)), .val (.int (0 : Int32)), .val (.int (0 : Int32)), .unset]) rfl k) ?_
          show Go p e below _ (T26.setTop (mkF m 122 #[.val (.long i0), .second, .val (.int i1), .val (.int i2), .val (.int (i2 &&& (3 : Int32))), .val (.long qlen), .second, .val (.ref b1), .val (.int (0 : Int32)), .val (.int (0 : Int32)), .val (.int (0 : Int32)), .unset] []))
          refine Go.st (fun t k => XS.iload X26.here hx rfl (hb hby at_122) rfl k) ?_
          show Go p e below _ (T26.setTop (mkF m 124 #[.val (.long i0), .second, .val (.int i1), .val (.int i2), .val (.int (i2 &&& (3 : Int32))), .val (.long qlen), .second, .val (.ref b1), .val (.int (0 : Int32)), .val (.int (0 : Int32)), .val (.int (0 : Int32)), .unset] [(.int (0 : Int32))]))
          refine Go.st (fun t k => XS.ifNo X26.here hx rfl (hb hby at_124) rfl (Jvm.Free.XT.i0_ne_f (by decide : (0 : Int32) = (0 : Int32))) k) ?_
          show Go p e below _ (T26.setTop (mkF m 127 #[.val (.long i0), .second, .val (.int i1), .val (.int i2), .val (.int (i2 &&& (3 : Int32))), .val (.long qlen), .second, .val (.ref b1), .val (.int (0 : Int32)), .val (.int (0 : Int32)), .val (.int (0 : Int32)), .unset] []))
          refine Go.st (fun t k => XS.iload X26.here hx rfl (hb hby at_127) rfl k) ?_
          show Go p e below _ (T26.setTop (mkF m 129 #[.val (.long i0), .second, .val (.int i1), .val (.int i2), .val (.int (i2 &&& (3 : Int32))), .val (.long qlen), .second, .val (.ref b1), .val (.int (0 : Int32)), .val (.int (0 : Int32)), .val (.int (0 : Int32)), .unset] [(.int (0 : Int32))]))
          refine Go.st (fun t k => XS.ifYes X26.here hx rfl (pc0 := 129) (pc' := 136) rfl (hb hby at_129) rfl (Jvm.Free.XT.i0_eq_t (by decide : (0 : Int32) = (0 : Int32))) (by decide) (by decide) k) ?_
          show Go p e below _ (T26.setTop (mkF m 136 #[.val (.long i0), .second, .val (.int i1), .val (.int i2), .val (.int (i2 &&& (3 : Int32))), .val (.long qlen), .second, .val (.ref b1), .val (.int (0 : Int32)), .val (.int (0 : Int32)), .val (.int (0 : Int32)), .unset] []))
          refine Go.st (fun t k => XS.iconst X26.here hx rfl (hb hby at_136) k) ?_
          show Go p e below _ (T26.setTop (mkF m 137 #[.val (.long i0), .second, .val (.int i1), .val (.int i2), .val (.int (i2 &&& (3 : Int32))), .val (.long qlen), .second, .val (.ref b1), .val (.int (0 : Int32)), .val (.int (0 : Int32)), .val (.int (0 : Int32)), .unset] [(.int (0 : Int32))]))
          refine Go.st (fun t k => XS.istore X26.here hx rfl (hb hby at_137) rfl (l' := #[.val (.long i0), .second, .val (.int i1), .val (.int i2), .val (.int (i2 &&& (3 : Int32))), .val (.long qlen), .second, .val (.ref b1), .val (.int (0 : Int32)), .val (.int (0 : Int32)), .val (.int (0 : Int32)), .val (.int (0 : Int32))]) rfl k) ?_
          show Go p e below _ (T26.setTop (mkF m 139 #[.val (.long i0), .second, .val (.int i1), .val (.int i2), .val (.int (i2 &&& (3 : Int32))), .val (.long qlen), .second, .val (.ref b1), .val (.int (0 : Int32)), .val (.int (0 : Int32)), .val (.int (0 : Int32)), .val (.int (0 : Int32))] []))
          refine Go.st (fun t k => XS.aload X26.here hx rfl (hb hby at_139) rfl rfl k) ?_
          show Go p e below _ (T26.setTop (mkF m 141 #[.val (.long i0), .second, .val (.int i1), .val (.int i2), .val (.int (i2 &&& (3 : Int32))), .val (.long qlen), .second, .val (.ref b1), .val (.int (0 : Int32)), .val (.int (0 : Int32)), .val (.int (0 : Int32)), .val (.int (0 : Int32))] [(.ref b1)]))
          obtain ⟨cq27, kq27, q27a, q27b, q27c⟩ := isOf hZ rfl (A1.keep K26c)
          obtain ⟨_, _, ⟨T27, L27, k27, n27⟩, -, X27, ⟨Lc27, hQ27, l27, y27, z27⟩, st27⟩ := X26.virtualBack hx (y := (⟨"com/example/outbound_courier/outboundcourier/http/BodyReader", "isDone", "()Z"⟩ : MethodName)) (z := (⟨"com/example/outbound_courier/outboundcourier/http/BodyReader", "isDone", "()Z"⟩ : MethodName)) hown (mvT hZ (w67 hw)) (mvT hZ (w68 hw)) (notFace_of_selects (args := #[]) (mvT hZ (w70 hw))) (mvT hZ (w70 hw)) (mvT hZ (w69 hw)) (by decide) (backOf (W := 0) (rm8_1 l Z a0 hw [] b1 w11a w15a T26.heap n0 O26 r26_15 Y17 D37 r26_16) hZ (w71 hw) (w2 hw) (by decide) (by decide)) q27a q27c (g := (mkF m 141 #[.val (.long i0), .second, .val (.int i1), .val (.int i2), .val (.int (i2 &&& (3 : Int32))), .val (.long qlen), .second, .val (.ref b1), .val (.int (0 : Int32)), .val (.int (0 : Int32)), .val (.int (0 : Int32)), .val (.int (0 : Int32))] [(.ref b1)])) rfl (by rw [hml]; rfl) (Steps.refl _) (argsL := []) (rest := []) (lenOf pd_3 rfl) rfl (by show 2 * 0 + _ ≤ _; exact Nat.le_of_eq rfl) (hb hby at_141) (fun vm₁ hw₁ => ⟨rfl, rfl, (by decide : 5 + 0 ≤ _), (by decide : 62 + 0 ≤ _)⟩)
          dsimp only [Pt.U, Pt.locs, Pt.cells, Pt.slots] at X27 l27 y27 z27 st27 hQ27
          subst l27 y27 z27
          obtain ⟨rfl, M27, eh27⟩ := hQ27
          have N27 := Fr.app N26 M27
          refine Go.tr st27 ?_
          show Go p e below _ (T27.setTop (mkF m 144 #[.val (.long i0), .second, .val (.int i1), .val (.int i2), .val (.int (i2 &&& (3 : Int32))), .val (.long qlen), .second, .val (.ref b1), .val (.int (0 : Int32)), .val (.int (0 : Int32)), .val (.int (0 : Int32)), .val (.int (0 : Int32))] [(.int (0 : Int32))]))
          refine Go.st (fun t k => XS.iload X27.here hx rfl (hb hby at_144) rfl k) ?_
          show Go p e below _ (T27.setTop (mkF m 146 #[.val (.long i0), .second, .val (.int i1), .val (.int i2), .val (.int (i2 &&& (3 : Int32))), .val (.long qlen), .second, .val (.ref b1), .val (.int (0 : Int32)), .val (.int (0 : Int32)), .val (.int (0 : Int32)), .val (.int (0 : Int32))] [(.int (0 : Int32)), (.int (0 : Int32))]))
          refine Go.st (fun t k => XS.icmpNo X27.here hx rfl (hb hby at_146) rfl (Jvm.Free.XT.ii_ne_f (by decide : (0 : Int32) = (0 : Int32))) k) ?_
          show Go p e below _ (T27.setTop (mkF m 149 #[.val (.long i0), .second, .val (.int i1), .val (.int i2), .val (.int (i2 &&& (3 : Int32))), .val (.long qlen), .second, .val (.ref b1), .val (.int (0 : Int32)), .val (.int (0 : Int32)), .val (.int (0 : Int32)), .val (.int (0 : Int32))] []))
          refine Go.st (fun t k => XS.aload X27.here hx rfl (hb hby at_149) rfl rfl k) ?_
          show Go p e below _ (T27.setTop (mkF m 151 #[.val (.long i0), .second, .val (.int i1), .val (.int i2), .val (.int (i2 &&& (3 : Int32))), .val (.long qlen), .second, .val (.ref b1), .val (.int (0 : Int32)), .val (.int (0 : Int32)), .val (.int (0 : Int32)), .val (.int (0 : Int32))] [(.ref b1)]))
          obtain ⟨cq28, kq28, q28a, q28b, q28c⟩ := isOf hZ eh27 (A1.keep K26c)
          obtain ⟨_, _, ⟨T28, L28, k28, n28⟩, -, X28, ⟨Lc28, hQ28, l28, y28, z28⟩, st28⟩ := X27.virtualBack hx (y := (⟨"com/example/outbound_courier/outboundcourier/http/BodyReader", "isTooLarge", "()Z"⟩ : MethodName)) (z := (⟨"com/example/outbound_courier/outboundcourier/http/BodyReader", "isTooLarge", "()Z"⟩ : MethodName)) hown (mvT hZ (w72 hw)) (mvT hZ (w73 hw)) (notFace_of_selects (args := #[]) (mvT hZ (w75 hw))) (mvT hZ (w75 hw)) (mvT hZ (w74 hw)) (by decide) (backOf (W := 0) (rm9_1 l Z a0 hw [] b1 T26.heap n0 O26 r26_16) hZ (w76 hw) (w2 hw) (by decide) (by decide)) q28a q28c (g := (mkF m 151 #[.val (.long i0), .second, .val (.int i1), .val (.int i2), .val (.int (i2 &&& (3 : Int32))), .val (.long qlen), .second, .val (.ref b1), .val (.int (0 : Int32)), .val (.int (0 : Int32)), .val (.int (0 : Int32)), .val (.int (0 : Int32))] [(.ref b1)])) rfl (by rw [hml]; rfl) (Steps.refl _) (argsL := []) (rest := []) (lenOf pd_3 rfl) rfl (by show 2 * 0 + _ ≤ _; exact Nat.le_of_eq rfl) (hb hby at_151) (fun vm₁ hw₁ => ⟨rfl, eh27, (by decide : 5 + 0 ≤ _), (by decide : 62 + 0 ≤ _)⟩)
          dsimp only [Pt.U, Pt.locs, Pt.cells, Pt.slots] at X28 l28 y28 z28 st28 hQ28
          subst l28 y28 z28
          obtain ⟨rfl, M28, eh28⟩ := hQ28
          have N28 := Fr.app N27 M28
          refine Go.tr st28 ?_
          show Go p e below _ (T28.setTop (mkF m 154 #[.val (.long i0), .second, .val (.int i1), .val (.int i2), .val (.int (i2 &&& (3 : Int32))), .val (.long qlen), .second, .val (.ref b1), .val (.int (0 : Int32)), .val (.int (0 : Int32)), .val (.int (0 : Int32)), .val (.int (0 : Int32))] [(.int (0 : Int32))]))
          refine Go.st (fun t k => XS.iload X28.here hx rfl (hb hby at_154) rfl k) ?_
          show Go p e below _ (T28.setTop (mkF m 156 #[.val (.long i0), .second, .val (.int i1), .val (.int i2), .val (.int (i2 &&& (3 : Int32))), .val (.long qlen), .second, .val (.ref b1), .val (.int (0 : Int32)), .val (.int (0 : Int32)), .val (.int (0 : Int32)), .val (.int (0 : Int32))] [(.int (0 : Int32)), (.int (0 : Int32))]))
          refine Go.st (fun t k => XS.icmpNo X28.here hx rfl (hb hby at_156) rfl (Jvm.Free.XT.ii_ne_f (by decide : (0 : Int32) = (0 : Int32))) k) ?_
          show Go p e below _ (T28.setTop (mkF m 159 #[.val (.long i0), .second, .val (.int i1), .val (.int i2), .val (.int (i2 &&& (3 : Int32))), .val (.long qlen), .second, .val (.ref b1), .val (.int (0 : Int32)), .val (.int (0 : Int32)), .val (.int (0 : Int32)), .val (.int (0 : Int32))] []))
          refine Go.st (fun t k => XS.aload X28.here hx rfl (hb hby at_159) rfl rfl k) ?_
          show Go p e below _ (T28.setTop (mkF m 161 #[.val (.long i0), .second, .val (.int i1), .val (.int i2), .val (.int (i2 &&& (3 : Int32))), .val (.long qlen), .second, .val (.ref b1), .val (.int (0 : Int32)), .val (.int (0 : Int32)), .val (.int (0 : Int32)), .val (.int (0 : Int32))] [(.ref b1)]))
          obtain ⟨cq29, kq29, q29a, q29b, q29c⟩ := isOf hZ eh28 (A1.keep K26c)
          obtain ⟨_, _, ⟨T29, L29, k29, n29⟩, -, X29, ⟨Lc29, hQ29, l29, y29, z29⟩, st29⟩ := X28.virtualBack hx (y := (⟨"com/example/outbound_courier/outboundcourier/http/BodyReader", "body", "()[B"⟩ : MethodName)) (z := (⟨"com/example/outbound_courier/outboundcourier/http/BodyReader", "body", "()[B"⟩ : MethodName)) hown (mvT hZ (w79 hw)) (mvT hZ (w80 hw)) (notFace_of_selects (args := #[]) (mvT hZ (w82 hw))) (mvT hZ (w82 hw)) (mvT hZ (w81 hw)) (by decide) (backOf (W := 0) (rm10_1 l Z a0 hw [] b1 b2_26 b2_1_3_26 k2_1_3_26 T26.heap n0 O26 r26_10 r26_17 g_b2_26 r26_19 r26_20 r26_24 r26_18) hZ (w83 hw) (w2 hw) (by decide) (by decide)) q29a q29c (g := (mkF m 161 #[.val (.long i0), .second, .val (.int i1), .val (.int i2), .val (.int (i2 &&& (3 : Int32))), .val (.long qlen), .second, .val (.ref b1), .val (.int (0 : Int32)), .val (.int (0 : Int32)), .val (.int (0 : Int32)), .val (.int (0 : Int32))] [(.ref b1)])) rfl (by rw [hml]; rfl) (Steps.refl _) (argsL := []) (rest := []) (lenOf pd_6 rfl) rfl (by show 2 * 0 + _ ≤ _; exact Nat.le_of_eq rfl) (hb hby at_161) (fun vm₁ hw₁ => ⟨rfl, eh28, (by decide : 5 + 1 ≤ _), (by decide : 62 + 0 ≤ _)⟩)
          dsimp only [Pt.U, Pt.locs, Pt.cells, Pt.slots] at X29 l29 y29 z29 st29 hQ29
          subst l29 y29 z29
          obtain ⟨b2_3_2_29, k2_3_2_29, rfl, M29, K29c, r29_0, r29_1, r29_2, r29_3⟩ := hQ29
          have N29 := Fr.app N28 M29
          have g_b2_3_2_29 : n0 ≤ b2_3_2_29 := Nat.le_trans (own_n0 O26) r29_0
          have O29 : Old Z n0 T29.heap := O26.keep K29c (allS g_b2_26 all0)
          refine Go.tr st29 ?_
          show Go p e below _ (T29.setTop (mkF m 164 #[.val (.long i0), .second, .val (.int i1), .val (.int i2), .val (.int (i2 &&& (3 : Int32))), .val (.long qlen), .second, .val (.ref b1), .val (.int (0 : Int32)), .val (.int (0 : Int32)), .val (.int (0 : Int32)), .val (.int (0 : Int32))] [(.ref b2_3_2_29)]))
          obtain ⟨cl30, Ar30, -, S30, M30, -, -⟩ := id r29_1
          refine Go.st (fun t k => X29.arraylength hx Ar30.1 (State.isArrayOf_alike hZ.alike Ar30.2.1) (g := (mkF m 164 #[.val (.long i0), .second, .val (.int i1), .val (.int i2), .val (.int (i2 &&& (3 : Int32))), .val (.long qlen), .second, .val (.ref b1), .val (.int (0 : Int32)), .val (.int (0 : Int32)), .val (.int (0 : Int32)), .val (.int (0 : Int32))] [(.ref b2_3_2_29)])) rfl rfl (hb hby at_164) t k) ?_
          rw [len_of S30 M30]
          show Go p e below _ (T29.setTop (mkF m 165 #[.val (.long i0), .second, .val (.int i1), .val (.int i2), .val (.int (i2 &&& (3 : Int32))), .val (.long qlen), .second, .val (.ref b1), .val (.int (0 : Int32)), .val (.int (0 : Int32)), .val (.int (0 : Int32)), .val (.int (0 : Int32))] [(.int (0 : Int32))]))
          refine Go.st (fun t k => XS.ifNo X29.here hx rfl (hb hby at_165) rfl (Jvm.Free.XT.i0_ne_f (by decide : (0 : Int32) = (0 : Int32))) k) ?_
          show Go p e below _ (T29.setTop (mkF m 168 #[.val (.long i0), .second, .val (.int i1), .val (.int i2), .val (.int (i2 &&& (3 : Int32))), .val (.long qlen), .second, .val (.ref b1), .val (.int (0 : Int32)), .val (.int (0 : Int32)), .val (.int (0 : Int32)), .val (.int (0 : Int32))] []))
          refine Go.st (fun t k => XS.iconst X29.here hx rfl (hb hby at_168) k) ?_
          show Go p e below _ (T29.setTop (mkF m 169 #[.val (.long i0), .second, .val (.int i1), .val (.int i2), .val (.int (i2 &&& (3 : Int32))), .val (.long qlen), .second, .val (.ref b1), .val (.int (0 : Int32)), .val (.int (0 : Int32)), .val (.int (0 : Int32)), .val (.int (0 : Int32))] [(.int (1 : Int32))]))
          refine Go.st (fun t k => XS.goto X29.here hx rfl (pc0 := 169) (pc' := 173) rfl (hb hby at_169) (by decide) (by decide) k) ?_
          show Go p e below _ (T29.setTop (mkF m 173 #[.val (.long i0), .second, .val (.int i1), .val (.int i2), .val (.int (i2 &&& (3 : Int32))), .val (.long qlen), .second, .val (.ref b1), .val (.int (0 : Int32)), .val (.int (0 : Int32)), .val (.int (0 : Int32)), .val (.int (0 : Int32))] [(.int (1 : Int32))]))
          obtain ⟨fs, hr, hrun, hended, hWd, hsame⟩ := X29.leave (v := some (.int (1 : Int32))) (fun h => by rw [Bd.returns] at h; cases h)
          refine ⟨_, _, ?_, hrun, hended, _, _, rfl, ?_, ⟨⟨_, rfl⟩, hWd, hsame.mono (by decide) (by decide)⟩⟩
          · exact retN X29 hx (t := .boolean) Bd.returns (by simp) (hb hby at_173) hr
          · exact ⟨rfl, N29⟩
  refine Go.st (fun t k => XS.iloadN X0.here hx rfl (hb hby at_0) rfl k) ?_
  show Go p e below _ (s₁.setTop (mkF m 1 #[.val (.long i0), .second, .val (.int i1), .val (.int i2), .unset, .unset, .unset, .unset, .unset, .unset, .unset, .unset] [(.int i2)]))
  refine Go.st (fun t k => XS.iconst X0.here hx rfl (hb hby at_1) k) ?_
  show Go p e below _ (s₁.setTop (mkF m 2 #[.val (.long i0), .second, .val (.int i1), .val (.int i2), .unset, .unset, .unset, .unset, .unset, .unset, .unset, .unset] [(.int (3 : Int32)), (.int i2)]))
  refine Go.st (fun t k => XS.iand X0.here hx rfl (hb hby at_2) rfl k) ?_
  show Go p e below _ (s₁.setTop (mkF m 3 #[.val (.long i0), .second, .val (.int i1), .val (.int i2), .unset, .unset, .unset, .unset, .unset, .unset, .unset, .unset] [(.int (i2 &&& (3 : Int32)))]))
  refine Go.st (fun t k => XS.istore X0.here hx rfl (hb hby at_3) rfl (l' := #[.val (.long i0), .second, .val (.int i1), .val (.int i2), .val (.int (i2 &&& (3 : Int32))), .unset, .unset, .unset, .unset, .unset, .unset, .unset]) rfl k) ?_
  show Go p e below _ (s₁.setTop (mkF m 5 #[.val (.long i0), .second, .val (.int i1), .val (.int i2), .val (.int (i2 &&& (3 : Int32))), .unset, .unset, .unset, .unset, .unset, .unset, .unset] []))
  refine Go.st (fun t k => XS.iload X0.here hx rfl (hb hby at_5) rfl k) ?_
  show Go p e below _ (s₁.setTop (mkF m 7 #[.val (.long i0), .second, .val (.int i1), .val (.int i2), .val (.int (i2 &&& (3 : Int32))), .unset, .unset, .unset, .unset, .unset, .unset, .unset] [(.int (i2 &&& (3 : Int32)))]))
  by_cases hc31 : (i2 &&& (3 : Int32)) = (0 : Int32)
  · refine Go.st (fun t k => XS.ifNo X0.here hx rfl (hb hby at_7) rfl (Jvm.Free.XT.i0_ne_f hc31) k) ?_
    show Go p e below _ (s₁.setTop (mkF m 10 #[.val (.long i0), .second, .val (.int i1), .val (.int i2), .val (.int (i2 &&& (3 : Int32))), .unset, .unset, .unset, .unset, .unset, .unset, .unset] []))
    refine Go.st (fun t k => X0.ldc2J hx hown (mvT hZ (w66 hw)) (g := (mkF m 10 #[.val (.long i0), .second, .val (.int i1), .val (.int i2), .val (.int (i2 &&& (3 : Int32))), .unset, .unset, .unset, .unset, .unset, .unset, .unset] [])) rfl (hb hby at_10) k) ?_
    show Go p e below _ (s₁.setTop (mkF m 13 #[.val (.long i0), .second, .val (.int i1), .val (.int i2), .val (.int (i2 &&& (3 : Int32))), .unset, .unset, .unset, .unset, .unset, .unset, .unset] [(.long (-1 : Int64))]))
    refine Go.st (fun t k => XS.lstore X0.here hx rfl (hb hby at_13) rfl (l' := #[.val (.long i0), .second, .val (.int i1), .val (.int i2), .val (.int (i2 &&& (3 : Int32))), .val (.long (-1 : Int64)), .second, .unset, .unset, .unset, .unset, .unset]) rfl k) ?_
    show Go p e below _ (s₁.setTop (mkF m 15 #[.val (.long i0), .second, .val (.int i1), .val (.int i2), .val (.int (i2 &&& (3 : Int32))), .val (.long (-1 : Int64)), .second, .unset, .unset, .unset, .unset, .unset] []))
    refine Go.st (fun t k => XS.goto X0.here hx rfl (pc0 := 15) (pc' := 55) rfl (hb hby at_15) (by decide) (by decide) k) ?_
    show Go p e below _ (s₁.setTop (mkF m 55 #[.val (.long i0), .second, .val (.int i1), .val (.int i2), .val (.int (i2 &&& (3 : Int32))), .val (.long (-1 : Int64)), .second, .unset, .unset, .unset, .unset, .unset] []))
    exact tail _
  · refine Go.st (fun t k => XS.ifYes X0.here hx rfl (pc0 := 7) (pc' := 18) rfl (hb hby at_7) rfl (Jvm.Free.XT.i0_ne_t hc31) (by decide) (by decide) k) ?_
    show Go p e below _ (s₁.setTop (mkF m 18 #[.val (.long i0), .second, .val (.int i1), .val (.int i2), .val (.int (i2 &&& (3 : Int32))), .unset, .unset, .unset, .unset, .unset, .unset, .unset] []))
    refine Go.st (fun t k => XS.iload X0.here hx rfl (hb hby at_18) rfl k) ?_
    show Go p e below _ (s₁.setTop (mkF m 20 #[.val (.long i0), .second, .val (.int i1), .val (.int i2), .val (.int (i2 &&& (3 : Int32))), .unset, .unset, .unset, .unset, .unset, .unset, .unset] [(.int (i2 &&& (3 : Int32)))]))
    refine Go.st (fun t k => XS.iconst X0.here hx rfl (hb hby at_20) k) ?_
    show Go p e below _ (s₁.setTop (mkF m 21 #[.val (.long i0), .second, .val (.int i1), .val (.int i2), .val (.int (i2 &&& (3 : Int32))), .unset, .unset, .unset, .unset, .unset, .unset, .unset] [(.int (1 : Int32)), (.int (i2 &&& (3 : Int32)))]))
    by_cases hc32 : (i2 &&& (3 : Int32)) = (1 : Int32)
    · refine Go.st (fun t k => XS.icmpNo X0.here hx rfl (hb hby at_21) rfl (Jvm.Free.XT.ii_ne_f hc32) k) ?_
      show Go p e below _ (s₁.setTop (mkF m 24 #[.val (.long i0), .second, .val (.int i1), .val (.int i2), .val (.int (i2 &&& (3 : Int32))), .unset, .unset, .unset, .unset, .unset, .unset, .unset] []))
      refine Go.st (fun t k => XS.lconst X0.here hx rfl (hb hby at_24) k) ?_
      show Go p e below _ (s₁.setTop (mkF m 25 #[.val (.long i0), .second, .val (.int i1), .val (.int i2), .val (.int (i2 &&& (3 : Int32))), .unset, .unset, .unset, .unset, .unset, .unset, .unset] [(.long (0 : Int64))]))
      refine Go.st (fun t k => XS.lstore X0.here hx rfl (hb hby at_25) rfl (l' := #[.val (.long i0), .second, .val (.int i1), .val (.int i2), .val (.int (i2 &&& (3 : Int32))), .val (.long (0 : Int64)), .second, .unset, .unset, .unset, .unset, .unset]) rfl k) ?_
      show Go p e below _ (s₁.setTop (mkF m 27 #[.val (.long i0), .second, .val (.int i1), .val (.int i2), .val (.int (i2 &&& (3 : Int32))), .val (.long (0 : Int64)), .second, .unset, .unset, .unset, .unset, .unset] []))
      refine Go.st (fun t k => XS.goto X0.here hx rfl (pc0 := 27) (pc' := 55) rfl (hb hby at_27) (by decide) (by decide) k) ?_
      show Go p e below _ (s₁.setTop (mkF m 55 #[.val (.long i0), .second, .val (.int i1), .val (.int i2), .val (.int (i2 &&& (3 : Int32))), .val (.long (0 : Int64)), .second, .unset, .unset, .unset, .unset, .unset] []))
      exact tail _
    · refine Go.st (fun t k => XS.icmpYes X0.here hx rfl (pc0 := 21) (pc' := 30) rfl (hb hby at_21) rfl (Jvm.Free.XT.ii_ne_t hc32) (by decide) (by decide) k) ?_
      show Go p e below _ (s₁.setTop (mkF m 30 #[.val (.long i0), .second, .val (.int i1), .val (.int i2), .val (.int (i2 &&& (3 : Int32))), .unset, .unset, .unset, .unset, .unset, .unset, .unset] []))
      refine Go.st (fun t k => XS.iload X0.here hx rfl (hb hby at_30) rfl k) ?_
      show Go p e below _ (s₁.setTop (mkF m 32 #[.val (.long i0), .second, .val (.int i1), .val (.int i2), .val (.int (i2 &&& (3 : Int32))), .unset, .unset, .unset, .unset, .unset, .unset, .unset] [(.int (i2 &&& (3 : Int32)))]))
      refine Go.st (fun t k => XS.iconst X0.here hx rfl (hb hby at_32) k) ?_
      show Go p e below _ (s₁.setTop (mkF m 33 #[.val (.long i0), .second, .val (.int i1), .val (.int i2), .val (.int (i2 &&& (3 : Int32))), .unset, .unset, .unset, .unset, .unset, .unset, .unset] [(.int (2 : Int32)), (.int (i2 &&& (3 : Int32)))]))
      by_cases hc33 : (i2 &&& (3 : Int32)) = (2 : Int32)
      · refine Go.st (fun t k => XS.icmpNo X0.here hx rfl (hb hby at_33) rfl (Jvm.Free.XT.ii_ne_f hc33) k) ?_
        show Go p e below _ (s₁.setTop (mkF m 36 #[.val (.long i0), .second, .val (.int i1), .val (.int i2), .val (.int (i2 &&& (3 : Int32))), .unset, .unset, .unset, .unset, .unset, .unset, .unset] []))
        refine Go.st (fun t k => XS.lloadN X0.here hx rfl (hb hby at_36) rfl k) ?_
        show Go p e below _ (s₁.setTop (mkF m 37 #[.val (.long i0), .second, .val (.int i1), .val (.int i2), .val (.int (i2 &&& (3 : Int32))), .unset, .unset, .unset, .unset, .unset, .unset, .unset] [(.long i0)]))
        refine Go.st (fun t k => XS.lstore X0.here hx rfl (hb hby at_37) rfl (l' := #[.val (.long i0), .second, .val (.int i1), .val (.int i2), .val (.int (i2 &&& (3 : Int32))), .val (.long i0), .second, .unset, .unset, .unset, .unset, .unset]) rfl k) ?_
        show Go p e below _ (s₁.setTop (mkF m 39 #[.val (.long i0), .second, .val (.int i1), .val (.int i2), .val (.int (i2 &&& (3 : Int32))), .val (.long i0), .second, .unset, .unset, .unset, .unset, .unset] []))
        refine Go.st (fun t k => XS.goto X0.here hx rfl (pc0 := 39) (pc' := 55) rfl (hb hby at_39) (by decide) (by decide) k) ?_
        show Go p e below _ (s₁.setTop (mkF m 55 #[.val (.long i0), .second, .val (.int i1), .val (.int i2), .val (.int (i2 &&& (3 : Int32))), .val (.long i0), .second, .unset, .unset, .unset, .unset, .unset] []))
        exact tail _
      · refine Go.st (fun t k => XS.icmpYes X0.here hx rfl (pc0 := 33) (pc' := 42) rfl (hb hby at_33) rfl (Jvm.Free.XT.ii_ne_t hc33) (by decide) (by decide) k) ?_
        show Go p e below _ (s₁.setTop (mkF m 42 #[.val (.long i0), .second, .val (.int i1), .val (.int i2), .val (.int (i2 &&& (3 : Int32))), .unset, .unset, .unset, .unset, .unset, .unset, .unset] []))
        refine Go.st (fun t k => XS.iloadN X0.here hx rfl (hb hby at_42) rfl k) ?_
        show Go p e below _ (s₁.setTop (mkF m 43 #[.val (.long i0), .second, .val (.int i1), .val (.int i2), .val (.int (i2 &&& (3 : Int32))), .unset, .unset, .unset, .unset, .unset, .unset, .unset] [(.int i1)]))
        refine Go.st (fun t k => XS.i2l X0.here hx rfl (hb hby at_43) rfl k) ?_
        show Go p e below _ (s₁.setTop (mkF m 44 #[.val (.long i0), .second, .val (.int i1), .val (.int i2), .val (.int (i2 &&& (3 : Int32))), .unset, .unset, .unset, .unset, .unset, .unset, .unset] [(.long (i1.toInt64))]))
        refine Go.st (fun t k => XS.iloadN X0.here hx rfl (hb hby at_44) rfl k) ?_
        show Go p e below _ (s₁.setTop (mkF m 45 #[.val (.long i0), .second, .val (.int i1), .val (.int i2), .val (.int (i2 &&& (3 : Int32))), .unset, .unset, .unset, .unset, .unset, .unset, .unset] [(.int i2), (.long (i1.toInt64))]))
        refine Go.st (fun t k => XS.iconst X0.here hx rfl (hb hby at_45) k) ?_
        show Go p e below _ (s₁.setTop (mkF m 46 #[.val (.long i0), .second, .val (.int i1), .val (.int i2), .val (.int (i2 &&& (3 : Int32))), .unset, .unset, .unset, .unset, .unset, .unset, .unset] [(.int (2 : Int32)), (.int i2), (.long (i1.toInt64))]))
        refine Go.st (fun t k => XS.iushr X0.here hx rfl (hb hby at_46) rfl k) ?_
        show Go p e below _ (s₁.setTop (mkF m 47 #[.val (.long i0), .second, .val (.int i1), .val (.int i2), .val (.int (i2 &&& (3 : Int32))), .unset, .unset, .unset, .unset, .unset, .unset, .unset] [(.int ((i2.toUInt32 >>> ((2 : Int32) &&& 31).toUInt32).toInt32)), (.long (i1.toInt64))]))
        refine Go.st (fun t k => XS.iconst X0.here hx rfl (hb hby at_47) k) ?_
        show Go p e below _ (s₁.setTop (mkF m 48 #[.val (.long i0), .second, .val (.int i1), .val (.int i2), .val (.int (i2 &&& (3 : Int32))), .unset, .unset, .unset, .unset, .unset, .unset, .unset] [(.int (3 : Int32)), (.int ((i2.toUInt32 >>> ((2 : Int32) &&& 31).toUInt32).toInt32)), (.long (i1.toInt64))]))
        refine Go.st (fun t k => XS.iand X0.here hx rfl (hb hby at_48) rfl k) ?_
        show Go p e below _ (s₁.setTop (mkF m 49 #[.val (.long i0), .second, .val (.int i1), .val (.int i2), .val (.int (i2 &&& (3 : Int32))), .unset, .unset, .unset, .unset, .unset, .unset, .unset] [(.int (((i2.toUInt32 >>> ((2 : Int32) &&& 31).toUInt32).toInt32) &&& (3 : Int32))), (.long (i1.toInt64))]))
        refine Go.st (fun t k => XS.iconst X0.here hx rfl (hb hby at_49) k) ?_
        show Go p e below _ (s₁.setTop (mkF m 50 #[.val (.long i0), .second, .val (.int i1), .val (.int i2), .val (.int (i2 &&& (3 : Int32))), .unset, .unset, .unset, .unset, .unset, .unset, .unset] [(.int (1 : Int32)), (.int (((i2.toUInt32 >>> ((2 : Int32) &&& 31).toUInt32).toInt32) &&& (3 : Int32))), (.long (i1.toInt64))]))
        refine Go.st (fun t k => XS.isub X0.here hx rfl (hb hby at_50) rfl k) ?_
        show Go p e below _ (s₁.setTop (mkF m 51 #[.val (.long i0), .second, .val (.int i1), .val (.int i2), .val (.int (i2 &&& (3 : Int32))), .unset, .unset, .unset, .unset, .unset, .unset, .unset] [(.int ((((i2.toUInt32 >>> ((2 : Int32) &&& 31).toUInt32).toInt32) &&& (3 : Int32)) - (1 : Int32))), (.long (i1.toInt64))]))
        refine Go.st (fun t k => XS.i2l X0.here hx rfl (hb hby at_51) rfl k) ?_
        show Go p e below _ (s₁.setTop (mkF m 52 #[.val (.long i0), .second, .val (.int i1), .val (.int i2), .val (.int (i2 &&& (3 : Int32))), .unset, .unset, .unset, .unset, .unset, .unset, .unset] [(.long (((((i2.toUInt32 >>> ((2 : Int32) &&& 31).toUInt32).toInt32) &&& (3 : Int32)) - (1 : Int32)).toInt64)), (.long (i1.toInt64))]))
        refine Go.st (fun t k => XS.ladd X0.here hx rfl (hb hby at_52) rfl k) ?_
        show Go p e below _ (s₁.setTop (mkF m 53 #[.val (.long i0), .second, .val (.int i1), .val (.int i2), .val (.int (i2 &&& (3 : Int32))), .unset, .unset, .unset, .unset, .unset, .unset, .unset] [(.long ((i1.toInt64) + (((((i2.toUInt32 >>> ((2 : Int32) &&& 31).toUInt32).toInt32) &&& (3 : Int32)) - (1 : Int32)).toInt64)))]))
        refine Go.st (fun t k => XS.lstore X0.here hx rfl (hb hby at_53) rfl (l' := #[.val (.long i0), .second, .val (.int i1), .val (.int i2), .val (.int (i2 &&& (3 : Int32))), .val (.long ((i1.toInt64) + (((((i2.toUInt32 >>> ((2 : Int32) &&& 31).toUInt32).toInt32) &&& (3 : Int32)) - (1 : Int32)).toInt64))), .second, .unset, .unset, .unset, .unset, .unset]) rfl k) ?_
        show Go p e below _ (s₁.setTop (mkF m 55 #[.val (.long i0), .second, .val (.int i1), .val (.int i2), .val (.int (i2 &&& (3 : Int32))), .val (.long ((i1.toInt64) + (((((i2.toUInt32 >>> ((2 : Int32) &&& 31).toUInt32).toInt32) &&& (3 : Int32)) - (1 : Int32)).toInt64))), .second, .unset, .unset, .unset, .unset, .unset] []))
        exact tail _
set_option maxRecDepth 65536 in
set_option maxHeartbeats 40000000 in
theorem comes_1 {Post : Tables → Env → Array Value → State → Outcome → State → Prop} (hpost : ∀ tb e args s v u, (limb_1_1.after args s (.returned v) u = true ∧ limb_1_2.after args s (.returned v) u = true ∧ True) → FrameEnd s (.returned v) u (Jvm.fieldLocs frame_1_writes args s ++ Jvm.arrayLocs frame_1_arrays args s ++ Jvm.staticLocs frame_1_statics s) 24 192 → Post tb e args s (.returned v) u) :
    ArmFor flags0 classFile x code maxLocals ret World_1 tables_1 room_1 Calls_1 rest_1 Pre_1 Post := by
  intro l hfl _ _ p e ha hc hk s m args below hf hA hF happ hP
  obtain ⟨hcalls, hrest, hpre⟩ := hP
  obtain ⟨-, -, -, hnamed, -, -, -, hat⟩ := (Spec.applies_iff hf).mp happ
  obtain ⟨hg, hn⟩ := and_e (Cond.before_iff.mp (show (Jvm.Cond.and given_1 narrow_1).before args s = true from hpre))
  obtain ⟨hcnt, hg⟩ := and_e hg
  obtain ⟨hv0, hg⟩ := and_e hg
  obtain ⟨hv1, hg⟩ := and_e hg
  have hv2 := hg
  obtain ⟨w0, w1, w2, rfl⟩ : ∃ w0 w1 w2 : Value, args = #[w0, w1, w2] := by
    have hs : args.size = 3 := by simpa [Cond.value, given_1] using hcnt
    obtain ⟨L⟩ := args
    match L, hs with
    | [w0, w1, w2], _ => exact ⟨w0, w1, w2, rfl⟩
  have hw := fun d (hd : d ∈ tables_1) => atoms_spec (ws := Jvm.Cond.code x code maxLocals ret :: tables_1) hat d (List.mem_cons_of_mem _ hd)
  have hfit : Fit s := fun {y c} hc i hi => by
    obtain ⟨ha, rfl⟩ := Array.getElem?_eq_some_iff.mp hc
    have q := List.all_eq_true.mp ((Array.all_eq_true_iff_forall_mem.mp hF) _ (Array.getElem_mem ha)) i (List.mem_range.mpr hi)
    simpa [Array.getElem?_eq_getElem hi] using q
  obtain ⟨hsets, hown0⟩ := atoms_of _ (rest_1_c_eq ▸ (show rest_1_c.before _ s = true from hrest))
  have hr0 := Cond.before_iff.mp hown0
  obtain ⟨i0, ei0⟩ := isL_v hv0
  obtain rfl : w0 = (.long i0) := Option.some.inj ei0
  obtain ⟨i1, ei1⟩ := is_v hv1
  obtain rfl : w1 = (.int i1) := Option.some.inj ei1
  obtain ⟨i2, ei2⟩ := is_v hv2
  obtain rfl : w2 = (.int i2) := Option.some.inj ei2
  obtain ⟨u1, u2⟩ := and_e hn
  obtain ⟨u3, u4⟩ := and_e u2
  obtain ⟨u5, u6⟩ := and_e u4
  obtain ⟨u7, u8⟩ := and_e u6
  obtain ⟨u9, u10⟩ := and_e u8
  obtain ⟨w11a, ev12⟩ := exa_v u1
  have Y13 : Sta s s.heap "com/example/outbound_courier/outboundcourier/http/BodyReader$State" "DATA" "Lcom/example/outbound_courier/outboundcourier/http/BodyReader$State;" (.ref w11a) := Sta.start ev12 (Or.inr ⟨(w60 hw), (w61 hw)⟩)
  obtain ⟨w15a, ev16⟩ := exa_v u3
  have Y17 : Sta s s.heap "com/example/outbound_courier/outboundcourier/http/BodyReader$State" "DONE" "Lcom/example/outbound_courier/outboundcourier/http/BodyReader$State;" (.ref w15a) := Sta.start ev16 (Or.inr ⟨(w60 hw), (w65 hw)⟩)
  obtain ⟨w19a, ev20⟩ := exa_v u9
  have Y21 : Sta s s.heap "com/example/outbound_courier/outboundcourier/http/BodyReader$State" "SIZE_LINE" "Lcom/example/outbound_courier/outboundcourier/http/BodyReader$State;" (.ref w19a) := Sta.start ev20 (Or.inr ⟨(w60 hw), (w104 hw)⟩)
  obtain ⟨w23i, ev24⟩ := is_v (Cond.before_iff.mp (hsets _ (List.mem_of_getElem? (i := 1) rfl)))
  have Y25 : Sta s s.heap "java/lang/String" "COMPACT_STRINGS" "Z" (.int w23i) := Sta.start ev24 (Or.inl (hsets _ (List.mem_of_getElem? (i := 0) rfl)))
  have ev26 : (Term.field (Term.static "com/example/outbound_courier/outboundcourier/http/BodyReader$State" "DATA" "Lcom/example/outbound_courier/outboundcourier/http/BodyReader$State;") "java/lang/Enum" "ordinal" "I").eval _ s none [] s = some (.int (1 : Int32)) := own_valI u5
  have Y27 : Fld s s.heap w11a "java/lang/Enum" "ordinal" "I" (.int (1 : Int32)) := Fld.start ((fld_at ev12).symm.trans ev26)
  have ev28 : (Term.field (Term.static "com/example/outbound_courier/outboundcourier/http/BodyReader$State" "DONE" "Lcom/example/outbound_courier/outboundcourier/http/BodyReader$State;") "java/lang/Enum" "ordinal" "I").eval _ s none [] s = some (.int (4 : Int32)) := own_valI u7
  have Y29 : Fld s s.heap w15a "java/lang/Enum" "ordinal" "I" (.int (4 : Int32)) := Fld.start ((fld_at ev16).symm.trans ev28)
  have ev30 : (Term.field (Term.static "com/example/outbound_courier/outboundcourier/http/BodyReader$State" "SIZE_LINE" "Lcom/example/outbound_courier/outboundcourier/http/BodyReader$State;") "java/lang/Enum" "ordinal" "I").eval _ s none [] s = some (.int (0 : Int32)) := own_valI u10
  have Y31 : Fld s s.heap w19a "java/lang/Enum" "ordinal" "I" (.int (0 : Int32)) := Fld.start ((fld_at ev20).symm.trans ev30)
  have Y32 : ¬ (w23i = (0 : Int32)) := own_neI ev24 (Cond.before_iff.mp (hsets _ (List.mem_of_getElem? (i := 2) rfl)))
  have D37 : w11a ≠ w15a := Fld.ne Y27 Y29 (fun q => absurd (Value.int.inj q) (by decide))
  have D39 : w15a ≠ w19a := Fld.ne Y29 Y31 (fun q => absurd (Value.int.inj q) (by decide))
  obtain ⟨n, o, h1, h2, h3, _, L, rfl, ⟨rfl, N⟩, hq⟩ := rm0 l s _ hw tables_1 i0 i1 i2 w11a w15a w19a w23i s.heap s.heap.size (Old.start s) Y13 Y17 Y21 Y25 Y32 D37 D39 p e ha hc hk s m _ below hf ((Spec.applies_iff_loose hf).mp happ).1 ⟨rfl, State.Warmed39.refl s, rfl⟩ trivial
  refine ⟨n, _, h1, h2, h3, hpost _ _ _ _ _ _ ⟨Cond.after_iff.mpr rfl, Cond.after_iff.mpr (eq_i res_at (Term.int_eval (1)) rfl), trivial⟩ ⟨hq.1, hq.2.1, (hq.2.2.sift fun y hy => Or.inr (N y hy)).mono (by decide) (by decide)⟩⟩
theorem main_1_1 : Claimed_1_1 := comes_1 fun _ _ _ _ _ _ h hF => ⟨h.1, hF⟩
theorem main_1_2 : Claimed_1_2 := comes_1 fun _ _ _ _ _ _ h hF => ⟨h.2.1, hF⟩
end Jvm.Pilot.@@N@@
namespace Jvm.Pilot.@@N@@
open Jvm Jvm.ClassFile Sem Op Lib Jvm.Free Jvm.Stand Jvm.Pilot.@@N@@.Jvm.D
/-! MADE BY PROGRAM (witnessworld.py) out of the Statement's table words and the real class files: 30 classes; the members and pool entries that the words name. The judged class is class 1, her method 1. -/
namespace start1
open Jvm.ClassFile
def u (s : String) : CpInfo := .utf8 (stringToUtf16 s)
/-- a pool by its gaps: so many unusable entries, then the entry; so many at the end -/
def gap : Nat → List CpInfo → List CpInfo
  | 0, r => r
  | n + 1, r => .unusable :: gap n r
def poolList (es : List (Nat × CpInfo)) (last : Nat) : List CpInfo := es.foldr (fun e r => gap e.1 (e.2 :: r)) (gap last [])
def pool (es : List (Nat × CpInfo)) (last : Nat) : Array CpInfo := ⟨poolList es last⟩
def fileOf (pool : Array CpInfo) (this : Nat) (attrs : Array Attribute := #[]) (ms : Array MethodInfo := #[]) (fl : Nat := 33) (sup : Nat := 0) (ifs : Array Nat := #[]) (fds : Array FieldInfo := #[]) : ClassFile where
  minorVersion := 0
  majorVersion := 65
  constantPool := pool
  accessFlags := fl
  thisClass := this
  superClass := sup
  interfaces := ifs
  fields := fds
  methods := ms
  attributes := attrs
def plain (name : String) (sup : Option ClassId) : Class where
  name := name
  kind := .ordinary
  loader := none
  accessFlags := 33
  super := sup
  interfaces := #[]
  cf := none
  fields := #[]
  methods := #[]
  instanceTypes := #[]
  staticTypes := #[]
  resolved := #[]
  callSites := []
  init := .initialized
  statics := none
  mirror := none

def pool0 : Array CpInfo := pool [(5, u "<init>"), (0, u "()V"), (1, .class_ 10), (1, u "java/lang/Object")] 113

def k0c0 : Code := { maxStack := 0, maxLocals := 1, code := object_method_1_code, exceptionTable := #[], attributes := #[] }
def k0m0 : Method := { name := "<init>", desc := "()V", sig := { parameters := [], returnType := none }, accessFlags := 1, code := some k0c0 }
/-- java/lang/Object -/
def k0 : Class := { plain "java/lang/Object" none with
  accessFlags := 33
  interfaces := #[]
  cf := some (fileOf pool0 8 #[] #[{ accessFlags := 1, nameIndex := 5, descriptorIndex := 6, attributes := #[] }] 33 0 #[] #[])
  fields := #[]
  methods := #[k0m0]
  instanceTypes := #[]
  staticTypes := #[]
  resolved := Array.replicate 124 none
  statics := none }

def pool1 : Array CpInfo := pool [(2, .class_ 4), (1, u "java/lang/Object"), (0, u "<init>"), (0, u "()V"), (0, .long 18446744073709551615), (1, .class_ 10), (0, u "com/example/outbound_courier/outboundcourier/http/BodyReader"), (0, .methodref 9 12), (0, .nameAndType 5 13), (0, u "(JI)V"), (0, .methodref 9 15), (0, .nameAndType 16 17), (0, u "isDone"), (0, u "()Z"), (0, .methodref 9 19), (0, .nameAndType 20 17), (0, u "isTooLarge"), (0, .methodref 9 22), (0, .nameAndType 23 24), (0, u "body"), (0, u "()[B"), (0, .class_ 26), (0, u "com/example/outbound_courier/outboundcourier/http/BodyReaderIsDonePinLaw"), (2, u "law"), (0, u "(JII)Z")] 3

def k1m0 : Method := { name := "<init>", desc := "()V", sig := { parameters := [], returnType := none }, accessFlags := 1, code := none }
def k1c1 : Code := { maxStack := 5, maxLocals := 12, code := code, exceptionTable := #[], attributes := #[] }
def k1m1 : Method := { name := "law", desc := "(JII)Z", sig := { parameters := [.long, .int, .int], returnType := some .boolean }, accessFlags := 9, code := some k1c1 }
/-- com/example/outbound_courier/outboundcourier/http/BodyReaderIsDonePinLaw -/
def k1 : Class := { plain "com/example/outbound_courier/outboundcourier/http/BodyReaderIsDonePinLaw" (some 0) with
  accessFlags := 49
  interfaces := #[]
  cf := some (fileOf pool1 25 #[] #[{ accessFlags := 1, nameIndex := 5, descriptorIndex := 6, attributes := #[] }, { accessFlags := 9, nameIndex := 29, descriptorIndex := 30, attributes := #[] }] 49 2 #[] #[])
  fields := #[]
  methods := #[k1m0, k1m1]
  instanceTypes := #[]
  staticTypes := #[]
  resolved := Array.replicate 34 none
  statics := none }

def pool2 : Array CpInfo := pool [(3, .methodref 4 5), (0, .class_ 6), (0, .nameAndType 7 8), (0, u "java/lang/Object"), (0, u "<init>"), (0, u "()V"), (0, .class_ 10), (0, u "java/io/ByteArrayOutputStream"), (0, .methodref 9 5), (0, .fieldref 13 14), (0, .class_ 15), (0, .nameAndType 16 17), (0, u "com/example/outbound_courier/outboundcourier/http/BodyReader"), (0, u "kept"), (0, u "Ljava/io/ByteArrayOutputStream;"), (0, .class_ 19), (0, u "java/lang/StringBuilder"), (0, .methodref 18 5), (0, .fieldref 13 22), (0, .nameAndType 23 24), (0, u "line"), (0, u "Ljava/lang/StringBuilder;"), (0, .fieldref 13 26), (0, .nameAndType 27 28), (0, u "maxBytes"), (0, u "I"), (2, .long 18446744073709551615), (1, .fieldref 13 34), (0, .nameAndType 35 36), (0, u "chunked"), (0, u "Z"), (0, .fieldref 13 38), (0, .nameAndType 39 40), (0, u "left"), (0, u "J"), (0, .fieldref 42 43), (0, .class_ 44), (0, .nameAndType 45 46), (0, u "com/example/outbound_courier/outboundcourier/http/BodyReader$State"), (0, u "SIZE_LINE"), (0, u "Lcom/example/outbound_courier/outboundcourier/http/BodyReader$State;"), (0, .fieldref 42 48), (0, .nameAndType 49 46), (0, u "DATA"), (0, .fieldref 13 51), (0, .nameAndType 52 46), (0, u "state"), (0, .fieldref 13 54), (0, .nameAndType 55 36), (0, u "tooLarge"), (0, .fieldref 42 57), (0, .nameAndType 58 46), (0, u "DONE"), (5, u "()Z"), (32, .methodref 9 98), (0, .nameAndType 99 100), (0, u "toByteArray"), (0, u "()[B"), (87, u "trailerBytes"), (13, u "MAX_LINE_BYTES"), (2, u "MAX_TRAILER_BYTES"), (1, u "MAX_SIZE_DIGITS"), (1, u "(JI)V"), (5, u "isDone"), (0, u "isTooLarge"), (0, u "body")] 20

def k2c0 : Code := { maxStack := 5, maxLocals := 4, code := prog_4_method_1_code, exceptionTable := #[], attributes := #[] }
def k2m0 : Method := { name := "<init>", desc := "(JI)V", sig := { parameters := [.long, .int], returnType := none }, accessFlags := 0, code := some k2c0 }
def k2c1 : Code := { maxStack := 2, maxLocals := 1, code := prog_4_method_3_code, exceptionTable := #[], attributes := #[] }
def k2m1 : Method := { name := "isDone", desc := "()Z", sig := { parameters := [], returnType := some .boolean }, accessFlags := 0, code := some k2c1 }
def k2c2 : Code := { maxStack := 1, maxLocals := 1, code := prog_4_method_4_code, exceptionTable := #[], attributes := #[] }
def k2m2 : Method := { name := "isTooLarge", desc := "()Z", sig := { parameters := [], returnType := some .boolean }, accessFlags := 0, code := some k2c2 }
def k2c3 : Code := { maxStack := 1, maxLocals := 1, code := prog_4_method_5_code, exceptionTable := #[], attributes := #[] }
def k2m3 : Method := { name := "body", desc := "()[B", sig := { parameters := [], returnType := some (.array .byte) }, accessFlags := 0, code := some k2c3 }
/-- com/example/outbound_courier/outboundcourier/http/BodyReader -/
def k2 : Class := { plain "com/example/outbound_courier/outboundcourier/http/BodyReader" (some 0) with
  accessFlags := 48
  interfaces := #[]
  cf := some (fileOf pool2 13 #[.nestMembers #[42]] #[{ accessFlags := 0, nameIndex := 7, descriptorIndex := 209, attributes := #[] }, { accessFlags := 0, nameIndex := 215, descriptorIndex := 64, attributes := #[] }, { accessFlags := 0, nameIndex := 216, descriptorIndex := 64, attributes := #[] }, { accessFlags := 0, nameIndex := 217, descriptorIndex := 100, attributes := #[] }] 48 4 #[] #[{ accessFlags := 26, nameIndex := 202, descriptorIndex := 28, attributes := #[] }, { accessFlags := 26, nameIndex := 205, descriptorIndex := 28, attributes := #[] }, { accessFlags := 26, nameIndex := 207, descriptorIndex := 28, attributes := #[] }, { accessFlags := 18, nameIndex := 27, descriptorIndex := 28, attributes := #[] }, { accessFlags := 18, nameIndex := 35, descriptorIndex := 36, attributes := #[] }, { accessFlags := 18, nameIndex := 16, descriptorIndex := 17, attributes := #[] }, { accessFlags := 18, nameIndex := 23, descriptorIndex := 24, attributes := #[] }, { accessFlags := 2, nameIndex := 39, descriptorIndex := 40, attributes := #[] }, { accessFlags := 2, nameIndex := 188, descriptorIndex := 28, attributes := #[] }, { accessFlags := 2, nameIndex := 52, descriptorIndex := 46, attributes := #[] }, { accessFlags := 2, nameIndex := 55, descriptorIndex := 36, attributes := #[] }])
  fields := #[{ name := "MAX_LINE_BYTES", type := .int, accessFlags := 26, slot := 0, constantValue := 0 }, { name := "MAX_TRAILER_BYTES", type := .int, accessFlags := 26, slot := 1, constantValue := 0 }, { name := "MAX_SIZE_DIGITS", type := .int, accessFlags := 26, slot := 2, constantValue := 0 }, { name := "maxBytes", type := .int, accessFlags := 18, slot := 0, constantValue := 0 }, { name := "chunked", type := .boolean, accessFlags := 18, slot := 1, constantValue := 0 }, { name := "kept", type := (.object "java/io/ByteArrayOutputStream"), accessFlags := 18, slot := 2, constantValue := 0 }, { name := "line", type := (.object "java/lang/StringBuilder"), accessFlags := 18, slot := 3, constantValue := 0 }, { name := "left", type := .long, accessFlags := 2, slot := 4, constantValue := 0 }, { name := "trailerBytes", type := .int, accessFlags := 2, slot := 5, constantValue := 0 }, { name := "state", type := (.object "com/example/outbound_courier/outboundcourier/http/BodyReader$State"), accessFlags := 2, slot := 6, constantValue := 0 }, { name := "tooLarge", type := .boolean, accessFlags := 2, slot := 7, constantValue := 0 }]
  methods := #[k2m0, k2m1, k2m2, k2m3]
  instanceTypes := #[.int, .boolean, (.object "java/io/ByteArrayOutputStream"), (.object "java/lang/StringBuilder"), .long, .int, (.object "com/example/outbound_courier/outboundcourier/http/BodyReader$State"), .boolean]
  staticTypes := #[.int, .int, .int]
  resolved := Array.replicate 238 none
  statics := none }

def pool3 : Array CpInfo := pool [(1, .class_ 2), (0, u "java/lang/AutoCloseable"), (0, .class_ 4), (0, u "java/lang/Object")] 7

/-- java/lang/AutoCloseable -/
def k3 : Class := { plain "java/lang/AutoCloseable" (some 0) with
  accessFlags := 1537
  interfaces := #[]
  cf := some (fileOf pool3 1 #[] #[] 1537 3 #[] #[])
  fields := #[]
  methods := #[]
  instanceTypes := #[]
  staticTypes := #[]
  resolved := Array.replicate 12 none
  statics := none }

def pool4 : Array CpInfo := pool [(1, .class_ 2), (0, u "java/io/Closeable"), (0, .class_ 4), (0, u "java/lang/Object"), (0, .class_ 6), (0, u "java/lang/AutoCloseable")] 7

/-- java/io/Closeable -/
def k4 : Class := { plain "java/io/Closeable" (some 0) with
  accessFlags := 1537
  interfaces := #[3]
  cf := some (fileOf pool4 1 #[] #[] 1537 3 #[5] #[])
  fields := #[]
  methods := #[]
  instanceTypes := #[]
  staticTypes := #[]
  resolved := Array.replicate 14 none
  statics := none }

def pool5 : Array CpInfo := pool [(1, .class_ 2), (0, u "java/io/Flushable"), (0, .class_ 4), (0, u "java/lang/Object")] 7

/-- java/io/Flushable -/
def k5 : Class := { plain "java/io/Flushable" (some 0) with
  accessFlags := 1537
  interfaces := #[]
  cf := some (fileOf pool5 1 #[] #[] 1537 3 #[] #[])
  fields := #[]
  methods := #[]
  instanceTypes := #[]
  staticTypes := #[]
  resolved := Array.replicate 12 none
  statics := none }

def pool6 : Array CpInfo := pool [(1, .methodref 2 3), (0, .class_ 4), (0, .nameAndType 5 6), (0, u "java/lang/Object"), (0, u "<init>"), (0, u "()V"), (0, .class_ 8), (0, u "java/io/OutputStream$1"), (2, .class_ 13), (1, u "java/io/OutputStream"), (11, .class_ 26), (0, u "java/io/Closeable"), (0, .class_ 28), (0, u "java/io/Flushable")] 24

def k6c0 : Code := { maxStack := 1, maxLocals := 1, code := jdk_2038_method_1_code, exceptionTable := #[], attributes := #[] }
def k6m0 : Method := { name := "<init>", desc := "()V", sig := { parameters := [], returnType := none }, accessFlags := 1, code := some k6c0 }
/-- java/io/OutputStream -/
def k6 : Class := { plain "java/io/OutputStream" (some 0) with
  accessFlags := 1057
  interfaces := #[4, 5]
  cf := some (fileOf pool6 11 #[.nestMembers #[7]] #[{ accessFlags := 1, nameIndex := 5, descriptorIndex := 6, attributes := #[] }] 1057 2 #[25, 27] #[])
  fields := #[]
  methods := #[k6m0]
  instanceTypes := #[]
  staticTypes := #[]
  resolved := Array.replicate 53 none
  statics := none }

def pool7 : Array CpInfo := pool [(1, .methodref 2 3), (0, .class_ 4), (0, .nameAndType 5 6), (0, u "java/io/ByteArrayOutputStream"), (0, u "<init>"), (0, u "(I)V"), (0, .methodref 8 9), (0, .class_ 10), (0, .nameAndType 5 11), (0, u "java/io/OutputStream"), (0, u "()V"), (21, .fieldref 2 34), (0, .nameAndType 35 36), (0, u "buf"), (0, u "[B"), (6, .methodref 44 45), (0, .class_ 46), (0, .nameAndType 47 48), (0, u "java/util/Arrays"), (0, u "copyOf"), (0, u "([BI)[B"), (0, .fieldref 2 50), (0, .nameAndType 51 52), (0, u "count"), (0, u "I"), (73, u "toByteArray"), (0, u "()[B")] 17

def k7c0 : Code := { maxStack := 2, maxLocals := 1, code := jdk_2005_method_1_code, exceptionTable := #[], attributes := #[] }
def k7m0 : Method := { name := "<init>", desc := "()V", sig := { parameters := [], returnType := none }, accessFlags := 1, code := some k7c0 }
def k7c1 : Code := { maxStack := 4, maxLocals := 2, code := jdk_2005_method_2_code, exceptionTable := #[], attributes := #[] }
def k7m1 : Method := { name := "<init>", desc := "(I)V", sig := { parameters := [.int], returnType := none }, accessFlags := 1, code := some k7c1 }
def k7c2 : Code := { maxStack := 2, maxLocals := 1, code := jdk_2005_method_9_code, exceptionTable := #[], attributes := #[] }
def k7m2 : Method := { name := "toByteArray", desc := "()[B", sig := { parameters := [], returnType := some (.array .byte) }, accessFlags := 33, code := some k7c2 }
/-- java/io/ByteArrayOutputStream -/
def k7 : Class := { plain "java/io/ByteArrayOutputStream" (some 6) with
  accessFlags := 33
  interfaces := #[]
  cf := some (fileOf pool7 2 #[] #[{ accessFlags := 1, nameIndex := 5, descriptorIndex := 11, attributes := #[] }, { accessFlags := 1, nameIndex := 5, descriptorIndex := 6, attributes := #[] }, { accessFlags := 33, nameIndex := 126, descriptorIndex := 127, attributes := #[] }] 33 8 #[] #[{ accessFlags := 4, nameIndex := 35, descriptorIndex := 36, attributes := #[] }, { accessFlags := 4, nameIndex := 51, descriptorIndex := 52, attributes := #[] }])
  fields := #[{ name := "buf", type := (.array .byte), accessFlags := 4, slot := 0, constantValue := 0 }, { name := "count", type := .int, accessFlags := 4, slot := 1, constantValue := 0 }]
  methods := #[k7m0, k7m1, k7m2]
  instanceTypes := #[(.array .byte), .int]
  staticTypes := #[]
  resolved := Array.replicate 145 none
  statics := none }

def pool8 : Array CpInfo := pool [(1, .class_ 2), (0, u "java/lang/Appendable"), (0, .class_ 4), (0, u "java/lang/Object")] 9

/-- java/lang/Appendable -/
def k8 : Class := { plain "java/lang/Appendable" (some 0) with
  accessFlags := 1537
  interfaces := #[]
  cf := some (fileOf pool8 1 #[] #[] 1537 3 #[] #[])
  fields := #[]
  methods := #[]
  instanceTypes := #[]
  staticTypes := #[]
  resolved := Array.replicate 14 none
  statics := none }

def pool9 : Array CpInfo := pool [(2, .class_ 4), (1, u "java/lang/CharSequence"), (42, .class_ 48), (0, u "java/lang/CharSequence$1CodePointIterator"), (10, .class_ 60), (0, u "java/lang/CharSequence$1CharIterator"), (5, .class_ 67), (0, u "java/lang/Object")] 63

/-- java/lang/CharSequence -/
def k9 : Class := { plain "java/lang/CharSequence" (some 0) with
  accessFlags := 1537
  interfaces := #[]
  cf := some (fileOf pool9 2 #[.nestMembers #[47, 59]] #[] 1537 66 #[] #[])
  fields := #[]
  methods := #[]
  instanceTypes := #[]
  staticTypes := #[]
  resolved := Array.replicate 131 none
  statics := none }

def pool10 : Array CpInfo := pool [(1, .class_ 2), (0, u "java/lang/String"), (0, .methodref 4 5), (0, .class_ 6), (0, .nameAndType 7 8), (0, u "java/lang/Object"), (0, u "<init>"), (0, u "()V"), (1, .class_ 12), (1, u "java/lang/AbstractStringBuilder"), (0, u "EMPTYVALUE"), (0, u "[B"), (0, .fieldref 10 16), (0, .nameAndType 17 14), (0, u "value"), (0, .fieldref 1 19), (0, .nameAndType 20 21), (0, u "COMPACT_STRINGS"), (0, u "Z"), (0, .fieldref 10 23), (0, .nameAndType 24 25), (0, u "coder"), (0, u "B"), (22, .class_ 49), (0, u "java/lang/CharSequence"), (25, u "maybeLatin1"), (5, u "count"), (0, u "I"), (20, u "(I)V"), (340, .class_ 445), (0, u "java/lang/Appendable")] 163

def k10m0 : Method := { name := "<init>", desc := "()V", sig := { parameters := [], returnType := none }, accessFlags := 0, code := none }
def k10c1 : Code := { maxStack := 2, maxLocals := 2, code := jdk_68_method_2_code, exceptionTable := #[], attributes := #[] }
def k10m1 : Method := { name := "<init>", desc := "(I)V", sig := { parameters := [.int], returnType := none }, accessFlags := 0, code := some k10c1 }
/-- java/lang/AbstractStringBuilder -/
def k10 : Class := { plain "java/lang/AbstractStringBuilder" (some 0) with
  accessFlags := 1056
  interfaces := #[8, 9]
  cf := some (fileOf pool10 10 #[] #[{ accessFlags := 0, nameIndex := 7, descriptorIndex := 8, attributes := #[] }, { accessFlags := 0, nameIndex := 7, descriptorIndex := 103, attributes := #[] }] 1056 4 #[444, 48] #[{ accessFlags := 0, nameIndex := 17, descriptorIndex := 14, attributes := #[] }, { accessFlags := 0, nameIndex := 24, descriptorIndex := 25, attributes := #[] }, { accessFlags := 0, nameIndex := 75, descriptorIndex := 21, attributes := #[] }, { accessFlags := 0, nameIndex := 81, descriptorIndex := 82, attributes := #[] }, { accessFlags := 26, nameIndex := 13, descriptorIndex := 14, attributes := #[] }])
  fields := #[{ name := "value", type := (.array .byte), accessFlags := 0, slot := 0, constantValue := 0 }, { name := "coder", type := .byte, accessFlags := 0, slot := 1, constantValue := 0 }, { name := "maybeLatin1", type := .boolean, accessFlags := 0, slot := 2, constantValue := 0 }, { name := "count", type := .int, accessFlags := 0, slot := 3, constantValue := 0 }, { name := "EMPTYVALUE", type := (.array .byte), accessFlags := 26, slot := 0, constantValue := 0 }]
  methods := #[k10m0, k10m1]
  instanceTypes := #[(.array .byte), .byte, .boolean, .int]
  staticTypes := #[(.array .byte)]
  resolved := Array.replicate 609 none
  statics := none }

def pool11 : Array CpInfo := pool [(1, .class_ 2), (0, u "java/io/Serializable"), (0, .class_ 4), (0, u "java/lang/Object")] 2

/-- java/io/Serializable -/
def k11 : Class := { plain "java/io/Serializable" (some 0) with
  accessFlags := 1537
  interfaces := #[]
  cf := some (fileOf pool11 1 #[] #[] 1537 3 #[] #[])
  fields := #[]
  methods := #[]
  instanceTypes := #[]
  staticTypes := #[]
  resolved := Array.replicate 7 none
  statics := none }

def pool12 : Array CpInfo := pool [(1, .class_ 2), (0, u "java/lang/Comparable"), (0, .class_ 4), (0, u "java/lang/Object")] 7

/-- java/lang/Comparable -/
def k12 : Class := { plain "java/lang/Comparable" (some 0) with
  accessFlags := 1537
  interfaces := #[]
  cf := some (fileOf pool12 1 #[] #[] 1537 3 #[] #[])
  fields := #[]
  methods := #[]
  instanceTypes := #[]
  staticTypes := #[]
  resolved := Array.replicate 12 none
  statics := none }

def pool13 : Array CpInfo := pool [(1, .methodref 2 3), (0, .class_ 4), (0, .nameAndType 5 6), (0, u "java/lang/AbstractStringBuilder"), (0, u "<init>"), (0, u "(I)V"), (17, .class_ 26), (1, u "java/lang/StringBuilder"), (118, u "()V"), (203, .class_ 350), (0, u "java/lang/Appendable"), (0, .class_ 352), (0, u "java/io/Serializable"), (0, .class_ 354), (0, u "java/lang/Comparable"), (0, .class_ 356), (0, u "java/lang/CharSequence"), (0, u "serialVersionUID"), (0, u "J")] 63

def k13c0 : Code := { maxStack := 2, maxLocals := 1, code := jdk_67_method_1_code, exceptionTable := #[], attributes := #[] }
def k13m0 : Method := { name := "<init>", desc := "()V", sig := { parameters := [], returnType := none }, accessFlags := 1, code := some k13c0 }
/-- java/lang/StringBuilder -/
def k13 : Class := { plain "java/lang/StringBuilder" (some 10) with
  accessFlags := 49
  interfaces := #[8, 11, 12, 9]
  cf := some (fileOf pool13 24 #[] #[{ accessFlags := 1, nameIndex := 5, descriptorIndex := 145, attributes := #[] }] 49 2 #[349, 351, 353, 355] #[{ accessFlags := 24, nameIndex := 357, descriptorIndex := 358, attributes := #[] }])
  fields := #[{ name := "serialVersionUID", type := .long, accessFlags := 24, slot := 0, constantValue := 0 }]
  methods := #[k13m0]
  instanceTypes := #[(.array .byte), .byte, .boolean, .int]
  staticTypes := #[.long]
  resolved := Array.replicate 422 none
  statics := none }

def pool14 : Array CpInfo := pool [(1, .class_ 2), (0, u "java/lang/constant/Constable"), (0, .class_ 4), (0, u "java/lang/Object")] 6

/-- java/lang/constant/Constable -/
def k14 : Class := { plain "java/lang/constant/Constable" (some 0) with
  accessFlags := 1537
  interfaces := #[]
  cf := some (fileOf pool14 1 #[] #[] 1537 3 #[] #[])
  fields := #[]
  methods := #[]
  instanceTypes := #[]
  staticTypes := #[]
  resolved := Array.replicate 11 none
  statics := none }

def pool15 : Array CpInfo := pool [(1, .class_ 2), (0, u "java/lang/constant/ConstantDesc"), (0, .class_ 4), (0, u "java/lang/Object")] 32

/-- java/lang/constant/ConstantDesc -/
def k15 : Class := { plain "java/lang/constant/ConstantDesc" (some 0) with
  accessFlags := 1537
  interfaces := #[]
  cf := some (fileOf pool15 1 #[] #[] 1537 3 #[] #[])
  fields := #[]
  methods := #[]
  instanceTypes := #[]
  staticTypes := #[]
  resolved := Array.replicate 37 none
  statics := none }

def pool16 : Array CpInfo := pool [(2, .class_ 4), (1, u "java/lang/Object"), (0, u "<init>"), (0, u "()V"), (3, .class_ 12), (1, u "java/lang/String"), (0, u "value"), (0, u "[B"), (2, u "coder"), (0, u "B"), (2, u "hash"), (0, u "I"), (2, u "hashIsZero"), (0, u "Z"), (13, u "COMPACT_STRINGS"), (534, .class_ 576), (0, u "java/lang/CharSequence"), (22, u "CASE_INSENSITIVE_ORDER"), (0, u "Ljava/util/Comparator;"), (500, u "serialPersistentFields"), (0, u "[Ljava/io/ObjectStreamField;"), (0, .class_ 1104), (0, u "java/lang/String$CaseInsensitiveComparator"), (1, .class_ 1107), (0, u "java/io/Serializable"), (0, .class_ 1109), (0, u "java/lang/Comparable"), (0, .class_ 1111), (0, u "java/lang/constant/Constable"), (0, .class_ 1113), (0, u "java/lang/constant/ConstantDesc"), (2, u "serialVersionUID"), (0, u "J"), (3, u "REPL"), (0, u "C"), (2, u "LATIN1"), (1, u "UTF16")] 323

def k16m0 : Method := { name := "<init>", desc := "()V", sig := { parameters := [], returnType := none }, accessFlags := 1, code := none }
/-- java/lang/String -/
def k16 : Class := { plain "java/lang/String" (some 0) with
  accessFlags := 49
  interfaces := #[11, 12, 9, 14, 15]
  cf := some (fileOf pool16 10 #[.nestMembers #[1103]] #[{ accessFlags := 1, nameIndex := 5, descriptorIndex := 6, attributes := #[] }] 49 2 #[1106, 1108, 575, 1110, 1112] #[{ accessFlags := 18, nameIndex := 13, descriptorIndex := 14, attributes := #[] }, { accessFlags := 18, nameIndex := 17, descriptorIndex := 18, attributes := #[] }, { accessFlags := 2, nameIndex := 21, descriptorIndex := 22, attributes := #[] }, { accessFlags := 2, nameIndex := 25, descriptorIndex := 26, attributes := #[] }, { accessFlags := 26, nameIndex := 1116, descriptorIndex := 1117, attributes := #[] }, { accessFlags := 24, nameIndex := 40, descriptorIndex := 26, attributes := #[] }, { accessFlags := 26, nameIndex := 1101, descriptorIndex := 1102, attributes := #[] }, { accessFlags := 26, nameIndex := 1121, descriptorIndex := 1122, attributes := #[] }, { accessFlags := 25, nameIndex := 599, descriptorIndex := 600, attributes := #[] }, { accessFlags := 24, nameIndex := 1125, descriptorIndex := 18, attributes := #[] }, { accessFlags := 24, nameIndex := 1127, descriptorIndex := 18, attributes := #[] }])
  fields := #[{ name := "value", type := (.array .byte), accessFlags := 18, slot := 0, constantValue := 0 }, { name := "coder", type := .byte, accessFlags := 18, slot := 1, constantValue := 0 }, { name := "hash", type := .int, accessFlags := 2, slot := 2, constantValue := 0 }, { name := "hashIsZero", type := .boolean, accessFlags := 2, slot := 3, constantValue := 0 }, { name := "serialVersionUID", type := .long, accessFlags := 26, slot := 0, constantValue := 0 }, { name := "COMPACT_STRINGS", type := .boolean, accessFlags := 24, slot := 1, constantValue := 0 }, { name := "serialPersistentFields", type := (.array (.object "java/io/ObjectStreamField")), accessFlags := 26, slot := 2, constantValue := 0 }, { name := "REPL", type := .char, accessFlags := 26, slot := 3, constantValue := 0 }, { name := "CASE_INSENSITIVE_ORDER", type := (.object "java/util/Comparator"), accessFlags := 25, slot := 4, constantValue := 0 }, { name := "LATIN1", type := .byte, accessFlags := 24, slot := 5, constantValue := 0 }, { name := "UTF16", type := .byte, accessFlags := 24, slot := 6, constantValue := 0 }]
  methods := #[k16m0]
  instanceTypes := #[(.array .byte), .byte, .int, .boolean]
  staticTypes := #[.long, .boolean, (.array (.object "java/io/ObjectStreamField")), .char, (.object "java/util/Comparator"), .byte, .byte]
  resolved := Array.replicate 1451 none
  statics := some 0 }

def pool17 : Array CpInfo := pool [(2, .class_ 4), (1, u "java/lang/Enum"), (0, u "name"), (0, u "Ljava/lang/String;"), (2, u "ordinal"), (0, u "I"), (1, .class_ 14), (1, u "java/lang/Object"), (4, u "hash"), (86, .class_ 108), (1, u "java/lang/Enum$EnumDesc"), (2, .class_ 112), (0, u "java/lang/constant/Constable"), (0, .class_ 114), (0, u "java/lang/Comparable"), (0, .class_ 116), (0, u "java/io/Serializable")] 87

/-- java/lang/Enum -/
def k17 : Class := { plain "java/lang/Enum" (some 0) with
  accessFlags := 1057
  interfaces := #[14, 12, 11]
  cf := some (fileOf pool17 2 #[.nestMembers #[106]] #[] 1057 12 #[111, 113, 115] #[{ accessFlags := 18, nameIndex := 5, descriptorIndex := 6, attributes := #[] }, { accessFlags := 18, nameIndex := 9, descriptorIndex := 10, attributes := #[] }, { accessFlags := 2, nameIndex := 19, descriptorIndex := 10, attributes := #[] }])
  fields := #[{ name := "name", type := (.object "java/lang/String"), accessFlags := 18, slot := 0, constantValue := 0 }, { name := "ordinal", type := .int, accessFlags := 18, slot := 1, constantValue := 0 }, { name := "hash", type := .int, accessFlags := 2, slot := 2, constantValue := 0 }]
  methods := #[]
  instanceTypes := #[(.object "java/lang/String"), .int, .int]
  staticTypes := #[]
  resolved := Array.replicate 204 none
  statics := none }

def pool18 : Array CpInfo := pool [(1, .class_ 2), (0, u "com/example/outbound_courier/outboundcourier/http/BodyReader$State"), (2, u "SIZE_LINE"), (0, u "Lcom/example/outbound_courier/outboundcourier/http/BodyReader$State;"), (2, u "DATA"), (2, u "DATA_END"), (2, u "TRAILER"), (2, u "DONE"), (2, u "$VALUES"), (0, u "[Lcom/example/outbound_courier/outboundcourier/http/BodyReader$State;"), (6, .class_ 31), (1, u "java/lang/Enum"), (28, .class_ 61), (0, u "com/example/outbound_courier/outboundcourier/http/BodyReader")] 2

/-- com/example/outbound_courier/outboundcourier/http/BodyReader$State -/
def k18 : Class := { plain "com/example/outbound_courier/outboundcourier/http/BodyReader$State" (some 17) with
  accessFlags := 16432
  interfaces := #[]
  cf := some (fileOf pool18 1 #[.nestHost 60] #[] 16432 29 #[] #[{ accessFlags := 16409, nameIndex := 5, descriptorIndex := 6, attributes := #[] }, { accessFlags := 16409, nameIndex := 9, descriptorIndex := 6, attributes := #[] }, { accessFlags := 16409, nameIndex := 12, descriptorIndex := 6, attributes := #[] }, { accessFlags := 16409, nameIndex := 15, descriptorIndex := 6, attributes := #[] }, { accessFlags := 16409, nameIndex := 18, descriptorIndex := 6, attributes := #[] }, { accessFlags := 4122, nameIndex := 21, descriptorIndex := 22, attributes := #[] }])
  fields := #[{ name := "SIZE_LINE", type := (.object "com/example/outbound_courier/outboundcourier/http/BodyReader$State"), accessFlags := 16409, slot := 0, constantValue := 0 }, { name := "DATA", type := (.object "com/example/outbound_courier/outboundcourier/http/BodyReader$State"), accessFlags := 16409, slot := 1, constantValue := 0 }, { name := "DATA_END", type := (.object "com/example/outbound_courier/outboundcourier/http/BodyReader$State"), accessFlags := 16409, slot := 2, constantValue := 0 }, { name := "TRAILER", type := (.object "com/example/outbound_courier/outboundcourier/http/BodyReader$State"), accessFlags := 16409, slot := 3, constantValue := 0 }, { name := "DONE", type := (.object "com/example/outbound_courier/outboundcourier/http/BodyReader$State"), accessFlags := 16409, slot := 4, constantValue := 0 }, { name := "$VALUES", type := (.array (.object "com/example/outbound_courier/outboundcourier/http/BodyReader$State")), accessFlags := 4122, slot := 5, constantValue := 0 }]
  methods := #[]
  instanceTypes := #[(.object "java/lang/String"), .int, .int]
  staticTypes := #[(.object "com/example/outbound_courier/outboundcourier/http/BodyReader$State"), (.object "com/example/outbound_courier/outboundcourier/http/BodyReader$State"), (.object "com/example/outbound_courier/outboundcourier/http/BodyReader$State"), (.object "com/example/outbound_courier/outboundcourier/http/BodyReader$State"), (.object "com/example/outbound_courier/outboundcourier/http/BodyReader$State"), (.array (.object "com/example/outbound_courier/outboundcourier/http/BodyReader$State"))]
  resolved := Array.replicate 64 none
  statics := some 1 }

def pool19 : Array CpInfo := pool [(2, .class_ 4), (1, u "java/lang/Object"), (0, u "<init>"), (0, u "()V"), (7, .class_ 16), (1, u "java/util/Arrays"), (57, .class_ 76), (1, u "java/util/Arrays$NaturalOrder"), (36, .class_ 115), (1, u "java/util/Arrays$LegacyMergeSort"), (1, u "Z"), (32, .methodref 151 152), (0, .class_ 153), (0, .nameAndType 154 155), (0, u "java/lang/System"), (0, u "arraycopy"), (0, u "(Ljava/lang/Object;ILjava/lang/Object;II)V"), (146, u "copyOf"), (1, .methodref 305 306), (0, .class_ 307), (0, .nameAndType 308 309), (0, u "java/lang/Math"), (0, u "min"), (0, u "(II)I"), (65, .class_ 376), (0, u "java/util/Arrays$ArrayList"), (68, u "$assertionsDisabled"), (269, u "MIN_ARRAY_SORT_GRAN"), (0, u "I"), (2, u "INSERTIONSORT_THRESHOLD"), (149, u "([BI)[B"), (105, .class_ 976), (0, u "java/util/Arrays$ArrayItr")] 52

def k19m0 : Method := { name := "<init>", desc := "()V", sig := { parameters := [], returnType := none }, accessFlags := 2, code := none }
def k19c1 : Code := { maxStack := 6, maxLocals := 3, code := jdk_65_method_121_code, exceptionTable := #[], attributes := #[] }
def k19m1 : Method := { name := "copyOf", desc := "([BI)[B", sig := { parameters := [(.array .byte), .int], returnType := some (.array .byte) }, accessFlags := 9, code := some k19c1 }
/-- java/util/Arrays -/
def k19 : Class := { plain "java/util/Arrays" (some 0) with
  accessFlags := 49
  interfaces := #[]
  cf := some (fileOf pool19 14 #[.nestMembers #[975, 375, 113, 74]] #[{ accessFlags := 2, nameIndex := 5, descriptorIndex := 6, attributes := #[] }, { accessFlags := 9, nameIndex := 302, descriptorIndex := 869, attributes := #[] }] 49 2 #[] #[{ accessFlags := 26, nameIndex := 715, descriptorIndex := 716, attributes := #[] }, { accessFlags := 26, nameIndex := 719, descriptorIndex := 716, attributes := #[] }, { accessFlags := 4120, nameIndex := 445, descriptorIndex := 117, attributes := #[] }])
  fields := #[{ name := "MIN_ARRAY_SORT_GRAN", type := .int, accessFlags := 26, slot := 0, constantValue := 0 }, { name := "INSERTIONSORT_THRESHOLD", type := .int, accessFlags := 26, slot := 1, constantValue := 0 }, { name := "$assertionsDisabled", type := .boolean, accessFlags := 4120, slot := 2, constantValue := 0 }]
  methods := #[k19m0, k19m1]
  instanceTypes := #[]
  staticTypes := #[.int, .int, .boolean]
  resolved := Array.replicate 1029 none
  statics := none }

def pool20 : Array CpInfo := pool [(1, .class_ 2), (0, u "java/lang/Math"), (1, .class_ 6), (1, u "java/lang/Object"), (0, u "<init>"), (0, u "()V"), (89, .class_ 100), (1, u "java/lang/Math$RandomNumberGeneratorHolder"), (71, u "negativeZeroFloatBits"), (0, u "J"), (2, u "negativeZeroDoubleBits"), (24, u "min"), (43, u "$assertionsDisabled"), (0, u "Z"), (88, u "(II)I"), (2, u "twoToTheDoubleScaleDown"), (0, u "D"), (4, u "twoToTheDoubleScaleUp"), (9, u "E"), (3, u "PI"), (2, u "TAU"), (2, u "DEGREES_TO_RADIANS"), (0, u "RADIANS_TO_DEGREES")] 94

def k20m0 : Method := { name := "<init>", desc := "()V", sig := { parameters := [], returnType := none }, accessFlags := 2, code := none }
def k20c1 : Code := { maxStack := 2, maxLocals := 2, code := jdk_29_method_69_code, exceptionTable := #[], attributes := #[] }
def k20m1 : Method := { name := "min", desc := "(II)I", sig := { parameters := [.int, .int], returnType := some .int }, accessFlags := 9, code := some k20c1 }
/-- java/lang/Math -/
def k20 : Class := { plain "java/lang/Math" (some 0) with
  accessFlags := 49
  interfaces := #[]
  cf := some (fileOf pool20 1 #[.nestMembers #[98]] #[{ accessFlags := 2, nameIndex := 7, descriptorIndex := 8, attributes := #[] }, { accessFlags := 9, nameIndex := 201, descriptorIndex := 335, attributes := #[] }] 49 4 #[] #[{ accessFlags := 25, nameIndex := 354, descriptorIndex := 339, attributes := #[] }, { accessFlags := 25, nameIndex := 358, descriptorIndex := 339, attributes := #[] }, { accessFlags := 25, nameIndex := 361, descriptorIndex := 339, attributes := #[] }, { accessFlags := 26, nameIndex := 364, descriptorIndex := 339, attributes := #[] }, { accessFlags := 26, nameIndex := 365, descriptorIndex := 339, attributes := #[] }, { accessFlags := 26, nameIndex := 172, descriptorIndex := 173, attributes := #[] }, { accessFlags := 26, nameIndex := 176, descriptorIndex := 173, attributes := #[] }, { accessFlags := 8, nameIndex := 344, descriptorIndex := 339, attributes := #[] }, { accessFlags := 8, nameIndex := 338, descriptorIndex := 339, attributes := #[] }, { accessFlags := 4120, nameIndex := 245, descriptorIndex := 246, attributes := #[] }])
  fields := #[{ name := "E", type := .double, accessFlags := 25, slot := 0, constantValue := 0 }, { name := "PI", type := .double, accessFlags := 25, slot := 1, constantValue := 0 }, { name := "TAU", type := .double, accessFlags := 25, slot := 2, constantValue := 0 }, { name := "DEGREES_TO_RADIANS", type := .double, accessFlags := 26, slot := 3, constantValue := 0 }, { name := "RADIANS_TO_DEGREES", type := .double, accessFlags := 26, slot := 4, constantValue := 0 }, { name := "negativeZeroFloatBits", type := .long, accessFlags := 26, slot := 5, constantValue := 0 }, { name := "negativeZeroDoubleBits", type := .long, accessFlags := 26, slot := 6, constantValue := 0 }, { name := "twoToTheDoubleScaleUp", type := .double, accessFlags := 8, slot := 7, constantValue := 0 }, { name := "twoToTheDoubleScaleDown", type := .double, accessFlags := 8, slot := 8, constantValue := 0 }, { name := "$assertionsDisabled", type := .boolean, accessFlags := 4120, slot := 9, constantValue := 0 }]
  methods := #[k20m0, k20m1]
  instanceTypes := #[]
  staticTypes := #[.double, .double, .double, .double, .double, .long, .long, .double, .double, .boolean]
  resolved := Array.replicate 460 none
  statics := none }

def pool21 : Array CpInfo := pool [(2, .class_ 4), (1, u "java/lang/Object"), (0, u "<init>"), (0, u "()V"), (1, .class_ 10), (1, u "java/lang/System"), (0, u "allowSecurityManager"), (0, u "I"), (16, u "cons"), (0, u "Ljava/io/Console;"), (77, .class_ 110), (1, u "java/lang/System$CallersHolder"), (43, u "initialErrStream"), (0, u "Ljava/io/PrintStream;"), (19, u "security"), (0, u "Ljava/lang/SecurityManager;"), (31, .class_ 209), (0, u "java/lang/System$1"), (7, u "props"), (0, u "Ljava/util/Properties;"), (2, u "lineSeparator"), (0, u "Ljava/lang/String;"), (96, .class_ 321), (1, u "java/lang/System$LoggerFinder"), (5, .class_ 328), (0, u "java/lang/System$Logger"), (67, u "err"), (2, u "out"), (91, u "notSupportedJnuEncoding"), (15, u "in"), (17, u "initialIn"), (0, u "Ljava/io/InputStream;"), (35, u "bootLayer"), (0, u "Ljava/lang/ModuleLayer;"), (99, .class_ 664), (0, u "java/lang/System$2"), (9, u "NEVER"), (2, u "MAYBE"), (49, u "arraycopy"), (0, u "(Ljava/lang/Object;ILjava/lang/Object;II)V"), (72, .class_ 802), (0, u "java/lang/System$Logger$Level")] 31

def k21m0 : Method := { name := "<init>", desc := "()V", sig := { parameters := [], returnType := none }, accessFlags := 2, code := none }
def k21m1 : Method := { name := "arraycopy", desc := "(Ljava/lang/Object;ILjava/lang/Object;II)V", sig := { parameters := [(.object "java/lang/Object"), .int, (.object "java/lang/Object"), .int, .int], returnType := none }, accessFlags := 265, code := none }
/-- java/lang/System -/
def k21 : Class := { plain "java/lang/System" (some 0) with
  accessFlags := 49
  interfaces := #[]
  cf := some (fileOf pool21 8 #[.nestMembers #[319, 327, 801, 108, 663, 208]] #[{ accessFlags := 2, nameIndex := 5, descriptorIndex := 6, attributes := #[] }, { accessFlags := 265, nameIndex := 727, descriptorIndex := 728, attributes := #[] }] 49 2 #[] #[{ accessFlags := 25, nameIndex := 507, descriptorIndex := 526, attributes := #[] }, { accessFlags := 25, nameIndex := 399, descriptorIndex := 155, attributes := #[] }, { accessFlags := 25, nameIndex := 396, descriptorIndex := 155, attributes := #[] }, { accessFlags := 10, nameIndex := 525, descriptorIndex := 526, attributes := #[] }, { accessFlags := 26, nameIndex := 674, descriptorIndex := 12, attributes := #[] }, { accessFlags := 26, nameIndex := 677, descriptorIndex := 12, attributes := #[] }, { accessFlags := 10, nameIndex := 11, descriptorIndex := 12, attributes := #[] }, { accessFlags := 74, nameIndex := 175, descriptorIndex := 176, attributes := #[] }, { accessFlags := 10, nameIndex := 491, descriptorIndex := 222, attributes := #[] }, { accessFlags := 74, nameIndex := 29, descriptorIndex := 30, attributes := #[] }, { accessFlags := 74, nameIndex := 154, descriptorIndex := 155, attributes := #[] }, { accessFlags := 10, nameIndex := 217, descriptorIndex := 218, attributes := #[] }, { accessFlags := 10, nameIndex := 221, descriptorIndex := 222, attributes := #[] }, { accessFlags := 8, nameIndex := 562, descriptorIndex := 563, attributes := #[] }])
  fields := #[{ name := "in", type := (.object "java/io/InputStream"), accessFlags := 25, slot := 0, constantValue := 0 }, { name := "out", type := (.object "java/io/PrintStream"), accessFlags := 25, slot := 1, constantValue := 0 }, { name := "err", type := (.object "java/io/PrintStream"), accessFlags := 25, slot := 2, constantValue := 0 }, { name := "initialIn", type := (.object "java/io/InputStream"), accessFlags := 10, slot := 3, constantValue := 0 }, { name := "NEVER", type := .int, accessFlags := 26, slot := 4, constantValue := 0 }, { name := "MAYBE", type := .int, accessFlags := 26, slot := 5, constantValue := 0 }, { name := "allowSecurityManager", type := .int, accessFlags := 10, slot := 6, constantValue := 0 }, { name := "security", type := (.object "java/lang/SecurityManager"), accessFlags := 74, slot := 7, constantValue := 0 }, { name := "notSupportedJnuEncoding", type := (.object "java/lang/String"), accessFlags := 10, slot := 8, constantValue := 0 }, { name := "cons", type := (.object "java/io/Console"), accessFlags := 74, slot := 9, constantValue := 0 }, { name := "initialErrStream", type := (.object "java/io/PrintStream"), accessFlags := 74, slot := 10, constantValue := 0 }, { name := "props", type := (.object "java/util/Properties"), accessFlags := 10, slot := 11, constantValue := 0 }, { name := "lineSeparator", type := (.object "java/lang/String"), accessFlags := 10, slot := 12, constantValue := 0 }, { name := "bootLayer", type := (.object "java/lang/ModuleLayer"), accessFlags := 8, slot := 13, constantValue := 0 }]
  methods := #[k21m0, k21m1]
  instanceTypes := #[]
  staticTypes := #[(.object "java/io/InputStream"), (.object "java/io/PrintStream"), (.object "java/io/PrintStream"), (.object "java/io/InputStream"), .int, .int, .int, (.object "java/lang/SecurityManager"), (.object "java/lang/String"), (.object "java/io/Console"), (.object "java/io/PrintStream"), (.object "java/util/Properties"), (.object "java/lang/String"), (.object "java/lang/ModuleLayer")]
  resolved := Array.replicate 834 none
  statics := none }

def pool22 : Array CpInfo := pool [(4, .class_ 6), (1, u "java/lang/Object"), (0, u "<init>"), (0, u "()V"), (5, .class_ 16), (1, u "java/lang/StringLatin1"), (104, u "$assertionsDisabled"), (0, u "Z"), (98, .class_ 223), (1, u "java/lang/StringLatin1$LinesSpliterator"), (166, .class_ 391), (0, u "java/lang/StringLatin1$CharsSpliterator")] 3

def k22m0 : Method := { name := "<init>", desc := "()V", sig := { parameters := [], returnType := none }, accessFlags := 0, code := none }
/-- java/lang/StringLatin1 -/
def k22 : Class := { plain "java/lang/StringLatin1" (some 0) with
  accessFlags := 48
  interfaces := #[]
  cf := some (fileOf pool22 14 #[.nestMembers #[390, 221]] #[{ accessFlags := 0, nameIndex := 7, descriptorIndex := 8, attributes := #[] }] 48 4 #[] #[{ accessFlags := 4120, nameIndex := 121, descriptorIndex := 122, attributes := #[] }])
  fields := #[{ name := "$assertionsDisabled", type := .boolean, accessFlags := 4120, slot := 0, constantValue := 0 }]
  methods := #[k22m0]
  instanceTypes := #[]
  staticTypes := #[.boolean]
  resolved := Array.replicate 395 none
  statics := none }

def pool23 : Array CpInfo := pool [(2, .class_ 4), (1, u "java/lang/Object"), (0, u "<init>"), (0, u "()V"), (17, .class_ 26), (1, u "jdk/internal/util/Preconditions"), (28, .class_ 56), (0, u "jdk/internal/util/Preconditions$4"), (57, .class_ 115), (0, u "jdk/internal/util/Preconditions$1"), (7, u "SIOOBE_FORMATTER"), (0, u "Ljava/util/function/BiFunction;"), (0, .class_ 126), (0, u "jdk/internal/util/Preconditions$2"), (3, u "AIOOBE_FORMATTER"), (0, .class_ 132), (0, u "jdk/internal/util/Preconditions$3"), (3, u "IOOBE_FORMATTER")] 57

def k23m0 : Method := { name := "<init>", desc := "()V", sig := { parameters := [], returnType := none }, accessFlags := 1, code := none }
/-- jdk/internal/util/Preconditions -/
def k23 : Class := { plain "jdk/internal/util/Preconditions" (some 0) with
  accessFlags := 33
  interfaces := #[]
  cf := some (fileOf pool23 24 #[.nestMembers #[55, 131, 125, 114]] #[{ accessFlags := 1, nameIndex := 5, descriptorIndex := 6, attributes := #[] }] 33 2 #[] #[{ accessFlags := 25, nameIndex := 123, descriptorIndex := 124, attributes := #[] }, { accessFlags := 25, nameIndex := 130, descriptorIndex := 124, attributes := #[] }, { accessFlags := 25, nameIndex := 136, descriptorIndex := 124, attributes := #[] }])
  fields := #[{ name := "SIOOBE_FORMATTER", type := (.object "java/util/function/BiFunction"), accessFlags := 25, slot := 0, constantValue := 0 }, { name := "AIOOBE_FORMATTER", type := (.object "java/util/function/BiFunction"), accessFlags := 25, slot := 1, constantValue := 0 }, { name := "IOOBE_FORMATTER", type := (.object "java/util/function/BiFunction"), accessFlags := 25, slot := 2, constantValue := 0 }]
  methods := #[k23m0]
  instanceTypes := #[]
  staticTypes := #[(.object "java/util/function/BiFunction"), (.object "java/util/function/BiFunction"), (.object "java/util/function/BiFunction")]
  resolved := Array.replicate 194 none
  statics := some 2 }

def pool24 : Array CpInfo := pool [(9, u "<init>"), (6, .class_ 18), (1, u "java/lang/Object"), (0, u "()V"), (1, .class_ 23), (1, u "jdk/internal/util/ArraysSupport"), (0, u "LOG2_ARRAY_LONG_INDEX_SCALE"), (0, u "I"), (2, u "U"), (0, u "Ljdk/internal/misc/Unsafe;"), (8, u "BIG_ENDIAN"), (0, u "Z"), (8, u "LOG2_BYTE_BIT_SIZE"), (4, u "LOG2_ARRAY_INT_INDEX_SCALE"), (54, u "JLA"), (0, u "Ljdk/internal/access/JavaLangAccess;"), (11, u "LOG2_ARRAY_BOOLEAN_INDEX_SCALE"), (9, u "LOG2_ARRAY_BYTE_INDEX_SCALE"), (5, u "LOG2_ARRAY_CHAR_INDEX_SCALE"), (5, u "LOG2_ARRAY_SHORT_INDEX_SCALE"), (18, u "LOG2_ARRAY_FLOAT_INDEX_SCALE"), (24, u "LOG2_ARRAY_DOUBLE_INDEX_SCALE"), (89, u "T_BOOLEAN"), (2, u "T_CHAR"), (1, u "T_FLOAT"), (1, u "T_DOUBLE"), (1, u "T_BYTE"), (1, u "T_SHORT"), (1, u "T_INT"), (1, u "T_LONG"), (1, u "SOFT_MAX_ARRAY_LENGTH")] 83

def k24m0 : Method := { name := "<init>", desc := "()V", sig := { parameters := [], returnType := none }, accessFlags := 2, code := none }
/-- jdk/internal/util/ArraysSupport -/
def k24 : Class := { plain "jdk/internal/util/ArraysSupport" (some 0) with
  accessFlags := 33
  interfaces := #[]
  cf := some (fileOf pool24 21 #[] #[{ accessFlags := 2, nameIndex := 9, descriptorIndex := 19, attributes := #[] }] 33 16 #[] #[{ accessFlags := 24, nameIndex := 28, descriptorIndex := 29, attributes := #[] }, { accessFlags := 26, nameIndex := 38, descriptorIndex := 39, attributes := #[] }, { accessFlags := 25, nameIndex := 121, descriptorIndex := 25, attributes := #[] }, { accessFlags := 25, nameIndex := 131, descriptorIndex := 25, attributes := #[] }, { accessFlags := 25, nameIndex := 137, descriptorIndex := 25, attributes := #[] }, { accessFlags := 25, nameIndex := 143, descriptorIndex := 25, attributes := #[] }, { accessFlags := 25, nameIndex := 53, descriptorIndex := 25, attributes := #[] }, { accessFlags := 25, nameIndex := 24, descriptorIndex := 25, attributes := #[] }, { accessFlags := 25, nameIndex := 162, descriptorIndex := 25, attributes := #[] }, { accessFlags := 25, nameIndex := 187, descriptorIndex := 25, attributes := #[] }, { accessFlags := 26, nameIndex := 48, descriptorIndex := 25, attributes := #[] }, { accessFlags := 25, nameIndex := 277, descriptorIndex := 25, attributes := #[] }, { accessFlags := 25, nameIndex := 280, descriptorIndex := 25, attributes := #[] }, { accessFlags := 25, nameIndex := 282, descriptorIndex := 25, attributes := #[] }, { accessFlags := 25, nameIndex := 284, descriptorIndex := 25, attributes := #[] }, { accessFlags := 25, nameIndex := 286, descriptorIndex := 25, attributes := #[] }, { accessFlags := 25, nameIndex := 288, descriptorIndex := 25, attributes := #[] }, { accessFlags := 25, nameIndex := 290, descriptorIndex := 25, attributes := #[] }, { accessFlags := 25, nameIndex := 292, descriptorIndex := 25, attributes := #[] }, { accessFlags := 26, nameIndex := 108, descriptorIndex := 109, attributes := #[] }, { accessFlags := 25, nameIndex := 294, descriptorIndex := 25, attributes := #[] }])
  fields := #[{ name := "U", type := (.object "jdk/internal/misc/Unsafe"), accessFlags := 24, slot := 0, constantValue := 0 }, { name := "BIG_ENDIAN", type := .boolean, accessFlags := 26, slot := 1, constantValue := 0 }, { name := "LOG2_ARRAY_BOOLEAN_INDEX_SCALE", type := .int, accessFlags := 25, slot := 2, constantValue := 0 }, { name := "LOG2_ARRAY_BYTE_INDEX_SCALE", type := .int, accessFlags := 25, slot := 3, constantValue := 0 }, { name := "LOG2_ARRAY_CHAR_INDEX_SCALE", type := .int, accessFlags := 25, slot := 4, constantValue := 0 }, { name := "LOG2_ARRAY_SHORT_INDEX_SCALE", type := .int, accessFlags := 25, slot := 5, constantValue := 0 }, { name := "LOG2_ARRAY_INT_INDEX_SCALE", type := .int, accessFlags := 25, slot := 6, constantValue := 0 }, { name := "LOG2_ARRAY_LONG_INDEX_SCALE", type := .int, accessFlags := 25, slot := 7, constantValue := 0 }, { name := "LOG2_ARRAY_FLOAT_INDEX_SCALE", type := .int, accessFlags := 25, slot := 8, constantValue := 0 }, { name := "LOG2_ARRAY_DOUBLE_INDEX_SCALE", type := .int, accessFlags := 25, slot := 9, constantValue := 0 }, { name := "LOG2_BYTE_BIT_SIZE", type := .int, accessFlags := 26, slot := 10, constantValue := 0 }, { name := "T_BOOLEAN", type := .int, accessFlags := 25, slot := 11, constantValue := 0 }, { name := "T_CHAR", type := .int, accessFlags := 25, slot := 12, constantValue := 0 }, { name := "T_FLOAT", type := .int, accessFlags := 25, slot := 13, constantValue := 0 }, { name := "T_DOUBLE", type := .int, accessFlags := 25, slot := 14, constantValue := 0 }, { name := "T_BYTE", type := .int, accessFlags := 25, slot := 15, constantValue := 0 }, { name := "T_SHORT", type := .int, accessFlags := 25, slot := 16, constantValue := 0 }, { name := "T_INT", type := .int, accessFlags := 25, slot := 17, constantValue := 0 }, { name := "T_LONG", type := .int, accessFlags := 25, slot := 18, constantValue := 0 }, { name := "JLA", type := (.object "jdk/internal/access/JavaLangAccess"), accessFlags := 26, slot := 19, constantValue := 0 }, { name := "SOFT_MAX_ARRAY_LENGTH", type := .int, accessFlags := 25, slot := 20, constantValue := 0 }]
  methods := #[k24m0]
  instanceTypes := #[]
  staticTypes := #[(.object "jdk/internal/misc/Unsafe"), .boolean, .int, .int, .int, .int, .int, .int, .int, .int, .int, .int, .int, .int, .int, .int, .int, .int, .int, (.object "jdk/internal/access/JavaLangAccess"), .int]
  resolved := Array.replicate 378 none
  statics := none }

def pool25 : Array CpInfo := pool [(1, u "java/lang/Cloneable"), (0, .class_ 1), (0, u "java/lang/Object"), (0, .class_ 3)] 3

/-- java/lang/Cloneable -/
def k25 : Class := { plain "java/lang/Cloneable" (some 0) with
  accessFlags := 1537
  interfaces := #[]
  cf := some (fileOf pool25 2 #[] #[] 1537 4 #[] #[])
  fields := #[]
  methods := #[]
  instanceTypes := #[]
  staticTypes := #[]
  resolved := Array.replicate 8 none
  statics := none }

/-- the primitive byte -/
def k26 : Class := { plain "byte" none with kind := .primitive 'B', accessFlags := 0x411 }
/-- [B -/
def k27 : Class := { plain "[B" (some 0) with kind := .array 26 .byte, interfaces := #[25, 11], accessFlags := 1041 }

/-- the primitive int -/
def k28 : Class := { plain "int" none with kind := .primitive 'I', accessFlags := 0x411 }
/-- [I -/
def k29 : Class := { plain "[I" (some 0) with kind := .array 28 .int, interfaces := #[25, 11], accessFlags := 1041 }

def heap : Heap := #[{ cls := 16, slots := #[.long 0, .int 1, .null, .int 0, .null, .int 0, .int 0], vm := .statics 16 },
  { cls := 18, slots := #[.ref 5, .ref 3, .null, .null, .ref 4, .null], vm := .statics 18 },
  { cls := 23, slots := #[.null, .null, .null], vm := .statics 23 },
  { cls := 18, slots := #[.null, .int 1, .int 0], vm := .none },
  { cls := 18, slots := #[.null, .int 4, .int 0], vm := .none },
  { cls := 18, slots := #[.null, .int 0, .int 0], vm := .none }]
def classes : Array Class := #[k0, k1, k2, k3, k4, k5, k6, k7, k8, k9, k10, k11, k12, k13, k14, k15, k16, k17, k18, k19, k20, k21, k22, k23, k24, k25, k26, k27, k28, k29]
def interned : List (Array UInt16 × Addr) := []
def slotsUsed : Nat := 25
def theMethod : MethodId := ⟨1, 1⟩
def args0 : Array Value := #[.long 5, .int 7, .int 2]
def aboutOver (below : List Frame) : State where
  vm := { classes := classes, interned := interned.toArray }
  heap := heap
  slotsUsed := slotsUsed
  threads := #[{ frames := .invoking theMethod args0 :: below }]
def below0 : List Frame := [.native { method := ⟨0, 0⟩, args := #[] }]
def about1 : State := aboutOver below0
def p0 : Program := .bare "" "" ""
def e0 : Env := launch0.env 0 0 0
theorem w_frames : about1.frames = Frame.invoking theMethod args0 :: below0 := rfl
set_option maxRecDepth 65536 in
theorem w_args : argsFit about1.vm theMethod args0 = true := by decide +kernel
set_option maxRecDepth 65536 in
theorem w_heap : heapFits about1 = true := by decide +kernel
set_option maxRecDepth 65536 in
theorem w_runnable : about1.curStatus? = some .runnable := by decide +kernel
set_option maxRecDepth 65536 in
theorem w_alone : about1.alone = true := by decide +kernel
set_option maxRecDepth 65536 in
theorem w_named : about1.methodNamed? x = some theMethod := by decide +kernel
set_option maxRecDepth 65536 in
theorem w_hears : about1.hears theMethod below0 = true := by decide +kernel
set_option maxRecDepth 65536 in
theorem w_ripe : about1.ripe theMethod args0 below0 = true := by decide +kernel
theorem w_running : about1.status = .running := rfl
set_option maxRecDepth 65536 in
theorem w_room : about1.hasRoom e0.platform room_1 = true :=
  launch0.hasRoom_least _ room_1 (by decide +kernel) (by decide +kernel) (by decide +kernel) (by decide +kernel) (by decide +kernel) (by decide +kernel)
theorem allAtoms_all (ts : List Jvm.Cond) (a : Array Jvm.Value) (st : Jvm.State) : (allAtoms ts).before a st = ts.all (fun c => c.before a st) := by
  induction ts with
  | nil => rfl
  | cons c t ih =>
    show (Jvm.Cond.and c (allAtoms t)).before a st = _
    rw [Jvm.Cond.before_and, ih, List.all_cons]
def words1 : List Jvm.Cond := Jvm.Cond.code x code maxLocals ret :: tables_1
/-- a 'code' word, met by the world's own term for the bytes: nothing is compared byte by byte -/
theorem code_word {y : MethodName} {bytes : ByteArray} {mx : Nat} {rt : Option FieldType} {a : Array Value} {s : State} {m : MethodId} {meth : Method} {c : Code} (h1 : s.methodNamed? y = some m) (h2 : s.vm.method? m = some meth) (h3 : meth.code = some c) (h4 : c.code = bytes)
    (h5 : (c.maxLocals == mx && c.exceptionTable.isEmpty && decide (c.maxStack ≤ mostOperands) && decide (meth.sig.returnType = rt) && !meth.locks && decide (parseMethodDescriptor y.desc = some meth.sig)) = true) : (Jvm.Cond.code y bytes mx rt).before a s = true := by
  simp only [Bool.and_eq_true, beq_iff_eq, Bool.not_eq_true', decide_eq_true_eq] at h5
  obtain ⟨⟨⟨⟨⟨g1, g2⟩, g3⟩, g4⟩, g5⟩, g6⟩ := h5
  simp [Cond.before, Cond.holds, Cond.value, h1, h2, h3, h4, g1, g2, g3, g4, g5, g6]
def isCode : Jvm.Cond → Bool
  | .code _ _ _ _ => true
  | _ => false
theorem all_split {L : List Jvm.Cond} {P : Jvm.Cond → Bool} (h1 : L.all (fun c => isCode c || P c) = true) (h2 : ∀ c ∈ L.filter isCode, P c = true) : L.all P = true := by
  refine List.all_eq_true.mpr fun c hc => ?_
  have h := List.all_eq_true.mp h1 c hc
  rcases Bool.eq_false_or_eq_true (isCode c) with hi | hi
  · exact h2 c (List.mem_filter.mpr ⟨hc, hi⟩)
  · simpa [hi] using h
set_option maxRecDepth 65536 in
theorem w_c0 : (Jvm.Cond.code x code maxLocals ret).before args0 about1 = true := code_word (m := ⟨1, 1⟩) (meth := k1m1) (c := k1c1) (by decide +kernel) rfl rfl rfl (by decide +kernel)
set_option maxRecDepth 65536 in
theorem w_c1 : (Jvm.Cond.code ({ cls := "com/example/outbound_courier/outboundcourier/http/BodyReader", name := "<init>", desc := "(JI)V" } : Jvm.MethodName) prog_4_method_1_code (4 : Nat) (Option.none : Option Jvm.ClassFile.FieldType)).before args0 about1 = true := code_word (m := ⟨2, 0⟩) (meth := k2m0) (c := k2c0) (by decide +kernel) rfl rfl rfl (by decide +kernel)
set_option maxRecDepth 65536 in
theorem w_c2 : (Jvm.Cond.code ({ cls := "java/lang/Object", name := "<init>", desc := "()V" } : Jvm.MethodName) object_method_1_code (1 : Nat) (Option.none : Option Jvm.ClassFile.FieldType)).before args0 about1 = true := code_word (m := ⟨0, 0⟩) (meth := k0m0) (c := k0c0) (by decide +kernel) rfl rfl rfl (by decide +kernel)
set_option maxRecDepth 65536 in
theorem w_c3 : (Jvm.Cond.code ({ cls := "java/io/ByteArrayOutputStream", name := "<init>", desc := "()V" } : Jvm.MethodName) jdk_2005_method_1_code (1 : Nat) (Option.none : Option Jvm.ClassFile.FieldType)).before args0 about1 = true := code_word (m := ⟨7, 0⟩) (meth := k7m0) (c := k7c0) (by decide +kernel) rfl rfl rfl (by decide +kernel)
set_option maxRecDepth 65536 in
theorem w_c4 : (Jvm.Cond.code ({ cls := "java/io/ByteArrayOutputStream", name := "<init>", desc := "(I)V" } : Jvm.MethodName) jdk_2005_method_2_code (2 : Nat) (Option.none : Option Jvm.ClassFile.FieldType)).before args0 about1 = true := code_word (m := ⟨7, 1⟩) (meth := k7m1) (c := k7c1) (by decide +kernel) rfl rfl rfl (by decide +kernel)
set_option maxRecDepth 65536 in
theorem w_c5 : (Jvm.Cond.code ({ cls := "java/io/OutputStream", name := "<init>", desc := "()V" } : Jvm.MethodName) jdk_2038_method_1_code (1 : Nat) (Option.none : Option Jvm.ClassFile.FieldType)).before args0 about1 = true := code_word (m := ⟨6, 0⟩) (meth := k6m0) (c := k6c0) (by decide +kernel) rfl rfl rfl (by decide +kernel)
set_option maxRecDepth 65536 in
theorem w_c6 : (Jvm.Cond.code ({ cls := "java/lang/StringBuilder", name := "<init>", desc := "()V" } : Jvm.MethodName) jdk_67_method_1_code (1 : Nat) (Option.none : Option Jvm.ClassFile.FieldType)).before args0 about1 = true := code_word (m := ⟨13, 0⟩) (meth := k13m0) (c := k13c0) (by decide +kernel) rfl rfl rfl (by decide +kernel)
set_option maxRecDepth 65536 in
theorem w_c7 : (Jvm.Cond.code ({ cls := "java/lang/AbstractStringBuilder", name := "<init>", desc := "(I)V" } : Jvm.MethodName) jdk_68_method_2_code (2 : Nat) (Option.none : Option Jvm.ClassFile.FieldType)).before args0 about1 = true := code_word (m := ⟨10, 1⟩) (meth := k10m1) (c := k10c1) (by decide +kernel) rfl rfl rfl (by decide +kernel)
set_option maxRecDepth 65536 in
theorem w_c8 : (Jvm.Cond.code ({ cls := "com/example/outbound_courier/outboundcourier/http/BodyReader", name := "isDone", desc := "()Z" } : Jvm.MethodName) prog_4_method_3_code (1 : Nat) (Option.some Jvm.ClassFile.FieldType.boolean)).before args0 about1 = true := code_word (m := ⟨2, 1⟩) (meth := k2m1) (c := k2c1) (by decide +kernel) rfl rfl rfl (by decide +kernel)
set_option maxRecDepth 65536 in
theorem w_c9 : (Jvm.Cond.code ({ cls := "com/example/outbound_courier/outboundcourier/http/BodyReader", name := "isTooLarge", desc := "()Z" } : Jvm.MethodName) prog_4_method_4_code (1 : Nat) (Option.some Jvm.ClassFile.FieldType.boolean)).before args0 about1 = true := code_word (m := ⟨2, 2⟩) (meth := k2m2) (c := k2c2) (by decide +kernel) rfl rfl rfl (by decide +kernel)
set_option maxRecDepth 65536 in
theorem w_c10 : (Jvm.Cond.code ({ cls := "com/example/outbound_courier/outboundcourier/http/BodyReader", name := "body", desc := "()[B" } : Jvm.MethodName) prog_4_method_5_code (1 : Nat) (Option.some (Jvm.ClassFile.FieldType.array Jvm.ClassFile.FieldType.byte))).before args0 about1 = true := code_word (m := ⟨2, 3⟩) (meth := k2m3) (c := k2c3) (by decide +kernel) rfl rfl rfl (by decide +kernel)
set_option maxRecDepth 65536 in
theorem w_c11 : (Jvm.Cond.code ({ cls := "java/util/Arrays", name := "copyOf", desc := "([BI)[B" } : Jvm.MethodName) jdk_65_method_121_code (3 : Nat) (Option.some (Jvm.ClassFile.FieldType.array Jvm.ClassFile.FieldType.byte))).before args0 about1 = true := code_word (m := ⟨19, 1⟩) (meth := k19m1) (c := k19c1) (by decide +kernel) rfl rfl rfl (by decide +kernel)
set_option maxRecDepth 65536 in
theorem w_c12 : (Jvm.Cond.code ({ cls := "java/lang/Math", name := "min", desc := "(II)I" } : Jvm.MethodName) jdk_29_method_69_code (2 : Nat) (Option.some Jvm.ClassFile.FieldType.int)).before args0 about1 = true := code_word (m := ⟨20, 1⟩) (meth := k20m1) (c := k20c1) (by decide +kernel) rfl rfl rfl (by decide +kernel)
def codes1 : List Jvm.Cond := [Jvm.Cond.code x code maxLocals ret, Jvm.Cond.code ({ cls := "com/example/outbound_courier/outboundcourier/http/BodyReader", name := "<init>", desc := "(JI)V" } : Jvm.MethodName) prog_4_method_1_code (4 : Nat) (Option.none : Option Jvm.ClassFile.FieldType), Jvm.Cond.code ({ cls := "java/lang/Object", name := "<init>", desc := "()V" } : Jvm.MethodName) object_method_1_code (1 : Nat) (Option.none : Option Jvm.ClassFile.FieldType), Jvm.Cond.code ({ cls := "java/io/ByteArrayOutputStream", name := "<init>", desc := "()V" } : Jvm.MethodName) jdk_2005_method_1_code (1 : Nat) (Option.none : Option Jvm.ClassFile.FieldType), Jvm.Cond.code ({ cls := "java/io/ByteArrayOutputStream", name := "<init>", desc := "(I)V" } : Jvm.MethodName) jdk_2005_method_2_code (2 : Nat) (Option.none : Option Jvm.ClassFile.FieldType), Jvm.Cond.code ({ cls := "java/io/OutputStream", name := "<init>", desc := "()V" } : Jvm.MethodName) jdk_2038_method_1_code (1 : Nat) (Option.none : Option Jvm.ClassFile.FieldType), Jvm.Cond.code ({ cls := "java/lang/StringBuilder", name := "<init>", desc := "()V" } : Jvm.MethodName) jdk_67_method_1_code (1 : Nat) (Option.none : Option Jvm.ClassFile.FieldType), Jvm.Cond.code ({ cls := "java/lang/AbstractStringBuilder", name := "<init>", desc := "(I)V" } : Jvm.MethodName) jdk_68_method_2_code (2 : Nat) (Option.none : Option Jvm.ClassFile.FieldType), Jvm.Cond.code ({ cls := "com/example/outbound_courier/outboundcourier/http/BodyReader", name := "isDone", desc := "()Z" } : Jvm.MethodName) prog_4_method_3_code (1 : Nat) (Option.some Jvm.ClassFile.FieldType.boolean), Jvm.Cond.code ({ cls := "com/example/outbound_courier/outboundcourier/http/BodyReader", name := "isTooLarge", desc := "()Z" } : Jvm.MethodName) prog_4_method_4_code (1 : Nat) (Option.some Jvm.ClassFile.FieldType.boolean), Jvm.Cond.code ({ cls := "com/example/outbound_courier/outboundcourier/http/BodyReader", name := "body", desc := "()[B" } : Jvm.MethodName) prog_4_method_5_code (1 : Nat) (Option.some (Jvm.ClassFile.FieldType.array Jvm.ClassFile.FieldType.byte)), Jvm.Cond.code ({ cls := "java/util/Arrays", name := "copyOf", desc := "([BI)[B" } : Jvm.MethodName) jdk_65_method_121_code (3 : Nat) (Option.some (Jvm.ClassFile.FieldType.array Jvm.ClassFile.FieldType.byte)), Jvm.Cond.code ({ cls := "java/lang/Math", name := "min", desc := "(II)I" } : Jvm.MethodName) jdk_29_method_69_code (2 : Nat) (Option.some Jvm.ClassFile.FieldType.int)]
set_option maxRecDepth 65536 in
theorem codes_eq : words1.filter isCode = codes1 := rfl
theorem w_codes : ∀ c ∈ words1.filter isCode, c.before args0 about1 = true := by
  rw [codes_eq]
  intro c hc
  simp only [codes1, List.mem_cons, List.not_mem_nil, or_false] at hc
  rcases hc with rfl | rfl | rfl | rfl | rfl | rfl | rfl | rfl | rfl | rfl | rfl | rfl | rfl
  · exact w_c0
  · exact w_c1
  · exact w_c2
  · exact w_c3
  · exact w_c4
  · exact w_c5
  · exact w_c6
  · exact w_c7
  · exact w_c8
  · exact w_c9
  · exact w_c10
  · exact w_c11
  · exact w_c12
set_option maxRecDepth 65536 in
theorem w_t1 : (words1.take 24).all (fun c => isCode c || c.before args0 about1) = true := by decide +kernel
set_option maxRecDepth 65536 in
theorem w_t2 : ((words1.drop 24).take 24).all (fun c => isCode c || c.before args0 about1) = true := by decide +kernel
set_option maxRecDepth 65536 in
theorem w_t3 : (((words1.drop 24).drop 24).take 24).all (fun c => isCode c || c.before args0 about1) = true := by decide +kernel
set_option maxRecDepth 65536 in
theorem w_t4 : ((((words1.drop 24).drop 24).drop 24).take 24).all (fun c => isCode c || c.before args0 about1) = true := by decide +kernel
set_option maxRecDepth 65536 in
theorem w_t5 : ((((words1.drop 24).drop 24).drop 24).drop 24).all (fun c => isCode c || c.before args0 about1) = true := by decide +kernel
theorem w_tables : (allAtoms (Jvm.Cond.code x code maxLocals ret :: tables_1)).before args0 about1 = true := by
  rw [allAtoms_all]
  show words1.all (fun c => c.before args0 about1) = true
  refine all_split ?_ w_codes
  rw [← List.take_append_drop 24 words1, List.all_append, w_t1, ← List.take_append_drop 24 (words1.drop 24), List.all_append, w_t2, ← List.take_append_drop 24 ((words1.drop 24).drop 24), List.all_append, w_t3, ← List.take_append_drop 24 (((words1.drop 24).drop 24).drop 24), List.all_append, w_t4, w_t5]
  rfl
set_option maxRecDepth 65536 in
theorem w_rest : rest_1_c.before args0 about1 = true := by decide +kernel
set_option maxRecDepth 65536 in
theorem w_case : (Jvm.Cond.and given_1 narrow_1).before args0 about1 = true := by decide +kernel
theorem w_applies : (headSpec (Jvm.Cond.code x code maxLocals ret :: tables_1) room_1).applies x e0.platform about1 = true :=
  (Spec.applies_iff w_frames).mpr ⟨w_running, w_runnable, w_alone, w_named, w_hears, w_ripe, w_room, w_tables⟩
theorem atStart : AtStart classFile x code maxLocals ret World_1 tables_1 room_1 Calls_1 rest_1 Pre_1 launch0 p0 e0 about1 theMethod args0 below0 :=
  ⟨lists_1, trivial, launch0.admits_env _ _ _, launch0.least_env, fairChoices_fair.cas, fairChoices_fair.clock, w_frames, w_args, w_heap, w_applies, trivial, w_rest, w_case⟩
end start1
theorem witness_1 : WitnessClaimed_1 := ⟨start1.p0, start1.e0, start1.about1, start1.theMethod, start1.args0, start1.below0, start1.atStart⟩
end Jvm.Pilot.@@N@@
