import JvmDerived
import JvmDerived.Pilot.@@N@@Statement
import JvmDerived.Pilot.@@N@@Code
set_option linter.unusedVariables false
set_option linter.unusedSimpArgs false
namespace Jvm.RoadKit
open Sem ClassFile Op Lib Jvm.Stand Jvm.Free Jvm.LawKit
section New
variable {p : Program} {l : Launch} {e : Env} {R : Room} {s : State} {m : MethodId} {args : Array Value} {below : List Frame} {meth : Method} {c : Code} {T : State} {locs : List Loc} {cells slots : Nat}
theorem retI (X : Stand p l e R s m args below meth c T locs cells slots) (hx : p.tables.exec = Jvm.exec) {pc : Nat} {Ls : Array Slot} {z : Int32} {rest : List Value} (hret : meth.sig.returnType = some .int) (hd : decode c.code pc = .ok (.ireturn, 1)) {fs : List Frame}
    (hl : ∀ (f : JFrame) (acts : List Action), f.method = m → f.locked = none → f.entered = [] → (doReturn e (T.setTop f) acts (some (.int z))).1 = T.setFrames fs) : Steps p.tables e below (T.setTop (mkF m pc Ls (.int z :: rest))) (T.setFrames fs) := by
  have hm' : T.vm.method? m = some meth := X.method'
  have hn : narrow .int (.int z) = .int z := rfl
  show Steps p.tables e below (T.setTop { method := m, pc := pc, locals := Ls, stack := _ :: rest, locked := none }) _
  jvm_step X.here [X.here.top, hx, hd, hm', hret, hn]
  first | (intro acts; rw [hl _ acts rfl rfl rfl]) | rw [hl _ _ rfl rfl rfl]
  exact Steps.refl _
theorem own_retA (X : Stand p l e R s m args below meth c T locs cells slots) (hx : p.tables.exec = Jvm.exec) {pc : Nat} {Ls : Array Slot} {z : Value} {ty : FieldType} {rest : List Value} (hret : meth.sig.returnType = some ty) (hty : ty.isReference = true) (hz : z.isRef = true) (hd : decode c.code pc = .ok (.areturn, 1)) {fs : List Frame}
    (hl : ∀ (f : JFrame) (acts : List Action), f.method = m → f.locked = none → f.entered = [] → (doReturn e (T.setTop f) acts (some z)).1 = T.setFrames fs) : Steps p.tables e below (T.setTop (mkF m pc Ls (z :: rest))) (T.setFrames fs) := by
  have hm' : T.vm.method? m = some meth := X.method'
  show Steps p.tables e below (T.setTop { method := m, pc := pc, locals := Ls, stack := _ :: rest, locked := none }) _
  jvm_step X.here [X.here.top, hx, hd, hm', hret, hz, hty]
  first | (intro acts; rw [hl _ acts rfl rfl rfl]) | rw [hl _ _ rfl rfl rfl]
  exact Steps.refl _
theorem own_lremM {g : JFrame} {target : State} (X : Stand p l e R s m args below meth c T locs cells slots) (hx : p.tables.exec = Jvm.exec) (hg : g.method = m) {x y : Int64} {rest : List Value} (hd : decode c.code g.pc = .ok (.lrem, 1)) (hs : g.stack = .long y :: .long x :: rest) (hy : y ≠ 0)
    (hr : Steps p.tables e below (T.setTop { g with pc := g.pc + 1, stack := .long (x % y) :: rest }) target) : Steps p.tables e below (T.setTop g) target :=
  XS.lrem X.here hx hg hd hs hy (by rw [lrem_mod]; exact hr)
end New
end Jvm.RoadKit
namespace Jvm.Pilot.@@N@@
open Jvm Jvm.ClassFile Sem Op Lib Jvm.Free Jvm.Stand Jvm.LawKit Jvm.RoadKit Bundle Jvm.Pilot.@@N@@.Jvm.D
theorem own_selP {Z s : State} {args a0 : Array Value} {y : MethodName} {n : Nat} (hZ : Z.Warmed39 s.vm) (wi : (Jvm.Cond.instantiable y.cls n).before a0 Z = true) (wp : (Jvm.Cond.privateMethod y).before a0 Z = true) (wm : (Jvm.Cond.instanceMethod y).before a0 Z = true) (hy : y.cls ≠ "java/lang/invoke/MethodHandle" ∧ y.cls ≠ "java/lang/invoke/VarHandle") : (Jvm.Cond.selects y.cls y y).before args s = true := by
  obtain ⟨c, k, h1, h2, -, h3, -⟩ := Cond.instantiable_spec (mv (args := args) hZ wi)
  exact Jvm.Stand.selects_self_of_private h1 h2 (by simp only [Bool.or_eq_false_iff] at h3; exact h3.1) (Cond.privateMethod_at (mvP hZ wp (args := args))) (mv hZ wm) hy
theorem own_fitC {Z : State} {h : Heap} {a : Addr} {cl : Cell} {ty : FieldType} {vs : List Value} {dv : Value} (A : Arr Z h a cl ty) (H : Has cl vs dv) (G : ∀ i, i < cl.slots.size → fits ty (vs.getD i dv) = true) : FitC Z cl := fun i v hv => by
  obtain ⟨hi, -⟩ := Array.getElem?_eq_some_iff.mp hv
  obtain ⟨hs, k, hk, comp, hkind⟩ := A.2.1
  have e : Z.slotType? cl.cls .none i = some ty := by simp [State.slotType?, hk, hkind]
  have q := G i hi
  have hv' : v = vs.getD i dv := Option.some.inj (hv.symm.trans (H i hi))
  rw [State.fitsSlot, e, hv']
  exact q
theorem own_ibW {Z s : State} {vm₁ : Vm} {Ts : List String} (I : IB Z s.vm Ts) (h : s.WarmedH vm₁) : IB Z vm₁ Ts := by
  obtain ⟨more, q1, q2⟩ := I
  exact ⟨more, by rw [h.interned_eq]; exact q1, q2⟩
theorem own_litS {Z s : State} {vm₁ : Vm} {own : String} {i : Nat} {a : Addr} (L : Lit s own i a) (h : s.Warmed39 vm₁) : Lit (Z.setVm vm₁) own i a := State.resolvedAt?_warmed39 (s := s) h L
theorem own_litW {Z s : State} {vm₁ : Vm} {own : String} {i : Nat} {a : Addr} (L : Lit s own i a) (h : s.WarmedH vm₁) : Lit (Z.setVm vm₁) own i a := own_litS L h.wide
theorem own_backOfV {p : Program} {l : Launch} {e : Env} {R : Room} {s : State} {args : Array Value} {below : List Frame} {Z : State} {a0 : Array Value} {h : Heap} {y : MethodName} {bytes : ByteArray} {maxL : Nat} {ret : Option FieldType} {rm : Room} {len W : Nat} {as' : Array Value} {VP : Vm → Prop} {Q : Option Value → Heap → Vm → List Loc → Prop}
    (hM : MetFree l y (head1 [Jvm.Cond.code y bytes maxL ret] rm) (fun a U => a = as' ∧ Z.Warmed39 U.vm ∧ U.heap = h ∧ VP U.vm) (fun _ _ _ _ _ => True) (fun _ U o U' => ∃ v L, o = .returned v ∧ Q v U'.heap U'.vm L ∧ ReturnedEndW U o U' L rm.cells rm.slots))
    (hZ : Z.Warmed39 s.vm) (wc : (Jvm.Cond.code y bytes maxL ret).before a0 Z = true) (wz : (Jvm.Cond.initialized y.cls).before a0 Z = true) (hf : rm.frames + 1 ≤ R.frames) (hl : W + (maxL + 11) + rm.locals ≤ R.locals) :
    BackS l R p e below s args y len W (fun A a => a = as' ∧ A.U.heap = h ∧ VP A.U.vm ∧ A.cells + rm.cells ≤ R.cells ∧ A.slots + rm.slots ≤ R.slots)
      (fun A _ v B => ∃ L, Q v B.U.heap B.U.vm L ∧ B.locs = A.locs ++ L ∧ B.cells = A.cells + rm.cells ∧ B.slots = A.slots + rm.slots) := by
  refine BackS.of_freeW (bytes := bytes) (maxL := maxL) (ret := ret) (E := fun _ _ o t L k n => k = rm.cells ∧ n = rm.slots ∧ ∃ v, o = .returned v ∧ Q v t.heap t.vm L) hM hf hl ?_ ?_ (fun _ _ _ _ _ _ _ _ _ => trivial) ?_ ?_
  · intro m meth c A a Y hp
    have hU : Z.Warmed39 A.U.vm := wtrans hZ Y.warmed
    refine ⟨?_, mv hU wc, mv hU wz, hp.2.2.2.1, hp.2.2.2.2⟩
    show (Jvm.Cond.and _ .tt).before a A.U = true
    rw [Cond.before_and, mv hU wc]
    rfl
  · intro m meth c A a g mk Y hp
    exact ⟨hp.1, wtrans hZ Y.warmed, hp.2.1, hp.2.2.1⟩
  · rintro _ _ _ _ ⟨v, L, h1, h2, h3⟩
    exact ⟨L, _, _, h3, rfl, rfl, v, h1, h2⟩
  · rintro m meth c A a g mk v t L k n Y hp _ _ ⟨e1, e2, v', e3, e4⟩
    cases e3
    subst e1 e2
    exact ⟨L, e4, rfl, rfl, rfl⟩
theorem own_n0 {Z : State} {n0 : Nat} {h : Heap} (X : Old Z n0 h) : n0 ≤ h.size := X.1 ▸ X.2.1
/-- the run comes from U to an end of which P says enough -/
def Go (p : Program) (e : Env) (below : List Frame) (P : Outcome → State → Prop) (U : State) : Prop := ∃ s₂ o, Steps p.tables e below U s₂ ∧ s₂.status = .running ∧ Ended s₂ below o ∧ P o s₂
theorem Go.st {p : Program} {e : Env} {below : List Frame} {P : Outcome → State → Prop} {U V : State} (k : ∀ t, Steps p.tables e below V t → Steps p.tables e below U t) (g : Go p e below P V) : Go p e below P U := by
  obtain ⟨a, b, h, r⟩ := g
  exact ⟨a, b, k _ h, r⟩
theorem Go.tr {p : Program} {e : Env} {below : List Frame} {P : Outcome → State → Prop} {U V : State} (k : Steps p.tables e below U V) (g : Go p e below P V) : Go p e below P U := by
  obtain ⟨a, b, h, r⟩ := g
  exact ⟨a, b, k.trans h, r⟩
theorem Go.start {p : Program} {e : Env} {below : List Frame} {P : Outcome → State → Prop} {U V : State} (k : ∀ {t}, Steps p.tables e below V t → Steps p.tables e below U t) (g : Go p e below P V) : ∃ s₂ o, Steps p.tables e below U s₂ ∧ s₂.status = .running ∧ Ended s₂ below o ∧ P o s₂ := by
  obtain ⟨a, b, h, r⟩ := g
  exact ⟨a, b, k h, r⟩
theorem own_valI {args : Array Value} {s : State} {t : Term} {k : Int32} (h : (Cond.eq t (.int k)).value args s none s [] = some true) : t.eval args s none [] s = some (.int k) := by
  obtain ⟨x, y, h1, h2, h3, -⟩ := cmp_v (Or.inl h)
  have e2 : y = .int k := (Option.some.inj h2).symm
  subst e2
  cases x <;> simp [Kin, Value.isRef] at h3
  simp only [Cond.value, h1, h2] at h
  simp at h
  rw [h1, h]
theorem own_valJ {args : Array Value} {s : State} {t : Term} {k : Int64} (h : (Cond.eq t (.long k)).value args s none s [] = some true) : t.eval args s none [] s = some (.long k) := by
  obtain ⟨x, y, h1, h2, h3, -⟩ := cmp_v (Or.inl h)
  have e2 : y = .long k := (Option.some.inj h2).symm
  subst e2
  cases x <;> simp [Kin, Value.isRef] at h3
  simp only [Cond.value, h1, h2] at h
  simp at h
  rw [h1, h]
theorem own_eqR {args : Array Value} {s : State} {t u : Term} {a : Addr} (ev : t.eval args s none [] s = some (.ref a)) (h : (Cond.eq t u).value args s none s [] = some true) : u.eval args s none [] s = some (.ref a) := by
  obtain ⟨x, y, h1, h2, h3, -⟩ := cmp_v (Or.inl h)
  cases h1.symm.trans ev
  have hy : y.isRef = true := h3.2
  have q := gotT (eq_R h1 h2 rfl hy) h
  rw [h2, ← q]
theorem own_eqL {args : Array Value} {s : State} {t u : Term} {a : Addr} (ev : u.eval args s none [] s = some (.ref a)) (h : (Cond.eq t u).value args s none s [] = some true) : t.eval args s none [] s = some (.ref a) := by
  obtain ⟨x, y, h1, h2, -, h4⟩ := cmp_v (Or.inl h)
  cases h2.symm.trans ev
  have hx : x.isRef = true := h4.2
  have q := gotT (eq_R h1 h2 hx rfl) h
  rw [h1, q]
theorem own_elI {Z : State} {args : Array Value} {t : Term} {a : Addr} {cl : Cell} {ty : FieldType} {i k : Int32} (A : Arr Z Z.heap a cl ty) (ev : t.eval args Z none [] Z = some (.ref a)) (h : (Cond.eq (.elem t (.int i)) (.int k)).value args Z none Z [] = some true) : cl.slots[i.toNatClampNeg]? = some (.int k) := (elem_in (own_valI h) ev rfl A.1).2
theorem own_elJ {Z : State} {args : Array Value} {t : Term} {a : Addr} {cl : Cell} {ty : FieldType} {i : Int32} {k : Int64} (A : Arr Z Z.heap a cl ty) (ev : t.eval args Z none [] Z = some (.ref a)) (h : (Cond.eq (.elem t (.int i)) (.long k)).value args Z none Z [] = some true) : cl.slots[i.toNatClampNeg]? = some (.long k) := (elem_in (own_valJ h) ev rfl A.1).2
theorem own_elR {Z : State} {args : Array Value} {t u : Term} {a b : Addr} {cl : Cell} {ty : FieldType} {i : Int32} (A : Arr Z Z.heap a cl ty) (ev : t.eval args Z none [] Z = some (.ref a)) (eu : u.eval args Z none [] Z = some (.ref b)) (h : (Cond.eq (.elem t (.int i)) u).value args Z none Z [] = some true) : cl.slots[i.toNatClampNeg]? = some (.ref b) := (elem_in (own_eqL eu h) ev rfl A.1).2
theorem own_arv {Z : State} {args : Array Value} {t : Term} {a : Addr} {cl : Cell} {ty : FieldType} {z : Int32} {vs : List Value} {dv : Value} (hf : Fit Z) (A : Arr Z Z.heap a cl ty) (ev : t.eval args Z none [] Z = some (.ref a)) (h : (Cond.eq (.length t) (.int z)).value args Z none Z [] = some true) (hz : ¬ z < 0) (hl : z.toNatClampNeg = vs.length) (H : HasL cl 0 vs) : Arv Z Z.heap a cl.cls ty z vs dv := by
  have hv := own_valI h
  have hA : Z.arrayAt? a = some cl := A.fin (Vm.Alike.refl _)
  have q : cl.slots.size < 2 ^ 31 := by
    simp only [Term.eval, ev, hA] at hv
    by_cases hq : cl.slots.size < 2 ^ 31
    · exact hq
    · simp [hA, hq] at hv
  have e : cl.slots.size.toInt32 = z := by
    have := len_f (args := args) (first := Z) (o := none) (idx := []) ev hA q
    rw [this] at hv
    exact Value.int.inj (Option.some.inj hv)
  exact Arv.start hf A q e hz hl H
theorem own_neI {args : Array Value} {s : State} {t : Term} {x k : Int32} (ev : t.eval args s none [] s = some (.int x)) (h : (Cond.not (Cond.eq t (.int k))).value args s none s [] = some true) : ¬ (x = k) := by
  have h' := not_v h
  intro e
  subst e
  simp [Cond.value, ev, Term.eval] at h'
theorem own_b32 (x : Int32) : -2147483648 ≤ x.toInt ∧ x.toInt < 2147483648 := ⟨Int32.le_toInt x, Int32.toInt_lt x⟩
theorem own_b64 (x : Int64) : -9223372036854775808 ≤ x.toInt ∧ x.toInt < 9223372036854775808 := ⟨Int64.le_toInt x, Int64.toInt_lt x⟩
theorem own_nlt32 {x y : Int32} (h : ¬ x < y) : ¬ x.toInt < y.toInt := fun q => h (Int32.lt_iff_toInt_lt.mpr q)
theorem own_nlt64 {x y : Int64} (h : ¬ x < y) : ¬ x.toInt < y.toInt := fun q => h (Int64.lt_iff_toInt_lt.mpr q)
theorem own_neq32 {x y : Int32} (h : ¬ x = y) : ¬ x.toInt = y.toInt := fun q => h (Int32.toInt_inj.mp q)
theorem own_neq64 {x y : Int64} (h : ¬ x = y) : ¬ x.toInt = y.toInt := fun q => h (Int64.toInt_inj.mp q)
theorem own_mask32 (x m : Int32) (k : Nat) (P : Int) (hk : k ≤ 31) (hm : m.toBitVec.toNat = 2 ^ k - 1) (hP : P = (2 ^ k : Nat)) : (x &&& m).toInt = x.toInt % P := by rw [hP]; exact c_mask x m k hk hm
theorem own_mask64 (x m : Int64) (k : Nat) (P : Int) (hk : k ≤ 63) (hm : m.toBitVec.toNat = 2 ^ k - 1) (hP : P = (2 ^ k : Nat)) : (x &&& m).toInt = x.toInt % P := by rw [hP]; exact c_maskL x m k hk hm
theorem own_rem32 (x y : Int32) (d : Int) (hy : y.toInt = d) : (0 ≤ x.toInt → (x % y).toInt = x.toInt % d) ∧ (x.toInt < 0 → (x % y).toInt = -((-x.toInt) % d)) := c_irem x y d hy
theorem own_rem64 (x y : Int64) (d : Int) (hy : y.toInt = d) : (0 ≤ x.toInt → (x % y).toInt = x.toInt % d) ∧ (x.toInt < 0 → (x % y).toInt = -((-x.toInt) % d)) := by rw [Int64.toInt_mod, hy]; exact tr _ _
theorem own_iushr0 (x q : Int32) (hk : q.toBitVec.toNat % 32 = 0) : ((x.toUInt32 >>> (q &&& 31).toUInt32).toInt32).toInt = x.toInt := by
  have e : q &&& 31 = 0 := by
    apply Int32.toBitVec_inj.mp
    apply BitVec.eq_of_toNat_eq
    rw [Int32.toBitVec_and, BitVec.toNat_and]
    show q.toBitVec.toNat &&& 31 = 0
    rw [show (31 : Nat) = 2 ^ 5 - 1 from rfl, Nat.and_two_pow_sub_one_eq_mod]
    exact hk
  rw [e, show (0 : Int32).toUInt32 = 0 from by decide]
  simp
theorem own_lushr0 (x : Int64) (q : Int32) (hk : q.toBitVec.toNat % 64 = 0) : ((x.toUInt64 >>> (q &&& 0x3f).toInt64.toUInt64).toInt64).toInt = x.toInt := by
  have e : q &&& 0x3f = 0 := by
    apply Int32.toBitVec_inj.mp
    apply BitVec.eq_of_toNat_eq
    rw [Int32.toBitVec_and, BitVec.toNat_and]
    show q.toBitVec.toNat &&& 63 = 0
    rw [show (63 : Nat) = 2 ^ 6 - 1 from rfl, Nat.and_two_pow_sub_one_eq_mod]
    exact hk
  rw [e, show (0 : Int32).toInt64.toUInt64 = 0 from by decide]
  simp
theorem own_ishr (x q : Int32) (k : Nat) (P : Int) (hk : q.toBitVec.toNat % 32 = k) (hP : P = (2 ^ k : Nat)) : (x >>> (q &&& 31)).toInt = x.toInt / P := by rw [hP]; exact c_ishr x q k hk
theorem own_ishl (x q : Int32) (k : Nat) (P : Int) (hk : q.toBitVec.toNat % 32 = k) (hP : P = (2 ^ k : Nat)) : ((x <<< (q &&& 31)).toInt - x.toInt * P) % 4294967296 = 0 := by rw [hP]; exact c_ishl x q k hk
theorem own_iushr (x q : Int32) (k : Nat) (P : Int) (hk : q.toBitVec.toNat % 32 = k) (hP : P = (2 ^ k : Nat)) (h0 : 0 < k) : ((x.toUInt32 >>> (q &&& 31).toUInt32).toInt32).toInt = (x.toInt % 4294967296) / P := by rw [hP]; exact c_iushr x q k hk h0
theorem own_lshr (x : Int64) (q : Int32) (k : Nat) (P : Int) (hk : q.toBitVec.toNat % 64 = k) (hP : P = (2 ^ k : Nat)) : (x >>> (q &&& 0x3f).toInt64).toInt = x.toInt / P := by rw [hP]; exact c_lshr x q k hk
theorem own_lshl (x : Int64) (q : Int32) (k : Nat) (P : Int) (hk : q.toBitVec.toNat % 64 = k) (hP : P = (2 ^ k : Nat)) : ((x <<< (q &&& 0x3f).toInt64).toInt - x.toInt * P) % 18446744073709551616 = 0 := by rw [hP]; exact c_lshl x q k hk
theorem own_lushr (x : Int64) (q : Int32) (k : Nat) (P : Int) (hk : q.toBitVec.toNat % 64 = k) (hP : P = (2 ^ k : Nat)) (h0 : 0 < k) : ((x.toUInt64 >>> (q &&& 0x3f).toInt64.toUInt64).toInt64).toInt = (x.toInt % 18446744073709551616) / P := by rw [hP]; exact c_lushr x q k hk h0
theorem own_addOk64 {x y : Int64} (h : Jvm.Free.XT.fits64 (x.toInt + y.toInt)) : ¬ (((x + y) ^^^ x) &&& ((x + y) ^^^ y)) < 0 := by
  have q := Jvm.Free.XT.addOk64 h
  rw [Int64.xor_comm (x + y) x, Int64.xor_comm (x + y) y]
  exact q

theorem w0 {Z : State} {a0 : Array Value} (hw : ∀ d ∈ tables_1, d.before a0 Z = true) : (Jvm.Cond.arrayClass Jvm.ClassFile.FieldType.char).before a0 Z = true := hw _ (List.mem_of_getElem? (i := 0) rfl)
theorem w1 {Z : State} {a0 : Array Value} (hw : ∀ d ∈ tables_1, d.before a0 Z = true) : (Jvm.Cond.classLink "com/example/outbound_courier/outboundcourier/http/RequestHeadHasBodyPinLaw" (7 : Nat) "com/example/outbound_courier/outboundcourier/http/RequestHead").before a0 Z = true := hw _ (List.mem_of_getElem? (i := 1) rfl)
theorem w2 {Z : State} {a0 : Array Value} (hw : ∀ d ∈ tables_1, d.before a0 Z = true) : (Jvm.Cond.instantiable "com/example/outbound_courier/outboundcourier/http/RequestHead" (9 : Nat)).before a0 Z = true := hw _ (List.mem_of_getElem? (i := 2) rfl)
theorem w3 {Z : State} {a0 : Array Value} (hw : ∀ d ∈ tables_1, d.before a0 Z = true) : (Jvm.Cond.initialized "com/example/outbound_courier/outboundcourier/http/RequestHead").before a0 Z = true := hw _ (List.mem_of_getElem? (i := 3) rfl)
theorem w4 {Z : State} {a0 : Array Value} (hw : ∀ d ∈ tables_1, d.before a0 Z = true) : (Jvm.Cond.classLink "com/example/outbound_courier/outboundcourier/http/RequestHeadHasBodyPinLaw" (9 : Nat) "java/lang/String").before a0 Z = true := hw _ (List.mem_of_getElem? (i := 4) rfl)
theorem w5 {Z : State} {a0 : Array Value} (hw : ∀ d ∈ tables_1, d.before a0 Z = true) : (Jvm.Cond.instantiable "java/lang/String" (4 : Nat)).before a0 Z = true := hw _ (List.mem_of_getElem? (i := 5) rfl)
theorem w6 {Z : State} {a0 : Array Value} (hw : ∀ d ∈ tables_1, d.before a0 Z = true) : (Jvm.Cond.initialized "java/lang/String").before a0 Z = true := hw _ (List.mem_of_getElem? (i := 6) rfl)
theorem w7 {Z : State} {a0 : Array Value} (hw : ∀ d ∈ tables_1, d.before a0 Z = true) : (Jvm.Cond.methodLink "com/example/outbound_courier/outboundcourier/http/RequestHeadHasBodyPinLaw" (11 : Nat) ({ cls := "java/lang/String", name := "<init>", desc := "([C)V" } : Jvm.MethodName)).before a0 Z = true := hw _ (List.mem_of_getElem? (i := 7) rfl)
theorem w8 {Z : State} {a0 : Array Value} (hw : ∀ d ∈ tables_1, d.before a0 Z = true) : (Jvm.Cond.instanceMethod ({ cls := "java/lang/String", name := "<init>", desc := "([C)V" } : Jvm.MethodName)).before a0 Z = true := hw _ (List.mem_of_getElem? (i := 8) rfl)
theorem w9 {Z : State} {a0 : Array Value} (hw : ∀ d ∈ tables_1, d.before a0 Z = true) : (Jvm.Cond.code ({ cls := "java/lang/String", name := "<init>", desc := "([C)V" } : Jvm.MethodName) jdk_42_method_3_code (2 : Nat) (Option.none : Option Jvm.ClassFile.FieldType)).before a0 Z = true := hw _ (List.mem_of_getElem? (i := 9) rfl)
theorem w10 {Z : State} {a0 : Array Value} (hw : ∀ d ∈ tables_1, d.before a0 Z = true) : (Jvm.Cond.methodLink "java/lang/String" (27 : Nat) ({ cls := "java/lang/String", name := "<init>", desc := "([CIILjava/lang/Void;)V" } : Jvm.MethodName)).before a0 Z = true := hw _ (List.mem_of_getElem? (i := 10) rfl)
theorem w11 {Z : State} {a0 : Array Value} (hw : ∀ d ∈ tables_1, d.before a0 Z = true) : (Jvm.Cond.instanceMethod ({ cls := "java/lang/String", name := "<init>", desc := "([CIILjava/lang/Void;)V" } : Jvm.MethodName)).before a0 Z = true := hw _ (List.mem_of_getElem? (i := 11) rfl)
theorem w13 {Z : State} {a0 : Array Value} (hw : ∀ d ∈ tables_1, d.before a0 Z = true) : (Jvm.Cond.code ({ cls := "java/lang/String", name := "<init>", desc := "([CIILjava/lang/Void;)V" } : Jvm.MethodName) jdk_42_method_149_code (6 : Nat) (Option.none : Option Jvm.ClassFile.FieldType)).before a0 Z = true := hw _ (List.mem_of_getElem? (i := 13) rfl)
theorem w14 {Z : State} {a0 : Array Value} (hw : ∀ d ∈ tables_1, d.before a0 Z = true) : (Jvm.Cond.methodLink "java/lang/String" (1 : Nat) ({ cls := "java/lang/Object", name := "<init>", desc := "()V" } : Jvm.MethodName)).before a0 Z = true := hw _ (List.mem_of_getElem? (i := 14) rfl)
theorem w15 {Z : State} {a0 : Array Value} (hw : ∀ d ∈ tables_1, d.before a0 Z = true) : (Jvm.Cond.instanceMethod ({ cls := "java/lang/Object", name := "<init>", desc := "()V" } : Jvm.MethodName)).before a0 Z = true := hw _ (List.mem_of_getElem? (i := 15) rfl)
theorem w16 {Z : State} {a0 : Array Value} (hw : ∀ d ∈ tables_1, d.before a0 Z = true) : (Jvm.Cond.code ({ cls := "java/lang/Object", name := "<init>", desc := "()V" } : Jvm.MethodName) object_method_1_code (1 : Nat) (Option.none : Option Jvm.ClassFile.FieldType)).before a0 Z = true := hw _ (List.mem_of_getElem? (i := 16) rfl)
theorem w17 {Z : State} {a0 : Array Value} (hw : ∀ d ∈ tables_1, d.before a0 Z = true) : (Jvm.Cond.fieldLink "java/lang/String" (38 : Nat) "java/lang/String" "COMPACT_STRINGS" "Z").before a0 Z = true := hw _ (List.mem_of_getElem? (i := 17) rfl)
theorem w18 {Z : State} {a0 : Array Value} (hw : ∀ d ∈ tables_1, d.before a0 Z = true) : (Jvm.Cond.methodLink "java/lang/String" (177 : Nat) ({ cls := "java/lang/StringUTF16", name := "compress", desc := "([CII)[B" } : Jvm.MethodName)).before a0 Z = true := hw _ (List.mem_of_getElem? (i := 18) rfl)
theorem w19 {Z : State} {a0 : Array Value} (hw : ∀ d ∈ tables_1, d.before a0 Z = true) : (Jvm.Cond.static ({ cls := "java/lang/StringUTF16", name := "compress", desc := "([CII)[B" } : Jvm.MethodName)).before a0 Z = true := hw _ (List.mem_of_getElem? (i := 19) rfl)
theorem w20 {Z : State} {a0 : Array Value} (hw : ∀ d ∈ tables_1, d.before a0 Z = true) : (Jvm.Cond.initialized "java/lang/StringUTF16").before a0 Z = true := hw _ (List.mem_of_getElem? (i := 20) rfl)
theorem w21 {Z : State} {a0 : Array Value} (hw : ∀ d ∈ tables_1, d.before a0 Z = true) : (Jvm.Cond.code ({ cls := "java/lang/StringUTF16", name := "compress", desc := "([CII)[B" } : Jvm.MethodName) jdk_52_method_16_code (6 : Nat) (Option.some (Jvm.ClassFile.FieldType.array Jvm.ClassFile.FieldType.byte))).before a0 Z = true := hw _ (List.mem_of_getElem? (i := 21) rfl)
theorem w22 {Z : State} {a0 : Array Value} (hw : ∀ d ∈ tables_1, d.before a0 Z = true) : (Jvm.Cond.arrayClass Jvm.ClassFile.FieldType.byte).before a0 Z = true := hw _ (List.mem_of_getElem? (i := 22) rfl)
theorem w23 {Z : State} {a0 : Array Value} (hw : ∀ d ∈ tables_1, d.before a0 Z = true) : (Jvm.Cond.methodLink "java/lang/StringUTF16" (115 : Nat) ({ cls := "java/lang/StringUTF16", name := "compress", desc := "([CI[BII)I" } : Jvm.MethodName)).before a0 Z = true := hw _ (List.mem_of_getElem? (i := 23) rfl)
theorem w24 {Z : State} {a0 : Array Value} (hw : ∀ d ∈ tables_1, d.before a0 Z = true) : (Jvm.Cond.static ({ cls := "java/lang/StringUTF16", name := "compress", desc := "([CI[BII)I" } : Jvm.MethodName)).before a0 Z = true := hw _ (List.mem_of_getElem? (i := 24) rfl)
theorem w25 {Z : State} {a0 : Array Value} (hw : ∀ d ∈ tables_1, d.before a0 Z = true) : (Jvm.Cond.code ({ cls := "java/lang/StringUTF16", name := "compress", desc := "([CI[BII)I" } : Jvm.MethodName) jdk_52_method_21_code (7 : Nat) (Option.some Jvm.ClassFile.FieldType.int)).before a0 Z = true := hw _ (List.mem_of_getElem? (i := 25) rfl)
theorem w26 {Z : State} {a0 : Array Value} (hw : ∀ d ∈ tables_1, d.before a0 Z = true) : (Jvm.Cond.methodLink "java/lang/String" (47 : Nat) ({ cls := "java/lang/StringUTF16", name := "coderFromArrayLen", desc := "([BI)B" } : Jvm.MethodName)).before a0 Z = true := hw _ (List.mem_of_getElem? (i := 26) rfl)
theorem w27 {Z : State} {a0 : Array Value} (hw : ∀ d ∈ tables_1, d.before a0 Z = true) : (Jvm.Cond.static ({ cls := "java/lang/StringUTF16", name := "coderFromArrayLen", desc := "([BI)B" } : Jvm.MethodName)).before a0 Z = true := hw _ (List.mem_of_getElem? (i := 27) rfl)
theorem w28 {Z : State} {a0 : Array Value} (hw : ∀ d ∈ tables_1, d.before a0 Z = true) : (Jvm.Cond.code ({ cls := "java/lang/StringUTF16", name := "coderFromArrayLen", desc := "([BI)B" } : Jvm.MethodName) jdk_52_method_15_code (2 : Nat) (Option.some Jvm.ClassFile.FieldType.byte)).before a0 Z = true := hw _ (List.mem_of_getElem? (i := 28) rfl)
theorem w29 {Z : State} {a0 : Array Value} (hw : ∀ d ∈ tables_1, d.before a0 Z = true) : (Jvm.Cond.fieldLink "java/lang/String" (15 : Nat) "java/lang/String" "coder" "B").before a0 Z = true := hw _ (List.mem_of_getElem? (i := 29) rfl)
theorem w30 {Z : State} {a0 : Array Value} (hw : ∀ d ∈ tables_1, d.before a0 Z = true) : (Jvm.Cond.laysFinal "java/lang/String" "java/lang/String" "coder" "B").before a0 Z = true := hw _ (List.mem_of_getElem? (i := 30) rfl)
theorem w31 {Z : State} {a0 : Array Value} (hw : ∀ d ∈ tables_1, d.before a0 Z = true) : (Jvm.Cond.fieldLink "java/lang/String" (9 : Nat) "java/lang/String" "value" "[B").before a0 Z = true := hw _ (List.mem_of_getElem? (i := 31) rfl)
theorem w32 {Z : State} {a0 : Array Value} (hw : ∀ d ∈ tables_1, d.before a0 Z = true) : (Jvm.Cond.laysFinal "java/lang/String" "java/lang/String" "value" "[B").before a0 Z = true := hw _ (List.mem_of_getElem? (i := 32) rfl)
theorem w33 {Z : State} {a0 : Array Value} (hw : ∀ d ∈ tables_1, d.before a0 Z = true) : (Jvm.Cond.methodLink "com/example/outbound_courier/outboundcourier/http/RequestHeadHasBodyPinLaw" (14 : Nat) ({ cls := "com/example/outbound_courier/outboundcourier/http/RequestHead", name := "<init>", desc := "(Ljava/lang/String;I)V" } : Jvm.MethodName)).before a0 Z = true := hw _ (List.mem_of_getElem? (i := 33) rfl)
theorem w34 {Z : State} {a0 : Array Value} (hw : ∀ d ∈ tables_1, d.before a0 Z = true) : (Jvm.Cond.instanceMethod ({ cls := "com/example/outbound_courier/outboundcourier/http/RequestHead", name := "<init>", desc := "(Ljava/lang/String;I)V" } : Jvm.MethodName)).before a0 Z = true := hw _ (List.mem_of_getElem? (i := 34) rfl)
theorem w35 {Z : State} {a0 : Array Value} (hw : ∀ d ∈ tables_1, d.before a0 Z = true) : (Jvm.Cond.code ({ cls := "com/example/outbound_courier/outboundcourier/http/RequestHead", name := "<init>", desc := "(Ljava/lang/String;I)V" } : Jvm.MethodName) prog_20_method_1_code (3 : Nat) (Option.none : Option Jvm.ClassFile.FieldType)).before a0 Z = true := hw _ (List.mem_of_getElem? (i := 35) rfl)
theorem w36 {Z : State} {a0 : Array Value} (hw : ∀ d ∈ tables_1, d.before a0 Z = true) : (Jvm.Cond.methodLink "com/example/outbound_courier/outboundcourier/http/RequestHead" (1 : Nat) ({ cls := "java/lang/Object", name := "<init>", desc := "()V" } : Jvm.MethodName)).before a0 Z = true := hw _ (List.mem_of_getElem? (i := 36) rfl)
theorem w37 {Z : State} {a0 : Array Value} (hw : ∀ d ∈ tables_1, d.before a0 Z = true) : (Jvm.Cond.classLink "com/example/outbound_courier/outboundcourier/http/RequestHead" (7 : Nat) "java/util/ArrayList").before a0 Z = true := hw _ (List.mem_of_getElem? (i := 37) rfl)
theorem w38 {Z : State} {a0 : Array Value} (hw : ∀ d ∈ tables_1, d.before a0 Z = true) : (Jvm.Cond.instantiable "java/util/ArrayList" (3 : Nat)).before a0 Z = true := hw _ (List.mem_of_getElem? (i := 38) rfl)
theorem w39 {Z : State} {a0 : Array Value} (hw : ∀ d ∈ tables_1, d.before a0 Z = true) : (Jvm.Cond.initialized "java/util/ArrayList").before a0 Z = true := hw _ (List.mem_of_getElem? (i := 39) rfl)
theorem w40 {Z : State} {a0 : Array Value} (hw : ∀ d ∈ tables_1, d.before a0 Z = true) : (Jvm.Cond.methodLink "com/example/outbound_courier/outboundcourier/http/RequestHead" (9 : Nat) ({ cls := "java/util/ArrayList", name := "<init>", desc := "()V" } : Jvm.MethodName)).before a0 Z = true := hw _ (List.mem_of_getElem? (i := 40) rfl)
theorem w41 {Z : State} {a0 : Array Value} (hw : ∀ d ∈ tables_1, d.before a0 Z = true) : (Jvm.Cond.instanceMethod ({ cls := "java/util/ArrayList", name := "<init>", desc := "()V" } : Jvm.MethodName)).before a0 Z = true := hw _ (List.mem_of_getElem? (i := 41) rfl)
theorem w42 {Z : State} {a0 : Array Value} (hw : ∀ d ∈ tables_1, d.before a0 Z = true) : (Jvm.Cond.code ({ cls := "java/util/ArrayList", name := "<init>", desc := "()V" } : Jvm.MethodName) jdk_38_method_2_code (1 : Nat) (Option.none : Option Jvm.ClassFile.FieldType)).before a0 Z = true := hw _ (List.mem_of_getElem? (i := 42) rfl)
theorem w43 {Z : State} {a0 : Array Value} (hw : ∀ d ∈ tables_1, d.before a0 Z = true) : (Jvm.Cond.methodLink "java/util/ArrayList" (1 : Nat) ({ cls := "java/util/AbstractList", name := "<init>", desc := "()V" } : Jvm.MethodName)).before a0 Z = true := hw _ (List.mem_of_getElem? (i := 43) rfl)
theorem w44 {Z : State} {a0 : Array Value} (hw : ∀ d ∈ tables_1, d.before a0 Z = true) : (Jvm.Cond.instanceMethod ({ cls := "java/util/AbstractList", name := "<init>", desc := "()V" } : Jvm.MethodName)).before a0 Z = true := hw _ (List.mem_of_getElem? (i := 44) rfl)
theorem w47 {Z : State} {a0 : Array Value} (hw : ∀ d ∈ tables_1, d.before a0 Z = true) : (Jvm.Cond.initialized "java/util/AbstractList").before a0 Z = true := hw _ (List.mem_of_getElem? (i := 47) rfl)
theorem w48 {Z : State} {a0 : Array Value} (hw : ∀ d ∈ tables_1, d.before a0 Z = true) : (Jvm.Cond.code ({ cls := "java/util/AbstractList", name := "<init>", desc := "()V" } : Jvm.MethodName) jdk_39_method_1_code (1 : Nat) (Option.none : Option Jvm.ClassFile.FieldType)).before a0 Z = true := hw _ (List.mem_of_getElem? (i := 48) rfl)
theorem w49 {Z : State} {a0 : Array Value} (hw : ∀ d ∈ tables_1, d.before a0 Z = true) : (Jvm.Cond.methodLink "java/util/AbstractList" (1 : Nat) ({ cls := "java/util/AbstractCollection", name := "<init>", desc := "()V" } : Jvm.MethodName)).before a0 Z = true := hw _ (List.mem_of_getElem? (i := 49) rfl)
theorem w50 {Z : State} {a0 : Array Value} (hw : ∀ d ∈ tables_1, d.before a0 Z = true) : (Jvm.Cond.instanceMethod ({ cls := "java/util/AbstractCollection", name := "<init>", desc := "()V" } : Jvm.MethodName)).before a0 Z = true := hw _ (List.mem_of_getElem? (i := 50) rfl)
theorem w53 {Z : State} {a0 : Array Value} (hw : ∀ d ∈ tables_1, d.before a0 Z = true) : (Jvm.Cond.initialized "java/util/AbstractCollection").before a0 Z = true := hw _ (List.mem_of_getElem? (i := 53) rfl)
theorem w54 {Z : State} {a0 : Array Value} (hw : ∀ d ∈ tables_1, d.before a0 Z = true) : (Jvm.Cond.code ({ cls := "java/util/AbstractCollection", name := "<init>", desc := "()V" } : Jvm.MethodName) jdk_22_method_1_code (1 : Nat) (Option.none : Option Jvm.ClassFile.FieldType)).before a0 Z = true := hw _ (List.mem_of_getElem? (i := 54) rfl)
theorem w55 {Z : State} {a0 : Array Value} (hw : ∀ d ∈ tables_1, d.before a0 Z = true) : (Jvm.Cond.methodLink "java/util/AbstractCollection" (1 : Nat) ({ cls := "java/lang/Object", name := "<init>", desc := "()V" } : Jvm.MethodName)).before a0 Z = true := hw _ (List.mem_of_getElem? (i := 55) rfl)
theorem w56 {Z : State} {a0 : Array Value} (hw : ∀ d ∈ tables_1, d.before a0 Z = true) : (Jvm.Cond.fieldLink "java/util/AbstractList" (7 : Nat) "java/util/AbstractList" "modCount" "I").before a0 Z = true := hw _ (List.mem_of_getElem? (i := 56) rfl)
theorem w57 {Z : State} {a0 : Array Value} (hw : ∀ d ∈ tables_1, d.before a0 Z = true) : (Jvm.Cond.lays "java/util/ArrayList" "java/util/AbstractList" "modCount" "I").before a0 Z = true := hw _ (List.mem_of_getElem? (i := 57) rfl)
theorem w58 {Z : State} {a0 : Array Value} (hw : ∀ d ∈ tables_1, d.before a0 Z = true) : (Jvm.Cond.fieldLink "java/util/ArrayList" (39 : Nat) "java/util/ArrayList" "DEFAULTCAPACITY_EMPTY_ELEMENTDATA" "[Ljava/lang/Object;").before a0 Z = true := hw _ (List.mem_of_getElem? (i := 58) rfl)
theorem w59 {Z : State} {a0 : Array Value} (hw : ∀ d ∈ tables_1, d.before a0 Z = true) : (Jvm.Cond.fieldLink "java/util/ArrayList" (9 : Nat) "java/util/ArrayList" "elementData" "[Ljava/lang/Object;").before a0 Z = true := hw _ (List.mem_of_getElem? (i := 59) rfl)
theorem w60 {Z : State} {a0 : Array Value} (hw : ∀ d ∈ tables_1, d.before a0 Z = true) : (Jvm.Cond.lays "java/util/ArrayList" "java/util/ArrayList" "elementData" "[Ljava/lang/Object;").before a0 Z = true := hw _ (List.mem_of_getElem? (i := 60) rfl)
theorem w61 {Z : State} {a0 : Array Value} (hw : ∀ d ∈ tables_1, d.before a0 Z = true) : (Jvm.Cond.fieldLink "com/example/outbound_courier/outboundcourier/http/RequestHead" (10 : Nat) "com/example/outbound_courier/outboundcourier/http/RequestHead" "fields" "Ljava/util/List;").before a0 Z = true := hw _ (List.mem_of_getElem? (i := 61) rfl)
theorem w62 {Z : State} {a0 : Array Value} (hw : ∀ d ∈ tables_1, d.before a0 Z = true) : (Jvm.Cond.laysFinal "com/example/outbound_courier/outboundcourier/http/RequestHead" "com/example/outbound_courier/outboundcourier/http/RequestHead" "fields" "Ljava/util/List;").before a0 Z = true := hw _ (List.mem_of_getElem? (i := 62) rfl)
theorem w63 {Z : State} {a0 : Array Value} (hw : ∀ d ∈ tables_1, d.before a0 Z = true) : (Jvm.Cond.constantLong "com/example/outbound_courier/outboundcourier/http/RequestHead" (16 : Nat) (-1 : Int64)).before a0 Z = true := hw _ (List.mem_of_getElem? (i := 63) rfl)
theorem w64 {Z : State} {a0 : Array Value} (hw : ∀ d ∈ tables_1, d.before a0 Z = true) : (Jvm.Cond.fieldLink "com/example/outbound_courier/outboundcourier/http/RequestHead" (18 : Nat) "com/example/outbound_courier/outboundcourier/http/RequestHead" "contentLength" "J").before a0 Z = true := hw _ (List.mem_of_getElem? (i := 64) rfl)
theorem w65 {Z : State} {a0 : Array Value} (hw : ∀ d ∈ tables_1, d.before a0 Z = true) : (Jvm.Cond.lays "com/example/outbound_courier/outboundcourier/http/RequestHead" "com/example/outbound_courier/outboundcourier/http/RequestHead" "contentLength" "J").before a0 Z = true := hw _ (List.mem_of_getElem? (i := 65) rfl)
theorem w66 {Z : State} {a0 : Array Value} (hw : ∀ d ∈ tables_1, d.before a0 Z = true) : (Jvm.Cond.fieldLink "com/example/outbound_courier/outboundcourier/http/RequestHead" (22 : Nat) "com/example/outbound_courier/outboundcourier/http/RequestHead" "method" "Ljava/lang/String;").before a0 Z = true := hw _ (List.mem_of_getElem? (i := 66) rfl)
theorem w67 {Z : State} {a0 : Array Value} (hw : ∀ d ∈ tables_1, d.before a0 Z = true) : (Jvm.Cond.laysFinal "com/example/outbound_courier/outboundcourier/http/RequestHead" "com/example/outbound_courier/outboundcourier/http/RequestHead" "method" "Ljava/lang/String;").before a0 Z = true := hw _ (List.mem_of_getElem? (i := 67) rfl)
theorem w68 {Z : State} {a0 : Array Value} (hw : ∀ d ∈ tables_1, d.before a0 Z = true) : (Jvm.Cond.fieldLink "com/example/outbound_courier/outboundcourier/http/RequestHead" (26 : Nat) "com/example/outbound_courier/outboundcourier/http/RequestHead" "version" "I").before a0 Z = true := hw _ (List.mem_of_getElem? (i := 68) rfl)
theorem w69 {Z : State} {a0 : Array Value} (hw : ∀ d ∈ tables_1, d.before a0 Z = true) : (Jvm.Cond.laysFinal "com/example/outbound_courier/outboundcourier/http/RequestHead" "com/example/outbound_courier/outboundcourier/http/RequestHead" "version" "I").before a0 Z = true := hw _ (List.mem_of_getElem? (i := 69) rfl)
theorem w70 {Z : State} {a0 : Array Value} (hw : ∀ d ∈ tables_1, d.before a0 Z = true) : (Jvm.Cond.methodLink "com/example/outbound_courier/outboundcourier/http/RequestHeadHasBodyPinLaw" (20 : Nat) ({ cls := "com/example/outbound_courier/outboundcourier/http/RequestHead", name := "setContentLength", desc := "(J)V" } : Jvm.MethodName)).before a0 Z = true := hw _ (List.mem_of_getElem? (i := 70) rfl)
theorem w71 {Z : State} {a0 : Array Value} (hw : ∀ d ∈ tables_1, d.before a0 Z = true) : (Jvm.Cond.declares ({ cls := "com/example/outbound_courier/outboundcourier/http/RequestHead", name := "setContentLength", desc := "(J)V" } : Jvm.MethodName)).before a0 Z = true := hw _ (List.mem_of_getElem? (i := 71) rfl)
theorem w72 {Z : State} {a0 : Array Value} (hw : ∀ d ∈ tables_1, d.before a0 Z = true) : (Jvm.Cond.instanceMethod ({ cls := "com/example/outbound_courier/outboundcourier/http/RequestHead", name := "setContentLength", desc := "(J)V" } : Jvm.MethodName)).before a0 Z = true := hw _ (List.mem_of_getElem? (i := 72) rfl)
theorem w73 {Z : State} {a0 : Array Value} (hw : ∀ d ∈ tables_1, d.before a0 Z = true) : (Jvm.Cond.selects "com/example/outbound_courier/outboundcourier/http/RequestHead" ({ cls := "com/example/outbound_courier/outboundcourier/http/RequestHead", name := "setContentLength", desc := "(J)V" } : Jvm.MethodName) ({ cls := "com/example/outbound_courier/outboundcourier/http/RequestHead", name := "setContentLength", desc := "(J)V" } : Jvm.MethodName)).before a0 Z = true := hw _ (List.mem_of_getElem? (i := 73) rfl)
theorem w74 {Z : State} {a0 : Array Value} (hw : ∀ d ∈ tables_1, d.before a0 Z = true) : (Jvm.Cond.code ({ cls := "com/example/outbound_courier/outboundcourier/http/RequestHead", name := "setContentLength", desc := "(J)V" } : Jvm.MethodName) prog_20_method_15_code (3 : Nat) (Option.none : Option Jvm.ClassFile.FieldType)).before a0 Z = true := hw _ (List.mem_of_getElem? (i := 74) rfl)
theorem w75 {Z : State} {a0 : Array Value} (hw : ∀ d ∈ tables_1, d.before a0 Z = true) : (Jvm.Cond.methodLink "com/example/outbound_courier/outboundcourier/http/RequestHeadHasBodyPinLaw" (30 : Nat) ({ cls := "com/example/outbound_courier/outboundcourier/http/RequestHead", name := "hasBody", desc := "()Z" } : Jvm.MethodName)).before a0 Z = true := hw _ (List.mem_of_getElem? (i := 75) rfl)
theorem w76 {Z : State} {a0 : Array Value} (hw : ∀ d ∈ tables_1, d.before a0 Z = true) : (Jvm.Cond.declares ({ cls := "com/example/outbound_courier/outboundcourier/http/RequestHead", name := "hasBody", desc := "()Z" } : Jvm.MethodName)).before a0 Z = true := hw _ (List.mem_of_getElem? (i := 76) rfl)
theorem w77 {Z : State} {a0 : Array Value} (hw : ∀ d ∈ tables_1, d.before a0 Z = true) : (Jvm.Cond.instanceMethod ({ cls := "com/example/outbound_courier/outboundcourier/http/RequestHead", name := "hasBody", desc := "()Z" } : Jvm.MethodName)).before a0 Z = true := hw _ (List.mem_of_getElem? (i := 77) rfl)
theorem w78 {Z : State} {a0 : Array Value} (hw : ∀ d ∈ tables_1, d.before a0 Z = true) : (Jvm.Cond.selects "com/example/outbound_courier/outboundcourier/http/RequestHead" ({ cls := "com/example/outbound_courier/outboundcourier/http/RequestHead", name := "hasBody", desc := "()Z" } : Jvm.MethodName) ({ cls := "com/example/outbound_courier/outboundcourier/http/RequestHead", name := "hasBody", desc := "()Z" } : Jvm.MethodName)).before a0 Z = true := hw _ (List.mem_of_getElem? (i := 78) rfl)
theorem w79 {Z : State} {a0 : Array Value} (hw : ∀ d ∈ tables_1, d.before a0 Z = true) : (Jvm.Cond.code ({ cls := "com/example/outbound_courier/outboundcourier/http/RequestHead", name := "hasBody", desc := "()Z" } : Jvm.MethodName) prog_20_method_8_code (1 : Nat) (Option.some Jvm.ClassFile.FieldType.boolean)).before a0 Z = true := hw _ (List.mem_of_getElem? (i := 79) rfl)
theorem w80 {Z : State} {a0 : Array Value} (hw : ∀ d ∈ tables_1, d.before a0 Z = true) : (Jvm.Cond.fieldLink "com/example/outbound_courier/outboundcourier/http/RequestHead" (55 : Nat) "com/example/outbound_courier/outboundcourier/http/RequestHead" "chunked" "Z").before a0 Z = true := hw _ (List.mem_of_getElem? (i := 80) rfl)
theorem w81 {Z : State} {a0 : Array Value} (hw : ∀ d ∈ tables_1, d.before a0 Z = true) : (Jvm.Cond.lays "com/example/outbound_courier/outboundcourier/http/RequestHead" "com/example/outbound_courier/outboundcourier/http/RequestHead" "chunked" "Z").before a0 Z = true := hw _ (List.mem_of_getElem? (i := 81) rfl)
theorem w82 {Z : State} {a0 : Array Value} (hw : ∀ d ∈ tables_1, d.before a0 Z = true) : (Jvm.Cond.methodLink "com/example/outbound_courier/outboundcourier/http/RequestHeadHasBodyPinLaw" (24 : Nat) ({ cls := "com/example/outbound_courier/outboundcourier/http/RequestHead", name := "setClose", desc := "()V" } : Jvm.MethodName)).before a0 Z = true := hw _ (List.mem_of_getElem? (i := 82) rfl)
theorem w83 {Z : State} {a0 : Array Value} (hw : ∀ d ∈ tables_1, d.before a0 Z = true) : (Jvm.Cond.declares ({ cls := "com/example/outbound_courier/outboundcourier/http/RequestHead", name := "setClose", desc := "()V" } : Jvm.MethodName)).before a0 Z = true := hw _ (List.mem_of_getElem? (i := 83) rfl)
theorem w84 {Z : State} {a0 : Array Value} (hw : ∀ d ∈ tables_1, d.before a0 Z = true) : (Jvm.Cond.instanceMethod ({ cls := "com/example/outbound_courier/outboundcourier/http/RequestHead", name := "setClose", desc := "()V" } : Jvm.MethodName)).before a0 Z = true := hw _ (List.mem_of_getElem? (i := 84) rfl)
theorem w85 {Z : State} {a0 : Array Value} (hw : ∀ d ∈ tables_1, d.before a0 Z = true) : (Jvm.Cond.selects "com/example/outbound_courier/outboundcourier/http/RequestHead" ({ cls := "com/example/outbound_courier/outboundcourier/http/RequestHead", name := "setClose", desc := "()V" } : Jvm.MethodName) ({ cls := "com/example/outbound_courier/outboundcourier/http/RequestHead", name := "setClose", desc := "()V" } : Jvm.MethodName)).before a0 Z = true := hw _ (List.mem_of_getElem? (i := 85) rfl)
theorem w86 {Z : State} {a0 : Array Value} (hw : ∀ d ∈ tables_1, d.before a0 Z = true) : (Jvm.Cond.code ({ cls := "com/example/outbound_courier/outboundcourier/http/RequestHead", name := "setClose", desc := "()V" } : Jvm.MethodName) prog_20_method_17_code (1 : Nat) (Option.none : Option Jvm.ClassFile.FieldType)).before a0 Z = true := hw _ (List.mem_of_getElem? (i := 86) rfl)
theorem w87 {Z : State} {a0 : Array Value} (hw : ∀ d ∈ tables_1, d.before a0 Z = true) : (Jvm.Cond.fieldLink "com/example/outbound_courier/outboundcourier/http/RequestHead" (59 : Nat) "com/example/outbound_courier/outboundcourier/http/RequestHead" "close" "Z").before a0 Z = true := hw _ (List.mem_of_getElem? (i := 87) rfl)
theorem w88 {Z : State} {a0 : Array Value} (hw : ∀ d ∈ tables_1, d.before a0 Z = true) : (Jvm.Cond.lays "com/example/outbound_courier/outboundcourier/http/RequestHead" "com/example/outbound_courier/outboundcourier/http/RequestHead" "close" "Z").before a0 Z = true := hw _ (List.mem_of_getElem? (i := 88) rfl)
theorem w89 {Z : State} {a0 : Array Value} (hw : ∀ d ∈ tables_1, d.before a0 Z = true) : (Jvm.Cond.methodLink "com/example/outbound_courier/outboundcourier/http/RequestHeadHasBodyPinLaw" (27 : Nat) ({ cls := "com/example/outbound_courier/outboundcourier/http/RequestHead", name := "setExpectsContinue", desc := "()V" } : Jvm.MethodName)).before a0 Z = true := hw _ (List.mem_of_getElem? (i := 89) rfl)
theorem w90 {Z : State} {a0 : Array Value} (hw : ∀ d ∈ tables_1, d.before a0 Z = true) : (Jvm.Cond.declares ({ cls := "com/example/outbound_courier/outboundcourier/http/RequestHead", name := "setExpectsContinue", desc := "()V" } : Jvm.MethodName)).before a0 Z = true := hw _ (List.mem_of_getElem? (i := 90) rfl)
theorem w91 {Z : State} {a0 : Array Value} (hw : ∀ d ∈ tables_1, d.before a0 Z = true) : (Jvm.Cond.instanceMethod ({ cls := "com/example/outbound_courier/outboundcourier/http/RequestHead", name := "setExpectsContinue", desc := "()V" } : Jvm.MethodName)).before a0 Z = true := hw _ (List.mem_of_getElem? (i := 91) rfl)
theorem w92 {Z : State} {a0 : Array Value} (hw : ∀ d ∈ tables_1, d.before a0 Z = true) : (Jvm.Cond.selects "com/example/outbound_courier/outboundcourier/http/RequestHead" ({ cls := "com/example/outbound_courier/outboundcourier/http/RequestHead", name := "setExpectsContinue", desc := "()V" } : Jvm.MethodName) ({ cls := "com/example/outbound_courier/outboundcourier/http/RequestHead", name := "setExpectsContinue", desc := "()V" } : Jvm.MethodName)).before a0 Z = true := hw _ (List.mem_of_getElem? (i := 92) rfl)
theorem w93 {Z : State} {a0 : Array Value} (hw : ∀ d ∈ tables_1, d.before a0 Z = true) : (Jvm.Cond.code ({ cls := "com/example/outbound_courier/outboundcourier/http/RequestHead", name := "setExpectsContinue", desc := "()V" } : Jvm.MethodName) prog_20_method_18_code (1 : Nat) (Option.none : Option Jvm.ClassFile.FieldType)).before a0 Z = true := hw _ (List.mem_of_getElem? (i := 93) rfl)
theorem w94 {Z : State} {a0 : Array Value} (hw : ∀ d ∈ tables_1, d.before a0 Z = true) : (Jvm.Cond.fieldLink "com/example/outbound_courier/outboundcourier/http/RequestHead" (62 : Nat) "com/example/outbound_courier/outboundcourier/http/RequestHead" "expectsContinue" "Z").before a0 Z = true := hw _ (List.mem_of_getElem? (i := 94) rfl)
theorem w95 {Z : State} {a0 : Array Value} (hw : ∀ d ∈ tables_1, d.before a0 Z = true) : (Jvm.Cond.lays "com/example/outbound_courier/outboundcourier/http/RequestHead" "com/example/outbound_courier/outboundcourier/http/RequestHead" "expectsContinue" "Z").before a0 Z = true := hw _ (List.mem_of_getElem? (i := 95) rfl)
theorem w96 {Z : State} {a0 : Array Value} (hw : ∀ d ∈ tables_1, d.before a0 Z = true) : (Jvm.Cond.methodLink "com/example/outbound_courier/outboundcourier/http/RequestHeadHasBodyPinLaw" (17 : Nat) ({ cls := "com/example/outbound_courier/outboundcourier/http/RequestHead", name := "setChunked", desc := "()V" } : Jvm.MethodName)).before a0 Z = true := hw _ (List.mem_of_getElem? (i := 96) rfl)
theorem w97 {Z : State} {a0 : Array Value} (hw : ∀ d ∈ tables_1, d.before a0 Z = true) : (Jvm.Cond.declares ({ cls := "com/example/outbound_courier/outboundcourier/http/RequestHead", name := "setChunked", desc := "()V" } : Jvm.MethodName)).before a0 Z = true := hw _ (List.mem_of_getElem? (i := 97) rfl)
theorem w98 {Z : State} {a0 : Array Value} (hw : ∀ d ∈ tables_1, d.before a0 Z = true) : (Jvm.Cond.instanceMethod ({ cls := "com/example/outbound_courier/outboundcourier/http/RequestHead", name := "setChunked", desc := "()V" } : Jvm.MethodName)).before a0 Z = true := hw _ (List.mem_of_getElem? (i := 98) rfl)
theorem w99 {Z : State} {a0 : Array Value} (hw : ∀ d ∈ tables_1, d.before a0 Z = true) : (Jvm.Cond.selects "com/example/outbound_courier/outboundcourier/http/RequestHead" ({ cls := "com/example/outbound_courier/outboundcourier/http/RequestHead", name := "setChunked", desc := "()V" } : Jvm.MethodName) ({ cls := "com/example/outbound_courier/outboundcourier/http/RequestHead", name := "setChunked", desc := "()V" } : Jvm.MethodName)).before a0 Z = true := hw _ (List.mem_of_getElem? (i := 99) rfl)
theorem w100 {Z : State} {a0 : Array Value} (hw : ∀ d ∈ tables_1, d.before a0 Z = true) : (Jvm.Cond.code ({ cls := "com/example/outbound_courier/outboundcourier/http/RequestHead", name := "setChunked", desc := "()V" } : Jvm.MethodName) prog_20_method_16_code (1 : Nat) (Option.none : Option Jvm.ClassFile.FieldType)).before a0 Z = true := hw _ (List.mem_of_getElem? (i := 100) rfl)
theorem d1_0 : decode jdk_42_method_3_code 0 = .ok (.aload_n 0, 1) := by decide +kernel
theorem d1_1 : decode jdk_42_method_3_code 1 = .ok (.aload_n 1, 1) := by decide +kernel
theorem d1_2 : decode jdk_42_method_3_code 2 = .ok (.iconst 0, 1) := by decide +kernel
theorem d1_3 : decode jdk_42_method_3_code 3 = .ok (.aload_n 1, 1) := by decide +kernel
theorem d1_4 : decode jdk_42_method_3_code 4 = .ok (.arraylength, 1) := by decide +kernel
theorem d1_5 : decode jdk_42_method_3_code 5 = .ok (.aconst_null, 1) := by decide +kernel
theorem d1_6 : decode jdk_42_method_3_code 6 = .ok (.invokespecial 27, 3) := by decide +kernel
theorem d1_9 : decode jdk_42_method_3_code 9 = .ok (.return_, 1) := by decide +kernel
theorem d2_0 : decode jdk_42_method_149_code 0 = .ok (.aload_n 0, 1) := by decide +kernel
theorem d2_1 : decode jdk_42_method_149_code 1 = .ok (.invokespecial 1, 3) := by decide +kernel
theorem d2_4 : decode jdk_42_method_149_code 4 = .ok (.iload_n 3, 1) := by decide +kernel
theorem d2_5 : decode jdk_42_method_149_code 5 = .ok (.ifCond .ne 22, 3) := by decide +kernel
theorem d2_27 : decode jdk_42_method_149_code 27 = .ok (.getstatic 38, 3) := by decide +kernel
theorem d2_30 : decode jdk_42_method_149_code 30 = .ok (.ifCond .eq 28, 3) := by decide +kernel
theorem d2_33 : decode jdk_42_method_149_code 33 = .ok (.aload_n 1, 1) := by decide +kernel
theorem d2_34 : decode jdk_42_method_149_code 34 = .ok (.iload_n 2, 1) := by decide +kernel
theorem d2_35 : decode jdk_42_method_149_code 35 = .ok (.iload_n 3, 1) := by decide +kernel
theorem d2_36 : decode jdk_42_method_149_code 36 = .ok (.invokestatic 177, 3) := by decide +kernel
theorem d2_39 : decode jdk_42_method_149_code 39 = .ok (.astore 5, 2) := by decide +kernel
theorem d2_41 : decode jdk_42_method_149_code 41 = .ok (.aload_n 0, 1) := by decide +kernel
theorem d2_42 : decode jdk_42_method_149_code 42 = .ok (.aload 5, 2) := by decide +kernel
theorem d2_44 : decode jdk_42_method_149_code 44 = .ok (.iload_n 3, 1) := by decide +kernel
theorem d2_45 : decode jdk_42_method_149_code 45 = .ok (.invokestatic 47, 3) := by decide +kernel
theorem d2_48 : decode jdk_42_method_149_code 48 = .ok (.putfield 15, 3) := by decide +kernel
theorem d2_51 : decode jdk_42_method_149_code 51 = .ok (.aload_n 0, 1) := by decide +kernel
theorem d2_52 : decode jdk_42_method_149_code 52 = .ok (.aload 5, 2) := by decide +kernel
theorem d2_54 : decode jdk_42_method_149_code 54 = .ok (.putfield 9, 3) := by decide +kernel
theorem d2_57 : decode jdk_42_method_149_code 57 = .ok (.return_, 1) := by decide +kernel
theorem d4_0 : decode jdk_52_method_16_code 0 = .ok (.iload_n 2, 1) := by decide +kernel
theorem d4_1 : decode jdk_52_method_16_code 1 = .ok (.newarray .byte, 2) := by decide +kernel
theorem d4_3 : decode jdk_52_method_16_code 3 = .ok (.astore_n 3, 1) := by decide +kernel
theorem d4_4 : decode jdk_52_method_16_code 4 = .ok (.aload_n 0, 1) := by decide +kernel
theorem d4_5 : decode jdk_52_method_16_code 5 = .ok (.iload_n 1, 1) := by decide +kernel
theorem d4_6 : decode jdk_52_method_16_code 6 = .ok (.aload_n 3, 1) := by decide +kernel
theorem d4_7 : decode jdk_52_method_16_code 7 = .ok (.iconst 0, 1) := by decide +kernel
theorem d4_8 : decode jdk_52_method_16_code 8 = .ok (.iload_n 2, 1) := by decide +kernel
theorem d4_9 : decode jdk_52_method_16_code 9 = .ok (.invokestatic 115, 3) := by decide +kernel
theorem d4_12 : decode jdk_52_method_16_code 12 = .ok (.istore 4, 2) := by decide +kernel
theorem d4_14 : decode jdk_52_method_16_code 14 = .ok (.iload 4, 2) := by decide +kernel
theorem d4_16 : decode jdk_52_method_16_code 16 = .ok (.iload_n 2, 1) := by decide +kernel
theorem d4_17 : decode jdk_52_method_16_code 17 = .ok (.if_icmp .eq 40, 3) := by decide +kernel
theorem d4_57 : decode jdk_52_method_16_code 57 = .ok (.aload_n 3, 1) := by decide +kernel
theorem d4_58 : decode jdk_52_method_16_code 58 = .ok (.areturn, 1) := by decide +kernel
theorem d5_0 : decode jdk_52_method_21_code 0 = .ok (.iconst 0, 1) := by decide +kernel
theorem d5_1 : decode jdk_52_method_21_code 1 = .ok (.istore 5, 2) := by decide +kernel
theorem d5_3 : decode jdk_52_method_21_code 3 = .ok (.iload 5, 2) := by decide +kernel
theorem d5_5 : decode jdk_52_method_21_code 5 = .ok (.iload 4, 2) := by decide +kernel
theorem d5_7 : decode jdk_52_method_21_code 7 = .ok (.if_icmp .ge 37, 3) := by decide +kernel
theorem d5_10 : decode jdk_52_method_21_code 10 = .ok (.aload_n 0, 1) := by decide +kernel
theorem d5_11 : decode jdk_52_method_21_code 11 = .ok (.iload_n 1, 1) := by decide +kernel
theorem d5_12 : decode jdk_52_method_21_code 12 = .ok (.caload, 1) := by decide +kernel
theorem d5_13 : decode jdk_52_method_21_code 13 = .ok (.istore 6, 2) := by decide +kernel
theorem d5_15 : decode jdk_52_method_21_code 15 = .ok (.iload 6, 2) := by decide +kernel
theorem d5_17 : decode jdk_52_method_21_code 17 = .ok (.sipush 255, 3) := by decide +kernel
theorem d5_20 : decode jdk_52_method_21_code 20 = .ok (.if_icmp .le 6, 3) := by decide +kernel
theorem d5_26 : decode jdk_52_method_21_code 26 = .ok (.aload_n 2, 1) := by decide +kernel
theorem d5_27 : decode jdk_52_method_21_code 27 = .ok (.iload_n 3, 1) := by decide +kernel
theorem d5_28 : decode jdk_52_method_21_code 28 = .ok (.iload 6, 2) := by decide +kernel
theorem d5_30 : decode jdk_52_method_21_code 30 = .ok (.i2b, 1) := by decide +kernel
theorem d5_31 : decode jdk_52_method_21_code 31 = .ok (.bastore, 1) := by decide +kernel
theorem d5_32 : decode jdk_52_method_21_code 32 = .ok (.iinc 1 1, 3) := by decide +kernel
theorem d5_35 : decode jdk_52_method_21_code 35 = .ok (.iinc 3 1, 3) := by decide +kernel
theorem d5_38 : decode jdk_52_method_21_code 38 = .ok (.iinc 5 1, 3) := by decide +kernel
theorem d5_41 : decode jdk_52_method_21_code 41 = .ok (.goto (-38), 3) := by decide +kernel
theorem d5_44 : decode jdk_52_method_21_code 44 = .ok (.iload 4, 2) := by decide +kernel
theorem d5_46 : decode jdk_52_method_21_code 46 = .ok (.ireturn, 1) := by decide +kernel
theorem d6_0 : decode jdk_52_method_15_code 0 = .ok (.iload_n 1, 1) := by decide +kernel
theorem d6_1 : decode jdk_52_method_15_code 1 = .ok (.aload_n 0, 1) := by decide +kernel
theorem d6_2 : decode jdk_52_method_15_code 2 = .ok (.arraylength, 1) := by decide +kernel
theorem d6_3 : decode jdk_52_method_15_code 3 = .ok (.isub, 1) := by decide +kernel
theorem d6_4 : decode jdk_52_method_15_code 4 = .ok (.bipush 31, 2) := by decide +kernel
theorem d6_6 : decode jdk_52_method_15_code 6 = .ok (.iushr, 1) := by decide +kernel
theorem d6_7 : decode jdk_52_method_15_code 7 = .ok (.i2b, 1) := by decide +kernel
theorem d6_8 : decode jdk_52_method_15_code 8 = .ok (.ireturn, 1) := by decide +kernel
theorem d7_0 : decode prog_20_method_1_code 0 = .ok (.aload_n 0, 1) := by decide +kernel
theorem d7_1 : decode prog_20_method_1_code 1 = .ok (.invokespecial 1, 3) := by decide +kernel
theorem d7_4 : decode prog_20_method_1_code 4 = .ok (.aload_n 0, 1) := by decide +kernel
theorem d7_5 : decode prog_20_method_1_code 5 = .ok (.new 7, 3) := by decide +kernel
theorem d7_8 : decode prog_20_method_1_code 8 = .ok (.dup, 1) := by decide +kernel
theorem d7_9 : decode prog_20_method_1_code 9 = .ok (.invokespecial 9, 3) := by decide +kernel
theorem d7_12 : decode prog_20_method_1_code 12 = .ok (.putfield 10, 3) := by decide +kernel
theorem d7_15 : decode prog_20_method_1_code 15 = .ok (.aload_n 0, 1) := by decide +kernel
theorem d7_16 : decode prog_20_method_1_code 16 = .ok (.ldc2_w 16, 3) := by decide +kernel
theorem d7_19 : decode prog_20_method_1_code 19 = .ok (.putfield 18, 3) := by decide +kernel
theorem d7_22 : decode prog_20_method_1_code 22 = .ok (.aload_n 0, 1) := by decide +kernel
theorem d7_23 : decode prog_20_method_1_code 23 = .ok (.aload_n 1, 1) := by decide +kernel
theorem d7_24 : decode prog_20_method_1_code 24 = .ok (.putfield 22, 3) := by decide +kernel
theorem d7_27 : decode prog_20_method_1_code 27 = .ok (.aload_n 0, 1) := by decide +kernel
theorem d7_28 : decode prog_20_method_1_code 28 = .ok (.iload_n 2, 1) := by decide +kernel
theorem d7_29 : decode prog_20_method_1_code 29 = .ok (.putfield 26, 3) := by decide +kernel
theorem d7_32 : decode prog_20_method_1_code 32 = .ok (.return_, 1) := by decide +kernel
theorem d8_0 : decode jdk_38_method_2_code 0 = .ok (.aload_n 0, 1) := by decide +kernel
theorem d8_1 : decode jdk_38_method_2_code 1 = .ok (.invokespecial 1, 3) := by decide +kernel
theorem d8_4 : decode jdk_38_method_2_code 4 = .ok (.aload_n 0, 1) := by decide +kernel
theorem d8_5 : decode jdk_38_method_2_code 5 = .ok (.getstatic 39, 3) := by decide +kernel
theorem d8_8 : decode jdk_38_method_2_code 8 = .ok (.putfield 9, 3) := by decide +kernel
theorem d8_11 : decode jdk_38_method_2_code 11 = .ok (.return_, 1) := by decide +kernel
theorem d9_0 : decode jdk_39_method_1_code 0 = .ok (.aload_n 0, 1) := by decide +kernel
theorem d9_1 : decode jdk_39_method_1_code 1 = .ok (.invokespecial 1, 3) := by decide +kernel
theorem d9_4 : decode jdk_39_method_1_code 4 = .ok (.aload_n 0, 1) := by decide +kernel
theorem d9_5 : decode jdk_39_method_1_code 5 = .ok (.iconst 0, 1) := by decide +kernel
theorem d9_6 : decode jdk_39_method_1_code 6 = .ok (.putfield 7, 3) := by decide +kernel
theorem d9_9 : decode jdk_39_method_1_code 9 = .ok (.return_, 1) := by decide +kernel
theorem d10_0 : decode jdk_22_method_1_code 0 = .ok (.aload_n 0, 1) := by decide +kernel
theorem d10_1 : decode jdk_22_method_1_code 1 = .ok (.invokespecial 1, 3) := by decide +kernel
theorem d10_4 : decode jdk_22_method_1_code 4 = .ok (.return_, 1) := by decide +kernel
theorem d11_0 : decode prog_20_method_15_code 0 = .ok (.aload_n 0, 1) := by decide +kernel
theorem d11_1 : decode prog_20_method_15_code 1 = .ok (.lload_n 1, 1) := by decide +kernel
theorem d11_2 : decode prog_20_method_15_code 2 = .ok (.putfield 18, 3) := by decide +kernel
theorem d11_5 : decode prog_20_method_15_code 5 = .ok (.return_, 1) := by decide +kernel
theorem d12_0 : decode prog_20_method_8_code 0 = .ok (.aload_n 0, 1) := by decide +kernel
theorem d12_1 : decode prog_20_method_8_code 1 = .ok (.getfield 55, 3) := by decide +kernel
theorem d12_4 : decode prog_20_method_8_code 4 = .ok (.ifCond .ne 12, 3) := by decide +kernel
theorem d12_7 : decode prog_20_method_8_code 7 = .ok (.aload_n 0, 1) := by decide +kernel
theorem d12_8 : decode prog_20_method_8_code 8 = .ok (.getfield 18, 3) := by decide +kernel
theorem d12_11 : decode prog_20_method_8_code 11 = .ok (.lconst 0, 1) := by decide +kernel
theorem d12_12 : decode prog_20_method_8_code 12 = .ok (.lcmp, 1) := by decide +kernel
theorem d12_13 : decode prog_20_method_8_code 13 = .ok (.ifCond .le 7, 3) := by decide +kernel
theorem d12_16 : decode prog_20_method_8_code 16 = .ok (.iconst 1, 1) := by decide +kernel
theorem d12_17 : decode prog_20_method_8_code 17 = .ok (.goto 4, 3) := by decide +kernel
theorem d12_20 : decode prog_20_method_8_code 20 = .ok (.iconst 0, 1) := by decide +kernel
theorem d12_21 : decode prog_20_method_8_code 21 = .ok (.ireturn, 1) := by decide +kernel
theorem d13_0 : decode prog_20_method_17_code 0 = .ok (.aload_n 0, 1) := by decide +kernel
theorem d13_1 : decode prog_20_method_17_code 1 = .ok (.iconst 1, 1) := by decide +kernel
theorem d13_2 : decode prog_20_method_17_code 2 = .ok (.putfield 59, 3) := by decide +kernel
theorem d13_5 : decode prog_20_method_17_code 5 = .ok (.return_, 1) := by decide +kernel
theorem d14_0 : decode prog_20_method_18_code 0 = .ok (.aload_n 0, 1) := by decide +kernel
theorem d14_1 : decode prog_20_method_18_code 1 = .ok (.iconst 1, 1) := by decide +kernel
theorem d14_2 : decode prog_20_method_18_code 2 = .ok (.putfield 62, 3) := by decide +kernel
theorem d14_5 : decode prog_20_method_18_code 5 = .ok (.return_, 1) := by decide +kernel
theorem d15_0 : decode prog_20_method_16_code 0 = .ok (.aload_n 0, 1) := by decide +kernel
theorem d15_1 : decode prog_20_method_16_code 1 = .ok (.iconst 1, 1) := by decide +kernel
theorem d15_2 : decode prog_20_method_16_code 2 = .ok (.putfield 55, 3) := by decide +kernel
theorem d15_5 : decode prog_20_method_16_code 5 = .ok (.return_, 1) := by decide +kernel
theorem pd_0 : parseMethodDescriptor "([CI[BII)I" = some ⟨[(.array .char), .int, (.array .byte), .int, .int], some .int⟩ := by decide +kernel
theorem pd_1 : parseMethodDescriptor "([CII)[B" = some ⟨[(.array .char), .int, .int], some (.array .byte)⟩ := by decide +kernel
theorem pd_2 : parseMethodDescriptor "([BI)B" = some ⟨[(.array .byte), .int], some .byte⟩ := by decide +kernel
theorem pd_3 : parseMethodDescriptor "([CIILjava/lang/Void;)V" = some ⟨[(.array .char), .int, .int, (.object "java/lang/Void")], none⟩ := by decide +kernel
theorem pd_4 : parseMethodDescriptor "([C)V" = some ⟨[(.array .char)], none⟩ := by decide +kernel
theorem pd_5 : parseMethodDescriptor "()V" = some ⟨[], none⟩ := by decide +kernel
theorem pd_6 : parseMethodDescriptor "(Ljava/lang/String;I)V" = some ⟨[(.object "java/lang/String"), .int], none⟩ := by decide +kernel
theorem pd_7 : parseMethodDescriptor "()Z" = some ⟨[], some .boolean⟩ := by decide +kernel
theorem pd_8 : parseMethodDescriptor "(J)V" = some ⟨[.long], none⟩ := by decide +kernel
theorem pn_0 : plainName "java/lang/StringUTF16" = true := by first | (simp [plainName, overriddenIn]; done) | decide +kernel
theorem pn_1 : plainName "java/lang/String" = true := by first | (simp [plainName, overriddenIn]; done) | decide +kernel
theorem pn_2 : plainName "java/util/AbstractCollection" = true := by first | (simp [plainName, overriddenIn]; done) | decide +kernel
theorem pn_3 : plainName "java/util/AbstractList" = true := by first | (simp [plainName, overriddenIn]; done) | decide +kernel
theorem pn_4 : plainName "java/util/ArrayList" = true := by first | (simp [plainName, overriddenIn]; done) | decide +kernel
theorem pn_5 : plainName "com/example/outbound_courier/outboundcourier/http/RequestHead" = true := by first | (simp [plainName, overriddenIn]; done) | decide +kernel
theorem pn_6 : plainName "com/example/outbound_courier/outboundcourier/http/RequestHeadHasBodyPinLaw" = true := by first | (simp [plainName, overriddenIn]; done) | decide +kernel
def Q_rm5_1 (Z : State) (a1 : Addr) (a2 : Addr) (k3 : ClassId) (p4 : Int32) (p5 : Int32) (k6 : ClassId) (h0 : Heap) (n0 : Nat) (v : Option Value) (h : Heap) (L : List Loc) : Prop := v = some (.int (2 : Int32)) ∧ Fr n0 L ∧ Keep h0 h [a2] ∧ Arv Z h a2 k6 .byte (2 : Int32) [(.int ((p4.toInt8.toInt32).toInt8.toInt32)), (.int ((p5.toInt8.toInt32).toInt8.toInt32))] (.int (0 : Int32))
set_option maxRecDepth 65536 in
set_option maxHeartbeats 40000000 in
theorem rm5_1 (l : Launch) (Z : State) (a0 : Array Value) (hw : ∀ d ∈ tables_1, d.before a0 Z = true) (ws : List Jvm.Cond) (a1 : Addr) (a2 : Addr) (k3 : ClassId) (p4 : Int32) (p5 : Int32) (k6 : ClassId) (h0 : Heap) (n0 : Nat) (O0 : Old Z n0 h0) (P1 : Arv Z h0 a1 k3 .char (2 : Int32) [(.int p4), (.int p5)] (.int (0 : Int32))) (P2 : ¬ ((255 : Int32) < p4)) (P3 : Arv Z h0 a2 k6 .byte (2 : Int32) [(.int (0 : Int32)), (.int (0 : Int32))] (.int (0 : Int32))) (P4 : n0 ≤ a2) (P5 : a1 ≠ a2) (P6 : ¬ ((255 : Int32) < p5)) :
    MetFree l (⟨"java/lang/StringUTF16", "compress", "([CI[BII)I"⟩ : MethodName) (head1 (Jvm.Cond.code (⟨"java/lang/StringUTF16", "compress", "([CI[BII)I"⟩ : MethodName) jdk_52_method_21_code 7 (some .int) :: ws) ({ frames := 0, cells := 0, slots := 0, locals := 0 } : Room)) (fun a U => a = #[(.ref a1), (.int (0 : Int32)), (.ref a2), (.int (0 : Int32)), (.int (2 : Int32))] ∧ Z.Warmed39 U.vm ∧ U.heap = h0) (fun _ _ _ _ _ => True) (fun _ U o U' => ∃ v L, o = .returned v ∧ Q_rm5_1 Z a1 a2 k3 p4 p5 k6 h0 n0 v U'.heap L ∧ FrameEnd U o U' L ({ frames := 0, cells := 0, slots := 0, locals := 0 } : Room).cells ({ frames := 0, cells := 0, slots := 0, locals := 0 } : Room).slots) := by
  refine MetFree.of_bodySF (plainFor_of_name pn_0) hisR ?_
  intro p e s m args below meth c s₁ Bd hml0 hP hK
  obtain ⟨rfl, hZ, hh⟩ := hP
  have hx := Bd.exec
  have hby := Bd.bytes
  have hml : c.maxLocals = 7 := hml0
  have hown : s.vm.findClass "java/lang/StringUTF16" = some m.cls := findClass_of_methodNamed Bd.named
  have hnm := (name_of_methodNamed Bd.named Bd.method).1
  have X0 : Stand p l e ({ frames := 0, cells := 0, slots := 0, locals := 0 } : Room) s m #[(.ref a1), (.int (0 : Int32)), (.ref a2), (.int (0 : Int32)), (.int (2 : Int32))] below meth c s₁ [] 0 0 := Stand.of_body Bd
  have e0 : s₁.heap = h0 := by rw [← hh, Bd.state]; rfl
  have N0 := Fr.nil n0
  refine Go.start (P := (fun o U' => ∃ v L, o = .returned v ∧ Q_rm5_1 Z a1 a2 k3 p4 p5 k6 h0 n0 v U'.heap L ∧ FrameEnd s o U' L ({ frames := 0, cells := 0, slots := 0, locals := 0 } : Room).cells ({ frames := 0, cells := 0, slots := 0, locals := 0 } : Room).slots)) (castTop (g' := (mkF m 0 #[.val (.ref a1), .val (.int (0 : Int32)), .val (.ref a2), .val (.int (0 : Int32)), .val (.int (2 : Int32)), .unset, .unset] [])) (by first | rfl | simp [entryFrame, mkF, argsToLocals, Value.category]) (T := s₁)) ?_
  refine Go.st (fun t k => XS.iconst X0.here hx rfl (hb hby d5_0) k) ?_
  show Go p e below _ (s₁.setTop (mkF m 1 #[.val (.ref a1), .val (.int (0 : Int32)), .val (.ref a2), .val (.int (0 : Int32)), .val (.int (2 : Int32)), .unset, .unset] [(.int (0 : Int32))]))
  refine Go.st (fun t k => XS.istore X0.here hx rfl (hb hby d5_1) rfl (l' := #[.val (.ref a1), .val (.int (0 : Int32)), .val (.ref a2), .val (.int (0 : Int32)), .val (.int (2 : Int32)), .val (.int (0 : Int32)), .unset]) rfl k) ?_
  show Go p e below _ (s₁.setTop (mkF m 3 #[.val (.ref a1), .val (.int (0 : Int32)), .val (.ref a2), .val (.int (0 : Int32)), .val (.int (2 : Int32)), .val (.int (0 : Int32)), .unset] []))
  refine Go.st (fun t k => XS.iload X0.here hx rfl (hb hby d5_3) rfl k) ?_
  show Go p e below _ (s₁.setTop (mkF m 5 #[.val (.ref a1), .val (.int (0 : Int32)), .val (.ref a2), .val (.int (0 : Int32)), .val (.int (2 : Int32)), .val (.int (0 : Int32)), .unset] [(.int (0 : Int32))]))
  refine Go.st (fun t k => XS.iload X0.here hx rfl (hb hby d5_5) rfl k) ?_
  show Go p e below _ (s₁.setTop (mkF m 7 #[.val (.ref a1), .val (.int (0 : Int32)), .val (.ref a2), .val (.int (0 : Int32)), .val (.int (2 : Int32)), .val (.int (0 : Int32)), .unset] [(.int (2 : Int32)), (.int (0 : Int32))]))
  refine Go.st (fun t k => XS.icmpNo X0.here hx rfl (hb hby d5_7) rfl (Jvm.Free.XT.ii_ge_f (by decide : (0 : Int32) < (2 : Int32))) k) ?_
  show Go p e below _ (s₁.setTop (mkF m 10 #[.val (.ref a1), .val (.int (0 : Int32)), .val (.ref a2), .val (.int (0 : Int32)), .val (.int (2 : Int32)), .val (.int (0 : Int32)), .unset] []))
  refine Go.st (fun t k => XS.aloadN X0.here hx rfl (hb hby d5_10) rfl rfl k) ?_
  show Go p e below _ (s₁.setTop (mkF m 11 #[.val (.ref a1), .val (.int (0 : Int32)), .val (.ref a2), .val (.int (0 : Int32)), .val (.int (2 : Int32)), .val (.int (0 : Int32)), .unset] [(.ref a1)]))
  refine Go.st (fun t k => XS.iloadN X0.here hx rfl (hb hby d5_11) rfl k) ?_
  show Go p e below _ (s₁.setTop (mkF m 12 #[.val (.ref a1), .val (.int (0 : Int32)), .val (.ref a2), .val (.int (0 : Int32)), .val (.int (2 : Int32)), .val (.int (0 : Int32)), .unset] [(.int (0 : Int32)), (.ref a1)]))
  obtain ⟨cl1, Ar1, q1, S1, M1, H1, G1⟩ := id P1
  have hin1 : ¬ ((0 : Int32) < 0 ∨ cl1.slots.size ≤ ((0 : Int32)).toNatClampNeg) := inb_of S1 ⟨by decide, by decide⟩
  have hat1 : cl1.slots[((0 : Int32)).toNatClampNeg]? = some (.int p4) := H1.at hin1 rfl
  refine Go.st (fun t k => X0.caload hx (j := (0 : Int32)) (v := (.int p4)) (by rw [e0]; exact Ar1.1) (State.isArrayOf_alike hZ.alike Ar1.2.1) Ar1.2.2 hin1 hat1 (g := (mkF m 12 #[.val (.ref a1), .val (.int (0 : Int32)), .val (.ref a2), .val (.int (0 : Int32)), .val (.int (2 : Int32)), .val (.int (0 : Int32)), .unset] [(.int (0 : Int32)), (.ref a1)])) rfl rfl (hb hby d5_12) t k) ?_
  show Go p e below _ (s₁.setTop (mkF m 13 #[.val (.ref a1), .val (.int (0 : Int32)), .val (.ref a2), .val (.int (0 : Int32)), .val (.int (2 : Int32)), .val (.int (0 : Int32)), .unset] [(.int p4)]))
  refine Go.st (fun t k => XS.istore X0.here hx rfl (hb hby d5_13) rfl (l' := #[.val (.ref a1), .val (.int (0 : Int32)), .val (.ref a2), .val (.int (0 : Int32)), .val (.int (2 : Int32)), .val (.int (0 : Int32)), .val (.int p4)]) rfl k) ?_
  show Go p e below _ (s₁.setTop (mkF m 15 #[.val (.ref a1), .val (.int (0 : Int32)), .val (.ref a2), .val (.int (0 : Int32)), .val (.int (2 : Int32)), .val (.int (0 : Int32)), .val (.int p4)] []))
  refine Go.st (fun t k => XS.iload X0.here hx rfl (hb hby d5_15) rfl k) ?_
  show Go p e below _ (s₁.setTop (mkF m 17 #[.val (.ref a1), .val (.int (0 : Int32)), .val (.ref a2), .val (.int (0 : Int32)), .val (.int (2 : Int32)), .val (.int (0 : Int32)), .val (.int p4)] [(.int p4)]))
  refine Go.st (fun t k => XS.sipush X0.here hx rfl (hb hby d5_17) k) ?_
  show Go p e below _ (s₁.setTop (mkF m 20 #[.val (.ref a1), .val (.int (0 : Int32)), .val (.ref a2), .val (.int (0 : Int32)), .val (.int (2 : Int32)), .val (.int (0 : Int32)), .val (.int p4)] [(.int (255 : Int32)), (.int p4)]))
  refine Go.st (fun t k => XS.icmpYes X0.here hx rfl (pc0 := 20) (pc' := 26) rfl (hb hby d5_20) rfl (Jvm.Free.XT.ii_le_t P2) (by decide) (by decide) k) ?_
  show Go p e below _ (s₁.setTop (mkF m 26 #[.val (.ref a1), .val (.int (0 : Int32)), .val (.ref a2), .val (.int (0 : Int32)), .val (.int (2 : Int32)), .val (.int (0 : Int32)), .val (.int p4)] []))
  refine Go.st (fun t k => XS.aloadN X0.here hx rfl (hb hby d5_26) rfl rfl k) ?_
  show Go p e below _ (s₁.setTop (mkF m 27 #[.val (.ref a1), .val (.int (0 : Int32)), .val (.ref a2), .val (.int (0 : Int32)), .val (.int (2 : Int32)), .val (.int (0 : Int32)), .val (.int p4)] [(.ref a2)]))
  refine Go.st (fun t k => XS.iloadN X0.here hx rfl (hb hby d5_27) rfl k) ?_
  show Go p e below _ (s₁.setTop (mkF m 28 #[.val (.ref a1), .val (.int (0 : Int32)), .val (.ref a2), .val (.int (0 : Int32)), .val (.int (2 : Int32)), .val (.int (0 : Int32)), .val (.int p4)] [(.int (0 : Int32)), (.ref a2)]))
  refine Go.st (fun t k => XS.iload X0.here hx rfl (hb hby d5_28) rfl k) ?_
  show Go p e below _ (s₁.setTop (mkF m 30 #[.val (.ref a1), .val (.int (0 : Int32)), .val (.ref a2), .val (.int (0 : Int32)), .val (.int (2 : Int32)), .val (.int (0 : Int32)), .val (.int p4)] [(.int p4), (.int (0 : Int32)), (.ref a2)]))
  refine Go.st (fun t k => XS.i2b X0.here hx rfl (hb hby d5_30) rfl k) ?_
  show Go p e below _ (s₁.setTop (mkF m 31 #[.val (.ref a1), .val (.int (0 : Int32)), .val (.ref a2), .val (.int (0 : Int32)), .val (.int (2 : Int32)), .val (.int (0 : Int32)), .val (.int p4)] [(.int (p4.toInt8.toInt32)), (.int (0 : Int32)), (.ref a2)]))
  obtain ⟨cl2, Ar2, q2, S2, M2, H2, G2⟩ := id P3
  have hin2 : ¬ ((0 : Int32) < 0 ∨ cl2.slots.size ≤ ((0 : Int32)).toNatClampNeg) := inb_of S2 ⟨by decide, by decide⟩
  obtain ⟨T2, h2, X2, e2, W2, st2⟩ := stB X0 hx hZ e0 Ar2 (j := (0 : Int32)) hin2 (g := (mkF m 31 #[.val (.ref a1), .val (.int (0 : Int32)), .val (.ref a2), .val (.int (0 : Int32)), .val (.int (2 : Int32)), .val (.int (0 : Int32)), .val (.int p4)] [(.int (p4.toInt8.toInt32)), (.int (0 : Int32)), (.ref a2)])) rfl rfl (hb hby d5_31)
  have V2 : Arv Z h2 a2 k6 .byte (2 : Int32) [(.int ((p4.toInt8.toInt32).toInt8.toInt32)), (.int (0 : Int32))] (.int (0 : Int32)) := Arv.set Ar2 q2 S2 M2 H2 G2 (fits_nar_byte _) W2 0 rfl (Nat.le_of_ble_eq_true rfl)
  have N2 := Fr.snoc X2 N0 P4
  have O2 : Old Z n0 h2 := O0.wr W2 P4
  have K2 : Keep h0 h2 [a2] := (Keep.refl h0 [a2]).wr W2 (Or.inl (List.mem_of_getElem? (i := 0) rfl))
  refine Go.st st2 ?_
  show Go p e below _ (T2.setTop (mkF m 32 #[.val (.ref a1), .val (.int (0 : Int32)), .val (.ref a2), .val (.int (0 : Int32)), .val (.int (2 : Int32)), .val (.int (0 : Int32)), .val (.int p4)] []))
  refine Go.st (fun t k => XS.iinc X2.here hx rfl (hb hby d5_32) rfl (l' := #[.val (.ref a1), .val (.int (1 : Int32)), .val (.ref a2), .val (.int (0 : Int32)), .val (.int (2 : Int32)), .val (.int (0 : Int32)), .val (.int p4)]) rfl k) ?_
  show Go p e below _ (T2.setTop (mkF m 35 #[.val (.ref a1), .val (.int (1 : Int32)), .val (.ref a2), .val (.int (0 : Int32)), .val (.int (2 : Int32)), .val (.int (0 : Int32)), .val (.int p4)] []))
  refine Go.st (fun t k => XS.iinc X2.here hx rfl (hb hby d5_35) rfl (l' := #[.val (.ref a1), .val (.int (1 : Int32)), .val (.ref a2), .val (.int (1 : Int32)), .val (.int (2 : Int32)), .val (.int (0 : Int32)), .val (.int p4)]) rfl k) ?_
  show Go p e below _ (T2.setTop (mkF m 38 #[.val (.ref a1), .val (.int (1 : Int32)), .val (.ref a2), .val (.int (1 : Int32)), .val (.int (2 : Int32)), .val (.int (0 : Int32)), .val (.int p4)] []))
  refine Go.st (fun t k => XS.iinc X2.here hx rfl (hb hby d5_38) rfl (l' := #[.val (.ref a1), .val (.int (1 : Int32)), .val (.ref a2), .val (.int (1 : Int32)), .val (.int (2 : Int32)), .val (.int (1 : Int32)), .val (.int p4)]) rfl k) ?_
  show Go p e below _ (T2.setTop (mkF m 41 #[.val (.ref a1), .val (.int (1 : Int32)), .val (.ref a2), .val (.int (1 : Int32)), .val (.int (2 : Int32)), .val (.int (1 : Int32)), .val (.int p4)] []))
  refine Go.st (fun t k => XS.goto X2.here hx rfl (pc0 := 41) (pc' := 3) rfl (hb hby d5_41) (by decide) (by decide) k) ?_
  show Go p e below _ (T2.setTop (mkF m 3 #[.val (.ref a1), .val (.int (1 : Int32)), .val (.ref a2), .val (.int (1 : Int32)), .val (.int (2 : Int32)), .val (.int (1 : Int32)), .val (.int p4)] []))
  refine Go.st (fun t k => XS.iload X2.here hx rfl (hb hby d5_3) rfl k) ?_
  show Go p e below _ (T2.setTop (mkF m 5 #[.val (.ref a1), .val (.int (1 : Int32)), .val (.ref a2), .val (.int (1 : Int32)), .val (.int (2 : Int32)), .val (.int (1 : Int32)), .val (.int p4)] [(.int (1 : Int32))]))
  refine Go.st (fun t k => XS.iload X2.here hx rfl (hb hby d5_5) rfl k) ?_
  show Go p e below _ (T2.setTop (mkF m 7 #[.val (.ref a1), .val (.int (1 : Int32)), .val (.ref a2), .val (.int (1 : Int32)), .val (.int (2 : Int32)), .val (.int (1 : Int32)), .val (.int p4)] [(.int (2 : Int32)), (.int (1 : Int32))]))
  refine Go.st (fun t k => XS.icmpNo X2.here hx rfl (hb hby d5_7) rfl (Jvm.Free.XT.ii_ge_f (by decide : (1 : Int32) < (2 : Int32))) k) ?_
  show Go p e below _ (T2.setTop (mkF m 10 #[.val (.ref a1), .val (.int (1 : Int32)), .val (.ref a2), .val (.int (1 : Int32)), .val (.int (2 : Int32)), .val (.int (1 : Int32)), .val (.int p4)] []))
  refine Go.st (fun t k => XS.aloadN X2.here hx rfl (hb hby d5_10) rfl rfl k) ?_
  show Go p e below _ (T2.setTop (mkF m 11 #[.val (.ref a1), .val (.int (1 : Int32)), .val (.ref a2), .val (.int (1 : Int32)), .val (.int (2 : Int32)), .val (.int (1 : Int32)), .val (.int p4)] [(.ref a1)]))
  refine Go.st (fun t k => XS.iloadN X2.here hx rfl (hb hby d5_11) rfl k) ?_
  show Go p e below _ (T2.setTop (mkF m 12 #[.val (.ref a1), .val (.int (1 : Int32)), .val (.ref a2), .val (.int (1 : Int32)), .val (.int (2 : Int32)), .val (.int (1 : Int32)), .val (.int p4)] [(.int (1 : Int32)), (.ref a1)]))
  obtain ⟨cl3, Ar3, q3, S3, M3, H3, G3⟩ := id (P1.other W2 P5)
  have hin3 : ¬ ((1 : Int32) < 0 ∨ cl3.slots.size ≤ ((1 : Int32)).toNatClampNeg) := inb_of S3 ⟨by decide, by decide⟩
  have hat3 : cl3.slots[((1 : Int32)).toNatClampNeg]? = some (.int p5) := H3.at hin3 rfl
  refine Go.st (fun t k => X2.caload hx (j := (1 : Int32)) (v := (.int p5)) (by rw [e2]; exact Ar3.1) (State.isArrayOf_alike hZ.alike Ar3.2.1) Ar3.2.2 hin3 hat3 (g := (mkF m 12 #[.val (.ref a1), .val (.int (1 : Int32)), .val (.ref a2), .val (.int (1 : Int32)), .val (.int (2 : Int32)), .val (.int (1 : Int32)), .val (.int p4)] [(.int (1 : Int32)), (.ref a1)])) rfl rfl (hb hby d5_12) t k) ?_
  show Go p e below _ (T2.setTop (mkF m 13 #[.val (.ref a1), .val (.int (1 : Int32)), .val (.ref a2), .val (.int (1 : Int32)), .val (.int (2 : Int32)), .val (.int (1 : Int32)), .val (.int p4)] [(.int p5)]))
  refine Go.st (fun t k => XS.istore X2.here hx rfl (hb hby d5_13) rfl (l' := #[.val (.ref a1), .val (.int (1 : Int32)), .val (.ref a2), .val (.int (1 : Int32)), .val (.int (2 : Int32)), .val (.int (1 : Int32)), .val (.int p5)]) rfl k) ?_
  show Go p e below _ (T2.setTop (mkF m 15 #[.val (.ref a1), .val (.int (1 : Int32)), .val (.ref a2), .val (.int (1 : Int32)), .val (.int (2 : Int32)), .val (.int (1 : Int32)), .val (.int p5)] []))
  refine Go.st (fun t k => XS.iload X2.here hx rfl (hb hby d5_15) rfl k) ?_
  show Go p e below _ (T2.setTop (mkF m 17 #[.val (.ref a1), .val (.int (1 : Int32)), .val (.ref a2), .val (.int (1 : Int32)), .val (.int (2 : Int32)), .val (.int (1 : Int32)), .val (.int p5)] [(.int p5)]))
  refine Go.st (fun t k => XS.sipush X2.here hx rfl (hb hby d5_17) k) ?_
  show Go p e below _ (T2.setTop (mkF m 20 #[.val (.ref a1), .val (.int (1 : Int32)), .val (.ref a2), .val (.int (1 : Int32)), .val (.int (2 : Int32)), .val (.int (1 : Int32)), .val (.int p5)] [(.int (255 : Int32)), (.int p5)]))
  refine Go.st (fun t k => XS.icmpYes X2.here hx rfl (pc0 := 20) (pc' := 26) rfl (hb hby d5_20) rfl (Jvm.Free.XT.ii_le_t P6) (by decide) (by decide) k) ?_
  show Go p e below _ (T2.setTop (mkF m 26 #[.val (.ref a1), .val (.int (1 : Int32)), .val (.ref a2), .val (.int (1 : Int32)), .val (.int (2 : Int32)), .val (.int (1 : Int32)), .val (.int p5)] []))
  refine Go.st (fun t k => XS.aloadN X2.here hx rfl (hb hby d5_26) rfl rfl k) ?_
  show Go p e below _ (T2.setTop (mkF m 27 #[.val (.ref a1), .val (.int (1 : Int32)), .val (.ref a2), .val (.int (1 : Int32)), .val (.int (2 : Int32)), .val (.int (1 : Int32)), .val (.int p5)] [(.ref a2)]))
  refine Go.st (fun t k => XS.iloadN X2.here hx rfl (hb hby d5_27) rfl k) ?_
  show Go p e below _ (T2.setTop (mkF m 28 #[.val (.ref a1), .val (.int (1 : Int32)), .val (.ref a2), .val (.int (1 : Int32)), .val (.int (2 : Int32)), .val (.int (1 : Int32)), .val (.int p5)] [(.int (1 : Int32)), (.ref a2)]))
  refine Go.st (fun t k => XS.iload X2.here hx rfl (hb hby d5_28) rfl k) ?_
  show Go p e below _ (T2.setTop (mkF m 30 #[.val (.ref a1), .val (.int (1 : Int32)), .val (.ref a2), .val (.int (1 : Int32)), .val (.int (2 : Int32)), .val (.int (1 : Int32)), .val (.int p5)] [(.int p5), (.int (1 : Int32)), (.ref a2)]))
  refine Go.st (fun t k => XS.i2b X2.here hx rfl (hb hby d5_30) rfl k) ?_
  show Go p e below _ (T2.setTop (mkF m 31 #[.val (.ref a1), .val (.int (1 : Int32)), .val (.ref a2), .val (.int (1 : Int32)), .val (.int (2 : Int32)), .val (.int (1 : Int32)), .val (.int p5)] [(.int (p5.toInt8.toInt32)), (.int (1 : Int32)), (.ref a2)]))
  obtain ⟨cl4, Ar4, q4, S4, M4, H4, G4⟩ := id V2
  have hin4 : ¬ ((1 : Int32) < 0 ∨ cl4.slots.size ≤ ((1 : Int32)).toNatClampNeg) := inb_of S4 ⟨by decide, by decide⟩
  obtain ⟨T4, h4, X4, e4, W4, st4⟩ := stB X2 hx hZ e2 Ar4 (j := (1 : Int32)) hin4 (g := (mkF m 31 #[.val (.ref a1), .val (.int (1 : Int32)), .val (.ref a2), .val (.int (1 : Int32)), .val (.int (2 : Int32)), .val (.int (1 : Int32)), .val (.int p5)] [(.int (p5.toInt8.toInt32)), (.int (1 : Int32)), (.ref a2)])) rfl rfl (hb hby d5_31)
  have V4 : Arv Z h4 a2 k6 .byte (2 : Int32) [(.int ((p4.toInt8.toInt32).toInt8.toInt32)), (.int ((p5.toInt8.toInt32).toInt8.toInt32))] (.int (0 : Int32)) := Arv.set Ar4 q4 S4 M4 H4 G4 (fits_nar_byte _) W4 1 rfl (Nat.le_of_ble_eq_true rfl)
  have N4 := Fr.snoc X4 N2 P4
  have O4 : Old Z n0 h4 := O2.wr W4 P4
  have K4 : Keep h0 h4 [a2] := K2.wr W4 (Or.inl (List.mem_of_getElem? (i := 0) rfl))
  refine Go.st st4 ?_
  show Go p e below _ (T4.setTop (mkF m 32 #[.val (.ref a1), .val (.int (1 : Int32)), .val (.ref a2), .val (.int (1 : Int32)), .val (.int (2 : Int32)), .val (.int (1 : Int32)), .val (.int p5)] []))
  refine Go.st (fun t k => XS.iinc X4.here hx rfl (hb hby d5_32) rfl (l' := #[.val (.ref a1), .val (.int (2 : Int32)), .val (.ref a2), .val (.int (1 : Int32)), .val (.int (2 : Int32)), .val (.int (1 : Int32)), .val (.int p5)]) rfl k) ?_
  show Go p e below _ (T4.setTop (mkF m 35 #[.val (.ref a1), .val (.int (2 : Int32)), .val (.ref a2), .val (.int (1 : Int32)), .val (.int (2 : Int32)), .val (.int (1 : Int32)), .val (.int p5)] []))
  refine Go.st (fun t k => XS.iinc X4.here hx rfl (hb hby d5_35) rfl (l' := #[.val (.ref a1), .val (.int (2 : Int32)), .val (.ref a2), .val (.int (2 : Int32)), .val (.int (2 : Int32)), .val (.int (1 : Int32)), .val (.int p5)]) rfl k) ?_
  show Go p e below _ (T4.setTop (mkF m 38 #[.val (.ref a1), .val (.int (2 : Int32)), .val (.ref a2), .val (.int (2 : Int32)), .val (.int (2 : Int32)), .val (.int (1 : Int32)), .val (.int p5)] []))
  refine Go.st (fun t k => XS.iinc X4.here hx rfl (hb hby d5_38) rfl (l' := #[.val (.ref a1), .val (.int (2 : Int32)), .val (.ref a2), .val (.int (2 : Int32)), .val (.int (2 : Int32)), .val (.int (2 : Int32)), .val (.int p5)]) rfl k) ?_
  show Go p e below _ (T4.setTop (mkF m 41 #[.val (.ref a1), .val (.int (2 : Int32)), .val (.ref a2), .val (.int (2 : Int32)), .val (.int (2 : Int32)), .val (.int (2 : Int32)), .val (.int p5)] []))
  refine Go.st (fun t k => XS.goto X4.here hx rfl (pc0 := 41) (pc' := 3) rfl (hb hby d5_41) (by decide) (by decide) k) ?_
  show Go p e below _ (T4.setTop (mkF m 3 #[.val (.ref a1), .val (.int (2 : Int32)), .val (.ref a2), .val (.int (2 : Int32)), .val (.int (2 : Int32)), .val (.int (2 : Int32)), .val (.int p5)] []))
  refine Go.st (fun t k => XS.iload X4.here hx rfl (hb hby d5_3) rfl k) ?_
  show Go p e below _ (T4.setTop (mkF m 5 #[.val (.ref a1), .val (.int (2 : Int32)), .val (.ref a2), .val (.int (2 : Int32)), .val (.int (2 : Int32)), .val (.int (2 : Int32)), .val (.int p5)] [(.int (2 : Int32))]))
  refine Go.st (fun t k => XS.iload X4.here hx rfl (hb hby d5_5) rfl k) ?_
  show Go p e below _ (T4.setTop (mkF m 7 #[.val (.ref a1), .val (.int (2 : Int32)), .val (.ref a2), .val (.int (2 : Int32)), .val (.int (2 : Int32)), .val (.int (2 : Int32)), .val (.int p5)] [(.int (2 : Int32)), (.int (2 : Int32))]))
  refine Go.st (fun t k => XS.icmpYes X4.here hx rfl (pc0 := 7) (pc' := 44) rfl (hb hby d5_7) rfl (Jvm.Free.XT.ii_ge_t (by decide : ¬ ((2 : Int32) < (2 : Int32)))) (by decide) (by decide) k) ?_
  show Go p e below _ (T4.setTop (mkF m 44 #[.val (.ref a1), .val (.int (2 : Int32)), .val (.ref a2), .val (.int (2 : Int32)), .val (.int (2 : Int32)), .val (.int (2 : Int32)), .val (.int p5)] []))
  refine Go.st (fun t k => XS.iload X4.here hx rfl (hb hby d5_44) rfl k) ?_
  show Go p e below _ (T4.setTop (mkF m 46 #[.val (.ref a1), .val (.int (2 : Int32)), .val (.ref a2), .val (.int (2 : Int32)), .val (.int (2 : Int32)), .val (.int (2 : Int32)), .val (.int p5)] [(.int (2 : Int32))]))
  obtain ⟨fs, hr, hrun, hended, hWd, hsame⟩ := X4.leave (v := some (.int (2 : Int32))) (fun h => by rw [Bd.returns] at h; cases h)
  refine ⟨_, _, ?_, hrun, hended, _, _, rfl, ?_, ⟨⟨_, rfl⟩, hWd, hsame.mono (by decide) (by decide)⟩⟩
  · exact retI X4 hx Bd.returns (hb hby d5_46) hr
  · show Q_rm5_1 Z a1 a2 k3 p4 p5 k6 h0 n0 _ T4.heap _
    rw [e4]
    exact ⟨rfl, N4, K4, V4⟩
def Q_rm4_1 (Z : State) (a1 : Addr) (k2 : ClassId) (p3 : Int32) (p4 : Int32) (h0 : Heap) (n0 : Nat) (v : Option Value) (h : Heap) (L : List Loc) : Prop := ∃ (b1 : Addr) (k1 : ClassId), v = some (.ref b1) ∧ Fr n0 L ∧ Keep h0 h [] ∧ h0.size ≤ b1 ∧ Arv Z h b1 k1 .byte (2 : Int32) [(.int ((p3.toInt8.toInt32).toInt8.toInt32)), (.int ((p4.toInt8.toInt32).toInt8.toInt32))] (.int (0 : Int32))
set_option maxRecDepth 65536 in
set_option maxHeartbeats 40000000 in
theorem rm4_1 (l : Launch) (Z : State) (a0 : Array Value) (hw : ∀ d ∈ tables_1, d.before a0 Z = true) (ws : List Jvm.Cond) (a1 : Addr) (k2 : ClassId) (p3 : Int32) (p4 : Int32) (h0 : Heap) (n0 : Nat) (O0 : Old Z n0 h0) (P1 : Arv Z h0 a1 k2 .char (2 : Int32) [(.int p3), (.int p4)] (.int (0 : Int32))) (P2 : ¬ ((255 : Int32) < p3)) (P3 : ¬ ((255 : Int32) < p4)) :
    MetFree l (⟨"java/lang/StringUTF16", "compress", "([CII)[B"⟩ : MethodName) (head1 (Jvm.Cond.code (⟨"java/lang/StringUTF16", "compress", "([CII)[B"⟩ : MethodName) jdk_52_method_16_code 6 (some (.array .byte)) :: ws) ({ frames := 1, cells := 1, slots := 2, locals := 18 } : Room)) (fun a U => a = #[(.ref a1), (.int (0 : Int32)), (.int (2 : Int32))] ∧ Z.Warmed39 U.vm ∧ U.heap = h0) (fun _ _ _ _ _ => True) (fun _ U o U' => ∃ v L, o = .returned v ∧ Q_rm4_1 Z a1 k2 p3 p4 h0 n0 v U'.heap L ∧ FrameEnd U o U' L ({ frames := 1, cells := 1, slots := 2, locals := 18 } : Room).cells ({ frames := 1, cells := 1, slots := 2, locals := 18 } : Room).slots) := by
  refine MetFree.of_bodySF (plainFor_of_name pn_0) hisR ?_
  intro p e s m args below meth c s₁ Bd hml0 hP hK
  obtain ⟨rfl, hZ, hh⟩ := hP
  have hx := Bd.exec
  have hby := Bd.bytes
  have hml : c.maxLocals = 6 := hml0
  have hown : s.vm.findClass "java/lang/StringUTF16" = some m.cls := findClass_of_methodNamed Bd.named
  have hnm := (name_of_methodNamed Bd.named Bd.method).1
  have X0 : Stand p l e ({ frames := 1, cells := 1, slots := 2, locals := 18 } : Room) s m #[(.ref a1), (.int (0 : Int32)), (.int (2 : Int32))] below meth c s₁ [] 0 0 := Stand.of_body Bd
  have e0 : s₁.heap = h0 := by rw [← hh, Bd.state]; rfl
  have N0 := Fr.nil n0
  refine Go.start (P := (fun o U' => ∃ v L, o = .returned v ∧ Q_rm4_1 Z a1 k2 p3 p4 h0 n0 v U'.heap L ∧ FrameEnd s o U' L ({ frames := 1, cells := 1, slots := 2, locals := 18 } : Room).cells ({ frames := 1, cells := 1, slots := 2, locals := 18 } : Room).slots)) (castTop (g' := (mkF m 0 #[.val (.ref a1), .val (.int (0 : Int32)), .val (.int (2 : Int32)), .unset, .unset, .unset] [])) (by first | rfl | simp [entryFrame, mkF, argsToLocals, Value.category]) (T := s₁)) ?_
  refine Go.st (fun t k => XS.iloadN X0.here hx rfl (hb hby d4_0) rfl k) ?_
  show Go p e below _ (s₁.setTop (mkF m 1 #[.val (.ref a1), .val (.int (0 : Int32)), .val (.int (2 : Int32)), .unset, .unset, .unset] [(.int (2 : Int32))]))
  obtain ⟨T1, h1, k1, X1, e1, E1, A1, st1⟩ := newP X0 hx hZ (aty := .byte) (w22 hw) e0 (g := (mkF m 1 #[.val (.ref a1), .val (.int (0 : Int32)), .val (.int (2 : Int32)), .unset, .unset, .unset] [(.int (2 : Int32))])) rfl (hb hby d4_1) rfl (by decide) (cap := 2) (by decide) (by decide) (by decide) (by decide)
  obtain ⟨b1, z1⟩ : ∃ z, z = h0.size := ⟨_, rfl⟩
  rw [← z1] at A1 st1
  have g_b1 : n0 ≤ b1 := Nat.le_trans (own_n0 O0) (Nat.le_of_eq z1.symm)
  have s_b1 : h0.size ≤ b1 := Nat.le_trans (Keep.refl h0 []).1 (Nat.le_of_eq z1.symm)
  have V1 : Arv Z h1 b1 k1 .byte (2 : Int32) [(.int (0 : Int32)), (.int (0 : Int32))] (.int (0 : Int32)) := (Arv.new A1 (by decide)).pad (pad_rep [] (.int (0 : Int32)) 2)
  have O1 : Old Z n0 h1 := O0.ext E1
  have K1 : Keep h0 h1 [] := (Keep.refl h0 []).ext E1
  refine Go.st st1 ?_
  show Go p e below _ (T1.setTop (mkF m 3 #[.val (.ref a1), .val (.int (0 : Int32)), .val (.int (2 : Int32)), .unset, .unset, .unset] [(.ref b1)]))
  refine Go.st (fun t k => XS.astoreN X1.here hx rfl (hb hby d4_3) rfl rfl (l' := #[.val (.ref a1), .val (.int (0 : Int32)), .val (.int (2 : Int32)), .val (.ref b1), .unset, .unset]) rfl k) ?_
  show Go p e below _ (T1.setTop (mkF m 4 #[.val (.ref a1), .val (.int (0 : Int32)), .val (.int (2 : Int32)), .val (.ref b1), .unset, .unset] []))
  refine Go.st (fun t k => XS.aloadN X1.here hx rfl (hb hby d4_4) rfl rfl k) ?_
  show Go p e below _ (T1.setTop (mkF m 5 #[.val (.ref a1), .val (.int (0 : Int32)), .val (.int (2 : Int32)), .val (.ref b1), .unset, .unset] [(.ref a1)]))
  refine Go.st (fun t k => XS.iloadN X1.here hx rfl (hb hby d4_5) rfl k) ?_
  show Go p e below _ (T1.setTop (mkF m 6 #[.val (.ref a1), .val (.int (0 : Int32)), .val (.int (2 : Int32)), .val (.ref b1), .unset, .unset] [(.int (0 : Int32)), (.ref a1)]))
  refine Go.st (fun t k => XS.aloadN X1.here hx rfl (hb hby d4_6) rfl rfl k) ?_
  show Go p e below _ (T1.setTop (mkF m 7 #[.val (.ref a1), .val (.int (0 : Int32)), .val (.int (2 : Int32)), .val (.ref b1), .unset, .unset] [(.ref b1), (.int (0 : Int32)), (.ref a1)]))
  refine Go.st (fun t k => XS.iconst X1.here hx rfl (hb hby d4_7) k) ?_
  show Go p e below _ (T1.setTop (mkF m 8 #[.val (.ref a1), .val (.int (0 : Int32)), .val (.int (2 : Int32)), .val (.ref b1), .unset, .unset] [(.int (0 : Int32)), (.ref b1), (.int (0 : Int32)), (.ref a1)]))
  refine Go.st (fun t k => XS.iloadN X1.here hx rfl (hb hby d4_8) rfl k) ?_
  show Go p e below _ (T1.setTop (mkF m 9 #[.val (.ref a1), .val (.int (0 : Int32)), .val (.int (2 : Int32)), .val (.ref b1), .unset, .unset] [(.int (2 : Int32)), (.int (0 : Int32)), (.ref b1), (.int (0 : Int32)), (.ref a1)]))
  obtain ⟨_, _, ⟨T2, L2, k2, n2⟩, -, X2, ⟨Lc2, hQ2, l2, y2, z2⟩, st2⟩ := Jvm.LawKit.callS X1 hx (y := (⟨"java/lang/StringUTF16", "compress", "([CI[BII)I"⟩ : MethodName)) hown (mvT hZ (w23 hw)) (mvT hZ (w24 hw)) (mvT hZ (w20 hw)) (mvT hZ (w25 hw)) (by decide) (backOf (W := 0) (rm5_1 l Z a0 hw [] a1 b1 k2 p3 p4 k1 h1 n0 O1 (P1.ext E1) P2 V1 g_b1 (Nat.ne_of_lt (Nat.lt_of_lt_of_le P1.lt (Nat.le_of_eq z1.symm))) P3) hZ (w25 hw) (w20 hw) (by decide) (by decide)) (g := (mkF m 9 #[.val (.ref a1), .val (.int (0 : Int32)), .val (.int (2 : Int32)), .val (.ref b1), .unset, .unset] [(.int (2 : Int32)), (.int (0 : Int32)), (.ref b1), (.int (0 : Int32)), (.ref a1)])) rfl (by rw [hml]; rfl) (argsL := [(.ref a1), (.int (0 : Int32)), (.ref b1), (.int (0 : Int32)), (.int (2 : Int32))]) (rest := []) (lenOf pd_0 rfl) rfl (by show 2 * 0 + _ ≤ _; exact Nat.le_of_eq rfl) (hb hby d4_9) (fun vm₁ hw₁ => ⟨rfl, e1, (by decide : 1 + 0 ≤ _), (by decide : 2 + 0 ≤ _)⟩)
  dsimp only [Pt.U, Pt.locs, Pt.cells, Pt.slots] at X2 l2 y2 z2 st2 hQ2
  subst l2 y2 z2
  obtain ⟨rfl, M2, K2c, r2_0⟩ := hQ2
  have N2 := Fr.app N0 M2
  have O2 : Old Z n0 T2.heap := O1.keep K2c (allS g_b1 all0)
  have K2 : Keep h0 T2.heap [] := K1.trans K2c (allS (Or.inr s_b1) all0)
  refine Go.st st2 ?_
  show Go p e below _ (T2.setTop (mkF m 12 #[.val (.ref a1), .val (.int (0 : Int32)), .val (.int (2 : Int32)), .val (.ref b1), .unset, .unset] [(.int (2 : Int32))]))
  refine Go.st (fun t k => XS.istore X2.here hx rfl (hb hby d4_12) rfl (l' := #[.val (.ref a1), .val (.int (0 : Int32)), .val (.int (2 : Int32)), .val (.ref b1), .val (.int (2 : Int32)), .unset]) rfl k) ?_
  show Go p e below _ (T2.setTop (mkF m 14 #[.val (.ref a1), .val (.int (0 : Int32)), .val (.int (2 : Int32)), .val (.ref b1), .val (.int (2 : Int32)), .unset] []))
  refine Go.st (fun t k => XS.iload X2.here hx rfl (hb hby d4_14) rfl k) ?_
  show Go p e below _ (T2.setTop (mkF m 16 #[.val (.ref a1), .val (.int (0 : Int32)), .val (.int (2 : Int32)), .val (.ref b1), .val (.int (2 : Int32)), .unset] [(.int (2 : Int32))]))
  refine Go.st (fun t k => XS.iloadN X2.here hx rfl (hb hby d4_16) rfl k) ?_
  show Go p e below _ (T2.setTop (mkF m 17 #[.val (.ref a1), .val (.int (0 : Int32)), .val (.int (2 : Int32)), .val (.ref b1), .val (.int (2 : Int32)), .unset] [(.int (2 : Int32)), (.int (2 : Int32))]))
  refine Go.st (fun t k => XS.icmpYes X2.here hx rfl (pc0 := 17) (pc' := 57) rfl (hb hby d4_17) rfl (Jvm.Free.XT.ii_eq_t (by decide : (2 : Int32) = (2 : Int32))) (by decide) (by decide) k) ?_
  show Go p e below _ (T2.setTop (mkF m 57 #[.val (.ref a1), .val (.int (0 : Int32)), .val (.int (2 : Int32)), .val (.ref b1), .val (.int (2 : Int32)), .unset] []))
  refine Go.st (fun t k => XS.aloadN X2.here hx rfl (hb hby d4_57) rfl rfl k) ?_
  show Go p e below _ (T2.setTop (mkF m 58 #[.val (.ref a1), .val (.int (0 : Int32)), .val (.int (2 : Int32)), .val (.ref b1), .val (.int (2 : Int32)), .unset] [(.ref b1)]))
  obtain ⟨fs, hr, hrun, hended, hWd, hsame⟩ := X2.leave (v := some (.ref b1)) (fun h => by rw [Bd.returns] at h; cases h)
  refine ⟨_, _, ?_, hrun, hended, _, _, rfl, ?_, ⟨⟨_, rfl⟩, hWd, hsame.mono (by decide) (by decide)⟩⟩
  · exact own_retA X2 hx Bd.returns rfl rfl (hb hby d4_58) hr
  · show Q_rm4_1 Z a1 k2 p3 p4 h0 n0 _ T2.heap _
    exact ⟨b1, k1, rfl, N2, K2, s_b1, r2_0⟩
def Q_rm6_1 (Z : State) (a1 : Addr) (k2 : ClassId) (p3 : Int32) (p4 : Int32) (h0 : Heap) (n0 : Nat) (v : Option Value) (h : Heap) (L : List Loc) : Prop := v = some (.int (0 : Int32)) ∧ Fr n0 L ∧ h = h0
set_option maxRecDepth 65536 in
set_option maxHeartbeats 40000000 in
theorem rm6_1 (l : Launch) (Z : State) (a0 : Array Value) (hw : ∀ d ∈ tables_1, d.before a0 Z = true) (ws : List Jvm.Cond) (a1 : Addr) (k2 : ClassId) (p3 : Int32) (p4 : Int32) (h0 : Heap) (n0 : Nat) (O0 : Old Z n0 h0) (P1 : Arv Z h0 a1 k2 .byte (2 : Int32) [(.int p3), (.int p4)] (.int (0 : Int32))) :
    MetFree l (⟨"java/lang/StringUTF16", "coderFromArrayLen", "([BI)B"⟩ : MethodName) (head1 (Jvm.Cond.code (⟨"java/lang/StringUTF16", "coderFromArrayLen", "([BI)B"⟩ : MethodName) jdk_52_method_15_code 2 (some .byte) :: ws) ({ frames := 0, cells := 0, slots := 0, locals := 0 } : Room)) (fun a U => a = #[(.ref a1), (.int (2 : Int32))] ∧ Z.Warmed39 U.vm ∧ U.heap = h0) (fun _ _ _ _ _ => True) (fun _ U o U' => ∃ v L, o = .returned v ∧ Q_rm6_1 Z a1 k2 p3 p4 h0 n0 v U'.heap L ∧ FrameEnd U o U' L ({ frames := 0, cells := 0, slots := 0, locals := 0 } : Room).cells ({ frames := 0, cells := 0, slots := 0, locals := 0 } : Room).slots) := by
  refine MetFree.of_bodySF (plainFor_of_name pn_0) hisR ?_
  intro p e s m args below meth c s₁ Bd hml0 hP hK
  obtain ⟨rfl, hZ, hh⟩ := hP
  have hx := Bd.exec
  have hby := Bd.bytes
  have hml : c.maxLocals = 2 := hml0
  have hown : s.vm.findClass "java/lang/StringUTF16" = some m.cls := findClass_of_methodNamed Bd.named
  have hnm := (name_of_methodNamed Bd.named Bd.method).1
  have X0 : Stand p l e ({ frames := 0, cells := 0, slots := 0, locals := 0 } : Room) s m #[(.ref a1), (.int (2 : Int32))] below meth c s₁ [] 0 0 := Stand.of_body Bd
  have e0 : s₁.heap = h0 := by rw [← hh, Bd.state]; rfl
  have N0 := Fr.nil n0
  refine Go.start (P := (fun o U' => ∃ v L, o = .returned v ∧ Q_rm6_1 Z a1 k2 p3 p4 h0 n0 v U'.heap L ∧ FrameEnd s o U' L ({ frames := 0, cells := 0, slots := 0, locals := 0 } : Room).cells ({ frames := 0, cells := 0, slots := 0, locals := 0 } : Room).slots)) (castTop (g' := (mkF m 0 #[.val (.ref a1), .val (.int (2 : Int32))] [])) (by first | rfl | simp [entryFrame, mkF, argsToLocals, Value.category]) (T := s₁)) ?_
  refine Go.st (fun t k => XS.iloadN X0.here hx rfl (hb hby d6_0) rfl k) ?_
  show Go p e below _ (s₁.setTop (mkF m 1 #[.val (.ref a1), .val (.int (2 : Int32))] [(.int (2 : Int32))]))
  refine Go.st (fun t k => XS.aloadN X0.here hx rfl (hb hby d6_1) rfl rfl k) ?_
  show Go p e below _ (s₁.setTop (mkF m 2 #[.val (.ref a1), .val (.int (2 : Int32))] [(.ref a1), (.int (2 : Int32))]))
  obtain ⟨cl1, Ar1, -, S1, M1, -, -⟩ := id P1
  refine Go.st (fun t k => X0.arraylength hx (by rw [e0]; exact Ar1.1) (State.isArrayOf_alike hZ.alike Ar1.2.1) (g := (mkF m 2 #[.val (.ref a1), .val (.int (2 : Int32))] [(.ref a1), (.int (2 : Int32))])) rfl rfl (hb hby d6_2) t k) ?_
  rw [len_of S1 M1]
  show Go p e below _ (s₁.setTop (mkF m 3 #[.val (.ref a1), .val (.int (2 : Int32))] [(.int (2 : Int32)), (.int (2 : Int32))]))
  refine Go.st (fun t k => XS.isub X0.here hx rfl (hb hby d6_3) rfl k) ?_
  show Go p e below _ (s₁.setTop (mkF m 4 #[.val (.ref a1), .val (.int (2 : Int32))] [(.int (0 : Int32))]))
  refine Go.st (fun t k => XS.bipush X0.here hx rfl (hb hby d6_4) k) ?_
  show Go p e below _ (s₁.setTop (mkF m 6 #[.val (.ref a1), .val (.int (2 : Int32))] [(.int (31 : Int32)), (.int (0 : Int32))]))
  refine Go.st (fun t k => XS.iushr X0.here hx rfl (hb hby d6_6) rfl k) ?_
  show Go p e below _ (s₁.setTop (mkF m 7 #[.val (.ref a1), .val (.int (2 : Int32))] [(.int (0 : Int32))]))
  refine Go.st (fun t k => XS.i2b X0.here hx rfl (hb hby d6_7) rfl k) ?_
  show Go p e below _ (s₁.setTop (mkF m 8 #[.val (.ref a1), .val (.int (2 : Int32))] [(.int (0 : Int32))]))
  obtain ⟨fs, hr, hrun, hended, hWd, hsame⟩ := X0.leave (v := some (.int (0 : Int32))) (fun h => by rw [Bd.returns] at h; cases h)
  refine ⟨_, _, ?_, hrun, hended, _, _, rfl, ?_, ⟨⟨_, rfl⟩, hWd, hsame.mono (by decide) (by decide)⟩⟩
  · exact retN X0 hx (t := .byte) Bd.returns (by simp) (hb hby d6_8) hr
  · show Q_rm6_1 Z a1 k2 p3 p4 h0 n0 _ s₁.heap _
    rw [e0]
    exact ⟨rfl, N0, rfl⟩
def Q_rm2_1 (Z : State) (a1 : Addr) (a2 : Addr) (p3 : Int32) (k4 : ClassId) (p5 : Int32) (p6 : Int32) (h0 : Heap) (n0 : Nat) (v : Option Value) (h : Heap) (L : List Loc) : Prop := ∃ (b1_3 : Addr) (k1_3 : ClassId), v = none ∧ Fr n0 L ∧ Keep h0 h [a1] ∧ h0.size ≤ b1_3 ∧ Fld Z h a1 "java/lang/String" "coder" "B" (.int (0 : Int32)) ∧ Fld Z h a1 "java/lang/String" "value" "[B" (.ref b1_3) ∧ Arv Z h b1_3 k1_3 .byte (2 : Int32) [(.int ((p5.toInt8.toInt32).toInt8.toInt32)), (.int ((p6.toInt8.toInt32).toInt8.toInt32))] (.int (0 : Int32))
set_option maxRecDepth 65536 in
set_option maxHeartbeats 40000000 in
theorem rm2_1 (l : Launch) (Z : State) (a0 : Array Value) (hw : ∀ d ∈ tables_1, d.before a0 Z = true) (ws : List Jvm.Cond) (a1 : Addr) (a2 : Addr) (p3 : Int32) (k4 : ClassId) (p5 : Int32) (p6 : Int32) (h0 : Heap) (n0 : Nat) (O0 : Old Z n0 h0) (P1 : Sta Z Z.heap "java/lang/String" "COMPACT_STRINGS" "Z" (.int p3)) (P2 : ¬ (p3 = (0 : Int32))) (P3 : Arv Z h0 a2 k4 .char (2 : Int32) [(.int p5), (.int p6)] (.int (0 : Int32))) (P4 : ¬ ((255 : Int32) < p5)) (P5 : ¬ ((255 : Int32) < p6)) (P6 : Exa Z h0 a1 "java/lang/String") (P7 : Fld Z h0 a1 "java/lang/String" "coder" "B" (.int (0 : Int32))) (P8 : n0 ≤ a1) (P9 : Fld Z h0 a1 "java/lang/String" "value" "[B" .null) :
    MetFree l (⟨"java/lang/String", "<init>", "([CIILjava/lang/Void;)V"⟩ : MethodName) (head1 (Jvm.Cond.code (⟨"java/lang/String", "<init>", "([CIILjava/lang/Void;)V"⟩ : MethodName) jdk_42_method_149_code 6 none :: ws) ({ frames := 2, cells := 1, slots := 2, locals := 35 } : Room)) (fun a U => a = #[(.ref a1), (.ref a2), (.int (0 : Int32)), (.int (2 : Int32)), .null] ∧ Z.Warmed39 U.vm ∧ U.heap = h0) (fun _ _ _ _ _ => True) (fun _ U o U' => ∃ v L, o = .returned v ∧ Q_rm2_1 Z a1 a2 p3 k4 p5 p6 h0 n0 v U'.heap L ∧ FrameEnd U o U' L ({ frames := 2, cells := 1, slots := 2, locals := 35 } : Room).cells ({ frames := 2, cells := 1, slots := 2, locals := 35 } : Room).slots) := by
  refine MetFree.of_bodySF (plainFor_of_name pn_1) hisR ?_
  intro p e s m args below meth c s₁ Bd hml0 hP hK
  obtain ⟨rfl, hZ, hh⟩ := hP
  have hx := Bd.exec
  have hby := Bd.bytes
  have hml : c.maxLocals = 6 := hml0
  have hown : s.vm.findClass "java/lang/String" = some m.cls := findClass_of_methodNamed Bd.named
  have hnm := (name_of_methodNamed Bd.named Bd.method).1
  have X0 : Stand p l e ({ frames := 2, cells := 1, slots := 2, locals := 35 } : Room) s m #[(.ref a1), (.ref a2), (.int (0 : Int32)), (.int (2 : Int32)), .null] below meth c s₁ [] 0 0 := Stand.of_body Bd
  have e0 : s₁.heap = h0 := by rw [← hh, Bd.state]; rfl
  have N0 := Fr.nil n0
  refine Go.start (P := (fun o U' => ∃ v L, o = .returned v ∧ Q_rm2_1 Z a1 a2 p3 k4 p5 p6 h0 n0 v U'.heap L ∧ FrameEnd s o U' L ({ frames := 2, cells := 1, slots := 2, locals := 35 } : Room).cells ({ frames := 2, cells := 1, slots := 2, locals := 35 } : Room).slots)) (castTop (g' := (mkF m 0 #[.val (.ref a1), .val (.ref a2), .val (.int (0 : Int32)), .val (.int (2 : Int32)), .val .null, .unset] [])) (by first | rfl | simp [entryFrame, mkF, argsToLocals, Value.category]) (T := s₁)) ?_
  refine Go.st (fun t k => XS.aloadN X0.here hx rfl (hb hby d2_0) rfl rfl k) ?_
  show Go p e below _ (s₁.setTop (mkF m 1 #[.val (.ref a1), .val (.ref a2), .val (.int (0 : Int32)), .val (.int (2 : Int32)), .val .null, .unset] [(.ref a1)]))
  obtain ⟨T1, X1, e1, st1⟩ := initO X0 hx hZ hown (w14 hw) (w15 hw) (w16 hw) e0 (g := (mkF m 1 #[.val (.ref a1), .val (.ref a2), .val (.int (0 : Int32)), .val (.int (2 : Int32)), .val .null, .unset] [(.ref a1)])) rfl (by rw [hml]; rfl) rfl (hb hby d2_1) (by decide) (W := 0) (by show 2 * 0 + _ ≤ _; exact Nat.le_of_eq rfl) (by decide)
  refine Go.st st1 ?_
  show Go p e below _ (T1.setTop (mkF m 4 #[.val (.ref a1), .val (.ref a2), .val (.int (0 : Int32)), .val (.int (2 : Int32)), .val .null, .unset] []))
  refine Go.st (fun t k => XS.iloadN X1.here hx rfl (hb hby d2_4) rfl k) ?_
  show Go p e below _ (T1.setTop (mkF m 5 #[.val (.ref a1), .val (.ref a2), .val (.int (0 : Int32)), .val (.int (2 : Int32)), .val .null, .unset] [(.int (2 : Int32))]))
  refine Go.st (fun t k => XS.ifYes X1.here hx rfl (pc0 := 5) (pc' := 27) rfl (hb hby d2_5) rfl (Jvm.Free.XT.i0_ne_t (by decide : ¬ ((2 : Int32) = (0 : Int32)))) (by decide) (by decide) k) ?_
  show Go p e below _ (T1.setTop (mkF m 27 #[.val (.ref a1), .val (.ref a2), .val (.int (0 : Int32)), .val (.int (2 : Int32)), .val .null, .unset] []))
  obtain ⟨T2, X2, e2, st2⟩ := getS2 X1 hx hZ hown (host := "") (Or.inl (w17 hw)) Via.refl e1 (P1.ext O0.2) (g := (mkF m 27 #[.val (.ref a1), .val (.ref a2), .val (.int (0 : Int32)), .val (.int (2 : Int32)), .val .null, .unset] [])) rfl (hb hby d2_27)
  refine Go.st st2 ?_
  show Go p e below _ (T2.setTop (mkF m 30 #[.val (.ref a1), .val (.ref a2), .val (.int (0 : Int32)), .val (.int (2 : Int32)), .val .null, .unset] [(.int p3)]))
  refine Go.st (fun t k => XS.ifNo X2.here hx rfl (hb hby d2_30) rfl (Jvm.Free.XT.i0_eq_f P2) k) ?_
  show Go p e below _ (T2.setTop (mkF m 33 #[.val (.ref a1), .val (.ref a2), .val (.int (0 : Int32)), .val (.int (2 : Int32)), .val .null, .unset] []))
  refine Go.st (fun t k => XS.aloadN X2.here hx rfl (hb hby d2_33) rfl rfl k) ?_
  show Go p e below _ (T2.setTop (mkF m 34 #[.val (.ref a1), .val (.ref a2), .val (.int (0 : Int32)), .val (.int (2 : Int32)), .val .null, .unset] [(.ref a2)]))
  refine Go.st (fun t k => XS.iloadN X2.here hx rfl (hb hby d2_34) rfl k) ?_
  show Go p e below _ (T2.setTop (mkF m 35 #[.val (.ref a1), .val (.ref a2), .val (.int (0 : Int32)), .val (.int (2 : Int32)), .val .null, .unset] [(.int (0 : Int32)), (.ref a2)]))
  refine Go.st (fun t k => XS.iloadN X2.here hx rfl (hb hby d2_35) rfl k) ?_
  show Go p e below _ (T2.setTop (mkF m 36 #[.val (.ref a1), .val (.ref a2), .val (.int (0 : Int32)), .val (.int (2 : Int32)), .val .null, .unset] [(.int (2 : Int32)), (.int (0 : Int32)), (.ref a2)]))
  obtain ⟨_, _, ⟨T3, L3, k3, n3⟩, -, X3, ⟨Lc3, hQ3, l3, y3, z3⟩, st3⟩ := Jvm.LawKit.callS X2 hx (y := (⟨"java/lang/StringUTF16", "compress", "([CII)[B"⟩ : MethodName)) hown (mvT hZ (w18 hw)) (mvT hZ (w19 hw)) (mvT hZ (w20 hw)) (mvT hZ (w21 hw)) (by decide) (backOf (W := 0) (rm4_1 l Z a0 hw [] a2 k4 p5 p6 h0 n0 O0 P3 P4 P5) hZ (w21 hw) (w20 hw) (by decide) (by decide)) (g := (mkF m 36 #[.val (.ref a1), .val (.ref a2), .val (.int (0 : Int32)), .val (.int (2 : Int32)), .val .null, .unset] [(.int (2 : Int32)), (.int (0 : Int32)), (.ref a2)])) rfl (by rw [hml]; rfl) (argsL := [(.ref a2), (.int (0 : Int32)), (.int (2 : Int32))]) (rest := []) (lenOf pd_1 rfl) rfl (by show 2 * 0 + _ ≤ _; exact Nat.le_of_eq rfl) (hb hby d2_36) (fun vm₁ hw₁ => ⟨rfl, e2, (by decide : 0 + 1 ≤ _), (by decide : 0 + 2 ≤ _)⟩)
  dsimp only [Pt.U, Pt.locs, Pt.cells, Pt.slots] at X3 l3 y3 z3 st3 hQ3
  subst l3 y3 z3
  obtain ⟨b1_3, k1_3, rfl, M3, K3c, r3_0, r3_1⟩ := hQ3
  have N3 := Fr.app N0 M3
  have g_b1_3 : n0 ≤ b1_3 := Nat.le_trans (own_n0 O0) r3_0
  have s_b1_3 : h0.size ≤ b1_3 := Nat.le_trans (Keep.refl h0 [a1]).1 r3_0
  have O3 : Old Z n0 T3.heap := O0.keep K3c all0
  have K3 : Keep h0 T3.heap [a1] := (Keep.refl h0 [a1]).trans K3c all0
  refine Go.st st3 ?_
  show Go p e below _ (T3.setTop (mkF m 39 #[.val (.ref a1), .val (.ref a2), .val (.int (0 : Int32)), .val (.int (2 : Int32)), .val .null, .unset] [(.ref b1_3)]))
  refine Go.st (fun t k => XS.astore X3.here hx rfl (hb hby d2_39) rfl rfl (l' := #[.val (.ref a1), .val (.ref a2), .val (.int (0 : Int32)), .val (.int (2 : Int32)), .val .null, .val (.ref b1_3)]) rfl k) ?_
  show Go p e below _ (T3.setTop (mkF m 41 #[.val (.ref a1), .val (.ref a2), .val (.int (0 : Int32)), .val (.int (2 : Int32)), .val .null, .val (.ref b1_3)] []))
  refine Go.st (fun t k => XS.aloadN X3.here hx rfl (hb hby d2_41) rfl rfl k) ?_
  show Go p e below _ (T3.setTop (mkF m 42 #[.val (.ref a1), .val (.ref a2), .val (.int (0 : Int32)), .val (.int (2 : Int32)), .val .null, .val (.ref b1_3)] [(.ref a1)]))
  refine Go.st (fun t k => XS.aload X3.here hx rfl (hb hby d2_42) rfl rfl k) ?_
  show Go p e below _ (T3.setTop (mkF m 44 #[.val (.ref a1), .val (.ref a2), .val (.int (0 : Int32)), .val (.int (2 : Int32)), .val .null, .val (.ref b1_3)] [(.ref b1_3), (.ref a1)]))
  refine Go.st (fun t k => XS.iloadN X3.here hx rfl (hb hby d2_44) rfl k) ?_
  show Go p e below _ (T3.setTop (mkF m 45 #[.val (.ref a1), .val (.ref a2), .val (.int (0 : Int32)), .val (.int (2 : Int32)), .val .null, .val (.ref b1_3)] [(.int (2 : Int32)), (.ref b1_3), (.ref a1)]))
  obtain ⟨_, _, ⟨T4, L4, k4, n4⟩, -, X4, ⟨Lc4, hQ4, l4, y4, z4⟩, st4⟩ := Jvm.LawKit.callS X3 hx (y := (⟨"java/lang/StringUTF16", "coderFromArrayLen", "([BI)B"⟩ : MethodName)) hown (mvT hZ (w26 hw)) (mvT hZ (w27 hw)) (mvT hZ (w20 hw)) (mvT hZ (w28 hw)) (by decide) (backOf (W := 1) (rm6_1 l Z a0 hw [] b1_3 k1_3 ((p5.toInt8.toInt32).toInt8.toInt32) ((p6.toInt8.toInt32).toInt8.toInt32) T3.heap n0 O3 r3_1) hZ (w28 hw) (w20 hw) (by decide) (by decide)) (g := (mkF m 45 #[.val (.ref a1), .val (.ref a2), .val (.int (0 : Int32)), .val (.int (2 : Int32)), .val .null, .val (.ref b1_3)] [(.int (2 : Int32)), (.ref b1_3), (.ref a1)])) rfl (by rw [hml]; rfl) (argsL := [(.ref b1_3), (.int (2 : Int32))]) (rest := [(.ref a1)]) (lenOf pd_2 rfl) rfl (by show 2 * 0 + _ ≤ _; exact Nat.le_of_eq rfl) (hb hby d2_45) (fun vm₁ hw₁ => ⟨rfl, rfl, (by decide : 1 + 0 ≤ _), (by decide : 2 + 0 ≤ _)⟩)
  dsimp only [Pt.U, Pt.locs, Pt.cells, Pt.slots] at X4 l4 y4 z4 st4 hQ4
  subst l4 y4 z4
  obtain ⟨rfl, M4, eh4⟩ := hQ4
  have N4 := Fr.app N3 M4
  refine Go.st st4 ?_
  show Go p e below _ (T4.setTop (mkF m 48 #[.val (.ref a1), .val (.ref a2), .val (.int (0 : Int32)), .val (.int (2 : Int32)), .val .null, .val (.ref b1_3)] [(.int (0 : Int32)), (.ref a1)]))
  obtain ⟨T5, h5, X5, e5, W5, st5⟩ := putFN X4 hx hZ hown (w29 hw) Via.refl eh4 (P7.keep K3c nin0) (P6.keep K3c) (Or.inr ⟨(w30 hw), rfl, hnm⟩) (w5 hw) (ty := .byte) (v' := (.int (0 : Int32))) (by decide) rfl (by decide) (g := (mkF m 48 #[.val (.ref a1), .val (.ref a2), .val (.int (0 : Int32)), .val (.int (2 : Int32)), .val .null, .val (.ref b1_3)] [(.int (0 : Int32)), (.ref a1)])) rfl rfl (hb hby d2_48)
  have F5 : Fld Z h5 a1 "java/lang/String" "coder" "B" (.int (0 : Int32)) := (P7.keep K3c nin0).same W5
  have N5 := Fr.snoc X5 N4 P8
  have O5 : Old Z n0 h5 := O3.wr W5 P8
  have K5 : Keep h0 h5 [a1] := K3.wr W5 (Or.inl (List.mem_of_getElem? (i := 0) rfl))
  refine Go.st st5 ?_
  show Go p e below _ (T5.setTop (mkF m 51 #[.val (.ref a1), .val (.ref a2), .val (.int (0 : Int32)), .val (.int (2 : Int32)), .val .null, .val (.ref b1_3)] []))
  refine Go.st (fun t k => XS.aloadN X5.here hx rfl (hb hby d2_51) rfl rfl k) ?_
  show Go p e below _ (T5.setTop (mkF m 52 #[.val (.ref a1), .val (.ref a2), .val (.int (0 : Int32)), .val (.int (2 : Int32)), .val .null, .val (.ref b1_3)] [(.ref a1)]))
  refine Go.st (fun t k => XS.aload X5.here hx rfl (hb hby d2_52) rfl rfl k) ?_
  show Go p e below _ (T5.setTop (mkF m 54 #[.val (.ref a1), .val (.ref a2), .val (.int (0 : Int32)), .val (.int (2 : Int32)), .val .null, .val (.ref b1_3)] [(.ref b1_3), (.ref a1)]))
  have c6 := ((P9.keep K3c nin0).other W5 (Or.inr (slot_ne (Or.inr (w32 hw)) (Or.inr (w30 hw)) (by decide) (t := (.array .byte)) (t' := .byte) (by decide) (by decide))))
  obtain ⟨T7, h7, X7, e7, W7, st7⟩ := putF X5 hx hZ hown (host := "") (Or.inl (w31 hw)) Via.refl e5 c6 ((P6.keep K3c).wr W5) (Or.inr ⟨(w32 hw), rfl, hnm⟩) (w5 hw) (ty := (.array .byte)) (by decide) rfl rfl (g := (mkF m 54 #[.val (.ref a1), .val (.ref a2), .val (.int (0 : Int32)), .val (.int (2 : Int32)), .val .null, .val (.ref b1_3)] [(.ref b1_3), (.ref a1)])) rfl rfl (hb hby d2_54)
  have F7 : Fld Z h7 a1 "java/lang/String" "value" "[B" (.ref b1_3) := c6.same W7
  have N7 := Fr.snoc X7 N5 P8
  have O7 : Old Z n0 h7 := O5.wr W7 P8
  have K7 : Keep h0 h7 [a1] := K5.wr W7 (Or.inl (List.mem_of_getElem? (i := 0) rfl))
  refine Go.st st7 ?_
  show Go p e below _ (T7.setTop (mkF m 57 #[.val (.ref a1), .val (.ref a2), .val (.int (0 : Int32)), .val (.int (2 : Int32)), .val .null, .val (.ref b1_3)] []))
  obtain ⟨fs, hr, hrun, hended, hWd, hsame⟩ := X7.leave (v := none) (fun _ => rfl)
  have c8 := (F5.other W7 (Or.inr (slot_ne (Or.inr (w30 hw)) (Or.inr (w32 hw)) (by decide) (t := .byte) (t' := (.array .byte)) (by decide) (by decide))))
  have c9 := ((r3_1.other W5 (Ne.symm (Nat.ne_of_lt (Nat.lt_of_lt_of_le P6.lt r3_0)))).other W7 (Ne.symm (Nat.ne_of_lt (Nat.lt_of_lt_of_le P6.lt r3_0))))
  refine ⟨_, _, ?_, hrun, hended, _, _, rfl, ?_, ⟨⟨_, rfl⟩, hWd, hsame.mono (by decide) (by decide)⟩⟩
  · exact X7.returnOut hx Bd.returns (hb hby d2_57) hr
  · show Q_rm2_1 Z a1 a2 p3 k4 p5 p6 h0 n0 _ T7.heap _
    rw [e7]
    exact ⟨b1_3, k1_3, rfl, N7, K7, s_b1_3, c8, F7, c9⟩
def Q_rm1_1 (Z : State) (a1 : Addr) (a2 : Addr) (k3 : ClassId) (p4 : Int32) (p5 : Int32) (p6 : Int32) (h0 : Heap) (n0 : Nat) (v : Option Value) (h : Heap) (L : List Loc) : Prop := ∃ (b1_3_2 : Addr) (k1_3_2 : ClassId), v = none ∧ Fr n0 L ∧ Keep h0 h [a1] ∧ h0.size ≤ b1_3_2 ∧ Fld Z h a1 "java/lang/String" "coder" "B" (.int (0 : Int32)) ∧ Fld Z h a1 "java/lang/String" "value" "[B" (.ref b1_3_2) ∧ Arv Z h b1_3_2 k1_3_2 .byte (2 : Int32) [(.int ((p4.toInt8.toInt32).toInt8.toInt32)), (.int ((p5.toInt8.toInt32).toInt8.toInt32))] (.int (0 : Int32))
set_option maxRecDepth 65536 in
set_option maxHeartbeats 40000000 in
theorem rm1_1 (l : Launch) (Z : State) (a0 : Array Value) (hw : ∀ d ∈ tables_1, d.before a0 Z = true) (ws : List Jvm.Cond) (a1 : Addr) (a2 : Addr) (k3 : ClassId) (p4 : Int32) (p5 : Int32) (p6 : Int32) (h0 : Heap) (n0 : Nat) (O0 : Old Z n0 h0) (P1 : Arv Z h0 a2 k3 .char (2 : Int32) [(.int p4), (.int p5)] (.int (0 : Int32))) (P2 : Sta Z Z.heap "java/lang/String" "COMPACT_STRINGS" "Z" (.int p6)) (P3 : ¬ (p6 = (0 : Int32))) (P4 : ¬ ((255 : Int32) < p4)) (P5 : ¬ ((255 : Int32) < p5)) (P6 : Exa Z h0 a1 "java/lang/String") (P7 : Fld Z h0 a1 "java/lang/String" "coder" "B" (.int (0 : Int32))) (P8 : n0 ≤ a1) (P9 : Fld Z h0 a1 "java/lang/String" "value" "[B" .null) :
    MetFree l (⟨"java/lang/String", "<init>", "([C)V"⟩ : MethodName) (head1 (Jvm.Cond.code (⟨"java/lang/String", "<init>", "([C)V"⟩ : MethodName) jdk_42_method_3_code 2 none :: ws) ({ frames := 3, cells := 1, slots := 2, locals := 52 } : Room)) (fun a U => a = #[(.ref a1), (.ref a2)] ∧ Z.Warmed39 U.vm ∧ U.heap = h0) (fun _ _ _ _ _ => True) (fun _ U o U' => ∃ v L, o = .returned v ∧ Q_rm1_1 Z a1 a2 k3 p4 p5 p6 h0 n0 v U'.heap L ∧ FrameEnd U o U' L ({ frames := 3, cells := 1, slots := 2, locals := 52 } : Room).cells ({ frames := 3, cells := 1, slots := 2, locals := 52 } : Room).slots) := by
  refine MetFree.of_bodySF (plainFor_of_name pn_1) hisR ?_
  intro p e s m args below meth c s₁ Bd hml0 hP hK
  obtain ⟨rfl, hZ, hh⟩ := hP
  have hx := Bd.exec
  have hby := Bd.bytes
  have hml : c.maxLocals = 2 := hml0
  have hown : s.vm.findClass "java/lang/String" = some m.cls := findClass_of_methodNamed Bd.named
  have hnm := (name_of_methodNamed Bd.named Bd.method).1
  have X0 : Stand p l e ({ frames := 3, cells := 1, slots := 2, locals := 52 } : Room) s m #[(.ref a1), (.ref a2)] below meth c s₁ [] 0 0 := Stand.of_body Bd
  have e0 : s₁.heap = h0 := by rw [← hh, Bd.state]; rfl
  have N0 := Fr.nil n0
  refine Go.start (P := (fun o U' => ∃ v L, o = .returned v ∧ Q_rm1_1 Z a1 a2 k3 p4 p5 p6 h0 n0 v U'.heap L ∧ FrameEnd s o U' L ({ frames := 3, cells := 1, slots := 2, locals := 52 } : Room).cells ({ frames := 3, cells := 1, slots := 2, locals := 52 } : Room).slots)) (castTop (g' := (mkF m 0 #[.val (.ref a1), .val (.ref a2)] [])) (by first | rfl | simp [entryFrame, mkF, argsToLocals, Value.category]) (T := s₁)) ?_
  refine Go.st (fun t k => XS.aloadN X0.here hx rfl (hb hby d1_0) rfl rfl k) ?_
  show Go p e below _ (s₁.setTop (mkF m 1 #[.val (.ref a1), .val (.ref a2)] [(.ref a1)]))
  refine Go.st (fun t k => XS.aloadN X0.here hx rfl (hb hby d1_1) rfl rfl k) ?_
  show Go p e below _ (s₁.setTop (mkF m 2 #[.val (.ref a1), .val (.ref a2)] [(.ref a2), (.ref a1)]))
  refine Go.st (fun t k => XS.iconst X0.here hx rfl (hb hby d1_2) k) ?_
  show Go p e below _ (s₁.setTop (mkF m 3 #[.val (.ref a1), .val (.ref a2)] [(.int (0 : Int32)), (.ref a2), (.ref a1)]))
  refine Go.st (fun t k => XS.aloadN X0.here hx rfl (hb hby d1_3) rfl rfl k) ?_
  show Go p e below _ (s₁.setTop (mkF m 4 #[.val (.ref a1), .val (.ref a2)] [(.ref a2), (.int (0 : Int32)), (.ref a2), (.ref a1)]))
  obtain ⟨cl1, Ar1, -, S1, M1, -, -⟩ := id P1
  refine Go.st (fun t k => X0.arraylength hx (by rw [e0]; exact Ar1.1) (State.isArrayOf_alike hZ.alike Ar1.2.1) (g := (mkF m 4 #[.val (.ref a1), .val (.ref a2)] [(.ref a2), (.int (0 : Int32)), (.ref a2), (.ref a1)])) rfl rfl (hb hby d1_4) t k) ?_
  rw [len_of S1 M1]
  show Go p e below _ (s₁.setTop (mkF m 5 #[.val (.ref a1), .val (.ref a2)] [(.int (2 : Int32)), (.int (0 : Int32)), (.ref a2), (.ref a1)]))
  refine Go.st (fun t k => XS.aconstNull X0.here hx rfl (hb hby d1_5) k) ?_
  show Go p e below _ (s₁.setTop (mkF m 6 #[.val (.ref a1), .val (.ref a2)] [.null, (.int (2 : Int32)), (.int (0 : Int32)), (.ref a2), (.ref a1)]))
  obtain ⟨_, _, ⟨T2, L2, k2, n2⟩, -, X2, ⟨Lc2, hQ2, l2, y2, z2⟩, st2⟩ := X0.specialBack hx (y := (⟨"java/lang/String", "<init>", "([CIILjava/lang/Void;)V"⟩ : MethodName)) rfl hown (mvT hZ (w10 hw)) (mvT hZ (w11 hw)) (mvT hZ (w13 hw)) (by decide) (backOf (W := 0) (rm2_1 l Z a0 hw [] a1 a2 p6 k3 p4 p5 h0 n0 O0 P2 P3 P1 P4 P5 P6 P7 P8 P9) hZ (w13 hw) (w6 hw) (by decide) (by decide)) (g := (mkF m 6 #[.val (.ref a1), .val (.ref a2)] [.null, (.int (2 : Int32)), (.int (0 : Int32)), (.ref a2), (.ref a1)])) rfl (by rw [hml]; rfl) (Steps.refl _) (a := a1) (argsL := [(.ref a2), (.int (0 : Int32)), (.int (2 : Int32)), .null]) (rest := []) (lenOf pd_3 rfl) rfl (by show 2 * 0 + _ ≤ _; exact Nat.le_of_eq rfl) (hb hby d1_6) (fun vm₁ hw₁ => ⟨rfl, e0, (by decide : 0 + 1 ≤ _), (by decide : 0 + 2 ≤ _)⟩)
  dsimp only [Pt.U, Pt.locs, Pt.cells, Pt.slots] at X2 l2 y2 z2 st2 hQ2
  subst l2 y2 z2
  obtain ⟨b1_3_2, k1_3_2, rfl, M2, K2c, r2_0, r2_1, r2_2, r2_3⟩ := hQ2
  have N2 := Fr.app N0 M2
  have g_b1_3_2 : n0 ≤ b1_3_2 := Nat.le_trans (own_n0 O0) r2_0
  have s_b1_3_2 : h0.size ≤ b1_3_2 := Nat.le_trans (Keep.refl h0 [a1]).1 r2_0
  have O2 : Old Z n0 T2.heap := O0.keep K2c (allS P8 all0)
  have K2 : Keep h0 T2.heap [a1] := (Keep.refl h0 [a1]).trans K2c (allS (Or.inl (List.mem_of_getElem? (i := 0) rfl)) all0)
  refine Go.tr st2 ?_
  show Go p e below _ (T2.setTop (mkF m 9 #[.val (.ref a1), .val (.ref a2)] []))
  obtain ⟨fs, hr, hrun, hended, hWd, hsame⟩ := X2.leave (v := none) (fun _ => rfl)
  refine ⟨_, _, ?_, hrun, hended, _, _, rfl, ?_, ⟨⟨_, rfl⟩, hWd, hsame.mono (by decide) (by decide)⟩⟩
  · exact X2.returnOut hx Bd.returns (hb hby d1_9) hr
  · show Q_rm1_1 Z a1 a2 k3 p4 p5 p6 h0 n0 _ T2.heap _
    exact ⟨b1_3_2, k1_3_2, rfl, N2, K2, s_b1_3_2, r2_1, r2_2, r2_3⟩
def Q_rm10_1 (Z : State) (a1 : Addr) (h0 : Heap) (n0 : Nat) (v : Option Value) (h : Heap) (L : List Loc) : Prop := v = none ∧ Fr n0 L ∧ h = h0
set_option maxRecDepth 65536 in
set_option maxHeartbeats 40000000 in
theorem rm10_1 (l : Launch) (Z : State) (a0 : Array Value) (hw : ∀ d ∈ tables_1, d.before a0 Z = true) (ws : List Jvm.Cond) (a1 : Addr) (h0 : Heap) (n0 : Nat) (O0 : Old Z n0 h0) :
    MetFree l (⟨"java/util/AbstractCollection", "<init>", "()V"⟩ : MethodName) (head1 (Jvm.Cond.code (⟨"java/util/AbstractCollection", "<init>", "()V"⟩ : MethodName) jdk_22_method_1_code 1 none :: ws) ({ frames := 1, cells := 0, slots := 0, locals := 12 } : Room)) (fun a U => a = #[(.ref a1)] ∧ Z.Warmed39 U.vm ∧ U.heap = h0) (fun _ _ _ _ _ => True) (fun _ U o U' => ∃ v L, o = .returned v ∧ Q_rm10_1 Z a1 h0 n0 v U'.heap L ∧ FrameEnd U o U' L ({ frames := 1, cells := 0, slots := 0, locals := 12 } : Room).cells ({ frames := 1, cells := 0, slots := 0, locals := 12 } : Room).slots) := by
  refine MetFree.of_bodySF (plainFor_of_name pn_2) hisR ?_
  intro p e s m args below meth c s₁ Bd hml0 hP hK
  obtain ⟨rfl, hZ, hh⟩ := hP
  have hx := Bd.exec
  have hby := Bd.bytes
  have hml : c.maxLocals = 1 := hml0
  have hown : s.vm.findClass "java/util/AbstractCollection" = some m.cls := findClass_of_methodNamed Bd.named
  have hnm := (name_of_methodNamed Bd.named Bd.method).1
  have X0 : Stand p l e ({ frames := 1, cells := 0, slots := 0, locals := 12 } : Room) s m #[(.ref a1)] below meth c s₁ [] 0 0 := Stand.of_body Bd
  have e0 : s₁.heap = h0 := by rw [← hh, Bd.state]; rfl
  have N0 := Fr.nil n0
  refine Go.start (P := (fun o U' => ∃ v L, o = .returned v ∧ Q_rm10_1 Z a1 h0 n0 v U'.heap L ∧ FrameEnd s o U' L ({ frames := 1, cells := 0, slots := 0, locals := 12 } : Room).cells ({ frames := 1, cells := 0, slots := 0, locals := 12 } : Room).slots)) (castTop (g' := (mkF m 0 #[.val (.ref a1)] [])) (by first | rfl | simp [entryFrame, mkF, argsToLocals, Value.category]) (T := s₁)) ?_
  refine Go.st (fun t k => XS.aloadN X0.here hx rfl (hb hby d10_0) rfl rfl k) ?_
  show Go p e below _ (s₁.setTop (mkF m 1 #[.val (.ref a1)] [(.ref a1)]))
  obtain ⟨T1, X1, e1, st1⟩ := initO X0 hx hZ hown (w55 hw) (w15 hw) (w16 hw) e0 (g := (mkF m 1 #[.val (.ref a1)] [(.ref a1)])) rfl (by rw [hml]; rfl) rfl (hb hby d10_1) (by decide) (W := 0) (by show 2 * 0 + _ ≤ _; exact Nat.le_of_eq rfl) (by decide)
  refine Go.st st1 ?_
  show Go p e below _ (T1.setTop (mkF m 4 #[.val (.ref a1)] []))
  obtain ⟨fs, hr, hrun, hended, hWd, hsame⟩ := X1.leave (v := none) (fun _ => rfl)
  refine ⟨_, _, ?_, hrun, hended, _, _, rfl, ?_, ⟨⟨_, rfl⟩, hWd, hsame.mono (by decide) (by decide)⟩⟩
  · exact X1.returnOut hx Bd.returns (hb hby d10_4) hr
  · show Q_rm10_1 Z a1 h0 n0 _ T1.heap _
    rw [e1]
    exact ⟨rfl, N0, rfl⟩
def Q_rm9_1 (Z : State) (a1 : Addr) (h0 : Heap) (n0 : Nat) (v : Option Value) (h : Heap) (L : List Loc) : Prop := v = none ∧ Fr n0 L ∧ Keep h0 h [a1] ∧ Fld Z h a1 "java/util/AbstractList" "modCount" "I" (.int (0 : Int32)) ∧ Fld Z h a1 "java/util/ArrayList" "elementData" "[Ljava/lang/Object;" .null
set_option maxRecDepth 65536 in
set_option maxHeartbeats 40000000 in
theorem rm9_1 (l : Launch) (Z : State) (a0 : Array Value) (hw : ∀ d ∈ tables_1, d.before a0 Z = true) (ws : List Jvm.Cond) (a1 : Addr) (h0 : Heap) (n0 : Nat) (O0 : Old Z n0 h0) (P1 : Exa Z h0 a1 "java/util/ArrayList") (P2 : Fld Z h0 a1 "java/util/AbstractList" "modCount" "I" (.int (0 : Int32))) (P3 : n0 ≤ a1) (P4 : Fld Z h0 a1 "java/util/ArrayList" "elementData" "[Ljava/lang/Object;" .null) :
    MetFree l (⟨"java/util/AbstractList", "<init>", "()V"⟩ : MethodName) (head1 (Jvm.Cond.code (⟨"java/util/AbstractList", "<init>", "()V"⟩ : MethodName) jdk_39_method_1_code 1 none :: ws) ({ frames := 2, cells := 0, slots := 0, locals := 24 } : Room)) (fun a U => a = #[(.ref a1)] ∧ Z.Warmed39 U.vm ∧ U.heap = h0) (fun _ _ _ _ _ => True) (fun _ U o U' => ∃ v L, o = .returned v ∧ Q_rm9_1 Z a1 h0 n0 v U'.heap L ∧ FrameEnd U o U' L ({ frames := 2, cells := 0, slots := 0, locals := 24 } : Room).cells ({ frames := 2, cells := 0, slots := 0, locals := 24 } : Room).slots) := by
  refine MetFree.of_bodySF (plainFor_of_name pn_3) hisR ?_
  intro p e s m args below meth c s₁ Bd hml0 hP hK
  obtain ⟨rfl, hZ, hh⟩ := hP
  have hx := Bd.exec
  have hby := Bd.bytes
  have hml : c.maxLocals = 1 := hml0
  have hown : s.vm.findClass "java/util/AbstractList" = some m.cls := findClass_of_methodNamed Bd.named
  have hnm := (name_of_methodNamed Bd.named Bd.method).1
  have X0 : Stand p l e ({ frames := 2, cells := 0, slots := 0, locals := 24 } : Room) s m #[(.ref a1)] below meth c s₁ [] 0 0 := Stand.of_body Bd
  have e0 : s₁.heap = h0 := by rw [← hh, Bd.state]; rfl
  have N0 := Fr.nil n0
  refine Go.start (P := (fun o U' => ∃ v L, o = .returned v ∧ Q_rm9_1 Z a1 h0 n0 v U'.heap L ∧ FrameEnd s o U' L ({ frames := 2, cells := 0, slots := 0, locals := 24 } : Room).cells ({ frames := 2, cells := 0, slots := 0, locals := 24 } : Room).slots)) (castTop (g' := (mkF m 0 #[.val (.ref a1)] [])) (by first | rfl | simp [entryFrame, mkF, argsToLocals, Value.category]) (T := s₁)) ?_
  refine Go.st (fun t k => XS.aloadN X0.here hx rfl (hb hby d9_0) rfl rfl k) ?_
  show Go p e below _ (s₁.setTop (mkF m 1 #[.val (.ref a1)] [(.ref a1)]))
  obtain ⟨_, _, ⟨T1, L1, k1, n1⟩, -, X1, ⟨Lc1, hQ1, l1, y1, z1⟩, st1⟩ := X0.specialBack hx (y := (⟨"java/util/AbstractCollection", "<init>", "()V"⟩ : MethodName)) rfl hown (mvT hZ (w49 hw)) (mvT hZ (w50 hw)) (mvT hZ (w54 hw)) (by decide) (backOf (W := 0) (rm10_1 l Z a0 hw [] a1 h0 n0 O0 ) hZ (w54 hw) (w53 hw) (by decide) (by decide)) (g := (mkF m 1 #[.val (.ref a1)] [(.ref a1)])) rfl (by rw [hml]; rfl) (Steps.refl _) (a := a1) (argsL := []) (rest := []) (lenOf pd_5 rfl) rfl (by show 2 * 0 + _ ≤ _; exact Nat.le_of_eq rfl) (hb hby d9_1) (fun vm₁ hw₁ => ⟨rfl, e0, (by decide : 0 + 0 ≤ _), (by decide : 0 + 0 ≤ _)⟩)
  dsimp only [Pt.U, Pt.locs, Pt.cells, Pt.slots] at X1 l1 y1 z1 st1 hQ1
  subst l1 y1 z1
  obtain ⟨rfl, M1, eh1⟩ := hQ1
  have N1 := Fr.app N0 M1
  refine Go.tr st1 ?_
  show Go p e below _ (T1.setTop (mkF m 4 #[.val (.ref a1)] []))
  refine Go.st (fun t k => XS.aloadN X1.here hx rfl (hb hby d9_4) rfl rfl k) ?_
  show Go p e below _ (T1.setTop (mkF m 5 #[.val (.ref a1)] [(.ref a1)]))
  refine Go.st (fun t k => XS.iconst X1.here hx rfl (hb hby d9_5) k) ?_
  show Go p e below _ (T1.setTop (mkF m 6 #[.val (.ref a1)] [(.int (0 : Int32)), (.ref a1)]))
  obtain ⟨T2, h2, X2, e2, W2, st2⟩ := putF X1 hx hZ hown (host := "") (Or.inl (w56 hw)) Via.refl eh1 P2 P1 (Or.inl (w57 hw)) (w38 hw) (ty := .int) (by decide) rfl rfl (g := (mkF m 6 #[.val (.ref a1)] [(.int (0 : Int32)), (.ref a1)])) rfl rfl (hb hby d9_6)
  have F2 : Fld Z h2 a1 "java/util/AbstractList" "modCount" "I" (.int (0 : Int32)) := P2.same W2
  have N2 := Fr.snoc X2 N1 P3
  have O2 : Old Z n0 h2 := O0.wr W2 P3
  have K2 : Keep h0 h2 [a1] := (Keep.refl h0 [a1]).wr W2 (Or.inl (List.mem_of_getElem? (i := 0) rfl))
  refine Go.st st2 ?_
  show Go p e below _ (T2.setTop (mkF m 9 #[.val (.ref a1)] []))
  obtain ⟨fs, hr, hrun, hended, hWd, hsame⟩ := X2.leave (v := none) (fun _ => rfl)
  have c3 := (P4.other W2 (Or.inr (slot_ne (Or.inl (w60 hw)) (Or.inl (w57 hw)) (by decide) (t := (.array (.object "java/lang/Object"))) (t' := .int) (by decide) (by decide))))
  refine ⟨_, _, ?_, hrun, hended, _, _, rfl, ?_, ⟨⟨_, rfl⟩, hWd, hsame.mono (by decide) (by decide)⟩⟩
  · exact X2.returnOut hx Bd.returns (hb hby d9_9) hr
  · show Q_rm9_1 Z a1 h0 n0 _ T2.heap _
    rw [e2]
    exact ⟨rfl, N2, K2, F2, c3⟩
def Q_rm8_1 (Z : State) (a1 : Addr) (a2 : Addr) (h0 : Heap) (n0 : Nat) (v : Option Value) (h : Heap) (L : List Loc) : Prop := v = none ∧ Fr n0 L ∧ Keep h0 h [a1] ∧ Fld Z h a1 "java/util/AbstractList" "modCount" "I" (.int (0 : Int32)) ∧ Fld Z h a1 "java/util/ArrayList" "elementData" "[Ljava/lang/Object;" (.ref a2)
set_option maxRecDepth 65536 in
set_option maxHeartbeats 40000000 in
theorem rm8_1 (l : Launch) (Z : State) (a0 : Array Value) (hw : ∀ d ∈ tables_1, d.before a0 Z = true) (ws : List Jvm.Cond) (a1 : Addr) (a2 : Addr) (h0 : Heap) (n0 : Nat) (O0 : Old Z n0 h0) (P1 : Exa Z h0 a1 "java/util/ArrayList") (P2 : Fld Z h0 a1 "java/util/AbstractList" "modCount" "I" (.int (0 : Int32))) (P3 : n0 ≤ a1) (P4 : Fld Z h0 a1 "java/util/ArrayList" "elementData" "[Ljava/lang/Object;" .null) (P5 : Sta Z Z.heap "java/util/ArrayList" "DEFAULTCAPACITY_EMPTY_ELEMENTDATA" "[Ljava/lang/Object;" (.ref a2)) :
    MetFree l (⟨"java/util/ArrayList", "<init>", "()V"⟩ : MethodName) (head1 (Jvm.Cond.code (⟨"java/util/ArrayList", "<init>", "()V"⟩ : MethodName) jdk_38_method_2_code 1 none :: ws) ({ frames := 3, cells := 0, slots := 0, locals := 36 } : Room)) (fun a U => a = #[(.ref a1)] ∧ Z.Warmed39 U.vm ∧ U.heap = h0) (fun _ _ _ _ _ => True) (fun _ U o U' => ∃ v L, o = .returned v ∧ Q_rm8_1 Z a1 a2 h0 n0 v U'.heap L ∧ FrameEnd U o U' L ({ frames := 3, cells := 0, slots := 0, locals := 36 } : Room).cells ({ frames := 3, cells := 0, slots := 0, locals := 36 } : Room).slots) := by
  refine MetFree.of_bodySF (plainFor_of_name pn_4) hisR ?_
  intro p e s m args below meth c s₁ Bd hml0 hP hK
  obtain ⟨rfl, hZ, hh⟩ := hP
  have hx := Bd.exec
  have hby := Bd.bytes
  have hml : c.maxLocals = 1 := hml0
  have hown : s.vm.findClass "java/util/ArrayList" = some m.cls := findClass_of_methodNamed Bd.named
  have hnm := (name_of_methodNamed Bd.named Bd.method).1
  have X0 : Stand p l e ({ frames := 3, cells := 0, slots := 0, locals := 36 } : Room) s m #[(.ref a1)] below meth c s₁ [] 0 0 := Stand.of_body Bd
  have e0 : s₁.heap = h0 := by rw [← hh, Bd.state]; rfl
  have N0 := Fr.nil n0
  refine Go.start (P := (fun o U' => ∃ v L, o = .returned v ∧ Q_rm8_1 Z a1 a2 h0 n0 v U'.heap L ∧ FrameEnd s o U' L ({ frames := 3, cells := 0, slots := 0, locals := 36 } : Room).cells ({ frames := 3, cells := 0, slots := 0, locals := 36 } : Room).slots)) (castTop (g' := (mkF m 0 #[.val (.ref a1)] [])) (by first | rfl | simp [entryFrame, mkF, argsToLocals, Value.category]) (T := s₁)) ?_
  refine Go.st (fun t k => XS.aloadN X0.here hx rfl (hb hby d8_0) rfl rfl k) ?_
  show Go p e below _ (s₁.setTop (mkF m 1 #[.val (.ref a1)] [(.ref a1)]))
  obtain ⟨_, _, ⟨T1, L1, k1, n1⟩, -, X1, ⟨Lc1, hQ1, l1, y1, z1⟩, st1⟩ := X0.specialBack hx (y := (⟨"java/util/AbstractList", "<init>", "()V"⟩ : MethodName)) rfl hown (mvT hZ (w43 hw)) (mvT hZ (w44 hw)) (mvT hZ (w48 hw)) (by decide) (backOf (W := 0) (rm9_1 l Z a0 hw [] a1 h0 n0 O0 P1 P2 P3 P4) hZ (w48 hw) (w47 hw) (by decide) (by decide)) (g := (mkF m 1 #[.val (.ref a1)] [(.ref a1)])) rfl (by rw [hml]; rfl) (Steps.refl _) (a := a1) (argsL := []) (rest := []) (lenOf pd_5 rfl) rfl (by show 2 * 0 + _ ≤ _; exact Nat.le_of_eq rfl) (hb hby d8_1) (fun vm₁ hw₁ => ⟨rfl, e0, (by decide : 0 + 0 ≤ _), (by decide : 0 + 0 ≤ _)⟩)
  dsimp only [Pt.U, Pt.locs, Pt.cells, Pt.slots] at X1 l1 y1 z1 st1 hQ1
  subst l1 y1 z1
  obtain ⟨rfl, M1, K1c, r1_0, r1_1⟩ := hQ1
  have N1 := Fr.app N0 M1
  have O1 : Old Z n0 T1.heap := O0.keep K1c (allS P3 all0)
  have K1 : Keep h0 T1.heap [a1] := (Keep.refl h0 [a1]).trans K1c (allS (Or.inl (List.mem_of_getElem? (i := 0) rfl)) all0)
  refine Go.tr st1 ?_
  show Go p e below _ (T1.setTop (mkF m 4 #[.val (.ref a1)] []))
  refine Go.st (fun t k => XS.aloadN X1.here hx rfl (hb hby d8_4) rfl rfl k) ?_
  show Go p e below _ (T1.setTop (mkF m 5 #[.val (.ref a1)] [(.ref a1)]))
  obtain ⟨T2, X2, e2, st2⟩ := getS2 X1 hx hZ hown (host := "") (Or.inl (w58 hw)) Via.refl rfl (P5.ext O1.2) (g := (mkF m 5 #[.val (.ref a1)] [(.ref a1)])) rfl (hb hby d8_5)
  refine Go.st st2 ?_
  show Go p e below _ (T2.setTop (mkF m 8 #[.val (.ref a1)] [(.ref a2), (.ref a1)]))
  obtain ⟨T3, h3, X3, e3, W3, st3⟩ := putF X2 hx hZ hown (host := "") (Or.inl (w59 hw)) Via.refl e2 r1_1 (P1.keep K1c) (Or.inl (w60 hw)) (w38 hw) (ty := (.array (.object "java/lang/Object"))) (by decide) rfl rfl (g := (mkF m 8 #[.val (.ref a1)] [(.ref a2), (.ref a1)])) rfl rfl (hb hby d8_8)
  have F3 : Fld Z h3 a1 "java/util/ArrayList" "elementData" "[Ljava/lang/Object;" (.ref a2) := r1_1.same W3
  have N3 := Fr.snoc X3 N1 P3
  have O3 : Old Z n0 h3 := O1.wr W3 P3
  have K3 : Keep h0 h3 [a1] := K1.wr W3 (Or.inl (List.mem_of_getElem? (i := 0) rfl))
  refine Go.st st3 ?_
  show Go p e below _ (T3.setTop (mkF m 11 #[.val (.ref a1)] []))
  obtain ⟨fs, hr, hrun, hended, hWd, hsame⟩ := X3.leave (v := none) (fun _ => rfl)
  have c4 := (r1_0.other W3 (Or.inr (slot_ne (Or.inl (w57 hw)) (Or.inl (w60 hw)) (by decide) (t := .int) (t' := (.array (.object "java/lang/Object"))) (by decide) (by decide))))
  refine ⟨_, _, ?_, hrun, hended, _, _, rfl, ?_, ⟨⟨_, rfl⟩, hWd, hsame.mono (by decide) (by decide)⟩⟩
  · exact X3.returnOut hx Bd.returns (hb hby d8_11) hr
  · show Q_rm8_1 Z a1 a2 h0 n0 _ T3.heap _
    rw [e3]
    exact ⟨rfl, N3, K3, c4, F3⟩
def Q_rm7_1 (Z : State) (a1 : Addr) (a2 : Addr) (p3 : Int32) (a4 : Addr) (h0 : Heap) (n0 : Nat) (v : Option Value) (h : Heap) (L : List Loc) : Prop := ∃ (b2 : Addr), v = none ∧ Fr n0 L ∧ Keep h0 h [a1] ∧ h0.size ≤ b2 ∧ Fld Z h a1 "com/example/outbound_courier/outboundcourier/http/RequestHead" "fields" "Ljava/util/List;" (.ref b2) ∧ Fld Z h a1 "com/example/outbound_courier/outboundcourier/http/RequestHead" "contentLength" "J" (.long (-1 : Int64)) ∧ Fld Z h a1 "com/example/outbound_courier/outboundcourier/http/RequestHead" "method" "Ljava/lang/String;" (.ref a2) ∧ Fld Z h a1 "com/example/outbound_courier/outboundcourier/http/RequestHead" "version" "I" (.int p3) ∧ Fld Z h a1 "com/example/outbound_courier/outboundcourier/http/RequestHead" "chunked" "Z" (.int (0 : Int32)) ∧ Fld Z h a1 "com/example/outbound_courier/outboundcourier/http/RequestHead" "close" "Z" (.int (0 : Int32)) ∧ Fld Z h a1 "com/example/outbound_courier/outboundcourier/http/RequestHead" "expectsContinue" "Z" (.int (0 : Int32)) ∧ Exa Z h b2 "java/util/ArrayList" ∧ Fld Z h b2 "java/util/AbstractList" "modCount" "I" (.int (0 : Int32)) ∧ Fld Z h b2 "java/util/ArrayList" "elementData" "[Ljava/lang/Object;" (.ref a4)
set_option maxRecDepth 65536 in
set_option maxHeartbeats 40000000 in
theorem rm7_1 (l : Launch) (Z : State) (a0 : Array Value) (hw : ∀ d ∈ tables_1, d.before a0 Z = true) (ws : List Jvm.Cond) (a1 : Addr) (a2 : Addr) (p3 : Int32) (a4 : Addr) (h0 : Heap) (n0 : Nat) (O0 : Old Z n0 h0) (P1 : Sta Z Z.heap "java/util/ArrayList" "DEFAULTCAPACITY_EMPTY_ELEMENTDATA" "[Ljava/lang/Object;" (.ref a4)) (P2 : Exa Z h0 a1 "com/example/outbound_courier/outboundcourier/http/RequestHead") (P3 : Fld Z h0 a1 "com/example/outbound_courier/outboundcourier/http/RequestHead" "fields" "Ljava/util/List;" .null) (P4 : n0 ≤ a1) (P5 : Fld Z h0 a1 "com/example/outbound_courier/outboundcourier/http/RequestHead" "contentLength" "J" (.long (0 : Int64))) (P6 : Fld Z h0 a1 "com/example/outbound_courier/outboundcourier/http/RequestHead" "method" "Ljava/lang/String;" .null) (P7 : Fld Z h0 a1 "com/example/outbound_courier/outboundcourier/http/RequestHead" "version" "I" (.int (0 : Int32))) (P8 : Fld Z h0 a1 "com/example/outbound_courier/outboundcourier/http/RequestHead" "chunked" "Z" (.int (0 : Int32))) (P9 : Fld Z h0 a1 "com/example/outbound_courier/outboundcourier/http/RequestHead" "close" "Z" (.int (0 : Int32))) (P10 : Fld Z h0 a1 "com/example/outbound_courier/outboundcourier/http/RequestHead" "expectsContinue" "Z" (.int (0 : Int32))) :
    MetFree l (⟨"com/example/outbound_courier/outboundcourier/http/RequestHead", "<init>", "(Ljava/lang/String;I)V"⟩ : MethodName) (head1 (Jvm.Cond.code (⟨"com/example/outbound_courier/outboundcourier/http/RequestHead", "<init>", "(Ljava/lang/String;I)V"⟩ : MethodName) prog_20_method_1_code 3 none :: ws) ({ frames := 4, cells := 1, slots := 3, locals := 50 } : Room)) (fun a U => a = #[(.ref a1), (.ref a2), (.int p3)] ∧ Z.Warmed39 U.vm ∧ U.heap = h0) (fun _ _ _ _ _ => True) (fun _ U o U' => ∃ v L, o = .returned v ∧ Q_rm7_1 Z a1 a2 p3 a4 h0 n0 v U'.heap L ∧ FrameEnd U o U' L ({ frames := 4, cells := 1, slots := 3, locals := 50 } : Room).cells ({ frames := 4, cells := 1, slots := 3, locals := 50 } : Room).slots) := by
  refine MetFree.of_bodySF (plainFor_of_name pn_5) hisR ?_
  intro p e s m args below meth c s₁ Bd hml0 hP hK
  obtain ⟨rfl, hZ, hh⟩ := hP
  have hx := Bd.exec
  have hby := Bd.bytes
  have hml : c.maxLocals = 3 := hml0
  have hown : s.vm.findClass "com/example/outbound_courier/outboundcourier/http/RequestHead" = some m.cls := findClass_of_methodNamed Bd.named
  have hnm := (name_of_methodNamed Bd.named Bd.method).1
  have X0 : Stand p l e ({ frames := 4, cells := 1, slots := 3, locals := 50 } : Room) s m #[(.ref a1), (.ref a2), (.int p3)] below meth c s₁ [] 0 0 := Stand.of_body Bd
  have e0 : s₁.heap = h0 := by rw [← hh, Bd.state]; rfl
  have N0 := Fr.nil n0
  refine Go.start (P := (fun o U' => ∃ v L, o = .returned v ∧ Q_rm7_1 Z a1 a2 p3 a4 h0 n0 v U'.heap L ∧ FrameEnd s o U' L ({ frames := 4, cells := 1, slots := 3, locals := 50 } : Room).cells ({ frames := 4, cells := 1, slots := 3, locals := 50 } : Room).slots)) (castTop (g' := (mkF m 0 #[.val (.ref a1), .val (.ref a2), .val (.int p3)] [])) (by first | rfl | simp [entryFrame, mkF, argsToLocals, Value.category]) (T := s₁)) ?_
  refine Go.st (fun t k => XS.aloadN X0.here hx rfl (hb hby d7_0) rfl rfl k) ?_
  show Go p e below _ (s₁.setTop (mkF m 1 #[.val (.ref a1), .val (.ref a2), .val (.int p3)] [(.ref a1)]))
  obtain ⟨T1, X1, e1, st1⟩ := initO X0 hx hZ hown (w36 hw) (w15 hw) (w16 hw) e0 (g := (mkF m 1 #[.val (.ref a1), .val (.ref a2), .val (.int p3)] [(.ref a1)])) rfl (by rw [hml]; rfl) rfl (hb hby d7_1) (by decide) (W := 0) (by show 2 * 0 + _ ≤ _; exact Nat.le_of_eq rfl) (by decide)
  refine Go.st st1 ?_
  show Go p e below _ (T1.setTop (mkF m 4 #[.val (.ref a1), .val (.ref a2), .val (.int p3)] []))
  refine Go.st (fun t k => XS.aloadN X1.here hx rfl (hb hby d7_4) rfl rfl k) ?_
  show Go p e below _ (T1.setTop (mkF m 5 #[.val (.ref a1), .val (.ref a2), .val (.int p3)] [(.ref a1)]))
  obtain ⟨T2, h2, X2, e2, E2, A2, D2, -, st2⟩ := newO X1 hx hZ hown (w37 hw) (w38 hw) (w39 hw) e1 (g := (mkF m 5 #[.val (.ref a1), .val (.ref a2), .val (.int p3)] [(.ref a1)])) rfl (hb hby d7_5) (by decide) (by decide)
  obtain ⟨b2, z2⟩ : ∃ z, z = h0.size := ⟨_, rfl⟩
  rw [← z2] at A2 D2 st2
  have g_b2 : n0 ≤ b2 := Nat.le_trans (own_n0 O0) (Nat.le_of_eq z2.symm)
  have s_b2 : h0.size ≤ b2 := Nat.le_trans (Keep.refl h0 [a1]).1 (Nat.le_of_eq z2.symm)
  have O2 : Old Z n0 h2 := O0.ext E2
  have K2 : Keep h0 h2 [a1] := (Keep.refl h0 [a1]).ext E2
  have f2_57 : Fld Z h2 b2 "java/util/AbstractList" "modCount" "I" (.int (0 : Int32)) := D2 (Or.inl (w57 hw)) (ty := .int) (by decide)
  have f2_60 : Fld Z h2 b2 "java/util/ArrayList" "elementData" "[Ljava/lang/Object;" .null := D2 (Or.inl (w60 hw)) (ty := (.array (.object "java/lang/Object"))) (by decide)
  refine Go.st st2 ?_
  show Go p e below _ (T2.setTop (mkF m 8 #[.val (.ref a1), .val (.ref a2), .val (.int p3)] [(.ref b2), (.ref a1)]))
  refine Go.st (fun t k => XS.dup X2.here hx rfl (hb hby d7_8) rfl rfl k) ?_
  show Go p e below _ (T2.setTop (mkF m 9 #[.val (.ref a1), .val (.ref a2), .val (.int p3)] [(.ref b2), (.ref b2), (.ref a1)]))
  obtain ⟨_, _, ⟨T3, L3, k3, n3⟩, -, X3, ⟨Lc3, hQ3, l3, y3, z3⟩, st3⟩ := X2.specialBack hx (y := (⟨"java/util/ArrayList", "<init>", "()V"⟩ : MethodName)) rfl hown (mvT hZ (w40 hw)) (mvT hZ (w41 hw)) (mvT hZ (w42 hw)) (by decide) (backOf (W := 2) (rm8_1 l Z a0 hw [] b2 a4 h2 n0 O2 A2 f2_57 g_b2 f2_60 P1) hZ (w42 hw) (w39 hw) (by decide) (by decide)) (g := (mkF m 9 #[.val (.ref a1), .val (.ref a2), .val (.int p3)] [(.ref b2), (.ref b2), (.ref a1)])) rfl (by rw [hml]; rfl) (Steps.refl _) (a := b2) (argsL := []) (rest := [(.ref b2), (.ref a1)]) (lenOf pd_5 rfl) rfl (by show 2 * 0 + _ ≤ _; exact Nat.le_of_eq rfl) (hb hby d7_9) (fun vm₁ hw₁ => ⟨rfl, e2, (by decide : 1 + 0 ≤ _), (by decide : 3 + 0 ≤ _)⟩)
  dsimp only [Pt.U, Pt.locs, Pt.cells, Pt.slots] at X3 l3 y3 z3 st3 hQ3
  subst l3 y3 z3
  obtain ⟨rfl, M3, K3c, r3_0, r3_1⟩ := hQ3
  have N3 := Fr.app N0 M3
  have O3 : Old Z n0 T3.heap := O2.keep K3c (allS g_b2 all0)
  have K3 : Keep h0 T3.heap [a1] := K2.trans K3c (allS (Or.inr s_b2) all0)
  refine Go.tr st3 ?_
  show Go p e below _ (T3.setTop (mkF m 12 #[.val (.ref a1), .val (.ref a2), .val (.int p3)] [(.ref b2), (.ref a1)]))
  have c4 := ((P3.ext E2).keep K3c (ninS (Nat.ne_of_lt (Nat.lt_of_lt_of_le P2.lt (Nat.le_of_eq z2.symm))) nin0))
  obtain ⟨T5, h5, X5, e5, W5, st5⟩ := putF X3 hx hZ hown (host := "") (Or.inl (w61 hw)) Via.refl rfl c4 ((P2.ext E2).keep K3c) (Or.inr ⟨(w62 hw), rfl, hnm⟩) (w2 hw) (ty := (.object "java/util/List")) (by decide) rfl rfl (g := (mkF m 12 #[.val (.ref a1), .val (.ref a2), .val (.int p3)] [(.ref b2), (.ref a1)])) rfl rfl (hb hby d7_12)
  have F5 : Fld Z h5 a1 "com/example/outbound_courier/outboundcourier/http/RequestHead" "fields" "Ljava/util/List;" (.ref b2) := c4.same W5
  have N5 := Fr.snoc X5 N3 P4
  have O5 : Old Z n0 h5 := O3.wr W5 P4
  have K5 : Keep h0 h5 [a1] := K3.wr W5 (Or.inl (List.mem_of_getElem? (i := 0) rfl))
  refine Go.st st5 ?_
  show Go p e below _ (T5.setTop (mkF m 15 #[.val (.ref a1), .val (.ref a2), .val (.int p3)] []))
  refine Go.st (fun t k => XS.aloadN X5.here hx rfl (hb hby d7_15) rfl rfl k) ?_
  show Go p e below _ (T5.setTop (mkF m 16 #[.val (.ref a1), .val (.ref a2), .val (.int p3)] [(.ref a1)]))
  refine Go.st (fun t k => X5.ldc2J hx hown (mvT hZ (w63 hw)) (g := (mkF m 16 #[.val (.ref a1), .val (.ref a2), .val (.int p3)] [(.ref a1)])) rfl (hb hby d7_16) k) ?_
  show Go p e below _ (T5.setTop (mkF m 19 #[.val (.ref a1), .val (.ref a2), .val (.int p3)] [(.long (-1 : Int64)), (.ref a1)]))
  have c6 := (((P5.ext E2).keep K3c (ninS (Nat.ne_of_lt (Nat.lt_of_lt_of_le P2.lt (Nat.le_of_eq z2.symm))) nin0)).other W5 (Or.inr (slot_ne (Or.inl (w65 hw)) (Or.inr (w62 hw)) (by decide) (t := .long) (t' := (.object "java/util/List")) (by decide) (by decide))))
  obtain ⟨T7, h7, X7, e7, W7, st7⟩ := putF X5 hx hZ hown (host := "") (Or.inl (w64 hw)) Via.refl e5 c6 (((P2.ext E2).keep K3c).wr W5) (Or.inl (w65 hw)) (w2 hw) (ty := .long) (by decide) rfl rfl (g := (mkF m 19 #[.val (.ref a1), .val (.ref a2), .val (.int p3)] [(.long (-1 : Int64)), (.ref a1)])) rfl rfl (hb hby d7_19)
  have F7 : Fld Z h7 a1 "com/example/outbound_courier/outboundcourier/http/RequestHead" "contentLength" "J" (.long (-1 : Int64)) := c6.same W7
  have N7 := Fr.snoc X7 N5 P4
  have O7 : Old Z n0 h7 := O5.wr W7 P4
  have K7 : Keep h0 h7 [a1] := K5.wr W7 (Or.inl (List.mem_of_getElem? (i := 0) rfl))
  refine Go.st st7 ?_
  show Go p e below _ (T7.setTop (mkF m 22 #[.val (.ref a1), .val (.ref a2), .val (.int p3)] []))
  refine Go.st (fun t k => XS.aloadN X7.here hx rfl (hb hby d7_22) rfl rfl k) ?_
  show Go p e below _ (T7.setTop (mkF m 23 #[.val (.ref a1), .val (.ref a2), .val (.int p3)] [(.ref a1)]))
  refine Go.st (fun t k => XS.aloadN X7.here hx rfl (hb hby d7_23) rfl rfl k) ?_
  show Go p e below _ (T7.setTop (mkF m 24 #[.val (.ref a1), .val (.ref a2), .val (.int p3)] [(.ref a2), (.ref a1)]))
  have c8 := ((((P6.ext E2).keep K3c (ninS (Nat.ne_of_lt (Nat.lt_of_lt_of_le P2.lt (Nat.le_of_eq z2.symm))) nin0)).other W5 (Or.inr (slot_ne (Or.inr (w67 hw)) (Or.inr (w62 hw)) (by decide) (t := (.object "java/lang/String")) (t' := (.object "java/util/List")) (by decide) (by decide)))).other W7 (Or.inr (slot_ne (Or.inr (w67 hw)) (Or.inl (w65 hw)) (by decide) (t := (.object "java/lang/String")) (t' := .long) (by decide) (by decide))))
  obtain ⟨T9, h9, X9, e9, W9, st9⟩ := putF X7 hx hZ hown (host := "") (Or.inl (w66 hw)) Via.refl e7 c8 ((((P2.ext E2).keep K3c).wr W5).wr W7) (Or.inr ⟨(w67 hw), rfl, hnm⟩) (w2 hw) (ty := (.object "java/lang/String")) (by decide) rfl rfl (g := (mkF m 24 #[.val (.ref a1), .val (.ref a2), .val (.int p3)] [(.ref a2), (.ref a1)])) rfl rfl (hb hby d7_24)
  have F9 : Fld Z h9 a1 "com/example/outbound_courier/outboundcourier/http/RequestHead" "method" "Ljava/lang/String;" (.ref a2) := c8.same W9
  have N9 := Fr.snoc X9 N7 P4
  have O9 : Old Z n0 h9 := O7.wr W9 P4
  have K9 : Keep h0 h9 [a1] := K7.wr W9 (Or.inl (List.mem_of_getElem? (i := 0) rfl))
  refine Go.st st9 ?_
  show Go p e below _ (T9.setTop (mkF m 27 #[.val (.ref a1), .val (.ref a2), .val (.int p3)] []))
  refine Go.st (fun t k => XS.aloadN X9.here hx rfl (hb hby d7_27) rfl rfl k) ?_
  show Go p e below _ (T9.setTop (mkF m 28 #[.val (.ref a1), .val (.ref a2), .val (.int p3)] [(.ref a1)]))
  refine Go.st (fun t k => XS.iloadN X9.here hx rfl (hb hby d7_28) rfl k) ?_
  show Go p e below _ (T9.setTop (mkF m 29 #[.val (.ref a1), .val (.ref a2), .val (.int p3)] [(.int p3), (.ref a1)]))
  have c10 := (((((P2.ext E2).keep K3c).wr W5).wr W7).wr W9)
  have c11 := (((((P7.ext E2).keep K3c (ninS (Nat.ne_of_lt (Nat.lt_of_lt_of_le P2.lt (Nat.le_of_eq z2.symm))) nin0)).other W5 (Or.inr (slot_ne (Or.inr (w69 hw)) (Or.inr (w62 hw)) (by decide) (t := .int) (t' := (.object "java/util/List")) (by decide) (by decide)))).other W7 (Or.inr (slot_ne (Or.inr (w69 hw)) (Or.inl (w65 hw)) (by decide) (t := .int) (t' := .long) (by decide) (by decide)))).other W9 (Or.inr (slot_ne (Or.inr (w69 hw)) (Or.inr (w67 hw)) (by decide) (t := .int) (t' := (.object "java/lang/String")) (by decide) (by decide))))
  obtain ⟨T12, h12, X12, e12, W12, st12⟩ := putF X9 hx hZ hown (host := "") (Or.inl (w68 hw)) Via.refl e9 c11 c10 (Or.inr ⟨(w69 hw), rfl, hnm⟩) (w2 hw) (ty := .int) (by decide) rfl rfl (g := (mkF m 29 #[.val (.ref a1), .val (.ref a2), .val (.int p3)] [(.int p3), (.ref a1)])) rfl rfl (hb hby d7_29)
  have F12 : Fld Z h12 a1 "com/example/outbound_courier/outboundcourier/http/RequestHead" "version" "I" (.int p3) := c11.same W12
  have N12 := Fr.snoc X12 N9 P4
  have O12 : Old Z n0 h12 := O9.wr W12 P4
  have K12 : Keep h0 h12 [a1] := K9.wr W12 (Or.inl (List.mem_of_getElem? (i := 0) rfl))
  refine Go.st st12 ?_
  show Go p e below _ (T12.setTop (mkF m 32 #[.val (.ref a1), .val (.ref a2), .val (.int p3)] []))
  obtain ⟨fs, hr, hrun, hended, hWd, hsame⟩ := X12.leave (v := none) (fun _ => rfl)
  have c13 := (((F5.other W7 (Or.inr (slot_ne (Or.inr (w62 hw)) (Or.inl (w65 hw)) (by decide) (t := (.object "java/util/List")) (t' := .long) (by decide) (by decide)))).other W9 (Or.inr (slot_ne (Or.inr (w62 hw)) (Or.inr (w67 hw)) (by decide) (t := (.object "java/util/List")) (t' := (.object "java/lang/String")) (by decide) (by decide)))).other W12 (Or.inr (slot_ne (Or.inr (w62 hw)) (Or.inr (w69 hw)) (by decide) (t := (.object "java/util/List")) (t' := .int) (by decide) (by decide))))
  have c14 := ((F7.other W9 (Or.inr (slot_ne (Or.inl (w65 hw)) (Or.inr (w67 hw)) (by decide) (t := .long) (t' := (.object "java/lang/String")) (by decide) (by decide)))).other W12 (Or.inr (slot_ne (Or.inl (w65 hw)) (Or.inr (w69 hw)) (by decide) (t := .long) (t' := .int) (by decide) (by decide))))
  have c15 := (F9.other W12 (Or.inr (slot_ne (Or.inr (w67 hw)) (Or.inr (w69 hw)) (by decide) (t := (.object "java/lang/String")) (t' := .int) (by decide) (by decide))))
  have c16 := ((((((P8.ext E2).keep K3c (ninS (Nat.ne_of_lt (Nat.lt_of_lt_of_le P2.lt (Nat.le_of_eq z2.symm))) nin0)).other W5 (Or.inr (slot_ne (Or.inl (w81 hw)) (Or.inr (w62 hw)) (by decide) (t := .boolean) (t' := (.object "java/util/List")) (by decide) (by decide)))).other W7 (Or.inr (slot_ne (Or.inl (w81 hw)) (Or.inl (w65 hw)) (by decide) (t := .boolean) (t' := .long) (by decide) (by decide)))).other W9 (Or.inr (slot_ne (Or.inl (w81 hw)) (Or.inr (w67 hw)) (by decide) (t := .boolean) (t' := (.object "java/lang/String")) (by decide) (by decide)))).other W12 (Or.inr (slot_ne (Or.inl (w81 hw)) (Or.inr (w69 hw)) (by decide) (t := .boolean) (t' := .int) (by decide) (by decide))))
  have c17 := ((((((P9.ext E2).keep K3c (ninS (Nat.ne_of_lt (Nat.lt_of_lt_of_le P2.lt (Nat.le_of_eq z2.symm))) nin0)).other W5 (Or.inr (slot_ne (Or.inl (w88 hw)) (Or.inr (w62 hw)) (by decide) (t := .boolean) (t' := (.object "java/util/List")) (by decide) (by decide)))).other W7 (Or.inr (slot_ne (Or.inl (w88 hw)) (Or.inl (w65 hw)) (by decide) (t := .boolean) (t' := .long) (by decide) (by decide)))).other W9 (Or.inr (slot_ne (Or.inl (w88 hw)) (Or.inr (w67 hw)) (by decide) (t := .boolean) (t' := (.object "java/lang/String")) (by decide) (by decide)))).other W12 (Or.inr (slot_ne (Or.inl (w88 hw)) (Or.inr (w69 hw)) (by decide) (t := .boolean) (t' := .int) (by decide) (by decide))))
  have c18 := ((((((P10.ext E2).keep K3c (ninS (Nat.ne_of_lt (Nat.lt_of_lt_of_le P2.lt (Nat.le_of_eq z2.symm))) nin0)).other W5 (Or.inr (slot_ne (Or.inl (w95 hw)) (Or.inr (w62 hw)) (by decide) (t := .boolean) (t' := (.object "java/util/List")) (by decide) (by decide)))).other W7 (Or.inr (slot_ne (Or.inl (w95 hw)) (Or.inl (w65 hw)) (by decide) (t := .boolean) (t' := .long) (by decide) (by decide)))).other W9 (Or.inr (slot_ne (Or.inl (w95 hw)) (Or.inr (w67 hw)) (by decide) (t := .boolean) (t' := (.object "java/lang/String")) (by decide) (by decide)))).other W12 (Or.inr (slot_ne (Or.inl (w95 hw)) (Or.inr (w69 hw)) (by decide) (t := .boolean) (t' := .int) (by decide) (by decide))))
  have c19 := (((((A2.keep K3c).wr W5).wr W7).wr W9).wr W12)
  have c20 := ((((r3_0.other W5 (Or.inl (Ne.symm (Nat.ne_of_lt (Nat.lt_of_lt_of_le P2.lt (Nat.le_of_eq z2.symm)))))).other W7 (Or.inl (Ne.symm (Nat.ne_of_lt (Nat.lt_of_lt_of_le P2.lt (Nat.le_of_eq z2.symm)))))).other W9 (Or.inl (Ne.symm (Nat.ne_of_lt (Nat.lt_of_lt_of_le P2.lt (Nat.le_of_eq z2.symm)))))).other W12 (Or.inl (Ne.symm (Nat.ne_of_lt (Nat.lt_of_lt_of_le P2.lt (Nat.le_of_eq z2.symm))))))
  have c21 := ((((r3_1.other W5 (Or.inl (Ne.symm (Nat.ne_of_lt (Nat.lt_of_lt_of_le P2.lt (Nat.le_of_eq z2.symm)))))).other W7 (Or.inl (Ne.symm (Nat.ne_of_lt (Nat.lt_of_lt_of_le P2.lt (Nat.le_of_eq z2.symm)))))).other W9 (Or.inl (Ne.symm (Nat.ne_of_lt (Nat.lt_of_lt_of_le P2.lt (Nat.le_of_eq z2.symm)))))).other W12 (Or.inl (Ne.symm (Nat.ne_of_lt (Nat.lt_of_lt_of_le P2.lt (Nat.le_of_eq z2.symm))))))
  refine ⟨_, _, ?_, hrun, hended, _, _, rfl, ?_, ⟨⟨_, rfl⟩, hWd, hsame.mono (by decide) (by decide)⟩⟩
  · exact X12.returnOut hx Bd.returns (hb hby d7_32) hr
  · show Q_rm7_1 Z a1 a2 p3 a4 h0 n0 _ T12.heap _
    rw [e12]
    exact ⟨b2, rfl, N12, K12, s_b2, c13, c14, c15, F12, c16, c17, c18, c19, c20, c21⟩
def Q_rm12_1 (Z : State) (a1 : Addr) (h0 : Heap) (n0 : Nat) (v : Option Value) (h : Heap) (L : List Loc) : Prop := v = some (.int (0 : Int32)) ∧ Fr n0 L ∧ h = h0
set_option maxRecDepth 65536 in
set_option maxHeartbeats 40000000 in
theorem rm12_1 (l : Launch) (Z : State) (a0 : Array Value) (hw : ∀ d ∈ tables_1, d.before a0 Z = true) (ws : List Jvm.Cond) (a1 : Addr) (h0 : Heap) (n0 : Nat) (O0 : Old Z n0 h0) (P1 : Fld Z h0 a1 "com/example/outbound_courier/outboundcourier/http/RequestHead" "chunked" "Z" (.int (0 : Int32))) (P2 : Fld Z h0 a1 "com/example/outbound_courier/outboundcourier/http/RequestHead" "contentLength" "J" (.long (-1 : Int64))) :
    MetFree l (⟨"com/example/outbound_courier/outboundcourier/http/RequestHead", "hasBody", "()Z"⟩ : MethodName) (head1 (Jvm.Cond.code (⟨"com/example/outbound_courier/outboundcourier/http/RequestHead", "hasBody", "()Z"⟩ : MethodName) prog_20_method_8_code 1 (some .boolean) :: ws) ({ frames := 0, cells := 0, slots := 0, locals := 0 } : Room)) (fun a U => a = #[(.ref a1)] ∧ Z.Warmed39 U.vm ∧ U.heap = h0) (fun _ _ _ _ _ => True) (fun _ U o U' => ∃ v L, o = .returned v ∧ Q_rm12_1 Z a1 h0 n0 v U'.heap L ∧ FrameEnd U o U' L ({ frames := 0, cells := 0, slots := 0, locals := 0 } : Room).cells ({ frames := 0, cells := 0, slots := 0, locals := 0 } : Room).slots) := by
  refine MetFree.of_bodySF (plainFor_of_name pn_5) hisR ?_
  intro p e s m args below meth c s₁ Bd hml0 hP hK
  obtain ⟨rfl, hZ, hh⟩ := hP
  have hx := Bd.exec
  have hby := Bd.bytes
  have hml : c.maxLocals = 1 := hml0
  have hown : s.vm.findClass "com/example/outbound_courier/outboundcourier/http/RequestHead" = some m.cls := findClass_of_methodNamed Bd.named
  have hnm := (name_of_methodNamed Bd.named Bd.method).1
  have X0 : Stand p l e ({ frames := 0, cells := 0, slots := 0, locals := 0 } : Room) s m #[(.ref a1)] below meth c s₁ [] 0 0 := Stand.of_body Bd
  have e0 : s₁.heap = h0 := by rw [← hh, Bd.state]; rfl
  have N0 := Fr.nil n0
  refine Go.start (P := (fun o U' => ∃ v L, o = .returned v ∧ Q_rm12_1 Z a1 h0 n0 v U'.heap L ∧ FrameEnd s o U' L ({ frames := 0, cells := 0, slots := 0, locals := 0 } : Room).cells ({ frames := 0, cells := 0, slots := 0, locals := 0 } : Room).slots)) (castTop (g' := (mkF m 0 #[.val (.ref a1)] [])) (by first | rfl | simp [entryFrame, mkF, argsToLocals, Value.category]) (T := s₁)) ?_
  refine Go.st (fun t k => XS.aloadN X0.here hx rfl (hb hby d12_0) rfl rfl k) ?_
  show Go p e below _ (s₁.setTop (mkF m 1 #[.val (.ref a1)] [(.ref a1)]))
  obtain ⟨T1, X1, e1, st1⟩ := getF X0 hx hZ hown (host := "") (Or.inl (w80 hw)) Via.refl e0 P1 (g := (mkF m 1 #[.val (.ref a1)] [(.ref a1)])) rfl rfl (hb hby d12_1)
  refine Go.st st1 ?_
  show Go p e below _ (T1.setTop (mkF m 4 #[.val (.ref a1)] [(.int (0 : Int32))]))
  refine Go.st (fun t k => XS.ifNo X1.here hx rfl (hb hby d12_4) rfl (Jvm.Free.XT.i0_ne_f (by decide : (0 : Int32) = (0 : Int32))) k) ?_
  show Go p e below _ (T1.setTop (mkF m 7 #[.val (.ref a1)] []))
  refine Go.st (fun t k => XS.aloadN X1.here hx rfl (hb hby d12_7) rfl rfl k) ?_
  show Go p e below _ (T1.setTop (mkF m 8 #[.val (.ref a1)] [(.ref a1)]))
  obtain ⟨T2, X2, e2, st2⟩ := getF X1 hx hZ hown (host := "") (Or.inl (w64 hw)) Via.refl e1 P2 (g := (mkF m 8 #[.val (.ref a1)] [(.ref a1)])) rfl rfl (hb hby d12_8)
  refine Go.st st2 ?_
  show Go p e below _ (T2.setTop (mkF m 11 #[.val (.ref a1)] [(.long (-1 : Int64))]))
  refine Go.st (fun t k => XS.lconst X2.here hx rfl (hb hby d12_11) k) ?_
  show Go p e below _ (T2.setTop (mkF m 12 #[.val (.ref a1)] [(.long (0 : Int64)), (.long (-1 : Int64))]))
  refine Go.st (fun t k => Jvm.Free.XT.lcmp X2.here hx rfl (hb hby d12_12) rfl k) ?_
  show Go p e below _ (T2.setTop (mkF m 13 #[.val (.ref a1)] [(.int (Jvm.Free.XT.cmpL (-1 : Int64) (0 : Int64)))]))
  refine Go.st (fun t k => XS.ifYes X2.here hx rfl (pc0 := 13) (pc' := 20) rfl (hb hby d12_13) rfl (Jvm.Free.XT.ll_le_t (by decide : ¬ ((0 : Int64) < (-1 : Int64)))) (by decide) (by decide) k) ?_
  show Go p e below _ (T2.setTop (mkF m 20 #[.val (.ref a1)] []))
  refine Go.st (fun t k => XS.iconst X2.here hx rfl (hb hby d12_20) k) ?_
  show Go p e below _ (T2.setTop (mkF m 21 #[.val (.ref a1)] [(.int (0 : Int32))]))
  obtain ⟨fs, hr, hrun, hended, hWd, hsame⟩ := X2.leave (v := some (.int (0 : Int32))) (fun h => by rw [Bd.returns] at h; cases h)
  refine ⟨_, _, ?_, hrun, hended, _, _, rfl, ?_, ⟨⟨_, rfl⟩, hWd, hsame.mono (by decide) (by decide)⟩⟩
  · exact retN X2 hx (t := .boolean) Bd.returns (by simp) (hb hby d12_21) hr
  · show Q_rm12_1 Z a1 h0 n0 _ T2.heap _
    rw [e2]
    exact ⟨rfl, N0, rfl⟩
def Q_rm14_1 (Z : State) (a1 : Addr) (a2 : Addr) (a3 : Addr) (p4 : Int32) (h0 : Heap) (n0 : Nat) (v : Option Value) (h : Heap) (L : List Loc) : Prop := v = none ∧ Fr n0 L ∧ Keep h0 h [a1] ∧ Fld Z h a1 "com/example/outbound_courier/outboundcourier/http/RequestHead" "expectsContinue" "Z" (.int (1 : Int32)) ∧ Fld Z h a1 "com/example/outbound_courier/outboundcourier/http/RequestHead" "fields" "Ljava/util/List;" (.ref a2) ∧ Fld Z h a1 "com/example/outbound_courier/outboundcourier/http/RequestHead" "contentLength" "J" (.long (-1 : Int64)) ∧ Fld Z h a1 "com/example/outbound_courier/outboundcourier/http/RequestHead" "method" "Ljava/lang/String;" (.ref a3) ∧ Fld Z h a1 "com/example/outbound_courier/outboundcourier/http/RequestHead" "version" "I" (.int p4) ∧ Fld Z h a1 "com/example/outbound_courier/outboundcourier/http/RequestHead" "chunked" "Z" (.int (0 : Int32)) ∧ Fld Z h a1 "com/example/outbound_courier/outboundcourier/http/RequestHead" "close" "Z" (.int (0 : Int32))
set_option maxRecDepth 65536 in
set_option maxHeartbeats 40000000 in
theorem rm14_1 (l : Launch) (Z : State) (a0 : Array Value) (hw : ∀ d ∈ tables_1, d.before a0 Z = true) (ws : List Jvm.Cond) (a1 : Addr) (a2 : Addr) (a3 : Addr) (p4 : Int32) (h0 : Heap) (n0 : Nat) (O0 : Old Z n0 h0) (P1 : Exa Z h0 a1 "com/example/outbound_courier/outboundcourier/http/RequestHead") (P2 : Fld Z h0 a1 "com/example/outbound_courier/outboundcourier/http/RequestHead" "expectsContinue" "Z" (.int (0 : Int32))) (P3 : n0 ≤ a1) (P4 : Fld Z h0 a1 "com/example/outbound_courier/outboundcourier/http/RequestHead" "fields" "Ljava/util/List;" (.ref a2)) (P5 : Fld Z h0 a1 "com/example/outbound_courier/outboundcourier/http/RequestHead" "contentLength" "J" (.long (-1 : Int64))) (P6 : Fld Z h0 a1 "com/example/outbound_courier/outboundcourier/http/RequestHead" "method" "Ljava/lang/String;" (.ref a3)) (P7 : Fld Z h0 a1 "com/example/outbound_courier/outboundcourier/http/RequestHead" "version" "I" (.int p4)) (P8 : Fld Z h0 a1 "com/example/outbound_courier/outboundcourier/http/RequestHead" "chunked" "Z" (.int (0 : Int32))) (P9 : Fld Z h0 a1 "com/example/outbound_courier/outboundcourier/http/RequestHead" "close" "Z" (.int (0 : Int32))) :
    MetFree l (⟨"com/example/outbound_courier/outboundcourier/http/RequestHead", "setExpectsContinue", "()V"⟩ : MethodName) (head1 (Jvm.Cond.code (⟨"com/example/outbound_courier/outboundcourier/http/RequestHead", "setExpectsContinue", "()V"⟩ : MethodName) prog_20_method_18_code 1 none :: ws) ({ frames := 0, cells := 0, slots := 0, locals := 0 } : Room)) (fun a U => a = #[(.ref a1)] ∧ Z.Warmed39 U.vm ∧ U.heap = h0) (fun _ _ _ _ _ => True) (fun _ U o U' => ∃ v L, o = .returned v ∧ Q_rm14_1 Z a1 a2 a3 p4 h0 n0 v U'.heap L ∧ FrameEnd U o U' L ({ frames := 0, cells := 0, slots := 0, locals := 0 } : Room).cells ({ frames := 0, cells := 0, slots := 0, locals := 0 } : Room).slots) := by
  refine MetFree.of_bodySF (plainFor_of_name pn_5) hisR ?_
  intro p e s m args below meth c s₁ Bd hml0 hP hK
  obtain ⟨rfl, hZ, hh⟩ := hP
  have hx := Bd.exec
  have hby := Bd.bytes
  have hml : c.maxLocals = 1 := hml0
  have hown : s.vm.findClass "com/example/outbound_courier/outboundcourier/http/RequestHead" = some m.cls := findClass_of_methodNamed Bd.named
  have hnm := (name_of_methodNamed Bd.named Bd.method).1
  have X0 : Stand p l e ({ frames := 0, cells := 0, slots := 0, locals := 0 } : Room) s m #[(.ref a1)] below meth c s₁ [] 0 0 := Stand.of_body Bd
  have e0 : s₁.heap = h0 := by rw [← hh, Bd.state]; rfl
  have N0 := Fr.nil n0
  refine Go.start (P := (fun o U' => ∃ v L, o = .returned v ∧ Q_rm14_1 Z a1 a2 a3 p4 h0 n0 v U'.heap L ∧ FrameEnd s o U' L ({ frames := 0, cells := 0, slots := 0, locals := 0 } : Room).cells ({ frames := 0, cells := 0, slots := 0, locals := 0 } : Room).slots)) (castTop (g' := (mkF m 0 #[.val (.ref a1)] [])) (by first | rfl | simp [entryFrame, mkF, argsToLocals, Value.category]) (T := s₁)) ?_
  refine Go.st (fun t k => XS.aloadN X0.here hx rfl (hb hby d14_0) rfl rfl k) ?_
  show Go p e below _ (s₁.setTop (mkF m 1 #[.val (.ref a1)] [(.ref a1)]))
  refine Go.st (fun t k => XS.iconst X0.here hx rfl (hb hby d14_1) k) ?_
  show Go p e below _ (s₁.setTop (mkF m 2 #[.val (.ref a1)] [(.int (1 : Int32)), (.ref a1)]))
  obtain ⟨T1, h1, X1, e1, W1, st1⟩ := putFN X0 hx hZ hown (w94 hw) Via.refl e0 P2 P1 (Or.inl (w95 hw)) (w2 hw) (ty := .boolean) (v' := (.int (1 : Int32))) (by decide) rfl (by decide) (g := (mkF m 2 #[.val (.ref a1)] [(.int (1 : Int32)), (.ref a1)])) rfl rfl (hb hby d14_2)
  have F1 : Fld Z h1 a1 "com/example/outbound_courier/outboundcourier/http/RequestHead" "expectsContinue" "Z" (.int (1 : Int32)) := P2.same W1
  have N1 := Fr.snoc X1 N0 P3
  have O1 : Old Z n0 h1 := O0.wr W1 P3
  have K1 : Keep h0 h1 [a1] := (Keep.refl h0 [a1]).wr W1 (Or.inl (List.mem_of_getElem? (i := 0) rfl))
  refine Go.st st1 ?_
  show Go p e below _ (T1.setTop (mkF m 5 #[.val (.ref a1)] []))
  obtain ⟨fs, hr, hrun, hended, hWd, hsame⟩ := X1.leave (v := none) (fun _ => rfl)
  have c2 := (P4.other W1 (Or.inr (slot_ne (Or.inr (w62 hw)) (Or.inl (w95 hw)) (by decide) (t := (.object "java/util/List")) (t' := .boolean) (by decide) (by decide))))
  have c3 := (P5.other W1 (Or.inr (slot_ne (Or.inl (w65 hw)) (Or.inl (w95 hw)) (by decide) (t := .long) (t' := .boolean) (by decide) (by decide))))
  have c4 := (P6.other W1 (Or.inr (slot_ne (Or.inr (w67 hw)) (Or.inl (w95 hw)) (by decide) (t := (.object "java/lang/String")) (t' := .boolean) (by decide) (by decide))))
  have c5 := (P7.other W1 (Or.inr (slot_ne (Or.inr (w69 hw)) (Or.inl (w95 hw)) (by decide) (t := .int) (t' := .boolean) (by decide) (by decide))))
  have c6 := (P8.other W1 (Or.inr (slot_ne (Or.inl (w81 hw)) (Or.inl (w95 hw)) (by decide) (t := .boolean) (t' := .boolean) (by decide) (by decide))))
  have c7 := (P9.other W1 (Or.inr (slot_ne (Or.inl (w88 hw)) (Or.inl (w95 hw)) (by decide) (t := .boolean) (t' := .boolean) (by decide) (by decide))))
  refine ⟨_, _, ?_, hrun, hended, _, _, rfl, ?_, ⟨⟨_, rfl⟩, hWd, hsame.mono (by decide) (by decide)⟩⟩
  · exact X1.returnOut hx Bd.returns (hb hby d14_5) hr
  · show Q_rm14_1 Z a1 a2 a3 p4 h0 n0 _ T1.heap _
    rw [e1]
    exact ⟨rfl, N1, K1, F1, c2, c3, c4, c5, c6, c7⟩
def Q_rm13_1 (Z : State) (a1 : Addr) (a2 : Addr) (a3 : Addr) (p4 : Int32) (h0 : Heap) (n0 : Nat) (v : Option Value) (h : Heap) (L : List Loc) : Prop := v = none ∧ Fr n0 L ∧ Keep h0 h [a1] ∧ Fld Z h a1 "com/example/outbound_courier/outboundcourier/http/RequestHead" "close" "Z" (.int (1 : Int32)) ∧ Fld Z h a1 "com/example/outbound_courier/outboundcourier/http/RequestHead" "fields" "Ljava/util/List;" (.ref a2) ∧ Fld Z h a1 "com/example/outbound_courier/outboundcourier/http/RequestHead" "contentLength" "J" (.long (-1 : Int64)) ∧ Fld Z h a1 "com/example/outbound_courier/outboundcourier/http/RequestHead" "method" "Ljava/lang/String;" (.ref a3) ∧ Fld Z h a1 "com/example/outbound_courier/outboundcourier/http/RequestHead" "version" "I" (.int p4) ∧ Fld Z h a1 "com/example/outbound_courier/outboundcourier/http/RequestHead" "chunked" "Z" (.int (0 : Int32)) ∧ Fld Z h a1 "com/example/outbound_courier/outboundcourier/http/RequestHead" "expectsContinue" "Z" (.int (0 : Int32))
set_option maxRecDepth 65536 in
set_option maxHeartbeats 40000000 in
theorem rm13_1 (l : Launch) (Z : State) (a0 : Array Value) (hw : ∀ d ∈ tables_1, d.before a0 Z = true) (ws : List Jvm.Cond) (a1 : Addr) (a2 : Addr) (a3 : Addr) (p4 : Int32) (h0 : Heap) (n0 : Nat) (O0 : Old Z n0 h0) (P1 : Exa Z h0 a1 "com/example/outbound_courier/outboundcourier/http/RequestHead") (P2 : Fld Z h0 a1 "com/example/outbound_courier/outboundcourier/http/RequestHead" "close" "Z" (.int (0 : Int32))) (P3 : n0 ≤ a1) (P4 : Fld Z h0 a1 "com/example/outbound_courier/outboundcourier/http/RequestHead" "fields" "Ljava/util/List;" (.ref a2)) (P5 : Fld Z h0 a1 "com/example/outbound_courier/outboundcourier/http/RequestHead" "contentLength" "J" (.long (-1 : Int64))) (P6 : Fld Z h0 a1 "com/example/outbound_courier/outboundcourier/http/RequestHead" "method" "Ljava/lang/String;" (.ref a3)) (P7 : Fld Z h0 a1 "com/example/outbound_courier/outboundcourier/http/RequestHead" "version" "I" (.int p4)) (P8 : Fld Z h0 a1 "com/example/outbound_courier/outboundcourier/http/RequestHead" "chunked" "Z" (.int (0 : Int32))) (P9 : Fld Z h0 a1 "com/example/outbound_courier/outboundcourier/http/RequestHead" "expectsContinue" "Z" (.int (0 : Int32))) :
    MetFree l (⟨"com/example/outbound_courier/outboundcourier/http/RequestHead", "setClose", "()V"⟩ : MethodName) (head1 (Jvm.Cond.code (⟨"com/example/outbound_courier/outboundcourier/http/RequestHead", "setClose", "()V"⟩ : MethodName) prog_20_method_17_code 1 none :: ws) ({ frames := 0, cells := 0, slots := 0, locals := 0 } : Room)) (fun a U => a = #[(.ref a1)] ∧ Z.Warmed39 U.vm ∧ U.heap = h0) (fun _ _ _ _ _ => True) (fun _ U o U' => ∃ v L, o = .returned v ∧ Q_rm13_1 Z a1 a2 a3 p4 h0 n0 v U'.heap L ∧ FrameEnd U o U' L ({ frames := 0, cells := 0, slots := 0, locals := 0 } : Room).cells ({ frames := 0, cells := 0, slots := 0, locals := 0 } : Room).slots) := by
  refine MetFree.of_bodySF (plainFor_of_name pn_5) hisR ?_
  intro p e s m args below meth c s₁ Bd hml0 hP hK
  obtain ⟨rfl, hZ, hh⟩ := hP
  have hx := Bd.exec
  have hby := Bd.bytes
  have hml : c.maxLocals = 1 := hml0
  have hown : s.vm.findClass "com/example/outbound_courier/outboundcourier/http/RequestHead" = some m.cls := findClass_of_methodNamed Bd.named
  have hnm := (name_of_methodNamed Bd.named Bd.method).1
  have X0 : Stand p l e ({ frames := 0, cells := 0, slots := 0, locals := 0 } : Room) s m #[(.ref a1)] below meth c s₁ [] 0 0 := Stand.of_body Bd
  have e0 : s₁.heap = h0 := by rw [← hh, Bd.state]; rfl
  have N0 := Fr.nil n0
  refine Go.start (P := (fun o U' => ∃ v L, o = .returned v ∧ Q_rm13_1 Z a1 a2 a3 p4 h0 n0 v U'.heap L ∧ FrameEnd s o U' L ({ frames := 0, cells := 0, slots := 0, locals := 0 } : Room).cells ({ frames := 0, cells := 0, slots := 0, locals := 0 } : Room).slots)) (castTop (g' := (mkF m 0 #[.val (.ref a1)] [])) (by first | rfl | simp [entryFrame, mkF, argsToLocals, Value.category]) (T := s₁)) ?_
  refine Go.st (fun t k => XS.aloadN X0.here hx rfl (hb hby d13_0) rfl rfl k) ?_
  show Go p e below _ (s₁.setTop (mkF m 1 #[.val (.ref a1)] [(.ref a1)]))
  refine Go.st (fun t k => XS.iconst X0.here hx rfl (hb hby d13_1) k) ?_
  show Go p e below _ (s₁.setTop (mkF m 2 #[.val (.ref a1)] [(.int (1 : Int32)), (.ref a1)]))
  obtain ⟨T1, h1, X1, e1, W1, st1⟩ := putFN X0 hx hZ hown (w87 hw) Via.refl e0 P2 P1 (Or.inl (w88 hw)) (w2 hw) (ty := .boolean) (v' := (.int (1 : Int32))) (by decide) rfl (by decide) (g := (mkF m 2 #[.val (.ref a1)] [(.int (1 : Int32)), (.ref a1)])) rfl rfl (hb hby d13_2)
  have F1 : Fld Z h1 a1 "com/example/outbound_courier/outboundcourier/http/RequestHead" "close" "Z" (.int (1 : Int32)) := P2.same W1
  have N1 := Fr.snoc X1 N0 P3
  have O1 : Old Z n0 h1 := O0.wr W1 P3
  have K1 : Keep h0 h1 [a1] := (Keep.refl h0 [a1]).wr W1 (Or.inl (List.mem_of_getElem? (i := 0) rfl))
  refine Go.st st1 ?_
  show Go p e below _ (T1.setTop (mkF m 5 #[.val (.ref a1)] []))
  obtain ⟨fs, hr, hrun, hended, hWd, hsame⟩ := X1.leave (v := none) (fun _ => rfl)
  have c2 := (P4.other W1 (Or.inr (slot_ne (Or.inr (w62 hw)) (Or.inl (w88 hw)) (by decide) (t := (.object "java/util/List")) (t' := .boolean) (by decide) (by decide))))
  have c3 := (P5.other W1 (Or.inr (slot_ne (Or.inl (w65 hw)) (Or.inl (w88 hw)) (by decide) (t := .long) (t' := .boolean) (by decide) (by decide))))
  have c4 := (P6.other W1 (Or.inr (slot_ne (Or.inr (w67 hw)) (Or.inl (w88 hw)) (by decide) (t := (.object "java/lang/String")) (t' := .boolean) (by decide) (by decide))))
  have c5 := (P7.other W1 (Or.inr (slot_ne (Or.inr (w69 hw)) (Or.inl (w88 hw)) (by decide) (t := .int) (t' := .boolean) (by decide) (by decide))))
  have c6 := (P8.other W1 (Or.inr (slot_ne (Or.inl (w81 hw)) (Or.inl (w88 hw)) (by decide) (t := .boolean) (t' := .boolean) (by decide) (by decide))))
  have c7 := (P9.other W1 (Or.inr (slot_ne (Or.inl (w95 hw)) (Or.inl (w88 hw)) (by decide) (t := .boolean) (t' := .boolean) (by decide) (by decide))))
  refine ⟨_, _, ?_, hrun, hended, _, _, rfl, ?_, ⟨⟨_, rfl⟩, hWd, hsame.mono (by decide) (by decide)⟩⟩
  · exact X1.returnOut hx Bd.returns (hb hby d13_5) hr
  · show Q_rm13_1 Z a1 a2 a3 p4 h0 n0 _ T1.heap _
    rw [e1]
    exact ⟨rfl, N1, K1, F1, c2, c3, c4, c5, c6, c7⟩
def Q_rm14_2 (Z : State) (a1 : Addr) (a2 : Addr) (a3 : Addr) (p4 : Int32) (h0 : Heap) (n0 : Nat) (v : Option Value) (h : Heap) (L : List Loc) : Prop := v = none ∧ Fr n0 L ∧ Keep h0 h [a1] ∧ Fld Z h a1 "com/example/outbound_courier/outboundcourier/http/RequestHead" "expectsContinue" "Z" (.int (1 : Int32)) ∧ Fld Z h a1 "com/example/outbound_courier/outboundcourier/http/RequestHead" "fields" "Ljava/util/List;" (.ref a2) ∧ Fld Z h a1 "com/example/outbound_courier/outboundcourier/http/RequestHead" "contentLength" "J" (.long (-1 : Int64)) ∧ Fld Z h a1 "com/example/outbound_courier/outboundcourier/http/RequestHead" "method" "Ljava/lang/String;" (.ref a3) ∧ Fld Z h a1 "com/example/outbound_courier/outboundcourier/http/RequestHead" "version" "I" (.int p4) ∧ Fld Z h a1 "com/example/outbound_courier/outboundcourier/http/RequestHead" "chunked" "Z" (.int (0 : Int32)) ∧ Fld Z h a1 "com/example/outbound_courier/outboundcourier/http/RequestHead" "close" "Z" (.int (1 : Int32))
set_option maxRecDepth 65536 in
set_option maxHeartbeats 40000000 in
theorem rm14_2 (l : Launch) (Z : State) (a0 : Array Value) (hw : ∀ d ∈ tables_1, d.before a0 Z = true) (ws : List Jvm.Cond) (a1 : Addr) (a2 : Addr) (a3 : Addr) (p4 : Int32) (h0 : Heap) (n0 : Nat) (O0 : Old Z n0 h0) (P1 : Exa Z h0 a1 "com/example/outbound_courier/outboundcourier/http/RequestHead") (P2 : Fld Z h0 a1 "com/example/outbound_courier/outboundcourier/http/RequestHead" "expectsContinue" "Z" (.int (0 : Int32))) (P3 : n0 ≤ a1) (P4 : Fld Z h0 a1 "com/example/outbound_courier/outboundcourier/http/RequestHead" "fields" "Ljava/util/List;" (.ref a2)) (P5 : Fld Z h0 a1 "com/example/outbound_courier/outboundcourier/http/RequestHead" "contentLength" "J" (.long (-1 : Int64))) (P6 : Fld Z h0 a1 "com/example/outbound_courier/outboundcourier/http/RequestHead" "method" "Ljava/lang/String;" (.ref a3)) (P7 : Fld Z h0 a1 "com/example/outbound_courier/outboundcourier/http/RequestHead" "version" "I" (.int p4)) (P8 : Fld Z h0 a1 "com/example/outbound_courier/outboundcourier/http/RequestHead" "chunked" "Z" (.int (0 : Int32))) (P9 : Fld Z h0 a1 "com/example/outbound_courier/outboundcourier/http/RequestHead" "close" "Z" (.int (1 : Int32))) :
    MetFree l (⟨"com/example/outbound_courier/outboundcourier/http/RequestHead", "setExpectsContinue", "()V"⟩ : MethodName) (head1 (Jvm.Cond.code (⟨"com/example/outbound_courier/outboundcourier/http/RequestHead", "setExpectsContinue", "()V"⟩ : MethodName) prog_20_method_18_code 1 none :: ws) ({ frames := 0, cells := 0, slots := 0, locals := 0 } : Room)) (fun a U => a = #[(.ref a1)] ∧ Z.Warmed39 U.vm ∧ U.heap = h0) (fun _ _ _ _ _ => True) (fun _ U o U' => ∃ v L, o = .returned v ∧ Q_rm14_2 Z a1 a2 a3 p4 h0 n0 v U'.heap L ∧ FrameEnd U o U' L ({ frames := 0, cells := 0, slots := 0, locals := 0 } : Room).cells ({ frames := 0, cells := 0, slots := 0, locals := 0 } : Room).slots) := by
  refine MetFree.of_bodySF (plainFor_of_name pn_5) hisR ?_
  intro p e s m args below meth c s₁ Bd hml0 hP hK
  obtain ⟨rfl, hZ, hh⟩ := hP
  have hx := Bd.exec
  have hby := Bd.bytes
  have hml : c.maxLocals = 1 := hml0
  have hown : s.vm.findClass "com/example/outbound_courier/outboundcourier/http/RequestHead" = some m.cls := findClass_of_methodNamed Bd.named
  have hnm := (name_of_methodNamed Bd.named Bd.method).1
  have X0 : Stand p l e ({ frames := 0, cells := 0, slots := 0, locals := 0 } : Room) s m #[(.ref a1)] below meth c s₁ [] 0 0 := Stand.of_body Bd
  have e0 : s₁.heap = h0 := by rw [← hh, Bd.state]; rfl
  have N0 := Fr.nil n0
  refine Go.start (P := (fun o U' => ∃ v L, o = .returned v ∧ Q_rm14_2 Z a1 a2 a3 p4 h0 n0 v U'.heap L ∧ FrameEnd s o U' L ({ frames := 0, cells := 0, slots := 0, locals := 0 } : Room).cells ({ frames := 0, cells := 0, slots := 0, locals := 0 } : Room).slots)) (castTop (g' := (mkF m 0 #[.val (.ref a1)] [])) (by first | rfl | simp [entryFrame, mkF, argsToLocals, Value.category]) (T := s₁)) ?_
  refine Go.st (fun t k => XS.aloadN X0.here hx rfl (hb hby d14_0) rfl rfl k) ?_
  show Go p e below _ (s₁.setTop (mkF m 1 #[.val (.ref a1)] [(.ref a1)]))
  refine Go.st (fun t k => XS.iconst X0.here hx rfl (hb hby d14_1) k) ?_
  show Go p e below _ (s₁.setTop (mkF m 2 #[.val (.ref a1)] [(.int (1 : Int32)), (.ref a1)]))
  obtain ⟨T1, h1, X1, e1, W1, st1⟩ := putFN X0 hx hZ hown (w94 hw) Via.refl e0 P2 P1 (Or.inl (w95 hw)) (w2 hw) (ty := .boolean) (v' := (.int (1 : Int32))) (by decide) rfl (by decide) (g := (mkF m 2 #[.val (.ref a1)] [(.int (1 : Int32)), (.ref a1)])) rfl rfl (hb hby d14_2)
  have F1 : Fld Z h1 a1 "com/example/outbound_courier/outboundcourier/http/RequestHead" "expectsContinue" "Z" (.int (1 : Int32)) := P2.same W1
  have N1 := Fr.snoc X1 N0 P3
  have O1 : Old Z n0 h1 := O0.wr W1 P3
  have K1 : Keep h0 h1 [a1] := (Keep.refl h0 [a1]).wr W1 (Or.inl (List.mem_of_getElem? (i := 0) rfl))
  refine Go.st st1 ?_
  show Go p e below _ (T1.setTop (mkF m 5 #[.val (.ref a1)] []))
  obtain ⟨fs, hr, hrun, hended, hWd, hsame⟩ := X1.leave (v := none) (fun _ => rfl)
  have c2 := (P4.other W1 (Or.inr (slot_ne (Or.inr (w62 hw)) (Or.inl (w95 hw)) (by decide) (t := (.object "java/util/List")) (t' := .boolean) (by decide) (by decide))))
  have c3 := (P5.other W1 (Or.inr (slot_ne (Or.inl (w65 hw)) (Or.inl (w95 hw)) (by decide) (t := .long) (t' := .boolean) (by decide) (by decide))))
  have c4 := (P6.other W1 (Or.inr (slot_ne (Or.inr (w67 hw)) (Or.inl (w95 hw)) (by decide) (t := (.object "java/lang/String")) (t' := .boolean) (by decide) (by decide))))
  have c5 := (P7.other W1 (Or.inr (slot_ne (Or.inr (w69 hw)) (Or.inl (w95 hw)) (by decide) (t := .int) (t' := .boolean) (by decide) (by decide))))
  have c6 := (P8.other W1 (Or.inr (slot_ne (Or.inl (w81 hw)) (Or.inl (w95 hw)) (by decide) (t := .boolean) (t' := .boolean) (by decide) (by decide))))
  have c7 := (P9.other W1 (Or.inr (slot_ne (Or.inl (w88 hw)) (Or.inl (w95 hw)) (by decide) (t := .boolean) (t' := .boolean) (by decide) (by decide))))
  refine ⟨_, _, ?_, hrun, hended, _, _, rfl, ?_, ⟨⟨_, rfl⟩, hWd, hsame.mono (by decide) (by decide)⟩⟩
  · exact X1.returnOut hx Bd.returns (hb hby d14_5) hr
  · show Q_rm14_2 Z a1 a2 a3 p4 h0 n0 _ T1.heap _
    rw [e1]
    exact ⟨rfl, N1, K1, F1, c2, c3, c4, c5, c6, c7⟩
def Q_rm11_1 (Z : State) (a1 : Addr) (q2 : Int64) (a3 : Addr) (a4 : Addr) (p5 : Int32) (h0 : Heap) (n0 : Nat) (v : Option Value) (h : Heap) (L : List Loc) : Prop := v = none ∧ Fr n0 L ∧ Keep h0 h [a1] ∧ Fld Z h a1 "com/example/outbound_courier/outboundcourier/http/RequestHead" "contentLength" "J" (.long q2) ∧ Fld Z h a1 "com/example/outbound_courier/outboundcourier/http/RequestHead" "fields" "Ljava/util/List;" (.ref a3) ∧ Fld Z h a1 "com/example/outbound_courier/outboundcourier/http/RequestHead" "method" "Ljava/lang/String;" (.ref a4) ∧ Fld Z h a1 "com/example/outbound_courier/outboundcourier/http/RequestHead" "version" "I" (.int p5) ∧ Fld Z h a1 "com/example/outbound_courier/outboundcourier/http/RequestHead" "chunked" "Z" (.int (0 : Int32)) ∧ Fld Z h a1 "com/example/outbound_courier/outboundcourier/http/RequestHead" "close" "Z" (.int (0 : Int32)) ∧ Fld Z h a1 "com/example/outbound_courier/outboundcourier/http/RequestHead" "expectsContinue" "Z" (.int (0 : Int32))
set_option maxRecDepth 65536 in
set_option maxHeartbeats 40000000 in
theorem rm11_1 (l : Launch) (Z : State) (a0 : Array Value) (hw : ∀ d ∈ tables_1, d.before a0 Z = true) (ws : List Jvm.Cond) (a1 : Addr) (q2 : Int64) (a3 : Addr) (a4 : Addr) (p5 : Int32) (h0 : Heap) (n0 : Nat) (O0 : Old Z n0 h0) (P1 : Exa Z h0 a1 "com/example/outbound_courier/outboundcourier/http/RequestHead") (P2 : Fld Z h0 a1 "com/example/outbound_courier/outboundcourier/http/RequestHead" "contentLength" "J" (.long (-1 : Int64))) (P3 : n0 ≤ a1) (P4 : Fld Z h0 a1 "com/example/outbound_courier/outboundcourier/http/RequestHead" "fields" "Ljava/util/List;" (.ref a3)) (P5 : Fld Z h0 a1 "com/example/outbound_courier/outboundcourier/http/RequestHead" "method" "Ljava/lang/String;" (.ref a4)) (P6 : Fld Z h0 a1 "com/example/outbound_courier/outboundcourier/http/RequestHead" "version" "I" (.int p5)) (P7 : Fld Z h0 a1 "com/example/outbound_courier/outboundcourier/http/RequestHead" "chunked" "Z" (.int (0 : Int32))) (P8 : Fld Z h0 a1 "com/example/outbound_courier/outboundcourier/http/RequestHead" "close" "Z" (.int (0 : Int32))) (P9 : Fld Z h0 a1 "com/example/outbound_courier/outboundcourier/http/RequestHead" "expectsContinue" "Z" (.int (0 : Int32))) :
    MetFree l (⟨"com/example/outbound_courier/outboundcourier/http/RequestHead", "setContentLength", "(J)V"⟩ : MethodName) (head1 (Jvm.Cond.code (⟨"com/example/outbound_courier/outboundcourier/http/RequestHead", "setContentLength", "(J)V"⟩ : MethodName) prog_20_method_15_code 3 none :: ws) ({ frames := 0, cells := 0, slots := 0, locals := 0 } : Room)) (fun a U => a = #[(.ref a1), (.long q2)] ∧ Z.Warmed39 U.vm ∧ U.heap = h0) (fun _ _ _ _ _ => True) (fun _ U o U' => ∃ v L, o = .returned v ∧ Q_rm11_1 Z a1 q2 a3 a4 p5 h0 n0 v U'.heap L ∧ FrameEnd U o U' L ({ frames := 0, cells := 0, slots := 0, locals := 0 } : Room).cells ({ frames := 0, cells := 0, slots := 0, locals := 0 } : Room).slots) := by
  refine MetFree.of_bodySF (plainFor_of_name pn_5) hisR ?_
  intro p e s m args below meth c s₁ Bd hml0 hP hK
  obtain ⟨rfl, hZ, hh⟩ := hP
  have hx := Bd.exec
  have hby := Bd.bytes
  have hml : c.maxLocals = 3 := hml0
  have hown : s.vm.findClass "com/example/outbound_courier/outboundcourier/http/RequestHead" = some m.cls := findClass_of_methodNamed Bd.named
  have hnm := (name_of_methodNamed Bd.named Bd.method).1
  have X0 : Stand p l e ({ frames := 0, cells := 0, slots := 0, locals := 0 } : Room) s m #[(.ref a1), (.long q2)] below meth c s₁ [] 0 0 := Stand.of_body Bd
  have e0 : s₁.heap = h0 := by rw [← hh, Bd.state]; rfl
  have N0 := Fr.nil n0
  refine Go.start (P := (fun o U' => ∃ v L, o = .returned v ∧ Q_rm11_1 Z a1 q2 a3 a4 p5 h0 n0 v U'.heap L ∧ FrameEnd s o U' L ({ frames := 0, cells := 0, slots := 0, locals := 0 } : Room).cells ({ frames := 0, cells := 0, slots := 0, locals := 0 } : Room).slots)) (castTop (g' := (mkF m 0 #[.val (.ref a1), .val (.long q2), .second] [])) (by first | rfl | simp [entryFrame, mkF, argsToLocals, Value.category]) (T := s₁)) ?_
  refine Go.st (fun t k => XS.aloadN X0.here hx rfl (hb hby d11_0) rfl rfl k) ?_
  show Go p e below _ (s₁.setTop (mkF m 1 #[.val (.ref a1), .val (.long q2), .second] [(.ref a1)]))
  refine Go.st (fun t k => XS.lloadN X0.here hx rfl (hb hby d11_1) rfl k) ?_
  show Go p e below _ (s₁.setTop (mkF m 2 #[.val (.ref a1), .val (.long q2), .second] [(.long q2), (.ref a1)]))
  obtain ⟨T1, h1, X1, e1, W1, st1⟩ := putF X0 hx hZ hown (host := "") (Or.inl (w64 hw)) Via.refl e0 P2 P1 (Or.inl (w65 hw)) (w2 hw) (ty := .long) (by decide) rfl rfl (g := (mkF m 2 #[.val (.ref a1), .val (.long q2), .second] [(.long q2), (.ref a1)])) rfl rfl (hb hby d11_2)
  have F1 : Fld Z h1 a1 "com/example/outbound_courier/outboundcourier/http/RequestHead" "contentLength" "J" (.long q2) := P2.same W1
  have N1 := Fr.snoc X1 N0 P3
  have O1 : Old Z n0 h1 := O0.wr W1 P3
  have K1 : Keep h0 h1 [a1] := (Keep.refl h0 [a1]).wr W1 (Or.inl (List.mem_of_getElem? (i := 0) rfl))
  refine Go.st st1 ?_
  show Go p e below _ (T1.setTop (mkF m 5 #[.val (.ref a1), .val (.long q2), .second] []))
  obtain ⟨fs, hr, hrun, hended, hWd, hsame⟩ := X1.leave (v := none) (fun _ => rfl)
  have c2 := (P4.other W1 (Or.inr (slot_ne (Or.inr (w62 hw)) (Or.inl (w65 hw)) (by decide) (t := (.object "java/util/List")) (t' := .long) (by decide) (by decide))))
  have c3 := (P5.other W1 (Or.inr (slot_ne (Or.inr (w67 hw)) (Or.inl (w65 hw)) (by decide) (t := (.object "java/lang/String")) (t' := .long) (by decide) (by decide))))
  have c4 := (P6.other W1 (Or.inr (slot_ne (Or.inr (w69 hw)) (Or.inl (w65 hw)) (by decide) (t := .int) (t' := .long) (by decide) (by decide))))
  have c5 := (P7.other W1 (Or.inr (slot_ne (Or.inl (w81 hw)) (Or.inl (w65 hw)) (by decide) (t := .boolean) (t' := .long) (by decide) (by decide))))
  have c6 := (P8.other W1 (Or.inr (slot_ne (Or.inl (w88 hw)) (Or.inl (w65 hw)) (by decide) (t := .boolean) (t' := .long) (by decide) (by decide))))
  have c7 := (P9.other W1 (Or.inr (slot_ne (Or.inl (w95 hw)) (Or.inl (w65 hw)) (by decide) (t := .boolean) (t' := .long) (by decide) (by decide))))
  refine ⟨_, _, ?_, hrun, hended, _, _, rfl, ?_, ⟨⟨_, rfl⟩, hWd, hsame.mono (by decide) (by decide)⟩⟩
  · exact X1.returnOut hx Bd.returns (hb hby d11_5) hr
  · show Q_rm11_1 Z a1 q2 a3 a4 p5 h0 n0 _ T1.heap _
    rw [e1]
    exact ⟨rfl, N1, K1, F1, c2, c3, c4, c5, c6, c7⟩
def Q_rm12_2 (Z : State) (a1 : Addr) (q2 : Int64) (h0 : Heap) (n0 : Nat) (v : Option Value) (h : Heap) (L : List Loc) : Prop := v = some (.int (0 : Int32)) ∧ Fr n0 L ∧ h = h0
set_option maxRecDepth 65536 in
set_option maxHeartbeats 40000000 in
theorem rm12_2 (l : Launch) (Z : State) (a0 : Array Value) (hw : ∀ d ∈ tables_1, d.before a0 Z = true) (ws : List Jvm.Cond) (a1 : Addr) (q2 : Int64) (h0 : Heap) (n0 : Nat) (O0 : Old Z n0 h0) (P1 : Fld Z h0 a1 "com/example/outbound_courier/outboundcourier/http/RequestHead" "chunked" "Z" (.int (0 : Int32))) (P2 : Fld Z h0 a1 "com/example/outbound_courier/outboundcourier/http/RequestHead" "contentLength" "J" (.long q2)) (P3 : ¬ ((0 : Int64) < q2)) :
    MetFree l (⟨"com/example/outbound_courier/outboundcourier/http/RequestHead", "hasBody", "()Z"⟩ : MethodName) (head1 (Jvm.Cond.code (⟨"com/example/outbound_courier/outboundcourier/http/RequestHead", "hasBody", "()Z"⟩ : MethodName) prog_20_method_8_code 1 (some .boolean) :: ws) ({ frames := 0, cells := 0, slots := 0, locals := 0 } : Room)) (fun a U => a = #[(.ref a1)] ∧ Z.Warmed39 U.vm ∧ U.heap = h0) (fun _ _ _ _ _ => True) (fun _ U o U' => ∃ v L, o = .returned v ∧ Q_rm12_2 Z a1 q2 h0 n0 v U'.heap L ∧ FrameEnd U o U' L ({ frames := 0, cells := 0, slots := 0, locals := 0 } : Room).cells ({ frames := 0, cells := 0, slots := 0, locals := 0 } : Room).slots) := by
  refine MetFree.of_bodySF (plainFor_of_name pn_5) hisR ?_
  intro p e s m args below meth c s₁ Bd hml0 hP hK
  obtain ⟨rfl, hZ, hh⟩ := hP
  have hx := Bd.exec
  have hby := Bd.bytes
  have hml : c.maxLocals = 1 := hml0
  have hown : s.vm.findClass "com/example/outbound_courier/outboundcourier/http/RequestHead" = some m.cls := findClass_of_methodNamed Bd.named
  have hnm := (name_of_methodNamed Bd.named Bd.method).1
  have X0 : Stand p l e ({ frames := 0, cells := 0, slots := 0, locals := 0 } : Room) s m #[(.ref a1)] below meth c s₁ [] 0 0 := Stand.of_body Bd
  have e0 : s₁.heap = h0 := by rw [← hh, Bd.state]; rfl
  have N0 := Fr.nil n0
  refine Go.start (P := (fun o U' => ∃ v L, o = .returned v ∧ Q_rm12_2 Z a1 q2 h0 n0 v U'.heap L ∧ FrameEnd s o U' L ({ frames := 0, cells := 0, slots := 0, locals := 0 } : Room).cells ({ frames := 0, cells := 0, slots := 0, locals := 0 } : Room).slots)) (castTop (g' := (mkF m 0 #[.val (.ref a1)] [])) (by first | rfl | simp [entryFrame, mkF, argsToLocals, Value.category]) (T := s₁)) ?_
  refine Go.st (fun t k => XS.aloadN X0.here hx rfl (hb hby d12_0) rfl rfl k) ?_
  show Go p e below _ (s₁.setTop (mkF m 1 #[.val (.ref a1)] [(.ref a1)]))
  obtain ⟨T1, X1, e1, st1⟩ := getF X0 hx hZ hown (host := "") (Or.inl (w80 hw)) Via.refl e0 P1 (g := (mkF m 1 #[.val (.ref a1)] [(.ref a1)])) rfl rfl (hb hby d12_1)
  refine Go.st st1 ?_
  show Go p e below _ (T1.setTop (mkF m 4 #[.val (.ref a1)] [(.int (0 : Int32))]))
  refine Go.st (fun t k => XS.ifNo X1.here hx rfl (hb hby d12_4) rfl (Jvm.Free.XT.i0_ne_f (by decide : (0 : Int32) = (0 : Int32))) k) ?_
  show Go p e below _ (T1.setTop (mkF m 7 #[.val (.ref a1)] []))
  refine Go.st (fun t k => XS.aloadN X1.here hx rfl (hb hby d12_7) rfl rfl k) ?_
  show Go p e below _ (T1.setTop (mkF m 8 #[.val (.ref a1)] [(.ref a1)]))
  obtain ⟨T2, X2, e2, st2⟩ := getF X1 hx hZ hown (host := "") (Or.inl (w64 hw)) Via.refl e1 P2 (g := (mkF m 8 #[.val (.ref a1)] [(.ref a1)])) rfl rfl (hb hby d12_8)
  refine Go.st st2 ?_
  show Go p e below _ (T2.setTop (mkF m 11 #[.val (.ref a1)] [(.long q2)]))
  refine Go.st (fun t k => XS.lconst X2.here hx rfl (hb hby d12_11) k) ?_
  show Go p e below _ (T2.setTop (mkF m 12 #[.val (.ref a1)] [(.long (0 : Int64)), (.long q2)]))
  refine Go.st (fun t k => Jvm.Free.XT.lcmp X2.here hx rfl (hb hby d12_12) rfl k) ?_
  show Go p e below _ (T2.setTop (mkF m 13 #[.val (.ref a1)] [(.int (Jvm.Free.XT.cmpL q2 (0 : Int64)))]))
  refine Go.st (fun t k => XS.ifYes X2.here hx rfl (pc0 := 13) (pc' := 20) rfl (hb hby d12_13) rfl (Jvm.Free.XT.ll_le_t P3) (by decide) (by decide) k) ?_
  show Go p e below _ (T2.setTop (mkF m 20 #[.val (.ref a1)] []))
  refine Go.st (fun t k => XS.iconst X2.here hx rfl (hb hby d12_20) k) ?_
  show Go p e below _ (T2.setTop (mkF m 21 #[.val (.ref a1)] [(.int (0 : Int32))]))
  obtain ⟨fs, hr, hrun, hended, hWd, hsame⟩ := X2.leave (v := some (.int (0 : Int32))) (fun h => by rw [Bd.returns] at h; cases h)
  refine ⟨_, _, ?_, hrun, hended, _, _, rfl, ?_, ⟨⟨_, rfl⟩, hWd, hsame.mono (by decide) (by decide)⟩⟩
  · exact retN X2 hx (t := .boolean) Bd.returns (by simp) (hb hby d12_21) hr
  · show Q_rm12_2 Z a1 q2 h0 n0 _ T2.heap _
    rw [e2]
    exact ⟨rfl, N0, rfl⟩
def Q_rm12_3 (Z : State) (a1 : Addr) (q2 : Int64) (h0 : Heap) (n0 : Nat) (v : Option Value) (h : Heap) (L : List Loc) : Prop := v = some (.int (1 : Int32)) ∧ Fr n0 L ∧ h = h0
set_option maxRecDepth 65536 in
set_option maxHeartbeats 40000000 in
theorem rm12_3 (l : Launch) (Z : State) (a0 : Array Value) (hw : ∀ d ∈ tables_1, d.before a0 Z = true) (ws : List Jvm.Cond) (a1 : Addr) (q2 : Int64) (h0 : Heap) (n0 : Nat) (O0 : Old Z n0 h0) (P1 : Fld Z h0 a1 "com/example/outbound_courier/outboundcourier/http/RequestHead" "chunked" "Z" (.int (0 : Int32))) (P2 : Fld Z h0 a1 "com/example/outbound_courier/outboundcourier/http/RequestHead" "contentLength" "J" (.long q2)) (P3 : (0 : Int64) < q2) :
    MetFree l (⟨"com/example/outbound_courier/outboundcourier/http/RequestHead", "hasBody", "()Z"⟩ : MethodName) (head1 (Jvm.Cond.code (⟨"com/example/outbound_courier/outboundcourier/http/RequestHead", "hasBody", "()Z"⟩ : MethodName) prog_20_method_8_code 1 (some .boolean) :: ws) ({ frames := 0, cells := 0, slots := 0, locals := 0 } : Room)) (fun a U => a = #[(.ref a1)] ∧ Z.Warmed39 U.vm ∧ U.heap = h0) (fun _ _ _ _ _ => True) (fun _ U o U' => ∃ v L, o = .returned v ∧ Q_rm12_3 Z a1 q2 h0 n0 v U'.heap L ∧ FrameEnd U o U' L ({ frames := 0, cells := 0, slots := 0, locals := 0 } : Room).cells ({ frames := 0, cells := 0, slots := 0, locals := 0 } : Room).slots) := by
  refine MetFree.of_bodySF (plainFor_of_name pn_5) hisR ?_
  intro p e s m args below meth c s₁ Bd hml0 hP hK
  obtain ⟨rfl, hZ, hh⟩ := hP
  have hx := Bd.exec
  have hby := Bd.bytes
  have hml : c.maxLocals = 1 := hml0
  have hown : s.vm.findClass "com/example/outbound_courier/outboundcourier/http/RequestHead" = some m.cls := findClass_of_methodNamed Bd.named
  have hnm := (name_of_methodNamed Bd.named Bd.method).1
  have X0 : Stand p l e ({ frames := 0, cells := 0, slots := 0, locals := 0 } : Room) s m #[(.ref a1)] below meth c s₁ [] 0 0 := Stand.of_body Bd
  have e0 : s₁.heap = h0 := by rw [← hh, Bd.state]; rfl
  have N0 := Fr.nil n0
  refine Go.start (P := (fun o U' => ∃ v L, o = .returned v ∧ Q_rm12_3 Z a1 q2 h0 n0 v U'.heap L ∧ FrameEnd s o U' L ({ frames := 0, cells := 0, slots := 0, locals := 0 } : Room).cells ({ frames := 0, cells := 0, slots := 0, locals := 0 } : Room).slots)) (castTop (g' := (mkF m 0 #[.val (.ref a1)] [])) (by first | rfl | simp [entryFrame, mkF, argsToLocals, Value.category]) (T := s₁)) ?_
  refine Go.st (fun t k => XS.aloadN X0.here hx rfl (hb hby d12_0) rfl rfl k) ?_
  show Go p e below _ (s₁.setTop (mkF m 1 #[.val (.ref a1)] [(.ref a1)]))
  obtain ⟨T1, X1, e1, st1⟩ := getF X0 hx hZ hown (host := "") (Or.inl (w80 hw)) Via.refl e0 P1 (g := (mkF m 1 #[.val (.ref a1)] [(.ref a1)])) rfl rfl (hb hby d12_1)
  refine Go.st st1 ?_
  show Go p e below _ (T1.setTop (mkF m 4 #[.val (.ref a1)] [(.int (0 : Int32))]))
  refine Go.st (fun t k => XS.ifNo X1.here hx rfl (hb hby d12_4) rfl (Jvm.Free.XT.i0_ne_f (by decide : (0 : Int32) = (0 : Int32))) k) ?_
  show Go p e below _ (T1.setTop (mkF m 7 #[.val (.ref a1)] []))
  refine Go.st (fun t k => XS.aloadN X1.here hx rfl (hb hby d12_7) rfl rfl k) ?_
  show Go p e below _ (T1.setTop (mkF m 8 #[.val (.ref a1)] [(.ref a1)]))
  obtain ⟨T2, X2, e2, st2⟩ := getF X1 hx hZ hown (host := "") (Or.inl (w64 hw)) Via.refl e1 P2 (g := (mkF m 8 #[.val (.ref a1)] [(.ref a1)])) rfl rfl (hb hby d12_8)
  refine Go.st st2 ?_
  show Go p e below _ (T2.setTop (mkF m 11 #[.val (.ref a1)] [(.long q2)]))
  refine Go.st (fun t k => XS.lconst X2.here hx rfl (hb hby d12_11) k) ?_
  show Go p e below _ (T2.setTop (mkF m 12 #[.val (.ref a1)] [(.long (0 : Int64)), (.long q2)]))
  refine Go.st (fun t k => Jvm.Free.XT.lcmp X2.here hx rfl (hb hby d12_12) rfl k) ?_
  show Go p e below _ (T2.setTop (mkF m 13 #[.val (.ref a1)] [(.int (Jvm.Free.XT.cmpL q2 (0 : Int64)))]))
  refine Go.st (fun t k => XS.ifNo X2.here hx rfl (hb hby d12_13) rfl (Jvm.Free.XT.ll_le_f P3) k) ?_
  show Go p e below _ (T2.setTop (mkF m 16 #[.val (.ref a1)] []))
  refine Go.st (fun t k => XS.iconst X2.here hx rfl (hb hby d12_16) k) ?_
  show Go p e below _ (T2.setTop (mkF m 17 #[.val (.ref a1)] [(.int (1 : Int32))]))
  refine Go.st (fun t k => XS.goto X2.here hx rfl (pc0 := 17) (pc' := 21) rfl (hb hby d12_17) (by decide) (by decide) k) ?_
  show Go p e below _ (T2.setTop (mkF m 21 #[.val (.ref a1)] [(.int (1 : Int32))]))
  obtain ⟨fs, hr, hrun, hended, hWd, hsame⟩ := X2.leave (v := some (.int (1 : Int32))) (fun h => by rw [Bd.returns] at h; cases h)
  refine ⟨_, _, ?_, hrun, hended, _, _, rfl, ?_, ⟨⟨_, rfl⟩, hWd, hsame.mono (by decide) (by decide)⟩⟩
  · exact retN X2 hx (t := .boolean) Bd.returns (by simp) (hb hby d12_21) hr
  · show Q_rm12_3 Z a1 q2 h0 n0 _ T2.heap _
    rw [e2]
    exact ⟨rfl, N0, rfl⟩
def Q_rm14_3 (Z : State) (a1 : Addr) (a2 : Addr) (q3 : Int64) (a4 : Addr) (p5 : Int32) (h0 : Heap) (n0 : Nat) (v : Option Value) (h : Heap) (L : List Loc) : Prop := v = none ∧ Fr n0 L ∧ Keep h0 h [a1] ∧ Fld Z h a1 "com/example/outbound_courier/outboundcourier/http/RequestHead" "expectsContinue" "Z" (.int (1 : Int32)) ∧ Fld Z h a1 "com/example/outbound_courier/outboundcourier/http/RequestHead" "fields" "Ljava/util/List;" (.ref a2) ∧ Fld Z h a1 "com/example/outbound_courier/outboundcourier/http/RequestHead" "contentLength" "J" (.long q3) ∧ Fld Z h a1 "com/example/outbound_courier/outboundcourier/http/RequestHead" "method" "Ljava/lang/String;" (.ref a4) ∧ Fld Z h a1 "com/example/outbound_courier/outboundcourier/http/RequestHead" "version" "I" (.int p5) ∧ Fld Z h a1 "com/example/outbound_courier/outboundcourier/http/RequestHead" "chunked" "Z" (.int (0 : Int32)) ∧ Fld Z h a1 "com/example/outbound_courier/outboundcourier/http/RequestHead" "close" "Z" (.int (0 : Int32))
set_option maxRecDepth 65536 in
set_option maxHeartbeats 40000000 in
theorem rm14_3 (l : Launch) (Z : State) (a0 : Array Value) (hw : ∀ d ∈ tables_1, d.before a0 Z = true) (ws : List Jvm.Cond) (a1 : Addr) (a2 : Addr) (q3 : Int64) (a4 : Addr) (p5 : Int32) (h0 : Heap) (n0 : Nat) (O0 : Old Z n0 h0) (P1 : Exa Z h0 a1 "com/example/outbound_courier/outboundcourier/http/RequestHead") (P2 : Fld Z h0 a1 "com/example/outbound_courier/outboundcourier/http/RequestHead" "expectsContinue" "Z" (.int (0 : Int32))) (P3 : n0 ≤ a1) (P4 : Fld Z h0 a1 "com/example/outbound_courier/outboundcourier/http/RequestHead" "fields" "Ljava/util/List;" (.ref a2)) (P5 : Fld Z h0 a1 "com/example/outbound_courier/outboundcourier/http/RequestHead" "contentLength" "J" (.long q3)) (P6 : Fld Z h0 a1 "com/example/outbound_courier/outboundcourier/http/RequestHead" "method" "Ljava/lang/String;" (.ref a4)) (P7 : Fld Z h0 a1 "com/example/outbound_courier/outboundcourier/http/RequestHead" "version" "I" (.int p5)) (P8 : Fld Z h0 a1 "com/example/outbound_courier/outboundcourier/http/RequestHead" "chunked" "Z" (.int (0 : Int32))) (P9 : Fld Z h0 a1 "com/example/outbound_courier/outboundcourier/http/RequestHead" "close" "Z" (.int (0 : Int32))) :
    MetFree l (⟨"com/example/outbound_courier/outboundcourier/http/RequestHead", "setExpectsContinue", "()V"⟩ : MethodName) (head1 (Jvm.Cond.code (⟨"com/example/outbound_courier/outboundcourier/http/RequestHead", "setExpectsContinue", "()V"⟩ : MethodName) prog_20_method_18_code 1 none :: ws) ({ frames := 0, cells := 0, slots := 0, locals := 0 } : Room)) (fun a U => a = #[(.ref a1)] ∧ Z.Warmed39 U.vm ∧ U.heap = h0) (fun _ _ _ _ _ => True) (fun _ U o U' => ∃ v L, o = .returned v ∧ Q_rm14_3 Z a1 a2 q3 a4 p5 h0 n0 v U'.heap L ∧ FrameEnd U o U' L ({ frames := 0, cells := 0, slots := 0, locals := 0 } : Room).cells ({ frames := 0, cells := 0, slots := 0, locals := 0 } : Room).slots) := by
  refine MetFree.of_bodySF (plainFor_of_name pn_5) hisR ?_
  intro p e s m args below meth c s₁ Bd hml0 hP hK
  obtain ⟨rfl, hZ, hh⟩ := hP
  have hx := Bd.exec
  have hby := Bd.bytes
  have hml : c.maxLocals = 1 := hml0
  have hown : s.vm.findClass "com/example/outbound_courier/outboundcourier/http/RequestHead" = some m.cls := findClass_of_methodNamed Bd.named
  have hnm := (name_of_methodNamed Bd.named Bd.method).1
  have X0 : Stand p l e ({ frames := 0, cells := 0, slots := 0, locals := 0 } : Room) s m #[(.ref a1)] below meth c s₁ [] 0 0 := Stand.of_body Bd
  have e0 : s₁.heap = h0 := by rw [← hh, Bd.state]; rfl
  have N0 := Fr.nil n0
  refine Go.start (P := (fun o U' => ∃ v L, o = .returned v ∧ Q_rm14_3 Z a1 a2 q3 a4 p5 h0 n0 v U'.heap L ∧ FrameEnd s o U' L ({ frames := 0, cells := 0, slots := 0, locals := 0 } : Room).cells ({ frames := 0, cells := 0, slots := 0, locals := 0 } : Room).slots)) (castTop (g' := (mkF m 0 #[.val (.ref a1)] [])) (by first | rfl | simp [entryFrame, mkF, argsToLocals, Value.category]) (T := s₁)) ?_
  refine Go.st (fun t k => XS.aloadN X0.here hx rfl (hb hby d14_0) rfl rfl k) ?_
  show Go p e below _ (s₁.setTop (mkF m 1 #[.val (.ref a1)] [(.ref a1)]))
  refine Go.st (fun t k => XS.iconst X0.here hx rfl (hb hby d14_1) k) ?_
  show Go p e below _ (s₁.setTop (mkF m 2 #[.val (.ref a1)] [(.int (1 : Int32)), (.ref a1)]))
  obtain ⟨T1, h1, X1, e1, W1, st1⟩ := putFN X0 hx hZ hown (w94 hw) Via.refl e0 P2 P1 (Or.inl (w95 hw)) (w2 hw) (ty := .boolean) (v' := (.int (1 : Int32))) (by decide) rfl (by decide) (g := (mkF m 2 #[.val (.ref a1)] [(.int (1 : Int32)), (.ref a1)])) rfl rfl (hb hby d14_2)
  have F1 : Fld Z h1 a1 "com/example/outbound_courier/outboundcourier/http/RequestHead" "expectsContinue" "Z" (.int (1 : Int32)) := P2.same W1
  have N1 := Fr.snoc X1 N0 P3
  have O1 : Old Z n0 h1 := O0.wr W1 P3
  have K1 : Keep h0 h1 [a1] := (Keep.refl h0 [a1]).wr W1 (Or.inl (List.mem_of_getElem? (i := 0) rfl))
  refine Go.st st1 ?_
  show Go p e below _ (T1.setTop (mkF m 5 #[.val (.ref a1)] []))
  obtain ⟨fs, hr, hrun, hended, hWd, hsame⟩ := X1.leave (v := none) (fun _ => rfl)
  have c2 := (P4.other W1 (Or.inr (slot_ne (Or.inr (w62 hw)) (Or.inl (w95 hw)) (by decide) (t := (.object "java/util/List")) (t' := .boolean) (by decide) (by decide))))
  have c3 := (P5.other W1 (Or.inr (slot_ne (Or.inl (w65 hw)) (Or.inl (w95 hw)) (by decide) (t := .long) (t' := .boolean) (by decide) (by decide))))
  have c4 := (P6.other W1 (Or.inr (slot_ne (Or.inr (w67 hw)) (Or.inl (w95 hw)) (by decide) (t := (.object "java/lang/String")) (t' := .boolean) (by decide) (by decide))))
  have c5 := (P7.other W1 (Or.inr (slot_ne (Or.inr (w69 hw)) (Or.inl (w95 hw)) (by decide) (t := .int) (t' := .boolean) (by decide) (by decide))))
  have c6 := (P8.other W1 (Or.inr (slot_ne (Or.inl (w81 hw)) (Or.inl (w95 hw)) (by decide) (t := .boolean) (t' := .boolean) (by decide) (by decide))))
  have c7 := (P9.other W1 (Or.inr (slot_ne (Or.inl (w88 hw)) (Or.inl (w95 hw)) (by decide) (t := .boolean) (t' := .boolean) (by decide) (by decide))))
  refine ⟨_, _, ?_, hrun, hended, _, _, rfl, ?_, ⟨⟨_, rfl⟩, hWd, hsame.mono (by decide) (by decide)⟩⟩
  · exact X1.returnOut hx Bd.returns (hb hby d14_5) hr
  · show Q_rm14_3 Z a1 a2 q3 a4 p5 h0 n0 _ T1.heap _
    rw [e1]
    exact ⟨rfl, N1, K1, F1, c2, c3, c4, c5, c6, c7⟩
def Q_rm13_2 (Z : State) (a1 : Addr) (a2 : Addr) (q3 : Int64) (a4 : Addr) (p5 : Int32) (h0 : Heap) (n0 : Nat) (v : Option Value) (h : Heap) (L : List Loc) : Prop := v = none ∧ Fr n0 L ∧ Keep h0 h [a1] ∧ Fld Z h a1 "com/example/outbound_courier/outboundcourier/http/RequestHead" "close" "Z" (.int (1 : Int32)) ∧ Fld Z h a1 "com/example/outbound_courier/outboundcourier/http/RequestHead" "fields" "Ljava/util/List;" (.ref a2) ∧ Fld Z h a1 "com/example/outbound_courier/outboundcourier/http/RequestHead" "contentLength" "J" (.long q3) ∧ Fld Z h a1 "com/example/outbound_courier/outboundcourier/http/RequestHead" "method" "Ljava/lang/String;" (.ref a4) ∧ Fld Z h a1 "com/example/outbound_courier/outboundcourier/http/RequestHead" "version" "I" (.int p5) ∧ Fld Z h a1 "com/example/outbound_courier/outboundcourier/http/RequestHead" "chunked" "Z" (.int (0 : Int32)) ∧ Fld Z h a1 "com/example/outbound_courier/outboundcourier/http/RequestHead" "expectsContinue" "Z" (.int (0 : Int32))
set_option maxRecDepth 65536 in
set_option maxHeartbeats 40000000 in
theorem rm13_2 (l : Launch) (Z : State) (a0 : Array Value) (hw : ∀ d ∈ tables_1, d.before a0 Z = true) (ws : List Jvm.Cond) (a1 : Addr) (a2 : Addr) (q3 : Int64) (a4 : Addr) (p5 : Int32) (h0 : Heap) (n0 : Nat) (O0 : Old Z n0 h0) (P1 : Exa Z h0 a1 "com/example/outbound_courier/outboundcourier/http/RequestHead") (P2 : Fld Z h0 a1 "com/example/outbound_courier/outboundcourier/http/RequestHead" "close" "Z" (.int (0 : Int32))) (P3 : n0 ≤ a1) (P4 : Fld Z h0 a1 "com/example/outbound_courier/outboundcourier/http/RequestHead" "fields" "Ljava/util/List;" (.ref a2)) (P5 : Fld Z h0 a1 "com/example/outbound_courier/outboundcourier/http/RequestHead" "contentLength" "J" (.long q3)) (P6 : Fld Z h0 a1 "com/example/outbound_courier/outboundcourier/http/RequestHead" "method" "Ljava/lang/String;" (.ref a4)) (P7 : Fld Z h0 a1 "com/example/outbound_courier/outboundcourier/http/RequestHead" "version" "I" (.int p5)) (P8 : Fld Z h0 a1 "com/example/outbound_courier/outboundcourier/http/RequestHead" "chunked" "Z" (.int (0 : Int32))) (P9 : Fld Z h0 a1 "com/example/outbound_courier/outboundcourier/http/RequestHead" "expectsContinue" "Z" (.int (0 : Int32))) :
    MetFree l (⟨"com/example/outbound_courier/outboundcourier/http/RequestHead", "setClose", "()V"⟩ : MethodName) (head1 (Jvm.Cond.code (⟨"com/example/outbound_courier/outboundcourier/http/RequestHead", "setClose", "()V"⟩ : MethodName) prog_20_method_17_code 1 none :: ws) ({ frames := 0, cells := 0, slots := 0, locals := 0 } : Room)) (fun a U => a = #[(.ref a1)] ∧ Z.Warmed39 U.vm ∧ U.heap = h0) (fun _ _ _ _ _ => True) (fun _ U o U' => ∃ v L, o = .returned v ∧ Q_rm13_2 Z a1 a2 q3 a4 p5 h0 n0 v U'.heap L ∧ FrameEnd U o U' L ({ frames := 0, cells := 0, slots := 0, locals := 0 } : Room).cells ({ frames := 0, cells := 0, slots := 0, locals := 0 } : Room).slots) := by
  refine MetFree.of_bodySF (plainFor_of_name pn_5) hisR ?_
  intro p e s m args below meth c s₁ Bd hml0 hP hK
  obtain ⟨rfl, hZ, hh⟩ := hP
  have hx := Bd.exec
  have hby := Bd.bytes
  have hml : c.maxLocals = 1 := hml0
  have hown : s.vm.findClass "com/example/outbound_courier/outboundcourier/http/RequestHead" = some m.cls := findClass_of_methodNamed Bd.named
  have hnm := (name_of_methodNamed Bd.named Bd.method).1
  have X0 : Stand p l e ({ frames := 0, cells := 0, slots := 0, locals := 0 } : Room) s m #[(.ref a1)] below meth c s₁ [] 0 0 := Stand.of_body Bd
  have e0 : s₁.heap = h0 := by rw [← hh, Bd.state]; rfl
  have N0 := Fr.nil n0
  refine Go.start (P := (fun o U' => ∃ v L, o = .returned v ∧ Q_rm13_2 Z a1 a2 q3 a4 p5 h0 n0 v U'.heap L ∧ FrameEnd s o U' L ({ frames := 0, cells := 0, slots := 0, locals := 0 } : Room).cells ({ frames := 0, cells := 0, slots := 0, locals := 0 } : Room).slots)) (castTop (g' := (mkF m 0 #[.val (.ref a1)] [])) (by first | rfl | simp [entryFrame, mkF, argsToLocals, Value.category]) (T := s₁)) ?_
  refine Go.st (fun t k => XS.aloadN X0.here hx rfl (hb hby d13_0) rfl rfl k) ?_
  show Go p e below _ (s₁.setTop (mkF m 1 #[.val (.ref a1)] [(.ref a1)]))
  refine Go.st (fun t k => XS.iconst X0.here hx rfl (hb hby d13_1) k) ?_
  show Go p e below _ (s₁.setTop (mkF m 2 #[.val (.ref a1)] [(.int (1 : Int32)), (.ref a1)]))
  obtain ⟨T1, h1, X1, e1, W1, st1⟩ := putFN X0 hx hZ hown (w87 hw) Via.refl e0 P2 P1 (Or.inl (w88 hw)) (w2 hw) (ty := .boolean) (v' := (.int (1 : Int32))) (by decide) rfl (by decide) (g := (mkF m 2 #[.val (.ref a1)] [(.int (1 : Int32)), (.ref a1)])) rfl rfl (hb hby d13_2)
  have F1 : Fld Z h1 a1 "com/example/outbound_courier/outboundcourier/http/RequestHead" "close" "Z" (.int (1 : Int32)) := P2.same W1
  have N1 := Fr.snoc X1 N0 P3
  have O1 : Old Z n0 h1 := O0.wr W1 P3
  have K1 : Keep h0 h1 [a1] := (Keep.refl h0 [a1]).wr W1 (Or.inl (List.mem_of_getElem? (i := 0) rfl))
  refine Go.st st1 ?_
  show Go p e below _ (T1.setTop (mkF m 5 #[.val (.ref a1)] []))
  obtain ⟨fs, hr, hrun, hended, hWd, hsame⟩ := X1.leave (v := none) (fun _ => rfl)
  have c2 := (P4.other W1 (Or.inr (slot_ne (Or.inr (w62 hw)) (Or.inl (w88 hw)) (by decide) (t := (.object "java/util/List")) (t' := .boolean) (by decide) (by decide))))
  have c3 := (P5.other W1 (Or.inr (slot_ne (Or.inl (w65 hw)) (Or.inl (w88 hw)) (by decide) (t := .long) (t' := .boolean) (by decide) (by decide))))
  have c4 := (P6.other W1 (Or.inr (slot_ne (Or.inr (w67 hw)) (Or.inl (w88 hw)) (by decide) (t := (.object "java/lang/String")) (t' := .boolean) (by decide) (by decide))))
  have c5 := (P7.other W1 (Or.inr (slot_ne (Or.inr (w69 hw)) (Or.inl (w88 hw)) (by decide) (t := .int) (t' := .boolean) (by decide) (by decide))))
  have c6 := (P8.other W1 (Or.inr (slot_ne (Or.inl (w81 hw)) (Or.inl (w88 hw)) (by decide) (t := .boolean) (t' := .boolean) (by decide) (by decide))))
  have c7 := (P9.other W1 (Or.inr (slot_ne (Or.inl (w95 hw)) (Or.inl (w88 hw)) (by decide) (t := .boolean) (t' := .boolean) (by decide) (by decide))))
  refine ⟨_, _, ?_, hrun, hended, _, _, rfl, ?_, ⟨⟨_, rfl⟩, hWd, hsame.mono (by decide) (by decide)⟩⟩
  · exact X1.returnOut hx Bd.returns (hb hby d13_5) hr
  · show Q_rm13_2 Z a1 a2 q3 a4 p5 h0 n0 _ T1.heap _
    rw [e1]
    exact ⟨rfl, N1, K1, F1, c2, c3, c4, c5, c6, c7⟩
def Q_rm14_4 (Z : State) (a1 : Addr) (a2 : Addr) (q3 : Int64) (a4 : Addr) (p5 : Int32) (h0 : Heap) (n0 : Nat) (v : Option Value) (h : Heap) (L : List Loc) : Prop := v = none ∧ Fr n0 L ∧ Keep h0 h [a1] ∧ Fld Z h a1 "com/example/outbound_courier/outboundcourier/http/RequestHead" "expectsContinue" "Z" (.int (1 : Int32)) ∧ Fld Z h a1 "com/example/outbound_courier/outboundcourier/http/RequestHead" "fields" "Ljava/util/List;" (.ref a2) ∧ Fld Z h a1 "com/example/outbound_courier/outboundcourier/http/RequestHead" "contentLength" "J" (.long q3) ∧ Fld Z h a1 "com/example/outbound_courier/outboundcourier/http/RequestHead" "method" "Ljava/lang/String;" (.ref a4) ∧ Fld Z h a1 "com/example/outbound_courier/outboundcourier/http/RequestHead" "version" "I" (.int p5) ∧ Fld Z h a1 "com/example/outbound_courier/outboundcourier/http/RequestHead" "chunked" "Z" (.int (0 : Int32)) ∧ Fld Z h a1 "com/example/outbound_courier/outboundcourier/http/RequestHead" "close" "Z" (.int (1 : Int32))
set_option maxRecDepth 65536 in
set_option maxHeartbeats 40000000 in
theorem rm14_4 (l : Launch) (Z : State) (a0 : Array Value) (hw : ∀ d ∈ tables_1, d.before a0 Z = true) (ws : List Jvm.Cond) (a1 : Addr) (a2 : Addr) (q3 : Int64) (a4 : Addr) (p5 : Int32) (h0 : Heap) (n0 : Nat) (O0 : Old Z n0 h0) (P1 : Exa Z h0 a1 "com/example/outbound_courier/outboundcourier/http/RequestHead") (P2 : Fld Z h0 a1 "com/example/outbound_courier/outboundcourier/http/RequestHead" "expectsContinue" "Z" (.int (0 : Int32))) (P3 : n0 ≤ a1) (P4 : Fld Z h0 a1 "com/example/outbound_courier/outboundcourier/http/RequestHead" "fields" "Ljava/util/List;" (.ref a2)) (P5 : Fld Z h0 a1 "com/example/outbound_courier/outboundcourier/http/RequestHead" "contentLength" "J" (.long q3)) (P6 : Fld Z h0 a1 "com/example/outbound_courier/outboundcourier/http/RequestHead" "method" "Ljava/lang/String;" (.ref a4)) (P7 : Fld Z h0 a1 "com/example/outbound_courier/outboundcourier/http/RequestHead" "version" "I" (.int p5)) (P8 : Fld Z h0 a1 "com/example/outbound_courier/outboundcourier/http/RequestHead" "chunked" "Z" (.int (0 : Int32))) (P9 : Fld Z h0 a1 "com/example/outbound_courier/outboundcourier/http/RequestHead" "close" "Z" (.int (1 : Int32))) :
    MetFree l (⟨"com/example/outbound_courier/outboundcourier/http/RequestHead", "setExpectsContinue", "()V"⟩ : MethodName) (head1 (Jvm.Cond.code (⟨"com/example/outbound_courier/outboundcourier/http/RequestHead", "setExpectsContinue", "()V"⟩ : MethodName) prog_20_method_18_code 1 none :: ws) ({ frames := 0, cells := 0, slots := 0, locals := 0 } : Room)) (fun a U => a = #[(.ref a1)] ∧ Z.Warmed39 U.vm ∧ U.heap = h0) (fun _ _ _ _ _ => True) (fun _ U o U' => ∃ v L, o = .returned v ∧ Q_rm14_4 Z a1 a2 q3 a4 p5 h0 n0 v U'.heap L ∧ FrameEnd U o U' L ({ frames := 0, cells := 0, slots := 0, locals := 0 } : Room).cells ({ frames := 0, cells := 0, slots := 0, locals := 0 } : Room).slots) := by
  refine MetFree.of_bodySF (plainFor_of_name pn_5) hisR ?_
  intro p e s m args below meth c s₁ Bd hml0 hP hK
  obtain ⟨rfl, hZ, hh⟩ := hP
  have hx := Bd.exec
  have hby := Bd.bytes
  have hml : c.maxLocals = 1 := hml0
  have hown : s.vm.findClass "com/example/outbound_courier/outboundcourier/http/RequestHead" = some m.cls := findClass_of_methodNamed Bd.named
  have hnm := (name_of_methodNamed Bd.named Bd.method).1
  have X0 : Stand p l e ({ frames := 0, cells := 0, slots := 0, locals := 0 } : Room) s m #[(.ref a1)] below meth c s₁ [] 0 0 := Stand.of_body Bd
  have e0 : s₁.heap = h0 := by rw [← hh, Bd.state]; rfl
  have N0 := Fr.nil n0
  refine Go.start (P := (fun o U' => ∃ v L, o = .returned v ∧ Q_rm14_4 Z a1 a2 q3 a4 p5 h0 n0 v U'.heap L ∧ FrameEnd s o U' L ({ frames := 0, cells := 0, slots := 0, locals := 0 } : Room).cells ({ frames := 0, cells := 0, slots := 0, locals := 0 } : Room).slots)) (castTop (g' := (mkF m 0 #[.val (.ref a1)] [])) (by first | rfl | simp [entryFrame, mkF, argsToLocals, Value.category]) (T := s₁)) ?_
  refine Go.st (fun t k => XS.aloadN X0.here hx rfl (hb hby d14_0) rfl rfl k) ?_
  show Go p e below _ (s₁.setTop (mkF m 1 #[.val (.ref a1)] [(.ref a1)]))
  refine Go.st (fun t k => XS.iconst X0.here hx rfl (hb hby d14_1) k) ?_
  show Go p e below _ (s₁.setTop (mkF m 2 #[.val (.ref a1)] [(.int (1 : Int32)), (.ref a1)]))
  obtain ⟨T1, h1, X1, e1, W1, st1⟩ := putFN X0 hx hZ hown (w94 hw) Via.refl e0 P2 P1 (Or.inl (w95 hw)) (w2 hw) (ty := .boolean) (v' := (.int (1 : Int32))) (by decide) rfl (by decide) (g := (mkF m 2 #[.val (.ref a1)] [(.int (1 : Int32)), (.ref a1)])) rfl rfl (hb hby d14_2)
  have F1 : Fld Z h1 a1 "com/example/outbound_courier/outboundcourier/http/RequestHead" "expectsContinue" "Z" (.int (1 : Int32)) := P2.same W1
  have N1 := Fr.snoc X1 N0 P3
  have O1 : Old Z n0 h1 := O0.wr W1 P3
  have K1 : Keep h0 h1 [a1] := (Keep.refl h0 [a1]).wr W1 (Or.inl (List.mem_of_getElem? (i := 0) rfl))
  refine Go.st st1 ?_
  show Go p e below _ (T1.setTop (mkF m 5 #[.val (.ref a1)] []))
  obtain ⟨fs, hr, hrun, hended, hWd, hsame⟩ := X1.leave (v := none) (fun _ => rfl)
  have c2 := (P4.other W1 (Or.inr (slot_ne (Or.inr (w62 hw)) (Or.inl (w95 hw)) (by decide) (t := (.object "java/util/List")) (t' := .boolean) (by decide) (by decide))))
  have c3 := (P5.other W1 (Or.inr (slot_ne (Or.inl (w65 hw)) (Or.inl (w95 hw)) (by decide) (t := .long) (t' := .boolean) (by decide) (by decide))))
  have c4 := (P6.other W1 (Or.inr (slot_ne (Or.inr (w67 hw)) (Or.inl (w95 hw)) (by decide) (t := (.object "java/lang/String")) (t' := .boolean) (by decide) (by decide))))
  have c5 := (P7.other W1 (Or.inr (slot_ne (Or.inr (w69 hw)) (Or.inl (w95 hw)) (by decide) (t := .int) (t' := .boolean) (by decide) (by decide))))
  have c6 := (P8.other W1 (Or.inr (slot_ne (Or.inl (w81 hw)) (Or.inl (w95 hw)) (by decide) (t := .boolean) (t' := .boolean) (by decide) (by decide))))
  have c7 := (P9.other W1 (Or.inr (slot_ne (Or.inl (w88 hw)) (Or.inl (w95 hw)) (by decide) (t := .boolean) (t' := .boolean) (by decide) (by decide))))
  refine ⟨_, _, ?_, hrun, hended, _, _, rfl, ?_, ⟨⟨_, rfl⟩, hWd, hsame.mono (by decide) (by decide)⟩⟩
  · exact X1.returnOut hx Bd.returns (hb hby d14_5) hr
  · show Q_rm14_4 Z a1 a2 q3 a4 p5 h0 n0 _ T1.heap _
    rw [e1]
    exact ⟨rfl, N1, K1, F1, c2, c3, c4, c5, c6, c7⟩
def Q_rm15_1 (Z : State) (a1 : Addr) (a2 : Addr) (a3 : Addr) (p4 : Int32) (h0 : Heap) (n0 : Nat) (v : Option Value) (h : Heap) (L : List Loc) : Prop := v = none ∧ Fr n0 L ∧ Keep h0 h [a1] ∧ Fld Z h a1 "com/example/outbound_courier/outboundcourier/http/RequestHead" "chunked" "Z" (.int (1 : Int32)) ∧ Fld Z h a1 "com/example/outbound_courier/outboundcourier/http/RequestHead" "fields" "Ljava/util/List;" (.ref a2) ∧ Fld Z h a1 "com/example/outbound_courier/outboundcourier/http/RequestHead" "contentLength" "J" (.long (-1 : Int64)) ∧ Fld Z h a1 "com/example/outbound_courier/outboundcourier/http/RequestHead" "method" "Ljava/lang/String;" (.ref a3) ∧ Fld Z h a1 "com/example/outbound_courier/outboundcourier/http/RequestHead" "version" "I" (.int p4) ∧ Fld Z h a1 "com/example/outbound_courier/outboundcourier/http/RequestHead" "close" "Z" (.int (0 : Int32)) ∧ Fld Z h a1 "com/example/outbound_courier/outboundcourier/http/RequestHead" "expectsContinue" "Z" (.int (0 : Int32))
set_option maxRecDepth 65536 in
set_option maxHeartbeats 40000000 in
theorem rm15_1 (l : Launch) (Z : State) (a0 : Array Value) (hw : ∀ d ∈ tables_1, d.before a0 Z = true) (ws : List Jvm.Cond) (a1 : Addr) (a2 : Addr) (a3 : Addr) (p4 : Int32) (h0 : Heap) (n0 : Nat) (O0 : Old Z n0 h0) (P1 : Exa Z h0 a1 "com/example/outbound_courier/outboundcourier/http/RequestHead") (P2 : Fld Z h0 a1 "com/example/outbound_courier/outboundcourier/http/RequestHead" "chunked" "Z" (.int (0 : Int32))) (P3 : n0 ≤ a1) (P4 : Fld Z h0 a1 "com/example/outbound_courier/outboundcourier/http/RequestHead" "fields" "Ljava/util/List;" (.ref a2)) (P5 : Fld Z h0 a1 "com/example/outbound_courier/outboundcourier/http/RequestHead" "contentLength" "J" (.long (-1 : Int64))) (P6 : Fld Z h0 a1 "com/example/outbound_courier/outboundcourier/http/RequestHead" "method" "Ljava/lang/String;" (.ref a3)) (P7 : Fld Z h0 a1 "com/example/outbound_courier/outboundcourier/http/RequestHead" "version" "I" (.int p4)) (P8 : Fld Z h0 a1 "com/example/outbound_courier/outboundcourier/http/RequestHead" "close" "Z" (.int (0 : Int32))) (P9 : Fld Z h0 a1 "com/example/outbound_courier/outboundcourier/http/RequestHead" "expectsContinue" "Z" (.int (0 : Int32))) :
    MetFree l (⟨"com/example/outbound_courier/outboundcourier/http/RequestHead", "setChunked", "()V"⟩ : MethodName) (head1 (Jvm.Cond.code (⟨"com/example/outbound_courier/outboundcourier/http/RequestHead", "setChunked", "()V"⟩ : MethodName) prog_20_method_16_code 1 none :: ws) ({ frames := 0, cells := 0, slots := 0, locals := 0 } : Room)) (fun a U => a = #[(.ref a1)] ∧ Z.Warmed39 U.vm ∧ U.heap = h0) (fun _ _ _ _ _ => True) (fun _ U o U' => ∃ v L, o = .returned v ∧ Q_rm15_1 Z a1 a2 a3 p4 h0 n0 v U'.heap L ∧ FrameEnd U o U' L ({ frames := 0, cells := 0, slots := 0, locals := 0 } : Room).cells ({ frames := 0, cells := 0, slots := 0, locals := 0 } : Room).slots) := by
  refine MetFree.of_bodySF (plainFor_of_name pn_5) hisR ?_
  intro p e s m args below meth c s₁ Bd hml0 hP hK
  obtain ⟨rfl, hZ, hh⟩ := hP
  have hx := Bd.exec
  have hby := Bd.bytes
  have hml : c.maxLocals = 1 := hml0
  have hown : s.vm.findClass "com/example/outbound_courier/outboundcourier/http/RequestHead" = some m.cls := findClass_of_methodNamed Bd.named
  have hnm := (name_of_methodNamed Bd.named Bd.method).1
  have X0 : Stand p l e ({ frames := 0, cells := 0, slots := 0, locals := 0 } : Room) s m #[(.ref a1)] below meth c s₁ [] 0 0 := Stand.of_body Bd
  have e0 : s₁.heap = h0 := by rw [← hh, Bd.state]; rfl
  have N0 := Fr.nil n0
  refine Go.start (P := (fun o U' => ∃ v L, o = .returned v ∧ Q_rm15_1 Z a1 a2 a3 p4 h0 n0 v U'.heap L ∧ FrameEnd s o U' L ({ frames := 0, cells := 0, slots := 0, locals := 0 } : Room).cells ({ frames := 0, cells := 0, slots := 0, locals := 0 } : Room).slots)) (castTop (g' := (mkF m 0 #[.val (.ref a1)] [])) (by first | rfl | simp [entryFrame, mkF, argsToLocals, Value.category]) (T := s₁)) ?_
  refine Go.st (fun t k => XS.aloadN X0.here hx rfl (hb hby d15_0) rfl rfl k) ?_
  show Go p e below _ (s₁.setTop (mkF m 1 #[.val (.ref a1)] [(.ref a1)]))
  refine Go.st (fun t k => XS.iconst X0.here hx rfl (hb hby d15_1) k) ?_
  show Go p e below _ (s₁.setTop (mkF m 2 #[.val (.ref a1)] [(.int (1 : Int32)), (.ref a1)]))
  obtain ⟨T1, h1, X1, e1, W1, st1⟩ := putFN X0 hx hZ hown (w80 hw) Via.refl e0 P2 P1 (Or.inl (w81 hw)) (w2 hw) (ty := .boolean) (v' := (.int (1 : Int32))) (by decide) rfl (by decide) (g := (mkF m 2 #[.val (.ref a1)] [(.int (1 : Int32)), (.ref a1)])) rfl rfl (hb hby d15_2)
  have F1 : Fld Z h1 a1 "com/example/outbound_courier/outboundcourier/http/RequestHead" "chunked" "Z" (.int (1 : Int32)) := P2.same W1
  have N1 := Fr.snoc X1 N0 P3
  have O1 : Old Z n0 h1 := O0.wr W1 P3
  have K1 : Keep h0 h1 [a1] := (Keep.refl h0 [a1]).wr W1 (Or.inl (List.mem_of_getElem? (i := 0) rfl))
  refine Go.st st1 ?_
  show Go p e below _ (T1.setTop (mkF m 5 #[.val (.ref a1)] []))
  obtain ⟨fs, hr, hrun, hended, hWd, hsame⟩ := X1.leave (v := none) (fun _ => rfl)
  have c2 := (P4.other W1 (Or.inr (slot_ne (Or.inr (w62 hw)) (Or.inl (w81 hw)) (by decide) (t := (.object "java/util/List")) (t' := .boolean) (by decide) (by decide))))
  have c3 := (P5.other W1 (Or.inr (slot_ne (Or.inl (w65 hw)) (Or.inl (w81 hw)) (by decide) (t := .long) (t' := .boolean) (by decide) (by decide))))
  have c4 := (P6.other W1 (Or.inr (slot_ne (Or.inr (w67 hw)) (Or.inl (w81 hw)) (by decide) (t := (.object "java/lang/String")) (t' := .boolean) (by decide) (by decide))))
  have c5 := (P7.other W1 (Or.inr (slot_ne (Or.inr (w69 hw)) (Or.inl (w81 hw)) (by decide) (t := .int) (t' := .boolean) (by decide) (by decide))))
  have c6 := (P8.other W1 (Or.inr (slot_ne (Or.inl (w88 hw)) (Or.inl (w81 hw)) (by decide) (t := .boolean) (t' := .boolean) (by decide) (by decide))))
  have c7 := (P9.other W1 (Or.inr (slot_ne (Or.inl (w95 hw)) (Or.inl (w81 hw)) (by decide) (t := .boolean) (t' := .boolean) (by decide) (by decide))))
  refine ⟨_, _, ?_, hrun, hended, _, _, rfl, ?_, ⟨⟨_, rfl⟩, hWd, hsame.mono (by decide) (by decide)⟩⟩
  · exact X1.returnOut hx Bd.returns (hb hby d15_5) hr
  · show Q_rm15_1 Z a1 a2 a3 p4 h0 n0 _ T1.heap _
    rw [e1]
    exact ⟨rfl, N1, K1, F1, c2, c3, c4, c5, c6, c7⟩
def Q_rm12_4 (Z : State) (a1 : Addr) (h0 : Heap) (n0 : Nat) (v : Option Value) (h : Heap) (L : List Loc) : Prop := v = some (.int (1 : Int32)) ∧ Fr n0 L ∧ h = h0
set_option maxRecDepth 65536 in
set_option maxHeartbeats 40000000 in
theorem rm12_4 (l : Launch) (Z : State) (a0 : Array Value) (hw : ∀ d ∈ tables_1, d.before a0 Z = true) (ws : List Jvm.Cond) (a1 : Addr) (h0 : Heap) (n0 : Nat) (O0 : Old Z n0 h0) (P1 : Fld Z h0 a1 "com/example/outbound_courier/outboundcourier/http/RequestHead" "chunked" "Z" (.int (1 : Int32))) :
    MetFree l (⟨"com/example/outbound_courier/outboundcourier/http/RequestHead", "hasBody", "()Z"⟩ : MethodName) (head1 (Jvm.Cond.code (⟨"com/example/outbound_courier/outboundcourier/http/RequestHead", "hasBody", "()Z"⟩ : MethodName) prog_20_method_8_code 1 (some .boolean) :: ws) ({ frames := 0, cells := 0, slots := 0, locals := 0 } : Room)) (fun a U => a = #[(.ref a1)] ∧ Z.Warmed39 U.vm ∧ U.heap = h0) (fun _ _ _ _ _ => True) (fun _ U o U' => ∃ v L, o = .returned v ∧ Q_rm12_4 Z a1 h0 n0 v U'.heap L ∧ FrameEnd U o U' L ({ frames := 0, cells := 0, slots := 0, locals := 0 } : Room).cells ({ frames := 0, cells := 0, slots := 0, locals := 0 } : Room).slots) := by
  refine MetFree.of_bodySF (plainFor_of_name pn_5) hisR ?_
  intro p e s m args below meth c s₁ Bd hml0 hP hK
  obtain ⟨rfl, hZ, hh⟩ := hP
  have hx := Bd.exec
  have hby := Bd.bytes
  have hml : c.maxLocals = 1 := hml0
  have hown : s.vm.findClass "com/example/outbound_courier/outboundcourier/http/RequestHead" = some m.cls := findClass_of_methodNamed Bd.named
  have hnm := (name_of_methodNamed Bd.named Bd.method).1
  have X0 : Stand p l e ({ frames := 0, cells := 0, slots := 0, locals := 0 } : Room) s m #[(.ref a1)] below meth c s₁ [] 0 0 := Stand.of_body Bd
  have e0 : s₁.heap = h0 := by rw [← hh, Bd.state]; rfl
  have N0 := Fr.nil n0
  refine Go.start (P := (fun o U' => ∃ v L, o = .returned v ∧ Q_rm12_4 Z a1 h0 n0 v U'.heap L ∧ FrameEnd s o U' L ({ frames := 0, cells := 0, slots := 0, locals := 0 } : Room).cells ({ frames := 0, cells := 0, slots := 0, locals := 0 } : Room).slots)) (castTop (g' := (mkF m 0 #[.val (.ref a1)] [])) (by first | rfl | simp [entryFrame, mkF, argsToLocals, Value.category]) (T := s₁)) ?_
  refine Go.st (fun t k => XS.aloadN X0.here hx rfl (hb hby d12_0) rfl rfl k) ?_
  show Go p e below _ (s₁.setTop (mkF m 1 #[.val (.ref a1)] [(.ref a1)]))
  obtain ⟨T1, X1, e1, st1⟩ := getF X0 hx hZ hown (host := "") (Or.inl (w80 hw)) Via.refl e0 P1 (g := (mkF m 1 #[.val (.ref a1)] [(.ref a1)])) rfl rfl (hb hby d12_1)
  refine Go.st st1 ?_
  show Go p e below _ (T1.setTop (mkF m 4 #[.val (.ref a1)] [(.int (1 : Int32))]))
  refine Go.st (fun t k => XS.ifYes X1.here hx rfl (pc0 := 4) (pc' := 16) rfl (hb hby d12_4) rfl (Jvm.Free.XT.i0_ne_t (by decide : ¬ ((1 : Int32) = (0 : Int32)))) (by decide) (by decide) k) ?_
  show Go p e below _ (T1.setTop (mkF m 16 #[.val (.ref a1)] []))
  refine Go.st (fun t k => XS.iconst X1.here hx rfl (hb hby d12_16) k) ?_
  show Go p e below _ (T1.setTop (mkF m 17 #[.val (.ref a1)] [(.int (1 : Int32))]))
  refine Go.st (fun t k => XS.goto X1.here hx rfl (pc0 := 17) (pc' := 21) rfl (hb hby d12_17) (by decide) (by decide) k) ?_
  show Go p e below _ (T1.setTop (mkF m 21 #[.val (.ref a1)] [(.int (1 : Int32))]))
  obtain ⟨fs, hr, hrun, hended, hWd, hsame⟩ := X1.leave (v := some (.int (1 : Int32))) (fun h => by rw [Bd.returns] at h; cases h)
  refine ⟨_, _, ?_, hrun, hended, _, _, rfl, ?_, ⟨⟨_, rfl⟩, hWd, hsame.mono (by decide) (by decide)⟩⟩
  · exact retN X1 hx (t := .boolean) Bd.returns (by simp) (hb hby d12_21) hr
  · show Q_rm12_4 Z a1 h0 n0 _ T1.heap _
    rw [e1]
    exact ⟨rfl, N0, rfl⟩
def Q_rm14_5 (Z : State) (a1 : Addr) (a2 : Addr) (a3 : Addr) (p4 : Int32) (h0 : Heap) (n0 : Nat) (v : Option Value) (h : Heap) (L : List Loc) : Prop := v = none ∧ Fr n0 L ∧ Keep h0 h [a1] ∧ Fld Z h a1 "com/example/outbound_courier/outboundcourier/http/RequestHead" "expectsContinue" "Z" (.int (1 : Int32)) ∧ Fld Z h a1 "com/example/outbound_courier/outboundcourier/http/RequestHead" "fields" "Ljava/util/List;" (.ref a2) ∧ Fld Z h a1 "com/example/outbound_courier/outboundcourier/http/RequestHead" "contentLength" "J" (.long (-1 : Int64)) ∧ Fld Z h a1 "com/example/outbound_courier/outboundcourier/http/RequestHead" "method" "Ljava/lang/String;" (.ref a3) ∧ Fld Z h a1 "com/example/outbound_courier/outboundcourier/http/RequestHead" "version" "I" (.int p4) ∧ Fld Z h a1 "com/example/outbound_courier/outboundcourier/http/RequestHead" "chunked" "Z" (.int (1 : Int32)) ∧ Fld Z h a1 "com/example/outbound_courier/outboundcourier/http/RequestHead" "close" "Z" (.int (0 : Int32))
set_option maxRecDepth 65536 in
set_option maxHeartbeats 40000000 in
theorem rm14_5 (l : Launch) (Z : State) (a0 : Array Value) (hw : ∀ d ∈ tables_1, d.before a0 Z = true) (ws : List Jvm.Cond) (a1 : Addr) (a2 : Addr) (a3 : Addr) (p4 : Int32) (h0 : Heap) (n0 : Nat) (O0 : Old Z n0 h0) (P1 : Exa Z h0 a1 "com/example/outbound_courier/outboundcourier/http/RequestHead") (P2 : Fld Z h0 a1 "com/example/outbound_courier/outboundcourier/http/RequestHead" "expectsContinue" "Z" (.int (0 : Int32))) (P3 : n0 ≤ a1) (P4 : Fld Z h0 a1 "com/example/outbound_courier/outboundcourier/http/RequestHead" "fields" "Ljava/util/List;" (.ref a2)) (P5 : Fld Z h0 a1 "com/example/outbound_courier/outboundcourier/http/RequestHead" "contentLength" "J" (.long (-1 : Int64))) (P6 : Fld Z h0 a1 "com/example/outbound_courier/outboundcourier/http/RequestHead" "method" "Ljava/lang/String;" (.ref a3)) (P7 : Fld Z h0 a1 "com/example/outbound_courier/outboundcourier/http/RequestHead" "version" "I" (.int p4)) (P8 : Fld Z h0 a1 "com/example/outbound_courier/outboundcourier/http/RequestHead" "chunked" "Z" (.int (1 : Int32))) (P9 : Fld Z h0 a1 "com/example/outbound_courier/outboundcourier/http/RequestHead" "close" "Z" (.int (0 : Int32))) :
    MetFree l (⟨"com/example/outbound_courier/outboundcourier/http/RequestHead", "setExpectsContinue", "()V"⟩ : MethodName) (head1 (Jvm.Cond.code (⟨"com/example/outbound_courier/outboundcourier/http/RequestHead", "setExpectsContinue", "()V"⟩ : MethodName) prog_20_method_18_code 1 none :: ws) ({ frames := 0, cells := 0, slots := 0, locals := 0 } : Room)) (fun a U => a = #[(.ref a1)] ∧ Z.Warmed39 U.vm ∧ U.heap = h0) (fun _ _ _ _ _ => True) (fun _ U o U' => ∃ v L, o = .returned v ∧ Q_rm14_5 Z a1 a2 a3 p4 h0 n0 v U'.heap L ∧ FrameEnd U o U' L ({ frames := 0, cells := 0, slots := 0, locals := 0 } : Room).cells ({ frames := 0, cells := 0, slots := 0, locals := 0 } : Room).slots) := by
  refine MetFree.of_bodySF (plainFor_of_name pn_5) hisR ?_
  intro p e s m args below meth c s₁ Bd hml0 hP hK
  obtain ⟨rfl, hZ, hh⟩ := hP
  have hx := Bd.exec
  have hby := Bd.bytes
  have hml : c.maxLocals = 1 := hml0
  have hown : s.vm.findClass "com/example/outbound_courier/outboundcourier/http/RequestHead" = some m.cls := findClass_of_methodNamed Bd.named
  have hnm := (name_of_methodNamed Bd.named Bd.method).1
  have X0 : Stand p l e ({ frames := 0, cells := 0, slots := 0, locals := 0 } : Room) s m #[(.ref a1)] below meth c s₁ [] 0 0 := Stand.of_body Bd
  have e0 : s₁.heap = h0 := by rw [← hh, Bd.state]; rfl
  have N0 := Fr.nil n0
  refine Go.start (P := (fun o U' => ∃ v L, o = .returned v ∧ Q_rm14_5 Z a1 a2 a3 p4 h0 n0 v U'.heap L ∧ FrameEnd s o U' L ({ frames := 0, cells := 0, slots := 0, locals := 0 } : Room).cells ({ frames := 0, cells := 0, slots := 0, locals := 0 } : Room).slots)) (castTop (g' := (mkF m 0 #[.val (.ref a1)] [])) (by first | rfl | simp [entryFrame, mkF, argsToLocals, Value.category]) (T := s₁)) ?_
  refine Go.st (fun t k => XS.aloadN X0.here hx rfl (hb hby d14_0) rfl rfl k) ?_
  show Go p e below _ (s₁.setTop (mkF m 1 #[.val (.ref a1)] [(.ref a1)]))
  refine Go.st (fun t k => XS.iconst X0.here hx rfl (hb hby d14_1) k) ?_
  show Go p e below _ (s₁.setTop (mkF m 2 #[.val (.ref a1)] [(.int (1 : Int32)), (.ref a1)]))
  obtain ⟨T1, h1, X1, e1, W1, st1⟩ := putFN X0 hx hZ hown (w94 hw) Via.refl e0 P2 P1 (Or.inl (w95 hw)) (w2 hw) (ty := .boolean) (v' := (.int (1 : Int32))) (by decide) rfl (by decide) (g := (mkF m 2 #[.val (.ref a1)] [(.int (1 : Int32)), (.ref a1)])) rfl rfl (hb hby d14_2)
  have F1 : Fld Z h1 a1 "com/example/outbound_courier/outboundcourier/http/RequestHead" "expectsContinue" "Z" (.int (1 : Int32)) := P2.same W1
  have N1 := Fr.snoc X1 N0 P3
  have O1 : Old Z n0 h1 := O0.wr W1 P3
  have K1 : Keep h0 h1 [a1] := (Keep.refl h0 [a1]).wr W1 (Or.inl (List.mem_of_getElem? (i := 0) rfl))
  refine Go.st st1 ?_
  show Go p e below _ (T1.setTop (mkF m 5 #[.val (.ref a1)] []))
  obtain ⟨fs, hr, hrun, hended, hWd, hsame⟩ := X1.leave (v := none) (fun _ => rfl)
  have c2 := (P4.other W1 (Or.inr (slot_ne (Or.inr (w62 hw)) (Or.inl (w95 hw)) (by decide) (t := (.object "java/util/List")) (t' := .boolean) (by decide) (by decide))))
  have c3 := (P5.other W1 (Or.inr (slot_ne (Or.inl (w65 hw)) (Or.inl (w95 hw)) (by decide) (t := .long) (t' := .boolean) (by decide) (by decide))))
  have c4 := (P6.other W1 (Or.inr (slot_ne (Or.inr (w67 hw)) (Or.inl (w95 hw)) (by decide) (t := (.object "java/lang/String")) (t' := .boolean) (by decide) (by decide))))
  have c5 := (P7.other W1 (Or.inr (slot_ne (Or.inr (w69 hw)) (Or.inl (w95 hw)) (by decide) (t := .int) (t' := .boolean) (by decide) (by decide))))
  have c6 := (P8.other W1 (Or.inr (slot_ne (Or.inl (w81 hw)) (Or.inl (w95 hw)) (by decide) (t := .boolean) (t' := .boolean) (by decide) (by decide))))
  have c7 := (P9.other W1 (Or.inr (slot_ne (Or.inl (w88 hw)) (Or.inl (w95 hw)) (by decide) (t := .boolean) (t' := .boolean) (by decide) (by decide))))
  refine ⟨_, _, ?_, hrun, hended, _, _, rfl, ?_, ⟨⟨_, rfl⟩, hWd, hsame.mono (by decide) (by decide)⟩⟩
  · exact X1.returnOut hx Bd.returns (hb hby d14_5) hr
  · show Q_rm14_5 Z a1 a2 a3 p4 h0 n0 _ T1.heap _
    rw [e1]
    exact ⟨rfl, N1, K1, F1, c2, c3, c4, c5, c6, c7⟩
def Q_rm13_3 (Z : State) (a1 : Addr) (a2 : Addr) (a3 : Addr) (p4 : Int32) (h0 : Heap) (n0 : Nat) (v : Option Value) (h : Heap) (L : List Loc) : Prop := v = none ∧ Fr n0 L ∧ Keep h0 h [a1] ∧ Fld Z h a1 "com/example/outbound_courier/outboundcourier/http/RequestHead" "close" "Z" (.int (1 : Int32)) ∧ Fld Z h a1 "com/example/outbound_courier/outboundcourier/http/RequestHead" "fields" "Ljava/util/List;" (.ref a2) ∧ Fld Z h a1 "com/example/outbound_courier/outboundcourier/http/RequestHead" "contentLength" "J" (.long (-1 : Int64)) ∧ Fld Z h a1 "com/example/outbound_courier/outboundcourier/http/RequestHead" "method" "Ljava/lang/String;" (.ref a3) ∧ Fld Z h a1 "com/example/outbound_courier/outboundcourier/http/RequestHead" "version" "I" (.int p4) ∧ Fld Z h a1 "com/example/outbound_courier/outboundcourier/http/RequestHead" "chunked" "Z" (.int (1 : Int32)) ∧ Fld Z h a1 "com/example/outbound_courier/outboundcourier/http/RequestHead" "expectsContinue" "Z" (.int (0 : Int32))
set_option maxRecDepth 65536 in
set_option maxHeartbeats 40000000 in
theorem rm13_3 (l : Launch) (Z : State) (a0 : Array Value) (hw : ∀ d ∈ tables_1, d.before a0 Z = true) (ws : List Jvm.Cond) (a1 : Addr) (a2 : Addr) (a3 : Addr) (p4 : Int32) (h0 : Heap) (n0 : Nat) (O0 : Old Z n0 h0) (P1 : Exa Z h0 a1 "com/example/outbound_courier/outboundcourier/http/RequestHead") (P2 : Fld Z h0 a1 "com/example/outbound_courier/outboundcourier/http/RequestHead" "close" "Z" (.int (0 : Int32))) (P3 : n0 ≤ a1) (P4 : Fld Z h0 a1 "com/example/outbound_courier/outboundcourier/http/RequestHead" "fields" "Ljava/util/List;" (.ref a2)) (P5 : Fld Z h0 a1 "com/example/outbound_courier/outboundcourier/http/RequestHead" "contentLength" "J" (.long (-1 : Int64))) (P6 : Fld Z h0 a1 "com/example/outbound_courier/outboundcourier/http/RequestHead" "method" "Ljava/lang/String;" (.ref a3)) (P7 : Fld Z h0 a1 "com/example/outbound_courier/outboundcourier/http/RequestHead" "version" "I" (.int p4)) (P8 : Fld Z h0 a1 "com/example/outbound_courier/outboundcourier/http/RequestHead" "chunked" "Z" (.int (1 : Int32))) (P9 : Fld Z h0 a1 "com/example/outbound_courier/outboundcourier/http/RequestHead" "expectsContinue" "Z" (.int (0 : Int32))) :
    MetFree l (⟨"com/example/outbound_courier/outboundcourier/http/RequestHead", "setClose", "()V"⟩ : MethodName) (head1 (Jvm.Cond.code (⟨"com/example/outbound_courier/outboundcourier/http/RequestHead", "setClose", "()V"⟩ : MethodName) prog_20_method_17_code 1 none :: ws) ({ frames := 0, cells := 0, slots := 0, locals := 0 } : Room)) (fun a U => a = #[(.ref a1)] ∧ Z.Warmed39 U.vm ∧ U.heap = h0) (fun _ _ _ _ _ => True) (fun _ U o U' => ∃ v L, o = .returned v ∧ Q_rm13_3 Z a1 a2 a3 p4 h0 n0 v U'.heap L ∧ FrameEnd U o U' L ({ frames := 0, cells := 0, slots := 0, locals := 0 } : Room).cells ({ frames := 0, cells := 0, slots := 0, locals := 0 } : Room).slots) := by
  refine MetFree.of_bodySF (plainFor_of_name pn_5) hisR ?_
  intro p e s m args below meth c s₁ Bd hml0 hP hK
  obtain ⟨rfl, hZ, hh⟩ := hP
  have hx := Bd.exec
  have hby := Bd.bytes
  have hml : c.maxLocals = 1 := hml0
  have hown : s.vm.findClass "com/example/outbound_courier/outboundcourier/http/RequestHead" = some m.cls := findClass_of_methodNamed Bd.named
  have hnm := (name_of_methodNamed Bd.named Bd.method).1
  have X0 : Stand p l e ({ frames := 0, cells := 0, slots := 0, locals := 0 } : Room) s m #[(.ref a1)] below meth c s₁ [] 0 0 := Stand.of_body Bd
  have e0 : s₁.heap = h0 := by rw [← hh, Bd.state]; rfl
  have N0 := Fr.nil n0
  refine Go.start (P := (fun o U' => ∃ v L, o = .returned v ∧ Q_rm13_3 Z a1 a2 a3 p4 h0 n0 v U'.heap L ∧ FrameEnd s o U' L ({ frames := 0, cells := 0, slots := 0, locals := 0 } : Room).cells ({ frames := 0, cells := 0, slots := 0, locals := 0 } : Room).slots)) (castTop (g' := (mkF m 0 #[.val (.ref a1)] [])) (by first | rfl | simp [entryFrame, mkF, argsToLocals, Value.category]) (T := s₁)) ?_
  refine Go.st (fun t k => XS.aloadN X0.here hx rfl (hb hby d13_0) rfl rfl k) ?_
  show Go p e below _ (s₁.setTop (mkF m 1 #[.val (.ref a1)] [(.ref a1)]))
  refine Go.st (fun t k => XS.iconst X0.here hx rfl (hb hby d13_1) k) ?_
  show Go p e below _ (s₁.setTop (mkF m 2 #[.val (.ref a1)] [(.int (1 : Int32)), (.ref a1)]))
  obtain ⟨T1, h1, X1, e1, W1, st1⟩ := putFN X0 hx hZ hown (w87 hw) Via.refl e0 P2 P1 (Or.inl (w88 hw)) (w2 hw) (ty := .boolean) (v' := (.int (1 : Int32))) (by decide) rfl (by decide) (g := (mkF m 2 #[.val (.ref a1)] [(.int (1 : Int32)), (.ref a1)])) rfl rfl (hb hby d13_2)
  have F1 : Fld Z h1 a1 "com/example/outbound_courier/outboundcourier/http/RequestHead" "close" "Z" (.int (1 : Int32)) := P2.same W1
  have N1 := Fr.snoc X1 N0 P3
  have O1 : Old Z n0 h1 := O0.wr W1 P3
  have K1 : Keep h0 h1 [a1] := (Keep.refl h0 [a1]).wr W1 (Or.inl (List.mem_of_getElem? (i := 0) rfl))
  refine Go.st st1 ?_
  show Go p e below _ (T1.setTop (mkF m 5 #[.val (.ref a1)] []))
  obtain ⟨fs, hr, hrun, hended, hWd, hsame⟩ := X1.leave (v := none) (fun _ => rfl)
  have c2 := (P4.other W1 (Or.inr (slot_ne (Or.inr (w62 hw)) (Or.inl (w88 hw)) (by decide) (t := (.object "java/util/List")) (t' := .boolean) (by decide) (by decide))))
  have c3 := (P5.other W1 (Or.inr (slot_ne (Or.inl (w65 hw)) (Or.inl (w88 hw)) (by decide) (t := .long) (t' := .boolean) (by decide) (by decide))))
  have c4 := (P6.other W1 (Or.inr (slot_ne (Or.inr (w67 hw)) (Or.inl (w88 hw)) (by decide) (t := (.object "java/lang/String")) (t' := .boolean) (by decide) (by decide))))
  have c5 := (P7.other W1 (Or.inr (slot_ne (Or.inr (w69 hw)) (Or.inl (w88 hw)) (by decide) (t := .int) (t' := .boolean) (by decide) (by decide))))
  have c6 := (P8.other W1 (Or.inr (slot_ne (Or.inl (w81 hw)) (Or.inl (w88 hw)) (by decide) (t := .boolean) (t' := .boolean) (by decide) (by decide))))
  have c7 := (P9.other W1 (Or.inr (slot_ne (Or.inl (w95 hw)) (Or.inl (w88 hw)) (by decide) (t := .boolean) (t' := .boolean) (by decide) (by decide))))
  refine ⟨_, _, ?_, hrun, hended, _, _, rfl, ?_, ⟨⟨_, rfl⟩, hWd, hsame.mono (by decide) (by decide)⟩⟩
  · exact X1.returnOut hx Bd.returns (hb hby d13_5) hr
  · show Q_rm13_3 Z a1 a2 a3 p4 h0 n0 _ T1.heap _
    rw [e1]
    exact ⟨rfl, N1, K1, F1, c2, c3, c4, c5, c6, c7⟩
def Q_rm14_6 (Z : State) (a1 : Addr) (a2 : Addr) (a3 : Addr) (p4 : Int32) (h0 : Heap) (n0 : Nat) (v : Option Value) (h : Heap) (L : List Loc) : Prop := v = none ∧ Fr n0 L ∧ Keep h0 h [a1] ∧ Fld Z h a1 "com/example/outbound_courier/outboundcourier/http/RequestHead" "expectsContinue" "Z" (.int (1 : Int32)) ∧ Fld Z h a1 "com/example/outbound_courier/outboundcourier/http/RequestHead" "fields" "Ljava/util/List;" (.ref a2) ∧ Fld Z h a1 "com/example/outbound_courier/outboundcourier/http/RequestHead" "contentLength" "J" (.long (-1 : Int64)) ∧ Fld Z h a1 "com/example/outbound_courier/outboundcourier/http/RequestHead" "method" "Ljava/lang/String;" (.ref a3) ∧ Fld Z h a1 "com/example/outbound_courier/outboundcourier/http/RequestHead" "version" "I" (.int p4) ∧ Fld Z h a1 "com/example/outbound_courier/outboundcourier/http/RequestHead" "chunked" "Z" (.int (1 : Int32)) ∧ Fld Z h a1 "com/example/outbound_courier/outboundcourier/http/RequestHead" "close" "Z" (.int (1 : Int32))
set_option maxRecDepth 65536 in
set_option maxHeartbeats 40000000 in
theorem rm14_6 (l : Launch) (Z : State) (a0 : Array Value) (hw : ∀ d ∈ tables_1, d.before a0 Z = true) (ws : List Jvm.Cond) (a1 : Addr) (a2 : Addr) (a3 : Addr) (p4 : Int32) (h0 : Heap) (n0 : Nat) (O0 : Old Z n0 h0) (P1 : Exa Z h0 a1 "com/example/outbound_courier/outboundcourier/http/RequestHead") (P2 : Fld Z h0 a1 "com/example/outbound_courier/outboundcourier/http/RequestHead" "expectsContinue" "Z" (.int (0 : Int32))) (P3 : n0 ≤ a1) (P4 : Fld Z h0 a1 "com/example/outbound_courier/outboundcourier/http/RequestHead" "fields" "Ljava/util/List;" (.ref a2)) (P5 : Fld Z h0 a1 "com/example/outbound_courier/outboundcourier/http/RequestHead" "contentLength" "J" (.long (-1 : Int64))) (P6 : Fld Z h0 a1 "com/example/outbound_courier/outboundcourier/http/RequestHead" "method" "Ljava/lang/String;" (.ref a3)) (P7 : Fld Z h0 a1 "com/example/outbound_courier/outboundcourier/http/RequestHead" "version" "I" (.int p4)) (P8 : Fld Z h0 a1 "com/example/outbound_courier/outboundcourier/http/RequestHead" "chunked" "Z" (.int (1 : Int32))) (P9 : Fld Z h0 a1 "com/example/outbound_courier/outboundcourier/http/RequestHead" "close" "Z" (.int (1 : Int32))) :
    MetFree l (⟨"com/example/outbound_courier/outboundcourier/http/RequestHead", "setExpectsContinue", "()V"⟩ : MethodName) (head1 (Jvm.Cond.code (⟨"com/example/outbound_courier/outboundcourier/http/RequestHead", "setExpectsContinue", "()V"⟩ : MethodName) prog_20_method_18_code 1 none :: ws) ({ frames := 0, cells := 0, slots := 0, locals := 0 } : Room)) (fun a U => a = #[(.ref a1)] ∧ Z.Warmed39 U.vm ∧ U.heap = h0) (fun _ _ _ _ _ => True) (fun _ U o U' => ∃ v L, o = .returned v ∧ Q_rm14_6 Z a1 a2 a3 p4 h0 n0 v U'.heap L ∧ FrameEnd U o U' L ({ frames := 0, cells := 0, slots := 0, locals := 0 } : Room).cells ({ frames := 0, cells := 0, slots := 0, locals := 0 } : Room).slots) := by
  refine MetFree.of_bodySF (plainFor_of_name pn_5) hisR ?_
  intro p e s m args below meth c s₁ Bd hml0 hP hK
  obtain ⟨rfl, hZ, hh⟩ := hP
  have hx := Bd.exec
  have hby := Bd.bytes
  have hml : c.maxLocals = 1 := hml0
  have hown : s.vm.findClass "com/example/outbound_courier/outboundcourier/http/RequestHead" = some m.cls := findClass_of_methodNamed Bd.named
  have hnm := (name_of_methodNamed Bd.named Bd.method).1
  have X0 : Stand p l e ({ frames := 0, cells := 0, slots := 0, locals := 0 } : Room) s m #[(.ref a1)] below meth c s₁ [] 0 0 := Stand.of_body Bd
  have e0 : s₁.heap = h0 := by rw [← hh, Bd.state]; rfl
  have N0 := Fr.nil n0
  refine Go.start (P := (fun o U' => ∃ v L, o = .returned v ∧ Q_rm14_6 Z a1 a2 a3 p4 h0 n0 v U'.heap L ∧ FrameEnd s o U' L ({ frames := 0, cells := 0, slots := 0, locals := 0 } : Room).cells ({ frames := 0, cells := 0, slots := 0, locals := 0 } : Room).slots)) (castTop (g' := (mkF m 0 #[.val (.ref a1)] [])) (by first | rfl | simp [entryFrame, mkF, argsToLocals, Value.category]) (T := s₁)) ?_
  refine Go.st (fun t k => XS.aloadN X0.here hx rfl (hb hby d14_0) rfl rfl k) ?_
  show Go p e below _ (s₁.setTop (mkF m 1 #[.val (.ref a1)] [(.ref a1)]))
  refine Go.st (fun t k => XS.iconst X0.here hx rfl (hb hby d14_1) k) ?_
  show Go p e below _ (s₁.setTop (mkF m 2 #[.val (.ref a1)] [(.int (1 : Int32)), (.ref a1)]))
  obtain ⟨T1, h1, X1, e1, W1, st1⟩ := putFN X0 hx hZ hown (w94 hw) Via.refl e0 P2 P1 (Or.inl (w95 hw)) (w2 hw) (ty := .boolean) (v' := (.int (1 : Int32))) (by decide) rfl (by decide) (g := (mkF m 2 #[.val (.ref a1)] [(.int (1 : Int32)), (.ref a1)])) rfl rfl (hb hby d14_2)
  have F1 : Fld Z h1 a1 "com/example/outbound_courier/outboundcourier/http/RequestHead" "expectsContinue" "Z" (.int (1 : Int32)) := P2.same W1
  have N1 := Fr.snoc X1 N0 P3
  have O1 : Old Z n0 h1 := O0.wr W1 P3
  have K1 : Keep h0 h1 [a1] := (Keep.refl h0 [a1]).wr W1 (Or.inl (List.mem_of_getElem? (i := 0) rfl))
  refine Go.st st1 ?_
  show Go p e below _ (T1.setTop (mkF m 5 #[.val (.ref a1)] []))
  obtain ⟨fs, hr, hrun, hended, hWd, hsame⟩ := X1.leave (v := none) (fun _ => rfl)
  have c2 := (P4.other W1 (Or.inr (slot_ne (Or.inr (w62 hw)) (Or.inl (w95 hw)) (by decide) (t := (.object "java/util/List")) (t' := .boolean) (by decide) (by decide))))
  have c3 := (P5.other W1 (Or.inr (slot_ne (Or.inl (w65 hw)) (Or.inl (w95 hw)) (by decide) (t := .long) (t' := .boolean) (by decide) (by decide))))
  have c4 := (P6.other W1 (Or.inr (slot_ne (Or.inr (w67 hw)) (Or.inl (w95 hw)) (by decide) (t := (.object "java/lang/String")) (t' := .boolean) (by decide) (by decide))))
  have c5 := (P7.other W1 (Or.inr (slot_ne (Or.inr (w69 hw)) (Or.inl (w95 hw)) (by decide) (t := .int) (t' := .boolean) (by decide) (by decide))))
  have c6 := (P8.other W1 (Or.inr (slot_ne (Or.inl (w81 hw)) (Or.inl (w95 hw)) (by decide) (t := .boolean) (t' := .boolean) (by decide) (by decide))))
  have c7 := (P9.other W1 (Or.inr (slot_ne (Or.inl (w88 hw)) (Or.inl (w95 hw)) (by decide) (t := .boolean) (t' := .boolean) (by decide) (by decide))))
  refine ⟨_, _, ?_, hrun, hended, _, _, rfl, ?_, ⟨⟨_, rfl⟩, hWd, hsame.mono (by decide) (by decide)⟩⟩
  · exact X1.returnOut hx Bd.returns (hb hby d14_5) hr
  · show Q_rm14_6 Z a1 a2 a3 p4 h0 n0 _ T1.heap _
    rw [e1]
    exact ⟨rfl, N1, K1, F1, c2, c3, c4, c5, c6, c7⟩
def Q_rm15_2 (Z : State) (a1 : Addr) (a2 : Addr) (q3 : Int64) (a4 : Addr) (p5 : Int32) (h0 : Heap) (n0 : Nat) (v : Option Value) (h : Heap) (L : List Loc) : Prop := v = none ∧ Fr n0 L ∧ Keep h0 h [a1] ∧ Fld Z h a1 "com/example/outbound_courier/outboundcourier/http/RequestHead" "chunked" "Z" (.int (1 : Int32)) ∧ Fld Z h a1 "com/example/outbound_courier/outboundcourier/http/RequestHead" "fields" "Ljava/util/List;" (.ref a2) ∧ Fld Z h a1 "com/example/outbound_courier/outboundcourier/http/RequestHead" "contentLength" "J" (.long q3) ∧ Fld Z h a1 "com/example/outbound_courier/outboundcourier/http/RequestHead" "method" "Ljava/lang/String;" (.ref a4) ∧ Fld Z h a1 "com/example/outbound_courier/outboundcourier/http/RequestHead" "version" "I" (.int p5) ∧ Fld Z h a1 "com/example/outbound_courier/outboundcourier/http/RequestHead" "close" "Z" (.int (0 : Int32)) ∧ Fld Z h a1 "com/example/outbound_courier/outboundcourier/http/RequestHead" "expectsContinue" "Z" (.int (0 : Int32))
set_option maxRecDepth 65536 in
set_option maxHeartbeats 40000000 in
theorem rm15_2 (l : Launch) (Z : State) (a0 : Array Value) (hw : ∀ d ∈ tables_1, d.before a0 Z = true) (ws : List Jvm.Cond) (a1 : Addr) (a2 : Addr) (q3 : Int64) (a4 : Addr) (p5 : Int32) (h0 : Heap) (n0 : Nat) (O0 : Old Z n0 h0) (P1 : Exa Z h0 a1 "com/example/outbound_courier/outboundcourier/http/RequestHead") (P2 : Fld Z h0 a1 "com/example/outbound_courier/outboundcourier/http/RequestHead" "chunked" "Z" (.int (0 : Int32))) (P3 : n0 ≤ a1) (P4 : Fld Z h0 a1 "com/example/outbound_courier/outboundcourier/http/RequestHead" "fields" "Ljava/util/List;" (.ref a2)) (P5 : Fld Z h0 a1 "com/example/outbound_courier/outboundcourier/http/RequestHead" "contentLength" "J" (.long q3)) (P6 : Fld Z h0 a1 "com/example/outbound_courier/outboundcourier/http/RequestHead" "method" "Ljava/lang/String;" (.ref a4)) (P7 : Fld Z h0 a1 "com/example/outbound_courier/outboundcourier/http/RequestHead" "version" "I" (.int p5)) (P8 : Fld Z h0 a1 "com/example/outbound_courier/outboundcourier/http/RequestHead" "close" "Z" (.int (0 : Int32))) (P9 : Fld Z h0 a1 "com/example/outbound_courier/outboundcourier/http/RequestHead" "expectsContinue" "Z" (.int (0 : Int32))) :
    MetFree l (⟨"com/example/outbound_courier/outboundcourier/http/RequestHead", "setChunked", "()V"⟩ : MethodName) (head1 (Jvm.Cond.code (⟨"com/example/outbound_courier/outboundcourier/http/RequestHead", "setChunked", "()V"⟩ : MethodName) prog_20_method_16_code 1 none :: ws) ({ frames := 0, cells := 0, slots := 0, locals := 0 } : Room)) (fun a U => a = #[(.ref a1)] ∧ Z.Warmed39 U.vm ∧ U.heap = h0) (fun _ _ _ _ _ => True) (fun _ U o U' => ∃ v L, o = .returned v ∧ Q_rm15_2 Z a1 a2 q3 a4 p5 h0 n0 v U'.heap L ∧ FrameEnd U o U' L ({ frames := 0, cells := 0, slots := 0, locals := 0 } : Room).cells ({ frames := 0, cells := 0, slots := 0, locals := 0 } : Room).slots) := by
  refine MetFree.of_bodySF (plainFor_of_name pn_5) hisR ?_
  intro p e s m args below meth c s₁ Bd hml0 hP hK
  obtain ⟨rfl, hZ, hh⟩ := hP
  have hx := Bd.exec
  have hby := Bd.bytes
  have hml : c.maxLocals = 1 := hml0
  have hown : s.vm.findClass "com/example/outbound_courier/outboundcourier/http/RequestHead" = some m.cls := findClass_of_methodNamed Bd.named
  have hnm := (name_of_methodNamed Bd.named Bd.method).1
  have X0 : Stand p l e ({ frames := 0, cells := 0, slots := 0, locals := 0 } : Room) s m #[(.ref a1)] below meth c s₁ [] 0 0 := Stand.of_body Bd
  have e0 : s₁.heap = h0 := by rw [← hh, Bd.state]; rfl
  have N0 := Fr.nil n0
  refine Go.start (P := (fun o U' => ∃ v L, o = .returned v ∧ Q_rm15_2 Z a1 a2 q3 a4 p5 h0 n0 v U'.heap L ∧ FrameEnd s o U' L ({ frames := 0, cells := 0, slots := 0, locals := 0 } : Room).cells ({ frames := 0, cells := 0, slots := 0, locals := 0 } : Room).slots)) (castTop (g' := (mkF m 0 #[.val (.ref a1)] [])) (by first | rfl | simp [entryFrame, mkF, argsToLocals, Value.category]) (T := s₁)) ?_
  refine Go.st (fun t k => XS.aloadN X0.here hx rfl (hb hby d15_0) rfl rfl k) ?_
  show Go p e below _ (s₁.setTop (mkF m 1 #[.val (.ref a1)] [(.ref a1)]))
  refine Go.st (fun t k => XS.iconst X0.here hx rfl (hb hby d15_1) k) ?_
  show Go p e below _ (s₁.setTop (mkF m 2 #[.val (.ref a1)] [(.int (1 : Int32)), (.ref a1)]))
  obtain ⟨T1, h1, X1, e1, W1, st1⟩ := putFN X0 hx hZ hown (w80 hw) Via.refl e0 P2 P1 (Or.inl (w81 hw)) (w2 hw) (ty := .boolean) (v' := (.int (1 : Int32))) (by decide) rfl (by decide) (g := (mkF m 2 #[.val (.ref a1)] [(.int (1 : Int32)), (.ref a1)])) rfl rfl (hb hby d15_2)
  have F1 : Fld Z h1 a1 "com/example/outbound_courier/outboundcourier/http/RequestHead" "chunked" "Z" (.int (1 : Int32)) := P2.same W1
  have N1 := Fr.snoc X1 N0 P3
  have O1 : Old Z n0 h1 := O0.wr W1 P3
  have K1 : Keep h0 h1 [a1] := (Keep.refl h0 [a1]).wr W1 (Or.inl (List.mem_of_getElem? (i := 0) rfl))
  refine Go.st st1 ?_
  show Go p e below _ (T1.setTop (mkF m 5 #[.val (.ref a1)] []))
  obtain ⟨fs, hr, hrun, hended, hWd, hsame⟩ := X1.leave (v := none) (fun _ => rfl)
  have c2 := (P4.other W1 (Or.inr (slot_ne (Or.inr (w62 hw)) (Or.inl (w81 hw)) (by decide) (t := (.object "java/util/List")) (t' := .boolean) (by decide) (by decide))))
  have c3 := (P5.other W1 (Or.inr (slot_ne (Or.inl (w65 hw)) (Or.inl (w81 hw)) (by decide) (t := .long) (t' := .boolean) (by decide) (by decide))))
  have c4 := (P6.other W1 (Or.inr (slot_ne (Or.inr (w67 hw)) (Or.inl (w81 hw)) (by decide) (t := (.object "java/lang/String")) (t' := .boolean) (by decide) (by decide))))
  have c5 := (P7.other W1 (Or.inr (slot_ne (Or.inr (w69 hw)) (Or.inl (w81 hw)) (by decide) (t := .int) (t' := .boolean) (by decide) (by decide))))
  have c6 := (P8.other W1 (Or.inr (slot_ne (Or.inl (w88 hw)) (Or.inl (w81 hw)) (by decide) (t := .boolean) (t' := .boolean) (by decide) (by decide))))
  have c7 := (P9.other W1 (Or.inr (slot_ne (Or.inl (w95 hw)) (Or.inl (w81 hw)) (by decide) (t := .boolean) (t' := .boolean) (by decide) (by decide))))
  refine ⟨_, _, ?_, hrun, hended, _, _, rfl, ?_, ⟨⟨_, rfl⟩, hWd, hsame.mono (by decide) (by decide)⟩⟩
  · exact X1.returnOut hx Bd.returns (hb hby d15_5) hr
  · show Q_rm15_2 Z a1 a2 q3 a4 p5 h0 n0 _ T1.heap _
    rw [e1]
    exact ⟨rfl, N1, K1, F1, c2, c3, c4, c5, c6, c7⟩
def Q_rm14_7 (Z : State) (a1 : Addr) (a2 : Addr) (q3 : Int64) (a4 : Addr) (p5 : Int32) (h0 : Heap) (n0 : Nat) (v : Option Value) (h : Heap) (L : List Loc) : Prop := v = none ∧ Fr n0 L ∧ Keep h0 h [a1] ∧ Fld Z h a1 "com/example/outbound_courier/outboundcourier/http/RequestHead" "expectsContinue" "Z" (.int (1 : Int32)) ∧ Fld Z h a1 "com/example/outbound_courier/outboundcourier/http/RequestHead" "fields" "Ljava/util/List;" (.ref a2) ∧ Fld Z h a1 "com/example/outbound_courier/outboundcourier/http/RequestHead" "contentLength" "J" (.long q3) ∧ Fld Z h a1 "com/example/outbound_courier/outboundcourier/http/RequestHead" "method" "Ljava/lang/String;" (.ref a4) ∧ Fld Z h a1 "com/example/outbound_courier/outboundcourier/http/RequestHead" "version" "I" (.int p5) ∧ Fld Z h a1 "com/example/outbound_courier/outboundcourier/http/RequestHead" "chunked" "Z" (.int (1 : Int32)) ∧ Fld Z h a1 "com/example/outbound_courier/outboundcourier/http/RequestHead" "close" "Z" (.int (0 : Int32))
set_option maxRecDepth 65536 in
set_option maxHeartbeats 40000000 in
theorem rm14_7 (l : Launch) (Z : State) (a0 : Array Value) (hw : ∀ d ∈ tables_1, d.before a0 Z = true) (ws : List Jvm.Cond) (a1 : Addr) (a2 : Addr) (q3 : Int64) (a4 : Addr) (p5 : Int32) (h0 : Heap) (n0 : Nat) (O0 : Old Z n0 h0) (P1 : Exa Z h0 a1 "com/example/outbound_courier/outboundcourier/http/RequestHead") (P2 : Fld Z h0 a1 "com/example/outbound_courier/outboundcourier/http/RequestHead" "expectsContinue" "Z" (.int (0 : Int32))) (P3 : n0 ≤ a1) (P4 : Fld Z h0 a1 "com/example/outbound_courier/outboundcourier/http/RequestHead" "fields" "Ljava/util/List;" (.ref a2)) (P5 : Fld Z h0 a1 "com/example/outbound_courier/outboundcourier/http/RequestHead" "contentLength" "J" (.long q3)) (P6 : Fld Z h0 a1 "com/example/outbound_courier/outboundcourier/http/RequestHead" "method" "Ljava/lang/String;" (.ref a4)) (P7 : Fld Z h0 a1 "com/example/outbound_courier/outboundcourier/http/RequestHead" "version" "I" (.int p5)) (P8 : Fld Z h0 a1 "com/example/outbound_courier/outboundcourier/http/RequestHead" "chunked" "Z" (.int (1 : Int32))) (P9 : Fld Z h0 a1 "com/example/outbound_courier/outboundcourier/http/RequestHead" "close" "Z" (.int (0 : Int32))) :
    MetFree l (⟨"com/example/outbound_courier/outboundcourier/http/RequestHead", "setExpectsContinue", "()V"⟩ : MethodName) (head1 (Jvm.Cond.code (⟨"com/example/outbound_courier/outboundcourier/http/RequestHead", "setExpectsContinue", "()V"⟩ : MethodName) prog_20_method_18_code 1 none :: ws) ({ frames := 0, cells := 0, slots := 0, locals := 0 } : Room)) (fun a U => a = #[(.ref a1)] ∧ Z.Warmed39 U.vm ∧ U.heap = h0) (fun _ _ _ _ _ => True) (fun _ U o U' => ∃ v L, o = .returned v ∧ Q_rm14_7 Z a1 a2 q3 a4 p5 h0 n0 v U'.heap L ∧ FrameEnd U o U' L ({ frames := 0, cells := 0, slots := 0, locals := 0 } : Room).cells ({ frames := 0, cells := 0, slots := 0, locals := 0 } : Room).slots) := by
  refine MetFree.of_bodySF (plainFor_of_name pn_5) hisR ?_
  intro p e s m args below meth c s₁ Bd hml0 hP hK
  obtain ⟨rfl, hZ, hh⟩ := hP
  have hx := Bd.exec
  have hby := Bd.bytes
  have hml : c.maxLocals = 1 := hml0
  have hown : s.vm.findClass "com/example/outbound_courier/outboundcourier/http/RequestHead" = some m.cls := findClass_of_methodNamed Bd.named
  have hnm := (name_of_methodNamed Bd.named Bd.method).1
  have X0 : Stand p l e ({ frames := 0, cells := 0, slots := 0, locals := 0 } : Room) s m #[(.ref a1)] below meth c s₁ [] 0 0 := Stand.of_body Bd
  have e0 : s₁.heap = h0 := by rw [← hh, Bd.state]; rfl
  have N0 := Fr.nil n0
  refine Go.start (P := (fun o U' => ∃ v L, o = .returned v ∧ Q_rm14_7 Z a1 a2 q3 a4 p5 h0 n0 v U'.heap L ∧ FrameEnd s o U' L ({ frames := 0, cells := 0, slots := 0, locals := 0 } : Room).cells ({ frames := 0, cells := 0, slots := 0, locals := 0 } : Room).slots)) (castTop (g' := (mkF m 0 #[.val (.ref a1)] [])) (by first | rfl | simp [entryFrame, mkF, argsToLocals, Value.category]) (T := s₁)) ?_
  refine Go.st (fun t k => XS.aloadN X0.here hx rfl (hb hby d14_0) rfl rfl k) ?_
  show Go p e below _ (s₁.setTop (mkF m 1 #[.val (.ref a1)] [(.ref a1)]))
  refine Go.st (fun t k => XS.iconst X0.here hx rfl (hb hby d14_1) k) ?_
  show Go p e below _ (s₁.setTop (mkF m 2 #[.val (.ref a1)] [(.int (1 : Int32)), (.ref a1)]))
  obtain ⟨T1, h1, X1, e1, W1, st1⟩ := putFN X0 hx hZ hown (w94 hw) Via.refl e0 P2 P1 (Or.inl (w95 hw)) (w2 hw) (ty := .boolean) (v' := (.int (1 : Int32))) (by decide) rfl (by decide) (g := (mkF m 2 #[.val (.ref a1)] [(.int (1 : Int32)), (.ref a1)])) rfl rfl (hb hby d14_2)
  have F1 : Fld Z h1 a1 "com/example/outbound_courier/outboundcourier/http/RequestHead" "expectsContinue" "Z" (.int (1 : Int32)) := P2.same W1
  have N1 := Fr.snoc X1 N0 P3
  have O1 : Old Z n0 h1 := O0.wr W1 P3
  have K1 : Keep h0 h1 [a1] := (Keep.refl h0 [a1]).wr W1 (Or.inl (List.mem_of_getElem? (i := 0) rfl))
  refine Go.st st1 ?_
  show Go p e below _ (T1.setTop (mkF m 5 #[.val (.ref a1)] []))
  obtain ⟨fs, hr, hrun, hended, hWd, hsame⟩ := X1.leave (v := none) (fun _ => rfl)
  have c2 := (P4.other W1 (Or.inr (slot_ne (Or.inr (w62 hw)) (Or.inl (w95 hw)) (by decide) (t := (.object "java/util/List")) (t' := .boolean) (by decide) (by decide))))
  have c3 := (P5.other W1 (Or.inr (slot_ne (Or.inl (w65 hw)) (Or.inl (w95 hw)) (by decide) (t := .long) (t' := .boolean) (by decide) (by decide))))
  have c4 := (P6.other W1 (Or.inr (slot_ne (Or.inr (w67 hw)) (Or.inl (w95 hw)) (by decide) (t := (.object "java/lang/String")) (t' := .boolean) (by decide) (by decide))))
  have c5 := (P7.other W1 (Or.inr (slot_ne (Or.inr (w69 hw)) (Or.inl (w95 hw)) (by decide) (t := .int) (t' := .boolean) (by decide) (by decide))))
  have c6 := (P8.other W1 (Or.inr (slot_ne (Or.inl (w81 hw)) (Or.inl (w95 hw)) (by decide) (t := .boolean) (t' := .boolean) (by decide) (by decide))))
  have c7 := (P9.other W1 (Or.inr (slot_ne (Or.inl (w88 hw)) (Or.inl (w95 hw)) (by decide) (t := .boolean) (t' := .boolean) (by decide) (by decide))))
  refine ⟨_, _, ?_, hrun, hended, _, _, rfl, ?_, ⟨⟨_, rfl⟩, hWd, hsame.mono (by decide) (by decide)⟩⟩
  · exact X1.returnOut hx Bd.returns (hb hby d14_5) hr
  · show Q_rm14_7 Z a1 a2 q3 a4 p5 h0 n0 _ T1.heap _
    rw [e1]
    exact ⟨rfl, N1, K1, F1, c2, c3, c4, c5, c6, c7⟩
def Q_rm13_4 (Z : State) (a1 : Addr) (a2 : Addr) (q3 : Int64) (a4 : Addr) (p5 : Int32) (h0 : Heap) (n0 : Nat) (v : Option Value) (h : Heap) (L : List Loc) : Prop := v = none ∧ Fr n0 L ∧ Keep h0 h [a1] ∧ Fld Z h a1 "com/example/outbound_courier/outboundcourier/http/RequestHead" "close" "Z" (.int (1 : Int32)) ∧ Fld Z h a1 "com/example/outbound_courier/outboundcourier/http/RequestHead" "fields" "Ljava/util/List;" (.ref a2) ∧ Fld Z h a1 "com/example/outbound_courier/outboundcourier/http/RequestHead" "contentLength" "J" (.long q3) ∧ Fld Z h a1 "com/example/outbound_courier/outboundcourier/http/RequestHead" "method" "Ljava/lang/String;" (.ref a4) ∧ Fld Z h a1 "com/example/outbound_courier/outboundcourier/http/RequestHead" "version" "I" (.int p5) ∧ Fld Z h a1 "com/example/outbound_courier/outboundcourier/http/RequestHead" "chunked" "Z" (.int (1 : Int32)) ∧ Fld Z h a1 "com/example/outbound_courier/outboundcourier/http/RequestHead" "expectsContinue" "Z" (.int (0 : Int32))
set_option maxRecDepth 65536 in
set_option maxHeartbeats 40000000 in
theorem rm13_4 (l : Launch) (Z : State) (a0 : Array Value) (hw : ∀ d ∈ tables_1, d.before a0 Z = true) (ws : List Jvm.Cond) (a1 : Addr) (a2 : Addr) (q3 : Int64) (a4 : Addr) (p5 : Int32) (h0 : Heap) (n0 : Nat) (O0 : Old Z n0 h0) (P1 : Exa Z h0 a1 "com/example/outbound_courier/outboundcourier/http/RequestHead") (P2 : Fld Z h0 a1 "com/example/outbound_courier/outboundcourier/http/RequestHead" "close" "Z" (.int (0 : Int32))) (P3 : n0 ≤ a1) (P4 : Fld Z h0 a1 "com/example/outbound_courier/outboundcourier/http/RequestHead" "fields" "Ljava/util/List;" (.ref a2)) (P5 : Fld Z h0 a1 "com/example/outbound_courier/outboundcourier/http/RequestHead" "contentLength" "J" (.long q3)) (P6 : Fld Z h0 a1 "com/example/outbound_courier/outboundcourier/http/RequestHead" "method" "Ljava/lang/String;" (.ref a4)) (P7 : Fld Z h0 a1 "com/example/outbound_courier/outboundcourier/http/RequestHead" "version" "I" (.int p5)) (P8 : Fld Z h0 a1 "com/example/outbound_courier/outboundcourier/http/RequestHead" "chunked" "Z" (.int (1 : Int32))) (P9 : Fld Z h0 a1 "com/example/outbound_courier/outboundcourier/http/RequestHead" "expectsContinue" "Z" (.int (0 : Int32))) :
    MetFree l (⟨"com/example/outbound_courier/outboundcourier/http/RequestHead", "setClose", "()V"⟩ : MethodName) (head1 (Jvm.Cond.code (⟨"com/example/outbound_courier/outboundcourier/http/RequestHead", "setClose", "()V"⟩ : MethodName) prog_20_method_17_code 1 none :: ws) ({ frames := 0, cells := 0, slots := 0, locals := 0 } : Room)) (fun a U => a = #[(.ref a1)] ∧ Z.Warmed39 U.vm ∧ U.heap = h0) (fun _ _ _ _ _ => True) (fun _ U o U' => ∃ v L, o = .returned v ∧ Q_rm13_4 Z a1 a2 q3 a4 p5 h0 n0 v U'.heap L ∧ FrameEnd U o U' L ({ frames := 0, cells := 0, slots := 0, locals := 0 } : Room).cells ({ frames := 0, cells := 0, slots := 0, locals := 0 } : Room).slots) := by
  refine MetFree.of_bodySF (plainFor_of_name pn_5) hisR ?_
  intro p e s m args below meth c s₁ Bd hml0 hP hK
  obtain ⟨rfl, hZ, hh⟩ := hP
  have hx := Bd.exec
  have hby := Bd.bytes
  have hml : c.maxLocals = 1 := hml0
  have hown : s.vm.findClass "com/example/outbound_courier/outboundcourier/http/RequestHead" = some m.cls := findClass_of_methodNamed Bd.named
  have hnm := (name_of_methodNamed Bd.named Bd.method).1
  have X0 : Stand p l e ({ frames := 0, cells := 0, slots := 0, locals := 0 } : Room) s m #[(.ref a1)] below meth c s₁ [] 0 0 := Stand.of_body Bd
  have e0 : s₁.heap = h0 := by rw [← hh, Bd.state]; rfl
  have N0 := Fr.nil n0
  refine Go.start (P := (fun o U' => ∃ v L, o = .returned v ∧ Q_rm13_4 Z a1 a2 q3 a4 p5 h0 n0 v U'.heap L ∧ FrameEnd s o U' L ({ frames := 0, cells := 0, slots := 0, locals := 0 } : Room).cells ({ frames := 0, cells := 0, slots := 0, locals := 0 } : Room).slots)) (castTop (g' := (mkF m 0 #[.val (.ref a1)] [])) (by first | rfl | simp [entryFrame, mkF, argsToLocals, Value.category]) (T := s₁)) ?_
  refine Go.st (fun t k => XS.aloadN X0.here hx rfl (hb hby d13_0) rfl rfl k) ?_
  show Go p e below _ (s₁.setTop (mkF m 1 #[.val (.ref a1)] [(.ref a1)]))
  refine Go.st (fun t k => XS.iconst X0.here hx rfl (hb hby d13_1) k) ?_
  show Go p e below _ (s₁.setTop (mkF m 2 #[.val (.ref a1)] [(.int (1 : Int32)), (.ref a1)]))
  obtain ⟨T1, h1, X1, e1, W1, st1⟩ := putFN X0 hx hZ hown (w87 hw) Via.refl e0 P2 P1 (Or.inl (w88 hw)) (w2 hw) (ty := .boolean) (v' := (.int (1 : Int32))) (by decide) rfl (by decide) (g := (mkF m 2 #[.val (.ref a1)] [(.int (1 : Int32)), (.ref a1)])) rfl rfl (hb hby d13_2)
  have F1 : Fld Z h1 a1 "com/example/outbound_courier/outboundcourier/http/RequestHead" "close" "Z" (.int (1 : Int32)) := P2.same W1
  have N1 := Fr.snoc X1 N0 P3
  have O1 : Old Z n0 h1 := O0.wr W1 P3
  have K1 : Keep h0 h1 [a1] := (Keep.refl h0 [a1]).wr W1 (Or.inl (List.mem_of_getElem? (i := 0) rfl))
  refine Go.st st1 ?_
  show Go p e below _ (T1.setTop (mkF m 5 #[.val (.ref a1)] []))
  obtain ⟨fs, hr, hrun, hended, hWd, hsame⟩ := X1.leave (v := none) (fun _ => rfl)
  have c2 := (P4.other W1 (Or.inr (slot_ne (Or.inr (w62 hw)) (Or.inl (w88 hw)) (by decide) (t := (.object "java/util/List")) (t' := .boolean) (by decide) (by decide))))
  have c3 := (P5.other W1 (Or.inr (slot_ne (Or.inl (w65 hw)) (Or.inl (w88 hw)) (by decide) (t := .long) (t' := .boolean) (by decide) (by decide))))
  have c4 := (P6.other W1 (Or.inr (slot_ne (Or.inr (w67 hw)) (Or.inl (w88 hw)) (by decide) (t := (.object "java/lang/String")) (t' := .boolean) (by decide) (by decide))))
  have c5 := (P7.other W1 (Or.inr (slot_ne (Or.inr (w69 hw)) (Or.inl (w88 hw)) (by decide) (t := .int) (t' := .boolean) (by decide) (by decide))))
  have c6 := (P8.other W1 (Or.inr (slot_ne (Or.inl (w81 hw)) (Or.inl (w88 hw)) (by decide) (t := .boolean) (t' := .boolean) (by decide) (by decide))))
  have c7 := (P9.other W1 (Or.inr (slot_ne (Or.inl (w95 hw)) (Or.inl (w88 hw)) (by decide) (t := .boolean) (t' := .boolean) (by decide) (by decide))))
  refine ⟨_, _, ?_, hrun, hended, _, _, rfl, ?_, ⟨⟨_, rfl⟩, hWd, hsame.mono (by decide) (by decide)⟩⟩
  · exact X1.returnOut hx Bd.returns (hb hby d13_5) hr
  · show Q_rm13_4 Z a1 a2 q3 a4 p5 h0 n0 _ T1.heap _
    rw [e1]
    exact ⟨rfl, N1, K1, F1, c2, c3, c4, c5, c6, c7⟩
def Q_rm14_8 (Z : State) (a1 : Addr) (a2 : Addr) (q3 : Int64) (a4 : Addr) (p5 : Int32) (h0 : Heap) (n0 : Nat) (v : Option Value) (h : Heap) (L : List Loc) : Prop := v = none ∧ Fr n0 L ∧ Keep h0 h [a1] ∧ Fld Z h a1 "com/example/outbound_courier/outboundcourier/http/RequestHead" "expectsContinue" "Z" (.int (1 : Int32)) ∧ Fld Z h a1 "com/example/outbound_courier/outboundcourier/http/RequestHead" "fields" "Ljava/util/List;" (.ref a2) ∧ Fld Z h a1 "com/example/outbound_courier/outboundcourier/http/RequestHead" "contentLength" "J" (.long q3) ∧ Fld Z h a1 "com/example/outbound_courier/outboundcourier/http/RequestHead" "method" "Ljava/lang/String;" (.ref a4) ∧ Fld Z h a1 "com/example/outbound_courier/outboundcourier/http/RequestHead" "version" "I" (.int p5) ∧ Fld Z h a1 "com/example/outbound_courier/outboundcourier/http/RequestHead" "chunked" "Z" (.int (1 : Int32)) ∧ Fld Z h a1 "com/example/outbound_courier/outboundcourier/http/RequestHead" "close" "Z" (.int (1 : Int32))
set_option maxRecDepth 65536 in
set_option maxHeartbeats 40000000 in
theorem rm14_8 (l : Launch) (Z : State) (a0 : Array Value) (hw : ∀ d ∈ tables_1, d.before a0 Z = true) (ws : List Jvm.Cond) (a1 : Addr) (a2 : Addr) (q3 : Int64) (a4 : Addr) (p5 : Int32) (h0 : Heap) (n0 : Nat) (O0 : Old Z n0 h0) (P1 : Exa Z h0 a1 "com/example/outbound_courier/outboundcourier/http/RequestHead") (P2 : Fld Z h0 a1 "com/example/outbound_courier/outboundcourier/http/RequestHead" "expectsContinue" "Z" (.int (0 : Int32))) (P3 : n0 ≤ a1) (P4 : Fld Z h0 a1 "com/example/outbound_courier/outboundcourier/http/RequestHead" "fields" "Ljava/util/List;" (.ref a2)) (P5 : Fld Z h0 a1 "com/example/outbound_courier/outboundcourier/http/RequestHead" "contentLength" "J" (.long q3)) (P6 : Fld Z h0 a1 "com/example/outbound_courier/outboundcourier/http/RequestHead" "method" "Ljava/lang/String;" (.ref a4)) (P7 : Fld Z h0 a1 "com/example/outbound_courier/outboundcourier/http/RequestHead" "version" "I" (.int p5)) (P8 : Fld Z h0 a1 "com/example/outbound_courier/outboundcourier/http/RequestHead" "chunked" "Z" (.int (1 : Int32))) (P9 : Fld Z h0 a1 "com/example/outbound_courier/outboundcourier/http/RequestHead" "close" "Z" (.int (1 : Int32))) :
    MetFree l (⟨"com/example/outbound_courier/outboundcourier/http/RequestHead", "setExpectsContinue", "()V"⟩ : MethodName) (head1 (Jvm.Cond.code (⟨"com/example/outbound_courier/outboundcourier/http/RequestHead", "setExpectsContinue", "()V"⟩ : MethodName) prog_20_method_18_code 1 none :: ws) ({ frames := 0, cells := 0, slots := 0, locals := 0 } : Room)) (fun a U => a = #[(.ref a1)] ∧ Z.Warmed39 U.vm ∧ U.heap = h0) (fun _ _ _ _ _ => True) (fun _ U o U' => ∃ v L, o = .returned v ∧ Q_rm14_8 Z a1 a2 q3 a4 p5 h0 n0 v U'.heap L ∧ FrameEnd U o U' L ({ frames := 0, cells := 0, slots := 0, locals := 0 } : Room).cells ({ frames := 0, cells := 0, slots := 0, locals := 0 } : Room).slots) := by
  refine MetFree.of_bodySF (plainFor_of_name pn_5) hisR ?_
  intro p e s m args below meth c s₁ Bd hml0 hP hK
  obtain ⟨rfl, hZ, hh⟩ := hP
  have hx := Bd.exec
  have hby := Bd.bytes
  have hml : c.maxLocals = 1 := hml0
  have hown : s.vm.findClass "com/example/outbound_courier/outboundcourier/http/RequestHead" = some m.cls := findClass_of_methodNamed Bd.named
  have hnm := (name_of_methodNamed Bd.named Bd.method).1
  have X0 : Stand p l e ({ frames := 0, cells := 0, slots := 0, locals := 0 } : Room) s m #[(.ref a1)] below meth c s₁ [] 0 0 := Stand.of_body Bd
  have e0 : s₁.heap = h0 := by rw [← hh, Bd.state]; rfl
  have N0 := Fr.nil n0
  refine Go.start (P := (fun o U' => ∃ v L, o = .returned v ∧ Q_rm14_8 Z a1 a2 q3 a4 p5 h0 n0 v U'.heap L ∧ FrameEnd s o U' L ({ frames := 0, cells := 0, slots := 0, locals := 0 } : Room).cells ({ frames := 0, cells := 0, slots := 0, locals := 0 } : Room).slots)) (castTop (g' := (mkF m 0 #[.val (.ref a1)] [])) (by first | rfl | simp [entryFrame, mkF, argsToLocals, Value.category]) (T := s₁)) ?_
  refine Go.st (fun t k => XS.aloadN X0.here hx rfl (hb hby d14_0) rfl rfl k) ?_
  show Go p e below _ (s₁.setTop (mkF m 1 #[.val (.ref a1)] [(.ref a1)]))
  refine Go.st (fun t k => XS.iconst X0.here hx rfl (hb hby d14_1) k) ?_
  show Go p e below _ (s₁.setTop (mkF m 2 #[.val (.ref a1)] [(.int (1 : Int32)), (.ref a1)]))
  obtain ⟨T1, h1, X1, e1, W1, st1⟩ := putFN X0 hx hZ hown (w94 hw) Via.refl e0 P2 P1 (Or.inl (w95 hw)) (w2 hw) (ty := .boolean) (v' := (.int (1 : Int32))) (by decide) rfl (by decide) (g := (mkF m 2 #[.val (.ref a1)] [(.int (1 : Int32)), (.ref a1)])) rfl rfl (hb hby d14_2)
  have F1 : Fld Z h1 a1 "com/example/outbound_courier/outboundcourier/http/RequestHead" "expectsContinue" "Z" (.int (1 : Int32)) := P2.same W1
  have N1 := Fr.snoc X1 N0 P3
  have O1 : Old Z n0 h1 := O0.wr W1 P3
  have K1 : Keep h0 h1 [a1] := (Keep.refl h0 [a1]).wr W1 (Or.inl (List.mem_of_getElem? (i := 0) rfl))
  refine Go.st st1 ?_
  show Go p e below _ (T1.setTop (mkF m 5 #[.val (.ref a1)] []))
  obtain ⟨fs, hr, hrun, hended, hWd, hsame⟩ := X1.leave (v := none) (fun _ => rfl)
  have c2 := (P4.other W1 (Or.inr (slot_ne (Or.inr (w62 hw)) (Or.inl (w95 hw)) (by decide) (t := (.object "java/util/List")) (t' := .boolean) (by decide) (by decide))))
  have c3 := (P5.other W1 (Or.inr (slot_ne (Or.inl (w65 hw)) (Or.inl (w95 hw)) (by decide) (t := .long) (t' := .boolean) (by decide) (by decide))))
  have c4 := (P6.other W1 (Or.inr (slot_ne (Or.inr (w67 hw)) (Or.inl (w95 hw)) (by decide) (t := (.object "java/lang/String")) (t' := .boolean) (by decide) (by decide))))
  have c5 := (P7.other W1 (Or.inr (slot_ne (Or.inr (w69 hw)) (Or.inl (w95 hw)) (by decide) (t := .int) (t' := .boolean) (by decide) (by decide))))
  have c6 := (P8.other W1 (Or.inr (slot_ne (Or.inl (w81 hw)) (Or.inl (w95 hw)) (by decide) (t := .boolean) (t' := .boolean) (by decide) (by decide))))
  have c7 := (P9.other W1 (Or.inr (slot_ne (Or.inl (w88 hw)) (Or.inl (w95 hw)) (by decide) (t := .boolean) (t' := .boolean) (by decide) (by decide))))
  refine ⟨_, _, ?_, hrun, hended, _, _, rfl, ?_, ⟨⟨_, rfl⟩, hWd, hsame.mono (by decide) (by decide)⟩⟩
  · exact X1.returnOut hx Bd.returns (hb hby d14_5) hr
  · show Q_rm14_8 Z a1 a2 q3 a4 p5 h0 n0 _ T1.heap _
    rw [e1]
    exact ⟨rfl, N1, K1, F1, c2, c3, c4, c5, c6, c7⟩
def Q_rm11_2 (Z : State) (a1 : Addr) (q2 : Int64) (a3 : Addr) (a4 : Addr) (p5 : Int32) (h0 : Heap) (n0 : Nat) (v : Option Value) (h : Heap) (L : List Loc) : Prop := v = none ∧ Fr n0 L ∧ Keep h0 h [a1] ∧ Fld Z h a1 "com/example/outbound_courier/outboundcourier/http/RequestHead" "contentLength" "J" (.long q2) ∧ Fld Z h a1 "com/example/outbound_courier/outboundcourier/http/RequestHead" "fields" "Ljava/util/List;" (.ref a3) ∧ Fld Z h a1 "com/example/outbound_courier/outboundcourier/http/RequestHead" "method" "Ljava/lang/String;" (.ref a4) ∧ Fld Z h a1 "com/example/outbound_courier/outboundcourier/http/RequestHead" "version" "I" (.int p5) ∧ Fld Z h a1 "com/example/outbound_courier/outboundcourier/http/RequestHead" "chunked" "Z" (.int (1 : Int32)) ∧ Fld Z h a1 "com/example/outbound_courier/outboundcourier/http/RequestHead" "close" "Z" (.int (0 : Int32)) ∧ Fld Z h a1 "com/example/outbound_courier/outboundcourier/http/RequestHead" "expectsContinue" "Z" (.int (0 : Int32))
set_option maxRecDepth 65536 in
set_option maxHeartbeats 40000000 in
theorem rm11_2 (l : Launch) (Z : State) (a0 : Array Value) (hw : ∀ d ∈ tables_1, d.before a0 Z = true) (ws : List Jvm.Cond) (a1 : Addr) (q2 : Int64) (a3 : Addr) (a4 : Addr) (p5 : Int32) (h0 : Heap) (n0 : Nat) (O0 : Old Z n0 h0) (P1 : Exa Z h0 a1 "com/example/outbound_courier/outboundcourier/http/RequestHead") (P2 : Fld Z h0 a1 "com/example/outbound_courier/outboundcourier/http/RequestHead" "contentLength" "J" (.long (-1 : Int64))) (P3 : n0 ≤ a1) (P4 : Fld Z h0 a1 "com/example/outbound_courier/outboundcourier/http/RequestHead" "fields" "Ljava/util/List;" (.ref a3)) (P5 : Fld Z h0 a1 "com/example/outbound_courier/outboundcourier/http/RequestHead" "method" "Ljava/lang/String;" (.ref a4)) (P6 : Fld Z h0 a1 "com/example/outbound_courier/outboundcourier/http/RequestHead" "version" "I" (.int p5)) (P7 : Fld Z h0 a1 "com/example/outbound_courier/outboundcourier/http/RequestHead" "chunked" "Z" (.int (1 : Int32))) (P8 : Fld Z h0 a1 "com/example/outbound_courier/outboundcourier/http/RequestHead" "close" "Z" (.int (0 : Int32))) (P9 : Fld Z h0 a1 "com/example/outbound_courier/outboundcourier/http/RequestHead" "expectsContinue" "Z" (.int (0 : Int32))) :
    MetFree l (⟨"com/example/outbound_courier/outboundcourier/http/RequestHead", "setContentLength", "(J)V"⟩ : MethodName) (head1 (Jvm.Cond.code (⟨"com/example/outbound_courier/outboundcourier/http/RequestHead", "setContentLength", "(J)V"⟩ : MethodName) prog_20_method_15_code 3 none :: ws) ({ frames := 0, cells := 0, slots := 0, locals := 0 } : Room)) (fun a U => a = #[(.ref a1), (.long q2)] ∧ Z.Warmed39 U.vm ∧ U.heap = h0) (fun _ _ _ _ _ => True) (fun _ U o U' => ∃ v L, o = .returned v ∧ Q_rm11_2 Z a1 q2 a3 a4 p5 h0 n0 v U'.heap L ∧ FrameEnd U o U' L ({ frames := 0, cells := 0, slots := 0, locals := 0 } : Room).cells ({ frames := 0, cells := 0, slots := 0, locals := 0 } : Room).slots) := by
  refine MetFree.of_bodySF (plainFor_of_name pn_5) hisR ?_
  intro p e s m args below meth c s₁ Bd hml0 hP hK
  obtain ⟨rfl, hZ, hh⟩ := hP
  have hx := Bd.exec
  have hby := Bd.bytes
  have hml : c.maxLocals = 3 := hml0
  have hown : s.vm.findClass "com/example/outbound_courier/outboundcourier/http/RequestHead" = some m.cls := findClass_of_methodNamed Bd.named
  have hnm := (name_of_methodNamed Bd.named Bd.method).1
  have X0 : Stand p l e ({ frames := 0, cells := 0, slots := 0, locals := 0 } : Room) s m #[(.ref a1), (.long q2)] below meth c s₁ [] 0 0 := Stand.of_body Bd
  have e0 : s₁.heap = h0 := by rw [← hh, Bd.state]; rfl
  have N0 := Fr.nil n0
  refine Go.start (P := (fun o U' => ∃ v L, o = .returned v ∧ Q_rm11_2 Z a1 q2 a3 a4 p5 h0 n0 v U'.heap L ∧ FrameEnd s o U' L ({ frames := 0, cells := 0, slots := 0, locals := 0 } : Room).cells ({ frames := 0, cells := 0, slots := 0, locals := 0 } : Room).slots)) (castTop (g' := (mkF m 0 #[.val (.ref a1), .val (.long q2), .second] [])) (by first | rfl | simp [entryFrame, mkF, argsToLocals, Value.category]) (T := s₁)) ?_
  refine Go.st (fun t k => XS.aloadN X0.here hx rfl (hb hby d11_0) rfl rfl k) ?_
  show Go p e below _ (s₁.setTop (mkF m 1 #[.val (.ref a1), .val (.long q2), .second] [(.ref a1)]))
  refine Go.st (fun t k => XS.lloadN X0.here hx rfl (hb hby d11_1) rfl k) ?_
  show Go p e below _ (s₁.setTop (mkF m 2 #[.val (.ref a1), .val (.long q2), .second] [(.long q2), (.ref a1)]))
  obtain ⟨T1, h1, X1, e1, W1, st1⟩ := putF X0 hx hZ hown (host := "") (Or.inl (w64 hw)) Via.refl e0 P2 P1 (Or.inl (w65 hw)) (w2 hw) (ty := .long) (by decide) rfl rfl (g := (mkF m 2 #[.val (.ref a1), .val (.long q2), .second] [(.long q2), (.ref a1)])) rfl rfl (hb hby d11_2)
  have F1 : Fld Z h1 a1 "com/example/outbound_courier/outboundcourier/http/RequestHead" "contentLength" "J" (.long q2) := P2.same W1
  have N1 := Fr.snoc X1 N0 P3
  have O1 : Old Z n0 h1 := O0.wr W1 P3
  have K1 : Keep h0 h1 [a1] := (Keep.refl h0 [a1]).wr W1 (Or.inl (List.mem_of_getElem? (i := 0) rfl))
  refine Go.st st1 ?_
  show Go p e below _ (T1.setTop (mkF m 5 #[.val (.ref a1), .val (.long q2), .second] []))
  obtain ⟨fs, hr, hrun, hended, hWd, hsame⟩ := X1.leave (v := none) (fun _ => rfl)
  have c2 := (P4.other W1 (Or.inr (slot_ne (Or.inr (w62 hw)) (Or.inl (w65 hw)) (by decide) (t := (.object "java/util/List")) (t' := .long) (by decide) (by decide))))
  have c3 := (P5.other W1 (Or.inr (slot_ne (Or.inr (w67 hw)) (Or.inl (w65 hw)) (by decide) (t := (.object "java/lang/String")) (t' := .long) (by decide) (by decide))))
  have c4 := (P6.other W1 (Or.inr (slot_ne (Or.inr (w69 hw)) (Or.inl (w65 hw)) (by decide) (t := .int) (t' := .long) (by decide) (by decide))))
  have c5 := (P7.other W1 (Or.inr (slot_ne (Or.inl (w81 hw)) (Or.inl (w65 hw)) (by decide) (t := .boolean) (t' := .long) (by decide) (by decide))))
  have c6 := (P8.other W1 (Or.inr (slot_ne (Or.inl (w88 hw)) (Or.inl (w65 hw)) (by decide) (t := .boolean) (t' := .long) (by decide) (by decide))))
  have c7 := (P9.other W1 (Or.inr (slot_ne (Or.inl (w95 hw)) (Or.inl (w65 hw)) (by decide) (t := .boolean) (t' := .long) (by decide) (by decide))))
  refine ⟨_, _, ?_, hrun, hended, _, _, rfl, ?_, ⟨⟨_, rfl⟩, hWd, hsame.mono (by decide) (by decide)⟩⟩
  · exact X1.returnOut hx Bd.returns (hb hby d11_5) hr
  · show Q_rm11_2 Z a1 q2 a3 a4 p5 h0 n0 _ T1.heap _
    rw [e1]
    exact ⟨rfl, N1, K1, F1, c2, c3, c4, c5, c6, c7⟩
def Q_rm0 (n0 : Nat) (v : Option Value) (L : List Loc) : Prop := v = some (.int (1 : Int32)) ∧ Fr n0 L
set_option maxRecDepth 65536 in
set_option maxHeartbeats 400000000 in
theorem rm0 (l : Launch) (Z : State) (a0 : Array Value) (hw : ∀ d ∈ tables_1, d.before a0 Z = true) (ws : List Jvm.Cond) (i0 : Int64) (i1 : Int32) (i2 : Int32) (w1i : Int32) (w9a : Addr) (h0 : Heap) (n0 : Nat) (O0 : Old Z n0 h0) (Y3 : Sta Z Z.heap "java/lang/String" "COMPACT_STRINGS" "Z" (.int w1i)) (Y11 : Sta Z Z.heap "java/util/ArrayList" "DEFAULTCAPACITY_EMPTY_ELEMENTDATA" "[Ljava/lang/Object;" (.ref w9a)) (Y14 : ¬ (w1i = (0 : Int32))) :
    MetFree l x (head1 (Jvm.Cond.code x code maxLocals ret :: ws) room_1) (fun a U => a = #[(.long i0), (.int i1), (.int i2)] ∧ Z.Warmed39 U.vm ∧ U.heap = h0) (fun _ _ _ _ _ => True) (fun _ U o U' => ∃ v L, o = .returned v ∧ Q_rm0 n0 v L ∧ FrameEnd U o U' L room_1.cells room_1.slots) := by
  refine MetFree.of_bodySF (plainFor_of_name pn_6) hisR ?_
  intro p e s m args below meth c s₁ Bd hml0 hP hK
  obtain ⟨rfl, hZ, hh⟩ := hP
  have hx := Bd.exec
  have hby := Bd.bytes
  have hml : c.maxLocals = 13 := hml0
  have hown : s.vm.findClass "com/example/outbound_courier/outboundcourier/http/RequestHeadHasBodyPinLaw" = some m.cls := findClass_of_methodNamed Bd.named
  have hnm := (name_of_methodNamed Bd.named Bd.method).1
  have X0 : Stand p l e room_1 s m #[(.long i0), (.int i1), (.int i2)] below meth c s₁ [] 0 0 := Stand.of_body Bd
  have e0 : s₁.heap = h0 := by rw [← hh, Bd.state]; rfl
  have N0 := Fr.nil n0
  refine Go.start (P := (fun o U' => ∃ v L, o = .returned v ∧ Q_rm0 n0 v L ∧ FrameEnd s o U' L room_1.cells room_1.slots)) (castTop (g' := (mkF m 0 #[.val (.long i0), .second, .val (.int i1), .val (.int i2), .unset, .unset, .unset, .unset, .unset, .unset, .unset, .unset, .unset] [])) (by first | rfl | simp [entryFrame, mkF, argsToLocals, Value.category, maxLocals]) (T := s₁)) ?_
  have tail83 : ∀ (jz4 : Int32) (jz5 : Int32) (jz6 : Int32) (jz7 : Int32) (jz8 : Int32) (jz9 : Int32), Go p e below (fun o U' => ∃ v L, o = .returned v ∧ Q_rm0 n0 v L ∧ FrameEnd s o U' L room_1.cells room_1.slots) (s₁.setTop (mkF m 83 #[.val (.long i0), .second, .val (.int i1), .val (.int i2), .val (.int jz4), .val (.int jz5), .val (.int jz6), .val (.int jz7), .val (.int jz8), .val (.int jz9), .unset, .unset, .unset] [])) := by
    intro jz4 jz5 jz6 jz7 jz8 jz9
    refine Go.st (fun t k => XS.iconst X0.here hx rfl (hb hby at_83) k) ?_
    show Go p e below _ (s₁.setTop (mkF m 84 #[.val (.long i0), .second, .val (.int i1), .val (.int i2), .val (.int jz4), .val (.int jz5), .val (.int jz6), .val (.int jz7), .val (.int jz8), .val (.int jz9), .unset, .unset, .unset] [(.int (2 : Int32))]))
    obtain ⟨T1, h1, k1, X1, e1, E1, A1, st1⟩ := newP X0 hx hZ (aty := .char) (w0 hw) e0 (g := (mkF m 84 #[.val (.long i0), .second, .val (.int i1), .val (.int i2), .val (.int jz4), .val (.int jz5), .val (.int jz6), .val (.int jz7), .val (.int jz8), .val (.int jz9), .unset, .unset, .unset] [(.int (2 : Int32))])) rfl (hb hby at_84) rfl (by decide) (cap := 2) (by decide) (by decide) (by decide) (by decide)
    obtain ⟨b1, z1⟩ : ∃ z, z = h0.size := ⟨_, rfl⟩
    rw [← z1] at A1 st1
    have g_b1 : n0 ≤ b1 := Nat.le_trans (own_n0 O0) (Nat.le_of_eq z1.symm)
    have V1 : Arv Z h1 b1 k1 .char (2 : Int32) [(.int (0 : Int32)), (.int (0 : Int32))] (.int (0 : Int32)) := (Arv.new A1 (by decide)).pad (pad_rep [] (.int (0 : Int32)) 2)
    have O1 : Old Z n0 h1 := O0.ext E1
    refine Go.st st1 ?_
    show Go p e below _ (T1.setTop (mkF m 86 #[.val (.long i0), .second, .val (.int i1), .val (.int i2), .val (.int jz4), .val (.int jz5), .val (.int jz6), .val (.int jz7), .val (.int jz8), .val (.int jz9), .unset, .unset, .unset] [(.ref b1)]))
    refine Go.st (fun t k => XS.dup X1.here hx rfl (hb hby at_86) rfl rfl k) ?_
    show Go p e below _ (T1.setTop (mkF m 87 #[.val (.long i0), .second, .val (.int i1), .val (.int i2), .val (.int jz4), .val (.int jz5), .val (.int jz6), .val (.int jz7), .val (.int jz8), .val (.int jz9), .unset, .unset, .unset] [(.ref b1), (.ref b1)]))
    refine Go.st (fun t k => XS.iconst X1.here hx rfl (hb hby at_87) k) ?_
    show Go p e below _ (T1.setTop (mkF m 88 #[.val (.long i0), .second, .val (.int i1), .val (.int i2), .val (.int jz4), .val (.int jz5), .val (.int jz6), .val (.int jz7), .val (.int jz8), .val (.int jz9), .unset, .unset, .unset] [(.int (0 : Int32)), (.ref b1), (.ref b1)]))
    refine Go.st (fun t k => XS.iloadN X1.here hx rfl (hb hby at_88) rfl k) ?_
    show Go p e below _ (T1.setTop (mkF m 89 #[.val (.long i0), .second, .val (.int i1), .val (.int i2), .val (.int jz4), .val (.int jz5), .val (.int jz6), .val (.int jz7), .val (.int jz8), .val (.int jz9), .unset, .unset, .unset] [(.int i2), (.int (0 : Int32)), (.ref b1), (.ref b1)]))
    refine Go.st (fun t k => XS.sipush X1.here hx rfl (hb hby at_89) k) ?_
    show Go p e below _ (T1.setTop (mkF m 92 #[.val (.long i0), .second, .val (.int i1), .val (.int i2), .val (.int jz4), .val (.int jz5), .val (.int jz6), .val (.int jz7), .val (.int jz8), .val (.int jz9), .unset, .unset, .unset] [(.int (255 : Int32)), (.int i2), (.int (0 : Int32)), (.ref b1), (.ref b1)]))
    refine Go.st (fun t k => XS.iand X1.here hx rfl (hb hby at_92) rfl k) ?_
    show Go p e below _ (T1.setTop (mkF m 93 #[.val (.long i0), .second, .val (.int i1), .val (.int i2), .val (.int jz4), .val (.int jz5), .val (.int jz6), .val (.int jz7), .val (.int jz8), .val (.int jz9), .unset, .unset, .unset] [(.int (i2 &&& (255 : Int32))), (.int (0 : Int32)), (.ref b1), (.ref b1)]))
    refine Go.st (fun t k => XS.i2c X1.here hx rfl (hb hby at_93) rfl k) ?_
    show Go p e below _ (T1.setTop (mkF m 94 #[.val (.long i0), .second, .val (.int i1), .val (.int i2), .val (.int jz4), .val (.int jz5), .val (.int jz6), .val (.int jz7), .val (.int jz8), .val (.int jz9), .unset, .unset, .unset] [(.int ((i2 &&& (255 : Int32)).toUInt32.toUInt16.toUInt32.toInt32)), (.int (0 : Int32)), (.ref b1), (.ref b1)]))
    obtain ⟨cl2, Ar2, q2, S2, M2, H2, G2⟩ := id V1
    have hin2 : ¬ ((0 : Int32) < 0 ∨ cl2.slots.size ≤ ((0 : Int32)).toNatClampNeg) := inb_of S2 ⟨by decide, by decide⟩
    obtain ⟨T2, h2, X2, e2, W2, st2⟩ := stC X1 hx hZ e1 Ar2 (j := (0 : Int32)) hin2 (g := (mkF m 94 #[.val (.long i0), .second, .val (.int i1), .val (.int i2), .val (.int jz4), .val (.int jz5), .val (.int jz6), .val (.int jz7), .val (.int jz8), .val (.int jz9), .unset, .unset, .unset] [(.int ((i2 &&& (255 : Int32)).toUInt32.toUInt16.toUInt32.toInt32)), (.int (0 : Int32)), (.ref b1), (.ref b1)])) rfl rfl (hb hby at_94)
    have V2 : Arv Z h2 b1 k1 .char (2 : Int32) [(.int (((i2 &&& (255 : Int32)).toUInt32.toUInt16.toUInt32.toInt32).toUInt32.toUInt16.toUInt32.toInt32)), (.int (0 : Int32))] (.int (0 : Int32)) := Arv.set Ar2 q2 S2 M2 H2 G2 (fits_nar_char _) W2 0 rfl (Nat.le_of_ble_eq_true rfl)
    have N2 := Fr.snoc X2 N0 g_b1
    have O2 : Old Z n0 h2 := O1.wr W2 g_b1
    refine Go.st st2 ?_
    show Go p e below _ (T2.setTop (mkF m 95 #[.val (.long i0), .second, .val (.int i1), .val (.int i2), .val (.int jz4), .val (.int jz5), .val (.int jz6), .val (.int jz7), .val (.int jz8), .val (.int jz9), .unset, .unset, .unset] [(.ref b1)]))
    refine Go.st (fun t k => XS.dup X2.here hx rfl (hb hby at_95) rfl rfl k) ?_
    show Go p e below _ (T2.setTop (mkF m 96 #[.val (.long i0), .second, .val (.int i1), .val (.int i2), .val (.int jz4), .val (.int jz5), .val (.int jz6), .val (.int jz7), .val (.int jz8), .val (.int jz9), .unset, .unset, .unset] [(.ref b1), (.ref b1)]))
    refine Go.st (fun t k => XS.iconst X2.here hx rfl (hb hby at_96) k) ?_
    show Go p e below _ (T2.setTop (mkF m 97 #[.val (.long i0), .second, .val (.int i1), .val (.int i2), .val (.int jz4), .val (.int jz5), .val (.int jz6), .val (.int jz7), .val (.int jz8), .val (.int jz9), .unset, .unset, .unset] [(.int (1 : Int32)), (.ref b1), (.ref b1)]))
    refine Go.st (fun t k => XS.iloadN X2.here hx rfl (hb hby at_97) rfl k) ?_
    show Go p e below _ (T2.setTop (mkF m 98 #[.val (.long i0), .second, .val (.int i1), .val (.int i2), .val (.int jz4), .val (.int jz5), .val (.int jz6), .val (.int jz7), .val (.int jz8), .val (.int jz9), .unset, .unset, .unset] [(.int i2), (.int (1 : Int32)), (.ref b1), (.ref b1)]))
    refine Go.st (fun t k => XS.bipush X2.here hx rfl (hb hby at_98) k) ?_
    show Go p e below _ (T2.setTop (mkF m 100 #[.val (.long i0), .second, .val (.int i1), .val (.int i2), .val (.int jz4), .val (.int jz5), .val (.int jz6), .val (.int jz7), .val (.int jz8), .val (.int jz9), .unset, .unset, .unset] [(.int (8 : Int32)), (.int i2), (.int (1 : Int32)), (.ref b1), (.ref b1)]))
    refine Go.st (fun t k => XS.iushr X2.here hx rfl (hb hby at_100) rfl k) ?_
    show Go p e below _ (T2.setTop (mkF m 101 #[.val (.long i0), .second, .val (.int i1), .val (.int i2), .val (.int jz4), .val (.int jz5), .val (.int jz6), .val (.int jz7), .val (.int jz8), .val (.int jz9), .unset, .unset, .unset] [(.int ((i2.toUInt32 >>> ((8 : Int32) &&& 31).toUInt32).toInt32)), (.int (1 : Int32)), (.ref b1), (.ref b1)]))
    refine Go.st (fun t k => XS.sipush X2.here hx rfl (hb hby at_101) k) ?_
    show Go p e below _ (T2.setTop (mkF m 104 #[.val (.long i0), .second, .val (.int i1), .val (.int i2), .val (.int jz4), .val (.int jz5), .val (.int jz6), .val (.int jz7), .val (.int jz8), .val (.int jz9), .unset, .unset, .unset] [(.int (255 : Int32)), (.int ((i2.toUInt32 >>> ((8 : Int32) &&& 31).toUInt32).toInt32)), (.int (1 : Int32)), (.ref b1), (.ref b1)]))
    refine Go.st (fun t k => XS.iand X2.here hx rfl (hb hby at_104) rfl k) ?_
    show Go p e below _ (T2.setTop (mkF m 105 #[.val (.long i0), .second, .val (.int i1), .val (.int i2), .val (.int jz4), .val (.int jz5), .val (.int jz6), .val (.int jz7), .val (.int jz8), .val (.int jz9), .unset, .unset, .unset] [(.int (((i2.toUInt32 >>> ((8 : Int32) &&& 31).toUInt32).toInt32) &&& (255 : Int32))), (.int (1 : Int32)), (.ref b1), (.ref b1)]))
    refine Go.st (fun t k => XS.i2c X2.here hx rfl (hb hby at_105) rfl k) ?_
    show Go p e below _ (T2.setTop (mkF m 106 #[.val (.long i0), .second, .val (.int i1), .val (.int i2), .val (.int jz4), .val (.int jz5), .val (.int jz6), .val (.int jz7), .val (.int jz8), .val (.int jz9), .unset, .unset, .unset] [(.int ((((i2.toUInt32 >>> ((8 : Int32) &&& 31).toUInt32).toInt32) &&& (255 : Int32)).toUInt32.toUInt16.toUInt32.toInt32)), (.int (1 : Int32)), (.ref b1), (.ref b1)]))
    obtain ⟨cl3, Ar3, q3, S3, M3, H3, G3⟩ := id V2
    have hin3 : ¬ ((1 : Int32) < 0 ∨ cl3.slots.size ≤ ((1 : Int32)).toNatClampNeg) := inb_of S3 ⟨by decide, by decide⟩
    obtain ⟨T3, h3, X3, e3, W3, st3⟩ := stC X2 hx hZ e2 Ar3 (j := (1 : Int32)) hin3 (g := (mkF m 106 #[.val (.long i0), .second, .val (.int i1), .val (.int i2), .val (.int jz4), .val (.int jz5), .val (.int jz6), .val (.int jz7), .val (.int jz8), .val (.int jz9), .unset, .unset, .unset] [(.int ((((i2.toUInt32 >>> ((8 : Int32) &&& 31).toUInt32).toInt32) &&& (255 : Int32)).toUInt32.toUInt16.toUInt32.toInt32)), (.int (1 : Int32)), (.ref b1), (.ref b1)])) rfl rfl (hb hby at_106)
    have V3 : Arv Z h3 b1 k1 .char (2 : Int32) [(.int (((i2 &&& (255 : Int32)).toUInt32.toUInt16.toUInt32.toInt32).toUInt32.toUInt16.toUInt32.toInt32)), (.int (((((i2.toUInt32 >>> ((8 : Int32) &&& 31).toUInt32).toInt32) &&& (255 : Int32)).toUInt32.toUInt16.toUInt32.toInt32).toUInt32.toUInt16.toUInt32.toInt32))] (.int (0 : Int32)) := Arv.set Ar3 q3 S3 M3 H3 G3 (fits_nar_char _) W3 1 rfl (Nat.le_of_ble_eq_true rfl)
    have N3 := Fr.snoc X3 N2 g_b1
    have O3 : Old Z n0 h3 := O2.wr W3 g_b1
    refine Go.st st3 ?_
    show Go p e below _ (T3.setTop (mkF m 107 #[.val (.long i0), .second, .val (.int i1), .val (.int i2), .val (.int jz4), .val (.int jz5), .val (.int jz6), .val (.int jz7), .val (.int jz8), .val (.int jz9), .unset, .unset, .unset] [(.ref b1)]))
    refine Go.st (fun t k => XS.astore X3.here hx rfl (hb hby at_107) rfl rfl (l' := #[.val (.long i0), .second, .val (.int i1), .val (.int i2), .val (.int jz4), .val (.int jz5), .val (.int jz6), .val (.int jz7), .val (.int jz8), .val (.int jz9), .val (.ref b1), .unset, .unset]) rfl k) ?_
    show Go p e below _ (T3.setTop (mkF m 109 #[.val (.long i0), .second, .val (.int i1), .val (.int i2), .val (.int jz4), .val (.int jz5), .val (.int jz6), .val (.int jz7), .val (.int jz8), .val (.int jz9), .val (.ref b1), .unset, .unset] []))
    obtain ⟨T4, h4, X4, e4, E4, A4, D4, -, st4⟩ := newO X3 hx hZ hown (w1 hw) (w2 hw) (w3 hw) e3 (g := (mkF m 109 #[.val (.long i0), .second, .val (.int i1), .val (.int i2), .val (.int jz4), .val (.int jz5), .val (.int jz6), .val (.int jz7), .val (.int jz8), .val (.int jz9), .val (.ref b1), .unset, .unset] [])) rfl (hb hby at_109) (by decide) (by decide)
    obtain ⟨b4, z4⟩ : ∃ z, z = h3.size := ⟨_, rfl⟩
    rw [← z4] at A4 D4 st4
    have g_b4 : n0 ≤ b4 := Nat.le_trans (own_n0 O3) (Nat.le_of_eq z4.symm)
    have O4 : Old Z n0 h4 := O3.ext E4
    have f4_62 : Fld Z h4 b4 "com/example/outbound_courier/outboundcourier/http/RequestHead" "fields" "Ljava/util/List;" .null := D4 (Or.inr (w62 hw)) (ty := (.object "java/util/List")) (by decide)
    have f4_65 : Fld Z h4 b4 "com/example/outbound_courier/outboundcourier/http/RequestHead" "contentLength" "J" (.long (0 : Int64)) := D4 (Or.inl (w65 hw)) (ty := .long) (by decide)
    have f4_67 : Fld Z h4 b4 "com/example/outbound_courier/outboundcourier/http/RequestHead" "method" "Ljava/lang/String;" .null := D4 (Or.inr (w67 hw)) (ty := (.object "java/lang/String")) (by decide)
    have f4_69 : Fld Z h4 b4 "com/example/outbound_courier/outboundcourier/http/RequestHead" "version" "I" (.int (0 : Int32)) := D4 (Or.inr (w69 hw)) (ty := .int) (by decide)
    have f4_81 : Fld Z h4 b4 "com/example/outbound_courier/outboundcourier/http/RequestHead" "chunked" "Z" (.int (0 : Int32)) := D4 (Or.inl (w81 hw)) (ty := .boolean) (by decide)
    have f4_88 : Fld Z h4 b4 "com/example/outbound_courier/outboundcourier/http/RequestHead" "close" "Z" (.int (0 : Int32)) := D4 (Or.inl (w88 hw)) (ty := .boolean) (by decide)
    have f4_95 : Fld Z h4 b4 "com/example/outbound_courier/outboundcourier/http/RequestHead" "expectsContinue" "Z" (.int (0 : Int32)) := D4 (Or.inl (w95 hw)) (ty := .boolean) (by decide)
    refine Go.st st4 ?_
    show Go p e below _ (T4.setTop (mkF m 112 #[.val (.long i0), .second, .val (.int i1), .val (.int i2), .val (.int jz4), .val (.int jz5), .val (.int jz6), .val (.int jz7), .val (.int jz8), .val (.int jz9), .val (.ref b1), .unset, .unset] [(.ref b4)]))
    refine Go.st (fun t k => XS.dup X4.here hx rfl (hb hby at_112) rfl rfl k) ?_
    show Go p e below _ (T4.setTop (mkF m 113 #[.val (.long i0), .second, .val (.int i1), .val (.int i2), .val (.int jz4), .val (.int jz5), .val (.int jz6), .val (.int jz7), .val (.int jz8), .val (.int jz9), .val (.ref b1), .unset, .unset] [(.ref b4), (.ref b4)]))
    obtain ⟨T5, h5, X5, e5, E5, A5, D5, -, st5⟩ := newO X4 hx hZ hown (w4 hw) (w5 hw) (w6 hw) e4 (g := (mkF m 113 #[.val (.long i0), .second, .val (.int i1), .val (.int i2), .val (.int jz4), .val (.int jz5), .val (.int jz6), .val (.int jz7), .val (.int jz8), .val (.int jz9), .val (.ref b1), .unset, .unset] [(.ref b4), (.ref b4)])) rfl (hb hby at_113) (by decide) (by decide)
    obtain ⟨b5, z5⟩ : ∃ z, z = h4.size := ⟨_, rfl⟩
    rw [← z5] at A5 D5 st5
    have g_b5 : n0 ≤ b5 := Nat.le_trans (own_n0 O4) (Nat.le_of_eq z5.symm)
    have O5 : Old Z n0 h5 := O4.ext E5
    have f5_30 : Fld Z h5 b5 "java/lang/String" "coder" "B" (.int (0 : Int32)) := D5 (Or.inr (w30 hw)) (ty := .byte) (by decide)
    have f5_32 : Fld Z h5 b5 "java/lang/String" "value" "[B" .null := D5 (Or.inr (w32 hw)) (ty := (.array .byte)) (by decide)
    refine Go.st st5 ?_
    show Go p e below _ (T5.setTop (mkF m 116 #[.val (.long i0), .second, .val (.int i1), .val (.int i2), .val (.int jz4), .val (.int jz5), .val (.int jz6), .val (.int jz7), .val (.int jz8), .val (.int jz9), .val (.ref b1), .unset, .unset] [(.ref b5), (.ref b4), (.ref b4)]))
    refine Go.st (fun t k => XS.dup X5.here hx rfl (hb hby at_116) rfl rfl k) ?_
    show Go p e below _ (T5.setTop (mkF m 117 #[.val (.long i0), .second, .val (.int i1), .val (.int i2), .val (.int jz4), .val (.int jz5), .val (.int jz6), .val (.int jz7), .val (.int jz8), .val (.int jz9), .val (.ref b1), .unset, .unset] [(.ref b5), (.ref b5), (.ref b4), (.ref b4)]))
    refine Go.st (fun t k => XS.aload X5.here hx rfl (hb hby at_117) rfl rfl k) ?_
    show Go p e below _ (T5.setTop (mkF m 119 #[.val (.long i0), .second, .val (.int i1), .val (.int i2), .val (.int jz4), .val (.int jz5), .val (.int jz6), .val (.int jz7), .val (.int jz8), .val (.int jz9), .val (.ref b1), .unset, .unset] [(.ref b1), (.ref b5), (.ref b5), (.ref b4), (.ref b4)]))
    have hp6 : ¬ ((255 : Int32) < (((i2 &&& (255 : Int32)).toUInt32.toUInt16.toUInt32.toInt32).toUInt32.toUInt16.toUInt32.toInt32)) := by
      have j1 : ((255 : Int32)).toInt = 255 := by decide
      have j2 := own_b32 i2
      have j3 := own_b32 (i2 &&& (255 : Int32))
      have j4 := own_mask32 i2 (255 : Int32) 8 256 (by decide) (by decide) (by decide)
      have j5 := own_b32 ((i2 &&& (255 : Int32)).toUInt32.toUInt16.toUInt32.toInt32)
      have j6 := c_i2c (i2 &&& (255 : Int32))
      have j7 := own_b32 (((i2 &&& (255 : Int32)).toUInt32.toUInt16.toUInt32.toInt32).toUInt32.toUInt16.toUInt32.toInt32)
      have j8 := c_i2c ((i2 &&& (255 : Int32)).toUInt32.toUInt16.toUInt32.toInt32)
      rw [Int32.lt_iff_toInt_lt]
      omega
    have hp7 : ¬ ((255 : Int32) < (((((i2.toUInt32 >>> ((8 : Int32) &&& 31).toUInt32).toInt32) &&& (255 : Int32)).toUInt32.toUInt16.toUInt32.toInt32).toUInt32.toUInt16.toUInt32.toInt32)) := by
      have j1 : ((255 : Int32)).toInt = 255 := by decide
      have j2 := own_b32 i2
      have j3 := own_b32 ((i2.toUInt32 >>> ((8 : Int32) &&& 31).toUInt32).toInt32)
      have j4 := own_iushr i2 (8 : Int32) 8 256 (by decide) (by decide) (by decide)
      have j5 := own_b32 (((i2.toUInt32 >>> ((8 : Int32) &&& 31).toUInt32).toInt32) &&& (255 : Int32))
      have j6 := own_mask32 ((i2.toUInt32 >>> ((8 : Int32) &&& 31).toUInt32).toInt32) (255 : Int32) 8 256 (by decide) (by decide) (by decide)
      have j7 := own_b32 ((((i2.toUInt32 >>> ((8 : Int32) &&& 31).toUInt32).toInt32) &&& (255 : Int32)).toUInt32.toUInt16.toUInt32.toInt32)
      have j8 := c_i2c (((i2.toUInt32 >>> ((8 : Int32) &&& 31).toUInt32).toInt32) &&& (255 : Int32))
      have j9 := own_b32 (((((i2.toUInt32 >>> ((8 : Int32) &&& 31).toUInt32).toInt32) &&& (255 : Int32)).toUInt32.toUInt16.toUInt32.toInt32).toUInt32.toUInt16.toUInt32.toInt32)
      have j10 := c_i2c ((((i2.toUInt32 >>> ((8 : Int32) &&& 31).toUInt32).toInt32) &&& (255 : Int32)).toUInt32.toUInt16.toUInt32.toInt32)
      rw [Int32.lt_iff_toInt_lt]
      omega
    obtain ⟨_, _, ⟨T8, L8, k8, n8⟩, -, X8, ⟨Lc8, hQ8, l8, y8, z8⟩, st8⟩ := X5.specialBack hx (y := (⟨"java/lang/String", "<init>", "([C)V"⟩ : MethodName)) rfl hown (mvT hZ (w7 hw)) (mvT hZ (w8 hw)) (mvT hZ (w9 hw)) (by decide) (backOf (W := 3) (rm1_1 l Z a0 hw [] b5 b1 k1 (((i2 &&& (255 : Int32)).toUInt32.toUInt16.toUInt32.toInt32).toUInt32.toUInt16.toUInt32.toInt32) (((((i2.toUInt32 >>> ((8 : Int32) &&& 31).toUInt32).toInt32) &&& (255 : Int32)).toUInt32.toUInt16.toUInt32.toInt32).toUInt32.toUInt16.toUInt32.toInt32) w1i h5 n0 O5 ((V3.ext E4).ext E5) Y3 Y14 hp6 hp7 A5 f5_30 g_b5 f5_32) hZ (w9 hw) (w6 hw) (by decide) (by decide)) (g := (mkF m 119 #[.val (.long i0), .second, .val (.int i1), .val (.int i2), .val (.int jz4), .val (.int jz5), .val (.int jz6), .val (.int jz7), .val (.int jz8), .val (.int jz9), .val (.ref b1), .unset, .unset] [(.ref b1), (.ref b5), (.ref b5), (.ref b4), (.ref b4)])) rfl (by rw [hml]; rfl) (Steps.refl _) (a := b5) (argsL := [(.ref b1)]) (rest := [(.ref b5), (.ref b4), (.ref b4)]) (lenOf pd_4 rfl) rfl (by show 2 * 0 + _ ≤ _; exact Nat.le_of_eq rfl) (hb hby at_119) (fun vm₁ hw₁ => ⟨rfl, e5, (by decide : 3 + 1 ≤ _), (by decide : 15 + 2 ≤ _)⟩)
    dsimp only [Pt.U, Pt.locs, Pt.cells, Pt.slots] at X8 l8 y8 z8 st8 hQ8
    subst l8 y8 z8
    obtain ⟨b1_3_2_8, k1_3_2_8, rfl, M8, K8c, r8_0, r8_1, r8_2, r8_3⟩ := hQ8
    have N8 := Fr.app N3 M8
    have g_b1_3_2_8 : n0 ≤ b1_3_2_8 := Nat.le_trans (own_n0 O5) r8_0
    have O8 : Old Z n0 T8.heap := O5.keep K8c (allS g_b5 all0)
    refine Go.tr st8 ?_
    show Go p e below _ (T8.setTop (mkF m 122 #[.val (.long i0), .second, .val (.int i1), .val (.int i2), .val (.int jz4), .val (.int jz5), .val (.int jz6), .val (.int jz7), .val (.int jz8), .val (.int jz9), .val (.ref b1), .unset, .unset] [(.ref b5), (.ref b4), (.ref b4)]))
    refine Go.st (fun t k => XS.iload X8.here hx rfl (hb hby at_122) rfl k) ?_
    show Go p e below _ (T8.setTop (mkF m 124 #[.val (.long i0), .second, .val (.int i1), .val (.int i2), .val (.int jz4), .val (.int jz5), .val (.int jz6), .val (.int jz7), .val (.int jz8), .val (.int jz9), .val (.ref b1), .unset, .unset] [(.int jz9), (.ref b5), (.ref b4), (.ref b4)]))
    have c9 := ((f4_62.ext E5).keep K8c (ninS (Nat.ne_of_lt (Nat.lt_of_lt_of_le A4.lt (Nat.le_of_eq z5.symm))) nin0))
    have c10 := ((f4_65.ext E5).keep K8c (ninS (Nat.ne_of_lt (Nat.lt_of_lt_of_le A4.lt (Nat.le_of_eq z5.symm))) nin0))
    have c11 := ((f4_67.ext E5).keep K8c (ninS (Nat.ne_of_lt (Nat.lt_of_lt_of_le A4.lt (Nat.le_of_eq z5.symm))) nin0))
    have c12 := ((f4_69.ext E5).keep K8c (ninS (Nat.ne_of_lt (Nat.lt_of_lt_of_le A4.lt (Nat.le_of_eq z5.symm))) nin0))
    have c13 := ((f4_81.ext E5).keep K8c (ninS (Nat.ne_of_lt (Nat.lt_of_lt_of_le A4.lt (Nat.le_of_eq z5.symm))) nin0))
    have c14 := ((f4_88.ext E5).keep K8c (ninS (Nat.ne_of_lt (Nat.lt_of_lt_of_le A4.lt (Nat.le_of_eq z5.symm))) nin0))
    have c15 := ((f4_95.ext E5).keep K8c (ninS (Nat.ne_of_lt (Nat.lt_of_lt_of_le A4.lt (Nat.le_of_eq z5.symm))) nin0))
    obtain ⟨_, _, ⟨T16, L16, k16, n16⟩, -, X16, ⟨Lc16, hQ16, l16, y16, z16⟩, st16⟩ := X8.specialBack hx (y := (⟨"com/example/outbound_courier/outboundcourier/http/RequestHead", "<init>", "(Ljava/lang/String;I)V"⟩ : MethodName)) rfl hown (mvT hZ (w33 hw)) (mvT hZ (w34 hw)) (mvT hZ (w35 hw)) (by decide) (backOf (W := 1) (rm7_1 l Z a0 hw [] b4 b5 jz9 w9a T8.heap n0 O8 Y11 ((A4.ext E5).keep K8c) c9 g_b4 c10 c11 c12 c13 c14 c15) hZ (w35 hw) (w3 hw) (by decide) (by decide)) (g := (mkF m 124 #[.val (.long i0), .second, .val (.int i1), .val (.int i2), .val (.int jz4), .val (.int jz5), .val (.int jz6), .val (.int jz7), .val (.int jz8), .val (.int jz9), .val (.ref b1), .unset, .unset] [(.int jz9), (.ref b5), (.ref b4), (.ref b4)])) rfl (by rw [hml]; rfl) (Steps.refl _) (a := b4) (argsL := [(.ref b5), (.int jz9)]) (rest := [(.ref b4)]) (lenOf pd_6 rfl) rfl (by show 2 * 0 + _ ≤ _; exact Nat.le_of_eq rfl) (hb hby at_124) (fun vm₁ hw₁ => ⟨rfl, rfl, (by decide : 4 + 1 ≤ _), (by decide : 17 + 3 ≤ _)⟩)
    dsimp only [Pt.U, Pt.locs, Pt.cells, Pt.slots] at X16 l16 y16 z16 st16 hQ16
    subst l16 y16 z16
    obtain ⟨b2_16, rfl, M16, K16c, r16_0, r16_1, r16_2, r16_3, r16_4, r16_5, r16_6, r16_7, r16_8, r16_9, r16_10⟩ := hQ16
    have N16 := Fr.app N8 M16
    have g_b2_16 : n0 ≤ b2_16 := Nat.le_trans (own_n0 O8) r16_0
    have O16 : Old Z n0 T16.heap := O8.keep K16c (allS g_b4 all0)
    refine Go.tr st16 ?_
    show Go p e below _ (T16.setTop (mkF m 127 #[.val (.long i0), .second, .val (.int i1), .val (.int i2), .val (.int jz4), .val (.int jz5), .val (.int jz6), .val (.int jz7), .val (.int jz8), .val (.int jz9), .val (.ref b1), .unset, .unset] [(.ref b4)]))
    refine Go.st (fun t k => XS.astore X16.here hx rfl (hb hby at_127) rfl rfl (l' := #[.val (.long i0), .second, .val (.int i1), .val (.int i2), .val (.int jz4), .val (.int jz5), .val (.int jz6), .val (.int jz7), .val (.int jz8), .val (.int jz9), .val (.ref b1), .val (.ref b4), .unset]) rfl k) ?_
    show Go p e below _ (T16.setTop (mkF m 129 #[.val (.long i0), .second, .val (.int i1), .val (.int i2), .val (.int jz4), .val (.int jz5), .val (.int jz6), .val (.int jz7), .val (.int jz8), .val (.int jz9), .val (.ref b1), .val (.ref b4), .unset] []))
    refine Go.st (fun t k => XS.iload X16.here hx rfl (hb hby at_129) rfl k) ?_
    show Go p e below _ (T16.setTop (mkF m 131 #[.val (.long i0), .second, .val (.int i1), .val (.int i2), .val (.int jz4), .val (.int jz5), .val (.int jz6), .val (.int jz7), .val (.int jz8), .val (.int jz9), .val (.ref b1), .val (.ref b4), .unset] [(.int jz4)]))
    by_cases hc17 : jz4 = (0 : Int32)
    · refine Go.st (fun t k => XS.ifYes X16.here hx rfl (pc0 := 131) (pc' := 144) rfl (hb hby at_131) rfl (Jvm.Free.XT.i0_eq_t hc17) (by decide) (by decide) k) ?_
      show Go p e below _ (T16.setTop (mkF m 144 #[.val (.long i0), .second, .val (.int i1), .val (.int i2), .val (.int jz4), .val (.int jz5), .val (.int jz6), .val (.int jz7), .val (.int jz8), .val (.int jz9), .val (.ref b1), .val (.ref b4), .unset] []))
      refine Go.st (fun t k => XS.iload X16.here hx rfl (hb hby at_144) rfl k) ?_
      show Go p e below _ (T16.setTop (mkF m 146 #[.val (.long i0), .second, .val (.int i1), .val (.int i2), .val (.int jz4), .val (.int jz5), .val (.int jz6), .val (.int jz7), .val (.int jz8), .val (.int jz9), .val (.ref b1), .val (.ref b4), .unset] [(.int jz5)]))
      by_cases hc18 : jz5 = (0 : Int32)
      · refine Go.st (fun t k => XS.ifYes X16.here hx rfl (pc0 := 146) (pc' := 155) rfl (hb hby at_146) rfl (Jvm.Free.XT.i0_eq_t hc18) (by decide) (by decide) k) ?_
        show Go p e below _ (T16.setTop (mkF m 155 #[.val (.long i0), .second, .val (.int i1), .val (.int i2), .val (.int jz4), .val (.int jz5), .val (.int jz6), .val (.int jz7), .val (.int jz8), .val (.int jz9), .val (.ref b1), .val (.ref b4), .unset] []))
        refine Go.st (fun t k => XS.iload X16.here hx rfl (hb hby at_155) rfl k) ?_
        show Go p e below _ (T16.setTop (mkF m 157 #[.val (.long i0), .second, .val (.int i1), .val (.int i2), .val (.int jz4), .val (.int jz5), .val (.int jz6), .val (.int jz7), .val (.int jz8), .val (.int jz9), .val (.ref b1), .val (.ref b4), .unset] [(.int jz4)]))
        refine Go.st (fun t k => XS.ifYes X16.here hx rfl (pc0 := 157) (pc' := 170) rfl (hb hby at_157) rfl (Jvm.Free.XT.i0_eq_t hc17) (by decide) (by decide) k) ?_
        show Go p e below _ (T16.setTop (mkF m 170 #[.val (.long i0), .second, .val (.int i1), .val (.int i2), .val (.int jz4), .val (.int jz5), .val (.int jz6), .val (.int jz7), .val (.int jz8), .val (.int jz9), .val (.ref b1), .val (.ref b4), .unset] []))
        refine Go.st (fun t k => XS.iload X16.here hx rfl (hb hby at_170) rfl k) ?_
        show Go p e below _ (T16.setTop (mkF m 172 #[.val (.long i0), .second, .val (.int i1), .val (.int i2), .val (.int jz4), .val (.int jz5), .val (.int jz6), .val (.int jz7), .val (.int jz8), .val (.int jz9), .val (.ref b1), .val (.ref b4), .unset] [(.int jz7)]))
        by_cases hc19 : jz7 = (0 : Int32)
        · refine Go.st (fun t k => XS.ifYes X16.here hx rfl (pc0 := 172) (pc' := 180) rfl (hb hby at_172) rfl (Jvm.Free.XT.i0_eq_t hc19) (by decide) (by decide) k) ?_
          show Go p e below _ (T16.setTop (mkF m 180 #[.val (.long i0), .second, .val (.int i1), .val (.int i2), .val (.int jz4), .val (.int jz5), .val (.int jz6), .val (.int jz7), .val (.int jz8), .val (.int jz9), .val (.ref b1), .val (.ref b4), .unset] []))
          refine Go.st (fun t k => XS.iload X16.here hx rfl (hb hby at_180) rfl k) ?_
          show Go p e below _ (T16.setTop (mkF m 182 #[.val (.long i0), .second, .val (.int i1), .val (.int i2), .val (.int jz4), .val (.int jz5), .val (.int jz6), .val (.int jz7), .val (.int jz8), .val (.int jz9), .val (.ref b1), .val (.ref b4), .unset] [(.int jz8)]))
          by_cases hc20 : jz8 = (0 : Int32)
          · refine Go.st (fun t k => XS.ifYes X16.here hx rfl (pc0 := 182) (pc' := 190) rfl (hb hby at_182) rfl (Jvm.Free.XT.i0_eq_t hc20) (by decide) (by decide) k) ?_
            show Go p e below _ (T16.setTop (mkF m 190 #[.val (.long i0), .second, .val (.int i1), .val (.int i2), .val (.int jz4), .val (.int jz5), .val (.int jz6), .val (.int jz7), .val (.int jz8), .val (.int jz9), .val (.ref b1), .val (.ref b4), .unset] []))
            refine Go.st (fun t k => XS.iload X16.here hx rfl (hb hby at_190) rfl k) ?_
            show Go p e below _ (T16.setTop (mkF m 192 #[.val (.long i0), .second, .val (.int i1), .val (.int i2), .val (.int jz4), .val (.int jz5), .val (.int jz6), .val (.int jz7), .val (.int jz8), .val (.int jz9), .val (.ref b1), .val (.ref b4), .unset] [(.int jz4)]))
            refine Go.st (fun t k => XS.ifYes X16.here hx rfl (pc0 := 192) (pc' := 201) rfl (hb hby at_192) rfl (Jvm.Free.XT.i0_eq_t hc17) (by decide) (by decide) k) ?_
            show Go p e below _ (T16.setTop (mkF m 201 #[.val (.long i0), .second, .val (.int i1), .val (.int i2), .val (.int jz4), .val (.int jz5), .val (.int jz6), .val (.int jz7), .val (.int jz8), .val (.int jz9), .val (.ref b1), .val (.ref b4), .unset] []))
            refine Go.st (fun t k => XS.iload X16.here hx rfl (hb hby at_201) rfl k) ?_
            show Go p e below _ (T16.setTop (mkF m 203 #[.val (.long i0), .second, .val (.int i1), .val (.int i2), .val (.int jz4), .val (.int jz5), .val (.int jz6), .val (.int jz7), .val (.int jz8), .val (.int jz9), .val (.ref b1), .val (.ref b4), .unset] [(.int jz5)]))
            refine Go.st (fun t k => XS.ifNo X16.here hx rfl (hb hby at_203) rfl (Jvm.Free.XT.i0_ne_f hc18) k) ?_
            show Go p e below _ (T16.setTop (mkF m 206 #[.val (.long i0), .second, .val (.int i1), .val (.int i2), .val (.int jz4), .val (.int jz5), .val (.int jz6), .val (.int jz7), .val (.int jz8), .val (.int jz9), .val (.ref b1), .val (.ref b4), .unset] []))
            refine Go.st (fun t k => XS.iconst X16.here hx rfl (hb hby at_206) k) ?_
            show Go p e below _ (T16.setTop (mkF m 207 #[.val (.long i0), .second, .val (.int i1), .val (.int i2), .val (.int jz4), .val (.int jz5), .val (.int jz6), .val (.int jz7), .val (.int jz8), .val (.int jz9), .val (.ref b1), .val (.ref b4), .unset] [(.int (0 : Int32))]))
            refine Go.st (fun t k => XS.istore X16.here hx rfl (hb hby at_207) rfl (l' := #[.val (.long i0), .second, .val (.int i1), .val (.int i2), .val (.int jz4), .val (.int jz5), .val (.int jz6), .val (.int jz7), .val (.int jz8), .val (.int jz9), .val (.ref b1), .val (.ref b4), .val (.int (0 : Int32))]) rfl k) ?_
            show Go p e below _ (T16.setTop (mkF m 209 #[.val (.long i0), .second, .val (.int i1), .val (.int i2), .val (.int jz4), .val (.int jz5), .val (.int jz6), .val (.int jz7), .val (.int jz8), .val (.int jz9), .val (.ref b1), .val (.ref b4), .val (.int (0 : Int32))] []))
            refine Go.st (fun t k => XS.goto X16.here hx rfl (pc0 := 209) (pc' := 225) rfl (hb hby at_209) (by decide) (by decide) k) ?_
            show Go p e below _ (T16.setTop (mkF m 225 #[.val (.long i0), .second, .val (.int i1), .val (.int i2), .val (.int jz4), .val (.int jz5), .val (.int jz6), .val (.int jz7), .val (.int jz8), .val (.int jz9), .val (.ref b1), .val (.ref b4), .val (.int (0 : Int32))] []))
            refine Go.st (fun t k => XS.aload X16.here hx rfl (hb hby at_225) rfl rfl k) ?_
            show Go p e below _ (T16.setTop (mkF m 227 #[.val (.long i0), .second, .val (.int i1), .val (.int i2), .val (.int jz4), .val (.int jz5), .val (.int jz6), .val (.int jz7), .val (.int jz8), .val (.int jz9), .val (.ref b1), .val (.ref b4), .val (.int (0 : Int32))] [(.ref b4)]))
            obtain ⟨cq21, kq21, q21a, q21b, q21c⟩ := isOf hZ rfl (((A4.ext E5).keep K8c).keep K16c)
            obtain ⟨_, _, ⟨T21, L21, k21, n21⟩, -, X21, ⟨Lc21, hQ21, l21, y21, z21⟩, st21⟩ := X16.virtualBack hx (y := (⟨"com/example/outbound_courier/outboundcourier/http/RequestHead", "hasBody", "()Z"⟩ : MethodName)) (z := (⟨"com/example/outbound_courier/outboundcourier/http/RequestHead", "hasBody", "()Z"⟩ : MethodName)) hown (mvT hZ (w75 hw)) (mvT hZ (w76 hw)) (notFace_of_selects (args := #[]) (mvT hZ (w78 hw))) (mvT hZ (w78 hw)) (mvT hZ (w77 hw)) (by decide) (backOf (W := 0) (rm12_1 l Z a0 hw [] b4 T16.heap n0 O16 r16_5 r16_2) hZ (w79 hw) (w3 hw) (by decide) (by decide)) q21a q21c (g := (mkF m 227 #[.val (.long i0), .second, .val (.int i1), .val (.int i2), .val (.int jz4), .val (.int jz5), .val (.int jz6), .val (.int jz7), .val (.int jz8), .val (.int jz9), .val (.ref b1), .val (.ref b4), .val (.int (0 : Int32))] [(.ref b4)])) rfl (by rw [hml]; rfl) (Steps.refl _) (argsL := []) (rest := []) (lenOf pd_7 rfl) rfl (by show 2 * 0 + _ ≤ _; exact Nat.le_of_eq rfl) (hb hby at_227) (fun vm₁ hw₁ => ⟨rfl, rfl, (by decide : 5 + 0 ≤ _), (by decide : 20 + 0 ≤ _)⟩)
            dsimp only [Pt.U, Pt.locs, Pt.cells, Pt.slots] at X21 l21 y21 z21 st21 hQ21
            subst l21 y21 z21
            obtain ⟨rfl, M21, eh21⟩ := hQ21
            have N21 := Fr.app N16 M21
            refine Go.tr st21 ?_
            show Go p e below _ (T21.setTop (mkF m 230 #[.val (.long i0), .second, .val (.int i1), .val (.int i2), .val (.int jz4), .val (.int jz5), .val (.int jz6), .val (.int jz7), .val (.int jz8), .val (.int jz9), .val (.ref b1), .val (.ref b4), .val (.int (0 : Int32))] [(.int (0 : Int32))]))
            refine Go.st (fun t k => XS.iload X21.here hx rfl (hb hby at_230) rfl k) ?_
            show Go p e below _ (T21.setTop (mkF m 232 #[.val (.long i0), .second, .val (.int i1), .val (.int i2), .val (.int jz4), .val (.int jz5), .val (.int jz6), .val (.int jz7), .val (.int jz8), .val (.int jz9), .val (.ref b1), .val (.ref b4), .val (.int (0 : Int32))] [(.int (0 : Int32)), (.int (0 : Int32))]))
            refine Go.st (fun t k => XS.icmpNo X21.here hx rfl (hb hby at_232) rfl (Jvm.Free.XT.ii_ne_f (by decide : (0 : Int32) = (0 : Int32))) k) ?_
            show Go p e below _ (T21.setTop (mkF m 235 #[.val (.long i0), .second, .val (.int i1), .val (.int i2), .val (.int jz4), .val (.int jz5), .val (.int jz6), .val (.int jz7), .val (.int jz8), .val (.int jz9), .val (.ref b1), .val (.ref b4), .val (.int (0 : Int32))] []))
            refine Go.st (fun t k => XS.iconst X21.here hx rfl (hb hby at_235) k) ?_
            show Go p e below _ (T21.setTop (mkF m 236 #[.val (.long i0), .second, .val (.int i1), .val (.int i2), .val (.int jz4), .val (.int jz5), .val (.int jz6), .val (.int jz7), .val (.int jz8), .val (.int jz9), .val (.ref b1), .val (.ref b4), .val (.int (0 : Int32))] [(.int (1 : Int32))]))
            refine Go.st (fun t k => XS.goto X21.here hx rfl (pc0 := 236) (pc' := 240) rfl (hb hby at_236) (by decide) (by decide) k) ?_
            show Go p e below _ (T21.setTop (mkF m 240 #[.val (.long i0), .second, .val (.int i1), .val (.int i2), .val (.int jz4), .val (.int jz5), .val (.int jz6), .val (.int jz7), .val (.int jz8), .val (.int jz9), .val (.ref b1), .val (.ref b4), .val (.int (0 : Int32))] [(.int (1 : Int32))]))
            obtain ⟨fs, hr, hrun, hended, hWd, hsame⟩ := X21.leave (v := some (.int (1 : Int32))) (fun h => by rw [Bd.returns] at h; cases h)
            refine ⟨_, _, ?_, hrun, hended, _, _, rfl, ?_, ⟨⟨_, rfl⟩, hWd, hsame.mono (by decide) (by decide)⟩⟩
            · exact retN X21 hx (t := .boolean) Bd.returns (by simp) (hb hby at_240) hr
            · exact ⟨rfl, N21⟩
          · refine Go.st (fun t k => XS.ifNo X16.here hx rfl (hb hby at_182) rfl (Jvm.Free.XT.i0_eq_f hc20) k) ?_
            show Go p e below _ (T16.setTop (mkF m 185 #[.val (.long i0), .second, .val (.int i1), .val (.int i2), .val (.int jz4), .val (.int jz5), .val (.int jz6), .val (.int jz7), .val (.int jz8), .val (.int jz9), .val (.ref b1), .val (.ref b4), .unset] []))
            refine Go.st (fun t k => XS.aload X16.here hx rfl (hb hby at_185) rfl rfl k) ?_
            show Go p e below _ (T16.setTop (mkF m 187 #[.val (.long i0), .second, .val (.int i1), .val (.int i2), .val (.int jz4), .val (.int jz5), .val (.int jz6), .val (.int jz7), .val (.int jz8), .val (.int jz9), .val (.ref b1), .val (.ref b4), .unset] [(.ref b4)]))
            obtain ⟨cq22, kq22, q22a, q22b, q22c⟩ := isOf hZ rfl (((A4.ext E5).keep K8c).keep K16c)
            obtain ⟨_, _, ⟨T22, L22, k22, n22⟩, -, X22, ⟨Lc22, hQ22, l22, y22, z22⟩, st22⟩ := X16.virtualBack hx (y := (⟨"com/example/outbound_courier/outboundcourier/http/RequestHead", "setExpectsContinue", "()V"⟩ : MethodName)) (z := (⟨"com/example/outbound_courier/outboundcourier/http/RequestHead", "setExpectsContinue", "()V"⟩ : MethodName)) hown (mvT hZ (w89 hw)) (mvT hZ (w90 hw)) (notFace_of_selects (args := #[]) (mvT hZ (w92 hw))) (mvT hZ (w92 hw)) (mvT hZ (w91 hw)) (by decide) (backOf (W := 0) (rm14_1 l Z a0 hw [] b4 b2_16 b5 jz9 T16.heap n0 O16 (((A4.ext E5).keep K8c).keep K16c) r16_7 g_b4 r16_1 r16_2 r16_3 r16_4 r16_5 r16_6) hZ (w93 hw) (w3 hw) (by decide) (by decide)) q22a q22c (g := (mkF m 187 #[.val (.long i0), .second, .val (.int i1), .val (.int i2), .val (.int jz4), .val (.int jz5), .val (.int jz6), .val (.int jz7), .val (.int jz8), .val (.int jz9), .val (.ref b1), .val (.ref b4), .unset] [(.ref b4)])) rfl (by rw [hml]; rfl) (Steps.refl _) (argsL := []) (rest := []) (lenOf pd_5 rfl) rfl (by show 2 * 0 + _ ≤ _; exact Nat.le_of_eq rfl) (hb hby at_187) (fun vm₁ hw₁ => ⟨rfl, rfl, (by decide : 5 + 0 ≤ _), (by decide : 20 + 0 ≤ _)⟩)
            dsimp only [Pt.U, Pt.locs, Pt.cells, Pt.slots] at X22 l22 y22 z22 st22 hQ22
            subst l22 y22 z22
            obtain ⟨rfl, M22, K22c, r22_0, r22_1, r22_2, r22_3, r22_4, r22_5, r22_6⟩ := hQ22
            have N22 := Fr.app N16 M22
            have O22 : Old Z n0 T22.heap := O16.keep K22c (allS g_b4 all0)
            refine Go.tr st22 ?_
            show Go p e below _ (T22.setTop (mkF m 190 #[.val (.long i0), .second, .val (.int i1), .val (.int i2), .val (.int jz4), .val (.int jz5), .val (.int jz6), .val (.int jz7), .val (.int jz8), .val (.int jz9), .val (.ref b1), .val (.ref b4), .unset] []))
            refine Go.st (fun t k => XS.iload X22.here hx rfl (hb hby at_190) rfl k) ?_
            show Go p e below _ (T22.setTop (mkF m 192 #[.val (.long i0), .second, .val (.int i1), .val (.int i2), .val (.int jz4), .val (.int jz5), .val (.int jz6), .val (.int jz7), .val (.int jz8), .val (.int jz9), .val (.ref b1), .val (.ref b4), .unset] [(.int jz4)]))
            refine Go.st (fun t k => XS.ifYes X22.here hx rfl (pc0 := 192) (pc' := 201) rfl (hb hby at_192) rfl (Jvm.Free.XT.i0_eq_t hc17) (by decide) (by decide) k) ?_
            show Go p e below _ (T22.setTop (mkF m 201 #[.val (.long i0), .second, .val (.int i1), .val (.int i2), .val (.int jz4), .val (.int jz5), .val (.int jz6), .val (.int jz7), .val (.int jz8), .val (.int jz9), .val (.ref b1), .val (.ref b4), .unset] []))
            refine Go.st (fun t k => XS.iload X22.here hx rfl (hb hby at_201) rfl k) ?_
            show Go p e below _ (T22.setTop (mkF m 203 #[.val (.long i0), .second, .val (.int i1), .val (.int i2), .val (.int jz4), .val (.int jz5), .val (.int jz6), .val (.int jz7), .val (.int jz8), .val (.int jz9), .val (.ref b1), .val (.ref b4), .unset] [(.int jz5)]))
            refine Go.st (fun t k => XS.ifNo X22.here hx rfl (hb hby at_203) rfl (Jvm.Free.XT.i0_ne_f hc18) k) ?_
            show Go p e below _ (T22.setTop (mkF m 206 #[.val (.long i0), .second, .val (.int i1), .val (.int i2), .val (.int jz4), .val (.int jz5), .val (.int jz6), .val (.int jz7), .val (.int jz8), .val (.int jz9), .val (.ref b1), .val (.ref b4), .unset] []))
            refine Go.st (fun t k => XS.iconst X22.here hx rfl (hb hby at_206) k) ?_
            show Go p e below _ (T22.setTop (mkF m 207 #[.val (.long i0), .second, .val (.int i1), .val (.int i2), .val (.int jz4), .val (.int jz5), .val (.int jz6), .val (.int jz7), .val (.int jz8), .val (.int jz9), .val (.ref b1), .val (.ref b4), .unset] [(.int (0 : Int32))]))
            refine Go.st (fun t k => XS.istore X22.here hx rfl (hb hby at_207) rfl (l' := #[.val (.long i0), .second, .val (.int i1), .val (.int i2), .val (.int jz4), .val (.int jz5), .val (.int jz6), .val (.int jz7), .val (.int jz8), .val (.int jz9), .val (.ref b1), .val (.ref b4), .val (.int (0 : Int32))]) rfl k) ?_
            show Go p e below _ (T22.setTop (mkF m 209 #[.val (.long i0), .second, .val (.int i1), .val (.int i2), .val (.int jz4), .val (.int jz5), .val (.int jz6), .val (.int jz7), .val (.int jz8), .val (.int jz9), .val (.ref b1), .val (.ref b4), .val (.int (0 : Int32))] []))
            refine Go.st (fun t k => XS.goto X22.here hx rfl (pc0 := 209) (pc' := 225) rfl (hb hby at_209) (by decide) (by decide) k) ?_
            show Go p e below _ (T22.setTop (mkF m 225 #[.val (.long i0), .second, .val (.int i1), .val (.int i2), .val (.int jz4), .val (.int jz5), .val (.int jz6), .val (.int jz7), .val (.int jz8), .val (.int jz9), .val (.ref b1), .val (.ref b4), .val (.int (0 : Int32))] []))
            refine Go.st (fun t k => XS.aload X22.here hx rfl (hb hby at_225) rfl rfl k) ?_
            show Go p e below _ (T22.setTop (mkF m 227 #[.val (.long i0), .second, .val (.int i1), .val (.int i2), .val (.int jz4), .val (.int jz5), .val (.int jz6), .val (.int jz7), .val (.int jz8), .val (.int jz9), .val (.ref b1), .val (.ref b4), .val (.int (0 : Int32))] [(.ref b4)]))
            have c24 := ((((A4.ext E5).keep K8c).keep K16c).keep K22c)
            obtain ⟨cq23, kq23, q23a, q23b, q23c⟩ := isOf hZ rfl c24
            obtain ⟨_, _, ⟨T23, L23, k23, n23⟩, -, X23, ⟨Lc23, hQ23, l23, y23, z23⟩, st23⟩ := X22.virtualBack hx (y := (⟨"com/example/outbound_courier/outboundcourier/http/RequestHead", "hasBody", "()Z"⟩ : MethodName)) (z := (⟨"com/example/outbound_courier/outboundcourier/http/RequestHead", "hasBody", "()Z"⟩ : MethodName)) hown (mvT hZ (w75 hw)) (mvT hZ (w76 hw)) (notFace_of_selects (args := #[]) (mvT hZ (w78 hw))) (mvT hZ (w78 hw)) (mvT hZ (w77 hw)) (by decide) (backOf (W := 0) (rm12_1 l Z a0 hw [] b4 T22.heap n0 O22 r22_5 r22_2) hZ (w79 hw) (w3 hw) (by decide) (by decide)) q23a q23c (g := (mkF m 227 #[.val (.long i0), .second, .val (.int i1), .val (.int i2), .val (.int jz4), .val (.int jz5), .val (.int jz6), .val (.int jz7), .val (.int jz8), .val (.int jz9), .val (.ref b1), .val (.ref b4), .val (.int (0 : Int32))] [(.ref b4)])) rfl (by rw [hml]; rfl) (Steps.refl _) (argsL := []) (rest := []) (lenOf pd_7 rfl) rfl (by show 2 * 0 + _ ≤ _; exact Nat.le_of_eq rfl) (hb hby at_227) (fun vm₁ hw₁ => ⟨rfl, rfl, (by decide : 5 + 0 ≤ _), (by decide : 20 + 0 ≤ _)⟩)
            dsimp only [Pt.U, Pt.locs, Pt.cells, Pt.slots] at X23 l23 y23 z23 st23 hQ23
            subst l23 y23 z23
            obtain ⟨rfl, M23, eh23⟩ := hQ23
            have N23 := Fr.app N22 M23
            refine Go.tr st23 ?_
            show Go p e below _ (T23.setTop (mkF m 230 #[.val (.long i0), .second, .val (.int i1), .val (.int i2), .val (.int jz4), .val (.int jz5), .val (.int jz6), .val (.int jz7), .val (.int jz8), .val (.int jz9), .val (.ref b1), .val (.ref b4), .val (.int (0 : Int32))] [(.int (0 : Int32))]))
            refine Go.st (fun t k => XS.iload X23.here hx rfl (hb hby at_230) rfl k) ?_
            show Go p e below _ (T23.setTop (mkF m 232 #[.val (.long i0), .second, .val (.int i1), .val (.int i2), .val (.int jz4), .val (.int jz5), .val (.int jz6), .val (.int jz7), .val (.int jz8), .val (.int jz9), .val (.ref b1), .val (.ref b4), .val (.int (0 : Int32))] [(.int (0 : Int32)), (.int (0 : Int32))]))
            refine Go.st (fun t k => XS.icmpNo X23.here hx rfl (hb hby at_232) rfl (Jvm.Free.XT.ii_ne_f (by decide : (0 : Int32) = (0 : Int32))) k) ?_
            show Go p e below _ (T23.setTop (mkF m 235 #[.val (.long i0), .second, .val (.int i1), .val (.int i2), .val (.int jz4), .val (.int jz5), .val (.int jz6), .val (.int jz7), .val (.int jz8), .val (.int jz9), .val (.ref b1), .val (.ref b4), .val (.int (0 : Int32))] []))
            refine Go.st (fun t k => XS.iconst X23.here hx rfl (hb hby at_235) k) ?_
            show Go p e below _ (T23.setTop (mkF m 236 #[.val (.long i0), .second, .val (.int i1), .val (.int i2), .val (.int jz4), .val (.int jz5), .val (.int jz6), .val (.int jz7), .val (.int jz8), .val (.int jz9), .val (.ref b1), .val (.ref b4), .val (.int (0 : Int32))] [(.int (1 : Int32))]))
            refine Go.st (fun t k => XS.goto X23.here hx rfl (pc0 := 236) (pc' := 240) rfl (hb hby at_236) (by decide) (by decide) k) ?_
            show Go p e below _ (T23.setTop (mkF m 240 #[.val (.long i0), .second, .val (.int i1), .val (.int i2), .val (.int jz4), .val (.int jz5), .val (.int jz6), .val (.int jz7), .val (.int jz8), .val (.int jz9), .val (.ref b1), .val (.ref b4), .val (.int (0 : Int32))] [(.int (1 : Int32))]))
            obtain ⟨fs, hr, hrun, hended, hWd, hsame⟩ := X23.leave (v := some (.int (1 : Int32))) (fun h => by rw [Bd.returns] at h; cases h)
            refine ⟨_, _, ?_, hrun, hended, _, _, rfl, ?_, ⟨⟨_, rfl⟩, hWd, hsame.mono (by decide) (by decide)⟩⟩
            · exact retN X23 hx (t := .boolean) Bd.returns (by simp) (hb hby at_240) hr
            · exact ⟨rfl, N23⟩
        · refine Go.st (fun t k => XS.ifNo X16.here hx rfl (hb hby at_172) rfl (Jvm.Free.XT.i0_eq_f hc19) k) ?_
          show Go p e below _ (T16.setTop (mkF m 175 #[.val (.long i0), .second, .val (.int i1), .val (.int i2), .val (.int jz4), .val (.int jz5), .val (.int jz6), .val (.int jz7), .val (.int jz8), .val (.int jz9), .val (.ref b1), .val (.ref b4), .unset] []))
          refine Go.st (fun t k => XS.aload X16.here hx rfl (hb hby at_175) rfl rfl k) ?_
          show Go p e below _ (T16.setTop (mkF m 177 #[.val (.long i0), .second, .val (.int i1), .val (.int i2), .val (.int jz4), .val (.int jz5), .val (.int jz6), .val (.int jz7), .val (.int jz8), .val (.int jz9), .val (.ref b1), .val (.ref b4), .unset] [(.ref b4)]))
          obtain ⟨cq25, kq25, q25a, q25b, q25c⟩ := isOf hZ rfl (((A4.ext E5).keep K8c).keep K16c)
          obtain ⟨_, _, ⟨T25, L25, k25, n25⟩, -, X25, ⟨Lc25, hQ25, l25, y25, z25⟩, st25⟩ := X16.virtualBack hx (y := (⟨"com/example/outbound_courier/outboundcourier/http/RequestHead", "setClose", "()V"⟩ : MethodName)) (z := (⟨"com/example/outbound_courier/outboundcourier/http/RequestHead", "setClose", "()V"⟩ : MethodName)) hown (mvT hZ (w82 hw)) (mvT hZ (w83 hw)) (notFace_of_selects (args := #[]) (mvT hZ (w85 hw))) (mvT hZ (w85 hw)) (mvT hZ (w84 hw)) (by decide) (backOf (W := 0) (rm13_1 l Z a0 hw [] b4 b2_16 b5 jz9 T16.heap n0 O16 (((A4.ext E5).keep K8c).keep K16c) r16_6 g_b4 r16_1 r16_2 r16_3 r16_4 r16_5 r16_7) hZ (w86 hw) (w3 hw) (by decide) (by decide)) q25a q25c (g := (mkF m 177 #[.val (.long i0), .second, .val (.int i1), .val (.int i2), .val (.int jz4), .val (.int jz5), .val (.int jz6), .val (.int jz7), .val (.int jz8), .val (.int jz9), .val (.ref b1), .val (.ref b4), .unset] [(.ref b4)])) rfl (by rw [hml]; rfl) (Steps.refl _) (argsL := []) (rest := []) (lenOf pd_5 rfl) rfl (by show 2 * 0 + _ ≤ _; exact Nat.le_of_eq rfl) (hb hby at_177) (fun vm₁ hw₁ => ⟨rfl, rfl, (by decide : 5 + 0 ≤ _), (by decide : 20 + 0 ≤ _)⟩)
          dsimp only [Pt.U, Pt.locs, Pt.cells, Pt.slots] at X25 l25 y25 z25 st25 hQ25
          subst l25 y25 z25
          obtain ⟨rfl, M25, K25c, r25_0, r25_1, r25_2, r25_3, r25_4, r25_5, r25_6⟩ := hQ25
          have N25 := Fr.app N16 M25
          have O25 : Old Z n0 T25.heap := O16.keep K25c (allS g_b4 all0)
          refine Go.tr st25 ?_
          show Go p e below _ (T25.setTop (mkF m 180 #[.val (.long i0), .second, .val (.int i1), .val (.int i2), .val (.int jz4), .val (.int jz5), .val (.int jz6), .val (.int jz7), .val (.int jz8), .val (.int jz9), .val (.ref b1), .val (.ref b4), .unset] []))
          refine Go.st (fun t k => XS.iload X25.here hx rfl (hb hby at_180) rfl k) ?_
          show Go p e below _ (T25.setTop (mkF m 182 #[.val (.long i0), .second, .val (.int i1), .val (.int i2), .val (.int jz4), .val (.int jz5), .val (.int jz6), .val (.int jz7), .val (.int jz8), .val (.int jz9), .val (.ref b1), .val (.ref b4), .unset] [(.int jz8)]))
          by_cases hc26 : jz8 = (0 : Int32)
          · refine Go.st (fun t k => XS.ifYes X25.here hx rfl (pc0 := 182) (pc' := 190) rfl (hb hby at_182) rfl (Jvm.Free.XT.i0_eq_t hc26) (by decide) (by decide) k) ?_
            show Go p e below _ (T25.setTop (mkF m 190 #[.val (.long i0), .second, .val (.int i1), .val (.int i2), .val (.int jz4), .val (.int jz5), .val (.int jz6), .val (.int jz7), .val (.int jz8), .val (.int jz9), .val (.ref b1), .val (.ref b4), .unset] []))
            refine Go.st (fun t k => XS.iload X25.here hx rfl (hb hby at_190) rfl k) ?_
            show Go p e below _ (T25.setTop (mkF m 192 #[.val (.long i0), .second, .val (.int i1), .val (.int i2), .val (.int jz4), .val (.int jz5), .val (.int jz6), .val (.int jz7), .val (.int jz8), .val (.int jz9), .val (.ref b1), .val (.ref b4), .unset] [(.int jz4)]))
            refine Go.st (fun t k => XS.ifYes X25.here hx rfl (pc0 := 192) (pc' := 201) rfl (hb hby at_192) rfl (Jvm.Free.XT.i0_eq_t hc17) (by decide) (by decide) k) ?_
            show Go p e below _ (T25.setTop (mkF m 201 #[.val (.long i0), .second, .val (.int i1), .val (.int i2), .val (.int jz4), .val (.int jz5), .val (.int jz6), .val (.int jz7), .val (.int jz8), .val (.int jz9), .val (.ref b1), .val (.ref b4), .unset] []))
            refine Go.st (fun t k => XS.iload X25.here hx rfl (hb hby at_201) rfl k) ?_
            show Go p e below _ (T25.setTop (mkF m 203 #[.val (.long i0), .second, .val (.int i1), .val (.int i2), .val (.int jz4), .val (.int jz5), .val (.int jz6), .val (.int jz7), .val (.int jz8), .val (.int jz9), .val (.ref b1), .val (.ref b4), .unset] [(.int jz5)]))
            refine Go.st (fun t k => XS.ifNo X25.here hx rfl (hb hby at_203) rfl (Jvm.Free.XT.i0_ne_f hc18) k) ?_
            show Go p e below _ (T25.setTop (mkF m 206 #[.val (.long i0), .second, .val (.int i1), .val (.int i2), .val (.int jz4), .val (.int jz5), .val (.int jz6), .val (.int jz7), .val (.int jz8), .val (.int jz9), .val (.ref b1), .val (.ref b4), .unset] []))
            refine Go.st (fun t k => XS.iconst X25.here hx rfl (hb hby at_206) k) ?_
            show Go p e below _ (T25.setTop (mkF m 207 #[.val (.long i0), .second, .val (.int i1), .val (.int i2), .val (.int jz4), .val (.int jz5), .val (.int jz6), .val (.int jz7), .val (.int jz8), .val (.int jz9), .val (.ref b1), .val (.ref b4), .unset] [(.int (0 : Int32))]))
            refine Go.st (fun t k => XS.istore X25.here hx rfl (hb hby at_207) rfl (l' := #[.val (.long i0), .second, .val (.int i1), .val (.int i2), .val (.int jz4), .val (.int jz5), .val (.int jz6), .val (.int jz7), .val (.int jz8), .val (.int jz9), .val (.ref b1), .val (.ref b4), .val (.int (0 : Int32))]) rfl k) ?_
            show Go p e below _ (T25.setTop (mkF m 209 #[.val (.long i0), .second, .val (.int i1), .val (.int i2), .val (.int jz4), .val (.int jz5), .val (.int jz6), .val (.int jz7), .val (.int jz8), .val (.int jz9), .val (.ref b1), .val (.ref b4), .val (.int (0 : Int32))] []))
            refine Go.st (fun t k => XS.goto X25.here hx rfl (pc0 := 209) (pc' := 225) rfl (hb hby at_209) (by decide) (by decide) k) ?_
            show Go p e below _ (T25.setTop (mkF m 225 #[.val (.long i0), .second, .val (.int i1), .val (.int i2), .val (.int jz4), .val (.int jz5), .val (.int jz6), .val (.int jz7), .val (.int jz8), .val (.int jz9), .val (.ref b1), .val (.ref b4), .val (.int (0 : Int32))] []))
            refine Go.st (fun t k => XS.aload X25.here hx rfl (hb hby at_225) rfl rfl k) ?_
            show Go p e below _ (T25.setTop (mkF m 227 #[.val (.long i0), .second, .val (.int i1), .val (.int i2), .val (.int jz4), .val (.int jz5), .val (.int jz6), .val (.int jz7), .val (.int jz8), .val (.int jz9), .val (.ref b1), .val (.ref b4), .val (.int (0 : Int32))] [(.ref b4)]))
            have c28 := ((((A4.ext E5).keep K8c).keep K16c).keep K25c)
            obtain ⟨cq27, kq27, q27a, q27b, q27c⟩ := isOf hZ rfl c28
            obtain ⟨_, _, ⟨T27, L27, k27, n27⟩, -, X27, ⟨Lc27, hQ27, l27, y27, z27⟩, st27⟩ := X25.virtualBack hx (y := (⟨"com/example/outbound_courier/outboundcourier/http/RequestHead", "hasBody", "()Z"⟩ : MethodName)) (z := (⟨"com/example/outbound_courier/outboundcourier/http/RequestHead", "hasBody", "()Z"⟩ : MethodName)) hown (mvT hZ (w75 hw)) (mvT hZ (w76 hw)) (notFace_of_selects (args := #[]) (mvT hZ (w78 hw))) (mvT hZ (w78 hw)) (mvT hZ (w77 hw)) (by decide) (backOf (W := 0) (rm12_1 l Z a0 hw [] b4 T25.heap n0 O25 r25_5 r25_2) hZ (w79 hw) (w3 hw) (by decide) (by decide)) q27a q27c (g := (mkF m 227 #[.val (.long i0), .second, .val (.int i1), .val (.int i2), .val (.int jz4), .val (.int jz5), .val (.int jz6), .val (.int jz7), .val (.int jz8), .val (.int jz9), .val (.ref b1), .val (.ref b4), .val (.int (0 : Int32))] [(.ref b4)])) rfl (by rw [hml]; rfl) (Steps.refl _) (argsL := []) (rest := []) (lenOf pd_7 rfl) rfl (by show 2 * 0 + _ ≤ _; exact Nat.le_of_eq rfl) (hb hby at_227) (fun vm₁ hw₁ => ⟨rfl, rfl, (by decide : 5 + 0 ≤ _), (by decide : 20 + 0 ≤ _)⟩)
            dsimp only [Pt.U, Pt.locs, Pt.cells, Pt.slots] at X27 l27 y27 z27 st27 hQ27
            subst l27 y27 z27
            obtain ⟨rfl, M27, eh27⟩ := hQ27
            have N27 := Fr.app N25 M27
            refine Go.tr st27 ?_
            show Go p e below _ (T27.setTop (mkF m 230 #[.val (.long i0), .second, .val (.int i1), .val (.int i2), .val (.int jz4), .val (.int jz5), .val (.int jz6), .val (.int jz7), .val (.int jz8), .val (.int jz9), .val (.ref b1), .val (.ref b4), .val (.int (0 : Int32))] [(.int (0 : Int32))]))
            refine Go.st (fun t k => XS.iload X27.here hx rfl (hb hby at_230) rfl k) ?_
            show Go p e below _ (T27.setTop (mkF m 232 #[.val (.long i0), .second, .val (.int i1), .val (.int i2), .val (.int jz4), .val (.int jz5), .val (.int jz6), .val (.int jz7), .val (.int jz8), .val (.int jz9), .val (.ref b1), .val (.ref b4), .val (.int (0 : Int32))] [(.int (0 : Int32)), (.int (0 : Int32))]))
            refine Go.st (fun t k => XS.icmpNo X27.here hx rfl (hb hby at_232) rfl (Jvm.Free.XT.ii_ne_f (by decide : (0 : Int32) = (0 : Int32))) k) ?_
            show Go p e below _ (T27.setTop (mkF m 235 #[.val (.long i0), .second, .val (.int i1), .val (.int i2), .val (.int jz4), .val (.int jz5), .val (.int jz6), .val (.int jz7), .val (.int jz8), .val (.int jz9), .val (.ref b1), .val (.ref b4), .val (.int (0 : Int32))] []))
            refine Go.st (fun t k => XS.iconst X27.here hx rfl (hb hby at_235) k) ?_
            show Go p e below _ (T27.setTop (mkF m 236 #[.val (.long i0), .second, .val (.int i1), .val (.int i2), .val (.int jz4), .val (.int jz5), .val (.int jz6), .val (.int jz7), .val (.int jz8), .val (.int jz9), .val (.ref b1), .val (.ref b4), .val (.int (0 : Int32))] [(.int (1 : Int32))]))
            refine Go.st (fun t k => XS.goto X27.here hx rfl (pc0 := 236) (pc' := 240) rfl (hb hby at_236) (by decide) (by decide) k) ?_
            show Go p e below _ (T27.setTop (mkF m 240 #[.val (.long i0), .second, .val (.int i1), .val (.int i2), .val (.int jz4), .val (.int jz5), .val (.int jz6), .val (.int jz7), .val (.int jz8), .val (.int jz9), .val (.ref b1), .val (.ref b4), .val (.int (0 : Int32))] [(.int (1 : Int32))]))
            obtain ⟨fs, hr, hrun, hended, hWd, hsame⟩ := X27.leave (v := some (.int (1 : Int32))) (fun h => by rw [Bd.returns] at h; cases h)
            refine ⟨_, _, ?_, hrun, hended, _, _, rfl, ?_, ⟨⟨_, rfl⟩, hWd, hsame.mono (by decide) (by decide)⟩⟩
            · exact retN X27 hx (t := .boolean) Bd.returns (by simp) (hb hby at_240) hr
            · exact ⟨rfl, N27⟩
          · refine Go.st (fun t k => XS.ifNo X25.here hx rfl (hb hby at_182) rfl (Jvm.Free.XT.i0_eq_f hc26) k) ?_
            show Go p e below _ (T25.setTop (mkF m 185 #[.val (.long i0), .second, .val (.int i1), .val (.int i2), .val (.int jz4), .val (.int jz5), .val (.int jz6), .val (.int jz7), .val (.int jz8), .val (.int jz9), .val (.ref b1), .val (.ref b4), .unset] []))
            refine Go.st (fun t k => XS.aload X25.here hx rfl (hb hby at_185) rfl rfl k) ?_
            show Go p e below _ (T25.setTop (mkF m 187 #[.val (.long i0), .second, .val (.int i1), .val (.int i2), .val (.int jz4), .val (.int jz5), .val (.int jz6), .val (.int jz7), .val (.int jz8), .val (.int jz9), .val (.ref b1), .val (.ref b4), .unset] [(.ref b4)]))
            have c29 := ((((A4.ext E5).keep K8c).keep K16c).keep K25c)
            obtain ⟨cq30, kq30, q30a, q30b, q30c⟩ := isOf hZ rfl c29
            obtain ⟨_, _, ⟨T30, L30, k30, n30⟩, -, X30, ⟨Lc30, hQ30, l30, y30, z30⟩, st30⟩ := X25.virtualBack hx (y := (⟨"com/example/outbound_courier/outboundcourier/http/RequestHead", "setExpectsContinue", "()V"⟩ : MethodName)) (z := (⟨"com/example/outbound_courier/outboundcourier/http/RequestHead", "setExpectsContinue", "()V"⟩ : MethodName)) hown (mvT hZ (w89 hw)) (mvT hZ (w90 hw)) (notFace_of_selects (args := #[]) (mvT hZ (w92 hw))) (mvT hZ (w92 hw)) (mvT hZ (w91 hw)) (by decide) (backOf (W := 0) (rm14_2 l Z a0 hw [] b4 b2_16 b5 jz9 T25.heap n0 O25 c29 r25_6 g_b4 r25_1 r25_2 r25_3 r25_4 r25_5 r25_0) hZ (w93 hw) (w3 hw) (by decide) (by decide)) q30a q30c (g := (mkF m 187 #[.val (.long i0), .second, .val (.int i1), .val (.int i2), .val (.int jz4), .val (.int jz5), .val (.int jz6), .val (.int jz7), .val (.int jz8), .val (.int jz9), .val (.ref b1), .val (.ref b4), .unset] [(.ref b4)])) rfl (by rw [hml]; rfl) (Steps.refl _) (argsL := []) (rest := []) (lenOf pd_5 rfl) rfl (by show 2 * 0 + _ ≤ _; exact Nat.le_of_eq rfl) (hb hby at_187) (fun vm₁ hw₁ => ⟨rfl, rfl, (by decide : 5 + 0 ≤ _), (by decide : 20 + 0 ≤ _)⟩)
            dsimp only [Pt.U, Pt.locs, Pt.cells, Pt.slots] at X30 l30 y30 z30 st30 hQ30
            subst l30 y30 z30
            obtain ⟨rfl, M30, K30c, r30_0, r30_1, r30_2, r30_3, r30_4, r30_5, r30_6⟩ := hQ30
            have N30 := Fr.app N25 M30
            have O30 : Old Z n0 T30.heap := O25.keep K30c (allS g_b4 all0)
            refine Go.tr st30 ?_
            show Go p e below _ (T30.setTop (mkF m 190 #[.val (.long i0), .second, .val (.int i1), .val (.int i2), .val (.int jz4), .val (.int jz5), .val (.int jz6), .val (.int jz7), .val (.int jz8), .val (.int jz9), .val (.ref b1), .val (.ref b4), .unset] []))
            refine Go.st (fun t k => XS.iload X30.here hx rfl (hb hby at_190) rfl k) ?_
            show Go p e below _ (T30.setTop (mkF m 192 #[.val (.long i0), .second, .val (.int i1), .val (.int i2), .val (.int jz4), .val (.int jz5), .val (.int jz6), .val (.int jz7), .val (.int jz8), .val (.int jz9), .val (.ref b1), .val (.ref b4), .unset] [(.int jz4)]))
            refine Go.st (fun t k => XS.ifYes X30.here hx rfl (pc0 := 192) (pc' := 201) rfl (hb hby at_192) rfl (Jvm.Free.XT.i0_eq_t hc17) (by decide) (by decide) k) ?_
            show Go p e below _ (T30.setTop (mkF m 201 #[.val (.long i0), .second, .val (.int i1), .val (.int i2), .val (.int jz4), .val (.int jz5), .val (.int jz6), .val (.int jz7), .val (.int jz8), .val (.int jz9), .val (.ref b1), .val (.ref b4), .unset] []))
            refine Go.st (fun t k => XS.iload X30.here hx rfl (hb hby at_201) rfl k) ?_
            show Go p e below _ (T30.setTop (mkF m 203 #[.val (.long i0), .second, .val (.int i1), .val (.int i2), .val (.int jz4), .val (.int jz5), .val (.int jz6), .val (.int jz7), .val (.int jz8), .val (.int jz9), .val (.ref b1), .val (.ref b4), .unset] [(.int jz5)]))
            refine Go.st (fun t k => XS.ifNo X30.here hx rfl (hb hby at_203) rfl (Jvm.Free.XT.i0_ne_f hc18) k) ?_
            show Go p e below _ (T30.setTop (mkF m 206 #[.val (.long i0), .second, .val (.int i1), .val (.int i2), .val (.int jz4), .val (.int jz5), .val (.int jz6), .val (.int jz7), .val (.int jz8), .val (.int jz9), .val (.ref b1), .val (.ref b4), .unset] []))
            refine Go.st (fun t k => XS.iconst X30.here hx rfl (hb hby at_206) k) ?_
            show Go p e below _ (T30.setTop (mkF m 207 #[.val (.long i0), .second, .val (.int i1), .val (.int i2), .val (.int jz4), .val (.int jz5), .val (.int jz6), .val (.int jz7), .val (.int jz8), .val (.int jz9), .val (.ref b1), .val (.ref b4), .unset] [(.int (0 : Int32))]))
            refine Go.st (fun t k => XS.istore X30.here hx rfl (hb hby at_207) rfl (l' := #[.val (.long i0), .second, .val (.int i1), .val (.int i2), .val (.int jz4), .val (.int jz5), .val (.int jz6), .val (.int jz7), .val (.int jz8), .val (.int jz9), .val (.ref b1), .val (.ref b4), .val (.int (0 : Int32))]) rfl k) ?_
            show Go p e below _ (T30.setTop (mkF m 209 #[.val (.long i0), .second, .val (.int i1), .val (.int i2), .val (.int jz4), .val (.int jz5), .val (.int jz6), .val (.int jz7), .val (.int jz8), .val (.int jz9), .val (.ref b1), .val (.ref b4), .val (.int (0 : Int32))] []))
            refine Go.st (fun t k => XS.goto X30.here hx rfl (pc0 := 209) (pc' := 225) rfl (hb hby at_209) (by decide) (by decide) k) ?_
            show Go p e below _ (T30.setTop (mkF m 225 #[.val (.long i0), .second, .val (.int i1), .val (.int i2), .val (.int jz4), .val (.int jz5), .val (.int jz6), .val (.int jz7), .val (.int jz8), .val (.int jz9), .val (.ref b1), .val (.ref b4), .val (.int (0 : Int32))] []))
            refine Go.st (fun t k => XS.aload X30.here hx rfl (hb hby at_225) rfl rfl k) ?_
            show Go p e below _ (T30.setTop (mkF m 227 #[.val (.long i0), .second, .val (.int i1), .val (.int i2), .val (.int jz4), .val (.int jz5), .val (.int jz6), .val (.int jz7), .val (.int jz8), .val (.int jz9), .val (.ref b1), .val (.ref b4), .val (.int (0 : Int32))] [(.ref b4)]))
            obtain ⟨cq31, kq31, q31a, q31b, q31c⟩ := isOf hZ rfl (c29.keep K30c)
            obtain ⟨_, _, ⟨T31, L31, k31, n31⟩, -, X31, ⟨Lc31, hQ31, l31, y31, z31⟩, st31⟩ := X30.virtualBack hx (y := (⟨"com/example/outbound_courier/outboundcourier/http/RequestHead", "hasBody", "()Z"⟩ : MethodName)) (z := (⟨"com/example/outbound_courier/outboundcourier/http/RequestHead", "hasBody", "()Z"⟩ : MethodName)) hown (mvT hZ (w75 hw)) (mvT hZ (w76 hw)) (notFace_of_selects (args := #[]) (mvT hZ (w78 hw))) (mvT hZ (w78 hw)) (mvT hZ (w77 hw)) (by decide) (backOf (W := 0) (rm12_1 l Z a0 hw [] b4 T30.heap n0 O30 r30_5 r30_2) hZ (w79 hw) (w3 hw) (by decide) (by decide)) q31a q31c (g := (mkF m 227 #[.val (.long i0), .second, .val (.int i1), .val (.int i2), .val (.int jz4), .val (.int jz5), .val (.int jz6), .val (.int jz7), .val (.int jz8), .val (.int jz9), .val (.ref b1), .val (.ref b4), .val (.int (0 : Int32))] [(.ref b4)])) rfl (by rw [hml]; rfl) (Steps.refl _) (argsL := []) (rest := []) (lenOf pd_7 rfl) rfl (by show 2 * 0 + _ ≤ _; exact Nat.le_of_eq rfl) (hb hby at_227) (fun vm₁ hw₁ => ⟨rfl, rfl, (by decide : 5 + 0 ≤ _), (by decide : 20 + 0 ≤ _)⟩)
            dsimp only [Pt.U, Pt.locs, Pt.cells, Pt.slots] at X31 l31 y31 z31 st31 hQ31
            subst l31 y31 z31
            obtain ⟨rfl, M31, eh31⟩ := hQ31
            have N31 := Fr.app N30 M31
            refine Go.tr st31 ?_
            show Go p e below _ (T31.setTop (mkF m 230 #[.val (.long i0), .second, .val (.int i1), .val (.int i2), .val (.int jz4), .val (.int jz5), .val (.int jz6), .val (.int jz7), .val (.int jz8), .val (.int jz9), .val (.ref b1), .val (.ref b4), .val (.int (0 : Int32))] [(.int (0 : Int32))]))
            refine Go.st (fun t k => XS.iload X31.here hx rfl (hb hby at_230) rfl k) ?_
            show Go p e below _ (T31.setTop (mkF m 232 #[.val (.long i0), .second, .val (.int i1), .val (.int i2), .val (.int jz4), .val (.int jz5), .val (.int jz6), .val (.int jz7), .val (.int jz8), .val (.int jz9), .val (.ref b1), .val (.ref b4), .val (.int (0 : Int32))] [(.int (0 : Int32)), (.int (0 : Int32))]))
            refine Go.st (fun t k => XS.icmpNo X31.here hx rfl (hb hby at_232) rfl (Jvm.Free.XT.ii_ne_f (by decide : (0 : Int32) = (0 : Int32))) k) ?_
            show Go p e below _ (T31.setTop (mkF m 235 #[.val (.long i0), .second, .val (.int i1), .val (.int i2), .val (.int jz4), .val (.int jz5), .val (.int jz6), .val (.int jz7), .val (.int jz8), .val (.int jz9), .val (.ref b1), .val (.ref b4), .val (.int (0 : Int32))] []))
            refine Go.st (fun t k => XS.iconst X31.here hx rfl (hb hby at_235) k) ?_
            show Go p e below _ (T31.setTop (mkF m 236 #[.val (.long i0), .second, .val (.int i1), .val (.int i2), .val (.int jz4), .val (.int jz5), .val (.int jz6), .val (.int jz7), .val (.int jz8), .val (.int jz9), .val (.ref b1), .val (.ref b4), .val (.int (0 : Int32))] [(.int (1 : Int32))]))
            refine Go.st (fun t k => XS.goto X31.here hx rfl (pc0 := 236) (pc' := 240) rfl (hb hby at_236) (by decide) (by decide) k) ?_
            show Go p e below _ (T31.setTop (mkF m 240 #[.val (.long i0), .second, .val (.int i1), .val (.int i2), .val (.int jz4), .val (.int jz5), .val (.int jz6), .val (.int jz7), .val (.int jz8), .val (.int jz9), .val (.ref b1), .val (.ref b4), .val (.int (0 : Int32))] [(.int (1 : Int32))]))
            obtain ⟨fs, hr, hrun, hended, hWd, hsame⟩ := X31.leave (v := some (.int (1 : Int32))) (fun h => by rw [Bd.returns] at h; cases h)
            refine ⟨_, _, ?_, hrun, hended, _, _, rfl, ?_, ⟨⟨_, rfl⟩, hWd, hsame.mono (by decide) (by decide)⟩⟩
            · exact retN X31 hx (t := .boolean) Bd.returns (by simp) (hb hby at_240) hr
            · exact ⟨rfl, N31⟩
      · refine Go.st (fun t k => XS.ifNo X16.here hx rfl (hb hby at_146) rfl (Jvm.Free.XT.i0_eq_f hc18) k) ?_
        show Go p e below _ (T16.setTop (mkF m 149 #[.val (.long i0), .second, .val (.int i1), .val (.int i2), .val (.int jz4), .val (.int jz5), .val (.int jz6), .val (.int jz7), .val (.int jz8), .val (.int jz9), .val (.ref b1), .val (.ref b4), .unset] []))
        refine Go.st (fun t k => XS.aload X16.here hx rfl (hb hby at_149) rfl rfl k) ?_
        show Go p e below _ (T16.setTop (mkF m 151 #[.val (.long i0), .second, .val (.int i1), .val (.int i2), .val (.int jz4), .val (.int jz5), .val (.int jz6), .val (.int jz7), .val (.int jz8), .val (.int jz9), .val (.ref b1), .val (.ref b4), .unset] [(.ref b4)]))
        refine Go.st (fun t k => XS.lloadN X16.here hx rfl (hb hby at_151) rfl k) ?_
        show Go p e below _ (T16.setTop (mkF m 152 #[.val (.long i0), .second, .val (.int i1), .val (.int i2), .val (.int jz4), .val (.int jz5), .val (.int jz6), .val (.int jz7), .val (.int jz8), .val (.int jz9), .val (.ref b1), .val (.ref b4), .unset] [(.long i0), (.ref b4)]))
        obtain ⟨cq32, kq32, q32a, q32b, q32c⟩ := isOf hZ rfl (((A4.ext E5).keep K8c).keep K16c)
        obtain ⟨_, _, ⟨T32, L32, k32, n32⟩, -, X32, ⟨Lc32, hQ32, l32, y32, z32⟩, st32⟩ := X16.virtualBack hx (y := (⟨"com/example/outbound_courier/outboundcourier/http/RequestHead", "setContentLength", "(J)V"⟩ : MethodName)) (z := (⟨"com/example/outbound_courier/outboundcourier/http/RequestHead", "setContentLength", "(J)V"⟩ : MethodName)) hown (mvT hZ (w70 hw)) (mvT hZ (w71 hw)) (notFace_of_selects (args := #[]) (mvT hZ (w73 hw))) (mvT hZ (w73 hw)) (mvT hZ (w72 hw)) (by decide) (backOf (W := 0) (rm11_1 l Z a0 hw [] b4 i0 b2_16 b5 jz9 T16.heap n0 O16 (((A4.ext E5).keep K8c).keep K16c) r16_2 g_b4 r16_1 r16_3 r16_4 r16_5 r16_6 r16_7) hZ (w74 hw) (w3 hw) (by decide) (by decide)) q32a q32c (g := (mkF m 152 #[.val (.long i0), .second, .val (.int i1), .val (.int i2), .val (.int jz4), .val (.int jz5), .val (.int jz6), .val (.int jz7), .val (.int jz8), .val (.int jz9), .val (.ref b1), .val (.ref b4), .unset] [(.long i0), (.ref b4)])) rfl (by rw [hml]; rfl) (Steps.refl _) (argsL := [(.long i0)]) (rest := []) (lenOf pd_8 rfl) rfl (by show 2 * 0 + _ ≤ _; exact Nat.le_of_eq rfl) (hb hby at_152) (fun vm₁ hw₁ => ⟨rfl, rfl, (by decide : 5 + 0 ≤ _), (by decide : 20 + 0 ≤ _)⟩)
        dsimp only [Pt.U, Pt.locs, Pt.cells, Pt.slots] at X32 l32 y32 z32 st32 hQ32
        subst l32 y32 z32
        obtain ⟨rfl, M32, K32c, r32_0, r32_1, r32_2, r32_3, r32_4, r32_5, r32_6⟩ := hQ32
        have N32 := Fr.app N16 M32
        have O32 : Old Z n0 T32.heap := O16.keep K32c (allS g_b4 all0)
        refine Go.tr st32 ?_
        show Go p e below _ (T32.setTop (mkF m 155 #[.val (.long i0), .second, .val (.int i1), .val (.int i2), .val (.int jz4), .val (.int jz5), .val (.int jz6), .val (.int jz7), .val (.int jz8), .val (.int jz9), .val (.ref b1), .val (.ref b4), .unset] []))
        refine Go.st (fun t k => XS.iload X32.here hx rfl (hb hby at_155) rfl k) ?_
        show Go p e below _ (T32.setTop (mkF m 157 #[.val (.long i0), .second, .val (.int i1), .val (.int i2), .val (.int jz4), .val (.int jz5), .val (.int jz6), .val (.int jz7), .val (.int jz8), .val (.int jz9), .val (.ref b1), .val (.ref b4), .unset] [(.int jz4)]))
        refine Go.st (fun t k => XS.ifYes X32.here hx rfl (pc0 := 157) (pc' := 170) rfl (hb hby at_157) rfl (Jvm.Free.XT.i0_eq_t hc17) (by decide) (by decide) k) ?_
        show Go p e below _ (T32.setTop (mkF m 170 #[.val (.long i0), .second, .val (.int i1), .val (.int i2), .val (.int jz4), .val (.int jz5), .val (.int jz6), .val (.int jz7), .val (.int jz8), .val (.int jz9), .val (.ref b1), .val (.ref b4), .unset] []))
        refine Go.st (fun t k => XS.iload X32.here hx rfl (hb hby at_170) rfl k) ?_
        show Go p e below _ (T32.setTop (mkF m 172 #[.val (.long i0), .second, .val (.int i1), .val (.int i2), .val (.int jz4), .val (.int jz5), .val (.int jz6), .val (.int jz7), .val (.int jz8), .val (.int jz9), .val (.ref b1), .val (.ref b4), .unset] [(.int jz7)]))
        by_cases hc33 : jz7 = (0 : Int32)
        · refine Go.st (fun t k => XS.ifYes X32.here hx rfl (pc0 := 172) (pc' := 180) rfl (hb hby at_172) rfl (Jvm.Free.XT.i0_eq_t hc33) (by decide) (by decide) k) ?_
          show Go p e below _ (T32.setTop (mkF m 180 #[.val (.long i0), .second, .val (.int i1), .val (.int i2), .val (.int jz4), .val (.int jz5), .val (.int jz6), .val (.int jz7), .val (.int jz8), .val (.int jz9), .val (.ref b1), .val (.ref b4), .unset] []))
          refine Go.st (fun t k => XS.iload X32.here hx rfl (hb hby at_180) rfl k) ?_
          show Go p e below _ (T32.setTop (mkF m 182 #[.val (.long i0), .second, .val (.int i1), .val (.int i2), .val (.int jz4), .val (.int jz5), .val (.int jz6), .val (.int jz7), .val (.int jz8), .val (.int jz9), .val (.ref b1), .val (.ref b4), .unset] [(.int jz8)]))
          by_cases hc34 : jz8 = (0 : Int32)
          · refine Go.st (fun t k => XS.ifYes X32.here hx rfl (pc0 := 182) (pc' := 190) rfl (hb hby at_182) rfl (Jvm.Free.XT.i0_eq_t hc34) (by decide) (by decide) k) ?_
            show Go p e below _ (T32.setTop (mkF m 190 #[.val (.long i0), .second, .val (.int i1), .val (.int i2), .val (.int jz4), .val (.int jz5), .val (.int jz6), .val (.int jz7), .val (.int jz8), .val (.int jz9), .val (.ref b1), .val (.ref b4), .unset] []))
            refine Go.st (fun t k => XS.iload X32.here hx rfl (hb hby at_190) rfl k) ?_
            show Go p e below _ (T32.setTop (mkF m 192 #[.val (.long i0), .second, .val (.int i1), .val (.int i2), .val (.int jz4), .val (.int jz5), .val (.int jz6), .val (.int jz7), .val (.int jz8), .val (.int jz9), .val (.ref b1), .val (.ref b4), .unset] [(.int jz4)]))
            refine Go.st (fun t k => XS.ifYes X32.here hx rfl (pc0 := 192) (pc' := 201) rfl (hb hby at_192) rfl (Jvm.Free.XT.i0_eq_t hc17) (by decide) (by decide) k) ?_
            show Go p e below _ (T32.setTop (mkF m 201 #[.val (.long i0), .second, .val (.int i1), .val (.int i2), .val (.int jz4), .val (.int jz5), .val (.int jz6), .val (.int jz7), .val (.int jz8), .val (.int jz9), .val (.ref b1), .val (.ref b4), .unset] []))
            refine Go.st (fun t k => XS.iload X32.here hx rfl (hb hby at_201) rfl k) ?_
            show Go p e below _ (T32.setTop (mkF m 203 #[.val (.long i0), .second, .val (.int i1), .val (.int i2), .val (.int jz4), .val (.int jz5), .val (.int jz6), .val (.int jz7), .val (.int jz8), .val (.int jz9), .val (.ref b1), .val (.ref b4), .unset] [(.int jz5)]))
            refine Go.st (fun t k => XS.ifYes X32.here hx rfl (pc0 := 203) (pc' := 212) rfl (hb hby at_203) rfl (Jvm.Free.XT.i0_ne_t hc18) (by decide) (by decide) k) ?_
            show Go p e below _ (T32.setTop (mkF m 212 #[.val (.long i0), .second, .val (.int i1), .val (.int i2), .val (.int jz4), .val (.int jz5), .val (.int jz6), .val (.int jz7), .val (.int jz8), .val (.int jz9), .val (.ref b1), .val (.ref b4), .unset] []))
            refine Go.st (fun t k => XS.lloadN X32.here hx rfl (hb hby at_212) rfl k) ?_
            show Go p e below _ (T32.setTop (mkF m 213 #[.val (.long i0), .second, .val (.int i1), .val (.int i2), .val (.int jz4), .val (.int jz5), .val (.int jz6), .val (.int jz7), .val (.int jz8), .val (.int jz9), .val (.ref b1), .val (.ref b4), .unset] [(.long i0)]))
            refine Go.st (fun t k => XS.lconst X32.here hx rfl (hb hby at_213) k) ?_
            show Go p e below _ (T32.setTop (mkF m 214 #[.val (.long i0), .second, .val (.int i1), .val (.int i2), .val (.int jz4), .val (.int jz5), .val (.int jz6), .val (.int jz7), .val (.int jz8), .val (.int jz9), .val (.ref b1), .val (.ref b4), .unset] [(.long (1 : Int64)), (.long i0)]))
            refine Go.st (fun t k => Jvm.Free.XT.lcmp X32.here hx rfl (hb hby at_214) rfl k) ?_
            show Go p e below _ (T32.setTop (mkF m 215 #[.val (.long i0), .second, .val (.int i1), .val (.int i2), .val (.int jz4), .val (.int jz5), .val (.int jz6), .val (.int jz7), .val (.int jz8), .val (.int jz9), .val (.ref b1), .val (.ref b4), .unset] [(.int (Jvm.Free.XT.cmpL i0 (1 : Int64)))]))
            by_cases hc35 : i0 < (1 : Int64)
            · refine Go.st (fun t k => XS.ifYes X32.here hx rfl (pc0 := 215) (pc' := 222) rfl (hb hby at_215) rfl (Jvm.Free.XT.ll_lt_t hc35) (by decide) (by decide) k) ?_
              show Go p e below _ (T32.setTop (mkF m 222 #[.val (.long i0), .second, .val (.int i1), .val (.int i2), .val (.int jz4), .val (.int jz5), .val (.int jz6), .val (.int jz7), .val (.int jz8), .val (.int jz9), .val (.ref b1), .val (.ref b4), .unset] []))
              refine Go.st (fun t k => XS.iconst X32.here hx rfl (hb hby at_222) k) ?_
              show Go p e below _ (T32.setTop (mkF m 223 #[.val (.long i0), .second, .val (.int i1), .val (.int i2), .val (.int jz4), .val (.int jz5), .val (.int jz6), .val (.int jz7), .val (.int jz8), .val (.int jz9), .val (.ref b1), .val (.ref b4), .unset] [(.int (0 : Int32))]))
              refine Go.st (fun t k => XS.istore X32.here hx rfl (hb hby at_223) rfl (l' := #[.val (.long i0), .second, .val (.int i1), .val (.int i2), .val (.int jz4), .val (.int jz5), .val (.int jz6), .val (.int jz7), .val (.int jz8), .val (.int jz9), .val (.ref b1), .val (.ref b4), .val (.int (0 : Int32))]) rfl k) ?_
              show Go p e below _ (T32.setTop (mkF m 225 #[.val (.long i0), .second, .val (.int i1), .val (.int i2), .val (.int jz4), .val (.int jz5), .val (.int jz6), .val (.int jz7), .val (.int jz8), .val (.int jz9), .val (.ref b1), .val (.ref b4), .val (.int (0 : Int32))] []))
              refine Go.st (fun t k => XS.aload X32.here hx rfl (hb hby at_225) rfl rfl k) ?_
              show Go p e below _ (T32.setTop (mkF m 227 #[.val (.long i0), .second, .val (.int i1), .val (.int i2), .val (.int jz4), .val (.int jz5), .val (.int jz6), .val (.int jz7), .val (.int jz8), .val (.int jz9), .val (.ref b1), .val (.ref b4), .val (.int (0 : Int32))] [(.ref b4)]))
              have hp36 : ¬ ((0 : Int64) < i0) := by
                have j1 := own_b64 i0
                have j2 : ((1 : Int64)).toInt = 1 := by decide
                have j3 := Int64.lt_iff_toInt_lt.mp hc35
                have j4 : ((0 : Int64)).toInt = 0 := by decide
                rw [Int64.lt_iff_toInt_lt]
                omega
              have c38 := ((((A4.ext E5).keep K8c).keep K16c).keep K32c)
              obtain ⟨cq37, kq37, q37a, q37b, q37c⟩ := isOf hZ rfl c38
              obtain ⟨_, _, ⟨T37, L37, k37, n37⟩, -, X37, ⟨Lc37, hQ37, l37, y37, z37⟩, st37⟩ := X32.virtualBack hx (y := (⟨"com/example/outbound_courier/outboundcourier/http/RequestHead", "hasBody", "()Z"⟩ : MethodName)) (z := (⟨"com/example/outbound_courier/outboundcourier/http/RequestHead", "hasBody", "()Z"⟩ : MethodName)) hown (mvT hZ (w75 hw)) (mvT hZ (w76 hw)) (notFace_of_selects (args := #[]) (mvT hZ (w78 hw))) (mvT hZ (w78 hw)) (mvT hZ (w77 hw)) (by decide) (backOf (W := 0) (rm12_2 l Z a0 hw [] b4 i0 T32.heap n0 O32 r32_4 r32_0 hp36) hZ (w79 hw) (w3 hw) (by decide) (by decide)) q37a q37c (g := (mkF m 227 #[.val (.long i0), .second, .val (.int i1), .val (.int i2), .val (.int jz4), .val (.int jz5), .val (.int jz6), .val (.int jz7), .val (.int jz8), .val (.int jz9), .val (.ref b1), .val (.ref b4), .val (.int (0 : Int32))] [(.ref b4)])) rfl (by rw [hml]; rfl) (Steps.refl _) (argsL := []) (rest := []) (lenOf pd_7 rfl) rfl (by show 2 * 0 + _ ≤ _; exact Nat.le_of_eq rfl) (hb hby at_227) (fun vm₁ hw₁ => ⟨rfl, rfl, (by decide : 5 + 0 ≤ _), (by decide : 20 + 0 ≤ _)⟩)
              dsimp only [Pt.U, Pt.locs, Pt.cells, Pt.slots] at X37 l37 y37 z37 st37 hQ37
              subst l37 y37 z37
              obtain ⟨rfl, M37, eh37⟩ := hQ37
              have N37 := Fr.app N32 M37
              refine Go.tr st37 ?_
              show Go p e below _ (T37.setTop (mkF m 230 #[.val (.long i0), .second, .val (.int i1), .val (.int i2), .val (.int jz4), .val (.int jz5), .val (.int jz6), .val (.int jz7), .val (.int jz8), .val (.int jz9), .val (.ref b1), .val (.ref b4), .val (.int (0 : Int32))] [(.int (0 : Int32))]))
              refine Go.st (fun t k => XS.iload X37.here hx rfl (hb hby at_230) rfl k) ?_
              show Go p e below _ (T37.setTop (mkF m 232 #[.val (.long i0), .second, .val (.int i1), .val (.int i2), .val (.int jz4), .val (.int jz5), .val (.int jz6), .val (.int jz7), .val (.int jz8), .val (.int jz9), .val (.ref b1), .val (.ref b4), .val (.int (0 : Int32))] [(.int (0 : Int32)), (.int (0 : Int32))]))
              refine Go.st (fun t k => XS.icmpNo X37.here hx rfl (hb hby at_232) rfl (Jvm.Free.XT.ii_ne_f (by decide : (0 : Int32) = (0 : Int32))) k) ?_
              show Go p e below _ (T37.setTop (mkF m 235 #[.val (.long i0), .second, .val (.int i1), .val (.int i2), .val (.int jz4), .val (.int jz5), .val (.int jz6), .val (.int jz7), .val (.int jz8), .val (.int jz9), .val (.ref b1), .val (.ref b4), .val (.int (0 : Int32))] []))
              refine Go.st (fun t k => XS.iconst X37.here hx rfl (hb hby at_235) k) ?_
              show Go p e below _ (T37.setTop (mkF m 236 #[.val (.long i0), .second, .val (.int i1), .val (.int i2), .val (.int jz4), .val (.int jz5), .val (.int jz6), .val (.int jz7), .val (.int jz8), .val (.int jz9), .val (.ref b1), .val (.ref b4), .val (.int (0 : Int32))] [(.int (1 : Int32))]))
              refine Go.st (fun t k => XS.goto X37.here hx rfl (pc0 := 236) (pc' := 240) rfl (hb hby at_236) (by decide) (by decide) k) ?_
              show Go p e below _ (T37.setTop (mkF m 240 #[.val (.long i0), .second, .val (.int i1), .val (.int i2), .val (.int jz4), .val (.int jz5), .val (.int jz6), .val (.int jz7), .val (.int jz8), .val (.int jz9), .val (.ref b1), .val (.ref b4), .val (.int (0 : Int32))] [(.int (1 : Int32))]))
              obtain ⟨fs, hr, hrun, hended, hWd, hsame⟩ := X37.leave (v := some (.int (1 : Int32))) (fun h => by rw [Bd.returns] at h; cases h)
              refine ⟨_, _, ?_, hrun, hended, _, _, rfl, ?_, ⟨⟨_, rfl⟩, hWd, hsame.mono (by decide) (by decide)⟩⟩
              · exact retN X37 hx (t := .boolean) Bd.returns (by simp) (hb hby at_240) hr
              · exact ⟨rfl, N37⟩
            · refine Go.st (fun t k => XS.ifNo X32.here hx rfl (hb hby at_215) rfl (Jvm.Free.XT.ll_lt_f hc35) k) ?_
              show Go p e below _ (T32.setTop (mkF m 218 #[.val (.long i0), .second, .val (.int i1), .val (.int i2), .val (.int jz4), .val (.int jz5), .val (.int jz6), .val (.int jz7), .val (.int jz8), .val (.int jz9), .val (.ref b1), .val (.ref b4), .unset] []))
              refine Go.st (fun t k => XS.iconst X32.here hx rfl (hb hby at_218) k) ?_
              show Go p e below _ (T32.setTop (mkF m 219 #[.val (.long i0), .second, .val (.int i1), .val (.int i2), .val (.int jz4), .val (.int jz5), .val (.int jz6), .val (.int jz7), .val (.int jz8), .val (.int jz9), .val (.ref b1), .val (.ref b4), .unset] [(.int (1 : Int32))]))
              refine Go.st (fun t k => XS.goto X32.here hx rfl (pc0 := 219) (pc' := 223) rfl (hb hby at_219) (by decide) (by decide) k) ?_
              show Go p e below _ (T32.setTop (mkF m 223 #[.val (.long i0), .second, .val (.int i1), .val (.int i2), .val (.int jz4), .val (.int jz5), .val (.int jz6), .val (.int jz7), .val (.int jz8), .val (.int jz9), .val (.ref b1), .val (.ref b4), .unset] [(.int (1 : Int32))]))
              refine Go.st (fun t k => XS.istore X32.here hx rfl (hb hby at_223) rfl (l' := #[.val (.long i0), .second, .val (.int i1), .val (.int i2), .val (.int jz4), .val (.int jz5), .val (.int jz6), .val (.int jz7), .val (.int jz8), .val (.int jz9), .val (.ref b1), .val (.ref b4), .val (.int (1 : Int32))]) rfl k) ?_
              show Go p e below _ (T32.setTop (mkF m 225 #[.val (.long i0), .second, .val (.int i1), .val (.int i2), .val (.int jz4), .val (.int jz5), .val (.int jz6), .val (.int jz7), .val (.int jz8), .val (.int jz9), .val (.ref b1), .val (.ref b4), .val (.int (1 : Int32))] []))
              refine Go.st (fun t k => XS.aload X32.here hx rfl (hb hby at_225) rfl rfl k) ?_
              show Go p e below _ (T32.setTop (mkF m 227 #[.val (.long i0), .second, .val (.int i1), .val (.int i2), .val (.int jz4), .val (.int jz5), .val (.int jz6), .val (.int jz7), .val (.int jz8), .val (.int jz9), .val (.ref b1), .val (.ref b4), .val (.int (1 : Int32))] [(.ref b4)]))
              have hp39 : (0 : Int64) < i0 := by
                have j1 := own_b64 i0
                have j2 : ((1 : Int64)).toInt = 1 := by decide
                have j3 := own_nlt64 hc35
                have j4 : ((0 : Int64)).toInt = 0 := by decide
                rw [Int64.lt_iff_toInt_lt]
                omega
              have c41 := ((((A4.ext E5).keep K8c).keep K16c).keep K32c)
              obtain ⟨cq40, kq40, q40a, q40b, q40c⟩ := isOf hZ rfl c41
              obtain ⟨_, _, ⟨T40, L40, k40, n40⟩, -, X40, ⟨Lc40, hQ40, l40, y40, z40⟩, st40⟩ := X32.virtualBack hx (y := (⟨"com/example/outbound_courier/outboundcourier/http/RequestHead", "hasBody", "()Z"⟩ : MethodName)) (z := (⟨"com/example/outbound_courier/outboundcourier/http/RequestHead", "hasBody", "()Z"⟩ : MethodName)) hown (mvT hZ (w75 hw)) (mvT hZ (w76 hw)) (notFace_of_selects (args := #[]) (mvT hZ (w78 hw))) (mvT hZ (w78 hw)) (mvT hZ (w77 hw)) (by decide) (backOf (W := 0) (rm12_3 l Z a0 hw [] b4 i0 T32.heap n0 O32 r32_4 r32_0 hp39) hZ (w79 hw) (w3 hw) (by decide) (by decide)) q40a q40c (g := (mkF m 227 #[.val (.long i0), .second, .val (.int i1), .val (.int i2), .val (.int jz4), .val (.int jz5), .val (.int jz6), .val (.int jz7), .val (.int jz8), .val (.int jz9), .val (.ref b1), .val (.ref b4), .val (.int (1 : Int32))] [(.ref b4)])) rfl (by rw [hml]; rfl) (Steps.refl _) (argsL := []) (rest := []) (lenOf pd_7 rfl) rfl (by show 2 * 0 + _ ≤ _; exact Nat.le_of_eq rfl) (hb hby at_227) (fun vm₁ hw₁ => ⟨rfl, rfl, (by decide : 5 + 0 ≤ _), (by decide : 20 + 0 ≤ _)⟩)
              dsimp only [Pt.U, Pt.locs, Pt.cells, Pt.slots] at X40 l40 y40 z40 st40 hQ40
              subst l40 y40 z40
              obtain ⟨rfl, M40, eh40⟩ := hQ40
              have N40 := Fr.app N32 M40
              refine Go.tr st40 ?_
              show Go p e below _ (T40.setTop (mkF m 230 #[.val (.long i0), .second, .val (.int i1), .val (.int i2), .val (.int jz4), .val (.int jz5), .val (.int jz6), .val (.int jz7), .val (.int jz8), .val (.int jz9), .val (.ref b1), .val (.ref b4), .val (.int (1 : Int32))] [(.int (1 : Int32))]))
              refine Go.st (fun t k => XS.iload X40.here hx rfl (hb hby at_230) rfl k) ?_
              show Go p e below _ (T40.setTop (mkF m 232 #[.val (.long i0), .second, .val (.int i1), .val (.int i2), .val (.int jz4), .val (.int jz5), .val (.int jz6), .val (.int jz7), .val (.int jz8), .val (.int jz9), .val (.ref b1), .val (.ref b4), .val (.int (1 : Int32))] [(.int (1 : Int32)), (.int (1 : Int32))]))
              refine Go.st (fun t k => XS.icmpNo X40.here hx rfl (hb hby at_232) rfl (Jvm.Free.XT.ii_ne_f (by decide : (1 : Int32) = (1 : Int32))) k) ?_
              show Go p e below _ (T40.setTop (mkF m 235 #[.val (.long i0), .second, .val (.int i1), .val (.int i2), .val (.int jz4), .val (.int jz5), .val (.int jz6), .val (.int jz7), .val (.int jz8), .val (.int jz9), .val (.ref b1), .val (.ref b4), .val (.int (1 : Int32))] []))
              refine Go.st (fun t k => XS.iconst X40.here hx rfl (hb hby at_235) k) ?_
              show Go p e below _ (T40.setTop (mkF m 236 #[.val (.long i0), .second, .val (.int i1), .val (.int i2), .val (.int jz4), .val (.int jz5), .val (.int jz6), .val (.int jz7), .val (.int jz8), .val (.int jz9), .val (.ref b1), .val (.ref b4), .val (.int (1 : Int32))] [(.int (1 : Int32))]))
              refine Go.st (fun t k => XS.goto X40.here hx rfl (pc0 := 236) (pc' := 240) rfl (hb hby at_236) (by decide) (by decide) k) ?_
              show Go p e below _ (T40.setTop (mkF m 240 #[.val (.long i0), .second, .val (.int i1), .val (.int i2), .val (.int jz4), .val (.int jz5), .val (.int jz6), .val (.int jz7), .val (.int jz8), .val (.int jz9), .val (.ref b1), .val (.ref b4), .val (.int (1 : Int32))] [(.int (1 : Int32))]))
              obtain ⟨fs, hr, hrun, hended, hWd, hsame⟩ := X40.leave (v := some (.int (1 : Int32))) (fun h => by rw [Bd.returns] at h; cases h)
              refine ⟨_, _, ?_, hrun, hended, _, _, rfl, ?_, ⟨⟨_, rfl⟩, hWd, hsame.mono (by decide) (by decide)⟩⟩
              · exact retN X40 hx (t := .boolean) Bd.returns (by simp) (hb hby at_240) hr
              · exact ⟨rfl, N40⟩
          · refine Go.st (fun t k => XS.ifNo X32.here hx rfl (hb hby at_182) rfl (Jvm.Free.XT.i0_eq_f hc34) k) ?_
            show Go p e below _ (T32.setTop (mkF m 185 #[.val (.long i0), .second, .val (.int i1), .val (.int i2), .val (.int jz4), .val (.int jz5), .val (.int jz6), .val (.int jz7), .val (.int jz8), .val (.int jz9), .val (.ref b1), .val (.ref b4), .unset] []))
            refine Go.st (fun t k => XS.aload X32.here hx rfl (hb hby at_185) rfl rfl k) ?_
            show Go p e below _ (T32.setTop (mkF m 187 #[.val (.long i0), .second, .val (.int i1), .val (.int i2), .val (.int jz4), .val (.int jz5), .val (.int jz6), .val (.int jz7), .val (.int jz8), .val (.int jz9), .val (.ref b1), .val (.ref b4), .unset] [(.ref b4)]))
            have c42 := ((((A4.ext E5).keep K8c).keep K16c).keep K32c)
            obtain ⟨cq43, kq43, q43a, q43b, q43c⟩ := isOf hZ rfl c42
            obtain ⟨_, _, ⟨T43, L43, k43, n43⟩, -, X43, ⟨Lc43, hQ43, l43, y43, z43⟩, st43⟩ := X32.virtualBack hx (y := (⟨"com/example/outbound_courier/outboundcourier/http/RequestHead", "setExpectsContinue", "()V"⟩ : MethodName)) (z := (⟨"com/example/outbound_courier/outboundcourier/http/RequestHead", "setExpectsContinue", "()V"⟩ : MethodName)) hown (mvT hZ (w89 hw)) (mvT hZ (w90 hw)) (notFace_of_selects (args := #[]) (mvT hZ (w92 hw))) (mvT hZ (w92 hw)) (mvT hZ (w91 hw)) (by decide) (backOf (W := 0) (rm14_3 l Z a0 hw [] b4 b2_16 i0 b5 jz9 T32.heap n0 O32 c42 r32_6 g_b4 r32_1 r32_0 r32_2 r32_3 r32_4 r32_5) hZ (w93 hw) (w3 hw) (by decide) (by decide)) q43a q43c (g := (mkF m 187 #[.val (.long i0), .second, .val (.int i1), .val (.int i2), .val (.int jz4), .val (.int jz5), .val (.int jz6), .val (.int jz7), .val (.int jz8), .val (.int jz9), .val (.ref b1), .val (.ref b4), .unset] [(.ref b4)])) rfl (by rw [hml]; rfl) (Steps.refl _) (argsL := []) (rest := []) (lenOf pd_5 rfl) rfl (by show 2 * 0 + _ ≤ _; exact Nat.le_of_eq rfl) (hb hby at_187) (fun vm₁ hw₁ => ⟨rfl, rfl, (by decide : 5 + 0 ≤ _), (by decide : 20 + 0 ≤ _)⟩)
            dsimp only [Pt.U, Pt.locs, Pt.cells, Pt.slots] at X43 l43 y43 z43 st43 hQ43
            subst l43 y43 z43
            obtain ⟨rfl, M43, K43c, r43_0, r43_1, r43_2, r43_3, r43_4, r43_5, r43_6⟩ := hQ43
            have N43 := Fr.app N32 M43
            have O43 : Old Z n0 T43.heap := O32.keep K43c (allS g_b4 all0)
            refine Go.tr st43 ?_
            show Go p e below _ (T43.setTop (mkF m 190 #[.val (.long i0), .second, .val (.int i1), .val (.int i2), .val (.int jz4), .val (.int jz5), .val (.int jz6), .val (.int jz7), .val (.int jz8), .val (.int jz9), .val (.ref b1), .val (.ref b4), .unset] []))
            refine Go.st (fun t k => XS.iload X43.here hx rfl (hb hby at_190) rfl k) ?_
            show Go p e below _ (T43.setTop (mkF m 192 #[.val (.long i0), .second, .val (.int i1), .val (.int i2), .val (.int jz4), .val (.int jz5), .val (.int jz6), .val (.int jz7), .val (.int jz8), .val (.int jz9), .val (.ref b1), .val (.ref b4), .unset] [(.int jz4)]))
            refine Go.st (fun t k => XS.ifYes X43.here hx rfl (pc0 := 192) (pc' := 201) rfl (hb hby at_192) rfl (Jvm.Free.XT.i0_eq_t hc17) (by decide) (by decide) k) ?_
            show Go p e below _ (T43.setTop (mkF m 201 #[.val (.long i0), .second, .val (.int i1), .val (.int i2), .val (.int jz4), .val (.int jz5), .val (.int jz6), .val (.int jz7), .val (.int jz8), .val (.int jz9), .val (.ref b1), .val (.ref b4), .unset] []))
            refine Go.st (fun t k => XS.iload X43.here hx rfl (hb hby at_201) rfl k) ?_
            show Go p e below _ (T43.setTop (mkF m 203 #[.val (.long i0), .second, .val (.int i1), .val (.int i2), .val (.int jz4), .val (.int jz5), .val (.int jz6), .val (.int jz7), .val (.int jz8), .val (.int jz9), .val (.ref b1), .val (.ref b4), .unset] [(.int jz5)]))
            refine Go.st (fun t k => XS.ifYes X43.here hx rfl (pc0 := 203) (pc' := 212) rfl (hb hby at_203) rfl (Jvm.Free.XT.i0_ne_t hc18) (by decide) (by decide) k) ?_
            show Go p e below _ (T43.setTop (mkF m 212 #[.val (.long i0), .second, .val (.int i1), .val (.int i2), .val (.int jz4), .val (.int jz5), .val (.int jz6), .val (.int jz7), .val (.int jz8), .val (.int jz9), .val (.ref b1), .val (.ref b4), .unset] []))
            refine Go.st (fun t k => XS.lloadN X43.here hx rfl (hb hby at_212) rfl k) ?_
            show Go p e below _ (T43.setTop (mkF m 213 #[.val (.long i0), .second, .val (.int i1), .val (.int i2), .val (.int jz4), .val (.int jz5), .val (.int jz6), .val (.int jz7), .val (.int jz8), .val (.int jz9), .val (.ref b1), .val (.ref b4), .unset] [(.long i0)]))
            refine Go.st (fun t k => XS.lconst X43.here hx rfl (hb hby at_213) k) ?_
            show Go p e below _ (T43.setTop (mkF m 214 #[.val (.long i0), .second, .val (.int i1), .val (.int i2), .val (.int jz4), .val (.int jz5), .val (.int jz6), .val (.int jz7), .val (.int jz8), .val (.int jz9), .val (.ref b1), .val (.ref b4), .unset] [(.long (1 : Int64)), (.long i0)]))
            refine Go.st (fun t k => Jvm.Free.XT.lcmp X43.here hx rfl (hb hby at_214) rfl k) ?_
            show Go p e below _ (T43.setTop (mkF m 215 #[.val (.long i0), .second, .val (.int i1), .val (.int i2), .val (.int jz4), .val (.int jz5), .val (.int jz6), .val (.int jz7), .val (.int jz8), .val (.int jz9), .val (.ref b1), .val (.ref b4), .unset] [(.int (Jvm.Free.XT.cmpL i0 (1 : Int64)))]))
            by_cases hc44 : i0 < (1 : Int64)
            · refine Go.st (fun t k => XS.ifYes X43.here hx rfl (pc0 := 215) (pc' := 222) rfl (hb hby at_215) rfl (Jvm.Free.XT.ll_lt_t hc44) (by decide) (by decide) k) ?_
              show Go p e below _ (T43.setTop (mkF m 222 #[.val (.long i0), .second, .val (.int i1), .val (.int i2), .val (.int jz4), .val (.int jz5), .val (.int jz6), .val (.int jz7), .val (.int jz8), .val (.int jz9), .val (.ref b1), .val (.ref b4), .unset] []))
              refine Go.st (fun t k => XS.iconst X43.here hx rfl (hb hby at_222) k) ?_
              show Go p e below _ (T43.setTop (mkF m 223 #[.val (.long i0), .second, .val (.int i1), .val (.int i2), .val (.int jz4), .val (.int jz5), .val (.int jz6), .val (.int jz7), .val (.int jz8), .val (.int jz9), .val (.ref b1), .val (.ref b4), .unset] [(.int (0 : Int32))]))
              refine Go.st (fun t k => XS.istore X43.here hx rfl (hb hby at_223) rfl (l' := #[.val (.long i0), .second, .val (.int i1), .val (.int i2), .val (.int jz4), .val (.int jz5), .val (.int jz6), .val (.int jz7), .val (.int jz8), .val (.int jz9), .val (.ref b1), .val (.ref b4), .val (.int (0 : Int32))]) rfl k) ?_
              show Go p e below _ (T43.setTop (mkF m 225 #[.val (.long i0), .second, .val (.int i1), .val (.int i2), .val (.int jz4), .val (.int jz5), .val (.int jz6), .val (.int jz7), .val (.int jz8), .val (.int jz9), .val (.ref b1), .val (.ref b4), .val (.int (0 : Int32))] []))
              refine Go.st (fun t k => XS.aload X43.here hx rfl (hb hby at_225) rfl rfl k) ?_
              show Go p e below _ (T43.setTop (mkF m 227 #[.val (.long i0), .second, .val (.int i1), .val (.int i2), .val (.int jz4), .val (.int jz5), .val (.int jz6), .val (.int jz7), .val (.int jz8), .val (.int jz9), .val (.ref b1), .val (.ref b4), .val (.int (0 : Int32))] [(.ref b4)]))
              have hp45 : ¬ ((0 : Int64) < i0) := by
                have j1 := own_b64 i0
                have j2 : ((1 : Int64)).toInt = 1 := by decide
                have j3 := Int64.lt_iff_toInt_lt.mp hc44
                have j4 : ((0 : Int64)).toInt = 0 := by decide
                rw [Int64.lt_iff_toInt_lt]
                omega
              obtain ⟨cq46, kq46, q46a, q46b, q46c⟩ := isOf hZ rfl (c42.keep K43c)
              obtain ⟨_, _, ⟨T46, L46, k46, n46⟩, -, X46, ⟨Lc46, hQ46, l46, y46, z46⟩, st46⟩ := X43.virtualBack hx (y := (⟨"com/example/outbound_courier/outboundcourier/http/RequestHead", "hasBody", "()Z"⟩ : MethodName)) (z := (⟨"com/example/outbound_courier/outboundcourier/http/RequestHead", "hasBody", "()Z"⟩ : MethodName)) hown (mvT hZ (w75 hw)) (mvT hZ (w76 hw)) (notFace_of_selects (args := #[]) (mvT hZ (w78 hw))) (mvT hZ (w78 hw)) (mvT hZ (w77 hw)) (by decide) (backOf (W := 0) (rm12_2 l Z a0 hw [] b4 i0 T43.heap n0 O43 r43_5 r43_2 hp45) hZ (w79 hw) (w3 hw) (by decide) (by decide)) q46a q46c (g := (mkF m 227 #[.val (.long i0), .second, .val (.int i1), .val (.int i2), .val (.int jz4), .val (.int jz5), .val (.int jz6), .val (.int jz7), .val (.int jz8), .val (.int jz9), .val (.ref b1), .val (.ref b4), .val (.int (0 : Int32))] [(.ref b4)])) rfl (by rw [hml]; rfl) (Steps.refl _) (argsL := []) (rest := []) (lenOf pd_7 rfl) rfl (by show 2 * 0 + _ ≤ _; exact Nat.le_of_eq rfl) (hb hby at_227) (fun vm₁ hw₁ => ⟨rfl, rfl, (by decide : 5 + 0 ≤ _), (by decide : 20 + 0 ≤ _)⟩)
              dsimp only [Pt.U, Pt.locs, Pt.cells, Pt.slots] at X46 l46 y46 z46 st46 hQ46
              subst l46 y46 z46
              obtain ⟨rfl, M46, eh46⟩ := hQ46
              have N46 := Fr.app N43 M46
              refine Go.tr st46 ?_
              show Go p e below _ (T46.setTop (mkF m 230 #[.val (.long i0), .second, .val (.int i1), .val (.int i2), .val (.int jz4), .val (.int jz5), .val (.int jz6), .val (.int jz7), .val (.int jz8), .val (.int jz9), .val (.ref b1), .val (.ref b4), .val (.int (0 : Int32))] [(.int (0 : Int32))]))
              refine Go.st (fun t k => XS.iload X46.here hx rfl (hb hby at_230) rfl k) ?_
              show Go p e below _ (T46.setTop (mkF m 232 #[.val (.long i0), .second, .val (.int i1), .val (.int i2), .val (.int jz4), .val (.int jz5), .val (.int jz6), .val (.int jz7), .val (.int jz8), .val (.int jz9), .val (.ref b1), .val (.ref b4), .val (.int (0 : Int32))] [(.int (0 : Int32)), (.int (0 : Int32))]))
              refine Go.st (fun t k => XS.icmpNo X46.here hx rfl (hb hby at_232) rfl (Jvm.Free.XT.ii_ne_f (by decide : (0 : Int32) = (0 : Int32))) k) ?_
              show Go p e below _ (T46.setTop (mkF m 235 #[.val (.long i0), .second, .val (.int i1), .val (.int i2), .val (.int jz4), .val (.int jz5), .val (.int jz6), .val (.int jz7), .val (.int jz8), .val (.int jz9), .val (.ref b1), .val (.ref b4), .val (.int (0 : Int32))] []))
              refine Go.st (fun t k => XS.iconst X46.here hx rfl (hb hby at_235) k) ?_
              show Go p e below _ (T46.setTop (mkF m 236 #[.val (.long i0), .second, .val (.int i1), .val (.int i2), .val (.int jz4), .val (.int jz5), .val (.int jz6), .val (.int jz7), .val (.int jz8), .val (.int jz9), .val (.ref b1), .val (.ref b4), .val (.int (0 : Int32))] [(.int (1 : Int32))]))
              refine Go.st (fun t k => XS.goto X46.here hx rfl (pc0 := 236) (pc' := 240) rfl (hb hby at_236) (by decide) (by decide) k) ?_
              show Go p e below _ (T46.setTop (mkF m 240 #[.val (.long i0), .second, .val (.int i1), .val (.int i2), .val (.int jz4), .val (.int jz5), .val (.int jz6), .val (.int jz7), .val (.int jz8), .val (.int jz9), .val (.ref b1), .val (.ref b4), .val (.int (0 : Int32))] [(.int (1 : Int32))]))
              obtain ⟨fs, hr, hrun, hended, hWd, hsame⟩ := X46.leave (v := some (.int (1 : Int32))) (fun h => by rw [Bd.returns] at h; cases h)
              refine ⟨_, _, ?_, hrun, hended, _, _, rfl, ?_, ⟨⟨_, rfl⟩, hWd, hsame.mono (by decide) (by decide)⟩⟩
              · exact retN X46 hx (t := .boolean) Bd.returns (by simp) (hb hby at_240) hr
              · exact ⟨rfl, N46⟩
            · refine Go.st (fun t k => XS.ifNo X43.here hx rfl (hb hby at_215) rfl (Jvm.Free.XT.ll_lt_f hc44) k) ?_
              show Go p e below _ (T43.setTop (mkF m 218 #[.val (.long i0), .second, .val (.int i1), .val (.int i2), .val (.int jz4), .val (.int jz5), .val (.int jz6), .val (.int jz7), .val (.int jz8), .val (.int jz9), .val (.ref b1), .val (.ref b4), .unset] []))
              refine Go.st (fun t k => XS.iconst X43.here hx rfl (hb hby at_218) k) ?_
              show Go p e below _ (T43.setTop (mkF m 219 #[.val (.long i0), .second, .val (.int i1), .val (.int i2), .val (.int jz4), .val (.int jz5), .val (.int jz6), .val (.int jz7), .val (.int jz8), .val (.int jz9), .val (.ref b1), .val (.ref b4), .unset] [(.int (1 : Int32))]))
              refine Go.st (fun t k => XS.goto X43.here hx rfl (pc0 := 219) (pc' := 223) rfl (hb hby at_219) (by decide) (by decide) k) ?_
              show Go p e below _ (T43.setTop (mkF m 223 #[.val (.long i0), .second, .val (.int i1), .val (.int i2), .val (.int jz4), .val (.int jz5), .val (.int jz6), .val (.int jz7), .val (.int jz8), .val (.int jz9), .val (.ref b1), .val (.ref b4), .unset] [(.int (1 : Int32))]))
              refine Go.st (fun t k => XS.istore X43.here hx rfl (hb hby at_223) rfl (l' := #[.val (.long i0), .second, .val (.int i1), .val (.int i2), .val (.int jz4), .val (.int jz5), .val (.int jz6), .val (.int jz7), .val (.int jz8), .val (.int jz9), .val (.ref b1), .val (.ref b4), .val (.int (1 : Int32))]) rfl k) ?_
              show Go p e below _ (T43.setTop (mkF m 225 #[.val (.long i0), .second, .val (.int i1), .val (.int i2), .val (.int jz4), .val (.int jz5), .val (.int jz6), .val (.int jz7), .val (.int jz8), .val (.int jz9), .val (.ref b1), .val (.ref b4), .val (.int (1 : Int32))] []))
              refine Go.st (fun t k => XS.aload X43.here hx rfl (hb hby at_225) rfl rfl k) ?_
              show Go p e below _ (T43.setTop (mkF m 227 #[.val (.long i0), .second, .val (.int i1), .val (.int i2), .val (.int jz4), .val (.int jz5), .val (.int jz6), .val (.int jz7), .val (.int jz8), .val (.int jz9), .val (.ref b1), .val (.ref b4), .val (.int (1 : Int32))] [(.ref b4)]))
              have hp47 : (0 : Int64) < i0 := by
                have j1 := own_b64 i0
                have j2 : ((1 : Int64)).toInt = 1 := by decide
                have j3 := own_nlt64 hc44
                have j4 : ((0 : Int64)).toInt = 0 := by decide
                rw [Int64.lt_iff_toInt_lt]
                omega
              obtain ⟨cq48, kq48, q48a, q48b, q48c⟩ := isOf hZ rfl (c42.keep K43c)
              obtain ⟨_, _, ⟨T48, L48, k48, n48⟩, -, X48, ⟨Lc48, hQ48, l48, y48, z48⟩, st48⟩ := X43.virtualBack hx (y := (⟨"com/example/outbound_courier/outboundcourier/http/RequestHead", "hasBody", "()Z"⟩ : MethodName)) (z := (⟨"com/example/outbound_courier/outboundcourier/http/RequestHead", "hasBody", "()Z"⟩ : MethodName)) hown (mvT hZ (w75 hw)) (mvT hZ (w76 hw)) (notFace_of_selects (args := #[]) (mvT hZ (w78 hw))) (mvT hZ (w78 hw)) (mvT hZ (w77 hw)) (by decide) (backOf (W := 0) (rm12_3 l Z a0 hw [] b4 i0 T43.heap n0 O43 r43_5 r43_2 hp47) hZ (w79 hw) (w3 hw) (by decide) (by decide)) q48a q48c (g := (mkF m 227 #[.val (.long i0), .second, .val (.int i1), .val (.int i2), .val (.int jz4), .val (.int jz5), .val (.int jz6), .val (.int jz7), .val (.int jz8), .val (.int jz9), .val (.ref b1), .val (.ref b4), .val (.int (1 : Int32))] [(.ref b4)])) rfl (by rw [hml]; rfl) (Steps.refl _) (argsL := []) (rest := []) (lenOf pd_7 rfl) rfl (by show 2 * 0 + _ ≤ _; exact Nat.le_of_eq rfl) (hb hby at_227) (fun vm₁ hw₁ => ⟨rfl, rfl, (by decide : 5 + 0 ≤ _), (by decide : 20 + 0 ≤ _)⟩)
              dsimp only [Pt.U, Pt.locs, Pt.cells, Pt.slots] at X48 l48 y48 z48 st48 hQ48
              subst l48 y48 z48
              obtain ⟨rfl, M48, eh48⟩ := hQ48
              have N48 := Fr.app N43 M48
              refine Go.tr st48 ?_
              show Go p e below _ (T48.setTop (mkF m 230 #[.val (.long i0), .second, .val (.int i1), .val (.int i2), .val (.int jz4), .val (.int jz5), .val (.int jz6), .val (.int jz7), .val (.int jz8), .val (.int jz9), .val (.ref b1), .val (.ref b4), .val (.int (1 : Int32))] [(.int (1 : Int32))]))
              refine Go.st (fun t k => XS.iload X48.here hx rfl (hb hby at_230) rfl k) ?_
              show Go p e below _ (T48.setTop (mkF m 232 #[.val (.long i0), .second, .val (.int i1), .val (.int i2), .val (.int jz4), .val (.int jz5), .val (.int jz6), .val (.int jz7), .val (.int jz8), .val (.int jz9), .val (.ref b1), .val (.ref b4), .val (.int (1 : Int32))] [(.int (1 : Int32)), (.int (1 : Int32))]))
              refine Go.st (fun t k => XS.icmpNo X48.here hx rfl (hb hby at_232) rfl (Jvm.Free.XT.ii_ne_f (by decide : (1 : Int32) = (1 : Int32))) k) ?_
              show Go p e below _ (T48.setTop (mkF m 235 #[.val (.long i0), .second, .val (.int i1), .val (.int i2), .val (.int jz4), .val (.int jz5), .val (.int jz6), .val (.int jz7), .val (.int jz8), .val (.int jz9), .val (.ref b1), .val (.ref b4), .val (.int (1 : Int32))] []))
              refine Go.st (fun t k => XS.iconst X48.here hx rfl (hb hby at_235) k) ?_
              show Go p e below _ (T48.setTop (mkF m 236 #[.val (.long i0), .second, .val (.int i1), .val (.int i2), .val (.int jz4), .val (.int jz5), .val (.int jz6), .val (.int jz7), .val (.int jz8), .val (.int jz9), .val (.ref b1), .val (.ref b4), .val (.int (1 : Int32))] [(.int (1 : Int32))]))
              refine Go.st (fun t k => XS.goto X48.here hx rfl (pc0 := 236) (pc' := 240) rfl (hb hby at_236) (by decide) (by decide) k) ?_
              show Go p e below _ (T48.setTop (mkF m 240 #[.val (.long i0), .second, .val (.int i1), .val (.int i2), .val (.int jz4), .val (.int jz5), .val (.int jz6), .val (.int jz7), .val (.int jz8), .val (.int jz9), .val (.ref b1), .val (.ref b4), .val (.int (1 : Int32))] [(.int (1 : Int32))]))
              obtain ⟨fs, hr, hrun, hended, hWd, hsame⟩ := X48.leave (v := some (.int (1 : Int32))) (fun h => by rw [Bd.returns] at h; cases h)
              refine ⟨_, _, ?_, hrun, hended, _, _, rfl, ?_, ⟨⟨_, rfl⟩, hWd, hsame.mono (by decide) (by decide)⟩⟩
              · exact retN X48 hx (t := .boolean) Bd.returns (by simp) (hb hby at_240) hr
              · exact ⟨rfl, N48⟩
        · refine Go.st (fun t k => XS.ifNo X32.here hx rfl (hb hby at_172) rfl (Jvm.Free.XT.i0_eq_f hc33) k) ?_
          show Go p e below _ (T32.setTop (mkF m 175 #[.val (.long i0), .second, .val (.int i1), .val (.int i2), .val (.int jz4), .val (.int jz5), .val (.int jz6), .val (.int jz7), .val (.int jz8), .val (.int jz9), .val (.ref b1), .val (.ref b4), .unset] []))
          refine Go.st (fun t k => XS.aload X32.here hx rfl (hb hby at_175) rfl rfl k) ?_
          show Go p e below _ (T32.setTop (mkF m 177 #[.val (.long i0), .second, .val (.int i1), .val (.int i2), .val (.int jz4), .val (.int jz5), .val (.int jz6), .val (.int jz7), .val (.int jz8), .val (.int jz9), .val (.ref b1), .val (.ref b4), .unset] [(.ref b4)]))
          have c49 := ((((A4.ext E5).keep K8c).keep K16c).keep K32c)
          obtain ⟨cq50, kq50, q50a, q50b, q50c⟩ := isOf hZ rfl c49
          obtain ⟨_, _, ⟨T50, L50, k50, n50⟩, -, X50, ⟨Lc50, hQ50, l50, y50, z50⟩, st50⟩ := X32.virtualBack hx (y := (⟨"com/example/outbound_courier/outboundcourier/http/RequestHead", "setClose", "()V"⟩ : MethodName)) (z := (⟨"com/example/outbound_courier/outboundcourier/http/RequestHead", "setClose", "()V"⟩ : MethodName)) hown (mvT hZ (w82 hw)) (mvT hZ (w83 hw)) (notFace_of_selects (args := #[]) (mvT hZ (w85 hw))) (mvT hZ (w85 hw)) (mvT hZ (w84 hw)) (by decide) (backOf (W := 0) (rm13_2 l Z a0 hw [] b4 b2_16 i0 b5 jz9 T32.heap n0 O32 c49 r32_5 g_b4 r32_1 r32_0 r32_2 r32_3 r32_4 r32_6) hZ (w86 hw) (w3 hw) (by decide) (by decide)) q50a q50c (g := (mkF m 177 #[.val (.long i0), .second, .val (.int i1), .val (.int i2), .val (.int jz4), .val (.int jz5), .val (.int jz6), .val (.int jz7), .val (.int jz8), .val (.int jz9), .val (.ref b1), .val (.ref b4), .unset] [(.ref b4)])) rfl (by rw [hml]; rfl) (Steps.refl _) (argsL := []) (rest := []) (lenOf pd_5 rfl) rfl (by show 2 * 0 + _ ≤ _; exact Nat.le_of_eq rfl) (hb hby at_177) (fun vm₁ hw₁ => ⟨rfl, rfl, (by decide : 5 + 0 ≤ _), (by decide : 20 + 0 ≤ _)⟩)
          dsimp only [Pt.U, Pt.locs, Pt.cells, Pt.slots] at X50 l50 y50 z50 st50 hQ50
          subst l50 y50 z50
          obtain ⟨rfl, M50, K50c, r50_0, r50_1, r50_2, r50_3, r50_4, r50_5, r50_6⟩ := hQ50
          have N50 := Fr.app N32 M50
          have O50 : Old Z n0 T50.heap := O32.keep K50c (allS g_b4 all0)
          refine Go.tr st50 ?_
          show Go p e below _ (T50.setTop (mkF m 180 #[.val (.long i0), .second, .val (.int i1), .val (.int i2), .val (.int jz4), .val (.int jz5), .val (.int jz6), .val (.int jz7), .val (.int jz8), .val (.int jz9), .val (.ref b1), .val (.ref b4), .unset] []))
          refine Go.st (fun t k => XS.iload X50.here hx rfl (hb hby at_180) rfl k) ?_
          show Go p e below _ (T50.setTop (mkF m 182 #[.val (.long i0), .second, .val (.int i1), .val (.int i2), .val (.int jz4), .val (.int jz5), .val (.int jz6), .val (.int jz7), .val (.int jz8), .val (.int jz9), .val (.ref b1), .val (.ref b4), .unset] [(.int jz8)]))
          by_cases hc51 : jz8 = (0 : Int32)
          · refine Go.st (fun t k => XS.ifYes X50.here hx rfl (pc0 := 182) (pc' := 190) rfl (hb hby at_182) rfl (Jvm.Free.XT.i0_eq_t hc51) (by decide) (by decide) k) ?_
            show Go p e below _ (T50.setTop (mkF m 190 #[.val (.long i0), .second, .val (.int i1), .val (.int i2), .val (.int jz4), .val (.int jz5), .val (.int jz6), .val (.int jz7), .val (.int jz8), .val (.int jz9), .val (.ref b1), .val (.ref b4), .unset] []))
            refine Go.st (fun t k => XS.iload X50.here hx rfl (hb hby at_190) rfl k) ?_
            show Go p e below _ (T50.setTop (mkF m 192 #[.val (.long i0), .second, .val (.int i1), .val (.int i2), .val (.int jz4), .val (.int jz5), .val (.int jz6), .val (.int jz7), .val (.int jz8), .val (.int jz9), .val (.ref b1), .val (.ref b4), .unset] [(.int jz4)]))
            refine Go.st (fun t k => XS.ifYes X50.here hx rfl (pc0 := 192) (pc' := 201) rfl (hb hby at_192) rfl (Jvm.Free.XT.i0_eq_t hc17) (by decide) (by decide) k) ?_
            show Go p e below _ (T50.setTop (mkF m 201 #[.val (.long i0), .second, .val (.int i1), .val (.int i2), .val (.int jz4), .val (.int jz5), .val (.int jz6), .val (.int jz7), .val (.int jz8), .val (.int jz9), .val (.ref b1), .val (.ref b4), .unset] []))
            refine Go.st (fun t k => XS.iload X50.here hx rfl (hb hby at_201) rfl k) ?_
            show Go p e below _ (T50.setTop (mkF m 203 #[.val (.long i0), .second, .val (.int i1), .val (.int i2), .val (.int jz4), .val (.int jz5), .val (.int jz6), .val (.int jz7), .val (.int jz8), .val (.int jz9), .val (.ref b1), .val (.ref b4), .unset] [(.int jz5)]))
            refine Go.st (fun t k => XS.ifYes X50.here hx rfl (pc0 := 203) (pc' := 212) rfl (hb hby at_203) rfl (Jvm.Free.XT.i0_ne_t hc18) (by decide) (by decide) k) ?_
            show Go p e below _ (T50.setTop (mkF m 212 #[.val (.long i0), .second, .val (.int i1), .val (.int i2), .val (.int jz4), .val (.int jz5), .val (.int jz6), .val (.int jz7), .val (.int jz8), .val (.int jz9), .val (.ref b1), .val (.ref b4), .unset] []))
            refine Go.st (fun t k => XS.lloadN X50.here hx rfl (hb hby at_212) rfl k) ?_
            show Go p e below _ (T50.setTop (mkF m 213 #[.val (.long i0), .second, .val (.int i1), .val (.int i2), .val (.int jz4), .val (.int jz5), .val (.int jz6), .val (.int jz7), .val (.int jz8), .val (.int jz9), .val (.ref b1), .val (.ref b4), .unset] [(.long i0)]))
            refine Go.st (fun t k => XS.lconst X50.here hx rfl (hb hby at_213) k) ?_
            show Go p e below _ (T50.setTop (mkF m 214 #[.val (.long i0), .second, .val (.int i1), .val (.int i2), .val (.int jz4), .val (.int jz5), .val (.int jz6), .val (.int jz7), .val (.int jz8), .val (.int jz9), .val (.ref b1), .val (.ref b4), .unset] [(.long (1 : Int64)), (.long i0)]))
            refine Go.st (fun t k => Jvm.Free.XT.lcmp X50.here hx rfl (hb hby at_214) rfl k) ?_
            show Go p e below _ (T50.setTop (mkF m 215 #[.val (.long i0), .second, .val (.int i1), .val (.int i2), .val (.int jz4), .val (.int jz5), .val (.int jz6), .val (.int jz7), .val (.int jz8), .val (.int jz9), .val (.ref b1), .val (.ref b4), .unset] [(.int (Jvm.Free.XT.cmpL i0 (1 : Int64)))]))
            by_cases hc52 : i0 < (1 : Int64)
            · refine Go.st (fun t k => XS.ifYes X50.here hx rfl (pc0 := 215) (pc' := 222) rfl (hb hby at_215) rfl (Jvm.Free.XT.ll_lt_t hc52) (by decide) (by decide) k) ?_
              show Go p e below _ (T50.setTop (mkF m 222 #[.val (.long i0), .second, .val (.int i1), .val (.int i2), .val (.int jz4), .val (.int jz5), .val (.int jz6), .val (.int jz7), .val (.int jz8), .val (.int jz9), .val (.ref b1), .val (.ref b4), .unset] []))
              refine Go.st (fun t k => XS.iconst X50.here hx rfl (hb hby at_222) k) ?_
              show Go p e below _ (T50.setTop (mkF m 223 #[.val (.long i0), .second, .val (.int i1), .val (.int i2), .val (.int jz4), .val (.int jz5), .val (.int jz6), .val (.int jz7), .val (.int jz8), .val (.int jz9), .val (.ref b1), .val (.ref b4), .unset] [(.int (0 : Int32))]))
              refine Go.st (fun t k => XS.istore X50.here hx rfl (hb hby at_223) rfl (l' := #[.val (.long i0), .second, .val (.int i1), .val (.int i2), .val (.int jz4), .val (.int jz5), .val (.int jz6), .val (.int jz7), .val (.int jz8), .val (.int jz9), .val (.ref b1), .val (.ref b4), .val (.int (0 : Int32))]) rfl k) ?_
              show Go p e below _ (T50.setTop (mkF m 225 #[.val (.long i0), .second, .val (.int i1), .val (.int i2), .val (.int jz4), .val (.int jz5), .val (.int jz6), .val (.int jz7), .val (.int jz8), .val (.int jz9), .val (.ref b1), .val (.ref b4), .val (.int (0 : Int32))] []))
              refine Go.st (fun t k => XS.aload X50.here hx rfl (hb hby at_225) rfl rfl k) ?_
              show Go p e below _ (T50.setTop (mkF m 227 #[.val (.long i0), .second, .val (.int i1), .val (.int i2), .val (.int jz4), .val (.int jz5), .val (.int jz6), .val (.int jz7), .val (.int jz8), .val (.int jz9), .val (.ref b1), .val (.ref b4), .val (.int (0 : Int32))] [(.ref b4)]))
              have hp53 : ¬ ((0 : Int64) < i0) := by
                have j1 := own_b64 i0
                have j2 : ((1 : Int64)).toInt = 1 := by decide
                have j3 := Int64.lt_iff_toInt_lt.mp hc52
                have j4 : ((0 : Int64)).toInt = 0 := by decide
                rw [Int64.lt_iff_toInt_lt]
                omega
              obtain ⟨cq54, kq54, q54a, q54b, q54c⟩ := isOf hZ rfl (c49.keep K50c)
              obtain ⟨_, _, ⟨T54, L54, k54, n54⟩, -, X54, ⟨Lc54, hQ54, l54, y54, z54⟩, st54⟩ := X50.virtualBack hx (y := (⟨"com/example/outbound_courier/outboundcourier/http/RequestHead", "hasBody", "()Z"⟩ : MethodName)) (z := (⟨"com/example/outbound_courier/outboundcourier/http/RequestHead", "hasBody", "()Z"⟩ : MethodName)) hown (mvT hZ (w75 hw)) (mvT hZ (w76 hw)) (notFace_of_selects (args := #[]) (mvT hZ (w78 hw))) (mvT hZ (w78 hw)) (mvT hZ (w77 hw)) (by decide) (backOf (W := 0) (rm12_2 l Z a0 hw [] b4 i0 T50.heap n0 O50 r50_5 r50_2 hp53) hZ (w79 hw) (w3 hw) (by decide) (by decide)) q54a q54c (g := (mkF m 227 #[.val (.long i0), .second, .val (.int i1), .val (.int i2), .val (.int jz4), .val (.int jz5), .val (.int jz6), .val (.int jz7), .val (.int jz8), .val (.int jz9), .val (.ref b1), .val (.ref b4), .val (.int (0 : Int32))] [(.ref b4)])) rfl (by rw [hml]; rfl) (Steps.refl _) (argsL := []) (rest := []) (lenOf pd_7 rfl) rfl (by show 2 * 0 + _ ≤ _; exact Nat.le_of_eq rfl) (hb hby at_227) (fun vm₁ hw₁ => ⟨rfl, rfl, (by decide : 5 + 0 ≤ _), (by decide : 20 + 0 ≤ _)⟩)
              dsimp only [Pt.U, Pt.locs, Pt.cells, Pt.slots] at X54 l54 y54 z54 st54 hQ54
              subst l54 y54 z54
              obtain ⟨rfl, M54, eh54⟩ := hQ54
              have N54 := Fr.app N50 M54
              refine Go.tr st54 ?_
              show Go p e below _ (T54.setTop (mkF m 230 #[.val (.long i0), .second, .val (.int i1), .val (.int i2), .val (.int jz4), .val (.int jz5), .val (.int jz6), .val (.int jz7), .val (.int jz8), .val (.int jz9), .val (.ref b1), .val (.ref b4), .val (.int (0 : Int32))] [(.int (0 : Int32))]))
              refine Go.st (fun t k => XS.iload X54.here hx rfl (hb hby at_230) rfl k) ?_
              show Go p e below _ (T54.setTop (mkF m 232 #[.val (.long i0), .second, .val (.int i1), .val (.int i2), .val (.int jz4), .val (.int jz5), .val (.int jz6), .val (.int jz7), .val (.int jz8), .val (.int jz9), .val (.ref b1), .val (.ref b4), .val (.int (0 : Int32))] [(.int (0 : Int32)), (.int (0 : Int32))]))
              refine Go.st (fun t k => XS.icmpNo X54.here hx rfl (hb hby at_232) rfl (Jvm.Free.XT.ii_ne_f (by decide : (0 : Int32) = (0 : Int32))) k) ?_
              show Go p e below _ (T54.setTop (mkF m 235 #[.val (.long i0), .second, .val (.int i1), .val (.int i2), .val (.int jz4), .val (.int jz5), .val (.int jz6), .val (.int jz7), .val (.int jz8), .val (.int jz9), .val (.ref b1), .val (.ref b4), .val (.int (0 : Int32))] []))
              refine Go.st (fun t k => XS.iconst X54.here hx rfl (hb hby at_235) k) ?_
              show Go p e below _ (T54.setTop (mkF m 236 #[.val (.long i0), .second, .val (.int i1), .val (.int i2), .val (.int jz4), .val (.int jz5), .val (.int jz6), .val (.int jz7), .val (.int jz8), .val (.int jz9), .val (.ref b1), .val (.ref b4), .val (.int (0 : Int32))] [(.int (1 : Int32))]))
              refine Go.st (fun t k => XS.goto X54.here hx rfl (pc0 := 236) (pc' := 240) rfl (hb hby at_236) (by decide) (by decide) k) ?_
              show Go p e below _ (T54.setTop (mkF m 240 #[.val (.long i0), .second, .val (.int i1), .val (.int i2), .val (.int jz4), .val (.int jz5), .val (.int jz6), .val (.int jz7), .val (.int jz8), .val (.int jz9), .val (.ref b1), .val (.ref b4), .val (.int (0 : Int32))] [(.int (1 : Int32))]))
              obtain ⟨fs, hr, hrun, hended, hWd, hsame⟩ := X54.leave (v := some (.int (1 : Int32))) (fun h => by rw [Bd.returns] at h; cases h)
              refine ⟨_, _, ?_, hrun, hended, _, _, rfl, ?_, ⟨⟨_, rfl⟩, hWd, hsame.mono (by decide) (by decide)⟩⟩
              · exact retN X54 hx (t := .boolean) Bd.returns (by simp) (hb hby at_240) hr
              · exact ⟨rfl, N54⟩
            · refine Go.st (fun t k => XS.ifNo X50.here hx rfl (hb hby at_215) rfl (Jvm.Free.XT.ll_lt_f hc52) k) ?_
              show Go p e below _ (T50.setTop (mkF m 218 #[.val (.long i0), .second, .val (.int i1), .val (.int i2), .val (.int jz4), .val (.int jz5), .val (.int jz6), .val (.int jz7), .val (.int jz8), .val (.int jz9), .val (.ref b1), .val (.ref b4), .unset] []))
              refine Go.st (fun t k => XS.iconst X50.here hx rfl (hb hby at_218) k) ?_
              show Go p e below _ (T50.setTop (mkF m 219 #[.val (.long i0), .second, .val (.int i1), .val (.int i2), .val (.int jz4), .val (.int jz5), .val (.int jz6), .val (.int jz7), .val (.int jz8), .val (.int jz9), .val (.ref b1), .val (.ref b4), .unset] [(.int (1 : Int32))]))
              refine Go.st (fun t k => XS.goto X50.here hx rfl (pc0 := 219) (pc' := 223) rfl (hb hby at_219) (by decide) (by decide) k) ?_
              show Go p e below _ (T50.setTop (mkF m 223 #[.val (.long i0), .second, .val (.int i1), .val (.int i2), .val (.int jz4), .val (.int jz5), .val (.int jz6), .val (.int jz7), .val (.int jz8), .val (.int jz9), .val (.ref b1), .val (.ref b4), .unset] [(.int (1 : Int32))]))
              refine Go.st (fun t k => XS.istore X50.here hx rfl (hb hby at_223) rfl (l' := #[.val (.long i0), .second, .val (.int i1), .val (.int i2), .val (.int jz4), .val (.int jz5), .val (.int jz6), .val (.int jz7), .val (.int jz8), .val (.int jz9), .val (.ref b1), .val (.ref b4), .val (.int (1 : Int32))]) rfl k) ?_
              show Go p e below _ (T50.setTop (mkF m 225 #[.val (.long i0), .second, .val (.int i1), .val (.int i2), .val (.int jz4), .val (.int jz5), .val (.int jz6), .val (.int jz7), .val (.int jz8), .val (.int jz9), .val (.ref b1), .val (.ref b4), .val (.int (1 : Int32))] []))
              refine Go.st (fun t k => XS.aload X50.here hx rfl (hb hby at_225) rfl rfl k) ?_
              show Go p e below _ (T50.setTop (mkF m 227 #[.val (.long i0), .second, .val (.int i1), .val (.int i2), .val (.int jz4), .val (.int jz5), .val (.int jz6), .val (.int jz7), .val (.int jz8), .val (.int jz9), .val (.ref b1), .val (.ref b4), .val (.int (1 : Int32))] [(.ref b4)]))
              have hp55 : (0 : Int64) < i0 := by
                have j1 := own_b64 i0
                have j2 : ((1 : Int64)).toInt = 1 := by decide
                have j3 := own_nlt64 hc52
                have j4 : ((0 : Int64)).toInt = 0 := by decide
                rw [Int64.lt_iff_toInt_lt]
                omega
              obtain ⟨cq56, kq56, q56a, q56b, q56c⟩ := isOf hZ rfl (c49.keep K50c)
              obtain ⟨_, _, ⟨T56, L56, k56, n56⟩, -, X56, ⟨Lc56, hQ56, l56, y56, z56⟩, st56⟩ := X50.virtualBack hx (y := (⟨"com/example/outbound_courier/outboundcourier/http/RequestHead", "hasBody", "()Z"⟩ : MethodName)) (z := (⟨"com/example/outbound_courier/outboundcourier/http/RequestHead", "hasBody", "()Z"⟩ : MethodName)) hown (mvT hZ (w75 hw)) (mvT hZ (w76 hw)) (notFace_of_selects (args := #[]) (mvT hZ (w78 hw))) (mvT hZ (w78 hw)) (mvT hZ (w77 hw)) (by decide) (backOf (W := 0) (rm12_3 l Z a0 hw [] b4 i0 T50.heap n0 O50 r50_5 r50_2 hp55) hZ (w79 hw) (w3 hw) (by decide) (by decide)) q56a q56c (g := (mkF m 227 #[.val (.long i0), .second, .val (.int i1), .val (.int i2), .val (.int jz4), .val (.int jz5), .val (.int jz6), .val (.int jz7), .val (.int jz8), .val (.int jz9), .val (.ref b1), .val (.ref b4), .val (.int (1 : Int32))] [(.ref b4)])) rfl (by rw [hml]; rfl) (Steps.refl _) (argsL := []) (rest := []) (lenOf pd_7 rfl) rfl (by show 2 * 0 + _ ≤ _; exact Nat.le_of_eq rfl) (hb hby at_227) (fun vm₁ hw₁ => ⟨rfl, rfl, (by decide : 5 + 0 ≤ _), (by decide : 20 + 0 ≤ _)⟩)
              dsimp only [Pt.U, Pt.locs, Pt.cells, Pt.slots] at X56 l56 y56 z56 st56 hQ56
              subst l56 y56 z56
              obtain ⟨rfl, M56, eh56⟩ := hQ56
              have N56 := Fr.app N50 M56
              refine Go.tr st56 ?_
              show Go p e below _ (T56.setTop (mkF m 230 #[.val (.long i0), .second, .val (.int i1), .val (.int i2), .val (.int jz4), .val (.int jz5), .val (.int jz6), .val (.int jz7), .val (.int jz8), .val (.int jz9), .val (.ref b1), .val (.ref b4), .val (.int (1 : Int32))] [(.int (1 : Int32))]))
              refine Go.st (fun t k => XS.iload X56.here hx rfl (hb hby at_230) rfl k) ?_
              show Go p e below _ (T56.setTop (mkF m 232 #[.val (.long i0), .second, .val (.int i1), .val (.int i2), .val (.int jz4), .val (.int jz5), .val (.int jz6), .val (.int jz7), .val (.int jz8), .val (.int jz9), .val (.ref b1), .val (.ref b4), .val (.int (1 : Int32))] [(.int (1 : Int32)), (.int (1 : Int32))]))
              refine Go.st (fun t k => XS.icmpNo X56.here hx rfl (hb hby at_232) rfl (Jvm.Free.XT.ii_ne_f (by decide : (1 : Int32) = (1 : Int32))) k) ?_
              show Go p e below _ (T56.setTop (mkF m 235 #[.val (.long i0), .second, .val (.int i1), .val (.int i2), .val (.int jz4), .val (.int jz5), .val (.int jz6), .val (.int jz7), .val (.int jz8), .val (.int jz9), .val (.ref b1), .val (.ref b4), .val (.int (1 : Int32))] []))
              refine Go.st (fun t k => XS.iconst X56.here hx rfl (hb hby at_235) k) ?_
              show Go p e below _ (T56.setTop (mkF m 236 #[.val (.long i0), .second, .val (.int i1), .val (.int i2), .val (.int jz4), .val (.int jz5), .val (.int jz6), .val (.int jz7), .val (.int jz8), .val (.int jz9), .val (.ref b1), .val (.ref b4), .val (.int (1 : Int32))] [(.int (1 : Int32))]))
              refine Go.st (fun t k => XS.goto X56.here hx rfl (pc0 := 236) (pc' := 240) rfl (hb hby at_236) (by decide) (by decide) k) ?_
              show Go p e below _ (T56.setTop (mkF m 240 #[.val (.long i0), .second, .val (.int i1), .val (.int i2), .val (.int jz4), .val (.int jz5), .val (.int jz6), .val (.int jz7), .val (.int jz8), .val (.int jz9), .val (.ref b1), .val (.ref b4), .val (.int (1 : Int32))] [(.int (1 : Int32))]))
              obtain ⟨fs, hr, hrun, hended, hWd, hsame⟩ := X56.leave (v := some (.int (1 : Int32))) (fun h => by rw [Bd.returns] at h; cases h)
              refine ⟨_, _, ?_, hrun, hended, _, _, rfl, ?_, ⟨⟨_, rfl⟩, hWd, hsame.mono (by decide) (by decide)⟩⟩
              · exact retN X56 hx (t := .boolean) Bd.returns (by simp) (hb hby at_240) hr
              · exact ⟨rfl, N56⟩
          · refine Go.st (fun t k => XS.ifNo X50.here hx rfl (hb hby at_182) rfl (Jvm.Free.XT.i0_eq_f hc51) k) ?_
            show Go p e below _ (T50.setTop (mkF m 185 #[.val (.long i0), .second, .val (.int i1), .val (.int i2), .val (.int jz4), .val (.int jz5), .val (.int jz6), .val (.int jz7), .val (.int jz8), .val (.int jz9), .val (.ref b1), .val (.ref b4), .unset] []))
            refine Go.st (fun t k => XS.aload X50.here hx rfl (hb hby at_185) rfl rfl k) ?_
            show Go p e below _ (T50.setTop (mkF m 187 #[.val (.long i0), .second, .val (.int i1), .val (.int i2), .val (.int jz4), .val (.int jz5), .val (.int jz6), .val (.int jz7), .val (.int jz8), .val (.int jz9), .val (.ref b1), .val (.ref b4), .unset] [(.ref b4)]))
            obtain ⟨cq57, kq57, q57a, q57b, q57c⟩ := isOf hZ rfl (c49.keep K50c)
            obtain ⟨_, _, ⟨T57, L57, k57, n57⟩, -, X57, ⟨Lc57, hQ57, l57, y57, z57⟩, st57⟩ := X50.virtualBack hx (y := (⟨"com/example/outbound_courier/outboundcourier/http/RequestHead", "setExpectsContinue", "()V"⟩ : MethodName)) (z := (⟨"com/example/outbound_courier/outboundcourier/http/RequestHead", "setExpectsContinue", "()V"⟩ : MethodName)) hown (mvT hZ (w89 hw)) (mvT hZ (w90 hw)) (notFace_of_selects (args := #[]) (mvT hZ (w92 hw))) (mvT hZ (w92 hw)) (mvT hZ (w91 hw)) (by decide) (backOf (W := 0) (rm14_4 l Z a0 hw [] b4 b2_16 i0 b5 jz9 T50.heap n0 O50 (c49.keep K50c) r50_6 g_b4 r50_1 r50_2 r50_3 r50_4 r50_5 r50_0) hZ (w93 hw) (w3 hw) (by decide) (by decide)) q57a q57c (g := (mkF m 187 #[.val (.long i0), .second, .val (.int i1), .val (.int i2), .val (.int jz4), .val (.int jz5), .val (.int jz6), .val (.int jz7), .val (.int jz8), .val (.int jz9), .val (.ref b1), .val (.ref b4), .unset] [(.ref b4)])) rfl (by rw [hml]; rfl) (Steps.refl _) (argsL := []) (rest := []) (lenOf pd_5 rfl) rfl (by show 2 * 0 + _ ≤ _; exact Nat.le_of_eq rfl) (hb hby at_187) (fun vm₁ hw₁ => ⟨rfl, rfl, (by decide : 5 + 0 ≤ _), (by decide : 20 + 0 ≤ _)⟩)
            dsimp only [Pt.U, Pt.locs, Pt.cells, Pt.slots] at X57 l57 y57 z57 st57 hQ57
            subst l57 y57 z57
            obtain ⟨rfl, M57, K57c, r57_0, r57_1, r57_2, r57_3, r57_4, r57_5, r57_6⟩ := hQ57
            have N57 := Fr.app N50 M57
            have O57 : Old Z n0 T57.heap := O50.keep K57c (allS g_b4 all0)
            refine Go.tr st57 ?_
            show Go p e below _ (T57.setTop (mkF m 190 #[.val (.long i0), .second, .val (.int i1), .val (.int i2), .val (.int jz4), .val (.int jz5), .val (.int jz6), .val (.int jz7), .val (.int jz8), .val (.int jz9), .val (.ref b1), .val (.ref b4), .unset] []))
            refine Go.st (fun t k => XS.iload X57.here hx rfl (hb hby at_190) rfl k) ?_
            show Go p e below _ (T57.setTop (mkF m 192 #[.val (.long i0), .second, .val (.int i1), .val (.int i2), .val (.int jz4), .val (.int jz5), .val (.int jz6), .val (.int jz7), .val (.int jz8), .val (.int jz9), .val (.ref b1), .val (.ref b4), .unset] [(.int jz4)]))
            refine Go.st (fun t k => XS.ifYes X57.here hx rfl (pc0 := 192) (pc' := 201) rfl (hb hby at_192) rfl (Jvm.Free.XT.i0_eq_t hc17) (by decide) (by decide) k) ?_
            show Go p e below _ (T57.setTop (mkF m 201 #[.val (.long i0), .second, .val (.int i1), .val (.int i2), .val (.int jz4), .val (.int jz5), .val (.int jz6), .val (.int jz7), .val (.int jz8), .val (.int jz9), .val (.ref b1), .val (.ref b4), .unset] []))
            refine Go.st (fun t k => XS.iload X57.here hx rfl (hb hby at_201) rfl k) ?_
            show Go p e below _ (T57.setTop (mkF m 203 #[.val (.long i0), .second, .val (.int i1), .val (.int i2), .val (.int jz4), .val (.int jz5), .val (.int jz6), .val (.int jz7), .val (.int jz8), .val (.int jz9), .val (.ref b1), .val (.ref b4), .unset] [(.int jz5)]))
            refine Go.st (fun t k => XS.ifYes X57.here hx rfl (pc0 := 203) (pc' := 212) rfl (hb hby at_203) rfl (Jvm.Free.XT.i0_ne_t hc18) (by decide) (by decide) k) ?_
            show Go p e below _ (T57.setTop (mkF m 212 #[.val (.long i0), .second, .val (.int i1), .val (.int i2), .val (.int jz4), .val (.int jz5), .val (.int jz6), .val (.int jz7), .val (.int jz8), .val (.int jz9), .val (.ref b1), .val (.ref b4), .unset] []))
            refine Go.st (fun t k => XS.lloadN X57.here hx rfl (hb hby at_212) rfl k) ?_
            show Go p e below _ (T57.setTop (mkF m 213 #[.val (.long i0), .second, .val (.int i1), .val (.int i2), .val (.int jz4), .val (.int jz5), .val (.int jz6), .val (.int jz7), .val (.int jz8), .val (.int jz9), .val (.ref b1), .val (.ref b4), .unset] [(.long i0)]))
            refine Go.st (fun t k => XS.lconst X57.here hx rfl (hb hby at_213) k) ?_
            show Go p e below _ (T57.setTop (mkF m 214 #[.val (.long i0), .second, .val (.int i1), .val (.int i2), .val (.int jz4), .val (.int jz5), .val (.int jz6), .val (.int jz7), .val (.int jz8), .val (.int jz9), .val (.ref b1), .val (.ref b4), .unset] [(.long (1 : Int64)), (.long i0)]))
            refine Go.st (fun t k => Jvm.Free.XT.lcmp X57.here hx rfl (hb hby at_214) rfl k) ?_
            show Go p e below _ (T57.setTop (mkF m 215 #[.val (.long i0), .second, .val (.int i1), .val (.int i2), .val (.int jz4), .val (.int jz5), .val (.int jz6), .val (.int jz7), .val (.int jz8), .val (.int jz9), .val (.ref b1), .val (.ref b4), .unset] [(.int (Jvm.Free.XT.cmpL i0 (1 : Int64)))]))
            by_cases hc58 : i0 < (1 : Int64)
            · refine Go.st (fun t k => XS.ifYes X57.here hx rfl (pc0 := 215) (pc' := 222) rfl (hb hby at_215) rfl (Jvm.Free.XT.ll_lt_t hc58) (by decide) (by decide) k) ?_
              show Go p e below _ (T57.setTop (mkF m 222 #[.val (.long i0), .second, .val (.int i1), .val (.int i2), .val (.int jz4), .val (.int jz5), .val (.int jz6), .val (.int jz7), .val (.int jz8), .val (.int jz9), .val (.ref b1), .val (.ref b4), .unset] []))
              refine Go.st (fun t k => XS.iconst X57.here hx rfl (hb hby at_222) k) ?_
              show Go p e below _ (T57.setTop (mkF m 223 #[.val (.long i0), .second, .val (.int i1), .val (.int i2), .val (.int jz4), .val (.int jz5), .val (.int jz6), .val (.int jz7), .val (.int jz8), .val (.int jz9), .val (.ref b1), .val (.ref b4), .unset] [(.int (0 : Int32))]))
              refine Go.st (fun t k => XS.istore X57.here hx rfl (hb hby at_223) rfl (l' := #[.val (.long i0), .second, .val (.int i1), .val (.int i2), .val (.int jz4), .val (.int jz5), .val (.int jz6), .val (.int jz7), .val (.int jz8), .val (.int jz9), .val (.ref b1), .val (.ref b4), .val (.int (0 : Int32))]) rfl k) ?_
              show Go p e below _ (T57.setTop (mkF m 225 #[.val (.long i0), .second, .val (.int i1), .val (.int i2), .val (.int jz4), .val (.int jz5), .val (.int jz6), .val (.int jz7), .val (.int jz8), .val (.int jz9), .val (.ref b1), .val (.ref b4), .val (.int (0 : Int32))] []))
              refine Go.st (fun t k => XS.aload X57.here hx rfl (hb hby at_225) rfl rfl k) ?_
              show Go p e below _ (T57.setTop (mkF m 227 #[.val (.long i0), .second, .val (.int i1), .val (.int i2), .val (.int jz4), .val (.int jz5), .val (.int jz6), .val (.int jz7), .val (.int jz8), .val (.int jz9), .val (.ref b1), .val (.ref b4), .val (.int (0 : Int32))] [(.ref b4)]))
              have hp59 : ¬ ((0 : Int64) < i0) := by
                have j1 := own_b64 i0
                have j2 : ((1 : Int64)).toInt = 1 := by decide
                have j3 := Int64.lt_iff_toInt_lt.mp hc58
                have j4 : ((0 : Int64)).toInt = 0 := by decide
                rw [Int64.lt_iff_toInt_lt]
                omega
              obtain ⟨cq60, kq60, q60a, q60b, q60c⟩ := isOf hZ rfl ((c49.keep K50c).keep K57c)
              obtain ⟨_, _, ⟨T60, L60, k60, n60⟩, -, X60, ⟨Lc60, hQ60, l60, y60, z60⟩, st60⟩ := X57.virtualBack hx (y := (⟨"com/example/outbound_courier/outboundcourier/http/RequestHead", "hasBody", "()Z"⟩ : MethodName)) (z := (⟨"com/example/outbound_courier/outboundcourier/http/RequestHead", "hasBody", "()Z"⟩ : MethodName)) hown (mvT hZ (w75 hw)) (mvT hZ (w76 hw)) (notFace_of_selects (args := #[]) (mvT hZ (w78 hw))) (mvT hZ (w78 hw)) (mvT hZ (w77 hw)) (by decide) (backOf (W := 0) (rm12_2 l Z a0 hw [] b4 i0 T57.heap n0 O57 r57_5 r57_2 hp59) hZ (w79 hw) (w3 hw) (by decide) (by decide)) q60a q60c (g := (mkF m 227 #[.val (.long i0), .second, .val (.int i1), .val (.int i2), .val (.int jz4), .val (.int jz5), .val (.int jz6), .val (.int jz7), .val (.int jz8), .val (.int jz9), .val (.ref b1), .val (.ref b4), .val (.int (0 : Int32))] [(.ref b4)])) rfl (by rw [hml]; rfl) (Steps.refl _) (argsL := []) (rest := []) (lenOf pd_7 rfl) rfl (by show 2 * 0 + _ ≤ _; exact Nat.le_of_eq rfl) (hb hby at_227) (fun vm₁ hw₁ => ⟨rfl, rfl, (by decide : 5 + 0 ≤ _), (by decide : 20 + 0 ≤ _)⟩)
              dsimp only [Pt.U, Pt.locs, Pt.cells, Pt.slots] at X60 l60 y60 z60 st60 hQ60
              subst l60 y60 z60
              obtain ⟨rfl, M60, eh60⟩ := hQ60
              have N60 := Fr.app N57 M60
              refine Go.tr st60 ?_
              show Go p e below _ (T60.setTop (mkF m 230 #[.val (.long i0), .second, .val (.int i1), .val (.int i2), .val (.int jz4), .val (.int jz5), .val (.int jz6), .val (.int jz7), .val (.int jz8), .val (.int jz9), .val (.ref b1), .val (.ref b4), .val (.int (0 : Int32))] [(.int (0 : Int32))]))
              refine Go.st (fun t k => XS.iload X60.here hx rfl (hb hby at_230) rfl k) ?_
              show Go p e below _ (T60.setTop (mkF m 232 #[.val (.long i0), .second, .val (.int i1), .val (.int i2), .val (.int jz4), .val (.int jz5), .val (.int jz6), .val (.int jz7), .val (.int jz8), .val (.int jz9), .val (.ref b1), .val (.ref b4), .val (.int (0 : Int32))] [(.int (0 : Int32)), (.int (0 : Int32))]))
              refine Go.st (fun t k => XS.icmpNo X60.here hx rfl (hb hby at_232) rfl (Jvm.Free.XT.ii_ne_f (by decide : (0 : Int32) = (0 : Int32))) k) ?_
              show Go p e below _ (T60.setTop (mkF m 235 #[.val (.long i0), .second, .val (.int i1), .val (.int i2), .val (.int jz4), .val (.int jz5), .val (.int jz6), .val (.int jz7), .val (.int jz8), .val (.int jz9), .val (.ref b1), .val (.ref b4), .val (.int (0 : Int32))] []))
              refine Go.st (fun t k => XS.iconst X60.here hx rfl (hb hby at_235) k) ?_
              show Go p e below _ (T60.setTop (mkF m 236 #[.val (.long i0), .second, .val (.int i1), .val (.int i2), .val (.int jz4), .val (.int jz5), .val (.int jz6), .val (.int jz7), .val (.int jz8), .val (.int jz9), .val (.ref b1), .val (.ref b4), .val (.int (0 : Int32))] [(.int (1 : Int32))]))
              refine Go.st (fun t k => XS.goto X60.here hx rfl (pc0 := 236) (pc' := 240) rfl (hb hby at_236) (by decide) (by decide) k) ?_
              show Go p e below _ (T60.setTop (mkF m 240 #[.val (.long i0), .second, .val (.int i1), .val (.int i2), .val (.int jz4), .val (.int jz5), .val (.int jz6), .val (.int jz7), .val (.int jz8), .val (.int jz9), .val (.ref b1), .val (.ref b4), .val (.int (0 : Int32))] [(.int (1 : Int32))]))
              obtain ⟨fs, hr, hrun, hended, hWd, hsame⟩ := X60.leave (v := some (.int (1 : Int32))) (fun h => by rw [Bd.returns] at h; cases h)
              refine ⟨_, _, ?_, hrun, hended, _, _, rfl, ?_, ⟨⟨_, rfl⟩, hWd, hsame.mono (by decide) (by decide)⟩⟩
              · exact retN X60 hx (t := .boolean) Bd.returns (by simp) (hb hby at_240) hr
              · exact ⟨rfl, N60⟩
            · refine Go.st (fun t k => XS.ifNo X57.here hx rfl (hb hby at_215) rfl (Jvm.Free.XT.ll_lt_f hc58) k) ?_
              show Go p e below _ (T57.setTop (mkF m 218 #[.val (.long i0), .second, .val (.int i1), .val (.int i2), .val (.int jz4), .val (.int jz5), .val (.int jz6), .val (.int jz7), .val (.int jz8), .val (.int jz9), .val (.ref b1), .val (.ref b4), .unset] []))
              refine Go.st (fun t k => XS.iconst X57.here hx rfl (hb hby at_218) k) ?_
              show Go p e below _ (T57.setTop (mkF m 219 #[.val (.long i0), .second, .val (.int i1), .val (.int i2), .val (.int jz4), .val (.int jz5), .val (.int jz6), .val (.int jz7), .val (.int jz8), .val (.int jz9), .val (.ref b1), .val (.ref b4), .unset] [(.int (1 : Int32))]))
              refine Go.st (fun t k => XS.goto X57.here hx rfl (pc0 := 219) (pc' := 223) rfl (hb hby at_219) (by decide) (by decide) k) ?_
              show Go p e below _ (T57.setTop (mkF m 223 #[.val (.long i0), .second, .val (.int i1), .val (.int i2), .val (.int jz4), .val (.int jz5), .val (.int jz6), .val (.int jz7), .val (.int jz8), .val (.int jz9), .val (.ref b1), .val (.ref b4), .unset] [(.int (1 : Int32))]))
              refine Go.st (fun t k => XS.istore X57.here hx rfl (hb hby at_223) rfl (l' := #[.val (.long i0), .second, .val (.int i1), .val (.int i2), .val (.int jz4), .val (.int jz5), .val (.int jz6), .val (.int jz7), .val (.int jz8), .val (.int jz9), .val (.ref b1), .val (.ref b4), .val (.int (1 : Int32))]) rfl k) ?_
              show Go p e below _ (T57.setTop (mkF m 225 #[.val (.long i0), .second, .val (.int i1), .val (.int i2), .val (.int jz4), .val (.int jz5), .val (.int jz6), .val (.int jz7), .val (.int jz8), .val (.int jz9), .val (.ref b1), .val (.ref b4), .val (.int (1 : Int32))] []))
              refine Go.st (fun t k => XS.aload X57.here hx rfl (hb hby at_225) rfl rfl k) ?_
              show Go p e below _ (T57.setTop (mkF m 227 #[.val (.long i0), .second, .val (.int i1), .val (.int i2), .val (.int jz4), .val (.int jz5), .val (.int jz6), .val (.int jz7), .val (.int jz8), .val (.int jz9), .val (.ref b1), .val (.ref b4), .val (.int (1 : Int32))] [(.ref b4)]))
              have hp61 : (0 : Int64) < i0 := by
                have j1 := own_b64 i0
                have j2 : ((1 : Int64)).toInt = 1 := by decide
                have j3 := own_nlt64 hc58
                have j4 : ((0 : Int64)).toInt = 0 := by decide
                rw [Int64.lt_iff_toInt_lt]
                omega
              obtain ⟨cq62, kq62, q62a, q62b, q62c⟩ := isOf hZ rfl ((c49.keep K50c).keep K57c)
              obtain ⟨_, _, ⟨T62, L62, k62, n62⟩, -, X62, ⟨Lc62, hQ62, l62, y62, z62⟩, st62⟩ := X57.virtualBack hx (y := (⟨"com/example/outbound_courier/outboundcourier/http/RequestHead", "hasBody", "()Z"⟩ : MethodName)) (z := (⟨"com/example/outbound_courier/outboundcourier/http/RequestHead", "hasBody", "()Z"⟩ : MethodName)) hown (mvT hZ (w75 hw)) (mvT hZ (w76 hw)) (notFace_of_selects (args := #[]) (mvT hZ (w78 hw))) (mvT hZ (w78 hw)) (mvT hZ (w77 hw)) (by decide) (backOf (W := 0) (rm12_3 l Z a0 hw [] b4 i0 T57.heap n0 O57 r57_5 r57_2 hp61) hZ (w79 hw) (w3 hw) (by decide) (by decide)) q62a q62c (g := (mkF m 227 #[.val (.long i0), .second, .val (.int i1), .val (.int i2), .val (.int jz4), .val (.int jz5), .val (.int jz6), .val (.int jz7), .val (.int jz8), .val (.int jz9), .val (.ref b1), .val (.ref b4), .val (.int (1 : Int32))] [(.ref b4)])) rfl (by rw [hml]; rfl) (Steps.refl _) (argsL := []) (rest := []) (lenOf pd_7 rfl) rfl (by show 2 * 0 + _ ≤ _; exact Nat.le_of_eq rfl) (hb hby at_227) (fun vm₁ hw₁ => ⟨rfl, rfl, (by decide : 5 + 0 ≤ _), (by decide : 20 + 0 ≤ _)⟩)
              dsimp only [Pt.U, Pt.locs, Pt.cells, Pt.slots] at X62 l62 y62 z62 st62 hQ62
              subst l62 y62 z62
              obtain ⟨rfl, M62, eh62⟩ := hQ62
              have N62 := Fr.app N57 M62
              refine Go.tr st62 ?_
              show Go p e below _ (T62.setTop (mkF m 230 #[.val (.long i0), .second, .val (.int i1), .val (.int i2), .val (.int jz4), .val (.int jz5), .val (.int jz6), .val (.int jz7), .val (.int jz8), .val (.int jz9), .val (.ref b1), .val (.ref b4), .val (.int (1 : Int32))] [(.int (1 : Int32))]))
              refine Go.st (fun t k => XS.iload X62.here hx rfl (hb hby at_230) rfl k) ?_
              show Go p e below _ (T62.setTop (mkF m 232 #[.val (.long i0), .second, .val (.int i1), .val (.int i2), .val (.int jz4), .val (.int jz5), .val (.int jz6), .val (.int jz7), .val (.int jz8), .val (.int jz9), .val (.ref b1), .val (.ref b4), .val (.int (1 : Int32))] [(.int (1 : Int32)), (.int (1 : Int32))]))
              refine Go.st (fun t k => XS.icmpNo X62.here hx rfl (hb hby at_232) rfl (Jvm.Free.XT.ii_ne_f (by decide : (1 : Int32) = (1 : Int32))) k) ?_
              show Go p e below _ (T62.setTop (mkF m 235 #[.val (.long i0), .second, .val (.int i1), .val (.int i2), .val (.int jz4), .val (.int jz5), .val (.int jz6), .val (.int jz7), .val (.int jz8), .val (.int jz9), .val (.ref b1), .val (.ref b4), .val (.int (1 : Int32))] []))
              refine Go.st (fun t k => XS.iconst X62.here hx rfl (hb hby at_235) k) ?_
              show Go p e below _ (T62.setTop (mkF m 236 #[.val (.long i0), .second, .val (.int i1), .val (.int i2), .val (.int jz4), .val (.int jz5), .val (.int jz6), .val (.int jz7), .val (.int jz8), .val (.int jz9), .val (.ref b1), .val (.ref b4), .val (.int (1 : Int32))] [(.int (1 : Int32))]))
              refine Go.st (fun t k => XS.goto X62.here hx rfl (pc0 := 236) (pc' := 240) rfl (hb hby at_236) (by decide) (by decide) k) ?_
              show Go p e below _ (T62.setTop (mkF m 240 #[.val (.long i0), .second, .val (.int i1), .val (.int i2), .val (.int jz4), .val (.int jz5), .val (.int jz6), .val (.int jz7), .val (.int jz8), .val (.int jz9), .val (.ref b1), .val (.ref b4), .val (.int (1 : Int32))] [(.int (1 : Int32))]))
              obtain ⟨fs, hr, hrun, hended, hWd, hsame⟩ := X62.leave (v := some (.int (1 : Int32))) (fun h => by rw [Bd.returns] at h; cases h)
              refine ⟨_, _, ?_, hrun, hended, _, _, rfl, ?_, ⟨⟨_, rfl⟩, hWd, hsame.mono (by decide) (by decide)⟩⟩
              · exact retN X62 hx (t := .boolean) Bd.returns (by simp) (hb hby at_240) hr
              · exact ⟨rfl, N62⟩
    · refine Go.st (fun t k => XS.ifNo X16.here hx rfl (hb hby at_131) rfl (Jvm.Free.XT.i0_eq_f hc17) k) ?_
      show Go p e below _ (T16.setTop (mkF m 134 #[.val (.long i0), .second, .val (.int i1), .val (.int i2), .val (.int jz4), .val (.int jz5), .val (.int jz6), .val (.int jz7), .val (.int jz8), .val (.int jz9), .val (.ref b1), .val (.ref b4), .unset] []))
      refine Go.st (fun t k => XS.iload X16.here hx rfl (hb hby at_134) rfl k) ?_
      show Go p e below _ (T16.setTop (mkF m 136 #[.val (.long i0), .second, .val (.int i1), .val (.int i2), .val (.int jz4), .val (.int jz5), .val (.int jz6), .val (.int jz7), .val (.int jz8), .val (.int jz9), .val (.ref b1), .val (.ref b4), .unset] [(.int jz6)]))
      by_cases hc63 : jz6 = (0 : Int32)
      · refine Go.st (fun t k => XS.ifYes X16.here hx rfl (pc0 := 136) (pc' := 144) rfl (hb hby at_136) rfl (Jvm.Free.XT.i0_eq_t hc63) (by decide) (by decide) k) ?_
        show Go p e below _ (T16.setTop (mkF m 144 #[.val (.long i0), .second, .val (.int i1), .val (.int i2), .val (.int jz4), .val (.int jz5), .val (.int jz6), .val (.int jz7), .val (.int jz8), .val (.int jz9), .val (.ref b1), .val (.ref b4), .unset] []))
        refine Go.st (fun t k => XS.iload X16.here hx rfl (hb hby at_144) rfl k) ?_
        show Go p e below _ (T16.setTop (mkF m 146 #[.val (.long i0), .second, .val (.int i1), .val (.int i2), .val (.int jz4), .val (.int jz5), .val (.int jz6), .val (.int jz7), .val (.int jz8), .val (.int jz9), .val (.ref b1), .val (.ref b4), .unset] [(.int jz5)]))
        by_cases hc64 : jz5 = (0 : Int32)
        · refine Go.st (fun t k => XS.ifYes X16.here hx rfl (pc0 := 146) (pc' := 155) rfl (hb hby at_146) rfl (Jvm.Free.XT.i0_eq_t hc64) (by decide) (by decide) k) ?_
          show Go p e below _ (T16.setTop (mkF m 155 #[.val (.long i0), .second, .val (.int i1), .val (.int i2), .val (.int jz4), .val (.int jz5), .val (.int jz6), .val (.int jz7), .val (.int jz8), .val (.int jz9), .val (.ref b1), .val (.ref b4), .unset] []))
          refine Go.st (fun t k => XS.iload X16.here hx rfl (hb hby at_155) rfl k) ?_
          show Go p e below _ (T16.setTop (mkF m 157 #[.val (.long i0), .second, .val (.int i1), .val (.int i2), .val (.int jz4), .val (.int jz5), .val (.int jz6), .val (.int jz7), .val (.int jz8), .val (.int jz9), .val (.ref b1), .val (.ref b4), .unset] [(.int jz4)]))
          refine Go.st (fun t k => XS.ifNo X16.here hx rfl (hb hby at_157) rfl (Jvm.Free.XT.i0_eq_f hc17) k) ?_
          show Go p e below _ (T16.setTop (mkF m 160 #[.val (.long i0), .second, .val (.int i1), .val (.int i2), .val (.int jz4), .val (.int jz5), .val (.int jz6), .val (.int jz7), .val (.int jz8), .val (.int jz9), .val (.ref b1), .val (.ref b4), .unset] []))
          refine Go.st (fun t k => XS.iload X16.here hx rfl (hb hby at_160) rfl k) ?_
          show Go p e below _ (T16.setTop (mkF m 162 #[.val (.long i0), .second, .val (.int i1), .val (.int i2), .val (.int jz4), .val (.int jz5), .val (.int jz6), .val (.int jz7), .val (.int jz8), .val (.int jz9), .val (.ref b1), .val (.ref b4), .unset] [(.int jz6)]))
          refine Go.st (fun t k => XS.ifNo X16.here hx rfl (hb hby at_162) rfl (Jvm.Free.XT.i0_ne_f hc63) k) ?_
          show Go p e below _ (T16.setTop (mkF m 165 #[.val (.long i0), .second, .val (.int i1), .val (.int i2), .val (.int jz4), .val (.int jz5), .val (.int jz6), .val (.int jz7), .val (.int jz8), .val (.int jz9), .val (.ref b1), .val (.ref b4), .unset] []))
          refine Go.st (fun t k => XS.aload X16.here hx rfl (hb hby at_165) rfl rfl k) ?_
          show Go p e below _ (T16.setTop (mkF m 167 #[.val (.long i0), .second, .val (.int i1), .val (.int i2), .val (.int jz4), .val (.int jz5), .val (.int jz6), .val (.int jz7), .val (.int jz8), .val (.int jz9), .val (.ref b1), .val (.ref b4), .unset] [(.ref b4)]))
          obtain ⟨cq65, kq65, q65a, q65b, q65c⟩ := isOf hZ rfl (((A4.ext E5).keep K8c).keep K16c)
          obtain ⟨_, _, ⟨T65, L65, k65, n65⟩, -, X65, ⟨Lc65, hQ65, l65, y65, z65⟩, st65⟩ := X16.virtualBack hx (y := (⟨"com/example/outbound_courier/outboundcourier/http/RequestHead", "setChunked", "()V"⟩ : MethodName)) (z := (⟨"com/example/outbound_courier/outboundcourier/http/RequestHead", "setChunked", "()V"⟩ : MethodName)) hown (mvT hZ (w96 hw)) (mvT hZ (w97 hw)) (notFace_of_selects (args := #[]) (mvT hZ (w99 hw))) (mvT hZ (w99 hw)) (mvT hZ (w98 hw)) (by decide) (backOf (W := 0) (rm15_1 l Z a0 hw [] b4 b2_16 b5 jz9 T16.heap n0 O16 (((A4.ext E5).keep K8c).keep K16c) r16_5 g_b4 r16_1 r16_2 r16_3 r16_4 r16_6 r16_7) hZ (w100 hw) (w3 hw) (by decide) (by decide)) q65a q65c (g := (mkF m 167 #[.val (.long i0), .second, .val (.int i1), .val (.int i2), .val (.int jz4), .val (.int jz5), .val (.int jz6), .val (.int jz7), .val (.int jz8), .val (.int jz9), .val (.ref b1), .val (.ref b4), .unset] [(.ref b4)])) rfl (by rw [hml]; rfl) (Steps.refl _) (argsL := []) (rest := []) (lenOf pd_5 rfl) rfl (by show 2 * 0 + _ ≤ _; exact Nat.le_of_eq rfl) (hb hby at_167) (fun vm₁ hw₁ => ⟨rfl, rfl, (by decide : 5 + 0 ≤ _), (by decide : 20 + 0 ≤ _)⟩)
          dsimp only [Pt.U, Pt.locs, Pt.cells, Pt.slots] at X65 l65 y65 z65 st65 hQ65
          subst l65 y65 z65
          obtain ⟨rfl, M65, K65c, r65_0, r65_1, r65_2, r65_3, r65_4, r65_5, r65_6⟩ := hQ65
          have N65 := Fr.app N16 M65
          have O65 : Old Z n0 T65.heap := O16.keep K65c (allS g_b4 all0)
          refine Go.tr st65 ?_
          show Go p e below _ (T65.setTop (mkF m 170 #[.val (.long i0), .second, .val (.int i1), .val (.int i2), .val (.int jz4), .val (.int jz5), .val (.int jz6), .val (.int jz7), .val (.int jz8), .val (.int jz9), .val (.ref b1), .val (.ref b4), .unset] []))
          refine Go.st (fun t k => XS.iload X65.here hx rfl (hb hby at_170) rfl k) ?_
          show Go p e below _ (T65.setTop (mkF m 172 #[.val (.long i0), .second, .val (.int i1), .val (.int i2), .val (.int jz4), .val (.int jz5), .val (.int jz6), .val (.int jz7), .val (.int jz8), .val (.int jz9), .val (.ref b1), .val (.ref b4), .unset] [(.int jz7)]))
          by_cases hc66 : jz7 = (0 : Int32)
          · refine Go.st (fun t k => XS.ifYes X65.here hx rfl (pc0 := 172) (pc' := 180) rfl (hb hby at_172) rfl (Jvm.Free.XT.i0_eq_t hc66) (by decide) (by decide) k) ?_
            show Go p e below _ (T65.setTop (mkF m 180 #[.val (.long i0), .second, .val (.int i1), .val (.int i2), .val (.int jz4), .val (.int jz5), .val (.int jz6), .val (.int jz7), .val (.int jz8), .val (.int jz9), .val (.ref b1), .val (.ref b4), .unset] []))
            refine Go.st (fun t k => XS.iload X65.here hx rfl (hb hby at_180) rfl k) ?_
            show Go p e below _ (T65.setTop (mkF m 182 #[.val (.long i0), .second, .val (.int i1), .val (.int i2), .val (.int jz4), .val (.int jz5), .val (.int jz6), .val (.int jz7), .val (.int jz8), .val (.int jz9), .val (.ref b1), .val (.ref b4), .unset] [(.int jz8)]))
            by_cases hc67 : jz8 = (0 : Int32)
            · refine Go.st (fun t k => XS.ifYes X65.here hx rfl (pc0 := 182) (pc' := 190) rfl (hb hby at_182) rfl (Jvm.Free.XT.i0_eq_t hc67) (by decide) (by decide) k) ?_
              show Go p e below _ (T65.setTop (mkF m 190 #[.val (.long i0), .second, .val (.int i1), .val (.int i2), .val (.int jz4), .val (.int jz5), .val (.int jz6), .val (.int jz7), .val (.int jz8), .val (.int jz9), .val (.ref b1), .val (.ref b4), .unset] []))
              refine Go.st (fun t k => XS.iload X65.here hx rfl (hb hby at_190) rfl k) ?_
              show Go p e below _ (T65.setTop (mkF m 192 #[.val (.long i0), .second, .val (.int i1), .val (.int i2), .val (.int jz4), .val (.int jz5), .val (.int jz6), .val (.int jz7), .val (.int jz8), .val (.int jz9), .val (.ref b1), .val (.ref b4), .unset] [(.int jz4)]))
              refine Go.st (fun t k => XS.ifNo X65.here hx rfl (hb hby at_192) rfl (Jvm.Free.XT.i0_eq_f hc17) k) ?_
              show Go p e below _ (T65.setTop (mkF m 195 #[.val (.long i0), .second, .val (.int i1), .val (.int i2), .val (.int jz4), .val (.int jz5), .val (.int jz6), .val (.int jz7), .val (.int jz8), .val (.int jz9), .val (.ref b1), .val (.ref b4), .unset] []))
              refine Go.st (fun t k => XS.iconst X65.here hx rfl (hb hby at_195) k) ?_
              show Go p e below _ (T65.setTop (mkF m 196 #[.val (.long i0), .second, .val (.int i1), .val (.int i2), .val (.int jz4), .val (.int jz5), .val (.int jz6), .val (.int jz7), .val (.int jz8), .val (.int jz9), .val (.ref b1), .val (.ref b4), .unset] [(.int (1 : Int32))]))
              refine Go.st (fun t k => XS.istore X65.here hx rfl (hb hby at_196) rfl (l' := #[.val (.long i0), .second, .val (.int i1), .val (.int i2), .val (.int jz4), .val (.int jz5), .val (.int jz6), .val (.int jz7), .val (.int jz8), .val (.int jz9), .val (.ref b1), .val (.ref b4), .val (.int (1 : Int32))]) rfl k) ?_
              show Go p e below _ (T65.setTop (mkF m 198 #[.val (.long i0), .second, .val (.int i1), .val (.int i2), .val (.int jz4), .val (.int jz5), .val (.int jz6), .val (.int jz7), .val (.int jz8), .val (.int jz9), .val (.ref b1), .val (.ref b4), .val (.int (1 : Int32))] []))
              refine Go.st (fun t k => XS.goto X65.here hx rfl (pc0 := 198) (pc' := 225) rfl (hb hby at_198) (by decide) (by decide) k) ?_
              show Go p e below _ (T65.setTop (mkF m 225 #[.val (.long i0), .second, .val (.int i1), .val (.int i2), .val (.int jz4), .val (.int jz5), .val (.int jz6), .val (.int jz7), .val (.int jz8), .val (.int jz9), .val (.ref b1), .val (.ref b4), .val (.int (1 : Int32))] []))
              refine Go.st (fun t k => XS.aload X65.here hx rfl (hb hby at_225) rfl rfl k) ?_
              show Go p e below _ (T65.setTop (mkF m 227 #[.val (.long i0), .second, .val (.int i1), .val (.int i2), .val (.int jz4), .val (.int jz5), .val (.int jz6), .val (.int jz7), .val (.int jz8), .val (.int jz9), .val (.ref b1), .val (.ref b4), .val (.int (1 : Int32))] [(.ref b4)]))
              have c69 := ((((A4.ext E5).keep K8c).keep K16c).keep K65c)
              obtain ⟨cq68, kq68, q68a, q68b, q68c⟩ := isOf hZ rfl c69
              obtain ⟨_, _, ⟨T68, L68, k68, n68⟩, -, X68, ⟨Lc68, hQ68, l68, y68, z68⟩, st68⟩ := X65.virtualBack hx (y := (⟨"com/example/outbound_courier/outboundcourier/http/RequestHead", "hasBody", "()Z"⟩ : MethodName)) (z := (⟨"com/example/outbound_courier/outboundcourier/http/RequestHead", "hasBody", "()Z"⟩ : MethodName)) hown (mvT hZ (w75 hw)) (mvT hZ (w76 hw)) (notFace_of_selects (args := #[]) (mvT hZ (w78 hw))) (mvT hZ (w78 hw)) (mvT hZ (w77 hw)) (by decide) (backOf (W := 0) (rm12_4 l Z a0 hw [] b4 T65.heap n0 O65 r65_0) hZ (w79 hw) (w3 hw) (by decide) (by decide)) q68a q68c (g := (mkF m 227 #[.val (.long i0), .second, .val (.int i1), .val (.int i2), .val (.int jz4), .val (.int jz5), .val (.int jz6), .val (.int jz7), .val (.int jz8), .val (.int jz9), .val (.ref b1), .val (.ref b4), .val (.int (1 : Int32))] [(.ref b4)])) rfl (by rw [hml]; rfl) (Steps.refl _) (argsL := []) (rest := []) (lenOf pd_7 rfl) rfl (by show 2 * 0 + _ ≤ _; exact Nat.le_of_eq rfl) (hb hby at_227) (fun vm₁ hw₁ => ⟨rfl, rfl, (by decide : 5 + 0 ≤ _), (by decide : 20 + 0 ≤ _)⟩)
              dsimp only [Pt.U, Pt.locs, Pt.cells, Pt.slots] at X68 l68 y68 z68 st68 hQ68
              subst l68 y68 z68
              obtain ⟨rfl, M68, eh68⟩ := hQ68
              have N68 := Fr.app N65 M68
              refine Go.tr st68 ?_
              show Go p e below _ (T68.setTop (mkF m 230 #[.val (.long i0), .second, .val (.int i1), .val (.int i2), .val (.int jz4), .val (.int jz5), .val (.int jz6), .val (.int jz7), .val (.int jz8), .val (.int jz9), .val (.ref b1), .val (.ref b4), .val (.int (1 : Int32))] [(.int (1 : Int32))]))
              refine Go.st (fun t k => XS.iload X68.here hx rfl (hb hby at_230) rfl k) ?_
              show Go p e below _ (T68.setTop (mkF m 232 #[.val (.long i0), .second, .val (.int i1), .val (.int i2), .val (.int jz4), .val (.int jz5), .val (.int jz6), .val (.int jz7), .val (.int jz8), .val (.int jz9), .val (.ref b1), .val (.ref b4), .val (.int (1 : Int32))] [(.int (1 : Int32)), (.int (1 : Int32))]))
              refine Go.st (fun t k => XS.icmpNo X68.here hx rfl (hb hby at_232) rfl (Jvm.Free.XT.ii_ne_f (by decide : (1 : Int32) = (1 : Int32))) k) ?_
              show Go p e below _ (T68.setTop (mkF m 235 #[.val (.long i0), .second, .val (.int i1), .val (.int i2), .val (.int jz4), .val (.int jz5), .val (.int jz6), .val (.int jz7), .val (.int jz8), .val (.int jz9), .val (.ref b1), .val (.ref b4), .val (.int (1 : Int32))] []))
              refine Go.st (fun t k => XS.iconst X68.here hx rfl (hb hby at_235) k) ?_
              show Go p e below _ (T68.setTop (mkF m 236 #[.val (.long i0), .second, .val (.int i1), .val (.int i2), .val (.int jz4), .val (.int jz5), .val (.int jz6), .val (.int jz7), .val (.int jz8), .val (.int jz9), .val (.ref b1), .val (.ref b4), .val (.int (1 : Int32))] [(.int (1 : Int32))]))
              refine Go.st (fun t k => XS.goto X68.here hx rfl (pc0 := 236) (pc' := 240) rfl (hb hby at_236) (by decide) (by decide) k) ?_
              show Go p e below _ (T68.setTop (mkF m 240 #[.val (.long i0), .second, .val (.int i1), .val (.int i2), .val (.int jz4), .val (.int jz5), .val (.int jz6), .val (.int jz7), .val (.int jz8), .val (.int jz9), .val (.ref b1), .val (.ref b4), .val (.int (1 : Int32))] [(.int (1 : Int32))]))
              obtain ⟨fs, hr, hrun, hended, hWd, hsame⟩ := X68.leave (v := some (.int (1 : Int32))) (fun h => by rw [Bd.returns] at h; cases h)
              refine ⟨_, _, ?_, hrun, hended, _, _, rfl, ?_, ⟨⟨_, rfl⟩, hWd, hsame.mono (by decide) (by decide)⟩⟩
              · exact retN X68 hx (t := .boolean) Bd.returns (by simp) (hb hby at_240) hr
              · exact ⟨rfl, N68⟩
            · refine Go.st (fun t k => XS.ifNo X65.here hx rfl (hb hby at_182) rfl (Jvm.Free.XT.i0_eq_f hc67) k) ?_
              show Go p e below _ (T65.setTop (mkF m 185 #[.val (.long i0), .second, .val (.int i1), .val (.int i2), .val (.int jz4), .val (.int jz5), .val (.int jz6), .val (.int jz7), .val (.int jz8), .val (.int jz9), .val (.ref b1), .val (.ref b4), .unset] []))
              refine Go.st (fun t k => XS.aload X65.here hx rfl (hb hby at_185) rfl rfl k) ?_
              show Go p e below _ (T65.setTop (mkF m 187 #[.val (.long i0), .second, .val (.int i1), .val (.int i2), .val (.int jz4), .val (.int jz5), .val (.int jz6), .val (.int jz7), .val (.int jz8), .val (.int jz9), .val (.ref b1), .val (.ref b4), .unset] [(.ref b4)]))
              have c70 := ((((A4.ext E5).keep K8c).keep K16c).keep K65c)
              obtain ⟨cq71, kq71, q71a, q71b, q71c⟩ := isOf hZ rfl c70
              obtain ⟨_, _, ⟨T71, L71, k71, n71⟩, -, X71, ⟨Lc71, hQ71, l71, y71, z71⟩, st71⟩ := X65.virtualBack hx (y := (⟨"com/example/outbound_courier/outboundcourier/http/RequestHead", "setExpectsContinue", "()V"⟩ : MethodName)) (z := (⟨"com/example/outbound_courier/outboundcourier/http/RequestHead", "setExpectsContinue", "()V"⟩ : MethodName)) hown (mvT hZ (w89 hw)) (mvT hZ (w90 hw)) (notFace_of_selects (args := #[]) (mvT hZ (w92 hw))) (mvT hZ (w92 hw)) (mvT hZ (w91 hw)) (by decide) (backOf (W := 0) (rm14_5 l Z a0 hw [] b4 b2_16 b5 jz9 T65.heap n0 O65 c70 r65_6 g_b4 r65_1 r65_2 r65_3 r65_4 r65_0 r65_5) hZ (w93 hw) (w3 hw) (by decide) (by decide)) q71a q71c (g := (mkF m 187 #[.val (.long i0), .second, .val (.int i1), .val (.int i2), .val (.int jz4), .val (.int jz5), .val (.int jz6), .val (.int jz7), .val (.int jz8), .val (.int jz9), .val (.ref b1), .val (.ref b4), .unset] [(.ref b4)])) rfl (by rw [hml]; rfl) (Steps.refl _) (argsL := []) (rest := []) (lenOf pd_5 rfl) rfl (by show 2 * 0 + _ ≤ _; exact Nat.le_of_eq rfl) (hb hby at_187) (fun vm₁ hw₁ => ⟨rfl, rfl, (by decide : 5 + 0 ≤ _), (by decide : 20 + 0 ≤ _)⟩)
              dsimp only [Pt.U, Pt.locs, Pt.cells, Pt.slots] at X71 l71 y71 z71 st71 hQ71
              subst l71 y71 z71
              obtain ⟨rfl, M71, K71c, r71_0, r71_1, r71_2, r71_3, r71_4, r71_5, r71_6⟩ := hQ71
              have N71 := Fr.app N65 M71
              have O71 : Old Z n0 T71.heap := O65.keep K71c (allS g_b4 all0)
              refine Go.tr st71 ?_
              show Go p e below _ (T71.setTop (mkF m 190 #[.val (.long i0), .second, .val (.int i1), .val (.int i2), .val (.int jz4), .val (.int jz5), .val (.int jz6), .val (.int jz7), .val (.int jz8), .val (.int jz9), .val (.ref b1), .val (.ref b4), .unset] []))
              refine Go.st (fun t k => XS.iload X71.here hx rfl (hb hby at_190) rfl k) ?_
              show Go p e below _ (T71.setTop (mkF m 192 #[.val (.long i0), .second, .val (.int i1), .val (.int i2), .val (.int jz4), .val (.int jz5), .val (.int jz6), .val (.int jz7), .val (.int jz8), .val (.int jz9), .val (.ref b1), .val (.ref b4), .unset] [(.int jz4)]))
              refine Go.st (fun t k => XS.ifNo X71.here hx rfl (hb hby at_192) rfl (Jvm.Free.XT.i0_eq_f hc17) k) ?_
              show Go p e below _ (T71.setTop (mkF m 195 #[.val (.long i0), .second, .val (.int i1), .val (.int i2), .val (.int jz4), .val (.int jz5), .val (.int jz6), .val (.int jz7), .val (.int jz8), .val (.int jz9), .val (.ref b1), .val (.ref b4), .unset] []))
              refine Go.st (fun t k => XS.iconst X71.here hx rfl (hb hby at_195) k) ?_
              show Go p e below _ (T71.setTop (mkF m 196 #[.val (.long i0), .second, .val (.int i1), .val (.int i2), .val (.int jz4), .val (.int jz5), .val (.int jz6), .val (.int jz7), .val (.int jz8), .val (.int jz9), .val (.ref b1), .val (.ref b4), .unset] [(.int (1 : Int32))]))
              refine Go.st (fun t k => XS.istore X71.here hx rfl (hb hby at_196) rfl (l' := #[.val (.long i0), .second, .val (.int i1), .val (.int i2), .val (.int jz4), .val (.int jz5), .val (.int jz6), .val (.int jz7), .val (.int jz8), .val (.int jz9), .val (.ref b1), .val (.ref b4), .val (.int (1 : Int32))]) rfl k) ?_
              show Go p e below _ (T71.setTop (mkF m 198 #[.val (.long i0), .second, .val (.int i1), .val (.int i2), .val (.int jz4), .val (.int jz5), .val (.int jz6), .val (.int jz7), .val (.int jz8), .val (.int jz9), .val (.ref b1), .val (.ref b4), .val (.int (1 : Int32))] []))
              refine Go.st (fun t k => XS.goto X71.here hx rfl (pc0 := 198) (pc' := 225) rfl (hb hby at_198) (by decide) (by decide) k) ?_
              show Go p e below _ (T71.setTop (mkF m 225 #[.val (.long i0), .second, .val (.int i1), .val (.int i2), .val (.int jz4), .val (.int jz5), .val (.int jz6), .val (.int jz7), .val (.int jz8), .val (.int jz9), .val (.ref b1), .val (.ref b4), .val (.int (1 : Int32))] []))
              refine Go.st (fun t k => XS.aload X71.here hx rfl (hb hby at_225) rfl rfl k) ?_
              show Go p e below _ (T71.setTop (mkF m 227 #[.val (.long i0), .second, .val (.int i1), .val (.int i2), .val (.int jz4), .val (.int jz5), .val (.int jz6), .val (.int jz7), .val (.int jz8), .val (.int jz9), .val (.ref b1), .val (.ref b4), .val (.int (1 : Int32))] [(.ref b4)]))
              obtain ⟨cq72, kq72, q72a, q72b, q72c⟩ := isOf hZ rfl (c70.keep K71c)
              obtain ⟨_, _, ⟨T72, L72, k72, n72⟩, -, X72, ⟨Lc72, hQ72, l72, y72, z72⟩, st72⟩ := X71.virtualBack hx (y := (⟨"com/example/outbound_courier/outboundcourier/http/RequestHead", "hasBody", "()Z"⟩ : MethodName)) (z := (⟨"com/example/outbound_courier/outboundcourier/http/RequestHead", "hasBody", "()Z"⟩ : MethodName)) hown (mvT hZ (w75 hw)) (mvT hZ (w76 hw)) (notFace_of_selects (args := #[]) (mvT hZ (w78 hw))) (mvT hZ (w78 hw)) (mvT hZ (w77 hw)) (by decide) (backOf (W := 0) (rm12_4 l Z a0 hw [] b4 T71.heap n0 O71 r71_5) hZ (w79 hw) (w3 hw) (by decide) (by decide)) q72a q72c (g := (mkF m 227 #[.val (.long i0), .second, .val (.int i1), .val (.int i2), .val (.int jz4), .val (.int jz5), .val (.int jz6), .val (.int jz7), .val (.int jz8), .val (.int jz9), .val (.ref b1), .val (.ref b4), .val (.int (1 : Int32))] [(.ref b4)])) rfl (by rw [hml]; rfl) (Steps.refl _) (argsL := []) (rest := []) (lenOf pd_7 rfl) rfl (by show 2 * 0 + _ ≤ _; exact Nat.le_of_eq rfl) (hb hby at_227) (fun vm₁ hw₁ => ⟨rfl, rfl, (by decide : 5 + 0 ≤ _), (by decide : 20 + 0 ≤ _)⟩)
              dsimp only [Pt.U, Pt.locs, Pt.cells, Pt.slots] at X72 l72 y72 z72 st72 hQ72
              subst l72 y72 z72
              obtain ⟨rfl, M72, eh72⟩ := hQ72
              have N72 := Fr.app N71 M72
              refine Go.tr st72 ?_
              show Go p e below _ (T72.setTop (mkF m 230 #[.val (.long i0), .second, .val (.int i1), .val (.int i2), .val (.int jz4), .val (.int jz5), .val (.int jz6), .val (.int jz7), .val (.int jz8), .val (.int jz9), .val (.ref b1), .val (.ref b4), .val (.int (1 : Int32))] [(.int (1 : Int32))]))
              refine Go.st (fun t k => XS.iload X72.here hx rfl (hb hby at_230) rfl k) ?_
              show Go p e below _ (T72.setTop (mkF m 232 #[.val (.long i0), .second, .val (.int i1), .val (.int i2), .val (.int jz4), .val (.int jz5), .val (.int jz6), .val (.int jz7), .val (.int jz8), .val (.int jz9), .val (.ref b1), .val (.ref b4), .val (.int (1 : Int32))] [(.int (1 : Int32)), (.int (1 : Int32))]))
              refine Go.st (fun t k => XS.icmpNo X72.here hx rfl (hb hby at_232) rfl (Jvm.Free.XT.ii_ne_f (by decide : (1 : Int32) = (1 : Int32))) k) ?_
              show Go p e below _ (T72.setTop (mkF m 235 #[.val (.long i0), .second, .val (.int i1), .val (.int i2), .val (.int jz4), .val (.int jz5), .val (.int jz6), .val (.int jz7), .val (.int jz8), .val (.int jz9), .val (.ref b1), .val (.ref b4), .val (.int (1 : Int32))] []))
              refine Go.st (fun t k => XS.iconst X72.here hx rfl (hb hby at_235) k) ?_
              show Go p e below _ (T72.setTop (mkF m 236 #[.val (.long i0), .second, .val (.int i1), .val (.int i2), .val (.int jz4), .val (.int jz5), .val (.int jz6), .val (.int jz7), .val (.int jz8), .val (.int jz9), .val (.ref b1), .val (.ref b4), .val (.int (1 : Int32))] [(.int (1 : Int32))]))
              refine Go.st (fun t k => XS.goto X72.here hx rfl (pc0 := 236) (pc' := 240) rfl (hb hby at_236) (by decide) (by decide) k) ?_
              show Go p e below _ (T72.setTop (mkF m 240 #[.val (.long i0), .second, .val (.int i1), .val (.int i2), .val (.int jz4), .val (.int jz5), .val (.int jz6), .val (.int jz7), .val (.int jz8), .val (.int jz9), .val (.ref b1), .val (.ref b4), .val (.int (1 : Int32))] [(.int (1 : Int32))]))
              obtain ⟨fs, hr, hrun, hended, hWd, hsame⟩ := X72.leave (v := some (.int (1 : Int32))) (fun h => by rw [Bd.returns] at h; cases h)
              refine ⟨_, _, ?_, hrun, hended, _, _, rfl, ?_, ⟨⟨_, rfl⟩, hWd, hsame.mono (by decide) (by decide)⟩⟩
              · exact retN X72 hx (t := .boolean) Bd.returns (by simp) (hb hby at_240) hr
              · exact ⟨rfl, N72⟩
          · refine Go.st (fun t k => XS.ifNo X65.here hx rfl (hb hby at_172) rfl (Jvm.Free.XT.i0_eq_f hc66) k) ?_
            show Go p e below _ (T65.setTop (mkF m 175 #[.val (.long i0), .second, .val (.int i1), .val (.int i2), .val (.int jz4), .val (.int jz5), .val (.int jz6), .val (.int jz7), .val (.int jz8), .val (.int jz9), .val (.ref b1), .val (.ref b4), .unset] []))
            refine Go.st (fun t k => XS.aload X65.here hx rfl (hb hby at_175) rfl rfl k) ?_
            show Go p e below _ (T65.setTop (mkF m 177 #[.val (.long i0), .second, .val (.int i1), .val (.int i2), .val (.int jz4), .val (.int jz5), .val (.int jz6), .val (.int jz7), .val (.int jz8), .val (.int jz9), .val (.ref b1), .val (.ref b4), .unset] [(.ref b4)]))
            have c73 := ((((A4.ext E5).keep K8c).keep K16c).keep K65c)
            obtain ⟨cq74, kq74, q74a, q74b, q74c⟩ := isOf hZ rfl c73
            obtain ⟨_, _, ⟨T74, L74, k74, n74⟩, -, X74, ⟨Lc74, hQ74, l74, y74, z74⟩, st74⟩ := X65.virtualBack hx (y := (⟨"com/example/outbound_courier/outboundcourier/http/RequestHead", "setClose", "()V"⟩ : MethodName)) (z := (⟨"com/example/outbound_courier/outboundcourier/http/RequestHead", "setClose", "()V"⟩ : MethodName)) hown (mvT hZ (w82 hw)) (mvT hZ (w83 hw)) (notFace_of_selects (args := #[]) (mvT hZ (w85 hw))) (mvT hZ (w85 hw)) (mvT hZ (w84 hw)) (by decide) (backOf (W := 0) (rm13_3 l Z a0 hw [] b4 b2_16 b5 jz9 T65.heap n0 O65 c73 r65_5 g_b4 r65_1 r65_2 r65_3 r65_4 r65_0 r65_6) hZ (w86 hw) (w3 hw) (by decide) (by decide)) q74a q74c (g := (mkF m 177 #[.val (.long i0), .second, .val (.int i1), .val (.int i2), .val (.int jz4), .val (.int jz5), .val (.int jz6), .val (.int jz7), .val (.int jz8), .val (.int jz9), .val (.ref b1), .val (.ref b4), .unset] [(.ref b4)])) rfl (by rw [hml]; rfl) (Steps.refl _) (argsL := []) (rest := []) (lenOf pd_5 rfl) rfl (by show 2 * 0 + _ ≤ _; exact Nat.le_of_eq rfl) (hb hby at_177) (fun vm₁ hw₁ => ⟨rfl, rfl, (by decide : 5 + 0 ≤ _), (by decide : 20 + 0 ≤ _)⟩)
            dsimp only [Pt.U, Pt.locs, Pt.cells, Pt.slots] at X74 l74 y74 z74 st74 hQ74
            subst l74 y74 z74
            obtain ⟨rfl, M74, K74c, r74_0, r74_1, r74_2, r74_3, r74_4, r74_5, r74_6⟩ := hQ74
            have N74 := Fr.app N65 M74
            have O74 : Old Z n0 T74.heap := O65.keep K74c (allS g_b4 all0)
            refine Go.tr st74 ?_
            show Go p e below _ (T74.setTop (mkF m 180 #[.val (.long i0), .second, .val (.int i1), .val (.int i2), .val (.int jz4), .val (.int jz5), .val (.int jz6), .val (.int jz7), .val (.int jz8), .val (.int jz9), .val (.ref b1), .val (.ref b4), .unset] []))
            refine Go.st (fun t k => XS.iload X74.here hx rfl (hb hby at_180) rfl k) ?_
            show Go p e below _ (T74.setTop (mkF m 182 #[.val (.long i0), .second, .val (.int i1), .val (.int i2), .val (.int jz4), .val (.int jz5), .val (.int jz6), .val (.int jz7), .val (.int jz8), .val (.int jz9), .val (.ref b1), .val (.ref b4), .unset] [(.int jz8)]))
            by_cases hc75 : jz8 = (0 : Int32)
            · refine Go.st (fun t k => XS.ifYes X74.here hx rfl (pc0 := 182) (pc' := 190) rfl (hb hby at_182) rfl (Jvm.Free.XT.i0_eq_t hc75) (by decide) (by decide) k) ?_
              show Go p e below _ (T74.setTop (mkF m 190 #[.val (.long i0), .second, .val (.int i1), .val (.int i2), .val (.int jz4), .val (.int jz5), .val (.int jz6), .val (.int jz7), .val (.int jz8), .val (.int jz9), .val (.ref b1), .val (.ref b4), .unset] []))
              refine Go.st (fun t k => XS.iload X74.here hx rfl (hb hby at_190) rfl k) ?_
              show Go p e below _ (T74.setTop (mkF m 192 #[.val (.long i0), .second, .val (.int i1), .val (.int i2), .val (.int jz4), .val (.int jz5), .val (.int jz6), .val (.int jz7), .val (.int jz8), .val (.int jz9), .val (.ref b1), .val (.ref b4), .unset] [(.int jz4)]))
              refine Go.st (fun t k => XS.ifNo X74.here hx rfl (hb hby at_192) rfl (Jvm.Free.XT.i0_eq_f hc17) k) ?_
              show Go p e below _ (T74.setTop (mkF m 195 #[.val (.long i0), .second, .val (.int i1), .val (.int i2), .val (.int jz4), .val (.int jz5), .val (.int jz6), .val (.int jz7), .val (.int jz8), .val (.int jz9), .val (.ref b1), .val (.ref b4), .unset] []))
              refine Go.st (fun t k => XS.iconst X74.here hx rfl (hb hby at_195) k) ?_
              show Go p e below _ (T74.setTop (mkF m 196 #[.val (.long i0), .second, .val (.int i1), .val (.int i2), .val (.int jz4), .val (.int jz5), .val (.int jz6), .val (.int jz7), .val (.int jz8), .val (.int jz9), .val (.ref b1), .val (.ref b4), .unset] [(.int (1 : Int32))]))
              refine Go.st (fun t k => XS.istore X74.here hx rfl (hb hby at_196) rfl (l' := #[.val (.long i0), .second, .val (.int i1), .val (.int i2), .val (.int jz4), .val (.int jz5), .val (.int jz6), .val (.int jz7), .val (.int jz8), .val (.int jz9), .val (.ref b1), .val (.ref b4), .val (.int (1 : Int32))]) rfl k) ?_
              show Go p e below _ (T74.setTop (mkF m 198 #[.val (.long i0), .second, .val (.int i1), .val (.int i2), .val (.int jz4), .val (.int jz5), .val (.int jz6), .val (.int jz7), .val (.int jz8), .val (.int jz9), .val (.ref b1), .val (.ref b4), .val (.int (1 : Int32))] []))
              refine Go.st (fun t k => XS.goto X74.here hx rfl (pc0 := 198) (pc' := 225) rfl (hb hby at_198) (by decide) (by decide) k) ?_
              show Go p e below _ (T74.setTop (mkF m 225 #[.val (.long i0), .second, .val (.int i1), .val (.int i2), .val (.int jz4), .val (.int jz5), .val (.int jz6), .val (.int jz7), .val (.int jz8), .val (.int jz9), .val (.ref b1), .val (.ref b4), .val (.int (1 : Int32))] []))
              refine Go.st (fun t k => XS.aload X74.here hx rfl (hb hby at_225) rfl rfl k) ?_
              show Go p e below _ (T74.setTop (mkF m 227 #[.val (.long i0), .second, .val (.int i1), .val (.int i2), .val (.int jz4), .val (.int jz5), .val (.int jz6), .val (.int jz7), .val (.int jz8), .val (.int jz9), .val (.ref b1), .val (.ref b4), .val (.int (1 : Int32))] [(.ref b4)]))
              obtain ⟨cq76, kq76, q76a, q76b, q76c⟩ := isOf hZ rfl (c73.keep K74c)
              obtain ⟨_, _, ⟨T76, L76, k76, n76⟩, -, X76, ⟨Lc76, hQ76, l76, y76, z76⟩, st76⟩ := X74.virtualBack hx (y := (⟨"com/example/outbound_courier/outboundcourier/http/RequestHead", "hasBody", "()Z"⟩ : MethodName)) (z := (⟨"com/example/outbound_courier/outboundcourier/http/RequestHead", "hasBody", "()Z"⟩ : MethodName)) hown (mvT hZ (w75 hw)) (mvT hZ (w76 hw)) (notFace_of_selects (args := #[]) (mvT hZ (w78 hw))) (mvT hZ (w78 hw)) (mvT hZ (w77 hw)) (by decide) (backOf (W := 0) (rm12_4 l Z a0 hw [] b4 T74.heap n0 O74 r74_5) hZ (w79 hw) (w3 hw) (by decide) (by decide)) q76a q76c (g := (mkF m 227 #[.val (.long i0), .second, .val (.int i1), .val (.int i2), .val (.int jz4), .val (.int jz5), .val (.int jz6), .val (.int jz7), .val (.int jz8), .val (.int jz9), .val (.ref b1), .val (.ref b4), .val (.int (1 : Int32))] [(.ref b4)])) rfl (by rw [hml]; rfl) (Steps.refl _) (argsL := []) (rest := []) (lenOf pd_7 rfl) rfl (by show 2 * 0 + _ ≤ _; exact Nat.le_of_eq rfl) (hb hby at_227) (fun vm₁ hw₁ => ⟨rfl, rfl, (by decide : 5 + 0 ≤ _), (by decide : 20 + 0 ≤ _)⟩)
              dsimp only [Pt.U, Pt.locs, Pt.cells, Pt.slots] at X76 l76 y76 z76 st76 hQ76
              subst l76 y76 z76
              obtain ⟨rfl, M76, eh76⟩ := hQ76
              have N76 := Fr.app N74 M76
              refine Go.tr st76 ?_
              show Go p e below _ (T76.setTop (mkF m 230 #[.val (.long i0), .second, .val (.int i1), .val (.int i2), .val (.int jz4), .val (.int jz5), .val (.int jz6), .val (.int jz7), .val (.int jz8), .val (.int jz9), .val (.ref b1), .val (.ref b4), .val (.int (1 : Int32))] [(.int (1 : Int32))]))
              refine Go.st (fun t k => XS.iload X76.here hx rfl (hb hby at_230) rfl k) ?_
              show Go p e below _ (T76.setTop (mkF m 232 #[.val (.long i0), .second, .val (.int i1), .val (.int i2), .val (.int jz4), .val (.int jz5), .val (.int jz6), .val (.int jz7), .val (.int jz8), .val (.int jz9), .val (.ref b1), .val (.ref b4), .val (.int (1 : Int32))] [(.int (1 : Int32)), (.int (1 : Int32))]))
              refine Go.st (fun t k => XS.icmpNo X76.here hx rfl (hb hby at_232) rfl (Jvm.Free.XT.ii_ne_f (by decide : (1 : Int32) = (1 : Int32))) k) ?_
              show Go p e below _ (T76.setTop (mkF m 235 #[.val (.long i0), .second, .val (.int i1), .val (.int i2), .val (.int jz4), .val (.int jz5), .val (.int jz6), .val (.int jz7), .val (.int jz8), .val (.int jz9), .val (.ref b1), .val (.ref b4), .val (.int (1 : Int32))] []))
              refine Go.st (fun t k => XS.iconst X76.here hx rfl (hb hby at_235) k) ?_
              show Go p e below _ (T76.setTop (mkF m 236 #[.val (.long i0), .second, .val (.int i1), .val (.int i2), .val (.int jz4), .val (.int jz5), .val (.int jz6), .val (.int jz7), .val (.int jz8), .val (.int jz9), .val (.ref b1), .val (.ref b4), .val (.int (1 : Int32))] [(.int (1 : Int32))]))
              refine Go.st (fun t k => XS.goto X76.here hx rfl (pc0 := 236) (pc' := 240) rfl (hb hby at_236) (by decide) (by decide) k) ?_
              show Go p e below _ (T76.setTop (mkF m 240 #[.val (.long i0), .second, .val (.int i1), .val (.int i2), .val (.int jz4), .val (.int jz5), .val (.int jz6), .val (.int jz7), .val (.int jz8), .val (.int jz9), .val (.ref b1), .val (.ref b4), .val (.int (1 : Int32))] [(.int (1 : Int32))]))
              obtain ⟨fs, hr, hrun, hended, hWd, hsame⟩ := X76.leave (v := some (.int (1 : Int32))) (fun h => by rw [Bd.returns] at h; cases h)
              refine ⟨_, _, ?_, hrun, hended, _, _, rfl, ?_, ⟨⟨_, rfl⟩, hWd, hsame.mono (by decide) (by decide)⟩⟩
              · exact retN X76 hx (t := .boolean) Bd.returns (by simp) (hb hby at_240) hr
              · exact ⟨rfl, N76⟩
            · refine Go.st (fun t k => XS.ifNo X74.here hx rfl (hb hby at_182) rfl (Jvm.Free.XT.i0_eq_f hc75) k) ?_
              show Go p e below _ (T74.setTop (mkF m 185 #[.val (.long i0), .second, .val (.int i1), .val (.int i2), .val (.int jz4), .val (.int jz5), .val (.int jz6), .val (.int jz7), .val (.int jz8), .val (.int jz9), .val (.ref b1), .val (.ref b4), .unset] []))
              refine Go.st (fun t k => XS.aload X74.here hx rfl (hb hby at_185) rfl rfl k) ?_
              show Go p e below _ (T74.setTop (mkF m 187 #[.val (.long i0), .second, .val (.int i1), .val (.int i2), .val (.int jz4), .val (.int jz5), .val (.int jz6), .val (.int jz7), .val (.int jz8), .val (.int jz9), .val (.ref b1), .val (.ref b4), .unset] [(.ref b4)]))
              obtain ⟨cq77, kq77, q77a, q77b, q77c⟩ := isOf hZ rfl (c73.keep K74c)
              obtain ⟨_, _, ⟨T77, L77, k77, n77⟩, -, X77, ⟨Lc77, hQ77, l77, y77, z77⟩, st77⟩ := X74.virtualBack hx (y := (⟨"com/example/outbound_courier/outboundcourier/http/RequestHead", "setExpectsContinue", "()V"⟩ : MethodName)) (z := (⟨"com/example/outbound_courier/outboundcourier/http/RequestHead", "setExpectsContinue", "()V"⟩ : MethodName)) hown (mvT hZ (w89 hw)) (mvT hZ (w90 hw)) (notFace_of_selects (args := #[]) (mvT hZ (w92 hw))) (mvT hZ (w92 hw)) (mvT hZ (w91 hw)) (by decide) (backOf (W := 0) (rm14_6 l Z a0 hw [] b4 b2_16 b5 jz9 T74.heap n0 O74 (c73.keep K74c) r74_6 g_b4 r74_1 r74_2 r74_3 r74_4 r74_5 r74_0) hZ (w93 hw) (w3 hw) (by decide) (by decide)) q77a q77c (g := (mkF m 187 #[.val (.long i0), .second, .val (.int i1), .val (.int i2), .val (.int jz4), .val (.int jz5), .val (.int jz6), .val (.int jz7), .val (.int jz8), .val (.int jz9), .val (.ref b1), .val (.ref b4), .unset] [(.ref b4)])) rfl (by rw [hml]; rfl) (Steps.refl _) (argsL := []) (rest := []) (lenOf pd_5 rfl) rfl (by show 2 * 0 + _ ≤ _; exact Nat.le_of_eq rfl) (hb hby at_187) (fun vm₁ hw₁ => ⟨rfl, rfl, (by decide : 5 + 0 ≤ _), (by decide : 20 + 0 ≤ _)⟩)
              dsimp only [Pt.U, Pt.locs, Pt.cells, Pt.slots] at X77 l77 y77 z77 st77 hQ77
              subst l77 y77 z77
              obtain ⟨rfl, M77, K77c, r77_0, r77_1, r77_2, r77_3, r77_4, r77_5, r77_6⟩ := hQ77
              have N77 := Fr.app N74 M77
              have O77 : Old Z n0 T77.heap := O74.keep K77c (allS g_b4 all0)
              refine Go.tr st77 ?_
              show Go p e below _ (T77.setTop (mkF m 190 #[.val (.long i0), .second, .val (.int i1), .val (.int i2), .val (.int jz4), .val (.int jz5), .val (.int jz6), .val (.int jz7), .val (.int jz8), .val (.int jz9), .val (.ref b1), .val (.ref b4), .unset] []))
              refine Go.st (fun t k => XS.iload X77.here hx rfl (hb hby at_190) rfl k) ?_
              show Go p e below _ (T77.setTop (mkF m 192 #[.val (.long i0), .second, .val (.int i1), .val (.int i2), .val (.int jz4), .val (.int jz5), .val (.int jz6), .val (.int jz7), .val (.int jz8), .val (.int jz9), .val (.ref b1), .val (.ref b4), .unset] [(.int jz4)]))
              refine Go.st (fun t k => XS.ifNo X77.here hx rfl (hb hby at_192) rfl (Jvm.Free.XT.i0_eq_f hc17) k) ?_
              show Go p e below _ (T77.setTop (mkF m 195 #[.val (.long i0), .second, .val (.int i1), .val (.int i2), .val (.int jz4), .val (.int jz5), .val (.int jz6), .val (.int jz7), .val (.int jz8), .val (.int jz9), .val (.ref b1), .val (.ref b4), .unset] []))
              refine Go.st (fun t k => XS.iconst X77.here hx rfl (hb hby at_195) k) ?_
              show Go p e below _ (T77.setTop (mkF m 196 #[.val (.long i0), .second, .val (.int i1), .val (.int i2), .val (.int jz4), .val (.int jz5), .val (.int jz6), .val (.int jz7), .val (.int jz8), .val (.int jz9), .val (.ref b1), .val (.ref b4), .unset] [(.int (1 : Int32))]))
              refine Go.st (fun t k => XS.istore X77.here hx rfl (hb hby at_196) rfl (l' := #[.val (.long i0), .second, .val (.int i1), .val (.int i2), .val (.int jz4), .val (.int jz5), .val (.int jz6), .val (.int jz7), .val (.int jz8), .val (.int jz9), .val (.ref b1), .val (.ref b4), .val (.int (1 : Int32))]) rfl k) ?_
              show Go p e below _ (T77.setTop (mkF m 198 #[.val (.long i0), .second, .val (.int i1), .val (.int i2), .val (.int jz4), .val (.int jz5), .val (.int jz6), .val (.int jz7), .val (.int jz8), .val (.int jz9), .val (.ref b1), .val (.ref b4), .val (.int (1 : Int32))] []))
              refine Go.st (fun t k => XS.goto X77.here hx rfl (pc0 := 198) (pc' := 225) rfl (hb hby at_198) (by decide) (by decide) k) ?_
              show Go p e below _ (T77.setTop (mkF m 225 #[.val (.long i0), .second, .val (.int i1), .val (.int i2), .val (.int jz4), .val (.int jz5), .val (.int jz6), .val (.int jz7), .val (.int jz8), .val (.int jz9), .val (.ref b1), .val (.ref b4), .val (.int (1 : Int32))] []))
              refine Go.st (fun t k => XS.aload X77.here hx rfl (hb hby at_225) rfl rfl k) ?_
              show Go p e below _ (T77.setTop (mkF m 227 #[.val (.long i0), .second, .val (.int i1), .val (.int i2), .val (.int jz4), .val (.int jz5), .val (.int jz6), .val (.int jz7), .val (.int jz8), .val (.int jz9), .val (.ref b1), .val (.ref b4), .val (.int (1 : Int32))] [(.ref b4)]))
              obtain ⟨cq78, kq78, q78a, q78b, q78c⟩ := isOf hZ rfl ((c73.keep K74c).keep K77c)
              obtain ⟨_, _, ⟨T78, L78, k78, n78⟩, -, X78, ⟨Lc78, hQ78, l78, y78, z78⟩, st78⟩ := X77.virtualBack hx (y := (⟨"com/example/outbound_courier/outboundcourier/http/RequestHead", "hasBody", "()Z"⟩ : MethodName)) (z := (⟨"com/example/outbound_courier/outboundcourier/http/RequestHead", "hasBody", "()Z"⟩ : MethodName)) hown (mvT hZ (w75 hw)) (mvT hZ (w76 hw)) (notFace_of_selects (args := #[]) (mvT hZ (w78 hw))) (mvT hZ (w78 hw)) (mvT hZ (w77 hw)) (by decide) (backOf (W := 0) (rm12_4 l Z a0 hw [] b4 T77.heap n0 O77 r77_5) hZ (w79 hw) (w3 hw) (by decide) (by decide)) q78a q78c (g := (mkF m 227 #[.val (.long i0), .second, .val (.int i1), .val (.int i2), .val (.int jz4), .val (.int jz5), .val (.int jz6), .val (.int jz7), .val (.int jz8), .val (.int jz9), .val (.ref b1), .val (.ref b4), .val (.int (1 : Int32))] [(.ref b4)])) rfl (by rw [hml]; rfl) (Steps.refl _) (argsL := []) (rest := []) (lenOf pd_7 rfl) rfl (by show 2 * 0 + _ ≤ _; exact Nat.le_of_eq rfl) (hb hby at_227) (fun vm₁ hw₁ => ⟨rfl, rfl, (by decide : 5 + 0 ≤ _), (by decide : 20 + 0 ≤ _)⟩)
              dsimp only [Pt.U, Pt.locs, Pt.cells, Pt.slots] at X78 l78 y78 z78 st78 hQ78
              subst l78 y78 z78
              obtain ⟨rfl, M78, eh78⟩ := hQ78
              have N78 := Fr.app N77 M78
              refine Go.tr st78 ?_
              show Go p e below _ (T78.setTop (mkF m 230 #[.val (.long i0), .second, .val (.int i1), .val (.int i2), .val (.int jz4), .val (.int jz5), .val (.int jz6), .val (.int jz7), .val (.int jz8), .val (.int jz9), .val (.ref b1), .val (.ref b4), .val (.int (1 : Int32))] [(.int (1 : Int32))]))
              refine Go.st (fun t k => XS.iload X78.here hx rfl (hb hby at_230) rfl k) ?_
              show Go p e below _ (T78.setTop (mkF m 232 #[.val (.long i0), .second, .val (.int i1), .val (.int i2), .val (.int jz4), .val (.int jz5), .val (.int jz6), .val (.int jz7), .val (.int jz8), .val (.int jz9), .val (.ref b1), .val (.ref b4), .val (.int (1 : Int32))] [(.int (1 : Int32)), (.int (1 : Int32))]))
              refine Go.st (fun t k => XS.icmpNo X78.here hx rfl (hb hby at_232) rfl (Jvm.Free.XT.ii_ne_f (by decide : (1 : Int32) = (1 : Int32))) k) ?_
              show Go p e below _ (T78.setTop (mkF m 235 #[.val (.long i0), .second, .val (.int i1), .val (.int i2), .val (.int jz4), .val (.int jz5), .val (.int jz6), .val (.int jz7), .val (.int jz8), .val (.int jz9), .val (.ref b1), .val (.ref b4), .val (.int (1 : Int32))] []))
              refine Go.st (fun t k => XS.iconst X78.here hx rfl (hb hby at_235) k) ?_
              show Go p e below _ (T78.setTop (mkF m 236 #[.val (.long i0), .second, .val (.int i1), .val (.int i2), .val (.int jz4), .val (.int jz5), .val (.int jz6), .val (.int jz7), .val (.int jz8), .val (.int jz9), .val (.ref b1), .val (.ref b4), .val (.int (1 : Int32))] [(.int (1 : Int32))]))
              refine Go.st (fun t k => XS.goto X78.here hx rfl (pc0 := 236) (pc' := 240) rfl (hb hby at_236) (by decide) (by decide) k) ?_
              show Go p e below _ (T78.setTop (mkF m 240 #[.val (.long i0), .second, .val (.int i1), .val (.int i2), .val (.int jz4), .val (.int jz5), .val (.int jz6), .val (.int jz7), .val (.int jz8), .val (.int jz9), .val (.ref b1), .val (.ref b4), .val (.int (1 : Int32))] [(.int (1 : Int32))]))
              obtain ⟨fs, hr, hrun, hended, hWd, hsame⟩ := X78.leave (v := some (.int (1 : Int32))) (fun h => by rw [Bd.returns] at h; cases h)
              refine ⟨_, _, ?_, hrun, hended, _, _, rfl, ?_, ⟨⟨_, rfl⟩, hWd, hsame.mono (by decide) (by decide)⟩⟩
              · exact retN X78 hx (t := .boolean) Bd.returns (by simp) (hb hby at_240) hr
              · exact ⟨rfl, N78⟩
        · refine Go.st (fun t k => XS.ifNo X16.here hx rfl (hb hby at_146) rfl (Jvm.Free.XT.i0_eq_f hc64) k) ?_
          show Go p e below _ (T16.setTop (mkF m 149 #[.val (.long i0), .second, .val (.int i1), .val (.int i2), .val (.int jz4), .val (.int jz5), .val (.int jz6), .val (.int jz7), .val (.int jz8), .val (.int jz9), .val (.ref b1), .val (.ref b4), .unset] []))
          refine Go.st (fun t k => XS.aload X16.here hx rfl (hb hby at_149) rfl rfl k) ?_
          show Go p e below _ (T16.setTop (mkF m 151 #[.val (.long i0), .second, .val (.int i1), .val (.int i2), .val (.int jz4), .val (.int jz5), .val (.int jz6), .val (.int jz7), .val (.int jz8), .val (.int jz9), .val (.ref b1), .val (.ref b4), .unset] [(.ref b4)]))
          refine Go.st (fun t k => XS.lloadN X16.here hx rfl (hb hby at_151) rfl k) ?_
          show Go p e below _ (T16.setTop (mkF m 152 #[.val (.long i0), .second, .val (.int i1), .val (.int i2), .val (.int jz4), .val (.int jz5), .val (.int jz6), .val (.int jz7), .val (.int jz8), .val (.int jz9), .val (.ref b1), .val (.ref b4), .unset] [(.long i0), (.ref b4)]))
          obtain ⟨cq79, kq79, q79a, q79b, q79c⟩ := isOf hZ rfl (((A4.ext E5).keep K8c).keep K16c)
          obtain ⟨_, _, ⟨T79, L79, k79, n79⟩, -, X79, ⟨Lc79, hQ79, l79, y79, z79⟩, st79⟩ := X16.virtualBack hx (y := (⟨"com/example/outbound_courier/outboundcourier/http/RequestHead", "setContentLength", "(J)V"⟩ : MethodName)) (z := (⟨"com/example/outbound_courier/outboundcourier/http/RequestHead", "setContentLength", "(J)V"⟩ : MethodName)) hown (mvT hZ (w70 hw)) (mvT hZ (w71 hw)) (notFace_of_selects (args := #[]) (mvT hZ (w73 hw))) (mvT hZ (w73 hw)) (mvT hZ (w72 hw)) (by decide) (backOf (W := 0) (rm11_1 l Z a0 hw [] b4 i0 b2_16 b5 jz9 T16.heap n0 O16 (((A4.ext E5).keep K8c).keep K16c) r16_2 g_b4 r16_1 r16_3 r16_4 r16_5 r16_6 r16_7) hZ (w74 hw) (w3 hw) (by decide) (by decide)) q79a q79c (g := (mkF m 152 #[.val (.long i0), .second, .val (.int i1), .val (.int i2), .val (.int jz4), .val (.int jz5), .val (.int jz6), .val (.int jz7), .val (.int jz8), .val (.int jz9), .val (.ref b1), .val (.ref b4), .unset] [(.long i0), (.ref b4)])) rfl (by rw [hml]; rfl) (Steps.refl _) (argsL := [(.long i0)]) (rest := []) (lenOf pd_8 rfl) rfl (by show 2 * 0 + _ ≤ _; exact Nat.le_of_eq rfl) (hb hby at_152) (fun vm₁ hw₁ => ⟨rfl, rfl, (by decide : 5 + 0 ≤ _), (by decide : 20 + 0 ≤ _)⟩)
          dsimp only [Pt.U, Pt.locs, Pt.cells, Pt.slots] at X79 l79 y79 z79 st79 hQ79
          subst l79 y79 z79
          obtain ⟨rfl, M79, K79c, r79_0, r79_1, r79_2, r79_3, r79_4, r79_5, r79_6⟩ := hQ79
          have N79 := Fr.app N16 M79
          have O79 : Old Z n0 T79.heap := O16.keep K79c (allS g_b4 all0)
          refine Go.tr st79 ?_
          show Go p e below _ (T79.setTop (mkF m 155 #[.val (.long i0), .second, .val (.int i1), .val (.int i2), .val (.int jz4), .val (.int jz5), .val (.int jz6), .val (.int jz7), .val (.int jz8), .val (.int jz9), .val (.ref b1), .val (.ref b4), .unset] []))
          refine Go.st (fun t k => XS.iload X79.here hx rfl (hb hby at_155) rfl k) ?_
          show Go p e below _ (T79.setTop (mkF m 157 #[.val (.long i0), .second, .val (.int i1), .val (.int i2), .val (.int jz4), .val (.int jz5), .val (.int jz6), .val (.int jz7), .val (.int jz8), .val (.int jz9), .val (.ref b1), .val (.ref b4), .unset] [(.int jz4)]))
          refine Go.st (fun t k => XS.ifNo X79.here hx rfl (hb hby at_157) rfl (Jvm.Free.XT.i0_eq_f hc17) k) ?_
          show Go p e below _ (T79.setTop (mkF m 160 #[.val (.long i0), .second, .val (.int i1), .val (.int i2), .val (.int jz4), .val (.int jz5), .val (.int jz6), .val (.int jz7), .val (.int jz8), .val (.int jz9), .val (.ref b1), .val (.ref b4), .unset] []))
          refine Go.st (fun t k => XS.iload X79.here hx rfl (hb hby at_160) rfl k) ?_
          show Go p e below _ (T79.setTop (mkF m 162 #[.val (.long i0), .second, .val (.int i1), .val (.int i2), .val (.int jz4), .val (.int jz5), .val (.int jz6), .val (.int jz7), .val (.int jz8), .val (.int jz9), .val (.ref b1), .val (.ref b4), .unset] [(.int jz6)]))
          refine Go.st (fun t k => XS.ifNo X79.here hx rfl (hb hby at_162) rfl (Jvm.Free.XT.i0_ne_f hc63) k) ?_
          show Go p e below _ (T79.setTop (mkF m 165 #[.val (.long i0), .second, .val (.int i1), .val (.int i2), .val (.int jz4), .val (.int jz5), .val (.int jz6), .val (.int jz7), .val (.int jz8), .val (.int jz9), .val (.ref b1), .val (.ref b4), .unset] []))
          refine Go.st (fun t k => XS.aload X79.here hx rfl (hb hby at_165) rfl rfl k) ?_
          show Go p e below _ (T79.setTop (mkF m 167 #[.val (.long i0), .second, .val (.int i1), .val (.int i2), .val (.int jz4), .val (.int jz5), .val (.int jz6), .val (.int jz7), .val (.int jz8), .val (.int jz9), .val (.ref b1), .val (.ref b4), .unset] [(.ref b4)]))
          have c80 := ((((A4.ext E5).keep K8c).keep K16c).keep K79c)
          obtain ⟨cq81, kq81, q81a, q81b, q81c⟩ := isOf hZ rfl c80
          obtain ⟨_, _, ⟨T81, L81, k81, n81⟩, -, X81, ⟨Lc81, hQ81, l81, y81, z81⟩, st81⟩ := X79.virtualBack hx (y := (⟨"com/example/outbound_courier/outboundcourier/http/RequestHead", "setChunked", "()V"⟩ : MethodName)) (z := (⟨"com/example/outbound_courier/outboundcourier/http/RequestHead", "setChunked", "()V"⟩ : MethodName)) hown (mvT hZ (w96 hw)) (mvT hZ (w97 hw)) (notFace_of_selects (args := #[]) (mvT hZ (w99 hw))) (mvT hZ (w99 hw)) (mvT hZ (w98 hw)) (by decide) (backOf (W := 0) (rm15_2 l Z a0 hw [] b4 b2_16 i0 b5 jz9 T79.heap n0 O79 c80 r79_4 g_b4 r79_1 r79_0 r79_2 r79_3 r79_5 r79_6) hZ (w100 hw) (w3 hw) (by decide) (by decide)) q81a q81c (g := (mkF m 167 #[.val (.long i0), .second, .val (.int i1), .val (.int i2), .val (.int jz4), .val (.int jz5), .val (.int jz6), .val (.int jz7), .val (.int jz8), .val (.int jz9), .val (.ref b1), .val (.ref b4), .unset] [(.ref b4)])) rfl (by rw [hml]; rfl) (Steps.refl _) (argsL := []) (rest := []) (lenOf pd_5 rfl) rfl (by show 2 * 0 + _ ≤ _; exact Nat.le_of_eq rfl) (hb hby at_167) (fun vm₁ hw₁ => ⟨rfl, rfl, (by decide : 5 + 0 ≤ _), (by decide : 20 + 0 ≤ _)⟩)
          dsimp only [Pt.U, Pt.locs, Pt.cells, Pt.slots] at X81 l81 y81 z81 st81 hQ81
          subst l81 y81 z81
          obtain ⟨rfl, M81, K81c, r81_0, r81_1, r81_2, r81_3, r81_4, r81_5, r81_6⟩ := hQ81
          have N81 := Fr.app N79 M81
          have O81 : Old Z n0 T81.heap := O79.keep K81c (allS g_b4 all0)
          refine Go.tr st81 ?_
          show Go p e below _ (T81.setTop (mkF m 170 #[.val (.long i0), .second, .val (.int i1), .val (.int i2), .val (.int jz4), .val (.int jz5), .val (.int jz6), .val (.int jz7), .val (.int jz8), .val (.int jz9), .val (.ref b1), .val (.ref b4), .unset] []))
          refine Go.st (fun t k => XS.iload X81.here hx rfl (hb hby at_170) rfl k) ?_
          show Go p e below _ (T81.setTop (mkF m 172 #[.val (.long i0), .second, .val (.int i1), .val (.int i2), .val (.int jz4), .val (.int jz5), .val (.int jz6), .val (.int jz7), .val (.int jz8), .val (.int jz9), .val (.ref b1), .val (.ref b4), .unset] [(.int jz7)]))
          by_cases hc82 : jz7 = (0 : Int32)
          · refine Go.st (fun t k => XS.ifYes X81.here hx rfl (pc0 := 172) (pc' := 180) rfl (hb hby at_172) rfl (Jvm.Free.XT.i0_eq_t hc82) (by decide) (by decide) k) ?_
            show Go p e below _ (T81.setTop (mkF m 180 #[.val (.long i0), .second, .val (.int i1), .val (.int i2), .val (.int jz4), .val (.int jz5), .val (.int jz6), .val (.int jz7), .val (.int jz8), .val (.int jz9), .val (.ref b1), .val (.ref b4), .unset] []))
            refine Go.st (fun t k => XS.iload X81.here hx rfl (hb hby at_180) rfl k) ?_
            show Go p e below _ (T81.setTop (mkF m 182 #[.val (.long i0), .second, .val (.int i1), .val (.int i2), .val (.int jz4), .val (.int jz5), .val (.int jz6), .val (.int jz7), .val (.int jz8), .val (.int jz9), .val (.ref b1), .val (.ref b4), .unset] [(.int jz8)]))
            by_cases hc83 : jz8 = (0 : Int32)
            · refine Go.st (fun t k => XS.ifYes X81.here hx rfl (pc0 := 182) (pc' := 190) rfl (hb hby at_182) rfl (Jvm.Free.XT.i0_eq_t hc83) (by decide) (by decide) k) ?_
              show Go p e below _ (T81.setTop (mkF m 190 #[.val (.long i0), .second, .val (.int i1), .val (.int i2), .val (.int jz4), .val (.int jz5), .val (.int jz6), .val (.int jz7), .val (.int jz8), .val (.int jz9), .val (.ref b1), .val (.ref b4), .unset] []))
              refine Go.st (fun t k => XS.iload X81.here hx rfl (hb hby at_190) rfl k) ?_
              show Go p e below _ (T81.setTop (mkF m 192 #[.val (.long i0), .second, .val (.int i1), .val (.int i2), .val (.int jz4), .val (.int jz5), .val (.int jz6), .val (.int jz7), .val (.int jz8), .val (.int jz9), .val (.ref b1), .val (.ref b4), .unset] [(.int jz4)]))
              refine Go.st (fun t k => XS.ifNo X81.here hx rfl (hb hby at_192) rfl (Jvm.Free.XT.i0_eq_f hc17) k) ?_
              show Go p e below _ (T81.setTop (mkF m 195 #[.val (.long i0), .second, .val (.int i1), .val (.int i2), .val (.int jz4), .val (.int jz5), .val (.int jz6), .val (.int jz7), .val (.int jz8), .val (.int jz9), .val (.ref b1), .val (.ref b4), .unset] []))
              refine Go.st (fun t k => XS.iconst X81.here hx rfl (hb hby at_195) k) ?_
              show Go p e below _ (T81.setTop (mkF m 196 #[.val (.long i0), .second, .val (.int i1), .val (.int i2), .val (.int jz4), .val (.int jz5), .val (.int jz6), .val (.int jz7), .val (.int jz8), .val (.int jz9), .val (.ref b1), .val (.ref b4), .unset] [(.int (1 : Int32))]))
              refine Go.st (fun t k => XS.istore X81.here hx rfl (hb hby at_196) rfl (l' := #[.val (.long i0), .second, .val (.int i1), .val (.int i2), .val (.int jz4), .val (.int jz5), .val (.int jz6), .val (.int jz7), .val (.int jz8), .val (.int jz9), .val (.ref b1), .val (.ref b4), .val (.int (1 : Int32))]) rfl k) ?_
              show Go p e below _ (T81.setTop (mkF m 198 #[.val (.long i0), .second, .val (.int i1), .val (.int i2), .val (.int jz4), .val (.int jz5), .val (.int jz6), .val (.int jz7), .val (.int jz8), .val (.int jz9), .val (.ref b1), .val (.ref b4), .val (.int (1 : Int32))] []))
              refine Go.st (fun t k => XS.goto X81.here hx rfl (pc0 := 198) (pc' := 225) rfl (hb hby at_198) (by decide) (by decide) k) ?_
              show Go p e below _ (T81.setTop (mkF m 225 #[.val (.long i0), .second, .val (.int i1), .val (.int i2), .val (.int jz4), .val (.int jz5), .val (.int jz6), .val (.int jz7), .val (.int jz8), .val (.int jz9), .val (.ref b1), .val (.ref b4), .val (.int (1 : Int32))] []))
              refine Go.st (fun t k => XS.aload X81.here hx rfl (hb hby at_225) rfl rfl k) ?_
              show Go p e below _ (T81.setTop (mkF m 227 #[.val (.long i0), .second, .val (.int i1), .val (.int i2), .val (.int jz4), .val (.int jz5), .val (.int jz6), .val (.int jz7), .val (.int jz8), .val (.int jz9), .val (.ref b1), .val (.ref b4), .val (.int (1 : Int32))] [(.ref b4)]))
              obtain ⟨cq84, kq84, q84a, q84b, q84c⟩ := isOf hZ rfl (c80.keep K81c)
              obtain ⟨_, _, ⟨T84, L84, k84, n84⟩, -, X84, ⟨Lc84, hQ84, l84, y84, z84⟩, st84⟩ := X81.virtualBack hx (y := (⟨"com/example/outbound_courier/outboundcourier/http/RequestHead", "hasBody", "()Z"⟩ : MethodName)) (z := (⟨"com/example/outbound_courier/outboundcourier/http/RequestHead", "hasBody", "()Z"⟩ : MethodName)) hown (mvT hZ (w75 hw)) (mvT hZ (w76 hw)) (notFace_of_selects (args := #[]) (mvT hZ (w78 hw))) (mvT hZ (w78 hw)) (mvT hZ (w77 hw)) (by decide) (backOf (W := 0) (rm12_4 l Z a0 hw [] b4 T81.heap n0 O81 r81_0) hZ (w79 hw) (w3 hw) (by decide) (by decide)) q84a q84c (g := (mkF m 227 #[.val (.long i0), .second, .val (.int i1), .val (.int i2), .val (.int jz4), .val (.int jz5), .val (.int jz6), .val (.int jz7), .val (.int jz8), .val (.int jz9), .val (.ref b1), .val (.ref b4), .val (.int (1 : Int32))] [(.ref b4)])) rfl (by rw [hml]; rfl) (Steps.refl _) (argsL := []) (rest := []) (lenOf pd_7 rfl) rfl (by show 2 * 0 + _ ≤ _; exact Nat.le_of_eq rfl) (hb hby at_227) (fun vm₁ hw₁ => ⟨rfl, rfl, (by decide : 5 + 0 ≤ _), (by decide : 20 + 0 ≤ _)⟩)
              dsimp only [Pt.U, Pt.locs, Pt.cells, Pt.slots] at X84 l84 y84 z84 st84 hQ84
              subst l84 y84 z84
              obtain ⟨rfl, M84, eh84⟩ := hQ84
              have N84 := Fr.app N81 M84
              refine Go.tr st84 ?_
              show Go p e below _ (T84.setTop (mkF m 230 #[.val (.long i0), .second, .val (.int i1), .val (.int i2), .val (.int jz4), .val (.int jz5), .val (.int jz6), .val (.int jz7), .val (.int jz8), .val (.int jz9), .val (.ref b1), .val (.ref b4), .val (.int (1 : Int32))] [(.int (1 : Int32))]))
              refine Go.st (fun t k => XS.iload X84.here hx rfl (hb hby at_230) rfl k) ?_
              show Go p e below _ (T84.setTop (mkF m 232 #[.val (.long i0), .second, .val (.int i1), .val (.int i2), .val (.int jz4), .val (.int jz5), .val (.int jz6), .val (.int jz7), .val (.int jz8), .val (.int jz9), .val (.ref b1), .val (.ref b4), .val (.int (1 : Int32))] [(.int (1 : Int32)), (.int (1 : Int32))]))
              refine Go.st (fun t k => XS.icmpNo X84.here hx rfl (hb hby at_232) rfl (Jvm.Free.XT.ii_ne_f (by decide : (1 : Int32) = (1 : Int32))) k) ?_
              show Go p e below _ (T84.setTop (mkF m 235 #[.val (.long i0), .second, .val (.int i1), .val (.int i2), .val (.int jz4), .val (.int jz5), .val (.int jz6), .val (.int jz7), .val (.int jz8), .val (.int jz9), .val (.ref b1), .val (.ref b4), .val (.int (1 : Int32))] []))
              refine Go.st (fun t k => XS.iconst X84.here hx rfl (hb hby at_235) k) ?_
              show Go p e below _ (T84.setTop (mkF m 236 #[.val (.long i0), .second, .val (.int i1), .val (.int i2), .val (.int jz4), .val (.int jz5), .val (.int jz6), .val (.int jz7), .val (.int jz8), .val (.int jz9), .val (.ref b1), .val (.ref b4), .val (.int (1 : Int32))] [(.int (1 : Int32))]))
              refine Go.st (fun t k => XS.goto X84.here hx rfl (pc0 := 236) (pc' := 240) rfl (hb hby at_236) (by decide) (by decide) k) ?_
              show Go p e below _ (T84.setTop (mkF m 240 #[.val (.long i0), .second, .val (.int i1), .val (.int i2), .val (.int jz4), .val (.int jz5), .val (.int jz6), .val (.int jz7), .val (.int jz8), .val (.int jz9), .val (.ref b1), .val (.ref b4), .val (.int (1 : Int32))] [(.int (1 : Int32))]))
              obtain ⟨fs, hr, hrun, hended, hWd, hsame⟩ := X84.leave (v := some (.int (1 : Int32))) (fun h => by rw [Bd.returns] at h; cases h)
              refine ⟨_, _, ?_, hrun, hended, _, _, rfl, ?_, ⟨⟨_, rfl⟩, hWd, hsame.mono (by decide) (by decide)⟩⟩
              · exact retN X84 hx (t := .boolean) Bd.returns (by simp) (hb hby at_240) hr
              · exact ⟨rfl, N84⟩
            · refine Go.st (fun t k => XS.ifNo X81.here hx rfl (hb hby at_182) rfl (Jvm.Free.XT.i0_eq_f hc83) k) ?_
              show Go p e below _ (T81.setTop (mkF m 185 #[.val (.long i0), .second, .val (.int i1), .val (.int i2), .val (.int jz4), .val (.int jz5), .val (.int jz6), .val (.int jz7), .val (.int jz8), .val (.int jz9), .val (.ref b1), .val (.ref b4), .unset] []))
              refine Go.st (fun t k => XS.aload X81.here hx rfl (hb hby at_185) rfl rfl k) ?_
              show Go p e below _ (T81.setTop (mkF m 187 #[.val (.long i0), .second, .val (.int i1), .val (.int i2), .val (.int jz4), .val (.int jz5), .val (.int jz6), .val (.int jz7), .val (.int jz8), .val (.int jz9), .val (.ref b1), .val (.ref b4), .unset] [(.ref b4)]))
              obtain ⟨cq85, kq85, q85a, q85b, q85c⟩ := isOf hZ rfl (c80.keep K81c)
              obtain ⟨_, _, ⟨T85, L85, k85, n85⟩, -, X85, ⟨Lc85, hQ85, l85, y85, z85⟩, st85⟩ := X81.virtualBack hx (y := (⟨"com/example/outbound_courier/outboundcourier/http/RequestHead", "setExpectsContinue", "()V"⟩ : MethodName)) (z := (⟨"com/example/outbound_courier/outboundcourier/http/RequestHead", "setExpectsContinue", "()V"⟩ : MethodName)) hown (mvT hZ (w89 hw)) (mvT hZ (w90 hw)) (notFace_of_selects (args := #[]) (mvT hZ (w92 hw))) (mvT hZ (w92 hw)) (mvT hZ (w91 hw)) (by decide) (backOf (W := 0) (rm14_7 l Z a0 hw [] b4 b2_16 i0 b5 jz9 T81.heap n0 O81 (c80.keep K81c) r81_6 g_b4 r81_1 r81_2 r81_3 r81_4 r81_0 r81_5) hZ (w93 hw) (w3 hw) (by decide) (by decide)) q85a q85c (g := (mkF m 187 #[.val (.long i0), .second, .val (.int i1), .val (.int i2), .val (.int jz4), .val (.int jz5), .val (.int jz6), .val (.int jz7), .val (.int jz8), .val (.int jz9), .val (.ref b1), .val (.ref b4), .unset] [(.ref b4)])) rfl (by rw [hml]; rfl) (Steps.refl _) (argsL := []) (rest := []) (lenOf pd_5 rfl) rfl (by show 2 * 0 + _ ≤ _; exact Nat.le_of_eq rfl) (hb hby at_187) (fun vm₁ hw₁ => ⟨rfl, rfl, (by decide : 5 + 0 ≤ _), (by decide : 20 + 0 ≤ _)⟩)
              dsimp only [Pt.U, Pt.locs, Pt.cells, Pt.slots] at X85 l85 y85 z85 st85 hQ85
              subst l85 y85 z85
              obtain ⟨rfl, M85, K85c, r85_0, r85_1, r85_2, r85_3, r85_4, r85_5, r85_6⟩ := hQ85
              have N85 := Fr.app N81 M85
              have O85 : Old Z n0 T85.heap := O81.keep K85c (allS g_b4 all0)
              refine Go.tr st85 ?_
              show Go p e below _ (T85.setTop (mkF m 190 #[.val (.long i0), .second, .val (.int i1), .val (.int i2), .val (.int jz4), .val (.int jz5), .val (.int jz6), .val (.int jz7), .val (.int jz8), .val (.int jz9), .val (.ref b1), .val (.ref b4), .unset] []))
              refine Go.st (fun t k => XS.iload X85.here hx rfl (hb hby at_190) rfl k) ?_
              show Go p e below _ (T85.setTop (mkF m 192 #[.val (.long i0), .second, .val (.int i1), .val (.int i2), .val (.int jz4), .val (.int jz5), .val (.int jz6), .val (.int jz7), .val (.int jz8), .val (.int jz9), .val (.ref b1), .val (.ref b4), .unset] [(.int jz4)]))
              refine Go.st (fun t k => XS.ifNo X85.here hx rfl (hb hby at_192) rfl (Jvm.Free.XT.i0_eq_f hc17) k) ?_
              show Go p e below _ (T85.setTop (mkF m 195 #[.val (.long i0), .second, .val (.int i1), .val (.int i2), .val (.int jz4), .val (.int jz5), .val (.int jz6), .val (.int jz7), .val (.int jz8), .val (.int jz9), .val (.ref b1), .val (.ref b4), .unset] []))
              refine Go.st (fun t k => XS.iconst X85.here hx rfl (hb hby at_195) k) ?_
              show Go p e below _ (T85.setTop (mkF m 196 #[.val (.long i0), .second, .val (.int i1), .val (.int i2), .val (.int jz4), .val (.int jz5), .val (.int jz6), .val (.int jz7), .val (.int jz8), .val (.int jz9), .val (.ref b1), .val (.ref b4), .unset] [(.int (1 : Int32))]))
              refine Go.st (fun t k => XS.istore X85.here hx rfl (hb hby at_196) rfl (l' := #[.val (.long i0), .second, .val (.int i1), .val (.int i2), .val (.int jz4), .val (.int jz5), .val (.int jz6), .val (.int jz7), .val (.int jz8), .val (.int jz9), .val (.ref b1), .val (.ref b4), .val (.int (1 : Int32))]) rfl k) ?_
              show Go p e below _ (T85.setTop (mkF m 198 #[.val (.long i0), .second, .val (.int i1), .val (.int i2), .val (.int jz4), .val (.int jz5), .val (.int jz6), .val (.int jz7), .val (.int jz8), .val (.int jz9), .val (.ref b1), .val (.ref b4), .val (.int (1 : Int32))] []))
              refine Go.st (fun t k => XS.goto X85.here hx rfl (pc0 := 198) (pc' := 225) rfl (hb hby at_198) (by decide) (by decide) k) ?_
              show Go p e below _ (T85.setTop (mkF m 225 #[.val (.long i0), .second, .val (.int i1), .val (.int i2), .val (.int jz4), .val (.int jz5), .val (.int jz6), .val (.int jz7), .val (.int jz8), .val (.int jz9), .val (.ref b1), .val (.ref b4), .val (.int (1 : Int32))] []))
              refine Go.st (fun t k => XS.aload X85.here hx rfl (hb hby at_225) rfl rfl k) ?_
              show Go p e below _ (T85.setTop (mkF m 227 #[.val (.long i0), .second, .val (.int i1), .val (.int i2), .val (.int jz4), .val (.int jz5), .val (.int jz6), .val (.int jz7), .val (.int jz8), .val (.int jz9), .val (.ref b1), .val (.ref b4), .val (.int (1 : Int32))] [(.ref b4)]))
              obtain ⟨cq86, kq86, q86a, q86b, q86c⟩ := isOf hZ rfl ((c80.keep K81c).keep K85c)
              obtain ⟨_, _, ⟨T86, L86, k86, n86⟩, -, X86, ⟨Lc86, hQ86, l86, y86, z86⟩, st86⟩ := X85.virtualBack hx (y := (⟨"com/example/outbound_courier/outboundcourier/http/RequestHead", "hasBody", "()Z"⟩ : MethodName)) (z := (⟨"com/example/outbound_courier/outboundcourier/http/RequestHead", "hasBody", "()Z"⟩ : MethodName)) hown (mvT hZ (w75 hw)) (mvT hZ (w76 hw)) (notFace_of_selects (args := #[]) (mvT hZ (w78 hw))) (mvT hZ (w78 hw)) (mvT hZ (w77 hw)) (by decide) (backOf (W := 0) (rm12_4 l Z a0 hw [] b4 T85.heap n0 O85 r85_5) hZ (w79 hw) (w3 hw) (by decide) (by decide)) q86a q86c (g := (mkF m 227 #[.val (.long i0), .second, .val (.int i1), .val (.int i2), .val (.int jz4), .val (.int jz5), .val (.int jz6), .val (.int jz7), .val (.int jz8), .val (.int jz9), .val (.ref b1), .val (.ref b4), .val (.int (1 : Int32))] [(.ref b4)])) rfl (by rw [hml]; rfl) (Steps.refl _) (argsL := []) (rest := []) (lenOf pd_7 rfl) rfl (by show 2 * 0 + _ ≤ _; exact Nat.le_of_eq rfl) (hb hby at_227) (fun vm₁ hw₁ => ⟨rfl, rfl, (by decide : 5 + 0 ≤ _), (by decide : 20 + 0 ≤ _)⟩)
              dsimp only [Pt.U, Pt.locs, Pt.cells, Pt.slots] at X86 l86 y86 z86 st86 hQ86
              subst l86 y86 z86
              obtain ⟨rfl, M86, eh86⟩ := hQ86
              have N86 := Fr.app N85 M86
              refine Go.tr st86 ?_
              show Go p e below _ (T86.setTop (mkF m 230 #[.val (.long i0), .second, .val (.int i1), .val (.int i2), .val (.int jz4), .val (.int jz5), .val (.int jz6), .val (.int jz7), .val (.int jz8), .val (.int jz9), .val (.ref b1), .val (.ref b4), .val (.int (1 : Int32))] [(.int (1 : Int32))]))
              refine Go.st (fun t k => XS.iload X86.here hx rfl (hb hby at_230) rfl k) ?_
              show Go p e below _ (T86.setTop (mkF m 232 #[.val (.long i0), .second, .val (.int i1), .val (.int i2), .val (.int jz4), .val (.int jz5), .val (.int jz6), .val (.int jz7), .val (.int jz8), .val (.int jz9), .val (.ref b1), .val (.ref b4), .val (.int (1 : Int32))] [(.int (1 : Int32)), (.int (1 : Int32))]))
              refine Go.st (fun t k => XS.icmpNo X86.here hx rfl (hb hby at_232) rfl (Jvm.Free.XT.ii_ne_f (by decide : (1 : Int32) = (1 : Int32))) k) ?_
              show Go p e below _ (T86.setTop (mkF m 235 #[.val (.long i0), .second, .val (.int i1), .val (.int i2), .val (.int jz4), .val (.int jz5), .val (.int jz6), .val (.int jz7), .val (.int jz8), .val (.int jz9), .val (.ref b1), .val (.ref b4), .val (.int (1 : Int32))] []))
              refine Go.st (fun t k => XS.iconst X86.here hx rfl (hb hby at_235) k) ?_
              show Go p e below _ (T86.setTop (mkF m 236 #[.val (.long i0), .second, .val (.int i1), .val (.int i2), .val (.int jz4), .val (.int jz5), .val (.int jz6), .val (.int jz7), .val (.int jz8), .val (.int jz9), .val (.ref b1), .val (.ref b4), .val (.int (1 : Int32))] [(.int (1 : Int32))]))
              refine Go.st (fun t k => XS.goto X86.here hx rfl (pc0 := 236) (pc' := 240) rfl (hb hby at_236) (by decide) (by decide) k) ?_
              show Go p e below _ (T86.setTop (mkF m 240 #[.val (.long i0), .second, .val (.int i1), .val (.int i2), .val (.int jz4), .val (.int jz5), .val (.int jz6), .val (.int jz7), .val (.int jz8), .val (.int jz9), .val (.ref b1), .val (.ref b4), .val (.int (1 : Int32))] [(.int (1 : Int32))]))
              obtain ⟨fs, hr, hrun, hended, hWd, hsame⟩ := X86.leave (v := some (.int (1 : Int32))) (fun h => by rw [Bd.returns] at h; cases h)
              refine ⟨_, _, ?_, hrun, hended, _, _, rfl, ?_, ⟨⟨_, rfl⟩, hWd, hsame.mono (by decide) (by decide)⟩⟩
              · exact retN X86 hx (t := .boolean) Bd.returns (by simp) (hb hby at_240) hr
              · exact ⟨rfl, N86⟩
          · refine Go.st (fun t k => XS.ifNo X81.here hx rfl (hb hby at_172) rfl (Jvm.Free.XT.i0_eq_f hc82) k) ?_
            show Go p e below _ (T81.setTop (mkF m 175 #[.val (.long i0), .second, .val (.int i1), .val (.int i2), .val (.int jz4), .val (.int jz5), .val (.int jz6), .val (.int jz7), .val (.int jz8), .val (.int jz9), .val (.ref b1), .val (.ref b4), .unset] []))
            refine Go.st (fun t k => XS.aload X81.here hx rfl (hb hby at_175) rfl rfl k) ?_
            show Go p e below _ (T81.setTop (mkF m 177 #[.val (.long i0), .second, .val (.int i1), .val (.int i2), .val (.int jz4), .val (.int jz5), .val (.int jz6), .val (.int jz7), .val (.int jz8), .val (.int jz9), .val (.ref b1), .val (.ref b4), .unset] [(.ref b4)]))
            obtain ⟨cq87, kq87, q87a, q87b, q87c⟩ := isOf hZ rfl (c80.keep K81c)
            obtain ⟨_, _, ⟨T87, L87, k87, n87⟩, -, X87, ⟨Lc87, hQ87, l87, y87, z87⟩, st87⟩ := X81.virtualBack hx (y := (⟨"com/example/outbound_courier/outboundcourier/http/RequestHead", "setClose", "()V"⟩ : MethodName)) (z := (⟨"com/example/outbound_courier/outboundcourier/http/RequestHead", "setClose", "()V"⟩ : MethodName)) hown (mvT hZ (w82 hw)) (mvT hZ (w83 hw)) (notFace_of_selects (args := #[]) (mvT hZ (w85 hw))) (mvT hZ (w85 hw)) (mvT hZ (w84 hw)) (by decide) (backOf (W := 0) (rm13_4 l Z a0 hw [] b4 b2_16 i0 b5 jz9 T81.heap n0 O81 (c80.keep K81c) r81_5 g_b4 r81_1 r81_2 r81_3 r81_4 r81_0 r81_6) hZ (w86 hw) (w3 hw) (by decide) (by decide)) q87a q87c (g := (mkF m 177 #[.val (.long i0), .second, .val (.int i1), .val (.int i2), .val (.int jz4), .val (.int jz5), .val (.int jz6), .val (.int jz7), .val (.int jz8), .val (.int jz9), .val (.ref b1), .val (.ref b4), .unset] [(.ref b4)])) rfl (by rw [hml]; rfl) (Steps.refl _) (argsL := []) (rest := []) (lenOf pd_5 rfl) rfl (by show 2 * 0 + _ ≤ _; exact Nat.le_of_eq rfl) (hb hby at_177) (fun vm₁ hw₁ => ⟨rfl, rfl, (by decide : 5 + 0 ≤ _), (by decide : 20 + 0 ≤ _)⟩)
            dsimp only [Pt.U, Pt.locs, Pt.cells, Pt.slots] at X87 l87 y87 z87 st87 hQ87
            subst l87 y87 z87
            obtain ⟨rfl, M87, K87c, r87_0, r87_1, r87_2, r87_3, r87_4, r87_5, r87_6⟩ := hQ87
            have N87 := Fr.app N81 M87
            have O87 : Old Z n0 T87.heap := O81.keep K87c (allS g_b4 all0)
            refine Go.tr st87 ?_
            show Go p e below _ (T87.setTop (mkF m 180 #[.val (.long i0), .second, .val (.int i1), .val (.int i2), .val (.int jz4), .val (.int jz5), .val (.int jz6), .val (.int jz7), .val (.int jz8), .val (.int jz9), .val (.ref b1), .val (.ref b4), .unset] []))
            refine Go.st (fun t k => XS.iload X87.here hx rfl (hb hby at_180) rfl k) ?_
            show Go p e below _ (T87.setTop (mkF m 182 #[.val (.long i0), .second, .val (.int i1), .val (.int i2), .val (.int jz4), .val (.int jz5), .val (.int jz6), .val (.int jz7), .val (.int jz8), .val (.int jz9), .val (.ref b1), .val (.ref b4), .unset] [(.int jz8)]))
            by_cases hc88 : jz8 = (0 : Int32)
            · refine Go.st (fun t k => XS.ifYes X87.here hx rfl (pc0 := 182) (pc' := 190) rfl (hb hby at_182) rfl (Jvm.Free.XT.i0_eq_t hc88) (by decide) (by decide) k) ?_
              show Go p e below _ (T87.setTop (mkF m 190 #[.val (.long i0), .second, .val (.int i1), .val (.int i2), .val (.int jz4), .val (.int jz5), .val (.int jz6), .val (.int jz7), .val (.int jz8), .val (.int jz9), .val (.ref b1), .val (.ref b4), .unset] []))
              refine Go.st (fun t k => XS.iload X87.here hx rfl (hb hby at_190) rfl k) ?_
              show Go p e below _ (T87.setTop (mkF m 192 #[.val (.long i0), .second, .val (.int i1), .val (.int i2), .val (.int jz4), .val (.int jz5), .val (.int jz6), .val (.int jz7), .val (.int jz8), .val (.int jz9), .val (.ref b1), .val (.ref b4), .unset] [(.int jz4)]))
              refine Go.st (fun t k => XS.ifNo X87.here hx rfl (hb hby at_192) rfl (Jvm.Free.XT.i0_eq_f hc17) k) ?_
              show Go p e below _ (T87.setTop (mkF m 195 #[.val (.long i0), .second, .val (.int i1), .val (.int i2), .val (.int jz4), .val (.int jz5), .val (.int jz6), .val (.int jz7), .val (.int jz8), .val (.int jz9), .val (.ref b1), .val (.ref b4), .unset] []))
              refine Go.st (fun t k => XS.iconst X87.here hx rfl (hb hby at_195) k) ?_
              show Go p e below _ (T87.setTop (mkF m 196 #[.val (.long i0), .second, .val (.int i1), .val (.int i2), .val (.int jz4), .val (.int jz5), .val (.int jz6), .val (.int jz7), .val (.int jz8), .val (.int jz9), .val (.ref b1), .val (.ref b4), .unset] [(.int (1 : Int32))]))
              refine Go.st (fun t k => XS.istore X87.here hx rfl (hb hby at_196) rfl (l' := #[.val (.long i0), .second, .val (.int i1), .val (.int i2), .val (.int jz4), .val (.int jz5), .val (.int jz6), .val (.int jz7), .val (.int jz8), .val (.int jz9), .val (.ref b1), .val (.ref b4), .val (.int (1 : Int32))]) rfl k) ?_
              show Go p e below _ (T87.setTop (mkF m 198 #[.val (.long i0), .second, .val (.int i1), .val (.int i2), .val (.int jz4), .val (.int jz5), .val (.int jz6), .val (.int jz7), .val (.int jz8), .val (.int jz9), .val (.ref b1), .val (.ref b4), .val (.int (1 : Int32))] []))
              refine Go.st (fun t k => XS.goto X87.here hx rfl (pc0 := 198) (pc' := 225) rfl (hb hby at_198) (by decide) (by decide) k) ?_
              show Go p e below _ (T87.setTop (mkF m 225 #[.val (.long i0), .second, .val (.int i1), .val (.int i2), .val (.int jz4), .val (.int jz5), .val (.int jz6), .val (.int jz7), .val (.int jz8), .val (.int jz9), .val (.ref b1), .val (.ref b4), .val (.int (1 : Int32))] []))
              refine Go.st (fun t k => XS.aload X87.here hx rfl (hb hby at_225) rfl rfl k) ?_
              show Go p e below _ (T87.setTop (mkF m 227 #[.val (.long i0), .second, .val (.int i1), .val (.int i2), .val (.int jz4), .val (.int jz5), .val (.int jz6), .val (.int jz7), .val (.int jz8), .val (.int jz9), .val (.ref b1), .val (.ref b4), .val (.int (1 : Int32))] [(.ref b4)]))
              obtain ⟨cq89, kq89, q89a, q89b, q89c⟩ := isOf hZ rfl ((c80.keep K81c).keep K87c)
              obtain ⟨_, _, ⟨T89, L89, k89, n89⟩, -, X89, ⟨Lc89, hQ89, l89, y89, z89⟩, st89⟩ := X87.virtualBack hx (y := (⟨"com/example/outbound_courier/outboundcourier/http/RequestHead", "hasBody", "()Z"⟩ : MethodName)) (z := (⟨"com/example/outbound_courier/outboundcourier/http/RequestHead", "hasBody", "()Z"⟩ : MethodName)) hown (mvT hZ (w75 hw)) (mvT hZ (w76 hw)) (notFace_of_selects (args := #[]) (mvT hZ (w78 hw))) (mvT hZ (w78 hw)) (mvT hZ (w77 hw)) (by decide) (backOf (W := 0) (rm12_4 l Z a0 hw [] b4 T87.heap n0 O87 r87_5) hZ (w79 hw) (w3 hw) (by decide) (by decide)) q89a q89c (g := (mkF m 227 #[.val (.long i0), .second, .val (.int i1), .val (.int i2), .val (.int jz4), .val (.int jz5), .val (.int jz6), .val (.int jz7), .val (.int jz8), .val (.int jz9), .val (.ref b1), .val (.ref b4), .val (.int (1 : Int32))] [(.ref b4)])) rfl (by rw [hml]; rfl) (Steps.refl _) (argsL := []) (rest := []) (lenOf pd_7 rfl) rfl (by show 2 * 0 + _ ≤ _; exact Nat.le_of_eq rfl) (hb hby at_227) (fun vm₁ hw₁ => ⟨rfl, rfl, (by decide : 5 + 0 ≤ _), (by decide : 20 + 0 ≤ _)⟩)
              dsimp only [Pt.U, Pt.locs, Pt.cells, Pt.slots] at X89 l89 y89 z89 st89 hQ89
              subst l89 y89 z89
              obtain ⟨rfl, M89, eh89⟩ := hQ89
              have N89 := Fr.app N87 M89
              refine Go.tr st89 ?_
              show Go p e below _ (T89.setTop (mkF m 230 #[.val (.long i0), .second, .val (.int i1), .val (.int i2), .val (.int jz4), .val (.int jz5), .val (.int jz6), .val (.int jz7), .val (.int jz8), .val (.int jz9), .val (.ref b1), .val (.ref b4), .val (.int (1 : Int32))] [(.int (1 : Int32))]))
              refine Go.st (fun t k => XS.iload X89.here hx rfl (hb hby at_230) rfl k) ?_
              show Go p e below _ (T89.setTop (mkF m 232 #[.val (.long i0), .second, .val (.int i1), .val (.int i2), .val (.int jz4), .val (.int jz5), .val (.int jz6), .val (.int jz7), .val (.int jz8), .val (.int jz9), .val (.ref b1), .val (.ref b4), .val (.int (1 : Int32))] [(.int (1 : Int32)), (.int (1 : Int32))]))
              refine Go.st (fun t k => XS.icmpNo X89.here hx rfl (hb hby at_232) rfl (Jvm.Free.XT.ii_ne_f (by decide : (1 : Int32) = (1 : Int32))) k) ?_
              show Go p e below _ (T89.setTop (mkF m 235 #[.val (.long i0), .second, .val (.int i1), .val (.int i2), .val (.int jz4), .val (.int jz5), .val (.int jz6), .val (.int jz7), .val (.int jz8), .val (.int jz9), .val (.ref b1), .val (.ref b4), .val (.int (1 : Int32))] []))
              refine Go.st (fun t k => XS.iconst X89.here hx rfl (hb hby at_235) k) ?_
              show Go p e below _ (T89.setTop (mkF m 236 #[.val (.long i0), .second, .val (.int i1), .val (.int i2), .val (.int jz4), .val (.int jz5), .val (.int jz6), .val (.int jz7), .val (.int jz8), .val (.int jz9), .val (.ref b1), .val (.ref b4), .val (.int (1 : Int32))] [(.int (1 : Int32))]))
              refine Go.st (fun t k => XS.goto X89.here hx rfl (pc0 := 236) (pc' := 240) rfl (hb hby at_236) (by decide) (by decide) k) ?_
              show Go p e below _ (T89.setTop (mkF m 240 #[.val (.long i0), .second, .val (.int i1), .val (.int i2), .val (.int jz4), .val (.int jz5), .val (.int jz6), .val (.int jz7), .val (.int jz8), .val (.int jz9), .val (.ref b1), .val (.ref b4), .val (.int (1 : Int32))] [(.int (1 : Int32))]))
              obtain ⟨fs, hr, hrun, hended, hWd, hsame⟩ := X89.leave (v := some (.int (1 : Int32))) (fun h => by rw [Bd.returns] at h; cases h)
              refine ⟨_, _, ?_, hrun, hended, _, _, rfl, ?_, ⟨⟨_, rfl⟩, hWd, hsame.mono (by decide) (by decide)⟩⟩
              · exact retN X89 hx (t := .boolean) Bd.returns (by simp) (hb hby at_240) hr
              · exact ⟨rfl, N89⟩
            · refine Go.st (fun t k => XS.ifNo X87.here hx rfl (hb hby at_182) rfl (Jvm.Free.XT.i0_eq_f hc88) k) ?_
              show Go p e below _ (T87.setTop (mkF m 185 #[.val (.long i0), .second, .val (.int i1), .val (.int i2), .val (.int jz4), .val (.int jz5), .val (.int jz6), .val (.int jz7), .val (.int jz8), .val (.int jz9), .val (.ref b1), .val (.ref b4), .unset] []))
              refine Go.st (fun t k => XS.aload X87.here hx rfl (hb hby at_185) rfl rfl k) ?_
              show Go p e below _ (T87.setTop (mkF m 187 #[.val (.long i0), .second, .val (.int i1), .val (.int i2), .val (.int jz4), .val (.int jz5), .val (.int jz6), .val (.int jz7), .val (.int jz8), .val (.int jz9), .val (.ref b1), .val (.ref b4), .unset] [(.ref b4)]))
              obtain ⟨cq90, kq90, q90a, q90b, q90c⟩ := isOf hZ rfl ((c80.keep K81c).keep K87c)
              obtain ⟨_, _, ⟨T90, L90, k90, n90⟩, -, X90, ⟨Lc90, hQ90, l90, y90, z90⟩, st90⟩ := X87.virtualBack hx (y := (⟨"com/example/outbound_courier/outboundcourier/http/RequestHead", "setExpectsContinue", "()V"⟩ : MethodName)) (z := (⟨"com/example/outbound_courier/outboundcourier/http/RequestHead", "setExpectsContinue", "()V"⟩ : MethodName)) hown (mvT hZ (w89 hw)) (mvT hZ (w90 hw)) (notFace_of_selects (args := #[]) (mvT hZ (w92 hw))) (mvT hZ (w92 hw)) (mvT hZ (w91 hw)) (by decide) (backOf (W := 0) (rm14_8 l Z a0 hw [] b4 b2_16 i0 b5 jz9 T87.heap n0 O87 ((c80.keep K81c).keep K87c) r87_6 g_b4 r87_1 r87_2 r87_3 r87_4 r87_5 r87_0) hZ (w93 hw) (w3 hw) (by decide) (by decide)) q90a q90c (g := (mkF m 187 #[.val (.long i0), .second, .val (.int i1), .val (.int i2), .val (.int jz4), .val (.int jz5), .val (.int jz6), .val (.int jz7), .val (.int jz8), .val (.int jz9), .val (.ref b1), .val (.ref b4), .unset] [(.ref b4)])) rfl (by rw [hml]; rfl) (Steps.refl _) (argsL := []) (rest := []) (lenOf pd_5 rfl) rfl (by show 2 * 0 + _ ≤ _; exact Nat.le_of_eq rfl) (hb hby at_187) (fun vm₁ hw₁ => ⟨rfl, rfl, (by decide : 5 + 0 ≤ _), (by decide : 20 + 0 ≤ _)⟩)
              dsimp only [Pt.U, Pt.locs, Pt.cells, Pt.slots] at X90 l90 y90 z90 st90 hQ90
              subst l90 y90 z90
              obtain ⟨rfl, M90, K90c, r90_0, r90_1, r90_2, r90_3, r90_4, r90_5, r90_6⟩ := hQ90
              have N90 := Fr.app N87 M90
              have O90 : Old Z n0 T90.heap := O87.keep K90c (allS g_b4 all0)
              refine Go.tr st90 ?_
              show Go p e below _ (T90.setTop (mkF m 190 #[.val (.long i0), .second, .val (.int i1), .val (.int i2), .val (.int jz4), .val (.int jz5), .val (.int jz6), .val (.int jz7), .val (.int jz8), .val (.int jz9), .val (.ref b1), .val (.ref b4), .unset] []))
              refine Go.st (fun t k => XS.iload X90.here hx rfl (hb hby at_190) rfl k) ?_
              show Go p e below _ (T90.setTop (mkF m 192 #[.val (.long i0), .second, .val (.int i1), .val (.int i2), .val (.int jz4), .val (.int jz5), .val (.int jz6), .val (.int jz7), .val (.int jz8), .val (.int jz9), .val (.ref b1), .val (.ref b4), .unset] [(.int jz4)]))
              refine Go.st (fun t k => XS.ifNo X90.here hx rfl (hb hby at_192) rfl (Jvm.Free.XT.i0_eq_f hc17) k) ?_
              show Go p e below _ (T90.setTop (mkF m 195 #[.val (.long i0), .second, .val (.int i1), .val (.int i2), .val (.int jz4), .val (.int jz5), .val (.int jz6), .val (.int jz7), .val (.int jz8), .val (.int jz9), .val (.ref b1), .val (.ref b4), .unset] []))
              refine Go.st (fun t k => XS.iconst X90.here hx rfl (hb hby at_195) k) ?_
              show Go p e below _ (T90.setTop (mkF m 196 #[.val (.long i0), .second, .val (.int i1), .val (.int i2), .val (.int jz4), .val (.int jz5), .val (.int jz6), .val (.int jz7), .val (.int jz8), .val (.int jz9), .val (.ref b1), .val (.ref b4), .unset] [(.int (1 : Int32))]))
              refine Go.st (fun t k => XS.istore X90.here hx rfl (hb hby at_196) rfl (l' := #[.val (.long i0), .second, .val (.int i1), .val (.int i2), .val (.int jz4), .val (.int jz5), .val (.int jz6), .val (.int jz7), .val (.int jz8), .val (.int jz9), .val (.ref b1), .val (.ref b4), .val (.int (1 : Int32))]) rfl k) ?_
              show Go p e below _ (T90.setTop (mkF m 198 #[.val (.long i0), .second, .val (.int i1), .val (.int i2), .val (.int jz4), .val (.int jz5), .val (.int jz6), .val (.int jz7), .val (.int jz8), .val (.int jz9), .val (.ref b1), .val (.ref b4), .val (.int (1 : Int32))] []))
              refine Go.st (fun t k => XS.goto X90.here hx rfl (pc0 := 198) (pc' := 225) rfl (hb hby at_198) (by decide) (by decide) k) ?_
              show Go p e below _ (T90.setTop (mkF m 225 #[.val (.long i0), .second, .val (.int i1), .val (.int i2), .val (.int jz4), .val (.int jz5), .val (.int jz6), .val (.int jz7), .val (.int jz8), .val (.int jz9), .val (.ref b1), .val (.ref b4), .val (.int (1 : Int32))] []))
              refine Go.st (fun t k => XS.aload X90.here hx rfl (hb hby at_225) rfl rfl k) ?_
              show Go p e below _ (T90.setTop (mkF m 227 #[.val (.long i0), .second, .val (.int i1), .val (.int i2), .val (.int jz4), .val (.int jz5), .val (.int jz6), .val (.int jz7), .val (.int jz8), .val (.int jz9), .val (.ref b1), .val (.ref b4), .val (.int (1 : Int32))] [(.ref b4)]))
              obtain ⟨cq91, kq91, q91a, q91b, q91c⟩ := isOf hZ rfl (((c80.keep K81c).keep K87c).keep K90c)
              obtain ⟨_, _, ⟨T91, L91, k91, n91⟩, -, X91, ⟨Lc91, hQ91, l91, y91, z91⟩, st91⟩ := X90.virtualBack hx (y := (⟨"com/example/outbound_courier/outboundcourier/http/RequestHead", "hasBody", "()Z"⟩ : MethodName)) (z := (⟨"com/example/outbound_courier/outboundcourier/http/RequestHead", "hasBody", "()Z"⟩ : MethodName)) hown (mvT hZ (w75 hw)) (mvT hZ (w76 hw)) (notFace_of_selects (args := #[]) (mvT hZ (w78 hw))) (mvT hZ (w78 hw)) (mvT hZ (w77 hw)) (by decide) (backOf (W := 0) (rm12_4 l Z a0 hw [] b4 T90.heap n0 O90 r90_5) hZ (w79 hw) (w3 hw) (by decide) (by decide)) q91a q91c (g := (mkF m 227 #[.val (.long i0), .second, .val (.int i1), .val (.int i2), .val (.int jz4), .val (.int jz5), .val (.int jz6), .val (.int jz7), .val (.int jz8), .val (.int jz9), .val (.ref b1), .val (.ref b4), .val (.int (1 : Int32))] [(.ref b4)])) rfl (by rw [hml]; rfl) (Steps.refl _) (argsL := []) (rest := []) (lenOf pd_7 rfl) rfl (by show 2 * 0 + _ ≤ _; exact Nat.le_of_eq rfl) (hb hby at_227) (fun vm₁ hw₁ => ⟨rfl, rfl, (by decide : 5 + 0 ≤ _), (by decide : 20 + 0 ≤ _)⟩)
              dsimp only [Pt.U, Pt.locs, Pt.cells, Pt.slots] at X91 l91 y91 z91 st91 hQ91
              subst l91 y91 z91
              obtain ⟨rfl, M91, eh91⟩ := hQ91
              have N91 := Fr.app N90 M91
              refine Go.tr st91 ?_
              show Go p e below _ (T91.setTop (mkF m 230 #[.val (.long i0), .second, .val (.int i1), .val (.int i2), .val (.int jz4), .val (.int jz5), .val (.int jz6), .val (.int jz7), .val (.int jz8), .val (.int jz9), .val (.ref b1), .val (.ref b4), .val (.int (1 : Int32))] [(.int (1 : Int32))]))
              refine Go.st (fun t k => XS.iload X91.here hx rfl (hb hby at_230) rfl k) ?_
              show Go p e below _ (T91.setTop (mkF m 232 #[.val (.long i0), .second, .val (.int i1), .val (.int i2), .val (.int jz4), .val (.int jz5), .val (.int jz6), .val (.int jz7), .val (.int jz8), .val (.int jz9), .val (.ref b1), .val (.ref b4), .val (.int (1 : Int32))] [(.int (1 : Int32)), (.int (1 : Int32))]))
              refine Go.st (fun t k => XS.icmpNo X91.here hx rfl (hb hby at_232) rfl (Jvm.Free.XT.ii_ne_f (by decide : (1 : Int32) = (1 : Int32))) k) ?_
              show Go p e below _ (T91.setTop (mkF m 235 #[.val (.long i0), .second, .val (.int i1), .val (.int i2), .val (.int jz4), .val (.int jz5), .val (.int jz6), .val (.int jz7), .val (.int jz8), .val (.int jz9), .val (.ref b1), .val (.ref b4), .val (.int (1 : Int32))] []))
              refine Go.st (fun t k => XS.iconst X91.here hx rfl (hb hby at_235) k) ?_
              show Go p e below _ (T91.setTop (mkF m 236 #[.val (.long i0), .second, .val (.int i1), .val (.int i2), .val (.int jz4), .val (.int jz5), .val (.int jz6), .val (.int jz7), .val (.int jz8), .val (.int jz9), .val (.ref b1), .val (.ref b4), .val (.int (1 : Int32))] [(.int (1 : Int32))]))
              refine Go.st (fun t k => XS.goto X91.here hx rfl (pc0 := 236) (pc' := 240) rfl (hb hby at_236) (by decide) (by decide) k) ?_
              show Go p e below _ (T91.setTop (mkF m 240 #[.val (.long i0), .second, .val (.int i1), .val (.int i2), .val (.int jz4), .val (.int jz5), .val (.int jz6), .val (.int jz7), .val (.int jz8), .val (.int jz9), .val (.ref b1), .val (.ref b4), .val (.int (1 : Int32))] [(.int (1 : Int32))]))
              obtain ⟨fs, hr, hrun, hended, hWd, hsame⟩ := X91.leave (v := some (.int (1 : Int32))) (fun h => by rw [Bd.returns] at h; cases h)
              refine ⟨_, _, ?_, hrun, hended, _, _, rfl, ?_, ⟨⟨_, rfl⟩, hWd, hsame.mono (by decide) (by decide)⟩⟩
              · exact retN X91 hx (t := .boolean) Bd.returns (by simp) (hb hby at_240) hr
              · exact ⟨rfl, N91⟩
      · refine Go.st (fun t k => XS.ifNo X16.here hx rfl (hb hby at_136) rfl (Jvm.Free.XT.i0_eq_f hc63) k) ?_
        show Go p e below _ (T16.setTop (mkF m 139 #[.val (.long i0), .second, .val (.int i1), .val (.int i2), .val (.int jz4), .val (.int jz5), .val (.int jz6), .val (.int jz7), .val (.int jz8), .val (.int jz9), .val (.ref b1), .val (.ref b4), .unset] []))
        refine Go.st (fun t k => XS.aload X16.here hx rfl (hb hby at_139) rfl rfl k) ?_
        show Go p e below _ (T16.setTop (mkF m 141 #[.val (.long i0), .second, .val (.int i1), .val (.int i2), .val (.int jz4), .val (.int jz5), .val (.int jz6), .val (.int jz7), .val (.int jz8), .val (.int jz9), .val (.ref b1), .val (.ref b4), .unset] [(.ref b4)]))
        obtain ⟨cq92, kq92, q92a, q92b, q92c⟩ := isOf hZ rfl (((A4.ext E5).keep K8c).keep K16c)
        obtain ⟨_, _, ⟨T92, L92, k92, n92⟩, -, X92, ⟨Lc92, hQ92, l92, y92, z92⟩, st92⟩ := X16.virtualBack hx (y := (⟨"com/example/outbound_courier/outboundcourier/http/RequestHead", "setChunked", "()V"⟩ : MethodName)) (z := (⟨"com/example/outbound_courier/outboundcourier/http/RequestHead", "setChunked", "()V"⟩ : MethodName)) hown (mvT hZ (w96 hw)) (mvT hZ (w97 hw)) (notFace_of_selects (args := #[]) (mvT hZ (w99 hw))) (mvT hZ (w99 hw)) (mvT hZ (w98 hw)) (by decide) (backOf (W := 0) (rm15_1 l Z a0 hw [] b4 b2_16 b5 jz9 T16.heap n0 O16 (((A4.ext E5).keep K8c).keep K16c) r16_5 g_b4 r16_1 r16_2 r16_3 r16_4 r16_6 r16_7) hZ (w100 hw) (w3 hw) (by decide) (by decide)) q92a q92c (g := (mkF m 141 #[.val (.long i0), .second, .val (.int i1), .val (.int i2), .val (.int jz4), .val (.int jz5), .val (.int jz6), .val (.int jz7), .val (.int jz8), .val (.int jz9), .val (.ref b1), .val (.ref b4), .unset] [(.ref b4)])) rfl (by rw [hml]; rfl) (Steps.refl _) (argsL := []) (rest := []) (lenOf pd_5 rfl) rfl (by show 2 * 0 + _ ≤ _; exact Nat.le_of_eq rfl) (hb hby at_141) (fun vm₁ hw₁ => ⟨rfl, rfl, (by decide : 5 + 0 ≤ _), (by decide : 20 + 0 ≤ _)⟩)
        dsimp only [Pt.U, Pt.locs, Pt.cells, Pt.slots] at X92 l92 y92 z92 st92 hQ92
        subst l92 y92 z92
        obtain ⟨rfl, M92, K92c, r92_0, r92_1, r92_2, r92_3, r92_4, r92_5, r92_6⟩ := hQ92
        have N92 := Fr.app N16 M92
        have O92 : Old Z n0 T92.heap := O16.keep K92c (allS g_b4 all0)
        refine Go.tr st92 ?_
        show Go p e below _ (T92.setTop (mkF m 144 #[.val (.long i0), .second, .val (.int i1), .val (.int i2), .val (.int jz4), .val (.int jz5), .val (.int jz6), .val (.int jz7), .val (.int jz8), .val (.int jz9), .val (.ref b1), .val (.ref b4), .unset] []))
        refine Go.st (fun t k => XS.iload X92.here hx rfl (hb hby at_144) rfl k) ?_
        show Go p e below _ (T92.setTop (mkF m 146 #[.val (.long i0), .second, .val (.int i1), .val (.int i2), .val (.int jz4), .val (.int jz5), .val (.int jz6), .val (.int jz7), .val (.int jz8), .val (.int jz9), .val (.ref b1), .val (.ref b4), .unset] [(.int jz5)]))
        by_cases hc93 : jz5 = (0 : Int32)
        · refine Go.st (fun t k => XS.ifYes X92.here hx rfl (pc0 := 146) (pc' := 155) rfl (hb hby at_146) rfl (Jvm.Free.XT.i0_eq_t hc93) (by decide) (by decide) k) ?_
          show Go p e below _ (T92.setTop (mkF m 155 #[.val (.long i0), .second, .val (.int i1), .val (.int i2), .val (.int jz4), .val (.int jz5), .val (.int jz6), .val (.int jz7), .val (.int jz8), .val (.int jz9), .val (.ref b1), .val (.ref b4), .unset] []))
          refine Go.st (fun t k => XS.iload X92.here hx rfl (hb hby at_155) rfl k) ?_
          show Go p e below _ (T92.setTop (mkF m 157 #[.val (.long i0), .second, .val (.int i1), .val (.int i2), .val (.int jz4), .val (.int jz5), .val (.int jz6), .val (.int jz7), .val (.int jz8), .val (.int jz9), .val (.ref b1), .val (.ref b4), .unset] [(.int jz4)]))
          refine Go.st (fun t k => XS.ifNo X92.here hx rfl (hb hby at_157) rfl (Jvm.Free.XT.i0_eq_f hc17) k) ?_
          show Go p e below _ (T92.setTop (mkF m 160 #[.val (.long i0), .second, .val (.int i1), .val (.int i2), .val (.int jz4), .val (.int jz5), .val (.int jz6), .val (.int jz7), .val (.int jz8), .val (.int jz9), .val (.ref b1), .val (.ref b4), .unset] []))
          refine Go.st (fun t k => XS.iload X92.here hx rfl (hb hby at_160) rfl k) ?_
          show Go p e below _ (T92.setTop (mkF m 162 #[.val (.long i0), .second, .val (.int i1), .val (.int i2), .val (.int jz4), .val (.int jz5), .val (.int jz6), .val (.int jz7), .val (.int jz8), .val (.int jz9), .val (.ref b1), .val (.ref b4), .unset] [(.int jz6)]))
          refine Go.st (fun t k => XS.ifYes X92.here hx rfl (pc0 := 162) (pc' := 170) rfl (hb hby at_162) rfl (Jvm.Free.XT.i0_ne_t hc63) (by decide) (by decide) k) ?_
          show Go p e below _ (T92.setTop (mkF m 170 #[.val (.long i0), .second, .val (.int i1), .val (.int i2), .val (.int jz4), .val (.int jz5), .val (.int jz6), .val (.int jz7), .val (.int jz8), .val (.int jz9), .val (.ref b1), .val (.ref b4), .unset] []))
          refine Go.st (fun t k => XS.iload X92.here hx rfl (hb hby at_170) rfl k) ?_
          show Go p e below _ (T92.setTop (mkF m 172 #[.val (.long i0), .second, .val (.int i1), .val (.int i2), .val (.int jz4), .val (.int jz5), .val (.int jz6), .val (.int jz7), .val (.int jz8), .val (.int jz9), .val (.ref b1), .val (.ref b4), .unset] [(.int jz7)]))
          by_cases hc94 : jz7 = (0 : Int32)
          · refine Go.st (fun t k => XS.ifYes X92.here hx rfl (pc0 := 172) (pc' := 180) rfl (hb hby at_172) rfl (Jvm.Free.XT.i0_eq_t hc94) (by decide) (by decide) k) ?_
            show Go p e below _ (T92.setTop (mkF m 180 #[.val (.long i0), .second, .val (.int i1), .val (.int i2), .val (.int jz4), .val (.int jz5), .val (.int jz6), .val (.int jz7), .val (.int jz8), .val (.int jz9), .val (.ref b1), .val (.ref b4), .unset] []))
            refine Go.st (fun t k => XS.iload X92.here hx rfl (hb hby at_180) rfl k) ?_
            show Go p e below _ (T92.setTop (mkF m 182 #[.val (.long i0), .second, .val (.int i1), .val (.int i2), .val (.int jz4), .val (.int jz5), .val (.int jz6), .val (.int jz7), .val (.int jz8), .val (.int jz9), .val (.ref b1), .val (.ref b4), .unset] [(.int jz8)]))
            by_cases hc95 : jz8 = (0 : Int32)
            · refine Go.st (fun t k => XS.ifYes X92.here hx rfl (pc0 := 182) (pc' := 190) rfl (hb hby at_182) rfl (Jvm.Free.XT.i0_eq_t hc95) (by decide) (by decide) k) ?_
              show Go p e below _ (T92.setTop (mkF m 190 #[.val (.long i0), .second, .val (.int i1), .val (.int i2), .val (.int jz4), .val (.int jz5), .val (.int jz6), .val (.int jz7), .val (.int jz8), .val (.int jz9), .val (.ref b1), .val (.ref b4), .unset] []))
              refine Go.st (fun t k => XS.iload X92.here hx rfl (hb hby at_190) rfl k) ?_
              show Go p e below _ (T92.setTop (mkF m 192 #[.val (.long i0), .second, .val (.int i1), .val (.int i2), .val (.int jz4), .val (.int jz5), .val (.int jz6), .val (.int jz7), .val (.int jz8), .val (.int jz9), .val (.ref b1), .val (.ref b4), .unset] [(.int jz4)]))
              refine Go.st (fun t k => XS.ifNo X92.here hx rfl (hb hby at_192) rfl (Jvm.Free.XT.i0_eq_f hc17) k) ?_
              show Go p e below _ (T92.setTop (mkF m 195 #[.val (.long i0), .second, .val (.int i1), .val (.int i2), .val (.int jz4), .val (.int jz5), .val (.int jz6), .val (.int jz7), .val (.int jz8), .val (.int jz9), .val (.ref b1), .val (.ref b4), .unset] []))
              refine Go.st (fun t k => XS.iconst X92.here hx rfl (hb hby at_195) k) ?_
              show Go p e below _ (T92.setTop (mkF m 196 #[.val (.long i0), .second, .val (.int i1), .val (.int i2), .val (.int jz4), .val (.int jz5), .val (.int jz6), .val (.int jz7), .val (.int jz8), .val (.int jz9), .val (.ref b1), .val (.ref b4), .unset] [(.int (1 : Int32))]))
              refine Go.st (fun t k => XS.istore X92.here hx rfl (hb hby at_196) rfl (l' := #[.val (.long i0), .second, .val (.int i1), .val (.int i2), .val (.int jz4), .val (.int jz5), .val (.int jz6), .val (.int jz7), .val (.int jz8), .val (.int jz9), .val (.ref b1), .val (.ref b4), .val (.int (1 : Int32))]) rfl k) ?_
              show Go p e below _ (T92.setTop (mkF m 198 #[.val (.long i0), .second, .val (.int i1), .val (.int i2), .val (.int jz4), .val (.int jz5), .val (.int jz6), .val (.int jz7), .val (.int jz8), .val (.int jz9), .val (.ref b1), .val (.ref b4), .val (.int (1 : Int32))] []))
              refine Go.st (fun t k => XS.goto X92.here hx rfl (pc0 := 198) (pc' := 225) rfl (hb hby at_198) (by decide) (by decide) k) ?_
              show Go p e below _ (T92.setTop (mkF m 225 #[.val (.long i0), .second, .val (.int i1), .val (.int i2), .val (.int jz4), .val (.int jz5), .val (.int jz6), .val (.int jz7), .val (.int jz8), .val (.int jz9), .val (.ref b1), .val (.ref b4), .val (.int (1 : Int32))] []))
              refine Go.st (fun t k => XS.aload X92.here hx rfl (hb hby at_225) rfl rfl k) ?_
              show Go p e below _ (T92.setTop (mkF m 227 #[.val (.long i0), .second, .val (.int i1), .val (.int i2), .val (.int jz4), .val (.int jz5), .val (.int jz6), .val (.int jz7), .val (.int jz8), .val (.int jz9), .val (.ref b1), .val (.ref b4), .val (.int (1 : Int32))] [(.ref b4)]))
              have c97 := ((((A4.ext E5).keep K8c).keep K16c).keep K92c)
              obtain ⟨cq96, kq96, q96a, q96b, q96c⟩ := isOf hZ rfl c97
              obtain ⟨_, _, ⟨T96, L96, k96, n96⟩, -, X96, ⟨Lc96, hQ96, l96, y96, z96⟩, st96⟩ := X92.virtualBack hx (y := (⟨"com/example/outbound_courier/outboundcourier/http/RequestHead", "hasBody", "()Z"⟩ : MethodName)) (z := (⟨"com/example/outbound_courier/outboundcourier/http/RequestHead", "hasBody", "()Z"⟩ : MethodName)) hown (mvT hZ (w75 hw)) (mvT hZ (w76 hw)) (notFace_of_selects (args := #[]) (mvT hZ (w78 hw))) (mvT hZ (w78 hw)) (mvT hZ (w77 hw)) (by decide) (backOf (W := 0) (rm12_4 l Z a0 hw [] b4 T92.heap n0 O92 r92_0) hZ (w79 hw) (w3 hw) (by decide) (by decide)) q96a q96c (g := (mkF m 227 #[.val (.long i0), .second, .val (.int i1), .val (.int i2), .val (.int jz4), .val (.int jz5), .val (.int jz6), .val (.int jz7), .val (.int jz8), .val (.int jz9), .val (.ref b1), .val (.ref b4), .val (.int (1 : Int32))] [(.ref b4)])) rfl (by rw [hml]; rfl) (Steps.refl _) (argsL := []) (rest := []) (lenOf pd_7 rfl) rfl (by show 2 * 0 + _ ≤ _; exact Nat.le_of_eq rfl) (hb hby at_227) (fun vm₁ hw₁ => ⟨rfl, rfl, (by decide : 5 + 0 ≤ _), (by decide : 20 + 0 ≤ _)⟩)
              dsimp only [Pt.U, Pt.locs, Pt.cells, Pt.slots] at X96 l96 y96 z96 st96 hQ96
              subst l96 y96 z96
              obtain ⟨rfl, M96, eh96⟩ := hQ96
              have N96 := Fr.app N92 M96
              refine Go.tr st96 ?_
              show Go p e below _ (T96.setTop (mkF m 230 #[.val (.long i0), .second, .val (.int i1), .val (.int i2), .val (.int jz4), .val (.int jz5), .val (.int jz6), .val (.int jz7), .val (.int jz8), .val (.int jz9), .val (.ref b1), .val (.ref b4), .val (.int (1 : Int32))] [(.int (1 : Int32))]))
              refine Go.st (fun t k => XS.iload X96.here hx rfl (hb hby at_230) rfl k) ?_
              show Go p e below _ (T96.setTop (mkF m 232 #[.val (.long i0), .second, .val (.int i1), .val (.int i2), .val (.int jz4), .val (.int jz5), .val (.int jz6), .val (.int jz7), .val (.int jz8), .val (.int jz9), .val (.ref b1), .val (.ref b4), .val (.int (1 : Int32))] [(.int (1 : Int32)), (.int (1 : Int32))]))
              refine Go.st (fun t k => XS.icmpNo X96.here hx rfl (hb hby at_232) rfl (Jvm.Free.XT.ii_ne_f (by decide : (1 : Int32) = (1 : Int32))) k) ?_
              show Go p e below _ (T96.setTop (mkF m 235 #[.val (.long i0), .second, .val (.int i1), .val (.int i2), .val (.int jz4), .val (.int jz5), .val (.int jz6), .val (.int jz7), .val (.int jz8), .val (.int jz9), .val (.ref b1), .val (.ref b4), .val (.int (1 : Int32))] []))
              refine Go.st (fun t k => XS.iconst X96.here hx rfl (hb hby at_235) k) ?_
              show Go p e below _ (T96.setTop (mkF m 236 #[.val (.long i0), .second, .val (.int i1), .val (.int i2), .val (.int jz4), .val (.int jz5), .val (.int jz6), .val (.int jz7), .val (.int jz8), .val (.int jz9), .val (.ref b1), .val (.ref b4), .val (.int (1 : Int32))] [(.int (1 : Int32))]))
              refine Go.st (fun t k => XS.goto X96.here hx rfl (pc0 := 236) (pc' := 240) rfl (hb hby at_236) (by decide) (by decide) k) ?_
              show Go p e below _ (T96.setTop (mkF m 240 #[.val (.long i0), .second, .val (.int i1), .val (.int i2), .val (.int jz4), .val (.int jz5), .val (.int jz6), .val (.int jz7), .val (.int jz8), .val (.int jz9), .val (.ref b1), .val (.ref b4), .val (.int (1 : Int32))] [(.int (1 : Int32))]))
              obtain ⟨fs, hr, hrun, hended, hWd, hsame⟩ := X96.leave (v := some (.int (1 : Int32))) (fun h => by rw [Bd.returns] at h; cases h)
              refine ⟨_, _, ?_, hrun, hended, _, _, rfl, ?_, ⟨⟨_, rfl⟩, hWd, hsame.mono (by decide) (by decide)⟩⟩
              · exact retN X96 hx (t := .boolean) Bd.returns (by simp) (hb hby at_240) hr
              · exact ⟨rfl, N96⟩
            · refine Go.st (fun t k => XS.ifNo X92.here hx rfl (hb hby at_182) rfl (Jvm.Free.XT.i0_eq_f hc95) k) ?_
              show Go p e below _ (T92.setTop (mkF m 185 #[.val (.long i0), .second, .val (.int i1), .val (.int i2), .val (.int jz4), .val (.int jz5), .val (.int jz6), .val (.int jz7), .val (.int jz8), .val (.int jz9), .val (.ref b1), .val (.ref b4), .unset] []))
              refine Go.st (fun t k => XS.aload X92.here hx rfl (hb hby at_185) rfl rfl k) ?_
              show Go p e below _ (T92.setTop (mkF m 187 #[.val (.long i0), .second, .val (.int i1), .val (.int i2), .val (.int jz4), .val (.int jz5), .val (.int jz6), .val (.int jz7), .val (.int jz8), .val (.int jz9), .val (.ref b1), .val (.ref b4), .unset] [(.ref b4)]))
              have c98 := ((((A4.ext E5).keep K8c).keep K16c).keep K92c)
              obtain ⟨cq99, kq99, q99a, q99b, q99c⟩ := isOf hZ rfl c98
              obtain ⟨_, _, ⟨T99, L99, k99, n99⟩, -, X99, ⟨Lc99, hQ99, l99, y99, z99⟩, st99⟩ := X92.virtualBack hx (y := (⟨"com/example/outbound_courier/outboundcourier/http/RequestHead", "setExpectsContinue", "()V"⟩ : MethodName)) (z := (⟨"com/example/outbound_courier/outboundcourier/http/RequestHead", "setExpectsContinue", "()V"⟩ : MethodName)) hown (mvT hZ (w89 hw)) (mvT hZ (w90 hw)) (notFace_of_selects (args := #[]) (mvT hZ (w92 hw))) (mvT hZ (w92 hw)) (mvT hZ (w91 hw)) (by decide) (backOf (W := 0) (rm14_5 l Z a0 hw [] b4 b2_16 b5 jz9 T92.heap n0 O92 c98 r92_6 g_b4 r92_1 r92_2 r92_3 r92_4 r92_0 r92_5) hZ (w93 hw) (w3 hw) (by decide) (by decide)) q99a q99c (g := (mkF m 187 #[.val (.long i0), .second, .val (.int i1), .val (.int i2), .val (.int jz4), .val (.int jz5), .val (.int jz6), .val (.int jz7), .val (.int jz8), .val (.int jz9), .val (.ref b1), .val (.ref b4), .unset] [(.ref b4)])) rfl (by rw [hml]; rfl) (Steps.refl _) (argsL := []) (rest := []) (lenOf pd_5 rfl) rfl (by show 2 * 0 + _ ≤ _; exact Nat.le_of_eq rfl) (hb hby at_187) (fun vm₁ hw₁ => ⟨rfl, rfl, (by decide : 5 + 0 ≤ _), (by decide : 20 + 0 ≤ _)⟩)
              dsimp only [Pt.U, Pt.locs, Pt.cells, Pt.slots] at X99 l99 y99 z99 st99 hQ99
              subst l99 y99 z99
              obtain ⟨rfl, M99, K99c, r99_0, r99_1, r99_2, r99_3, r99_4, r99_5, r99_6⟩ := hQ99
              have N99 := Fr.app N92 M99
              have O99 : Old Z n0 T99.heap := O92.keep K99c (allS g_b4 all0)
              refine Go.tr st99 ?_
              show Go p e below _ (T99.setTop (mkF m 190 #[.val (.long i0), .second, .val (.int i1), .val (.int i2), .val (.int jz4), .val (.int jz5), .val (.int jz6), .val (.int jz7), .val (.int jz8), .val (.int jz9), .val (.ref b1), .val (.ref b4), .unset] []))
              refine Go.st (fun t k => XS.iload X99.here hx rfl (hb hby at_190) rfl k) ?_
              show Go p e below _ (T99.setTop (mkF m 192 #[.val (.long i0), .second, .val (.int i1), .val (.int i2), .val (.int jz4), .val (.int jz5), .val (.int jz6), .val (.int jz7), .val (.int jz8), .val (.int jz9), .val (.ref b1), .val (.ref b4), .unset] [(.int jz4)]))
              refine Go.st (fun t k => XS.ifNo X99.here hx rfl (hb hby at_192) rfl (Jvm.Free.XT.i0_eq_f hc17) k) ?_
              show Go p e below _ (T99.setTop (mkF m 195 #[.val (.long i0), .second, .val (.int i1), .val (.int i2), .val (.int jz4), .val (.int jz5), .val (.int jz6), .val (.int jz7), .val (.int jz8), .val (.int jz9), .val (.ref b1), .val (.ref b4), .unset] []))
              refine Go.st (fun t k => XS.iconst X99.here hx rfl (hb hby at_195) k) ?_
              show Go p e below _ (T99.setTop (mkF m 196 #[.val (.long i0), .second, .val (.int i1), .val (.int i2), .val (.int jz4), .val (.int jz5), .val (.int jz6), .val (.int jz7), .val (.int jz8), .val (.int jz9), .val (.ref b1), .val (.ref b4), .unset] [(.int (1 : Int32))]))
              refine Go.st (fun t k => XS.istore X99.here hx rfl (hb hby at_196) rfl (l' := #[.val (.long i0), .second, .val (.int i1), .val (.int i2), .val (.int jz4), .val (.int jz5), .val (.int jz6), .val (.int jz7), .val (.int jz8), .val (.int jz9), .val (.ref b1), .val (.ref b4), .val (.int (1 : Int32))]) rfl k) ?_
              show Go p e below _ (T99.setTop (mkF m 198 #[.val (.long i0), .second, .val (.int i1), .val (.int i2), .val (.int jz4), .val (.int jz5), .val (.int jz6), .val (.int jz7), .val (.int jz8), .val (.int jz9), .val (.ref b1), .val (.ref b4), .val (.int (1 : Int32))] []))
              refine Go.st (fun t k => XS.goto X99.here hx rfl (pc0 := 198) (pc' := 225) rfl (hb hby at_198) (by decide) (by decide) k) ?_
              show Go p e below _ (T99.setTop (mkF m 225 #[.val (.long i0), .second, .val (.int i1), .val (.int i2), .val (.int jz4), .val (.int jz5), .val (.int jz6), .val (.int jz7), .val (.int jz8), .val (.int jz9), .val (.ref b1), .val (.ref b4), .val (.int (1 : Int32))] []))
              refine Go.st (fun t k => XS.aload X99.here hx rfl (hb hby at_225) rfl rfl k) ?_
              show Go p e below _ (T99.setTop (mkF m 227 #[.val (.long i0), .second, .val (.int i1), .val (.int i2), .val (.int jz4), .val (.int jz5), .val (.int jz6), .val (.int jz7), .val (.int jz8), .val (.int jz9), .val (.ref b1), .val (.ref b4), .val (.int (1 : Int32))] [(.ref b4)]))
              obtain ⟨cq100, kq100, q100a, q100b, q100c⟩ := isOf hZ rfl (c98.keep K99c)
              obtain ⟨_, _, ⟨T100, L100, k100, n100⟩, -, X100, ⟨Lc100, hQ100, l100, y100, z100⟩, st100⟩ := X99.virtualBack hx (y := (⟨"com/example/outbound_courier/outboundcourier/http/RequestHead", "hasBody", "()Z"⟩ : MethodName)) (z := (⟨"com/example/outbound_courier/outboundcourier/http/RequestHead", "hasBody", "()Z"⟩ : MethodName)) hown (mvT hZ (w75 hw)) (mvT hZ (w76 hw)) (notFace_of_selects (args := #[]) (mvT hZ (w78 hw))) (mvT hZ (w78 hw)) (mvT hZ (w77 hw)) (by decide) (backOf (W := 0) (rm12_4 l Z a0 hw [] b4 T99.heap n0 O99 r99_5) hZ (w79 hw) (w3 hw) (by decide) (by decide)) q100a q100c (g := (mkF m 227 #[.val (.long i0), .second, .val (.int i1), .val (.int i2), .val (.int jz4), .val (.int jz5), .val (.int jz6), .val (.int jz7), .val (.int jz8), .val (.int jz9), .val (.ref b1), .val (.ref b4), .val (.int (1 : Int32))] [(.ref b4)])) rfl (by rw [hml]; rfl) (Steps.refl _) (argsL := []) (rest := []) (lenOf pd_7 rfl) rfl (by show 2 * 0 + _ ≤ _; exact Nat.le_of_eq rfl) (hb hby at_227) (fun vm₁ hw₁ => ⟨rfl, rfl, (by decide : 5 + 0 ≤ _), (by decide : 20 + 0 ≤ _)⟩)
              dsimp only [Pt.U, Pt.locs, Pt.cells, Pt.slots] at X100 l100 y100 z100 st100 hQ100
              subst l100 y100 z100
              obtain ⟨rfl, M100, eh100⟩ := hQ100
              have N100 := Fr.app N99 M100
              refine Go.tr st100 ?_
              show Go p e below _ (T100.setTop (mkF m 230 #[.val (.long i0), .second, .val (.int i1), .val (.int i2), .val (.int jz4), .val (.int jz5), .val (.int jz6), .val (.int jz7), .val (.int jz8), .val (.int jz9), .val (.ref b1), .val (.ref b4), .val (.int (1 : Int32))] [(.int (1 : Int32))]))
              refine Go.st (fun t k => XS.iload X100.here hx rfl (hb hby at_230) rfl k) ?_
              show Go p e below _ (T100.setTop (mkF m 232 #[.val (.long i0), .second, .val (.int i1), .val (.int i2), .val (.int jz4), .val (.int jz5), .val (.int jz6), .val (.int jz7), .val (.int jz8), .val (.int jz9), .val (.ref b1), .val (.ref b4), .val (.int (1 : Int32))] [(.int (1 : Int32)), (.int (1 : Int32))]))
              refine Go.st (fun t k => XS.icmpNo X100.here hx rfl (hb hby at_232) rfl (Jvm.Free.XT.ii_ne_f (by decide : (1 : Int32) = (1 : Int32))) k) ?_
              show Go p e below _ (T100.setTop (mkF m 235 #[.val (.long i0), .second, .val (.int i1), .val (.int i2), .val (.int jz4), .val (.int jz5), .val (.int jz6), .val (.int jz7), .val (.int jz8), .val (.int jz9), .val (.ref b1), .val (.ref b4), .val (.int (1 : Int32))] []))
              refine Go.st (fun t k => XS.iconst X100.here hx rfl (hb hby at_235) k) ?_
              show Go p e below _ (T100.setTop (mkF m 236 #[.val (.long i0), .second, .val (.int i1), .val (.int i2), .val (.int jz4), .val (.int jz5), .val (.int jz6), .val (.int jz7), .val (.int jz8), .val (.int jz9), .val (.ref b1), .val (.ref b4), .val (.int (1 : Int32))] [(.int (1 : Int32))]))
              refine Go.st (fun t k => XS.goto X100.here hx rfl (pc0 := 236) (pc' := 240) rfl (hb hby at_236) (by decide) (by decide) k) ?_
              show Go p e below _ (T100.setTop (mkF m 240 #[.val (.long i0), .second, .val (.int i1), .val (.int i2), .val (.int jz4), .val (.int jz5), .val (.int jz6), .val (.int jz7), .val (.int jz8), .val (.int jz9), .val (.ref b1), .val (.ref b4), .val (.int (1 : Int32))] [(.int (1 : Int32))]))
              obtain ⟨fs, hr, hrun, hended, hWd, hsame⟩ := X100.leave (v := some (.int (1 : Int32))) (fun h => by rw [Bd.returns] at h; cases h)
              refine ⟨_, _, ?_, hrun, hended, _, _, rfl, ?_, ⟨⟨_, rfl⟩, hWd, hsame.mono (by decide) (by decide)⟩⟩
              · exact retN X100 hx (t := .boolean) Bd.returns (by simp) (hb hby at_240) hr
              · exact ⟨rfl, N100⟩
          · refine Go.st (fun t k => XS.ifNo X92.here hx rfl (hb hby at_172) rfl (Jvm.Free.XT.i0_eq_f hc94) k) ?_
            show Go p e below _ (T92.setTop (mkF m 175 #[.val (.long i0), .second, .val (.int i1), .val (.int i2), .val (.int jz4), .val (.int jz5), .val (.int jz6), .val (.int jz7), .val (.int jz8), .val (.int jz9), .val (.ref b1), .val (.ref b4), .unset] []))
            refine Go.st (fun t k => XS.aload X92.here hx rfl (hb hby at_175) rfl rfl k) ?_
            show Go p e below _ (T92.setTop (mkF m 177 #[.val (.long i0), .second, .val (.int i1), .val (.int i2), .val (.int jz4), .val (.int jz5), .val (.int jz6), .val (.int jz7), .val (.int jz8), .val (.int jz9), .val (.ref b1), .val (.ref b4), .unset] [(.ref b4)]))
            have c101 := ((((A4.ext E5).keep K8c).keep K16c).keep K92c)
            obtain ⟨cq102, kq102, q102a, q102b, q102c⟩ := isOf hZ rfl c101
            obtain ⟨_, _, ⟨T102, L102, k102, n102⟩, -, X102, ⟨Lc102, hQ102, l102, y102, z102⟩, st102⟩ := X92.virtualBack hx (y := (⟨"com/example/outbound_courier/outboundcourier/http/RequestHead", "setClose", "()V"⟩ : MethodName)) (z := (⟨"com/example/outbound_courier/outboundcourier/http/RequestHead", "setClose", "()V"⟩ : MethodName)) hown (mvT hZ (w82 hw)) (mvT hZ (w83 hw)) (notFace_of_selects (args := #[]) (mvT hZ (w85 hw))) (mvT hZ (w85 hw)) (mvT hZ (w84 hw)) (by decide) (backOf (W := 0) (rm13_3 l Z a0 hw [] b4 b2_16 b5 jz9 T92.heap n0 O92 c101 r92_5 g_b4 r92_1 r92_2 r92_3 r92_4 r92_0 r92_6) hZ (w86 hw) (w3 hw) (by decide) (by decide)) q102a q102c (g := (mkF m 177 #[.val (.long i0), .second, .val (.int i1), .val (.int i2), .val (.int jz4), .val (.int jz5), .val (.int jz6), .val (.int jz7), .val (.int jz8), .val (.int jz9), .val (.ref b1), .val (.ref b4), .unset] [(.ref b4)])) rfl (by rw [hml]; rfl) (Steps.refl _) (argsL := []) (rest := []) (lenOf pd_5 rfl) rfl (by show 2 * 0 + _ ≤ _; exact Nat.le_of_eq rfl) (hb hby at_177) (fun vm₁ hw₁ => ⟨rfl, rfl, (by decide : 5 + 0 ≤ _), (by decide : 20 + 0 ≤ _)⟩)
            dsimp only [Pt.U, Pt.locs, Pt.cells, Pt.slots] at X102 l102 y102 z102 st102 hQ102
            subst l102 y102 z102
            obtain ⟨rfl, M102, K102c, r102_0, r102_1, r102_2, r102_3, r102_4, r102_5, r102_6⟩ := hQ102
            have N102 := Fr.app N92 M102
            have O102 : Old Z n0 T102.heap := O92.keep K102c (allS g_b4 all0)
            refine Go.tr st102 ?_
            show Go p e below _ (T102.setTop (mkF m 180 #[.val (.long i0), .second, .val (.int i1), .val (.int i2), .val (.int jz4), .val (.int jz5), .val (.int jz6), .val (.int jz7), .val (.int jz8), .val (.int jz9), .val (.ref b1), .val (.ref b4), .unset] []))
            refine Go.st (fun t k => XS.iload X102.here hx rfl (hb hby at_180) rfl k) ?_
            show Go p e below _ (T102.setTop (mkF m 182 #[.val (.long i0), .second, .val (.int i1), .val (.int i2), .val (.int jz4), .val (.int jz5), .val (.int jz6), .val (.int jz7), .val (.int jz8), .val (.int jz9), .val (.ref b1), .val (.ref b4), .unset] [(.int jz8)]))
            by_cases hc103 : jz8 = (0 : Int32)
            · refine Go.st (fun t k => XS.ifYes X102.here hx rfl (pc0 := 182) (pc' := 190) rfl (hb hby at_182) rfl (Jvm.Free.XT.i0_eq_t hc103) (by decide) (by decide) k) ?_
              show Go p e below _ (T102.setTop (mkF m 190 #[.val (.long i0), .second, .val (.int i1), .val (.int i2), .val (.int jz4), .val (.int jz5), .val (.int jz6), .val (.int jz7), .val (.int jz8), .val (.int jz9), .val (.ref b1), .val (.ref b4), .unset] []))
              refine Go.st (fun t k => XS.iload X102.here hx rfl (hb hby at_190) rfl k) ?_
              show Go p e below _ (T102.setTop (mkF m 192 #[.val (.long i0), .second, .val (.int i1), .val (.int i2), .val (.int jz4), .val (.int jz5), .val (.int jz6), .val (.int jz7), .val (.int jz8), .val (.int jz9), .val (.ref b1), .val (.ref b4), .unset] [(.int jz4)]))
              refine Go.st (fun t k => XS.ifNo X102.here hx rfl (hb hby at_192) rfl (Jvm.Free.XT.i0_eq_f hc17) k) ?_
              show Go p e below _ (T102.setTop (mkF m 195 #[.val (.long i0), .second, .val (.int i1), .val (.int i2), .val (.int jz4), .val (.int jz5), .val (.int jz6), .val (.int jz7), .val (.int jz8), .val (.int jz9), .val (.ref b1), .val (.ref b4), .unset] []))
              refine Go.st (fun t k => XS.iconst X102.here hx rfl (hb hby at_195) k) ?_
              show Go p e below _ (T102.setTop (mkF m 196 #[.val (.long i0), .second, .val (.int i1), .val (.int i2), .val (.int jz4), .val (.int jz5), .val (.int jz6), .val (.int jz7), .val (.int jz8), .val (.int jz9), .val (.ref b1), .val (.ref b4), .unset] [(.int (1 : Int32))]))
              refine Go.st (fun t k => XS.istore X102.here hx rfl (hb hby at_196) rfl (l' := #[.val (.long i0), .second, .val (.int i1), .val (.int i2), .val (.int jz4), .val (.int jz5), .val (.int jz6), .val (.int jz7), .val (.int jz8), .val (.int jz9), .val (.ref b1), .val (.ref b4), .val (.int (1 : Int32))]) rfl k) ?_
              show Go p e below _ (T102.setTop (mkF m 198 #[.val (.long i0), .second, .val (.int i1), .val (.int i2), .val (.int jz4), .val (.int jz5), .val (.int jz6), .val (.int jz7), .val (.int jz8), .val (.int jz9), .val (.ref b1), .val (.ref b4), .val (.int (1 : Int32))] []))
              refine Go.st (fun t k => XS.goto X102.here hx rfl (pc0 := 198) (pc' := 225) rfl (hb hby at_198) (by decide) (by decide) k) ?_
              show Go p e below _ (T102.setTop (mkF m 225 #[.val (.long i0), .second, .val (.int i1), .val (.int i2), .val (.int jz4), .val (.int jz5), .val (.int jz6), .val (.int jz7), .val (.int jz8), .val (.int jz9), .val (.ref b1), .val (.ref b4), .val (.int (1 : Int32))] []))
              refine Go.st (fun t k => XS.aload X102.here hx rfl (hb hby at_225) rfl rfl k) ?_
              show Go p e below _ (T102.setTop (mkF m 227 #[.val (.long i0), .second, .val (.int i1), .val (.int i2), .val (.int jz4), .val (.int jz5), .val (.int jz6), .val (.int jz7), .val (.int jz8), .val (.int jz9), .val (.ref b1), .val (.ref b4), .val (.int (1 : Int32))] [(.ref b4)]))
              obtain ⟨cq104, kq104, q104a, q104b, q104c⟩ := isOf hZ rfl (c101.keep K102c)
              obtain ⟨_, _, ⟨T104, L104, k104, n104⟩, -, X104, ⟨Lc104, hQ104, l104, y104, z104⟩, st104⟩ := X102.virtualBack hx (y := (⟨"com/example/outbound_courier/outboundcourier/http/RequestHead", "hasBody", "()Z"⟩ : MethodName)) (z := (⟨"com/example/outbound_courier/outboundcourier/http/RequestHead", "hasBody", "()Z"⟩ : MethodName)) hown (mvT hZ (w75 hw)) (mvT hZ (w76 hw)) (notFace_of_selects (args := #[]) (mvT hZ (w78 hw))) (mvT hZ (w78 hw)) (mvT hZ (w77 hw)) (by decide) (backOf (W := 0) (rm12_4 l Z a0 hw [] b4 T102.heap n0 O102 r102_5) hZ (w79 hw) (w3 hw) (by decide) (by decide)) q104a q104c (g := (mkF m 227 #[.val (.long i0), .second, .val (.int i1), .val (.int i2), .val (.int jz4), .val (.int jz5), .val (.int jz6), .val (.int jz7), .val (.int jz8), .val (.int jz9), .val (.ref b1), .val (.ref b4), .val (.int (1 : Int32))] [(.ref b4)])) rfl (by rw [hml]; rfl) (Steps.refl _) (argsL := []) (rest := []) (lenOf pd_7 rfl) rfl (by show 2 * 0 + _ ≤ _; exact Nat.le_of_eq rfl) (hb hby at_227) (fun vm₁ hw₁ => ⟨rfl, rfl, (by decide : 5 + 0 ≤ _), (by decide : 20 + 0 ≤ _)⟩)
              dsimp only [Pt.U, Pt.locs, Pt.cells, Pt.slots] at X104 l104 y104 z104 st104 hQ104
              subst l104 y104 z104
              obtain ⟨rfl, M104, eh104⟩ := hQ104
              have N104 := Fr.app N102 M104
              refine Go.tr st104 ?_
              show Go p e below _ (T104.setTop (mkF m 230 #[.val (.long i0), .second, .val (.int i1), .val (.int i2), .val (.int jz4), .val (.int jz5), .val (.int jz6), .val (.int jz7), .val (.int jz8), .val (.int jz9), .val (.ref b1), .val (.ref b4), .val (.int (1 : Int32))] [(.int (1 : Int32))]))
              refine Go.st (fun t k => XS.iload X104.here hx rfl (hb hby at_230) rfl k) ?_
              show Go p e below _ (T104.setTop (mkF m 232 #[.val (.long i0), .second, .val (.int i1), .val (.int i2), .val (.int jz4), .val (.int jz5), .val (.int jz6), .val (.int jz7), .val (.int jz8), .val (.int jz9), .val (.ref b1), .val (.ref b4), .val (.int (1 : Int32))] [(.int (1 : Int32)), (.int (1 : Int32))]))
              refine Go.st (fun t k => XS.icmpNo X104.here hx rfl (hb hby at_232) rfl (Jvm.Free.XT.ii_ne_f (by decide : (1 : Int32) = (1 : Int32))) k) ?_
              show Go p e below _ (T104.setTop (mkF m 235 #[.val (.long i0), .second, .val (.int i1), .val (.int i2), .val (.int jz4), .val (.int jz5), .val (.int jz6), .val (.int jz7), .val (.int jz8), .val (.int jz9), .val (.ref b1), .val (.ref b4), .val (.int (1 : Int32))] []))
              refine Go.st (fun t k => XS.iconst X104.here hx rfl (hb hby at_235) k) ?_
              show Go p e below _ (T104.setTop (mkF m 236 #[.val (.long i0), .second, .val (.int i1), .val (.int i2), .val (.int jz4), .val (.int jz5), .val (.int jz6), .val (.int jz7), .val (.int jz8), .val (.int jz9), .val (.ref b1), .val (.ref b4), .val (.int (1 : Int32))] [(.int (1 : Int32))]))
              refine Go.st (fun t k => XS.goto X104.here hx rfl (pc0 := 236) (pc' := 240) rfl (hb hby at_236) (by decide) (by decide) k) ?_
              show Go p e below _ (T104.setTop (mkF m 240 #[.val (.long i0), .second, .val (.int i1), .val (.int i2), .val (.int jz4), .val (.int jz5), .val (.int jz6), .val (.int jz7), .val (.int jz8), .val (.int jz9), .val (.ref b1), .val (.ref b4), .val (.int (1 : Int32))] [(.int (1 : Int32))]))
              obtain ⟨fs, hr, hrun, hended, hWd, hsame⟩ := X104.leave (v := some (.int (1 : Int32))) (fun h => by rw [Bd.returns] at h; cases h)
              refine ⟨_, _, ?_, hrun, hended, _, _, rfl, ?_, ⟨⟨_, rfl⟩, hWd, hsame.mono (by decide) (by decide)⟩⟩
              · exact retN X104 hx (t := .boolean) Bd.returns (by simp) (hb hby at_240) hr
              · exact ⟨rfl, N104⟩
            · refine Go.st (fun t k => XS.ifNo X102.here hx rfl (hb hby at_182) rfl (Jvm.Free.XT.i0_eq_f hc103) k) ?_
              show Go p e below _ (T102.setTop (mkF m 185 #[.val (.long i0), .second, .val (.int i1), .val (.int i2), .val (.int jz4), .val (.int jz5), .val (.int jz6), .val (.int jz7), .val (.int jz8), .val (.int jz9), .val (.ref b1), .val (.ref b4), .unset] []))
              refine Go.st (fun t k => XS.aload X102.here hx rfl (hb hby at_185) rfl rfl k) ?_
              show Go p e below _ (T102.setTop (mkF m 187 #[.val (.long i0), .second, .val (.int i1), .val (.int i2), .val (.int jz4), .val (.int jz5), .val (.int jz6), .val (.int jz7), .val (.int jz8), .val (.int jz9), .val (.ref b1), .val (.ref b4), .unset] [(.ref b4)]))
              obtain ⟨cq105, kq105, q105a, q105b, q105c⟩ := isOf hZ rfl (c101.keep K102c)
              obtain ⟨_, _, ⟨T105, L105, k105, n105⟩, -, X105, ⟨Lc105, hQ105, l105, y105, z105⟩, st105⟩ := X102.virtualBack hx (y := (⟨"com/example/outbound_courier/outboundcourier/http/RequestHead", "setExpectsContinue", "()V"⟩ : MethodName)) (z := (⟨"com/example/outbound_courier/outboundcourier/http/RequestHead", "setExpectsContinue", "()V"⟩ : MethodName)) hown (mvT hZ (w89 hw)) (mvT hZ (w90 hw)) (notFace_of_selects (args := #[]) (mvT hZ (w92 hw))) (mvT hZ (w92 hw)) (mvT hZ (w91 hw)) (by decide) (backOf (W := 0) (rm14_6 l Z a0 hw [] b4 b2_16 b5 jz9 T102.heap n0 O102 (c101.keep K102c) r102_6 g_b4 r102_1 r102_2 r102_3 r102_4 r102_5 r102_0) hZ (w93 hw) (w3 hw) (by decide) (by decide)) q105a q105c (g := (mkF m 187 #[.val (.long i0), .second, .val (.int i1), .val (.int i2), .val (.int jz4), .val (.int jz5), .val (.int jz6), .val (.int jz7), .val (.int jz8), .val (.int jz9), .val (.ref b1), .val (.ref b4), .unset] [(.ref b4)])) rfl (by rw [hml]; rfl) (Steps.refl _) (argsL := []) (rest := []) (lenOf pd_5 rfl) rfl (by show 2 * 0 + _ ≤ _; exact Nat.le_of_eq rfl) (hb hby at_187) (fun vm₁ hw₁ => ⟨rfl, rfl, (by decide : 5 + 0 ≤ _), (by decide : 20 + 0 ≤ _)⟩)
              dsimp only [Pt.U, Pt.locs, Pt.cells, Pt.slots] at X105 l105 y105 z105 st105 hQ105
              subst l105 y105 z105
              obtain ⟨rfl, M105, K105c, r105_0, r105_1, r105_2, r105_3, r105_4, r105_5, r105_6⟩ := hQ105
              have N105 := Fr.app N102 M105
              have O105 : Old Z n0 T105.heap := O102.keep K105c (allS g_b4 all0)
              refine Go.tr st105 ?_
              show Go p e below _ (T105.setTop (mkF m 190 #[.val (.long i0), .second, .val (.int i1), .val (.int i2), .val (.int jz4), .val (.int jz5), .val (.int jz6), .val (.int jz7), .val (.int jz8), .val (.int jz9), .val (.ref b1), .val (.ref b4), .unset] []))
              refine Go.st (fun t k => XS.iload X105.here hx rfl (hb hby at_190) rfl k) ?_
              show Go p e below _ (T105.setTop (mkF m 192 #[.val (.long i0), .second, .val (.int i1), .val (.int i2), .val (.int jz4), .val (.int jz5), .val (.int jz6), .val (.int jz7), .val (.int jz8), .val (.int jz9), .val (.ref b1), .val (.ref b4), .unset] [(.int jz4)]))
              refine Go.st (fun t k => XS.ifNo X105.here hx rfl (hb hby at_192) rfl (Jvm.Free.XT.i0_eq_f hc17) k) ?_
              show Go p e below _ (T105.setTop (mkF m 195 #[.val (.long i0), .second, .val (.int i1), .val (.int i2), .val (.int jz4), .val (.int jz5), .val (.int jz6), .val (.int jz7), .val (.int jz8), .val (.int jz9), .val (.ref b1), .val (.ref b4), .unset] []))
              refine Go.st (fun t k => XS.iconst X105.here hx rfl (hb hby at_195) k) ?_
              show Go p e below _ (T105.setTop (mkF m 196 #[.val (.long i0), .second, .val (.int i1), .val (.int i2), .val (.int jz4), .val (.int jz5), .val (.int jz6), .val (.int jz7), .val (.int jz8), .val (.int jz9), .val (.ref b1), .val (.ref b4), .unset] [(.int (1 : Int32))]))
              refine Go.st (fun t k => XS.istore X105.here hx rfl (hb hby at_196) rfl (l' := #[.val (.long i0), .second, .val (.int i1), .val (.int i2), .val (.int jz4), .val (.int jz5), .val (.int jz6), .val (.int jz7), .val (.int jz8), .val (.int jz9), .val (.ref b1), .val (.ref b4), .val (.int (1 : Int32))]) rfl k) ?_
              show Go p e below _ (T105.setTop (mkF m 198 #[.val (.long i0), .second, .val (.int i1), .val (.int i2), .val (.int jz4), .val (.int jz5), .val (.int jz6), .val (.int jz7), .val (.int jz8), .val (.int jz9), .val (.ref b1), .val (.ref b4), .val (.int (1 : Int32))] []))
              refine Go.st (fun t k => XS.goto X105.here hx rfl (pc0 := 198) (pc' := 225) rfl (hb hby at_198) (by decide) (by decide) k) ?_
              show Go p e below _ (T105.setTop (mkF m 225 #[.val (.long i0), .second, .val (.int i1), .val (.int i2), .val (.int jz4), .val (.int jz5), .val (.int jz6), .val (.int jz7), .val (.int jz8), .val (.int jz9), .val (.ref b1), .val (.ref b4), .val (.int (1 : Int32))] []))
              refine Go.st (fun t k => XS.aload X105.here hx rfl (hb hby at_225) rfl rfl k) ?_
              show Go p e below _ (T105.setTop (mkF m 227 #[.val (.long i0), .second, .val (.int i1), .val (.int i2), .val (.int jz4), .val (.int jz5), .val (.int jz6), .val (.int jz7), .val (.int jz8), .val (.int jz9), .val (.ref b1), .val (.ref b4), .val (.int (1 : Int32))] [(.ref b4)]))
              obtain ⟨cq106, kq106, q106a, q106b, q106c⟩ := isOf hZ rfl ((c101.keep K102c).keep K105c)
              obtain ⟨_, _, ⟨T106, L106, k106, n106⟩, -, X106, ⟨Lc106, hQ106, l106, y106, z106⟩, st106⟩ := X105.virtualBack hx (y := (⟨"com/example/outbound_courier/outboundcourier/http/RequestHead", "hasBody", "()Z"⟩ : MethodName)) (z := (⟨"com/example/outbound_courier/outboundcourier/http/RequestHead", "hasBody", "()Z"⟩ : MethodName)) hown (mvT hZ (w75 hw)) (mvT hZ (w76 hw)) (notFace_of_selects (args := #[]) (mvT hZ (w78 hw))) (mvT hZ (w78 hw)) (mvT hZ (w77 hw)) (by decide) (backOf (W := 0) (rm12_4 l Z a0 hw [] b4 T105.heap n0 O105 r105_5) hZ (w79 hw) (w3 hw) (by decide) (by decide)) q106a q106c (g := (mkF m 227 #[.val (.long i0), .second, .val (.int i1), .val (.int i2), .val (.int jz4), .val (.int jz5), .val (.int jz6), .val (.int jz7), .val (.int jz8), .val (.int jz9), .val (.ref b1), .val (.ref b4), .val (.int (1 : Int32))] [(.ref b4)])) rfl (by rw [hml]; rfl) (Steps.refl _) (argsL := []) (rest := []) (lenOf pd_7 rfl) rfl (by show 2 * 0 + _ ≤ _; exact Nat.le_of_eq rfl) (hb hby at_227) (fun vm₁ hw₁ => ⟨rfl, rfl, (by decide : 5 + 0 ≤ _), (by decide : 20 + 0 ≤ _)⟩)
              dsimp only [Pt.U, Pt.locs, Pt.cells, Pt.slots] at X106 l106 y106 z106 st106 hQ106
              subst l106 y106 z106
              obtain ⟨rfl, M106, eh106⟩ := hQ106
              have N106 := Fr.app N105 M106
              refine Go.tr st106 ?_
              show Go p e below _ (T106.setTop (mkF m 230 #[.val (.long i0), .second, .val (.int i1), .val (.int i2), .val (.int jz4), .val (.int jz5), .val (.int jz6), .val (.int jz7), .val (.int jz8), .val (.int jz9), .val (.ref b1), .val (.ref b4), .val (.int (1 : Int32))] [(.int (1 : Int32))]))
              refine Go.st (fun t k => XS.iload X106.here hx rfl (hb hby at_230) rfl k) ?_
              show Go p e below _ (T106.setTop (mkF m 232 #[.val (.long i0), .second, .val (.int i1), .val (.int i2), .val (.int jz4), .val (.int jz5), .val (.int jz6), .val (.int jz7), .val (.int jz8), .val (.int jz9), .val (.ref b1), .val (.ref b4), .val (.int (1 : Int32))] [(.int (1 : Int32)), (.int (1 : Int32))]))
              refine Go.st (fun t k => XS.icmpNo X106.here hx rfl (hb hby at_232) rfl (Jvm.Free.XT.ii_ne_f (by decide : (1 : Int32) = (1 : Int32))) k) ?_
              show Go p e below _ (T106.setTop (mkF m 235 #[.val (.long i0), .second, .val (.int i1), .val (.int i2), .val (.int jz4), .val (.int jz5), .val (.int jz6), .val (.int jz7), .val (.int jz8), .val (.int jz9), .val (.ref b1), .val (.ref b4), .val (.int (1 : Int32))] []))
              refine Go.st (fun t k => XS.iconst X106.here hx rfl (hb hby at_235) k) ?_
              show Go p e below _ (T106.setTop (mkF m 236 #[.val (.long i0), .second, .val (.int i1), .val (.int i2), .val (.int jz4), .val (.int jz5), .val (.int jz6), .val (.int jz7), .val (.int jz8), .val (.int jz9), .val (.ref b1), .val (.ref b4), .val (.int (1 : Int32))] [(.int (1 : Int32))]))
              refine Go.st (fun t k => XS.goto X106.here hx rfl (pc0 := 236) (pc' := 240) rfl (hb hby at_236) (by decide) (by decide) k) ?_
              show Go p e below _ (T106.setTop (mkF m 240 #[.val (.long i0), .second, .val (.int i1), .val (.int i2), .val (.int jz4), .val (.int jz5), .val (.int jz6), .val (.int jz7), .val (.int jz8), .val (.int jz9), .val (.ref b1), .val (.ref b4), .val (.int (1 : Int32))] [(.int (1 : Int32))]))
              obtain ⟨fs, hr, hrun, hended, hWd, hsame⟩ := X106.leave (v := some (.int (1 : Int32))) (fun h => by rw [Bd.returns] at h; cases h)
              refine ⟨_, _, ?_, hrun, hended, _, _, rfl, ?_, ⟨⟨_, rfl⟩, hWd, hsame.mono (by decide) (by decide)⟩⟩
              · exact retN X106 hx (t := .boolean) Bd.returns (by simp) (hb hby at_240) hr
              · exact ⟨rfl, N106⟩
        · refine Go.st (fun t k => XS.ifNo X92.here hx rfl (hb hby at_146) rfl (Jvm.Free.XT.i0_eq_f hc93) k) ?_
          show Go p e below _ (T92.setTop (mkF m 149 #[.val (.long i0), .second, .val (.int i1), .val (.int i2), .val (.int jz4), .val (.int jz5), .val (.int jz6), .val (.int jz7), .val (.int jz8), .val (.int jz9), .val (.ref b1), .val (.ref b4), .unset] []))
          refine Go.st (fun t k => XS.aload X92.here hx rfl (hb hby at_149) rfl rfl k) ?_
          show Go p e below _ (T92.setTop (mkF m 151 #[.val (.long i0), .second, .val (.int i1), .val (.int i2), .val (.int jz4), .val (.int jz5), .val (.int jz6), .val (.int jz7), .val (.int jz8), .val (.int jz9), .val (.ref b1), .val (.ref b4), .unset] [(.ref b4)]))
          refine Go.st (fun t k => XS.lloadN X92.here hx rfl (hb hby at_151) rfl k) ?_
          show Go p e below _ (T92.setTop (mkF m 152 #[.val (.long i0), .second, .val (.int i1), .val (.int i2), .val (.int jz4), .val (.int jz5), .val (.int jz6), .val (.int jz7), .val (.int jz8), .val (.int jz9), .val (.ref b1), .val (.ref b4), .unset] [(.long i0), (.ref b4)]))
          have c107 := ((((A4.ext E5).keep K8c).keep K16c).keep K92c)
          obtain ⟨cq108, kq108, q108a, q108b, q108c⟩ := isOf hZ rfl c107
          obtain ⟨_, _, ⟨T108, L108, k108, n108⟩, -, X108, ⟨Lc108, hQ108, l108, y108, z108⟩, st108⟩ := X92.virtualBack hx (y := (⟨"com/example/outbound_courier/outboundcourier/http/RequestHead", "setContentLength", "(J)V"⟩ : MethodName)) (z := (⟨"com/example/outbound_courier/outboundcourier/http/RequestHead", "setContentLength", "(J)V"⟩ : MethodName)) hown (mvT hZ (w70 hw)) (mvT hZ (w71 hw)) (notFace_of_selects (args := #[]) (mvT hZ (w73 hw))) (mvT hZ (w73 hw)) (mvT hZ (w72 hw)) (by decide) (backOf (W := 0) (rm11_2 l Z a0 hw [] b4 i0 b2_16 b5 jz9 T92.heap n0 O92 c107 r92_2 g_b4 r92_1 r92_3 r92_4 r92_0 r92_5 r92_6) hZ (w74 hw) (w3 hw) (by decide) (by decide)) q108a q108c (g := (mkF m 152 #[.val (.long i0), .second, .val (.int i1), .val (.int i2), .val (.int jz4), .val (.int jz5), .val (.int jz6), .val (.int jz7), .val (.int jz8), .val (.int jz9), .val (.ref b1), .val (.ref b4), .unset] [(.long i0), (.ref b4)])) rfl (by rw [hml]; rfl) (Steps.refl _) (argsL := [(.long i0)]) (rest := []) (lenOf pd_8 rfl) rfl (by show 2 * 0 + _ ≤ _; exact Nat.le_of_eq rfl) (hb hby at_152) (fun vm₁ hw₁ => ⟨rfl, rfl, (by decide : 5 + 0 ≤ _), (by decide : 20 + 0 ≤ _)⟩)
          dsimp only [Pt.U, Pt.locs, Pt.cells, Pt.slots] at X108 l108 y108 z108 st108 hQ108
          subst l108 y108 z108
          obtain ⟨rfl, M108, K108c, r108_0, r108_1, r108_2, r108_3, r108_4, r108_5, r108_6⟩ := hQ108
          have N108 := Fr.app N92 M108
          have O108 : Old Z n0 T108.heap := O92.keep K108c (allS g_b4 all0)
          refine Go.tr st108 ?_
          show Go p e below _ (T108.setTop (mkF m 155 #[.val (.long i0), .second, .val (.int i1), .val (.int i2), .val (.int jz4), .val (.int jz5), .val (.int jz6), .val (.int jz7), .val (.int jz8), .val (.int jz9), .val (.ref b1), .val (.ref b4), .unset] []))
          refine Go.st (fun t k => XS.iload X108.here hx rfl (hb hby at_155) rfl k) ?_
          show Go p e below _ (T108.setTop (mkF m 157 #[.val (.long i0), .second, .val (.int i1), .val (.int i2), .val (.int jz4), .val (.int jz5), .val (.int jz6), .val (.int jz7), .val (.int jz8), .val (.int jz9), .val (.ref b1), .val (.ref b4), .unset] [(.int jz4)]))
          refine Go.st (fun t k => XS.ifNo X108.here hx rfl (hb hby at_157) rfl (Jvm.Free.XT.i0_eq_f hc17) k) ?_
          show Go p e below _ (T108.setTop (mkF m 160 #[.val (.long i0), .second, .val (.int i1), .val (.int i2), .val (.int jz4), .val (.int jz5), .val (.int jz6), .val (.int jz7), .val (.int jz8), .val (.int jz9), .val (.ref b1), .val (.ref b4), .unset] []))
          refine Go.st (fun t k => XS.iload X108.here hx rfl (hb hby at_160) rfl k) ?_
          show Go p e below _ (T108.setTop (mkF m 162 #[.val (.long i0), .second, .val (.int i1), .val (.int i2), .val (.int jz4), .val (.int jz5), .val (.int jz6), .val (.int jz7), .val (.int jz8), .val (.int jz9), .val (.ref b1), .val (.ref b4), .unset] [(.int jz6)]))
          refine Go.st (fun t k => XS.ifYes X108.here hx rfl (pc0 := 162) (pc' := 170) rfl (hb hby at_162) rfl (Jvm.Free.XT.i0_ne_t hc63) (by decide) (by decide) k) ?_
          show Go p e below _ (T108.setTop (mkF m 170 #[.val (.long i0), .second, .val (.int i1), .val (.int i2), .val (.int jz4), .val (.int jz5), .val (.int jz6), .val (.int jz7), .val (.int jz8), .val (.int jz9), .val (.ref b1), .val (.ref b4), .unset] []))
          refine Go.st (fun t k => XS.iload X108.here hx rfl (hb hby at_170) rfl k) ?_
          show Go p e below _ (T108.setTop (mkF m 172 #[.val (.long i0), .second, .val (.int i1), .val (.int i2), .val (.int jz4), .val (.int jz5), .val (.int jz6), .val (.int jz7), .val (.int jz8), .val (.int jz9), .val (.ref b1), .val (.ref b4), .unset] [(.int jz7)]))
          by_cases hc109 : jz7 = (0 : Int32)
          · refine Go.st (fun t k => XS.ifYes X108.here hx rfl (pc0 := 172) (pc' := 180) rfl (hb hby at_172) rfl (Jvm.Free.XT.i0_eq_t hc109) (by decide) (by decide) k) ?_
            show Go p e below _ (T108.setTop (mkF m 180 #[.val (.long i0), .second, .val (.int i1), .val (.int i2), .val (.int jz4), .val (.int jz5), .val (.int jz6), .val (.int jz7), .val (.int jz8), .val (.int jz9), .val (.ref b1), .val (.ref b4), .unset] []))
            refine Go.st (fun t k => XS.iload X108.here hx rfl (hb hby at_180) rfl k) ?_
            show Go p e below _ (T108.setTop (mkF m 182 #[.val (.long i0), .second, .val (.int i1), .val (.int i2), .val (.int jz4), .val (.int jz5), .val (.int jz6), .val (.int jz7), .val (.int jz8), .val (.int jz9), .val (.ref b1), .val (.ref b4), .unset] [(.int jz8)]))
            by_cases hc110 : jz8 = (0 : Int32)
            · refine Go.st (fun t k => XS.ifYes X108.here hx rfl (pc0 := 182) (pc' := 190) rfl (hb hby at_182) rfl (Jvm.Free.XT.i0_eq_t hc110) (by decide) (by decide) k) ?_
              show Go p e below _ (T108.setTop (mkF m 190 #[.val (.long i0), .second, .val (.int i1), .val (.int i2), .val (.int jz4), .val (.int jz5), .val (.int jz6), .val (.int jz7), .val (.int jz8), .val (.int jz9), .val (.ref b1), .val (.ref b4), .unset] []))
              refine Go.st (fun t k => XS.iload X108.here hx rfl (hb hby at_190) rfl k) ?_
              show Go p e below _ (T108.setTop (mkF m 192 #[.val (.long i0), .second, .val (.int i1), .val (.int i2), .val (.int jz4), .val (.int jz5), .val (.int jz6), .val (.int jz7), .val (.int jz8), .val (.int jz9), .val (.ref b1), .val (.ref b4), .unset] [(.int jz4)]))
              refine Go.st (fun t k => XS.ifNo X108.here hx rfl (hb hby at_192) rfl (Jvm.Free.XT.i0_eq_f hc17) k) ?_
              show Go p e below _ (T108.setTop (mkF m 195 #[.val (.long i0), .second, .val (.int i1), .val (.int i2), .val (.int jz4), .val (.int jz5), .val (.int jz6), .val (.int jz7), .val (.int jz8), .val (.int jz9), .val (.ref b1), .val (.ref b4), .unset] []))
              refine Go.st (fun t k => XS.iconst X108.here hx rfl (hb hby at_195) k) ?_
              show Go p e below _ (T108.setTop (mkF m 196 #[.val (.long i0), .second, .val (.int i1), .val (.int i2), .val (.int jz4), .val (.int jz5), .val (.int jz6), .val (.int jz7), .val (.int jz8), .val (.int jz9), .val (.ref b1), .val (.ref b4), .unset] [(.int (1 : Int32))]))
              refine Go.st (fun t k => XS.istore X108.here hx rfl (hb hby at_196) rfl (l' := #[.val (.long i0), .second, .val (.int i1), .val (.int i2), .val (.int jz4), .val (.int jz5), .val (.int jz6), .val (.int jz7), .val (.int jz8), .val (.int jz9), .val (.ref b1), .val (.ref b4), .val (.int (1 : Int32))]) rfl k) ?_
              show Go p e below _ (T108.setTop (mkF m 198 #[.val (.long i0), .second, .val (.int i1), .val (.int i2), .val (.int jz4), .val (.int jz5), .val (.int jz6), .val (.int jz7), .val (.int jz8), .val (.int jz9), .val (.ref b1), .val (.ref b4), .val (.int (1 : Int32))] []))
              refine Go.st (fun t k => XS.goto X108.here hx rfl (pc0 := 198) (pc' := 225) rfl (hb hby at_198) (by decide) (by decide) k) ?_
              show Go p e below _ (T108.setTop (mkF m 225 #[.val (.long i0), .second, .val (.int i1), .val (.int i2), .val (.int jz4), .val (.int jz5), .val (.int jz6), .val (.int jz7), .val (.int jz8), .val (.int jz9), .val (.ref b1), .val (.ref b4), .val (.int (1 : Int32))] []))
              refine Go.st (fun t k => XS.aload X108.here hx rfl (hb hby at_225) rfl rfl k) ?_
              show Go p e below _ (T108.setTop (mkF m 227 #[.val (.long i0), .second, .val (.int i1), .val (.int i2), .val (.int jz4), .val (.int jz5), .val (.int jz6), .val (.int jz7), .val (.int jz8), .val (.int jz9), .val (.ref b1), .val (.ref b4), .val (.int (1 : Int32))] [(.ref b4)]))
              obtain ⟨cq111, kq111, q111a, q111b, q111c⟩ := isOf hZ rfl (c107.keep K108c)
              obtain ⟨_, _, ⟨T111, L111, k111, n111⟩, -, X111, ⟨Lc111, hQ111, l111, y111, z111⟩, st111⟩ := X108.virtualBack hx (y := (⟨"com/example/outbound_courier/outboundcourier/http/RequestHead", "hasBody", "()Z"⟩ : MethodName)) (z := (⟨"com/example/outbound_courier/outboundcourier/http/RequestHead", "hasBody", "()Z"⟩ : MethodName)) hown (mvT hZ (w75 hw)) (mvT hZ (w76 hw)) (notFace_of_selects (args := #[]) (mvT hZ (w78 hw))) (mvT hZ (w78 hw)) (mvT hZ (w77 hw)) (by decide) (backOf (W := 0) (rm12_4 l Z a0 hw [] b4 T108.heap n0 O108 r108_4) hZ (w79 hw) (w3 hw) (by decide) (by decide)) q111a q111c (g := (mkF m 227 #[.val (.long i0), .second, .val (.int i1), .val (.int i2), .val (.int jz4), .val (.int jz5), .val (.int jz6), .val (.int jz7), .val (.int jz8), .val (.int jz9), .val (.ref b1), .val (.ref b4), .val (.int (1 : Int32))] [(.ref b4)])) rfl (by rw [hml]; rfl) (Steps.refl _) (argsL := []) (rest := []) (lenOf pd_7 rfl) rfl (by show 2 * 0 + _ ≤ _; exact Nat.le_of_eq rfl) (hb hby at_227) (fun vm₁ hw₁ => ⟨rfl, rfl, (by decide : 5 + 0 ≤ _), (by decide : 20 + 0 ≤ _)⟩)
              dsimp only [Pt.U, Pt.locs, Pt.cells, Pt.slots] at X111 l111 y111 z111 st111 hQ111
              subst l111 y111 z111
              obtain ⟨rfl, M111, eh111⟩ := hQ111
              have N111 := Fr.app N108 M111
              refine Go.tr st111 ?_
              show Go p e below _ (T111.setTop (mkF m 230 #[.val (.long i0), .second, .val (.int i1), .val (.int i2), .val (.int jz4), .val (.int jz5), .val (.int jz6), .val (.int jz7), .val (.int jz8), .val (.int jz9), .val (.ref b1), .val (.ref b4), .val (.int (1 : Int32))] [(.int (1 : Int32))]))
              refine Go.st (fun t k => XS.iload X111.here hx rfl (hb hby at_230) rfl k) ?_
              show Go p e below _ (T111.setTop (mkF m 232 #[.val (.long i0), .second, .val (.int i1), .val (.int i2), .val (.int jz4), .val (.int jz5), .val (.int jz6), .val (.int jz7), .val (.int jz8), .val (.int jz9), .val (.ref b1), .val (.ref b4), .val (.int (1 : Int32))] [(.int (1 : Int32)), (.int (1 : Int32))]))
              refine Go.st (fun t k => XS.icmpNo X111.here hx rfl (hb hby at_232) rfl (Jvm.Free.XT.ii_ne_f (by decide : (1 : Int32) = (1 : Int32))) k) ?_
              show Go p e below _ (T111.setTop (mkF m 235 #[.val (.long i0), .second, .val (.int i1), .val (.int i2), .val (.int jz4), .val (.int jz5), .val (.int jz6), .val (.int jz7), .val (.int jz8), .val (.int jz9), .val (.ref b1), .val (.ref b4), .val (.int (1 : Int32))] []))
              refine Go.st (fun t k => XS.iconst X111.here hx rfl (hb hby at_235) k) ?_
              show Go p e below _ (T111.setTop (mkF m 236 #[.val (.long i0), .second, .val (.int i1), .val (.int i2), .val (.int jz4), .val (.int jz5), .val (.int jz6), .val (.int jz7), .val (.int jz8), .val (.int jz9), .val (.ref b1), .val (.ref b4), .val (.int (1 : Int32))] [(.int (1 : Int32))]))
              refine Go.st (fun t k => XS.goto X111.here hx rfl (pc0 := 236) (pc' := 240) rfl (hb hby at_236) (by decide) (by decide) k) ?_
              show Go p e below _ (T111.setTop (mkF m 240 #[.val (.long i0), .second, .val (.int i1), .val (.int i2), .val (.int jz4), .val (.int jz5), .val (.int jz6), .val (.int jz7), .val (.int jz8), .val (.int jz9), .val (.ref b1), .val (.ref b4), .val (.int (1 : Int32))] [(.int (1 : Int32))]))
              obtain ⟨fs, hr, hrun, hended, hWd, hsame⟩ := X111.leave (v := some (.int (1 : Int32))) (fun h => by rw [Bd.returns] at h; cases h)
              refine ⟨_, _, ?_, hrun, hended, _, _, rfl, ?_, ⟨⟨_, rfl⟩, hWd, hsame.mono (by decide) (by decide)⟩⟩
              · exact retN X111 hx (t := .boolean) Bd.returns (by simp) (hb hby at_240) hr
              · exact ⟨rfl, N111⟩
            · refine Go.st (fun t k => XS.ifNo X108.here hx rfl (hb hby at_182) rfl (Jvm.Free.XT.i0_eq_f hc110) k) ?_
              show Go p e below _ (T108.setTop (mkF m 185 #[.val (.long i0), .second, .val (.int i1), .val (.int i2), .val (.int jz4), .val (.int jz5), .val (.int jz6), .val (.int jz7), .val (.int jz8), .val (.int jz9), .val (.ref b1), .val (.ref b4), .unset] []))
              refine Go.st (fun t k => XS.aload X108.here hx rfl (hb hby at_185) rfl rfl k) ?_
              show Go p e below _ (T108.setTop (mkF m 187 #[.val (.long i0), .second, .val (.int i1), .val (.int i2), .val (.int jz4), .val (.int jz5), .val (.int jz6), .val (.int jz7), .val (.int jz8), .val (.int jz9), .val (.ref b1), .val (.ref b4), .unset] [(.ref b4)]))
              obtain ⟨cq112, kq112, q112a, q112b, q112c⟩ := isOf hZ rfl (c107.keep K108c)
              obtain ⟨_, _, ⟨T112, L112, k112, n112⟩, -, X112, ⟨Lc112, hQ112, l112, y112, z112⟩, st112⟩ := X108.virtualBack hx (y := (⟨"com/example/outbound_courier/outboundcourier/http/RequestHead", "setExpectsContinue", "()V"⟩ : MethodName)) (z := (⟨"com/example/outbound_courier/outboundcourier/http/RequestHead", "setExpectsContinue", "()V"⟩ : MethodName)) hown (mvT hZ (w89 hw)) (mvT hZ (w90 hw)) (notFace_of_selects (args := #[]) (mvT hZ (w92 hw))) (mvT hZ (w92 hw)) (mvT hZ (w91 hw)) (by decide) (backOf (W := 0) (rm14_7 l Z a0 hw [] b4 b2_16 i0 b5 jz9 T108.heap n0 O108 (c107.keep K108c) r108_6 g_b4 r108_1 r108_0 r108_2 r108_3 r108_4 r108_5) hZ (w93 hw) (w3 hw) (by decide) (by decide)) q112a q112c (g := (mkF m 187 #[.val (.long i0), .second, .val (.int i1), .val (.int i2), .val (.int jz4), .val (.int jz5), .val (.int jz6), .val (.int jz7), .val (.int jz8), .val (.int jz9), .val (.ref b1), .val (.ref b4), .unset] [(.ref b4)])) rfl (by rw [hml]; rfl) (Steps.refl _) (argsL := []) (rest := []) (lenOf pd_5 rfl) rfl (by show 2 * 0 + _ ≤ _; exact Nat.le_of_eq rfl) (hb hby at_187) (fun vm₁ hw₁ => ⟨rfl, rfl, (by decide : 5 + 0 ≤ _), (by decide : 20 + 0 ≤ _)⟩)
              dsimp only [Pt.U, Pt.locs, Pt.cells, Pt.slots] at X112 l112 y112 z112 st112 hQ112
              subst l112 y112 z112
              obtain ⟨rfl, M112, K112c, r112_0, r112_1, r112_2, r112_3, r112_4, r112_5, r112_6⟩ := hQ112
              have N112 := Fr.app N108 M112
              have O112 : Old Z n0 T112.heap := O108.keep K112c (allS g_b4 all0)
              refine Go.tr st112 ?_
              show Go p e below _ (T112.setTop (mkF m 190 #[.val (.long i0), .second, .val (.int i1), .val (.int i2), .val (.int jz4), .val (.int jz5), .val (.int jz6), .val (.int jz7), .val (.int jz8), .val (.int jz9), .val (.ref b1), .val (.ref b4), .unset] []))
              refine Go.st (fun t k => XS.iload X112.here hx rfl (hb hby at_190) rfl k) ?_
              show Go p e below _ (T112.setTop (mkF m 192 #[.val (.long i0), .second, .val (.int i1), .val (.int i2), .val (.int jz4), .val (.int jz5), .val (.int jz6), .val (.int jz7), .val (.int jz8), .val (.int jz9), .val (.ref b1), .val (.ref b4), .unset] [(.int jz4)]))
              refine Go.st (fun t k => XS.ifNo X112.here hx rfl (hb hby at_192) rfl (Jvm.Free.XT.i0_eq_f hc17) k) ?_
              show Go p e below _ (T112.setTop (mkF m 195 #[.val (.long i0), .second, .val (.int i1), .val (.int i2), .val (.int jz4), .val (.int jz5), .val (.int jz6), .val (.int jz7), .val (.int jz8), .val (.int jz9), .val (.ref b1), .val (.ref b4), .unset] []))
              refine Go.st (fun t k => XS.iconst X112.here hx rfl (hb hby at_195) k) ?_
              show Go p e below _ (T112.setTop (mkF m 196 #[.val (.long i0), .second, .val (.int i1), .val (.int i2), .val (.int jz4), .val (.int jz5), .val (.int jz6), .val (.int jz7), .val (.int jz8), .val (.int jz9), .val (.ref b1), .val (.ref b4), .unset] [(.int (1 : Int32))]))
              refine Go.st (fun t k => XS.istore X112.here hx rfl (hb hby at_196) rfl (l' := #[.val (.long i0), .second, .val (.int i1), .val (.int i2), .val (.int jz4), .val (.int jz5), .val (.int jz6), .val (.int jz7), .val (.int jz8), .val (.int jz9), .val (.ref b1), .val (.ref b4), .val (.int (1 : Int32))]) rfl k) ?_
              show Go p e below _ (T112.setTop (mkF m 198 #[.val (.long i0), .second, .val (.int i1), .val (.int i2), .val (.int jz4), .val (.int jz5), .val (.int jz6), .val (.int jz7), .val (.int jz8), .val (.int jz9), .val (.ref b1), .val (.ref b4), .val (.int (1 : Int32))] []))
              refine Go.st (fun t k => XS.goto X112.here hx rfl (pc0 := 198) (pc' := 225) rfl (hb hby at_198) (by decide) (by decide) k) ?_
              show Go p e below _ (T112.setTop (mkF m 225 #[.val (.long i0), .second, .val (.int i1), .val (.int i2), .val (.int jz4), .val (.int jz5), .val (.int jz6), .val (.int jz7), .val (.int jz8), .val (.int jz9), .val (.ref b1), .val (.ref b4), .val (.int (1 : Int32))] []))
              refine Go.st (fun t k => XS.aload X112.here hx rfl (hb hby at_225) rfl rfl k) ?_
              show Go p e below _ (T112.setTop (mkF m 227 #[.val (.long i0), .second, .val (.int i1), .val (.int i2), .val (.int jz4), .val (.int jz5), .val (.int jz6), .val (.int jz7), .val (.int jz8), .val (.int jz9), .val (.ref b1), .val (.ref b4), .val (.int (1 : Int32))] [(.ref b4)]))
              obtain ⟨cq113, kq113, q113a, q113b, q113c⟩ := isOf hZ rfl ((c107.keep K108c).keep K112c)
              obtain ⟨_, _, ⟨T113, L113, k113, n113⟩, -, X113, ⟨Lc113, hQ113, l113, y113, z113⟩, st113⟩ := X112.virtualBack hx (y := (⟨"com/example/outbound_courier/outboundcourier/http/RequestHead", "hasBody", "()Z"⟩ : MethodName)) (z := (⟨"com/example/outbound_courier/outboundcourier/http/RequestHead", "hasBody", "()Z"⟩ : MethodName)) hown (mvT hZ (w75 hw)) (mvT hZ (w76 hw)) (notFace_of_selects (args := #[]) (mvT hZ (w78 hw))) (mvT hZ (w78 hw)) (mvT hZ (w77 hw)) (by decide) (backOf (W := 0) (rm12_4 l Z a0 hw [] b4 T112.heap n0 O112 r112_5) hZ (w79 hw) (w3 hw) (by decide) (by decide)) q113a q113c (g := (mkF m 227 #[.val (.long i0), .second, .val (.int i1), .val (.int i2), .val (.int jz4), .val (.int jz5), .val (.int jz6), .val (.int jz7), .val (.int jz8), .val (.int jz9), .val (.ref b1), .val (.ref b4), .val (.int (1 : Int32))] [(.ref b4)])) rfl (by rw [hml]; rfl) (Steps.refl _) (argsL := []) (rest := []) (lenOf pd_7 rfl) rfl (by show 2 * 0 + _ ≤ _; exact Nat.le_of_eq rfl) (hb hby at_227) (fun vm₁ hw₁ => ⟨rfl, rfl, (by decide : 5 + 0 ≤ _), (by decide : 20 + 0 ≤ _)⟩)
              dsimp only [Pt.U, Pt.locs, Pt.cells, Pt.slots] at X113 l113 y113 z113 st113 hQ113
              subst l113 y113 z113
              obtain ⟨rfl, M113, eh113⟩ := hQ113
              have N113 := Fr.app N112 M113
              refine Go.tr st113 ?_
              show Go p e below _ (T113.setTop (mkF m 230 #[.val (.long i0), .second, .val (.int i1), .val (.int i2), .val (.int jz4), .val (.int jz5), .val (.int jz6), .val (.int jz7), .val (.int jz8), .val (.int jz9), .val (.ref b1), .val (.ref b4), .val (.int (1 : Int32))] [(.int (1 : Int32))]))
              refine Go.st (fun t k => XS.iload X113.here hx rfl (hb hby at_230) rfl k) ?_
              show Go p e below _ (T113.setTop (mkF m 232 #[.val (.long i0), .second, .val (.int i1), .val (.int i2), .val (.int jz4), .val (.int jz5), .val (.int jz6), .val (.int jz7), .val (.int jz8), .val (.int jz9), .val (.ref b1), .val (.ref b4), .val (.int (1 : Int32))] [(.int (1 : Int32)), (.int (1 : Int32))]))
              refine Go.st (fun t k => XS.icmpNo X113.here hx rfl (hb hby at_232) rfl (Jvm.Free.XT.ii_ne_f (by decide : (1 : Int32) = (1 : Int32))) k) ?_
              show Go p e below _ (T113.setTop (mkF m 235 #[.val (.long i0), .second, .val (.int i1), .val (.int i2), .val (.int jz4), .val (.int jz5), .val (.int jz6), .val (.int jz7), .val (.int jz8), .val (.int jz9), .val (.ref b1), .val (.ref b4), .val (.int (1 : Int32))] []))
              refine Go.st (fun t k => XS.iconst X113.here hx rfl (hb hby at_235) k) ?_
              show Go p e below _ (T113.setTop (mkF m 236 #[.val (.long i0), .second, .val (.int i1), .val (.int i2), .val (.int jz4), .val (.int jz5), .val (.int jz6), .val (.int jz7), .val (.int jz8), .val (.int jz9), .val (.ref b1), .val (.ref b4), .val (.int (1 : Int32))] [(.int (1 : Int32))]))
              refine Go.st (fun t k => XS.goto X113.here hx rfl (pc0 := 236) (pc' := 240) rfl (hb hby at_236) (by decide) (by decide) k) ?_
              show Go p e below _ (T113.setTop (mkF m 240 #[.val (.long i0), .second, .val (.int i1), .val (.int i2), .val (.int jz4), .val (.int jz5), .val (.int jz6), .val (.int jz7), .val (.int jz8), .val (.int jz9), .val (.ref b1), .val (.ref b4), .val (.int (1 : Int32))] [(.int (1 : Int32))]))
              obtain ⟨fs, hr, hrun, hended, hWd, hsame⟩ := X113.leave (v := some (.int (1 : Int32))) (fun h => by rw [Bd.returns] at h; cases h)
              refine ⟨_, _, ?_, hrun, hended, _, _, rfl, ?_, ⟨⟨_, rfl⟩, hWd, hsame.mono (by decide) (by decide)⟩⟩
              · exact retN X113 hx (t := .boolean) Bd.returns (by simp) (hb hby at_240) hr
              · exact ⟨rfl, N113⟩
          · refine Go.st (fun t k => XS.ifNo X108.here hx rfl (hb hby at_172) rfl (Jvm.Free.XT.i0_eq_f hc109) k) ?_
            show Go p e below _ (T108.setTop (mkF m 175 #[.val (.long i0), .second, .val (.int i1), .val (.int i2), .val (.int jz4), .val (.int jz5), .val (.int jz6), .val (.int jz7), .val (.int jz8), .val (.int jz9), .val (.ref b1), .val (.ref b4), .unset] []))
            refine Go.st (fun t k => XS.aload X108.here hx rfl (hb hby at_175) rfl rfl k) ?_
            show Go p e below _ (T108.setTop (mkF m 177 #[.val (.long i0), .second, .val (.int i1), .val (.int i2), .val (.int jz4), .val (.int jz5), .val (.int jz6), .val (.int jz7), .val (.int jz8), .val (.int jz9), .val (.ref b1), .val (.ref b4), .unset] [(.ref b4)]))
            obtain ⟨cq114, kq114, q114a, q114b, q114c⟩ := isOf hZ rfl (c107.keep K108c)
            obtain ⟨_, _, ⟨T114, L114, k114, n114⟩, -, X114, ⟨Lc114, hQ114, l114, y114, z114⟩, st114⟩ := X108.virtualBack hx (y := (⟨"com/example/outbound_courier/outboundcourier/http/RequestHead", "setClose", "()V"⟩ : MethodName)) (z := (⟨"com/example/outbound_courier/outboundcourier/http/RequestHead", "setClose", "()V"⟩ : MethodName)) hown (mvT hZ (w82 hw)) (mvT hZ (w83 hw)) (notFace_of_selects (args := #[]) (mvT hZ (w85 hw))) (mvT hZ (w85 hw)) (mvT hZ (w84 hw)) (by decide) (backOf (W := 0) (rm13_4 l Z a0 hw [] b4 b2_16 i0 b5 jz9 T108.heap n0 O108 (c107.keep K108c) r108_5 g_b4 r108_1 r108_0 r108_2 r108_3 r108_4 r108_6) hZ (w86 hw) (w3 hw) (by decide) (by decide)) q114a q114c (g := (mkF m 177 #[.val (.long i0), .second, .val (.int i1), .val (.int i2), .val (.int jz4), .val (.int jz5), .val (.int jz6), .val (.int jz7), .val (.int jz8), .val (.int jz9), .val (.ref b1), .val (.ref b4), .unset] [(.ref b4)])) rfl (by rw [hml]; rfl) (Steps.refl _) (argsL := []) (rest := []) (lenOf pd_5 rfl) rfl (by show 2 * 0 + _ ≤ _; exact Nat.le_of_eq rfl) (hb hby at_177) (fun vm₁ hw₁ => ⟨rfl, rfl, (by decide : 5 + 0 ≤ _), (by decide : 20 + 0 ≤ _)⟩)
            dsimp only [Pt.U, Pt.locs, Pt.cells, Pt.slots] at X114 l114 y114 z114 st114 hQ114
            subst l114 y114 z114
            obtain ⟨rfl, M114, K114c, r114_0, r114_1, r114_2, r114_3, r114_4, r114_5, r114_6⟩ := hQ114
            have N114 := Fr.app N108 M114
            have O114 : Old Z n0 T114.heap := O108.keep K114c (allS g_b4 all0)
            refine Go.tr st114 ?_
            show Go p e below _ (T114.setTop (mkF m 180 #[.val (.long i0), .second, .val (.int i1), .val (.int i2), .val (.int jz4), .val (.int jz5), .val (.int jz6), .val (.int jz7), .val (.int jz8), .val (.int jz9), .val (.ref b1), .val (.ref b4), .unset] []))
            refine Go.st (fun t k => XS.iload X114.here hx rfl (hb hby at_180) rfl k) ?_
            show Go p e below _ (T114.setTop (mkF m 182 #[.val (.long i0), .second, .val (.int i1), .val (.int i2), .val (.int jz4), .val (.int jz5), .val (.int jz6), .val (.int jz7), .val (.int jz8), .val (.int jz9), .val (.ref b1), .val (.ref b4), .unset] [(.int jz8)]))
            by_cases hc115 : jz8 = (0 : Int32)
            · refine Go.st (fun t k => XS.ifYes X114.here hx rfl (pc0 := 182) (pc' := 190) rfl (hb hby at_182) rfl (Jvm.Free.XT.i0_eq_t hc115) (by decide) (by decide) k) ?_
              show Go p e below _ (T114.setTop (mkF m 190 #[.val (.long i0), .second, .val (.int i1), .val (.int i2), .val (.int jz4), .val (.int jz5), .val (.int jz6), .val (.int jz7), .val (.int jz8), .val (.int jz9), .val (.ref b1), .val (.ref b4), .unset] []))
              refine Go.st (fun t k => XS.iload X114.here hx rfl (hb hby at_190) rfl k) ?_
              show Go p e below _ (T114.setTop (mkF m 192 #[.val (.long i0), .second, .val (.int i1), .val (.int i2), .val (.int jz4), .val (.int jz5), .val (.int jz6), .val (.int jz7), .val (.int jz8), .val (.int jz9), .val (.ref b1), .val (.ref b4), .unset] [(.int jz4)]))
              refine Go.st (fun t k => XS.ifNo X114.here hx rfl (hb hby at_192) rfl (Jvm.Free.XT.i0_eq_f hc17) k) ?_
              show Go p e below _ (T114.setTop (mkF m 195 #[.val (.long i0), .second, .val (.int i1), .val (.int i2), .val (.int jz4), .val (.int jz5), .val (.int jz6), .val (.int jz7), .val (.int jz8), .val (.int jz9), .val (.ref b1), .val (.ref b4), .unset] []))
              refine Go.st (fun t k => XS.iconst X114.here hx rfl (hb hby at_195) k) ?_
              show Go p e below _ (T114.setTop (mkF m 196 #[.val (.long i0), .second, .val (.int i1), .val (.int i2), .val (.int jz4), .val (.int jz5), .val (.int jz6), .val (.int jz7), .val (.int jz8), .val (.int jz9), .val (.ref b1), .val (.ref b4), .unset] [(.int (1 : Int32))]))
              refine Go.st (fun t k => XS.istore X114.here hx rfl (hb hby at_196) rfl (l' := #[.val (.long i0), .second, .val (.int i1), .val (.int i2), .val (.int jz4), .val (.int jz5), .val (.int jz6), .val (.int jz7), .val (.int jz8), .val (.int jz9), .val (.ref b1), .val (.ref b4), .val (.int (1 : Int32))]) rfl k) ?_
              show Go p e below _ (T114.setTop (mkF m 198 #[.val (.long i0), .second, .val (.int i1), .val (.int i2), .val (.int jz4), .val (.int jz5), .val (.int jz6), .val (.int jz7), .val (.int jz8), .val (.int jz9), .val (.ref b1), .val (.ref b4), .val (.int (1 : Int32))] []))
              refine Go.st (fun t k => XS.goto X114.here hx rfl (pc0 := 198) (pc' := 225) rfl (hb hby at_198) (by decide) (by decide) k) ?_
              show Go p e below _ (T114.setTop (mkF m 225 #[.val (.long i0), .second, .val (.int i1), .val (.int i2), .val (.int jz4), .val (.int jz5), .val (.int jz6), .val (.int jz7), .val (.int jz8), .val (.int jz9), .val (.ref b1), .val (.ref b4), .val (.int (1 : Int32))] []))
              refine Go.st (fun t k => XS.aload X114.here hx rfl (hb hby at_225) rfl rfl k) ?_
              show Go p e below _ (T114.setTop (mkF m 227 #[.val (.long i0), .second, .val (.int i1), .val (.int i2), .val (.int jz4), .val (.int jz5), .val (.int jz6), .val (.int jz7), .val (.int jz8), .val (.int jz9), .val (.ref b1), .val (.ref b4), .val (.int (1 : Int32))] [(.ref b4)]))
              obtain ⟨cq116, kq116, q116a, q116b, q116c⟩ := isOf hZ rfl ((c107.keep K108c).keep K114c)
              obtain ⟨_, _, ⟨T116, L116, k116, n116⟩, -, X116, ⟨Lc116, hQ116, l116, y116, z116⟩, st116⟩ := X114.virtualBack hx (y := (⟨"com/example/outbound_courier/outboundcourier/http/RequestHead", "hasBody", "()Z"⟩ : MethodName)) (z := (⟨"com/example/outbound_courier/outboundcourier/http/RequestHead", "hasBody", "()Z"⟩ : MethodName)) hown (mvT hZ (w75 hw)) (mvT hZ (w76 hw)) (notFace_of_selects (args := #[]) (mvT hZ (w78 hw))) (mvT hZ (w78 hw)) (mvT hZ (w77 hw)) (by decide) (backOf (W := 0) (rm12_4 l Z a0 hw [] b4 T114.heap n0 O114 r114_5) hZ (w79 hw) (w3 hw) (by decide) (by decide)) q116a q116c (g := (mkF m 227 #[.val (.long i0), .second, .val (.int i1), .val (.int i2), .val (.int jz4), .val (.int jz5), .val (.int jz6), .val (.int jz7), .val (.int jz8), .val (.int jz9), .val (.ref b1), .val (.ref b4), .val (.int (1 : Int32))] [(.ref b4)])) rfl (by rw [hml]; rfl) (Steps.refl _) (argsL := []) (rest := []) (lenOf pd_7 rfl) rfl (by show 2 * 0 + _ ≤ _; exact Nat.le_of_eq rfl) (hb hby at_227) (fun vm₁ hw₁ => ⟨rfl, rfl, (by decide : 5 + 0 ≤ _), (by decide : 20 + 0 ≤ _)⟩)
              dsimp only [Pt.U, Pt.locs, Pt.cells, Pt.slots] at X116 l116 y116 z116 st116 hQ116
              subst l116 y116 z116
              obtain ⟨rfl, M116, eh116⟩ := hQ116
              have N116 := Fr.app N114 M116
              refine Go.tr st116 ?_
              show Go p e below _ (T116.setTop (mkF m 230 #[.val (.long i0), .second, .val (.int i1), .val (.int i2), .val (.int jz4), .val (.int jz5), .val (.int jz6), .val (.int jz7), .val (.int jz8), .val (.int jz9), .val (.ref b1), .val (.ref b4), .val (.int (1 : Int32))] [(.int (1 : Int32))]))
              refine Go.st (fun t k => XS.iload X116.here hx rfl (hb hby at_230) rfl k) ?_
              show Go p e below _ (T116.setTop (mkF m 232 #[.val (.long i0), .second, .val (.int i1), .val (.int i2), .val (.int jz4), .val (.int jz5), .val (.int jz6), .val (.int jz7), .val (.int jz8), .val (.int jz9), .val (.ref b1), .val (.ref b4), .val (.int (1 : Int32))] [(.int (1 : Int32)), (.int (1 : Int32))]))
              refine Go.st (fun t k => XS.icmpNo X116.here hx rfl (hb hby at_232) rfl (Jvm.Free.XT.ii_ne_f (by decide : (1 : Int32) = (1 : Int32))) k) ?_
              show Go p e below _ (T116.setTop (mkF m 235 #[.val (.long i0), .second, .val (.int i1), .val (.int i2), .val (.int jz4), .val (.int jz5), .val (.int jz6), .val (.int jz7), .val (.int jz8), .val (.int jz9), .val (.ref b1), .val (.ref b4), .val (.int (1 : Int32))] []))
              refine Go.st (fun t k => XS.iconst X116.here hx rfl (hb hby at_235) k) ?_
              show Go p e below _ (T116.setTop (mkF m 236 #[.val (.long i0), .second, .val (.int i1), .val (.int i2), .val (.int jz4), .val (.int jz5), .val (.int jz6), .val (.int jz7), .val (.int jz8), .val (.int jz9), .val (.ref b1), .val (.ref b4), .val (.int (1 : Int32))] [(.int (1 : Int32))]))
              refine Go.st (fun t k => XS.goto X116.here hx rfl (pc0 := 236) (pc' := 240) rfl (hb hby at_236) (by decide) (by decide) k) ?_
              show Go p e below _ (T116.setTop (mkF m 240 #[.val (.long i0), .second, .val (.int i1), .val (.int i2), .val (.int jz4), .val (.int jz5), .val (.int jz6), .val (.int jz7), .val (.int jz8), .val (.int jz9), .val (.ref b1), .val (.ref b4), .val (.int (1 : Int32))] [(.int (1 : Int32))]))
              obtain ⟨fs, hr, hrun, hended, hWd, hsame⟩ := X116.leave (v := some (.int (1 : Int32))) (fun h => by rw [Bd.returns] at h; cases h)
              refine ⟨_, _, ?_, hrun, hended, _, _, rfl, ?_, ⟨⟨_, rfl⟩, hWd, hsame.mono (by decide) (by decide)⟩⟩
              · exact retN X116 hx (t := .boolean) Bd.returns (by simp) (hb hby at_240) hr
              · exact ⟨rfl, N116⟩
            · refine Go.st (fun t k => XS.ifNo X114.here hx rfl (hb hby at_182) rfl (Jvm.Free.XT.i0_eq_f hc115) k) ?_
              show Go p e below _ (T114.setTop (mkF m 185 #[.val (.long i0), .second, .val (.int i1), .val (.int i2), .val (.int jz4), .val (.int jz5), .val (.int jz6), .val (.int jz7), .val (.int jz8), .val (.int jz9), .val (.ref b1), .val (.ref b4), .unset] []))
              refine Go.st (fun t k => XS.aload X114.here hx rfl (hb hby at_185) rfl rfl k) ?_
              show Go p e below _ (T114.setTop (mkF m 187 #[.val (.long i0), .second, .val (.int i1), .val (.int i2), .val (.int jz4), .val (.int jz5), .val (.int jz6), .val (.int jz7), .val (.int jz8), .val (.int jz9), .val (.ref b1), .val (.ref b4), .unset] [(.ref b4)]))
              obtain ⟨cq117, kq117, q117a, q117b, q117c⟩ := isOf hZ rfl ((c107.keep K108c).keep K114c)
              obtain ⟨_, _, ⟨T117, L117, k117, n117⟩, -, X117, ⟨Lc117, hQ117, l117, y117, z117⟩, st117⟩ := X114.virtualBack hx (y := (⟨"com/example/outbound_courier/outboundcourier/http/RequestHead", "setExpectsContinue", "()V"⟩ : MethodName)) (z := (⟨"com/example/outbound_courier/outboundcourier/http/RequestHead", "setExpectsContinue", "()V"⟩ : MethodName)) hown (mvT hZ (w89 hw)) (mvT hZ (w90 hw)) (notFace_of_selects (args := #[]) (mvT hZ (w92 hw))) (mvT hZ (w92 hw)) (mvT hZ (w91 hw)) (by decide) (backOf (W := 0) (rm14_8 l Z a0 hw [] b4 b2_16 i0 b5 jz9 T114.heap n0 O114 ((c107.keep K108c).keep K114c) r114_6 g_b4 r114_1 r114_2 r114_3 r114_4 r114_5 r114_0) hZ (w93 hw) (w3 hw) (by decide) (by decide)) q117a q117c (g := (mkF m 187 #[.val (.long i0), .second, .val (.int i1), .val (.int i2), .val (.int jz4), .val (.int jz5), .val (.int jz6), .val (.int jz7), .val (.int jz8), .val (.int jz9), .val (.ref b1), .val (.ref b4), .unset] [(.ref b4)])) rfl (by rw [hml]; rfl) (Steps.refl _) (argsL := []) (rest := []) (lenOf pd_5 rfl) rfl (by show 2 * 0 + _ ≤ _; exact Nat.le_of_eq rfl) (hb hby at_187) (fun vm₁ hw₁ => ⟨rfl, rfl, (by decide : 5 + 0 ≤ _), (by decide : 20 + 0 ≤ _)⟩)
              dsimp only [Pt.U, Pt.locs, Pt.cells, Pt.slots] at X117 l117 y117 z117 st117 hQ117
              subst l117 y117 z117
              obtain ⟨rfl, M117, K117c, r117_0, r117_1, r117_2, r117_3, r117_4, r117_5, r117_6⟩ := hQ117
              have N117 := Fr.app N114 M117
              have O117 : Old Z n0 T117.heap := O114.keep K117c (allS g_b4 all0)
              refine Go.tr st117 ?_
              show Go p e below _ (T117.setTop (mkF m 190 #[.val (.long i0), .second, .val (.int i1), .val (.int i2), .val (.int jz4), .val (.int jz5), .val (.int jz6), .val (.int jz7), .val (.int jz8), .val (.int jz9), .val (.ref b1), .val (.ref b4), .unset] []))
              refine Go.st (fun t k => XS.iload X117.here hx rfl (hb hby at_190) rfl k) ?_
              show Go p e below _ (T117.setTop (mkF m 192 #[.val (.long i0), .second, .val (.int i1), .val (.int i2), .val (.int jz4), .val (.int jz5), .val (.int jz6), .val (.int jz7), .val (.int jz8), .val (.int jz9), .val (.ref b1), .val (.ref b4), .unset] [(.int jz4)]))
              refine Go.st (fun t k => XS.ifNo X117.here hx rfl (hb hby at_192) rfl (Jvm.Free.XT.i0_eq_f hc17) k) ?_
              show Go p e below _ (T117.setTop (mkF m 195 #[.val (.long i0), .second, .val (.int i1), .val (.int i2), .val (.int jz4), .val (.int jz5), .val (.int jz6), .val (.int jz7), .val (.int jz8), .val (.int jz9), .val (.ref b1), .val (.ref b4), .unset] []))
              refine Go.st (fun t k => XS.iconst X117.here hx rfl (hb hby at_195) k) ?_
              show Go p e below _ (T117.setTop (mkF m 196 #[.val (.long i0), .second, .val (.int i1), .val (.int i2), .val (.int jz4), .val (.int jz5), .val (.int jz6), .val (.int jz7), .val (.int jz8), .val (.int jz9), .val (.ref b1), .val (.ref b4), .unset] [(.int (1 : Int32))]))
              refine Go.st (fun t k => XS.istore X117.here hx rfl (hb hby at_196) rfl (l' := #[.val (.long i0), .second, .val (.int i1), .val (.int i2), .val (.int jz4), .val (.int jz5), .val (.int jz6), .val (.int jz7), .val (.int jz8), .val (.int jz9), .val (.ref b1), .val (.ref b4), .val (.int (1 : Int32))]) rfl k) ?_
              show Go p e below _ (T117.setTop (mkF m 198 #[.val (.long i0), .second, .val (.int i1), .val (.int i2), .val (.int jz4), .val (.int jz5), .val (.int jz6), .val (.int jz7), .val (.int jz8), .val (.int jz9), .val (.ref b1), .val (.ref b4), .val (.int (1 : Int32))] []))
              refine Go.st (fun t k => XS.goto X117.here hx rfl (pc0 := 198) (pc' := 225) rfl (hb hby at_198) (by decide) (by decide) k) ?_
              show Go p e below _ (T117.setTop (mkF m 225 #[.val (.long i0), .second, .val (.int i1), .val (.int i2), .val (.int jz4), .val (.int jz5), .val (.int jz6), .val (.int jz7), .val (.int jz8), .val (.int jz9), .val (.ref b1), .val (.ref b4), .val (.int (1 : Int32))] []))
              refine Go.st (fun t k => XS.aload X117.here hx rfl (hb hby at_225) rfl rfl k) ?_
              show Go p e below _ (T117.setTop (mkF m 227 #[.val (.long i0), .second, .val (.int i1), .val (.int i2), .val (.int jz4), .val (.int jz5), .val (.int jz6), .val (.int jz7), .val (.int jz8), .val (.int jz9), .val (.ref b1), .val (.ref b4), .val (.int (1 : Int32))] [(.ref b4)]))
              have c119 := (((c107.keep K108c).keep K114c).keep K117c)
              obtain ⟨cq118, kq118, q118a, q118b, q118c⟩ := isOf hZ rfl c119
              obtain ⟨_, _, ⟨T118, L118, k118, n118⟩, -, X118, ⟨Lc118, hQ118, l118, y118, z118⟩, st118⟩ := X117.virtualBack hx (y := (⟨"com/example/outbound_courier/outboundcourier/http/RequestHead", "hasBody", "()Z"⟩ : MethodName)) (z := (⟨"com/example/outbound_courier/outboundcourier/http/RequestHead", "hasBody", "()Z"⟩ : MethodName)) hown (mvT hZ (w75 hw)) (mvT hZ (w76 hw)) (notFace_of_selects (args := #[]) (mvT hZ (w78 hw))) (mvT hZ (w78 hw)) (mvT hZ (w77 hw)) (by decide) (backOf (W := 0) (rm12_4 l Z a0 hw [] b4 T117.heap n0 O117 r117_5) hZ (w79 hw) (w3 hw) (by decide) (by decide)) q118a q118c (g := (mkF m 227 #[.val (.long i0), .second, .val (.int i1), .val (.int i2), .val (.int jz4), .val (.int jz5), .val (.int jz6), .val (.int jz7), .val (.int jz8), .val (.int jz9), .val (.ref b1), .val (.ref b4), .val (.int (1 : Int32))] [(.ref b4)])) rfl (by rw [hml]; rfl) (Steps.refl _) (argsL := []) (rest := []) (lenOf pd_7 rfl) rfl (by show 2 * 0 + _ ≤ _; exact Nat.le_of_eq rfl) (hb hby at_227) (fun vm₁ hw₁ => ⟨rfl, rfl, (by decide : 5 + 0 ≤ _), (by decide : 20 + 0 ≤ _)⟩)
              dsimp only [Pt.U, Pt.locs, Pt.cells, Pt.slots] at X118 l118 y118 z118 st118 hQ118
              subst l118 y118 z118
              obtain ⟨rfl, M118, eh118⟩ := hQ118
              have N118 := Fr.app N117 M118
              refine Go.tr st118 ?_
              show Go p e below _ (T118.setTop (mkF m 230 #[.val (.long i0), .second, .val (.int i1), .val (.int i2), .val (.int jz4), .val (.int jz5), .val (.int jz6), .val (.int jz7), .val (.int jz8), .val (.int jz9), .val (.ref b1), .val (.ref b4), .val (.int (1 : Int32))] [(.int (1 : Int32))]))
              refine Go.st (fun t k => XS.iload X118.here hx rfl (hb hby at_230) rfl k) ?_
              show Go p e below _ (T118.setTop (mkF m 232 #[.val (.long i0), .second, .val (.int i1), .val (.int i2), .val (.int jz4), .val (.int jz5), .val (.int jz6), .val (.int jz7), .val (.int jz8), .val (.int jz9), .val (.ref b1), .val (.ref b4), .val (.int (1 : Int32))] [(.int (1 : Int32)), (.int (1 : Int32))]))
              refine Go.st (fun t k => XS.icmpNo X118.here hx rfl (hb hby at_232) rfl (Jvm.Free.XT.ii_ne_f (by decide : (1 : Int32) = (1 : Int32))) k) ?_
              show Go p e below _ (T118.setTop (mkF m 235 #[.val (.long i0), .second, .val (.int i1), .val (.int i2), .val (.int jz4), .val (.int jz5), .val (.int jz6), .val (.int jz7), .val (.int jz8), .val (.int jz9), .val (.ref b1), .val (.ref b4), .val (.int (1 : Int32))] []))
              refine Go.st (fun t k => XS.iconst X118.here hx rfl (hb hby at_235) k) ?_
              show Go p e below _ (T118.setTop (mkF m 236 #[.val (.long i0), .second, .val (.int i1), .val (.int i2), .val (.int jz4), .val (.int jz5), .val (.int jz6), .val (.int jz7), .val (.int jz8), .val (.int jz9), .val (.ref b1), .val (.ref b4), .val (.int (1 : Int32))] [(.int (1 : Int32))]))
              refine Go.st (fun t k => XS.goto X118.here hx rfl (pc0 := 236) (pc' := 240) rfl (hb hby at_236) (by decide) (by decide) k) ?_
              show Go p e below _ (T118.setTop (mkF m 240 #[.val (.long i0), .second, .val (.int i1), .val (.int i2), .val (.int jz4), .val (.int jz5), .val (.int jz6), .val (.int jz7), .val (.int jz8), .val (.int jz9), .val (.ref b1), .val (.ref b4), .val (.int (1 : Int32))] [(.int (1 : Int32))]))
              obtain ⟨fs, hr, hrun, hended, hWd, hsame⟩ := X118.leave (v := some (.int (1 : Int32))) (fun h => by rw [Bd.returns] at h; cases h)
              refine ⟨_, _, ?_, hrun, hended, _, _, rfl, ?_, ⟨⟨_, rfl⟩, hWd, hsame.mono (by decide) (by decide)⟩⟩
              · exact retN X118 hx (t := .boolean) Bd.returns (by simp) (hb hby at_240) hr
              · exact ⟨rfl, N118⟩
  have tail67 : ∀ (jz4 : Int32) (jz5 : Int32) (jz6 : Int32) (jz7 : Int32) (jz8 : Int32), Go p e below (fun o U' => ∃ v L, o = .returned v ∧ Q_rm0 n0 v L ∧ FrameEnd s o U' L room_1.cells room_1.slots) (s₁.setTop (mkF m 67 #[.val (.long i0), .second, .val (.int i1), .val (.int i2), .val (.int jz4), .val (.int jz5), .val (.int jz6), .val (.int jz7), .val (.int jz8), .unset, .unset, .unset, .unset] [])) := by
    intro jz4 jz5 jz6 jz7 jz8
    refine Go.st (fun t k => XS.iloadN X0.here hx rfl (hb hby at_67) rfl k) ?_
    show Go p e below _ (s₁.setTop (mkF m 68 #[.val (.long i0), .second, .val (.int i1), .val (.int i2), .val (.int jz4), .val (.int jz5), .val (.int jz6), .val (.int jz7), .val (.int jz8), .unset, .unset, .unset, .unset] [(.int i1)]))
    refine Go.st (fun t k => XS.bipush X0.here hx rfl (hb hby at_68) k) ?_
    show Go p e below _ (s₁.setTop (mkF m 70 #[.val (.long i0), .second, .val (.int i1), .val (.int i2), .val (.int jz4), .val (.int jz5), .val (.int jz6), .val (.int jz7), .val (.int jz8), .unset, .unset, .unset, .unset] [(.int (32 : Int32)), (.int i1)]))
    refine Go.st (fun t k => XS.iand X0.here hx rfl (hb hby at_70) rfl k) ?_
    show Go p e below _ (s₁.setTop (mkF m 71 #[.val (.long i0), .second, .val (.int i1), .val (.int i2), .val (.int jz4), .val (.int jz5), .val (.int jz6), .val (.int jz7), .val (.int jz8), .unset, .unset, .unset, .unset] [(.int (i1 &&& (32 : Int32)))]))
    by_cases hc120 : (i1 &&& (32 : Int32)) = (0 : Int32)
    · refine Go.st (fun t k => XS.ifYes X0.here hx rfl (pc0 := 71) (pc' := 79) rfl (hb hby at_71) rfl (Jvm.Free.XT.i0_eq_t hc120) (by decide) (by decide) k) ?_
      show Go p e below _ (s₁.setTop (mkF m 79 #[.val (.long i0), .second, .val (.int i1), .val (.int i2), .val (.int jz4), .val (.int jz5), .val (.int jz6), .val (.int jz7), .val (.int jz8), .unset, .unset, .unset, .unset] []))
      refine Go.st (fun t k => XS.bipush X0.here hx rfl (hb hby at_79) k) ?_
      show Go p e below _ (s₁.setTop (mkF m 81 #[.val (.long i0), .second, .val (.int i1), .val (.int i2), .val (.int jz4), .val (.int jz5), .val (.int jz6), .val (.int jz7), .val (.int jz8), .unset, .unset, .unset, .unset] [(.int (10 : Int32))]))
      refine Go.st (fun t k => XS.istore X0.here hx rfl (hb hby at_81) rfl (l' := #[.val (.long i0), .second, .val (.int i1), .val (.int i2), .val (.int jz4), .val (.int jz5), .val (.int jz6), .val (.int jz7), .val (.int jz8), .val (.int (10 : Int32)), .unset, .unset, .unset]) rfl k) ?_
      show Go p e below _ (s₁.setTop (mkF m 83 #[.val (.long i0), .second, .val (.int i1), .val (.int i2), .val (.int jz4), .val (.int jz5), .val (.int jz6), .val (.int jz7), .val (.int jz8), .val (.int (10 : Int32)), .unset, .unset, .unset] []))
      exact tail83 jz4 jz5 jz6 jz7 jz8 (10 : Int32)
    · refine Go.st (fun t k => XS.ifNo X0.here hx rfl (hb hby at_71) rfl (Jvm.Free.XT.i0_eq_f hc120) k) ?_
      show Go p e below _ (s₁.setTop (mkF m 74 #[.val (.long i0), .second, .val (.int i1), .val (.int i2), .val (.int jz4), .val (.int jz5), .val (.int jz6), .val (.int jz7), .val (.int jz8), .unset, .unset, .unset, .unset] []))
      refine Go.st (fun t k => XS.bipush X0.here hx rfl (hb hby at_74) k) ?_
      show Go p e below _ (s₁.setTop (mkF m 76 #[.val (.long i0), .second, .val (.int i1), .val (.int i2), .val (.int jz4), .val (.int jz5), .val (.int jz6), .val (.int jz7), .val (.int jz8), .unset, .unset, .unset, .unset] [(.int (11 : Int32))]))
      refine Go.st (fun t k => XS.goto X0.here hx rfl (pc0 := 76) (pc' := 81) rfl (hb hby at_76) (by decide) (by decide) k) ?_
      show Go p e below _ (s₁.setTop (mkF m 81 #[.val (.long i0), .second, .val (.int i1), .val (.int i2), .val (.int jz4), .val (.int jz5), .val (.int jz6), .val (.int jz7), .val (.int jz8), .unset, .unset, .unset, .unset] [(.int (11 : Int32))]))
      refine Go.st (fun t k => XS.istore X0.here hx rfl (hb hby at_81) rfl (l' := #[.val (.long i0), .second, .val (.int i1), .val (.int i2), .val (.int jz4), .val (.int jz5), .val (.int jz6), .val (.int jz7), .val (.int jz8), .val (.int (11 : Int32)), .unset, .unset, .unset]) rfl k) ?_
      show Go p e below _ (s₁.setTop (mkF m 83 #[.val (.long i0), .second, .val (.int i1), .val (.int i2), .val (.int jz4), .val (.int jz5), .val (.int jz6), .val (.int jz7), .val (.int jz8), .val (.int (11 : Int32)), .unset, .unset, .unset] []))
      exact tail83 jz4 jz5 jz6 jz7 jz8 (11 : Int32)
  have tail53 : ∀ (jz4 : Int32) (jz5 : Int32) (jz6 : Int32) (jz7 : Int32), Go p e below (fun o U' => ∃ v L, o = .returned v ∧ Q_rm0 n0 v L ∧ FrameEnd s o U' L room_1.cells room_1.slots) (s₁.setTop (mkF m 53 #[.val (.long i0), .second, .val (.int i1), .val (.int i2), .val (.int jz4), .val (.int jz5), .val (.int jz6), .val (.int jz7), .unset, .unset, .unset, .unset, .unset] [])) := by
    intro jz4 jz5 jz6 jz7
    refine Go.st (fun t k => XS.iloadN X0.here hx rfl (hb hby at_53) rfl k) ?_
    show Go p e below _ (s₁.setTop (mkF m 54 #[.val (.long i0), .second, .val (.int i1), .val (.int i2), .val (.int jz4), .val (.int jz5), .val (.int jz6), .val (.int jz7), .unset, .unset, .unset, .unset, .unset] [(.int i1)]))
    refine Go.st (fun t k => XS.bipush X0.here hx rfl (hb hby at_54) k) ?_
    show Go p e below _ (s₁.setTop (mkF m 56 #[.val (.long i0), .second, .val (.int i1), .val (.int i2), .val (.int jz4), .val (.int jz5), .val (.int jz6), .val (.int jz7), .unset, .unset, .unset, .unset, .unset] [(.int (16 : Int32)), (.int i1)]))
    refine Go.st (fun t k => XS.iand X0.here hx rfl (hb hby at_56) rfl k) ?_
    show Go p e below _ (s₁.setTop (mkF m 57 #[.val (.long i0), .second, .val (.int i1), .val (.int i2), .val (.int jz4), .val (.int jz5), .val (.int jz6), .val (.int jz7), .unset, .unset, .unset, .unset, .unset] [(.int (i1 &&& (16 : Int32)))]))
    by_cases hc121 : (i1 &&& (16 : Int32)) = (0 : Int32)
    · refine Go.st (fun t k => XS.ifYes X0.here hx rfl (pc0 := 57) (pc' := 64) rfl (hb hby at_57) rfl (Jvm.Free.XT.i0_eq_t hc121) (by decide) (by decide) k) ?_
      show Go p e below _ (s₁.setTop (mkF m 64 #[.val (.long i0), .second, .val (.int i1), .val (.int i2), .val (.int jz4), .val (.int jz5), .val (.int jz6), .val (.int jz7), .unset, .unset, .unset, .unset, .unset] []))
      refine Go.st (fun t k => XS.iconst X0.here hx rfl (hb hby at_64) k) ?_
      show Go p e below _ (s₁.setTop (mkF m 65 #[.val (.long i0), .second, .val (.int i1), .val (.int i2), .val (.int jz4), .val (.int jz5), .val (.int jz6), .val (.int jz7), .unset, .unset, .unset, .unset, .unset] [(.int (0 : Int32))]))
      refine Go.st (fun t k => XS.istore X0.here hx rfl (hb hby at_65) rfl (l' := #[.val (.long i0), .second, .val (.int i1), .val (.int i2), .val (.int jz4), .val (.int jz5), .val (.int jz6), .val (.int jz7), .val (.int (0 : Int32)), .unset, .unset, .unset, .unset]) rfl k) ?_
      show Go p e below _ (s₁.setTop (mkF m 67 #[.val (.long i0), .second, .val (.int i1), .val (.int i2), .val (.int jz4), .val (.int jz5), .val (.int jz6), .val (.int jz7), .val (.int (0 : Int32)), .unset, .unset, .unset, .unset] []))
      exact tail67 jz4 jz5 jz6 jz7 (0 : Int32)
    · refine Go.st (fun t k => XS.ifNo X0.here hx rfl (hb hby at_57) rfl (Jvm.Free.XT.i0_eq_f hc121) k) ?_
      show Go p e below _ (s₁.setTop (mkF m 60 #[.val (.long i0), .second, .val (.int i1), .val (.int i2), .val (.int jz4), .val (.int jz5), .val (.int jz6), .val (.int jz7), .unset, .unset, .unset, .unset, .unset] []))
      refine Go.st (fun t k => XS.iconst X0.here hx rfl (hb hby at_60) k) ?_
      show Go p e below _ (s₁.setTop (mkF m 61 #[.val (.long i0), .second, .val (.int i1), .val (.int i2), .val (.int jz4), .val (.int jz5), .val (.int jz6), .val (.int jz7), .unset, .unset, .unset, .unset, .unset] [(.int (1 : Int32))]))
      refine Go.st (fun t k => XS.goto X0.here hx rfl (pc0 := 61) (pc' := 65) rfl (hb hby at_61) (by decide) (by decide) k) ?_
      show Go p e below _ (s₁.setTop (mkF m 65 #[.val (.long i0), .second, .val (.int i1), .val (.int i2), .val (.int jz4), .val (.int jz5), .val (.int jz6), .val (.int jz7), .unset, .unset, .unset, .unset, .unset] [(.int (1 : Int32))]))
      refine Go.st (fun t k => XS.istore X0.here hx rfl (hb hby at_65) rfl (l' := #[.val (.long i0), .second, .val (.int i1), .val (.int i2), .val (.int jz4), .val (.int jz5), .val (.int jz6), .val (.int jz7), .val (.int (1 : Int32)), .unset, .unset, .unset, .unset]) rfl k) ?_
      show Go p e below _ (s₁.setTop (mkF m 67 #[.val (.long i0), .second, .val (.int i1), .val (.int i2), .val (.int jz4), .val (.int jz5), .val (.int jz6), .val (.int jz7), .val (.int (1 : Int32)), .unset, .unset, .unset, .unset] []))
      exact tail67 jz4 jz5 jz6 jz7 (1 : Int32)
  have tail39 : ∀ (jz4 : Int32) (jz5 : Int32) (jz6 : Int32), Go p e below (fun o U' => ∃ v L, o = .returned v ∧ Q_rm0 n0 v L ∧ FrameEnd s o U' L room_1.cells room_1.slots) (s₁.setTop (mkF m 39 #[.val (.long i0), .second, .val (.int i1), .val (.int i2), .val (.int jz4), .val (.int jz5), .val (.int jz6), .unset, .unset, .unset, .unset, .unset, .unset] [])) := by
    intro jz4 jz5 jz6
    refine Go.st (fun t k => XS.iloadN X0.here hx rfl (hb hby at_39) rfl k) ?_
    show Go p e below _ (s₁.setTop (mkF m 40 #[.val (.long i0), .second, .val (.int i1), .val (.int i2), .val (.int jz4), .val (.int jz5), .val (.int jz6), .unset, .unset, .unset, .unset, .unset, .unset] [(.int i1)]))
    refine Go.st (fun t k => XS.bipush X0.here hx rfl (hb hby at_40) k) ?_
    show Go p e below _ (s₁.setTop (mkF m 42 #[.val (.long i0), .second, .val (.int i1), .val (.int i2), .val (.int jz4), .val (.int jz5), .val (.int jz6), .unset, .unset, .unset, .unset, .unset, .unset] [(.int (8 : Int32)), (.int i1)]))
    refine Go.st (fun t k => XS.iand X0.here hx rfl (hb hby at_42) rfl k) ?_
    show Go p e below _ (s₁.setTop (mkF m 43 #[.val (.long i0), .second, .val (.int i1), .val (.int i2), .val (.int jz4), .val (.int jz5), .val (.int jz6), .unset, .unset, .unset, .unset, .unset, .unset] [(.int (i1 &&& (8 : Int32)))]))
    by_cases hc122 : (i1 &&& (8 : Int32)) = (0 : Int32)
    · refine Go.st (fun t k => XS.ifYes X0.here hx rfl (pc0 := 43) (pc' := 50) rfl (hb hby at_43) rfl (Jvm.Free.XT.i0_eq_t hc122) (by decide) (by decide) k) ?_
      show Go p e below _ (s₁.setTop (mkF m 50 #[.val (.long i0), .second, .val (.int i1), .val (.int i2), .val (.int jz4), .val (.int jz5), .val (.int jz6), .unset, .unset, .unset, .unset, .unset, .unset] []))
      refine Go.st (fun t k => XS.iconst X0.here hx rfl (hb hby at_50) k) ?_
      show Go p e below _ (s₁.setTop (mkF m 51 #[.val (.long i0), .second, .val (.int i1), .val (.int i2), .val (.int jz4), .val (.int jz5), .val (.int jz6), .unset, .unset, .unset, .unset, .unset, .unset] [(.int (0 : Int32))]))
      refine Go.st (fun t k => XS.istore X0.here hx rfl (hb hby at_51) rfl (l' := #[.val (.long i0), .second, .val (.int i1), .val (.int i2), .val (.int jz4), .val (.int jz5), .val (.int jz6), .val (.int (0 : Int32)), .unset, .unset, .unset, .unset, .unset]) rfl k) ?_
      show Go p e below _ (s₁.setTop (mkF m 53 #[.val (.long i0), .second, .val (.int i1), .val (.int i2), .val (.int jz4), .val (.int jz5), .val (.int jz6), .val (.int (0 : Int32)), .unset, .unset, .unset, .unset, .unset] []))
      exact tail53 jz4 jz5 jz6 (0 : Int32)
    · refine Go.st (fun t k => XS.ifNo X0.here hx rfl (hb hby at_43) rfl (Jvm.Free.XT.i0_eq_f hc122) k) ?_
      show Go p e below _ (s₁.setTop (mkF m 46 #[.val (.long i0), .second, .val (.int i1), .val (.int i2), .val (.int jz4), .val (.int jz5), .val (.int jz6), .unset, .unset, .unset, .unset, .unset, .unset] []))
      refine Go.st (fun t k => XS.iconst X0.here hx rfl (hb hby at_46) k) ?_
      show Go p e below _ (s₁.setTop (mkF m 47 #[.val (.long i0), .second, .val (.int i1), .val (.int i2), .val (.int jz4), .val (.int jz5), .val (.int jz6), .unset, .unset, .unset, .unset, .unset, .unset] [(.int (1 : Int32))]))
      refine Go.st (fun t k => XS.goto X0.here hx rfl (pc0 := 47) (pc' := 51) rfl (hb hby at_47) (by decide) (by decide) k) ?_
      show Go p e below _ (s₁.setTop (mkF m 51 #[.val (.long i0), .second, .val (.int i1), .val (.int i2), .val (.int jz4), .val (.int jz5), .val (.int jz6), .unset, .unset, .unset, .unset, .unset, .unset] [(.int (1 : Int32))]))
      refine Go.st (fun t k => XS.istore X0.here hx rfl (hb hby at_51) rfl (l' := #[.val (.long i0), .second, .val (.int i1), .val (.int i2), .val (.int jz4), .val (.int jz5), .val (.int jz6), .val (.int (1 : Int32)), .unset, .unset, .unset, .unset, .unset]) rfl k) ?_
      show Go p e below _ (s₁.setTop (mkF m 53 #[.val (.long i0), .second, .val (.int i1), .val (.int i2), .val (.int jz4), .val (.int jz5), .val (.int jz6), .val (.int (1 : Int32)), .unset, .unset, .unset, .unset, .unset] []))
      exact tail53 jz4 jz5 jz6 (1 : Int32)
  have tail26 : ∀ (jz4 : Int32) (jz5 : Int32), Go p e below (fun o U' => ∃ v L, o = .returned v ∧ Q_rm0 n0 v L ∧ FrameEnd s o U' L room_1.cells room_1.slots) (s₁.setTop (mkF m 26 #[.val (.long i0), .second, .val (.int i1), .val (.int i2), .val (.int jz4), .val (.int jz5), .unset, .unset, .unset, .unset, .unset, .unset, .unset] [])) := by
    intro jz4 jz5
    refine Go.st (fun t k => XS.iloadN X0.here hx rfl (hb hby at_26) rfl k) ?_
    show Go p e below _ (s₁.setTop (mkF m 27 #[.val (.long i0), .second, .val (.int i1), .val (.int i2), .val (.int jz4), .val (.int jz5), .unset, .unset, .unset, .unset, .unset, .unset, .unset] [(.int i1)]))
    refine Go.st (fun t k => XS.iconst X0.here hx rfl (hb hby at_27) k) ?_
    show Go p e below _ (s₁.setTop (mkF m 28 #[.val (.long i0), .second, .val (.int i1), .val (.int i2), .val (.int jz4), .val (.int jz5), .unset, .unset, .unset, .unset, .unset, .unset, .unset] [(.int (4 : Int32)), (.int i1)]))
    refine Go.st (fun t k => XS.iand X0.here hx rfl (hb hby at_28) rfl k) ?_
    show Go p e below _ (s₁.setTop (mkF m 29 #[.val (.long i0), .second, .val (.int i1), .val (.int i2), .val (.int jz4), .val (.int jz5), .unset, .unset, .unset, .unset, .unset, .unset, .unset] [(.int (i1 &&& (4 : Int32)))]))
    by_cases hc123 : (i1 &&& (4 : Int32)) = (0 : Int32)
    · refine Go.st (fun t k => XS.ifYes X0.here hx rfl (pc0 := 29) (pc' := 36) rfl (hb hby at_29) rfl (Jvm.Free.XT.i0_eq_t hc123) (by decide) (by decide) k) ?_
      show Go p e below _ (s₁.setTop (mkF m 36 #[.val (.long i0), .second, .val (.int i1), .val (.int i2), .val (.int jz4), .val (.int jz5), .unset, .unset, .unset, .unset, .unset, .unset, .unset] []))
      refine Go.st (fun t k => XS.iconst X0.here hx rfl (hb hby at_36) k) ?_
      show Go p e below _ (s₁.setTop (mkF m 37 #[.val (.long i0), .second, .val (.int i1), .val (.int i2), .val (.int jz4), .val (.int jz5), .unset, .unset, .unset, .unset, .unset, .unset, .unset] [(.int (0 : Int32))]))
      refine Go.st (fun t k => XS.istore X0.here hx rfl (hb hby at_37) rfl (l' := #[.val (.long i0), .second, .val (.int i1), .val (.int i2), .val (.int jz4), .val (.int jz5), .val (.int (0 : Int32)), .unset, .unset, .unset, .unset, .unset, .unset]) rfl k) ?_
      show Go p e below _ (s₁.setTop (mkF m 39 #[.val (.long i0), .second, .val (.int i1), .val (.int i2), .val (.int jz4), .val (.int jz5), .val (.int (0 : Int32)), .unset, .unset, .unset, .unset, .unset, .unset] []))
      exact tail39 jz4 jz5 (0 : Int32)
    · refine Go.st (fun t k => XS.ifNo X0.here hx rfl (hb hby at_29) rfl (Jvm.Free.XT.i0_eq_f hc123) k) ?_
      show Go p e below _ (s₁.setTop (mkF m 32 #[.val (.long i0), .second, .val (.int i1), .val (.int i2), .val (.int jz4), .val (.int jz5), .unset, .unset, .unset, .unset, .unset, .unset, .unset] []))
      refine Go.st (fun t k => XS.iconst X0.here hx rfl (hb hby at_32) k) ?_
      show Go p e below _ (s₁.setTop (mkF m 33 #[.val (.long i0), .second, .val (.int i1), .val (.int i2), .val (.int jz4), .val (.int jz5), .unset, .unset, .unset, .unset, .unset, .unset, .unset] [(.int (1 : Int32))]))
      refine Go.st (fun t k => XS.goto X0.here hx rfl (pc0 := 33) (pc' := 37) rfl (hb hby at_33) (by decide) (by decide) k) ?_
      show Go p e below _ (s₁.setTop (mkF m 37 #[.val (.long i0), .second, .val (.int i1), .val (.int i2), .val (.int jz4), .val (.int jz5), .unset, .unset, .unset, .unset, .unset, .unset, .unset] [(.int (1 : Int32))]))
      refine Go.st (fun t k => XS.istore X0.here hx rfl (hb hby at_37) rfl (l' := #[.val (.long i0), .second, .val (.int i1), .val (.int i2), .val (.int jz4), .val (.int jz5), .val (.int (1 : Int32)), .unset, .unset, .unset, .unset, .unset, .unset]) rfl k) ?_
      show Go p e below _ (s₁.setTop (mkF m 39 #[.val (.long i0), .second, .val (.int i1), .val (.int i2), .val (.int jz4), .val (.int jz5), .val (.int (1 : Int32)), .unset, .unset, .unset, .unset, .unset, .unset] []))
      exact tail39 jz4 jz5 (1 : Int32)
  have tail13 : ∀ (jz4 : Int32), Go p e below (fun o U' => ∃ v L, o = .returned v ∧ Q_rm0 n0 v L ∧ FrameEnd s o U' L room_1.cells room_1.slots) (s₁.setTop (mkF m 13 #[.val (.long i0), .second, .val (.int i1), .val (.int i2), .val (.int jz4), .unset, .unset, .unset, .unset, .unset, .unset, .unset, .unset] [])) := by
    intro jz4
    refine Go.st (fun t k => XS.iloadN X0.here hx rfl (hb hby at_13) rfl k) ?_
    show Go p e below _ (s₁.setTop (mkF m 14 #[.val (.long i0), .second, .val (.int i1), .val (.int i2), .val (.int jz4), .unset, .unset, .unset, .unset, .unset, .unset, .unset, .unset] [(.int i1)]))
    refine Go.st (fun t k => XS.iconst X0.here hx rfl (hb hby at_14) k) ?_
    show Go p e below _ (s₁.setTop (mkF m 15 #[.val (.long i0), .second, .val (.int i1), .val (.int i2), .val (.int jz4), .unset, .unset, .unset, .unset, .unset, .unset, .unset, .unset] [(.int (2 : Int32)), (.int i1)]))
    refine Go.st (fun t k => XS.iand X0.here hx rfl (hb hby at_15) rfl k) ?_
    show Go p e below _ (s₁.setTop (mkF m 16 #[.val (.long i0), .second, .val (.int i1), .val (.int i2), .val (.int jz4), .unset, .unset, .unset, .unset, .unset, .unset, .unset, .unset] [(.int (i1 &&& (2 : Int32)))]))
    by_cases hc124 : (i1 &&& (2 : Int32)) = (0 : Int32)
    · refine Go.st (fun t k => XS.ifYes X0.here hx rfl (pc0 := 16) (pc' := 23) rfl (hb hby at_16) rfl (Jvm.Free.XT.i0_eq_t hc124) (by decide) (by decide) k) ?_
      show Go p e below _ (s₁.setTop (mkF m 23 #[.val (.long i0), .second, .val (.int i1), .val (.int i2), .val (.int jz4), .unset, .unset, .unset, .unset, .unset, .unset, .unset, .unset] []))
      refine Go.st (fun t k => XS.iconst X0.here hx rfl (hb hby at_23) k) ?_
      show Go p e below _ (s₁.setTop (mkF m 24 #[.val (.long i0), .second, .val (.int i1), .val (.int i2), .val (.int jz4), .unset, .unset, .unset, .unset, .unset, .unset, .unset, .unset] [(.int (0 : Int32))]))
      refine Go.st (fun t k => XS.istore X0.here hx rfl (hb hby at_24) rfl (l' := #[.val (.long i0), .second, .val (.int i1), .val (.int i2), .val (.int jz4), .val (.int (0 : Int32)), .unset, .unset, .unset, .unset, .unset, .unset, .unset]) rfl k) ?_
      show Go p e below _ (s₁.setTop (mkF m 26 #[.val (.long i0), .second, .val (.int i1), .val (.int i2), .val (.int jz4), .val (.int (0 : Int32)), .unset, .unset, .unset, .unset, .unset, .unset, .unset] []))
      exact tail26 jz4 (0 : Int32)
    · refine Go.st (fun t k => XS.ifNo X0.here hx rfl (hb hby at_16) rfl (Jvm.Free.XT.i0_eq_f hc124) k) ?_
      show Go p e below _ (s₁.setTop (mkF m 19 #[.val (.long i0), .second, .val (.int i1), .val (.int i2), .val (.int jz4), .unset, .unset, .unset, .unset, .unset, .unset, .unset, .unset] []))
      refine Go.st (fun t k => XS.iconst X0.here hx rfl (hb hby at_19) k) ?_
      show Go p e below _ (s₁.setTop (mkF m 20 #[.val (.long i0), .second, .val (.int i1), .val (.int i2), .val (.int jz4), .unset, .unset, .unset, .unset, .unset, .unset, .unset, .unset] [(.int (1 : Int32))]))
      refine Go.st (fun t k => XS.goto X0.here hx rfl (pc0 := 20) (pc' := 24) rfl (hb hby at_20) (by decide) (by decide) k) ?_
      show Go p e below _ (s₁.setTop (mkF m 24 #[.val (.long i0), .second, .val (.int i1), .val (.int i2), .val (.int jz4), .unset, .unset, .unset, .unset, .unset, .unset, .unset, .unset] [(.int (1 : Int32))]))
      refine Go.st (fun t k => XS.istore X0.here hx rfl (hb hby at_24) rfl (l' := #[.val (.long i0), .second, .val (.int i1), .val (.int i2), .val (.int jz4), .val (.int (1 : Int32)), .unset, .unset, .unset, .unset, .unset, .unset, .unset]) rfl k) ?_
      show Go p e below _ (s₁.setTop (mkF m 26 #[.val (.long i0), .second, .val (.int i1), .val (.int i2), .val (.int jz4), .val (.int (1 : Int32)), .unset, .unset, .unset, .unset, .unset, .unset, .unset] []))
      exact tail26 jz4 (1 : Int32)
  refine Go.st (fun t k => XS.iloadN X0.here hx rfl (hb hby at_0) rfl k) ?_
  show Go p e below _ (s₁.setTop (mkF m 1 #[.val (.long i0), .second, .val (.int i1), .val (.int i2), .unset, .unset, .unset, .unset, .unset, .unset, .unset, .unset, .unset] [(.int i1)]))
  refine Go.st (fun t k => XS.iconst X0.here hx rfl (hb hby at_1) k) ?_
  show Go p e below _ (s₁.setTop (mkF m 2 #[.val (.long i0), .second, .val (.int i1), .val (.int i2), .unset, .unset, .unset, .unset, .unset, .unset, .unset, .unset, .unset] [(.int (1 : Int32)), (.int i1)]))
  refine Go.st (fun t k => XS.iand X0.here hx rfl (hb hby at_2) rfl k) ?_
  show Go p e below _ (s₁.setTop (mkF m 3 #[.val (.long i0), .second, .val (.int i1), .val (.int i2), .unset, .unset, .unset, .unset, .unset, .unset, .unset, .unset, .unset] [(.int (i1 &&& (1 : Int32)))]))
  by_cases hc125 : (i1 &&& (1 : Int32)) = (0 : Int32)
  · refine Go.st (fun t k => XS.ifYes X0.here hx rfl (pc0 := 3) (pc' := 10) rfl (hb hby at_3) rfl (Jvm.Free.XT.i0_eq_t hc125) (by decide) (by decide) k) ?_
    show Go p e below _ (s₁.setTop (mkF m 10 #[.val (.long i0), .second, .val (.int i1), .val (.int i2), .unset, .unset, .unset, .unset, .unset, .unset, .unset, .unset, .unset] []))
    refine Go.st (fun t k => XS.iconst X0.here hx rfl (hb hby at_10) k) ?_
    show Go p e below _ (s₁.setTop (mkF m 11 #[.val (.long i0), .second, .val (.int i1), .val (.int i2), .unset, .unset, .unset, .unset, .unset, .unset, .unset, .unset, .unset] [(.int (0 : Int32))]))
    refine Go.st (fun t k => XS.istore X0.here hx rfl (hb hby at_11) rfl (l' := #[.val (.long i0), .second, .val (.int i1), .val (.int i2), .val (.int (0 : Int32)), .unset, .unset, .unset, .unset, .unset, .unset, .unset, .unset]) rfl k) ?_
    show Go p e below _ (s₁.setTop (mkF m 13 #[.val (.long i0), .second, .val (.int i1), .val (.int i2), .val (.int (0 : Int32)), .unset, .unset, .unset, .unset, .unset, .unset, .unset, .unset] []))
    exact tail13 (0 : Int32)
  · refine Go.st (fun t k => XS.ifNo X0.here hx rfl (hb hby at_3) rfl (Jvm.Free.XT.i0_eq_f hc125) k) ?_
    show Go p e below _ (s₁.setTop (mkF m 6 #[.val (.long i0), .second, .val (.int i1), .val (.int i2), .unset, .unset, .unset, .unset, .unset, .unset, .unset, .unset, .unset] []))
    refine Go.st (fun t k => XS.iconst X0.here hx rfl (hb hby at_6) k) ?_
    show Go p e below _ (s₁.setTop (mkF m 7 #[.val (.long i0), .second, .val (.int i1), .val (.int i2), .unset, .unset, .unset, .unset, .unset, .unset, .unset, .unset, .unset] [(.int (1 : Int32))]))
    refine Go.st (fun t k => XS.goto X0.here hx rfl (pc0 := 7) (pc' := 11) rfl (hb hby at_7) (by decide) (by decide) k) ?_
    show Go p e below _ (s₁.setTop (mkF m 11 #[.val (.long i0), .second, .val (.int i1), .val (.int i2), .unset, .unset, .unset, .unset, .unset, .unset, .unset, .unset, .unset] [(.int (1 : Int32))]))
    refine Go.st (fun t k => XS.istore X0.here hx rfl (hb hby at_11) rfl (l' := #[.val (.long i0), .second, .val (.int i1), .val (.int i2), .val (.int (1 : Int32)), .unset, .unset, .unset, .unset, .unset, .unset, .unset, .unset]) rfl k) ?_
    show Go p e below _ (s₁.setTop (mkF m 13 #[.val (.long i0), .second, .val (.int i1), .val (.int i2), .val (.int (1 : Int32)), .unset, .unset, .unset, .unset, .unset, .unset, .unset, .unset] []))
    exact tail13 (1 : Int32)
set_option maxRecDepth 65536 in
set_option maxHeartbeats 40000000 in
theorem comes_1 {Post : Tables → Env → Array Value → State → Outcome → State → Prop} (hpost : ∀ tb e args s v u, (limb_1_1.after args s (.returned v) u = true ∧ limb_1_2.after args s (.returned v) u = true ∧ True) → FrameEnd s (.returned v) u (Jvm.fieldLocs frame_1_writes args s ++ Jvm.arrayLocs frame_1_arrays args s ++ Jvm.staticLocs frame_1_statics s) 24 128 → Post tb e args s (.returned v) u) :
    ArmFor flags0 classFile x code maxLocals ret World_1 tables_1 room_1 Calls_1 rest_1 Pre_1 Post := by
  intro l hfl _ _ p e ha hc hk s m args below hf hA hF happ hP
  obtain ⟨hcalls, hrest, hpre⟩ := hP
  obtain ⟨-, -, -, hnamed, -, -, -, hat⟩ := (Spec.applies_iff hf).mp happ
  obtain ⟨hg, hn⟩ := and_e (Cond.before_iff.mp (show (Jvm.Cond.and given_1 narrow_1).before args s = true from hpre))
  obtain ⟨hcnt, hg⟩ := and_e hg
  obtain ⟨hv0, hg⟩ := and_e hg
  obtain ⟨hv1, hg⟩ := and_e hg
  have hv2 := hg
  obtain ⟨w0, w1, w2, rfl⟩ : ∃ w0 w1 w2 : Value, args = #[w0, w1, w2] := by
    have hs : args.size = 3 := by simpa [Cond.value, given_1] using hcnt
    obtain ⟨L⟩ := args
    match L, hs with
    | [w0, w1, w2], _ => exact ⟨w0, w1, w2, rfl⟩
  have hw := fun d (hd : d ∈ tables_1) => atoms_spec (ws := Jvm.Cond.code x code maxLocals ret :: tables_1) hat d (List.mem_cons_of_mem _ hd)
  have hfit : Fit s := fun {y c} hc i hi => by
    obtain ⟨ha, rfl⟩ := Array.getElem?_eq_some_iff.mp hc
    have q := List.all_eq_true.mp ((Array.all_eq_true_iff_forall_mem.mp hF) _ (Array.getElem_mem ha)) i (List.mem_range.mpr hi)
    simpa [Array.getElem?_eq_getElem hi] using q
  obtain ⟨hsets, hown0⟩ := atoms_of _ (rest_1_c_eq ▸ (show rest_1_c.before _ s = true from hrest))
  have hr0 := Cond.before_iff.mp hown0
  obtain ⟨i0, ei0⟩ := isL_v hv0
  obtain rfl : w0 = (.long i0) := Option.some.inj ei0
  obtain ⟨i1, ei1⟩ := is_v hv1
  obtain rfl : w1 = (.int i1) := Option.some.inj ei1
  obtain ⟨i2, ei2⟩ := is_v hv2
  obtain rfl : w2 = (.int i2) := Option.some.inj ei2
  obtain ⟨w1i, ev2⟩ := is_v (Cond.before_iff.mp (hsets _ (List.mem_of_getElem? (i := 1) rfl)))
  have Y3 : Sta s s.heap "java/lang/String" "COMPACT_STRINGS" "Z" (.int w1i) := Sta.start ev2 (Or.inl (hsets _ (List.mem_of_getElem? (i := 0) rfl)))
  obtain ⟨w9a, ev10⟩ := arr_v (Cond.before_iff.mp (hsets _ (List.mem_of_getElem? (i := 15) rfl)))
  have Y11 : Sta s s.heap "java/util/ArrayList" "DEFAULTCAPACITY_EMPTY_ELEMENTDATA" "[Ljava/lang/Object;" (.ref w9a) := Sta.start ev10 (Or.inr ⟨(w39 hw), (hsets _ (List.mem_of_getElem? (i := 11) rfl))⟩)
  have Y14 : ¬ (w1i = (0 : Int32)) := own_neI ev2 (Cond.before_iff.mp (hsets _ (List.mem_of_getElem? (i := 2) rfl)))
  obtain ⟨n, o, h1, h2, h3, _, L, rfl, ⟨rfl, N⟩, hq⟩ := rm0 l s _ hw tables_1 i0 i1 i2 w1i w9a s.heap s.heap.size (Old.start s) Y3 Y11 Y14 p e ha hc hk s m _ below hf ((Spec.applies_iff_loose hf).mp happ).1 ⟨rfl, State.Warmed39.refl s, rfl⟩ trivial
  refine ⟨n, _, h1, h2, h3, hpost _ _ _ _ _ _ ⟨Cond.after_iff.mpr rfl, Cond.after_iff.mpr (eq_i res_at (Term.int_eval (1)) rfl), trivial⟩ ⟨hq.1, hq.2.1, (hq.2.2.sift fun y hy => Or.inr (N y hy)).mono (by decide) (by decide)⟩⟩
theorem main_1_1 : Claimed_1_1 := comes_1 fun _ _ _ _ _ _ h hF => ⟨h.1, hF⟩
theorem main_1_2 : Claimed_1_2 := comes_1 fun _ _ _ _ _ _ h hF => ⟨h.2.1, hF⟩
end Jvm.Pilot.@@N@@
namespace Jvm.Pilot.@@N@@
open Jvm Jvm.ClassFile Sem Op Lib Jvm.Free Jvm.Stand Jvm.Pilot.@@N@@.Jvm.D
/-! MADE BY PROGRAM (witnessworld.py) out of the Statement's table words and the real class files: 29 classes; the members and pool entries that the words name. The judged class is class 1, her method 1. -/
namespace start1
open Jvm.ClassFile
def u (s : String) : CpInfo := .utf8 (stringToUtf16 s)
/-- a pool by its gaps: so many unusable entries, then the entry; so many at the end -/
def gap : Nat → List CpInfo → List CpInfo
  | 0, r => r
  | n + 1, r => .unusable :: gap n r
def poolList (es : List (Nat × CpInfo)) (last : Nat) : List CpInfo := es.foldr (fun e r => gap e.1 (e.2 :: r)) (gap last [])
def pool (es : List (Nat × CpInfo)) (last : Nat) : Array CpInfo := ⟨poolList es last⟩
def fileOf (pool : Array CpInfo) (this : Nat) (attrs : Array Attribute := #[]) (ms : Array MethodInfo := #[]) (fl : Nat := 33) (sup : Nat := 0) (ifs : Array Nat := #[]) (fds : Array FieldInfo := #[]) : ClassFile where
  minorVersion := 0
  majorVersion := 65
  constantPool := pool
  accessFlags := fl
  thisClass := this
  superClass := sup
  interfaces := ifs
  fields := fds
  methods := ms
  attributes := attrs
def plain (name : String) (sup : Option ClassId) : Class where
  name := name
  kind := .ordinary
  loader := none
  accessFlags := 33
  super := sup
  interfaces := #[]
  cf := none
  fields := #[]
  methods := #[]
  instanceTypes := #[]
  staticTypes := #[]
  resolved := #[]
  callSites := []
  init := .initialized
  statics := none
  mirror := none

def pool0 : Array CpInfo := pool [(5, u "<init>"), (0, u "()V"), (1, .class_ 10), (1, u "java/lang/Object")] 113

def k0c0 : Code := { maxStack := 0, maxLocals := 1, code := object_method_1_code, exceptionTable := #[], attributes := #[] }
def k0m0 : Method := { name := "<init>", desc := "()V", sig := { parameters := [], returnType := none }, accessFlags := 1, code := some k0c0 }
/-- java/lang/Object -/
def k0 : Class := { plain "java/lang/Object" none with
  accessFlags := 33
  interfaces := #[]
  cf := some (fileOf pool0 8 #[] #[{ accessFlags := 1, nameIndex := 5, descriptorIndex := 6, attributes := #[] }] 33 0 #[] #[])
  fields := #[]
  methods := #[k0m0]
  instanceTypes := #[]
  staticTypes := #[]
  resolved := Array.replicate 124 none
  statics := none }

def pool1 : Array CpInfo := pool [(2, .class_ 4), (1, u "java/lang/Object"), (0, u "<init>"), (0, u "()V"), (0, .class_ 8), (0, u "com/example/outbound_courier/outboundcourier/http/RequestHead"), (0, .class_ 10), (0, u "java/lang/String"), (0, .methodref 9 12), (0, .nameAndType 5 13), (0, u "([C)V"), (0, .methodref 7 15), (0, .nameAndType 5 16), (0, u "(Ljava/lang/String;I)V"), (0, .methodref 7 18), (0, .nameAndType 19 6), (0, u "setChunked"), (0, .methodref 7 21), (0, .nameAndType 22 23), (0, u "setContentLength"), (0, u "(J)V"), (0, .methodref 7 25), (0, .nameAndType 26 6), (0, u "setClose"), (0, .methodref 7 28), (0, .nameAndType 29 6), (0, u "setExpectsContinue"), (0, .methodref 7 31), (0, .nameAndType 32 33), (0, u "hasBody"), (0, u "()Z"), (0, .class_ 35), (0, u "com/example/outbound_courier/outboundcourier/http/RequestHeadHasBodyPinLaw"), (2, u "law"), (0, u "(JII)Z")] 5

def k1m0 : Method := { name := "<init>", desc := "()V", sig := { parameters := [], returnType := none }, accessFlags := 1, code := none }
def k1c1 : Code := { maxStack := 5, maxLocals := 13, code := code, exceptionTable := #[], attributes := #[] }
def k1m1 : Method := { name := "law", desc := "(JII)Z", sig := { parameters := [.long, .int, .int], returnType := some .boolean }, accessFlags := 9, code := some k1c1 }
/-- com/example/outbound_courier/outboundcourier/http/RequestHeadHasBodyPinLaw -/
def k1 : Class := { plain "com/example/outbound_courier/outboundcourier/http/RequestHeadHasBodyPinLaw" (some 0) with
  accessFlags := 49
  interfaces := #[]
  cf := some (fileOf pool1 34 #[] #[{ accessFlags := 1, nameIndex := 5, descriptorIndex := 6, attributes := #[] }, { accessFlags := 9, nameIndex := 38, descriptorIndex := 39, attributes := #[] }] 49 2 #[] #[])
  fields := #[]
  methods := #[k1m0, k1m1]
  instanceTypes := #[]
  staticTypes := #[]
  resolved := Array.replicate 45 none
  statics := none }

def pool2 : Array CpInfo := pool [(1, .methodref 2 3), (0, .class_ 4), (0, .nameAndType 5 6), (0, u "java/lang/Object"), (0, u "<init>"), (0, u "()V"), (0, .class_ 8), (0, u "java/util/ArrayList"), (0, .methodref 7 3), (0, .fieldref 11 12), (0, .class_ 13), (0, .nameAndType 14 15), (0, u "com/example/outbound_courier/outboundcourier/http/RequestHead"), (0, u "fields"), (0, u "Ljava/util/List;"), (0, .long 18446744073709551615), (1, .fieldref 11 19), (0, .nameAndType 20 21), (0, u "contentLength"), (0, u "J"), (0, .fieldref 11 23), (0, .nameAndType 24 25), (0, u "method"), (0, u "Ljava/lang/String;"), (0, .fieldref 11 27), (0, .nameAndType 28 29), (0, u "version"), (0, u "I"), (2, u "path"), (2, u "query"), (19, .fieldref 11 56), (0, .nameAndType 57 58), (0, u "chunked"), (0, u "Z"), (0, .fieldref 11 60), (0, .nameAndType 61 58), (0, u "close"), (0, .fieldref 11 63), (0, .nameAndType 64 58), (0, u "expectsContinue"), (0, u "NO_LENGTH"), (3, u "(Ljava/lang/String;I)V"), (14, u "hasBody"), (0, u "()Z"), (7, u "setContentLength"), (0, u "(J)V"), (0, u "setChunked"), (0, u "setClose"), (0, u "setExpectsContinue")] 2

def k2c0 : Code := { maxStack := 3, maxLocals := 3, code := prog_20_method_1_code, exceptionTable := #[], attributes := #[] }
def k2m0 : Method := { name := "<init>", desc := "(Ljava/lang/String;I)V", sig := { parameters := [(.object "java/lang/String"), .int], returnType := none }, accessFlags := 0, code := some k2c0 }
def k2c1 : Code := { maxStack := 4, maxLocals := 1, code := prog_20_method_8_code, exceptionTable := #[], attributes := #[] }
def k2m1 : Method := { name := "hasBody", desc := "()Z", sig := { parameters := [], returnType := some .boolean }, accessFlags := 0, code := some k2c1 }
def k2c2 : Code := { maxStack := 3, maxLocals := 3, code := prog_20_method_15_code, exceptionTable := #[], attributes := #[] }
def k2m2 : Method := { name := "setContentLength", desc := "(J)V", sig := { parameters := [.long], returnType := none }, accessFlags := 0, code := some k2c2 }
def k2c3 : Code := { maxStack := 2, maxLocals := 1, code := prog_20_method_16_code, exceptionTable := #[], attributes := #[] }
def k2m3 : Method := { name := "setChunked", desc := "()V", sig := { parameters := [], returnType := none }, accessFlags := 0, code := some k2c3 }
def k2c4 : Code := { maxStack := 2, maxLocals := 1, code := prog_20_method_17_code, exceptionTable := #[], attributes := #[] }
def k2m4 : Method := { name := "setClose", desc := "()V", sig := { parameters := [], returnType := none }, accessFlags := 0, code := some k2c4 }
def k2c5 : Code := { maxStack := 2, maxLocals := 1, code := prog_20_method_18_code, exceptionTable := #[], attributes := #[] }
def k2m5 : Method := { name := "setExpectsContinue", desc := "()V", sig := { parameters := [], returnType := none }, accessFlags := 0, code := some k2c5 }
/-- com/example/outbound_courier/outboundcourier/http/RequestHead -/
def k2 : Class := { plain "com/example/outbound_courier/outboundcourier/http/RequestHead" (some 0) with
  accessFlags := 48
  interfaces := #[]
  cf := some (fileOf pool2 11 #[] #[{ accessFlags := 0, nameIndex := 5, descriptorIndex := 69, attributes := #[] }, { accessFlags := 0, nameIndex := 84, descriptorIndex := 85, attributes := #[] }, { accessFlags := 0, nameIndex := 93, descriptorIndex := 94, attributes := #[] }, { accessFlags := 0, nameIndex := 95, descriptorIndex := 6, attributes := #[] }, { accessFlags := 0, nameIndex := 96, descriptorIndex := 6, attributes := #[] }, { accessFlags := 0, nameIndex := 97, descriptorIndex := 6, attributes := #[] }] 48 2 #[] #[{ accessFlags := 24, nameIndex := 65, descriptorIndex := 21, attributes := #[] }, { accessFlags := 18, nameIndex := 24, descriptorIndex := 25, attributes := #[] }, { accessFlags := 18, nameIndex := 28, descriptorIndex := 29, attributes := #[] }, { accessFlags := 18, nameIndex := 14, descriptorIndex := 15, attributes := #[] }, { accessFlags := 2, nameIndex := 32, descriptorIndex := 25, attributes := #[] }, { accessFlags := 2, nameIndex := 35, descriptorIndex := 25, attributes := #[] }, { accessFlags := 2, nameIndex := 20, descriptorIndex := 21, attributes := #[] }, { accessFlags := 2, nameIndex := 57, descriptorIndex := 58, attributes := #[] }, { accessFlags := 2, nameIndex := 61, descriptorIndex := 58, attributes := #[] }, { accessFlags := 2, nameIndex := 64, descriptorIndex := 58, attributes := #[] }])
  fields := #[{ name := "NO_LENGTH", type := .long, accessFlags := 24, slot := 0, constantValue := 0 }, { name := "method", type := (.object "java/lang/String"), accessFlags := 18, slot := 0, constantValue := 0 }, { name := "version", type := .int, accessFlags := 18, slot := 1, constantValue := 0 }, { name := "fields", type := (.object "java/util/List"), accessFlags := 18, slot := 2, constantValue := 0 }, { name := "path", type := (.object "java/lang/String"), accessFlags := 2, slot := 3, constantValue := 0 }, { name := "query", type := (.object "java/lang/String"), accessFlags := 2, slot := 4, constantValue := 0 }, { name := "contentLength", type := .long, accessFlags := 2, slot := 5, constantValue := 0 }, { name := "chunked", type := .boolean, accessFlags := 2, slot := 6, constantValue := 0 }, { name := "close", type := .boolean, accessFlags := 2, slot := 7, constantValue := 0 }, { name := "expectsContinue", type := .boolean, accessFlags := 2, slot := 8, constantValue := 0 }]
  methods := #[k2m0, k2m1, k2m2, k2m3, k2m4, k2m5]
  instanceTypes := #[(.object "java/lang/String"), .int, (.object "java/util/List"), (.object "java/lang/String"), (.object "java/lang/String"), .long, .boolean, .boolean, .boolean]
  staticTypes := #[.long]
  resolved := Array.replicate 100 none
  statics := none }

def pool3 : Array CpInfo := pool [(1, .class_ 2), (0, u "java/io/Serializable"), (0, .class_ 4), (0, u "java/lang/Object")] 2

/-- java/io/Serializable -/
def k3 : Class := { plain "java/io/Serializable" (some 0) with
  accessFlags := 1537
  interfaces := #[]
  cf := some (fileOf pool3 1 #[] #[] 1537 3 #[] #[])
  fields := #[]
  methods := #[]
  instanceTypes := #[]
  staticTypes := #[]
  resolved := Array.replicate 7 none
  statics := none }

def pool4 : Array CpInfo := pool [(1, .class_ 2), (0, u "java/lang/Comparable"), (0, .class_ 4), (0, u "java/lang/Object")] 7

/-- java/lang/Comparable -/
def k4 : Class := { plain "java/lang/Comparable" (some 0) with
  accessFlags := 1537
  interfaces := #[]
  cf := some (fileOf pool4 1 #[] #[] 1537 3 #[] #[])
  fields := #[]
  methods := #[]
  instanceTypes := #[]
  staticTypes := #[]
  resolved := Array.replicate 12 none
  statics := none }

def pool5 : Array CpInfo := pool [(2, .class_ 4), (1, u "java/lang/CharSequence"), (42, .class_ 48), (0, u "java/lang/CharSequence$1CodePointIterator"), (10, .class_ 60), (0, u "java/lang/CharSequence$1CharIterator"), (5, .class_ 67), (0, u "java/lang/Object")] 63

/-- java/lang/CharSequence -/
def k5 : Class := { plain "java/lang/CharSequence" (some 0) with
  accessFlags := 1537
  interfaces := #[]
  cf := some (fileOf pool5 2 #[.nestMembers #[47, 59]] #[] 1537 66 #[] #[])
  fields := #[]
  methods := #[]
  instanceTypes := #[]
  staticTypes := #[]
  resolved := Array.replicate 131 none
  statics := none }

def pool6 : Array CpInfo := pool [(1, .class_ 2), (0, u "java/lang/constant/Constable"), (0, .class_ 4), (0, u "java/lang/Object")] 6

/-- java/lang/constant/Constable -/
def k6 : Class := { plain "java/lang/constant/Constable" (some 0) with
  accessFlags := 1537
  interfaces := #[]
  cf := some (fileOf pool6 1 #[] #[] 1537 3 #[] #[])
  fields := #[]
  methods := #[]
  instanceTypes := #[]
  staticTypes := #[]
  resolved := Array.replicate 11 none
  statics := none }

def pool7 : Array CpInfo := pool [(1, .class_ 2), (0, u "java/lang/constant/ConstantDesc"), (0, .class_ 4), (0, u "java/lang/Object")] 32

/-- java/lang/constant/ConstantDesc -/
def k7 : Class := { plain "java/lang/constant/ConstantDesc" (some 0) with
  accessFlags := 1537
  interfaces := #[]
  cf := some (fileOf pool7 1 #[] #[] 1537 3 #[] #[])
  fields := #[]
  methods := #[]
  instanceTypes := #[]
  staticTypes := #[]
  resolved := Array.replicate 37 none
  statics := none }

def pool8 : Array CpInfo := pool [(1, .methodref 2 3), (0, .class_ 4), (0, .nameAndType 5 6), (0, u "java/lang/Object"), (0, u "<init>"), (0, u "()V"), (2, .fieldref 10 11), (0, .class_ 12), (0, .nameAndType 13 14), (0, u "java/lang/String"), (0, u "value"), (0, u "[B"), (0, .fieldref 10 16), (0, .nameAndType 17 18), (0, u "coder"), (0, u "B"), (2, u "hash"), (0, u "I"), (2, u "hashIsZero"), (0, u "Z"), (0, .methodref 10 28), (0, .nameAndType 5 29), (0, u "([CIILjava/lang/Void;)V"), (8, .fieldref 10 39), (0, .nameAndType 40 26), (0, u "COMPACT_STRINGS"), (1, .class_ 44), (1, u "java/lang/StringUTF16"), (0, u "compress"), (1, .methodref 42 48), (0, .nameAndType 49 50), (0, u "coderFromArrayLen"), (0, u "([BI)B"), (126, .methodref 42 178), (0, .nameAndType 45 179), (0, u "([CII)[B"), (395, .class_ 576), (0, u "java/lang/CharSequence"), (22, u "CASE_INSENSITIVE_ORDER"), (0, u "Ljava/util/Comparator;"), (409, u "([C)V"), (90, u "serialPersistentFields"), (0, u "[Ljava/io/ObjectStreamField;"), (0, .class_ 1104), (0, u "java/lang/String$CaseInsensitiveComparator"), (1, .class_ 1107), (0, u "java/io/Serializable"), (0, .class_ 1109), (0, u "java/lang/Comparable"), (0, .class_ 1111), (0, u "java/lang/constant/Constable"), (0, .class_ 1113), (0, u "java/lang/constant/ConstantDesc"), (2, u "serialVersionUID"), (0, u "J"), (3, u "REPL"), (0, u "C"), (2, u "LATIN1"), (1, u "UTF16")] 323

def k8m0 : Method := { name := "<init>", desc := "()V", sig := { parameters := [], returnType := none }, accessFlags := 1, code := none }
def k8c1 : Code := { maxStack := 5, maxLocals := 2, code := jdk_42_method_3_code, exceptionTable := #[], attributes := #[] }
def k8m1 : Method := { name := "<init>", desc := "([C)V", sig := { parameters := [(.array .char)], returnType := none }, accessFlags := 1, code := some k8c1 }
def k8c2 : Code := { maxStack := 4, maxLocals := 6, code := jdk_42_method_149_code, exceptionTable := #[], attributes := #[] }
def k8m2 : Method := { name := "<init>", desc := "([CIILjava/lang/Void;)V", sig := { parameters := [(.array .char), .int, .int, (.object "java/lang/Void")], returnType := none }, accessFlags := 2, code := some k8c2 }
/-- java/lang/String -/
def k8 : Class := { plain "java/lang/String" (some 0) with
  accessFlags := 49
  interfaces := #[3, 4, 5, 6, 7]
  cf := some (fileOf pool8 10 #[.nestMembers #[1103]] #[{ accessFlags := 1, nameIndex := 5, descriptorIndex := 6, attributes := #[] }, { accessFlags := 1, nameIndex := 5, descriptorIndex := 1010, attributes := #[] }, { accessFlags := 2, nameIndex := 5, descriptorIndex := 29, attributes := #[] }] 49 2 #[1106, 1108, 575, 1110, 1112] #[{ accessFlags := 18, nameIndex := 13, descriptorIndex := 14, attributes := #[] }, { accessFlags := 18, nameIndex := 17, descriptorIndex := 18, attributes := #[] }, { accessFlags := 2, nameIndex := 21, descriptorIndex := 22, attributes := #[] }, { accessFlags := 2, nameIndex := 25, descriptorIndex := 26, attributes := #[] }, { accessFlags := 26, nameIndex := 1116, descriptorIndex := 1117, attributes := #[] }, { accessFlags := 24, nameIndex := 40, descriptorIndex := 26, attributes := #[] }, { accessFlags := 26, nameIndex := 1101, descriptorIndex := 1102, attributes := #[] }, { accessFlags := 26, nameIndex := 1121, descriptorIndex := 1122, attributes := #[] }, { accessFlags := 25, nameIndex := 599, descriptorIndex := 600, attributes := #[] }, { accessFlags := 24, nameIndex := 1125, descriptorIndex := 18, attributes := #[] }, { accessFlags := 24, nameIndex := 1127, descriptorIndex := 18, attributes := #[] }])
  fields := #[{ name := "value", type := (.array .byte), accessFlags := 18, slot := 0, constantValue := 0 }, { name := "coder", type := .byte, accessFlags := 18, slot := 1, constantValue := 0 }, { name := "hash", type := .int, accessFlags := 2, slot := 2, constantValue := 0 }, { name := "hashIsZero", type := .boolean, accessFlags := 2, slot := 3, constantValue := 0 }, { name := "serialVersionUID", type := .long, accessFlags := 26, slot := 0, constantValue := 0 }, { name := "COMPACT_STRINGS", type := .boolean, accessFlags := 24, slot := 1, constantValue := 0 }, { name := "serialPersistentFields", type := (.array (.object "java/io/ObjectStreamField")), accessFlags := 26, slot := 2, constantValue := 0 }, { name := "REPL", type := .char, accessFlags := 26, slot := 3, constantValue := 0 }, { name := "CASE_INSENSITIVE_ORDER", type := (.object "java/util/Comparator"), accessFlags := 25, slot := 4, constantValue := 0 }, { name := "LATIN1", type := .byte, accessFlags := 24, slot := 5, constantValue := 0 }, { name := "UTF16", type := .byte, accessFlags := 24, slot := 6, constantValue := 0 }]
  methods := #[k8m0, k8m1, k8m2]
  instanceTypes := #[(.array .byte), .byte, .int, .boolean]
  staticTypes := #[.long, .boolean, (.array (.object "java/io/ObjectStreamField")), .char, (.object "java/util/Comparator"), .byte, .byte]
  resolved := Array.replicate 1451 none
  statics := some 0 }

def pool9 : Array CpInfo := pool [(6, .class_ 8), (1, u "java/lang/Object"), (0, u "<init>"), (0, u "()V"), (1, .class_ 14), (1, u "java/lang/StringUTF16"), (31, u "$assertionsDisabled"), (0, u "Z"), (13, u "HI_BYTE_SHIFT"), (0, u "I"), (2, u "LO_BYTE_SHIFT"), (49, .methodref 12 116), (0, .nameAndType 117 118), (0, u "compress"), (0, u "([CI[BII)I"), (3, u "([CII)[B"), (138, u "coderFromArrayLen"), (0, u "([BI)B"), (106, .class_ 371), (1, u "java/lang/StringUTF16$LinesSpliterator"), (58, u "MAX_LENGTH"), (196, .class_ 628), (0, u "java/lang/StringUTF16$CodePointsSpliterator"), (0, .class_ 630), (0, u "java/lang/StringUTF16$CharsSpliterator")] 4

def k9m0 : Method := { name := "<init>", desc := "()V", sig := { parameters := [], returnType := none }, accessFlags := 0, code := none }
def k9c1 : Code := { maxStack := 2, maxLocals := 2, code := jdk_52_method_15_code, exceptionTable := #[], attributes := #[] }
def k9m1 : Method := { name := "coderFromArrayLen", desc := "([BI)B", sig := { parameters := [(.array .byte), .int], returnType := some .byte }, accessFlags := 8, code := some k9c1 }
def k9c2 : Code := { maxStack := 5, maxLocals := 6, code := jdk_52_method_16_code, exceptionTable := #[], attributes := #[] }
def k9m2 : Method := { name := "compress", desc := "([CII)[B", sig := { parameters := [(.array .char), .int, .int], returnType := some (.array .byte) }, accessFlags := 9, code := some k9c2 }
def k9c3 : Code := { maxStack := 3, maxLocals := 7, code := jdk_52_method_21_code, exceptionTable := #[], attributes := #[] }
def k9m3 : Method := { name := "compress", desc := "([CI[BII)I", sig := { parameters := [(.array .char), .int, (.array .byte), .int, .int], returnType := some .int }, accessFlags := 9, code := some k9c3 }
/-- java/lang/StringUTF16 -/
def k9 : Class := { plain "java/lang/StringUTF16" (some 0) with
  accessFlags := 48
  interfaces := #[]
  cf := some (fileOf pool9 12 #[.nestMembers #[627, 629, 369]] #[{ accessFlags := 0, nameIndex := 9, descriptorIndex := 10, attributes := #[] }, { accessFlags := 8, nameIndex := 261, descriptorIndex := 262, attributes := #[] }, { accessFlags := 9, nameIndex := 117, descriptorIndex := 122, attributes := #[] }, { accessFlags := 9, nameIndex := 117, descriptorIndex := 118, attributes := #[] }] 48 6 #[] #[{ accessFlags := 26, nameIndex := 61, descriptorIndex := 62, attributes := #[] }, { accessFlags := 26, nameIndex := 65, descriptorIndex := 62, attributes := #[] }, { accessFlags := 24, nameIndex := 430, descriptorIndex := 62, attributes := #[] }, { accessFlags := 4120, nameIndex := 46, descriptorIndex := 47, attributes := #[] }])
  fields := #[{ name := "HI_BYTE_SHIFT", type := .int, accessFlags := 26, slot := 0, constantValue := 0 }, { name := "LO_BYTE_SHIFT", type := .int, accessFlags := 26, slot := 1, constantValue := 0 }, { name := "MAX_LENGTH", type := .int, accessFlags := 24, slot := 2, constantValue := 0 }, { name := "$assertionsDisabled", type := .boolean, accessFlags := 4120, slot := 3, constantValue := 0 }]
  methods := #[k9m0, k9m1, k9m2, k9m3]
  instanceTypes := #[]
  staticTypes := #[.int, .int, .int, .boolean]
  resolved := Array.replicate 635 none
  statics := none }

def pool10 : Array CpInfo := pool [(8, .class_ 10), (1, u "java/lang/Iterable"), (24, .class_ 36), (0, u "java/lang/Object")] 25

/-- java/lang/Iterable -/
def k10 : Class := { plain "java/lang/Iterable" (some 0) with
  accessFlags := 1537
  interfaces := #[]
  cf := some (fileOf pool10 8 #[] #[] 1537 35 #[] #[])
  fields := #[]
  methods := #[]
  instanceTypes := #[]
  staticTypes := #[]
  resolved := Array.replicate 62 none
  statics := none }

def pool11 : Array CpInfo := pool [(10, .class_ 12), (1, u "java/util/Collection"), (47, .class_ 61), (0, u "java/lang/Object"), (0, .class_ 63), (0, u "java/lang/Iterable")] 51

/-- java/util/Collection -/
def k11 : Class := { plain "java/util/Collection" (some 0) with
  accessFlags := 1537
  interfaces := #[10]
  cf := some (fileOf pool11 10 #[] #[] 1537 60 #[62] #[])
  fields := #[]
  methods := #[]
  instanceTypes := #[]
  staticTypes := #[]
  resolved := Array.replicate 115 none
  statics := none }

def pool12 : Array CpInfo := pool [(1, .methodref 2 3), (0, .class_ 4), (0, .nameAndType 5 6), (0, u "java/lang/Object"), (0, u "<init>"), (0, u "()V"), (1, .class_ 10), (1, u "java/util/AbstractCollection"), (66, .class_ 78), (0, u "java/util/Collection")] 81

def k12c0 : Code := { maxStack := 1, maxLocals := 1, code := jdk_22_method_1_code, exceptionTable := #[], attributes := #[] }
def k12m0 : Method := { name := "<init>", desc := "()V", sig := { parameters := [], returnType := none }, accessFlags := 4, code := some k12c0 }
/-- java/util/AbstractCollection -/
def k12 : Class := { plain "java/util/AbstractCollection" (some 0) with
  accessFlags := 1057
  interfaces := #[11]
  cf := some (fileOf pool12 8 #[] #[{ accessFlags := 4, nameIndex := 5, descriptorIndex := 6, attributes := #[] }] 1057 2 #[77] #[])
  fields := #[]
  methods := #[k12m0]
  instanceTypes := #[]
  staticTypes := #[]
  resolved := Array.replicate 160 none
  statics := none }

def pool13 : Array CpInfo := pool [(8, .class_ 10), (1, u "java/util/SequencedCollection"), (15, .class_ 27), (0, u "java/lang/Object"), (0, .class_ 29), (0, u "java/util/Collection")] 27

/-- java/util/SequencedCollection -/
def k13 : Class := { plain "java/util/SequencedCollection" (some 0) with
  accessFlags := 1537
  interfaces := #[11]
  cf := some (fileOf pool13 8 #[] #[] 1537 26 #[28] #[])
  fields := #[]
  methods := #[]
  instanceTypes := #[]
  staticTypes := #[]
  resolved := Array.replicate 57 none
  statics := none }

def pool14 : Array CpInfo := pool [(8, .class_ 10), (1, u "java/util/List"), (92, .class_ 104), (0, u "java/lang/Object"), (15, .class_ 121), (0, u "java/util/SequencedCollection")] 129

/-- java/util/List -/
def k14 : Class := { plain "java/util/List" (some 0) with
  accessFlags := 1537
  interfaces := #[13]
  cf := some (fileOf pool14 8 #[] #[] 1537 103 #[120] #[])
  fields := #[]
  methods := #[]
  instanceTypes := #[]
  staticTypes := #[]
  resolved := Array.replicate 251 none
  statics := none }

def pool15 : Array CpInfo := pool [(1, .methodref 2 3), (0, .class_ 4), (0, .nameAndType 5 6), (0, u "java/util/AbstractCollection"), (0, u "<init>"), (0, u "()V"), (0, .fieldref 8 9), (0, .class_ 10), (0, .nameAndType 11 12), (0, u "java/util/AbstractList"), (0, u "modCount"), (0, u "I"), (64, .class_ 78), (0, u "java/util/AbstractList$Itr"), (3, .class_ 83), (0, u "java/util/AbstractList$ListItr"), (9, .class_ 94), (0, u "java/util/AbstractList$RandomAccessSubList"), (3, .class_ 99), (0, u "java/util/AbstractList$SubList"), (33, .class_ 134), (0, u "java/util/List"), (73, .class_ 209), (0, u "java/util/AbstractList$SubList$1"), (0, .class_ 211), (0, u "java/util/AbstractList$RandomAccessSpliterator")] 6

def k15c0 : Code := { maxStack := 2, maxLocals := 1, code := jdk_39_method_1_code, exceptionTable := #[], attributes := #[] }
def k15m0 : Method := { name := "<init>", desc := "()V", sig := { parameters := [], returnType := none }, accessFlags := 4, code := some k15c0 }
/-- java/util/AbstractList -/
def k15 : Class := { plain "java/util/AbstractList" (some 12) with
  accessFlags := 1057
  interfaces := #[14]
  cf := some (fileOf pool15 8 #[.nestMembers #[93, 98, 208, 210, 82, 77]] #[{ accessFlags := 4, nameIndex := 5, descriptorIndex := 6, attributes := #[] }] 1057 2 #[133] #[{ accessFlags := 132, nameIndex := 11, descriptorIndex := 12, attributes := #[] }])
  fields := #[{ name := "modCount", type := .int, accessFlags := 132, slot := 0, constantValue := 0 }]
  methods := #[k15m0]
  instanceTypes := #[.int]
  staticTypes := #[]
  resolved := Array.replicate 218 none
  statics := none }

def pool16 : Array CpInfo := pool [(1, .class_ 2), (0, u "java/util/RandomAccess"), (0, .class_ 4), (0, u "java/lang/Object")] 2

/-- java/util/RandomAccess -/
def k16 : Class := { plain "java/util/RandomAccess" (some 0) with
  accessFlags := 1537
  interfaces := #[]
  cf := some (fileOf pool16 1 #[] #[] 1537 3 #[] #[])
  fields := #[]
  methods := #[]
  instanceTypes := #[]
  staticTypes := #[]
  resolved := Array.replicate 7 none
  statics := none }

def pool17 : Array CpInfo := pool [(1, .class_ 2), (0, u "java/lang/Cloneable"), (0, .class_ 4), (0, u "java/lang/Object")] 2

/-- java/lang/Cloneable -/
def k17 : Class := { plain "java/lang/Cloneable" (some 0) with
  accessFlags := 1537
  interfaces := #[]
  cf := some (fileOf pool17 1 #[] #[] 1537 3 #[] #[])
  fields := #[]
  methods := #[]
  instanceTypes := #[]
  staticTypes := #[]
  resolved := Array.replicate 7 none
  statics := none }

def pool18 : Array CpInfo := pool [(1, .methodref 2 3), (0, .class_ 4), (0, .nameAndType 5 6), (0, u "java/util/AbstractList"), (0, u "<init>"), (0, u "()V"), (2, .fieldref 10 11), (0, .class_ 12), (0, .nameAndType 13 14), (0, u "java/util/ArrayList"), (0, u "elementData"), (0, u "[Ljava/lang/Object;"), (2, u "EMPTY_ELEMENTDATA"), (21, .fieldref 10 40), (0, .nameAndType 41 14), (0, u "DEFAULTCAPACITY_EMPTY_ELEMENTDATA"), (8, u "size"), (0, u "I"), (96, .class_ 149), (0, u "java/util/List"), (112, .class_ 263), (0, u "java/util/ArrayList$ListItr"), (3, .class_ 268), (0, u "java/util/ArrayList$Itr"), (7, .class_ 277), (0, u "java/util/ArrayList$SubList"), (12, .class_ 291), (0, u "java/util/ArrayList$ArrayListSpliterator"), (37, .class_ 330), (0, u "java/util/RandomAccess"), (0, .class_ 332), (0, u "java/lang/Cloneable"), (0, .class_ 334), (0, u "java/io/Serializable"), (0, u "serialVersionUID"), (0, u "J"), (3, u "DEFAULT_CAPACITY"), (159, .class_ 501), (0, u "java/util/ArrayList$SubList$2"), (0, .class_ 503), (0, u "java/util/ArrayList$SubList$1")] 5

def k18c0 : Code := { maxStack := 2, maxLocals := 1, code := jdk_38_method_2_code, exceptionTable := #[], attributes := #[] }
def k18m0 : Method := { name := "<init>", desc := "()V", sig := { parameters := [], returnType := none }, accessFlags := 1, code := some k18c0 }
/-- java/util/ArrayList -/
def k18 : Class := { plain "java/util/ArrayList" (some 15) with
  accessFlags := 33
  interfaces := #[14, 16, 17, 3]
  cf := some (fileOf pool18 10 #[.nestMembers #[290, 276, 500, 502, 262, 267]] #[{ accessFlags := 1, nameIndex := 5, descriptorIndex := 6, attributes := #[] }] 33 2 #[148, 329, 331, 333] #[{ accessFlags := 26, nameIndex := 335, descriptorIndex := 336, attributes := #[] }, { accessFlags := 26, nameIndex := 340, descriptorIndex := 51, attributes := #[] }, { accessFlags := 26, nameIndex := 17, descriptorIndex := 14, attributes := #[] }, { accessFlags := 26, nameIndex := 41, descriptorIndex := 14, attributes := #[] }, { accessFlags := 128, nameIndex := 13, descriptorIndex := 14, attributes := #[] }, { accessFlags := 2, nameIndex := 50, descriptorIndex := 51, attributes := #[] }])
  fields := #[{ name := "serialVersionUID", type := .long, accessFlags := 26, slot := 0, constantValue := 0 }, { name := "DEFAULT_CAPACITY", type := .int, accessFlags := 26, slot := 1, constantValue := 0 }, { name := "EMPTY_ELEMENTDATA", type := (.array (.object "java/lang/Object")), accessFlags := 26, slot := 2, constantValue := 0 }, { name := "DEFAULTCAPACITY_EMPTY_ELEMENTDATA", type := (.array (.object "java/lang/Object")), accessFlags := 26, slot := 3, constantValue := 0 }, { name := "elementData", type := (.array (.object "java/lang/Object")), accessFlags := 128, slot := 1, constantValue := 0 }, { name := "size", type := .int, accessFlags := 2, slot := 2, constantValue := 0 }]
  methods := #[k18m0]
  instanceTypes := #[.int, (.array (.object "java/lang/Object")), .int]
  staticTypes := #[.long, .int, (.array (.object "java/lang/Object")), (.array (.object "java/lang/Object"))]
  resolved := Array.replicate 509 none
  statics := some 1 }

def pool19 : Array CpInfo := pool [(4, .class_ 6), (1, u "java/lang/Object"), (0, u "<init>"), (0, u "()V"), (5, .class_ 16), (1, u "java/lang/StringLatin1"), (104, u "$assertionsDisabled"), (0, u "Z"), (98, .class_ 223), (1, u "java/lang/StringLatin1$LinesSpliterator"), (166, .class_ 391), (0, u "java/lang/StringLatin1$CharsSpliterator")] 3

def k19m0 : Method := { name := "<init>", desc := "()V", sig := { parameters := [], returnType := none }, accessFlags := 0, code := none }
/-- java/lang/StringLatin1 -/
def k19 : Class := { plain "java/lang/StringLatin1" (some 0) with
  accessFlags := 48
  interfaces := #[]
  cf := some (fileOf pool19 14 #[.nestMembers #[390, 221]] #[{ accessFlags := 0, nameIndex := 7, descriptorIndex := 8, attributes := #[] }] 48 4 #[] #[{ accessFlags := 4120, nameIndex := 121, descriptorIndex := 122, attributes := #[] }])
  fields := #[{ name := "$assertionsDisabled", type := .boolean, accessFlags := 4120, slot := 0, constantValue := 0 }]
  methods := #[k19m0]
  instanceTypes := #[]
  staticTypes := #[.boolean]
  resolved := Array.replicate 395 none
  statics := none }

def pool20 : Array CpInfo := pool [(2, .class_ 4), (1, u "java/lang/Object"), (0, u "<init>"), (0, u "()V"), (17, .class_ 26), (1, u "jdk/internal/util/Preconditions"), (28, .class_ 56), (0, u "jdk/internal/util/Preconditions$4"), (57, .class_ 115), (0, u "jdk/internal/util/Preconditions$1"), (7, u "SIOOBE_FORMATTER"), (0, u "Ljava/util/function/BiFunction;"), (0, .class_ 126), (0, u "jdk/internal/util/Preconditions$2"), (3, u "AIOOBE_FORMATTER"), (0, .class_ 132), (0, u "jdk/internal/util/Preconditions$3"), (3, u "IOOBE_FORMATTER")] 57

def k20m0 : Method := { name := "<init>", desc := "()V", sig := { parameters := [], returnType := none }, accessFlags := 1, code := none }
/-- jdk/internal/util/Preconditions -/
def k20 : Class := { plain "jdk/internal/util/Preconditions" (some 0) with
  accessFlags := 33
  interfaces := #[]
  cf := some (fileOf pool20 24 #[.nestMembers #[55, 131, 125, 114]] #[{ accessFlags := 1, nameIndex := 5, descriptorIndex := 6, attributes := #[] }] 33 2 #[] #[{ accessFlags := 25, nameIndex := 123, descriptorIndex := 124, attributes := #[] }, { accessFlags := 25, nameIndex := 130, descriptorIndex := 124, attributes := #[] }, { accessFlags := 25, nameIndex := 136, descriptorIndex := 124, attributes := #[] }])
  fields := #[{ name := "SIOOBE_FORMATTER", type := (.object "java/util/function/BiFunction"), accessFlags := 25, slot := 0, constantValue := 0 }, { name := "AIOOBE_FORMATTER", type := (.object "java/util/function/BiFunction"), accessFlags := 25, slot := 1, constantValue := 0 }, { name := "IOOBE_FORMATTER", type := (.object "java/util/function/BiFunction"), accessFlags := 25, slot := 2, constantValue := 0 }]
  methods := #[k20m0]
  instanceTypes := #[]
  staticTypes := #[(.object "java/util/function/BiFunction"), (.object "java/util/function/BiFunction"), (.object "java/util/function/BiFunction")]
  resolved := Array.replicate 194 none
  statics := some 2 }

def pool21 : Array CpInfo := pool [(9, u "<init>"), (6, .class_ 18), (1, u "java/lang/Object"), (0, u "()V"), (1, .class_ 23), (1, u "jdk/internal/util/ArraysSupport"), (0, u "LOG2_ARRAY_LONG_INDEX_SCALE"), (0, u "I"), (2, u "U"), (0, u "Ljdk/internal/misc/Unsafe;"), (8, u "BIG_ENDIAN"), (0, u "Z"), (8, u "LOG2_BYTE_BIT_SIZE"), (4, u "LOG2_ARRAY_INT_INDEX_SCALE"), (54, u "JLA"), (0, u "Ljdk/internal/access/JavaLangAccess;"), (11, u "LOG2_ARRAY_BOOLEAN_INDEX_SCALE"), (9, u "LOG2_ARRAY_BYTE_INDEX_SCALE"), (5, u "LOG2_ARRAY_CHAR_INDEX_SCALE"), (5, u "LOG2_ARRAY_SHORT_INDEX_SCALE"), (18, u "LOG2_ARRAY_FLOAT_INDEX_SCALE"), (24, u "LOG2_ARRAY_DOUBLE_INDEX_SCALE"), (89, u "T_BOOLEAN"), (2, u "T_CHAR"), (1, u "T_FLOAT"), (1, u "T_DOUBLE"), (1, u "T_BYTE"), (1, u "T_SHORT"), (1, u "T_INT"), (1, u "T_LONG"), (1, u "SOFT_MAX_ARRAY_LENGTH")] 83

def k21m0 : Method := { name := "<init>", desc := "()V", sig := { parameters := [], returnType := none }, accessFlags := 2, code := none }
/-- jdk/internal/util/ArraysSupport -/
def k21 : Class := { plain "jdk/internal/util/ArraysSupport" (some 0) with
  accessFlags := 33
  interfaces := #[]
  cf := some (fileOf pool21 21 #[] #[{ accessFlags := 2, nameIndex := 9, descriptorIndex := 19, attributes := #[] }] 33 16 #[] #[{ accessFlags := 24, nameIndex := 28, descriptorIndex := 29, attributes := #[] }, { accessFlags := 26, nameIndex := 38, descriptorIndex := 39, attributes := #[] }, { accessFlags := 25, nameIndex := 121, descriptorIndex := 25, attributes := #[] }, { accessFlags := 25, nameIndex := 131, descriptorIndex := 25, attributes := #[] }, { accessFlags := 25, nameIndex := 137, descriptorIndex := 25, attributes := #[] }, { accessFlags := 25, nameIndex := 143, descriptorIndex := 25, attributes := #[] }, { accessFlags := 25, nameIndex := 53, descriptorIndex := 25, attributes := #[] }, { accessFlags := 25, nameIndex := 24, descriptorIndex := 25, attributes := #[] }, { accessFlags := 25, nameIndex := 162, descriptorIndex := 25, attributes := #[] }, { accessFlags := 25, nameIndex := 187, descriptorIndex := 25, attributes := #[] }, { accessFlags := 26, nameIndex := 48, descriptorIndex := 25, attributes := #[] }, { accessFlags := 25, nameIndex := 277, descriptorIndex := 25, attributes := #[] }, { accessFlags := 25, nameIndex := 280, descriptorIndex := 25, attributes := #[] }, { accessFlags := 25, nameIndex := 282, descriptorIndex := 25, attributes := #[] }, { accessFlags := 25, nameIndex := 284, descriptorIndex := 25, attributes := #[] }, { accessFlags := 25, nameIndex := 286, descriptorIndex := 25, attributes := #[] }, { accessFlags := 25, nameIndex := 288, descriptorIndex := 25, attributes := #[] }, { accessFlags := 25, nameIndex := 290, descriptorIndex := 25, attributes := #[] }, { accessFlags := 25, nameIndex := 292, descriptorIndex := 25, attributes := #[] }, { accessFlags := 26, nameIndex := 108, descriptorIndex := 109, attributes := #[] }, { accessFlags := 25, nameIndex := 294, descriptorIndex := 25, attributes := #[] }])
  fields := #[{ name := "U", type := (.object "jdk/internal/misc/Unsafe"), accessFlags := 24, slot := 0, constantValue := 0 }, { name := "BIG_ENDIAN", type := .boolean, accessFlags := 26, slot := 1, constantValue := 0 }, { name := "LOG2_ARRAY_BOOLEAN_INDEX_SCALE", type := .int, accessFlags := 25, slot := 2, constantValue := 0 }, { name := "LOG2_ARRAY_BYTE_INDEX_SCALE", type := .int, accessFlags := 25, slot := 3, constantValue := 0 }, { name := "LOG2_ARRAY_CHAR_INDEX_SCALE", type := .int, accessFlags := 25, slot := 4, constantValue := 0 }, { name := "LOG2_ARRAY_SHORT_INDEX_SCALE", type := .int, accessFlags := 25, slot := 5, constantValue := 0 }, { name := "LOG2_ARRAY_INT_INDEX_SCALE", type := .int, accessFlags := 25, slot := 6, constantValue := 0 }, { name := "LOG2_ARRAY_LONG_INDEX_SCALE", type := .int, accessFlags := 25, slot := 7, constantValue := 0 }, { name := "LOG2_ARRAY_FLOAT_INDEX_SCALE", type := .int, accessFlags := 25, slot := 8, constantValue := 0 }, { name := "LOG2_ARRAY_DOUBLE_INDEX_SCALE", type := .int, accessFlags := 25, slot := 9, constantValue := 0 }, { name := "LOG2_BYTE_BIT_SIZE", type := .int, accessFlags := 26, slot := 10, constantValue := 0 }, { name := "T_BOOLEAN", type := .int, accessFlags := 25, slot := 11, constantValue := 0 }, { name := "T_CHAR", type := .int, accessFlags := 25, slot := 12, constantValue := 0 }, { name := "T_FLOAT", type := .int, accessFlags := 25, slot := 13, constantValue := 0 }, { name := "T_DOUBLE", type := .int, accessFlags := 25, slot := 14, constantValue := 0 }, { name := "T_BYTE", type := .int, accessFlags := 25, slot := 15, constantValue := 0 }, { name := "T_SHORT", type := .int, accessFlags := 25, slot := 16, constantValue := 0 }, { name := "T_INT", type := .int, accessFlags := 25, slot := 17, constantValue := 0 }, { name := "T_LONG", type := .int, accessFlags := 25, slot := 18, constantValue := 0 }, { name := "JLA", type := (.object "jdk/internal/access/JavaLangAccess"), accessFlags := 26, slot := 19, constantValue := 0 }, { name := "SOFT_MAX_ARRAY_LENGTH", type := .int, accessFlags := 25, slot := 20, constantValue := 0 }]
  methods := #[k21m0]
  instanceTypes := #[]
  staticTypes := #[(.object "jdk/internal/misc/Unsafe"), .boolean, .int, .int, .int, .int, .int, .int, .int, .int, .int, .int, .int, .int, .int, .int, .int, .int, .int, (.object "jdk/internal/access/JavaLangAccess"), .int]
  resolved := Array.replicate 378 none
  statics := none }

/-- the primitive byte -/
def k22 : Class := { plain "byte" none with kind := .primitive 'B', accessFlags := 0x411 }
/-- [B -/
def k23 : Class := { plain "[B" (some 0) with kind := .array 22 .byte, interfaces := #[17, 3], accessFlags := 1041 }

/-- the primitive char -/
def k24 : Class := { plain "char" none with kind := .primitive 'C', accessFlags := 0x411 }
/-- [C -/
def k25 : Class := { plain "[C" (some 0) with kind := .array 24 .char, interfaces := #[17, 3], accessFlags := 1041 }

/-- the primitive int -/
def k26 : Class := { plain "int" none with kind := .primitive 'I', accessFlags := 0x411 }
/-- [I -/
def k27 : Class := { plain "[I" (some 0) with kind := .array 26 .int, interfaces := #[17, 3], accessFlags := 1041 }

/-- [Ljava/lang/Object; -/
def k28 : Class := { plain "[Ljava/lang/Object;" (some 0) with kind := .array 0 (.object "java/lang/Object"), interfaces := #[17, 3], accessFlags := 1041 }

def heap : Heap := #[{ cls := 8, slots := #[.long 0, .int 1, .null, .int 0, .null, .int 0, .int 0], vm := .statics 8 },
  { cls := 18, slots := #[.long 0, .int 0, .ref 3, .ref 4], vm := .statics 18 },
  { cls := 20, slots := #[.null, .null, .null], vm := .statics 20 },
  { cls := 28, slots := #[], vm := .none },
  { cls := 28, slots := #[], vm := .none }]
def classes : Array Class := #[k0, k1, k2, k3, k4, k5, k6, k7, k8, k9, k10, k11, k12, k13, k14, k15, k16, k17, k18, k19, k20, k21, k22, k23, k24, k25, k26, k27, k28]
def interned : List (Array UInt16 × Addr) := []
def slotsUsed : Nat := 14
def theMethod : MethodId := ⟨1, 1⟩
def args0 : Array Value := #[.long 5, .int 7, .int 2]
def aboutOver (below : List Frame) : State where
  vm := { classes := classes, interned := interned.toArray }
  heap := heap
  slotsUsed := slotsUsed
  threads := #[{ frames := .invoking theMethod args0 :: below }]
def below0 : List Frame := [.native { method := ⟨0, 0⟩, args := #[] }]
def about1 : State := aboutOver below0
def p0 : Program := .bare "" "" ""
def e0 : Env := launch0.env 0 0 0
theorem w_frames : about1.frames = Frame.invoking theMethod args0 :: below0 := rfl
set_option maxRecDepth 65536 in
theorem w_args : argsFit about1.vm theMethod args0 = true := by decide +kernel
set_option maxRecDepth 65536 in
theorem w_heap : heapFits about1 = true := by decide +kernel
set_option maxRecDepth 65536 in
theorem w_runnable : about1.curStatus? = some .runnable := by decide +kernel
set_option maxRecDepth 65536 in
theorem w_alone : about1.alone = true := by decide +kernel
set_option maxRecDepth 65536 in
theorem w_named : about1.methodNamed? x = some theMethod := by decide +kernel
set_option maxRecDepth 65536 in
theorem w_hears : about1.hears theMethod below0 = true := by decide +kernel
set_option maxRecDepth 65536 in
theorem w_ripe : about1.ripe theMethod args0 below0 = true := by decide +kernel
theorem w_running : about1.status = .running := rfl
set_option maxRecDepth 65536 in
theorem w_room : about1.hasRoom e0.platform room_1 = true :=
  launch0.hasRoom_least _ room_1 (by decide +kernel) (by decide +kernel) (by decide +kernel) (by decide +kernel) (by decide +kernel) (by decide +kernel)
theorem allAtoms_all (ts : List Jvm.Cond) (a : Array Jvm.Value) (st : Jvm.State) : (allAtoms ts).before a st = ts.all (fun c => c.before a st) := by
  induction ts with
  | nil => rfl
  | cons c t ih =>
    show (Jvm.Cond.and c (allAtoms t)).before a st = _
    rw [Jvm.Cond.before_and, ih, List.all_cons]
def words1 : List Jvm.Cond := Jvm.Cond.code x code maxLocals ret :: tables_1
/-- a 'code' word, met by the world's own term for the bytes: nothing is compared byte by byte -/
theorem code_word {y : MethodName} {bytes : ByteArray} {mx : Nat} {rt : Option FieldType} {a : Array Value} {s : State} {m : MethodId} {meth : Method} {c : Code} (h1 : s.methodNamed? y = some m) (h2 : s.vm.method? m = some meth) (h3 : meth.code = some c) (h4 : c.code = bytes)
    (h5 : (c.maxLocals == mx && c.exceptionTable.isEmpty && decide (c.maxStack ≤ mostOperands) && decide (meth.sig.returnType = rt) && !meth.locks && decide (parseMethodDescriptor y.desc = some meth.sig)) = true) : (Jvm.Cond.code y bytes mx rt).before a s = true := by
  simp only [Bool.and_eq_true, beq_iff_eq, Bool.not_eq_true', decide_eq_true_eq] at h5
  obtain ⟨⟨⟨⟨⟨g1, g2⟩, g3⟩, g4⟩, g5⟩, g6⟩ := h5
  simp [Cond.before, Cond.holds, Cond.value, h1, h2, h3, h4, g1, g2, g3, g4, g5, g6]
def isCode : Jvm.Cond → Bool
  | .code _ _ _ _ => true
  | _ => false
theorem all_split {L : List Jvm.Cond} {P : Jvm.Cond → Bool} (h1 : L.all (fun c => isCode c || P c) = true) (h2 : ∀ c ∈ L.filter isCode, P c = true) : L.all P = true := by
  refine List.all_eq_true.mpr fun c hc => ?_
  have h := List.all_eq_true.mp h1 c hc
  rcases Bool.eq_false_or_eq_true (isCode c) with hi | hi
  · exact h2 c (List.mem_filter.mpr ⟨hc, hi⟩)
  · simpa [hi] using h
set_option maxRecDepth 65536 in
theorem w_c0 : (Jvm.Cond.code x code maxLocals ret).before args0 about1 = true := code_word (m := ⟨1, 1⟩) (meth := k1m1) (c := k1c1) (by decide +kernel) rfl rfl rfl (by decide +kernel)
set_option maxRecDepth 65536 in
theorem w_c1 : (Jvm.Cond.code ({ cls := "java/lang/String", name := "<init>", desc := "([C)V" } : Jvm.MethodName) jdk_42_method_3_code (2 : Nat) (Option.none : Option Jvm.ClassFile.FieldType)).before args0 about1 = true := code_word (m := ⟨8, 1⟩) (meth := k8m1) (c := k8c1) (by decide +kernel) rfl rfl rfl (by decide +kernel)
set_option maxRecDepth 65536 in
theorem w_c2 : (Jvm.Cond.code ({ cls := "java/lang/String", name := "<init>", desc := "([CIILjava/lang/Void;)V" } : Jvm.MethodName) jdk_42_method_149_code (6 : Nat) (Option.none : Option Jvm.ClassFile.FieldType)).before args0 about1 = true := code_word (m := ⟨8, 2⟩) (meth := k8m2) (c := k8c2) (by decide +kernel) rfl rfl rfl (by decide +kernel)
set_option maxRecDepth 65536 in
theorem w_c3 : (Jvm.Cond.code ({ cls := "java/lang/Object", name := "<init>", desc := "()V" } : Jvm.MethodName) object_method_1_code (1 : Nat) (Option.none : Option Jvm.ClassFile.FieldType)).before args0 about1 = true := code_word (m := ⟨0, 0⟩) (meth := k0m0) (c := k0c0) (by decide +kernel) rfl rfl rfl (by decide +kernel)
set_option maxRecDepth 65536 in
theorem w_c4 : (Jvm.Cond.code ({ cls := "java/lang/StringUTF16", name := "compress", desc := "([CII)[B" } : Jvm.MethodName) jdk_52_method_16_code (6 : Nat) (Option.some (Jvm.ClassFile.FieldType.array Jvm.ClassFile.FieldType.byte))).before args0 about1 = true := code_word (m := ⟨9, 2⟩) (meth := k9m2) (c := k9c2) (by decide +kernel) rfl rfl rfl (by decide +kernel)
set_option maxRecDepth 65536 in
theorem w_c5 : (Jvm.Cond.code ({ cls := "java/lang/StringUTF16", name := "compress", desc := "([CI[BII)I" } : Jvm.MethodName) jdk_52_method_21_code (7 : Nat) (Option.some Jvm.ClassFile.FieldType.int)).before args0 about1 = true := code_word (m := ⟨9, 3⟩) (meth := k9m3) (c := k9c3) (by decide +kernel) rfl rfl rfl (by decide +kernel)
set_option maxRecDepth 65536 in
theorem w_c6 : (Jvm.Cond.code ({ cls := "java/lang/StringUTF16", name := "coderFromArrayLen", desc := "([BI)B" } : Jvm.MethodName) jdk_52_method_15_code (2 : Nat) (Option.some Jvm.ClassFile.FieldType.byte)).before args0 about1 = true := code_word (m := ⟨9, 1⟩) (meth := k9m1) (c := k9c1) (by decide +kernel) rfl rfl rfl (by decide +kernel)
set_option maxRecDepth 65536 in
theorem w_c7 : (Jvm.Cond.code ({ cls := "com/example/outbound_courier/outboundcourier/http/RequestHead", name := "<init>", desc := "(Ljava/lang/String;I)V" } : Jvm.MethodName) prog_20_method_1_code (3 : Nat) (Option.none : Option Jvm.ClassFile.FieldType)).before args0 about1 = true := code_word (m := ⟨2, 0⟩) (meth := k2m0) (c := k2c0) (by decide +kernel) rfl rfl rfl (by decide +kernel)
set_option maxRecDepth 65536 in
theorem w_c8 : (Jvm.Cond.code ({ cls := "java/util/ArrayList", name := "<init>", desc := "()V" } : Jvm.MethodName) jdk_38_method_2_code (1 : Nat) (Option.none : Option Jvm.ClassFile.FieldType)).before args0 about1 = true := code_word (m := ⟨18, 0⟩) (meth := k18m0) (c := k18c0) (by decide +kernel) rfl rfl rfl (by decide +kernel)
set_option maxRecDepth 65536 in
theorem w_c9 : (Jvm.Cond.code ({ cls := "java/util/AbstractList", name := "<init>", desc := "()V" } : Jvm.MethodName) jdk_39_method_1_code (1 : Nat) (Option.none : Option Jvm.ClassFile.FieldType)).before args0 about1 = true := code_word (m := ⟨15, 0⟩) (meth := k15m0) (c := k15c0) (by decide +kernel) rfl rfl rfl (by decide +kernel)
set_option maxRecDepth 65536 in
theorem w_c10 : (Jvm.Cond.code ({ cls := "java/util/AbstractCollection", name := "<init>", desc := "()V" } : Jvm.MethodName) jdk_22_method_1_code (1 : Nat) (Option.none : Option Jvm.ClassFile.FieldType)).before args0 about1 = true := code_word (m := ⟨12, 0⟩) (meth := k12m0) (c := k12c0) (by decide +kernel) rfl rfl rfl (by decide +kernel)
set_option maxRecDepth 65536 in
theorem w_c11 : (Jvm.Cond.code ({ cls := "com/example/outbound_courier/outboundcourier/http/RequestHead", name := "setContentLength", desc := "(J)V" } : Jvm.MethodName) prog_20_method_15_code (3 : Nat) (Option.none : Option Jvm.ClassFile.FieldType)).before args0 about1 = true := code_word (m := ⟨2, 2⟩) (meth := k2m2) (c := k2c2) (by decide +kernel) rfl rfl rfl (by decide +kernel)
set_option maxRecDepth 65536 in
theorem w_c12 : (Jvm.Cond.code ({ cls := "com/example/outbound_courier/outboundcourier/http/RequestHead", name := "hasBody", desc := "()Z" } : Jvm.MethodName) prog_20_method_8_code (1 : Nat) (Option.some Jvm.ClassFile.FieldType.boolean)).before args0 about1 = true := code_word (m := ⟨2, 1⟩) (meth := k2m1) (c := k2c1) (by decide +kernel) rfl rfl rfl (by decide +kernel)
set_option maxRecDepth 65536 in
theorem w_c13 : (Jvm.Cond.code ({ cls := "com/example/outbound_courier/outboundcourier/http/RequestHead", name := "setClose", desc := "()V" } : Jvm.MethodName) prog_20_method_17_code (1 : Nat) (Option.none : Option Jvm.ClassFile.FieldType)).before args0 about1 = true := code_word (m := ⟨2, 4⟩) (meth := k2m4) (c := k2c4) (by decide +kernel) rfl rfl rfl (by decide +kernel)
set_option maxRecDepth 65536 in
theorem w_c14 : (Jvm.Cond.code ({ cls := "com/example/outbound_courier/outboundcourier/http/RequestHead", name := "setExpectsContinue", desc := "()V" } : Jvm.MethodName) prog_20_method_18_code (1 : Nat) (Option.none : Option Jvm.ClassFile.FieldType)).before args0 about1 = true := code_word (m := ⟨2, 5⟩) (meth := k2m5) (c := k2c5) (by decide +kernel) rfl rfl rfl (by decide +kernel)
set_option maxRecDepth 65536 in
theorem w_c15 : (Jvm.Cond.code ({ cls := "com/example/outbound_courier/outboundcourier/http/RequestHead", name := "setChunked", desc := "()V" } : Jvm.MethodName) prog_20_method_16_code (1 : Nat) (Option.none : Option Jvm.ClassFile.FieldType)).before args0 about1 = true := code_word (m := ⟨2, 3⟩) (meth := k2m3) (c := k2c3) (by decide +kernel) rfl rfl rfl (by decide +kernel)
def codes1 : List Jvm.Cond := [Jvm.Cond.code x code maxLocals ret, Jvm.Cond.code ({ cls := "java/lang/String", name := "<init>", desc := "([C)V" } : Jvm.MethodName) jdk_42_method_3_code (2 : Nat) (Option.none : Option Jvm.ClassFile.FieldType), Jvm.Cond.code ({ cls := "java/lang/String", name := "<init>", desc := "([CIILjava/lang/Void;)V" } : Jvm.MethodName) jdk_42_method_149_code (6 : Nat) (Option.none : Option Jvm.ClassFile.FieldType), Jvm.Cond.code ({ cls := "java/lang/Object", name := "<init>", desc := "()V" } : Jvm.MethodName) object_method_1_code (1 : Nat) (Option.none : Option Jvm.ClassFile.FieldType), Jvm.Cond.code ({ cls := "java/lang/StringUTF16", name := "compress", desc := "([CII)[B" } : Jvm.MethodName) jdk_52_method_16_code (6 : Nat) (Option.some (Jvm.ClassFile.FieldType.array Jvm.ClassFile.FieldType.byte)), Jvm.Cond.code ({ cls := "java/lang/StringUTF16", name := "compress", desc := "([CI[BII)I" } : Jvm.MethodName) jdk_52_method_21_code (7 : Nat) (Option.some Jvm.ClassFile.FieldType.int), Jvm.Cond.code ({ cls := "java/lang/StringUTF16", name := "coderFromArrayLen", desc := "([BI)B" } : Jvm.MethodName) jdk_52_method_15_code (2 : Nat) (Option.some Jvm.ClassFile.FieldType.byte), Jvm.Cond.code ({ cls := "com/example/outbound_courier/outboundcourier/http/RequestHead", name := "<init>", desc := "(Ljava/lang/String;I)V" } : Jvm.MethodName) prog_20_method_1_code (3 : Nat) (Option.none : Option Jvm.ClassFile.FieldType), Jvm.Cond.code ({ cls := "java/util/ArrayList", name := "<init>", desc := "()V" } : Jvm.MethodName) jdk_38_method_2_code (1 : Nat) (Option.none : Option Jvm.ClassFile.FieldType), Jvm.Cond.code ({ cls := "java/util/AbstractList", name := "<init>", desc := "()V" } : Jvm.MethodName) jdk_39_method_1_code (1 : Nat) (Option.none : Option Jvm.ClassFile.FieldType), Jvm.Cond.code ({ cls := "java/util/AbstractCollection", name := "<init>", desc := "()V" } : Jvm.MethodName) jdk_22_method_1_code (1 : Nat) (Option.none : Option Jvm.ClassFile.FieldType), Jvm.Cond.code ({ cls := "com/example/outbound_courier/outboundcourier/http/RequestHead", name := "setContentLength", desc := "(J)V" } : Jvm.MethodName) prog_20_method_15_code (3 : Nat) (Option.none : Option Jvm.ClassFile.FieldType), Jvm.Cond.code ({ cls := "com/example/outbound_courier/outboundcourier/http/RequestHead", name := "hasBody", desc := "()Z" } : Jvm.MethodName) prog_20_method_8_code (1 : Nat) (Option.some Jvm.ClassFile.FieldType.boolean), Jvm.Cond.code ({ cls := "com/example/outbound_courier/outboundcourier/http/RequestHead", name := "setClose", desc := "()V" } : Jvm.MethodName) prog_20_method_17_code (1 : Nat) (Option.none : Option Jvm.ClassFile.FieldType), Jvm.Cond.code ({ cls := "com/example/outbound_courier/outboundcourier/http/RequestHead", name := "setExpectsContinue", desc := "()V" } : Jvm.MethodName) prog_20_method_18_code (1 : Nat) (Option.none : Option Jvm.ClassFile.FieldType), Jvm.Cond.code ({ cls := "com/example/outbound_courier/outboundcourier/http/RequestHead", name := "setChunked", desc := "()V" } : Jvm.MethodName) prog_20_method_16_code (1 : Nat) (Option.none : Option Jvm.ClassFile.FieldType)]
set_option maxRecDepth 65536 in
theorem codes_eq : words1.filter isCode = codes1 := rfl
theorem w_codes : ∀ c ∈ words1.filter isCode, c.before args0 about1 = true := by
  rw [codes_eq]
  intro c hc
  simp only [codes1, List.mem_cons, List.not_mem_nil, or_false] at hc
  rcases hc with rfl | rfl | rfl | rfl | rfl | rfl | rfl | rfl | rfl | rfl | rfl | rfl | rfl | rfl | rfl | rfl
  · exact w_c0
  · exact w_c1
  · exact w_c2
  · exact w_c3
  · exact w_c4
  · exact w_c5
  · exact w_c6
  · exact w_c7
  · exact w_c8
  · exact w_c9
  · exact w_c10
  · exact w_c11
  · exact w_c12
  · exact w_c13
  · exact w_c14
  · exact w_c15
set_option maxRecDepth 65536 in
theorem w_t1 : (words1.take 24).all (fun c => isCode c || c.before args0 about1) = true := by decide +kernel
set_option maxRecDepth 65536 in
theorem w_t2 : ((words1.drop 24).take 24).all (fun c => isCode c || c.before args0 about1) = true := by decide +kernel
set_option maxRecDepth 65536 in
theorem w_t3 : (((words1.drop 24).drop 24).take 24).all (fun c => isCode c || c.before args0 about1) = true := by decide +kernel
set_option maxRecDepth 65536 in
theorem w_t4 : ((((words1.drop 24).drop 24).drop 24).take 24).all (fun c => isCode c || c.before args0 about1) = true := by decide +kernel
set_option maxRecDepth 65536 in
theorem w_t5 : ((((words1.drop 24).drop 24).drop 24).drop 24).all (fun c => isCode c || c.before args0 about1) = true := by decide +kernel
theorem w_tables : (allAtoms (Jvm.Cond.code x code maxLocals ret :: tables_1)).before args0 about1 = true := by
  rw [allAtoms_all]
  show words1.all (fun c => c.before args0 about1) = true
  refine all_split ?_ w_codes
  rw [← List.take_append_drop 24 words1, List.all_append, w_t1, ← List.take_append_drop 24 (words1.drop 24), List.all_append, w_t2, ← List.take_append_drop 24 ((words1.drop 24).drop 24), List.all_append, w_t3, ← List.take_append_drop 24 (((words1.drop 24).drop 24).drop 24), List.all_append, w_t4, w_t5]
  rfl
set_option maxRecDepth 65536 in
theorem w_rest : rest_1_c.before args0 about1 = true := by decide +kernel
set_option maxRecDepth 65536 in
theorem w_case : (Jvm.Cond.and given_1 narrow_1).before args0 about1 = true := by decide +kernel
theorem w_applies : (headSpec (Jvm.Cond.code x code maxLocals ret :: tables_1) room_1).applies x e0.platform about1 = true :=
  (Spec.applies_iff w_frames).mpr ⟨w_running, w_runnable, w_alone, w_named, w_hears, w_ripe, w_room, w_tables⟩
theorem atStart : AtStart classFile x code maxLocals ret World_1 tables_1 room_1 Calls_1 rest_1 Pre_1 launch0 p0 e0 about1 theMethod args0 below0 :=
  ⟨lists_1, trivial, launch0.admits_env _ _ _, launch0.least_env, fairChoices_fair.cas, fairChoices_fair.clock, w_frames, w_args, w_heap, w_applies, trivial, w_rest, w_case⟩
end start1
theorem witness_1 : WitnessClaimed_1 := ⟨start1.p0, start1.e0, start1.about1, start1.theMethod, start1.args0, start1.below0, start1.atStart⟩
end Jvm.Pilot.@@N@@
