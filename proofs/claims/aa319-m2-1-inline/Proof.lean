import JvmDerived
import JvmDerived.Pilot.@@N@@Statement
import JvmDerived.Pilot.@@N@@Code
set_option linter.unusedVariables false
set_option linter.unusedSimpArgs false
namespace Jvm.RoadKit
open Sem ClassFile Op Lib Jvm.Stand Jvm.Free Jvm.LawKit
section New
variable {p : Program} {l : Launch} {e : Env} {R : Room} {s : State} {m : MethodId} {args : Array Value} {below : List Frame} {meth : Method} {c : Code} {T : State} {locs : List Loc} {cells slots : Nat}
theorem retI (X : Stand p l e R s m args below meth c T locs cells slots) (hx : p.tables.exec = Jvm.exec) {pc : Nat} {Ls : Array Slot} {z : Int32} {rest : List Value} (hret : meth.sig.returnType = some .int) (hd : decode c.code pc = .ok (.ireturn, 1)) {fs : List Frame}
    (hl : ∀ (f : JFrame) (acts : List Action), f.method = m → f.locked = none → f.entered = [] → (doReturn e (T.setTop f) acts (some (.int z))).1 = T.setFrames fs) : Steps p.tables e below (T.setTop (mkF m pc Ls (.int z :: rest))) (T.setFrames fs) := by
  have hm' : T.vm.method? m = some meth := X.method'
  have hn : narrow .int (.int z) = .int z := rfl
  show Steps p.tables e below (T.setTop { method := m, pc := pc, locals := Ls, stack := _ :: rest, locked := none }) _
  jvm_step X.here [X.here.top, hx, hd, hm', hret, hn]
  first | (intro acts; rw [hl _ acts rfl rfl rfl]) | rw [hl _ _ rfl rfl rfl]
  exact Steps.refl _
theorem own_retA (X : Stand p l e R s m args below meth c T locs cells slots) (hx : p.tables.exec = Jvm.exec) {pc : Nat} {Ls : Array Slot} {z : Value} {ty : FieldType} {rest : List Value} (hret : meth.sig.returnType = some ty) (hty : ty.isReference = true) (hz : z.isRef = true) (hd : decode c.code pc = .ok (.areturn, 1)) {fs : List Frame}
    (hl : ∀ (f : JFrame) (acts : List Action), f.method = m → f.locked = none → f.entered = [] → (doReturn e (T.setTop f) acts (some z)).1 = T.setFrames fs) : Steps p.tables e below (T.setTop (mkF m pc Ls (z :: rest))) (T.setFrames fs) := by
  have hm' : T.vm.method? m = some meth := X.method'
  show Steps p.tables e below (T.setTop { method := m, pc := pc, locals := Ls, stack := _ :: rest, locked := none }) _
  jvm_step X.here [X.here.top, hx, hd, hm', hret, hz, hty]
  first | (intro acts; rw [hl _ acts rfl rfl rfl]) | rw [hl _ _ rfl rfl rfl]
  exact Steps.refl _
theorem own_lremM {g : JFrame} {target : State} (X : Stand p l e R s m args below meth c T locs cells slots) (hx : p.tables.exec = Jvm.exec) (hg : g.method = m) {x y : Int64} {rest : List Value} (hd : decode c.code g.pc = .ok (.lrem, 1)) (hs : g.stack = .long y :: .long x :: rest) (hy : y ≠ 0)
    (hr : Steps p.tables e below (T.setTop { g with pc := g.pc + 1, stack := .long (x % y) :: rest }) target) : Steps p.tables e below (T.setTop g) target :=
  XS.lrem X.here hx hg hd hs hy (by rw [lrem_mod]; exact hr)
end New
end Jvm.RoadKit
@@BLOCK:TracedD.lean.txt@@
/- laws to paste: Road.backV, Road.eqW (cut by pick.py; bodies as the Statement names them) -/
namespace Jvm.Pilot.@@N@@
namespace StrChars
open Jvm Sem ClassFile Op Lib Jvm.Stand Jvm.Free.XT Jvm.Free.ALB Jvm.Free.JM Jvm.Free
open Jvm.Lib.Cold (StaticIs)
/-- a char array whose places are chars -/
def Ch (a : Addr) (A : Cell) (U : State) : Prop := Arr .char a A U ∧ Typed .char A
theorem Ch.mv {a : Addr} {A : Cell} {U U' : State} (h : Ch a A U) (hal : U.vm.Alike U'.vm) (hh : U'.heap = U.heap) : Ch a A U' := ⟨h.1.mv hal hh, h.2⟩
theorem Ch.keep {a : Addr} {A : Cell} {U U' : State} (h : Ch a A U) (hal : U.vm.Alike U'.vm) (hk : U'.heap[a]? = some A) : Ch a A U' := ⟨h.1.keep hal hk, h.2⟩
/-- what place i of a char[]'s cell holds -/
def cv (A : Cell) (i : Nat) : Int32 := match A.slots[i]? with | some (.int x) => x | _ => 0
theorem Ch.get {a : Addr} {A : Cell} {U : State} (h : Ch a A U) {i : Nat} (hi : i < A.slots.size) : A.slots[i]? = some (.int (cv A i)) := by
  have e := Array.getElem?_eq_getElem hi
  have f := h.2 i _ e
  unfold cv; rw [e]
  generalize A.slots[i] = v at f
  cases v <;> simp [fits] at f ⊢
/-- the byte that i2b leaves of a char -/
def lo8 (x : Int32) : Int32 := x.toInt8.toInt32
theorem fits_lo8 (y : Int32) : fits .byte (.int (lo8 y)) = true := by
  have h1 := y.toInt8.le_toInt
  have h2 := y.toInt8.toInt_lt
  simp only [lo8, fits, Bool.and_eq_true, decide_eq_true_eq, Int32.le_iff_toInt_le, Int8.toInt_toInt32, show (-128 : Int32).toInt = -128 from by decide, show (127 : Int32).toInt = 127 from by decide]
  omega
/-- A' is A but that each place j of lo .. hi - 1 holds f j -/
def Laid (A A' : Cell) (lo hi : Nat) (f : Nat → Value) : Prop := A'.cls = A.cls ∧ A'.vm = A.vm ∧ A'.slots.size = A.slots.size ∧ ∀ i, A'.slots[i]? = if lo ≤ i ∧ i < hi then some (f i) else A.slots[i]?
theorem Laid.zero (A : Cell) (lo : Nat) (f : Nat → Value) : Laid A A lo (lo + 0) f := ⟨rfl, rfl, rfl, fun i => by rw [if_neg (by omega)]⟩
theorem Laid.step {A Ak : Cell} {lo k : Nat} {f : Nat → Value} {v : Value} (h : Laid A Ak lo k f) (hlo : lo ≤ k) (hk : k < Ak.slots.size) (hv : v = f k) : Laid A (Ak.setSlot k v) lo (k + 1) f := by
  refine ⟨h.1, h.2.1, by simpa [Cell.setSlot] using h.2.2.1, fun i => ?_⟩
  by_cases e : k = i
  · subst e; rw [Cell.slots_setSlot_self v hk, if_pos (by omega), hv]
  · rw [Cell.slots_setSlot_ne v e, h.2.2.2 i]
    by_cases q : lo ≤ i ∧ i < k
    · rw [if_pos q, if_pos (by omega)]
    · rw [if_neg q, if_neg (by omega)]
def U16 : String := "java/lang/StringUTF16"
namespace Cmp5
def yN : MethodName := ⟨"java/lang/StringUTF16", "compress", "([CI[BII)I"⟩
abbrev yB : ByteArray := jdk_52_method_21_code
theorem d0 : decode yB 0 = .ok (.iconst 0, 1) := by decide +kernel
theorem d1 : decode yB 1 = .ok (.istore 5, 2) := by decide +kernel
theorem d3 : decode yB 3 = .ok (.iload 5, 2) := by decide +kernel
theorem d5 : decode yB 5 = .ok (.iload 4, 2) := by decide +kernel
theorem d7 : decode yB 7 = .ok (.if_icmp (.ge) 37, 3) := by decide +kernel
theorem d10 : decode yB 10 = .ok (.aload_n 0, 1) := by decide +kernel
theorem d11 : decode yB 11 = .ok (.iload_n 1, 1) := by decide +kernel
theorem d12 : decode yB 12 = .ok (.caload, 1) := by decide +kernel
theorem d13 : decode yB 13 = .ok (.istore 6, 2) := by decide +kernel
theorem d15 : decode yB 15 = .ok (.iload 6, 2) := by decide +kernel
theorem d17 : decode yB 17 = .ok (.sipush 255, 3) := by decide +kernel
theorem d20 : decode yB 20 = .ok (.if_icmp (.le) 6, 3) := by decide +kernel
theorem d26 : decode yB 26 = .ok (.aload_n 2, 1) := by decide +kernel
theorem d27 : decode yB 27 = .ok (.iload_n 3, 1) := by decide +kernel
theorem d28 : decode yB 28 = .ok (.iload 6, 2) := by decide +kernel
theorem d30 : decode yB 30 = .ok (.i2b, 1) := by decide +kernel
theorem d31 : decode yB 31 = .ok (.bastore, 1) := by decide +kernel
theorem d32 : decode yB 32 = .ok (.iinc 1 1, 3) := by decide +kernel
theorem d35 : decode yB 35 = .ok (.iinc 3 1, 3) := by decide +kernel
theorem d38 : decode yB 38 = .ok (.iinc 5 1, 3) := by decide +kernel
theorem d41 : decode yB 41 = .ok (.goto (-38), 3) := by decide +kernel
theorem d44 : decode yB 44 = .ok (.iload 4, 2) := by decide +kernel
theorem d46 : decode yB 46 = .ok (.ireturn, 1) := by decide +kernel
def site : List Cond := []
def tab : Cond := tabOf yN yB 7 (some .int) site
def P (b : Addr) (A : Cell) (d : Addr) (B : Cell) (o q len : Nat) (args : Array Value) (s : State) : Prop := args = #[.ref b, .int (Int32.ofNat o), .ref d, .int (Int32.ofNat q), .int (Int32.ofNat len)] ∧ Ch b A s ∧ Arr .byte d B s ∧ b ≠ d ∧ o + len ≤ A.slots.size ∧ q + len ≤ B.slots.size ∧ ∀ i, i < len → ¬ 255 < cv A (o + i)
def E (b : Addr) (A : Cell) (d : Addr) (B : Cell) (o q len : Nat) (r : Option Value) (s u : State) : Prop := r = some (.int (Int32.ofNat len)) ∧ ∃ B', Put d B' s u ∧ Laid B B' q (q + len) (fun j => Value.int (lo8 (cv A (o + (j - q)))))
/-- no char of the range above 255: len; the places written hold each char's low byte -/
theorem law (l : Launch) (b : Addr) (A : Cell) (d : Addr) (B : Cell) (o q len : Nat) : Law l yN 5 5 0 0 yB 7 (some .int) site (P b A d B o q len) (E b A d B o q len) (copyLocs d q len) 0 0 := by
  refine Law.of_walk (plainFor_of_name (by decide +kernel)) (by decide +kernel) (by decide +kernel) (by decide) (fun _ _ h => by rw [h.1]; rfl) (fun _ U U' hal hh h => ⟨h.1, h.2.1.mv hal hh, h.2.2.1.mv hal hh, h.2.2.2⟩) (fun r U U' V V' h1 hal h2 h => ⟨h.1, h.2.elim fun B' q => ⟨B', q.1.mv h1 h2, q.2⟩⟩) ?_
  intro p e s m args below meth c s₁ X0 hexec hbytes hml hret hlk hnm hown hh0 W hP
  obtain ⟨rfl, hA, hB, hne, l1, l2, hp⟩ := hP
  have c1 : Steps p.tables e below (s₁.setTop (entryFrame m #[.ref b, .int (Int32.ofNat o), .ref d, .int (Int32.ofNat q), .int (Int32.ofNat len)] 7)) (s₁.setTop (mkF m 0 #[.val (.ref b), .val (.int (Int32.ofNat o)), .val (.ref d), .val (.int (Int32.ofNat q)), .val (.int (Int32.ofNat len)), .unset, .unset] [])) := entry rfl
  have hA0 := hA.1.mv X0.warmed.alike hh0
  have hB0 := hB.mv X0.warmed.alike hh0
  have a31 := hA.1.2.2.2
  have c2 : Steps p.tables e below (s₁.setTop (entryFrame m #[.ref b, .int (Int32.ofNat o), .ref d, .int (Int32.ofNat q), .int (Int32.ofNat len)] 7)) (s₁.setTop (mkF m 3 #[.val (.ref b), .val (.int (Int32.ofNat o)), .val (.ref d), .val (.int (Int32.ofNat q)), .val (.int (Int32.ofNat len)), .val (.int 0), .unset] [])) := c1.trans (by
    refine iconstV X0.here hexec rfl 0 (hb hbytes d0) (by decide) ?_
    refine XS.istore X0.here hexec rfl (hb hbytes d1) rfl rfl ?_
    exact Steps.refl _)
  have loop : ∀ (r i : Nat), i + r = len → ∀ (z : Slot), (z = .unset ∨ ∃ w, z = .val w ∧ w.category = 1) → ∀ (Tl : State) (Bk : Cell), Stand p l e { frames := 0, locals := 0, cells := 0, slots := 0 } s m #[.ref b, .int (Int32.ofNat o), .ref d, .int (Int32.ofNat q), .int (Int32.ofNat len)] below meth c Tl ([] ++ copyLocs d q i) 0 0 → Put d Bk s₁ Tl → Laid B Bk q (q + i) (fun j => Value.int (lo8 (cv A (o + (j - q))))) →
      Steps p.tables e below (s₁.setTop (entryFrame m #[.ref b, .int (Int32.ofNat o), .ref d, .int (Int32.ofNat q), .int (Int32.ofNat len)] 7)) (Tl.setTop (mkF m 3 #[.val (.ref b), .val (.int (Int32.ofNat (o + i))), .val (.ref d), .val (.int (Int32.ofNat (q + i))), .val (.int (Int32.ofNat len)), .val (.int (Int32.ofNat i)), z] [])) → ∃ (T' : State) (B' : Cell) (z' : Slot), Stand p l e { frames := 0, locals := 0, cells := 0, slots := 0 } s m #[.ref b, .int (Int32.ofNat o), .ref d, .int (Int32.ofNat q), .int (Int32.ofNat len)] below meth c T' ([] ++ copyLocs d q len) 0 0 ∧ Put d B' s₁ T' ∧ Laid B B' q (q + len) (fun j => Value.int (lo8 (cv A (o + (j - q))))) ∧
      Steps p.tables e below (s₁.setTop (entryFrame m #[.ref b, .int (Int32.ofNat o), .ref d, .int (Int32.ofNat q), .int (Int32.ofNat len)] 7)) (T'.setTop (mkF m 3 #[.val (.ref b), .val (.int (Int32.ofNat (o + len))), .val (.ref d), .val (.int (Int32.ofNat (q + len))), .val (.int (Int32.ofNat len)), .val (.int (Int32.ofNat len)), z'] [])) := by
    intro r
    induction r with
    | zero =>
      intro i hi z hz Tl Bk Xl pl fl cl
      have hil : i = len := by omega
      rw [hil] at Xl fl cl
      exact ⟨Tl, Bk, z, Xl, pl, fl, cl⟩
    | succ r ih =>
      intro i hi z hz Tl Bk Xl pl fl cl
      have all := X0.warmed.alike.symm.trans Xl.warmed.alike
      have hAl := hA0.keep all (pl.other hne hA0.1)
      have hBk := hB0.like all pl.1 fl.1 fl.2.1 fl.2.2.1
      have hlt : q + i < Bk.slots.size := by rw [fl.2.2.1]; omega
      have c3 : Steps p.tables e below (s₁.setTop (entryFrame m #[.ref b, .int (Int32.ofNat o), .ref d, .int (Int32.ofNat q), .int (Int32.ofNat len)] 7)) (Tl.setTop (mkF m 12 #[.val (.ref b), .val (.int (Int32.ofNat (o + i))), .val (.ref d), .val (.int (Int32.ofNat (q + i))), .val (.int (Int32.ofNat len)), .val (.int (Int32.ofNat i)), z] [.int (Int32.ofNat (o + i)), .ref b])) := cl.trans (by
        refine XS.iload Xl.here hexec rfl (hb hbytes d3) rfl ?_
        refine XS.iload Xl.here hexec rfl (hb hbytes d5) rfl ?_
        refine XS.icmpNo Xl.here hexec rfl (hb hbytes d7) rfl (ii_ge_f (lt32 (by omega) (by omega))) ?_
        refine XS.aloadN Xl.here hexec rfl (hb hbytes d10) rfl rfl ?_
        refine XS.iloadN Xl.here hexec rfl (hb hbytes d11) rfl ?_
        exact Steps.refl _)
      have c4 : Steps p.tables e below (s₁.setTop (entryFrame m #[.ref b, .int (Int32.ofNat o), .ref d, .int (Int32.ofNat q), .int (Int32.ofNat len)] 7)) (Tl.setTop (mkF m 13 #[.val (.ref b), .val (.int (Int32.ofNat (o + i))), .val (.ref d), .val (.int (Int32.ofNat (q + i))), .val (.int (Int32.ofNat len)), .val (.int (Int32.ofNat i)), z] [.int (cv A (o + i))])) := c3.trans (by
        refine Xl.aget hexec hAl rfl (hA.get (i := o + i) (by omega)) rfl rfl (hb hbytes d12) ?_
        exact Steps.refl _)
      have c5 : Steps p.tables e below (s₁.setTop (entryFrame m #[.ref b, .int (Int32.ofNat o), .ref d, .int (Int32.ofNat q), .int (Int32.ofNat len)] 7)) (Tl.setTop (mkF m 15 #[.val (.ref b), .val (.int (Int32.ofNat (o + i))), .val (.ref d), .val (.int (Int32.ofNat (q + i))), .val (.int (Int32.ofNat len)), .val (.int (Int32.ofNat i)), .val (.int (cv A (o + i)))] [])) := c4.trans (by
        refine XS.istoreS Xl.here hexec rfl (hb hbytes d13) rfl rfl hz ?_
        exact Steps.refl _)
      have c6 : Steps p.tables e below (s₁.setTop (entryFrame m #[.ref b, .int (Int32.ofNat o), .ref d, .int (Int32.ofNat q), .int (Int32.ofNat len)] 7)) (Tl.setTop (mkF m 31 #[.val (.ref b), .val (.int (Int32.ofNat (o + i))), .val (.ref d), .val (.int (Int32.ofNat (q + i))), .val (.int (Int32.ofNat len)), .val (.int (Int32.ofNat i)), .val (.int (cv A (o + i)))] [.int (lo8 (cv A (o + i))), .int (Int32.ofNat (q + i)), .ref d])) := c5.trans (by
        refine XS.iload Xl.here hexec rfl (hb hbytes d15) rfl ?_
        refine sipushV Xl.here hexec rfl 255 (hb hbytes d17) (by decide) ?_
        refine XS.icmpYes Xl.here hexec rfl (pc0 := 20) rfl (hb hbytes d20) rfl (ii_le_t (hp i (by omega))) (by decide) rfl ?_
        refine XS.aloadN Xl.here hexec rfl (hb hbytes d26) rfl rfl ?_
        refine XS.iloadN Xl.here hexec rfl (hb hbytes d27) rfl ?_
        refine XS.iload Xl.here hexec rfl (hb hbytes d28) rfl ?_
        refine i2b Xl.here hexec rfl (hb hbytes d30) rfl ?_
        exact Steps.refl _)
      obtain ⟨T7, X7, p7, st7⟩ := Xl.aput hexec hBk rfl hlt rfl (fits_lo8 (cv A (o + i))) (g := (mkF m 31 #[.val (.ref b), .val (.int (Int32.ofNat (o + i))), .val (.ref d), .val (.int (Int32.ofNat (q + i))), .val (.int (Int32.ofNat len)), .val (.int (Int32.ofNat i)), .val (.int (cv A (o + i)))] [.int (lo8 (cv A (o + i))), .int (Int32.ofNat (q + i)), .ref d])) rfl (rest := []) rfl (hb hbytes d31)
      have c8 : Steps p.tables e below (s₁.setTop (entryFrame m #[.ref b, .int (Int32.ofNat o), .ref d, .int (Int32.ofNat q), .int (Int32.ofNat len)] 7)) (T7.setTop (mkF m 32 #[.val (.ref b), .val (.int (Int32.ofNat (o + i))), .val (.ref d), .val (.int (Int32.ofNat (q + i))), .val (.int (Int32.ofNat len)), .val (.int (Int32.ofNat i)), .val (.int (cv A (o + i)))] [])) := c6.trans (st7 _ (Steps.refl _))
      have c9 : Steps p.tables e below (s₁.setTop (entryFrame m #[.ref b, .int (Int32.ofNat o), .ref d, .int (Int32.ofNat q), .int (Int32.ofNat len)] 7)) (T7.setTop (mkF m 3 #[.val (.ref b), .val (.int (Int32.ofNat (o + i) + 1)), .val (.ref d), .val (.int (Int32.ofNat (q + i) + 1)), .val (.int (Int32.ofNat len)), .val (.int (Int32.ofNat i + 1)), .val (.int (cv A (o + i)))] [])) := c8.trans (by
        refine iincV X7.here hexec rfl 1 (hb hbytes d32) (by decide) rfl rfl ?_
        refine iincV X7.here hexec rfl 1 (hb hbytes d35) (by decide) rfl rfl ?_
        refine iincV X7.here hexec rfl 1 (hb hbytes d38) (by decide) rfl rfl ?_
        refine XS.goto X7.here hexec rfl (pc0 := 41) rfl (hb hbytes d41) (by decide) rfl ?_
        exact Steps.refl _)
      have c10 : Steps p.tables e below (s₁.setTop (entryFrame m #[.ref b, .int (Int32.ofNat o), .ref d, .int (Int32.ofNat q), .int (Int32.ofNat len)] 7)) (T7.setTop (mkF m 3 #[.val (.ref b), .val (.int (Int32.ofNat (o + (i + 1)))), .val (.ref d), .val (.int (Int32.ofNat (q + (i + 1)))), .val (.int (Int32.ofNat len)), .val (.int (Int32.ofNat (i + 1))), .val (.int (cv A (o + i)))] [])) := by
        have := c9
        rw [succ32, succ32, succ32] at this
        exact this
      exact ih (i + 1) (by omega) _ (Or.inr ⟨_, rfl, rfl⟩) T7 _ (by rw [copyLocs_step, ← List.append_assoc]; exact X7) (pl.trans p7) (fl.step (by omega) hlt (by simp)) c10
  obtain ⟨T9, B9, z9, X9, p9, f9, g9⟩ := loop len 0 (by omega) .unset (Or.inl rfl) s₁ B (by simpa [copyLocs] using X0) ⟨hB0.1, fun _ _ => rfl, rfl⟩ (Laid.zero _ _ _) c2
  have c11 : Steps p.tables e below (s₁.setTop (entryFrame m #[.ref b, .int (Int32.ofNat o), .ref d, .int (Int32.ofNat q), .int (Int32.ofNat len)] 7)) (T9.setTop (mkF m 46 #[.val (.ref b), .val (.int (Int32.ofNat (o + len))), .val (.ref d), .val (.int (Int32.ofNat (q + len))), .val (.int (Int32.ofNat len)), .val (.int (Int32.ofNat len)), z9] [.int (Int32.ofNat len)])) := g9.trans (by
    refine XS.iload X9.here hexec rfl (hb hbytes d3) rfl ?_
    refine XS.iload X9.here hexec rfl (hb hbytes d5) rfl ?_
    refine XS.icmpYes X9.here hexec rfl (pc0 := 7) rfl (hb hbytes d7) rfl (ii_ge_t (nlt32 (by omega) (Nat.le_refl _))) (by decide) rfl ?_
    refine XS.iload X9.here hexec rfl (hb hbytes d44) rfl ?_
    exact Steps.refl _)
  exact ⟨T9, some (.int (Int32.ofNat len)), _, _, _, X9, by simp, rfl, rfl, (fun h => by cases h), ⟨rfl, B9, p9.from hh0, f9⟩, fun fs hl => c11.trans (X9.ireturnOut hexec hret rfl (Or.inl rfl) (hb hbytes d46) hl)⟩
end Cmp5
namespace Cmp3
def yN : MethodName := ⟨"java/lang/StringUTF16", "compress", "([CII)[B"⟩
abbrev yB : ByteArray := jdk_52_method_16_code
theorem d0 : decode yB 0 = .ok (.iload_n 2, 1) := by decide +kernel
theorem d1 : decode yB 1 = .ok (.newarray .byte, 2) := by decide +kernel
theorem d3 : decode yB 3 = .ok (.astore_n 3, 1) := by decide +kernel
theorem d4 : decode yB 4 = .ok (.aload_n 0, 1) := by decide +kernel
theorem d5 : decode yB 5 = .ok (.iload_n 1, 1) := by decide +kernel
theorem d6 : decode yB 6 = .ok (.aload_n 3, 1) := by decide +kernel
theorem d7 : decode yB 7 = .ok (.iconst 0, 1) := by decide +kernel
theorem d8 : decode yB 8 = .ok (.iload_n 2, 1) := by decide +kernel
theorem d9 : decode yB 9 = .ok (.invokestatic 115, 3) := by decide +kernel
theorem d12 : decode yB 12 = .ok (.istore 4, 2) := by decide +kernel
theorem d14 : decode yB 14 = .ok (.iload 4, 2) := by decide +kernel
theorem d16 : decode yB 16 = .ok (.iload_n 2, 1) := by decide +kernel
theorem d17 : decode yB 17 = .ok (.if_icmp (.eq) 40, 3) := by decide +kernel
theorem d57 : decode yB 57 = .ok (.aload_n 3, 1) := by decide +kernel
theorem d58 : decode yB 58 = .ok (.areturn, 1) := by decide +kernel
def site : List Cond := [.arrayClass .byte, Cmp5.tab] ++ staticW U16 115 Cmp5.yN
def tab : Cond := tabOf yN yB 6 (some (.array .byte)) site
def P (b : Addr) (A : Cell) (o len : Nat) (args : Array Value) (s : State) : Prop := args = #[.ref b, .int (Int32.ofNat o), .int (Int32.ofNat len)] ∧ Ch b A s ∧ o + len ≤ A.slots.size ∧ len ≤ 536870912 ∧ ∀ i, i < len → ¬ 255 < cv A (o + i)
def E (b : Addr) (A : Cell) (o len : Nat) (r : Option Value) (s u : State) : Prop := NewArr .byte "[B" len (fun j => .int (lo8 (cv A (o + j)))) r s u ∧ u.heap.size = s.heap.size + 1
/-- no char of the range above 255: a new byte[] of their low bytes -/
theorem law (l : Launch) (b : Addr) (A : Cell) (o len : Nat) : Law l yN 3 3 1 18 yB 6 (some (.array .byte)) site (P b A o len) (E b A o len) [] 1 len := by
  refine Law.of_walk (plainFor_of_name (by decide +kernel)) (by decide +kernel) (by decide +kernel) (by decide) (fun _ _ h => by rw [h.1]; rfl) (fun _ U U' hal hh h => ⟨h.1, h.2.1.mv hal hh, h.2.2⟩) (fun r U U' V V' h1 hal h2 h => ⟨NewArr.mv r U U' V V' h1 hal h2 h.1, by rw [h1, h2]; exact h.2⟩) ?_
  intro p e s m args below meth c s₁ X0 hexec hbytes hml hret hlk hnm hown hh0 W hP
  obtain ⟨rfl, hA, l1, l2, hp⟩ := hP
  have a31 := hA.1.2.2.2
  have c1 : Steps p.tables e below (s₁.setTop (entryFrame m #[.ref b, .int (Int32.ofNat o), .int (Int32.ofNat len)] 6)) (s₁.setTop (mkF m 0 #[.val (.ref b), .val (.int (Int32.ofNat o)), .val (.int (Int32.ofNat len)), .unset, .unset, .unset] [])) := entry rfl
  have c2 : Steps p.tables e below (s₁.setTop (entryFrame m #[.ref b, .int (Int32.ofNat o), .int (Int32.ofNat len)] 6)) (s₁.setTop (mkF m 1 #[.val (.ref b), .val (.int (Int32.ofNat o)), .val (.int (Int32.ofNat len)), .unset, .unset, .unset] [.int (Int32.ofNat len)])) := c1.trans (by
    refine XS.iloadN X0.here hexec rfl (hb hbytes d0) rfl ?_
    exact Steps.refl _)
  obtain ⟨T3, B3, X3, ba3, bs3, bv3, bh3, bf3, st3⟩ := X0.anew hexec (atype := .byte) (wk W (.arrayClass .byte)) rfl (by show len * 1 ≤ _; omega) (by omega) (g := (mkF m 1 #[.val (.ref b), .val (.int (Int32.ofNat o)), .val (.int (Int32.ofNat len)), .unset, .unset, .unset] [.int (Int32.ofNat len)])) rfl (hb hbytes d1) (rest := []) rfl (Nat.le_refl _) (by show 0 + len ≤ len; omega)
  rw [hh0] at ba3 st3
  have kp3 : XT.Kept s T3 := (XT.Kept.of_eq hh0).push bh3
  have hA3 := hA.keep X3.warmed.alike (kp3 _ _ hA.1.1)
  have hne : b ≠ s.heap.size := hA.1.ne
  have c4 : Steps p.tables e below (s₁.setTop (entryFrame m #[.ref b, .int (Int32.ofNat o), .int (Int32.ofNat len)] 6)) (T3.setTop (mkF m 3 #[.val (.ref b), .val (.int (Int32.ofNat o)), .val (.int (Int32.ofNat len)), .unset, .unset, .unset] [.ref s.heap.size])) := c2.trans (st3 _ (Steps.refl _))
  have c5 : Steps p.tables e below (s₁.setTop (entryFrame m #[.ref b, .int (Int32.ofNat o), .int (Int32.ofNat len)] 6)) (T3.setTop (mkF m 9 #[.val (.ref b), .val (.int (Int32.ofNat o)), .val (.int (Int32.ofNat len)), .val (.ref s.heap.size), .unset, .unset] [.int (Int32.ofNat len), .int 0, .ref s.heap.size, .int (Int32.ofNat o), .ref b])) := c4.trans (by
    refine XS.astoreN X3.here hexec rfl (hb hbytes d3) rfl rfl rfl ?_
    refine XS.aloadN X3.here hexec rfl (hb hbytes d4) rfl rfl ?_
    refine XS.iloadN X3.here hexec rfl (hb hbytes d5) rfl ?_
    refine XS.aloadN X3.here hexec rfl (hb hbytes d6) rfl rfl ?_
    refine iconstV X3.here hexec rfl 0 (hb hbytes d7) (by decide) ?_
    refine XS.iloadN X3.here hexec rfl (hb hbytes d8) rfl ?_
    exact Steps.refl _)
  obtain ⟨v6, T6, X6, E6, g6⟩ := X3.callS hexec (Cmp5.law l b A s.heap.size B3 o 0 len) hown (wks W (staticW U16 115 Cmp5.yN)) (wk W Cmp5.tab) (W := 0) (Nat.le_of_ble_eq_true rfl) (Nat.le_of_ble_eq_true rfl) (Nat.le_refl _) (by show 0 + len + 0 ≤ len; omega) (g := (mkF m 9 #[.val (.ref b), .val (.int (Int32.ofNat o)), .val (.int (Int32.ofNat len)), .val (.ref s.heap.size), .unset, .unset] [.int (Int32.ofNat len), .int (Int32.ofNat 0), .ref s.heap.size, .int (Int32.ofNat o), .ref b])) rfl (by rw [hml]; rfl) c5 (argsL := [.ref b, .int (Int32.ofNat o), .ref s.heap.size, .int (Int32.ofNat 0), .int (Int32.ofNat len)]) (rest := []) rfl rfl (by show 2 * 0 + 0 ≤ _; decide) (hb hbytes d9) (⟨rfl, hA3, ba3, hne, l1, by rw [bs3]; simp, hp⟩)
  obtain ⟨rfl, B6, p6, f6⟩ := E6
  have c7 : Steps p.tables e below (s₁.setTop (entryFrame m #[.ref b, .int (Int32.ofNat o), .int (Int32.ofNat len)] 6)) (T6.setTop (mkF m 12 #[.val (.ref b), .val (.int (Int32.ofNat o)), .val (.int (Int32.ofNat len)), .val (.ref s.heap.size), .unset, .unset] [.int (Int32.ofNat len)])) := g6
  have c8 : Steps p.tables e below (s₁.setTop (entryFrame m #[.ref b, .int (Int32.ofNat o), .int (Int32.ofNat len)] 6)) (T6.setTop (mkF m 58 #[.val (.ref b), .val (.int (Int32.ofNat o)), .val (.int (Int32.ofNat len)), .val (.ref s.heap.size), .val (.int (Int32.ofNat len)), .unset] [.ref s.heap.size])) := c7.trans (by
    refine XS.istore X6.here hexec rfl (hb hbytes d12) rfl rfl ?_
    refine XS.iload X6.here hexec rfl (hb hbytes d14) rfl ?_
    refine XS.iloadN X6.here hexec rfl (hb hbytes d16) rfl ?_
    refine XS.icmpYes X6.here hexec rfl (pc0 := 17) rfl (hb hbytes d17) rfl (ii_eq_t rfl) (by decide) rfl ?_
    refine XS.aloadN X6.here hexec rfl (hb hbytes d57) rfl rfl ?_
    exact Steps.refl _)
  have X8 := X6.wide (L' := []) (cells' := 1) (slots' := len) (fun x hx hlt => by
    simp only [List.nil_append, copyLocs, List.mem_map, List.mem_range] at hx
    obtain ⟨i, -, rfl⟩ := hx
    exact absurd hlt (Nat.lt_irrefl _)) (Nat.le_refl _) (by omega)
  exact ⟨T6, some (.ref s.heap.size), _, _, _, X8, rfl, rfl, rfl, (fun h => by cases h), ⟨⟨rfl, B6, ba3.like (X3.warmed.alike.symm.trans X6.warmed.alike) p6.1 f6.1 f6.2.1 f6.2.2.1, f6.2.1.trans bv3, by rw [X6.warmed.alike.findClass, f6.1]; exact bf3, by rw [f6.2.2.1, bs3]; simp, fun j hj => by rw [f6.2.2.2 j, if_pos (by omega)]; rfl, kp3.put p6 (Nat.le_refl _)⟩, by rw [p6.2.2, bh3, hh0]; simp⟩, fun fs hl => c8.trans (X8.areturnOut hexec rfl hret rfl (hb hbytes d58) hl)⟩
end Cmp3
namespace CodL
def yN : MethodName := ⟨"java/lang/StringUTF16", "coderFromArrayLen", "([BI)B"⟩
abbrev yB : ByteArray := jdk_52_method_15_code
theorem d0 : decode yB 0 = .ok (.iload_n 1, 1) := by decide +kernel
theorem d1 : decode yB 1 = .ok (.aload_n 0, 1) := by decide +kernel
theorem d2 : decode yB 2 = .ok (.arraylength, 1) := by decide +kernel
theorem d3 : decode yB 3 = .ok (.isub, 1) := by decide +kernel
theorem d4 : decode yB 4 = .ok (.bipush 31, 2) := by decide +kernel
theorem d6 : decode yB 6 = .ok (.iushr, 1) := by decide +kernel
theorem d7 : decode yB 7 = .ok (.i2b, 1) := by decide +kernel
theorem d8 : decode yB 8 = .ok (.ireturn, 1) := by decide +kernel
def site : List Cond := []
def tab : Cond := tabOf yN yB 2 (some .byte) site
def P (d : Addr) (B : Cell) (args : Array Value) (s : State) : Prop := args = #[.ref d, .int (Int32.ofNat B.slots.size)] ∧ Arr .byte d B s
def E (r : Option Value) (s u : State) : Prop := XT.PureE (some (.int 0)) r s u
/-- an array as long as the number of chars: LATIN1 -/
theorem law (l : Launch) (d : Addr) (B : Cell) : Law l yN 2 2 0 0 yB 2 (some .byte) site (P d B) E [] 0 0 := by
  refine Law.of_walk (plainFor_of_name (by decide +kernel)) (by decide +kernel) (by decide +kernel) (by decide) (fun _ _ h => by rw [h.1]; rfl) (fun _ U U' hal hh h => ⟨h.1, h.2.mv hal hh⟩) (fun r U U' V V' h1 hal h2 h => XT.PureE.mv r U U' V V' h1 hal h2 h) ?_
  intro p e s m args below meth c s₁ X0 hexec hbytes hml hret hlk hnm hown hh0 W hP
  obtain ⟨rfl, hB⟩ := hP
  have hB0 := hB.mv X0.warmed.alike hh0
  have c1 : Steps p.tables e below (s₁.setTop (entryFrame m #[.ref d, .int (Int32.ofNat B.slots.size)] 2)) (s₁.setTop (mkF m 0 #[.val (.ref d), .val (.int (Int32.ofNat B.slots.size))] [])) := entry rfl
  have c2 : Steps p.tables e below (s₁.setTop (entryFrame m #[.ref d, .int (Int32.ofNat B.slots.size)] 2)) (s₁.setTop (mkF m 2 #[.val (.ref d), .val (.int (Int32.ofNat B.slots.size))] [.ref d, .int (Int32.ofNat B.slots.size)])) := c1.trans (by
    refine XS.iloadN X0.here hexec rfl (hb hbytes d0) rfl ?_
    refine XS.aloadN X0.here hexec rfl (hb hbytes d1) rfl rfl ?_
    exact Steps.refl _)
  have c3 : Steps p.tables e below (s₁.setTop (entryFrame m #[.ref d, .int (Int32.ofNat B.slots.size)] 2)) (s₁.setTop (mkF m 8 #[.val (.ref d), .val (.int (Int32.ofNat B.slots.size))] [.int (lo8 (ushr (Int32.ofNat B.slots.size - Int32.ofNat B.slots.size) 31))])) := c2.trans (by
    refine X0.alen hexec hB0 rfl rfl (hb hbytes d2) ?_
    refine XS.isub X0.here hexec rfl (hb hbytes d3) rfl ?_
    refine bipushV X0.here hexec rfl 31 (hb hbytes d4) (by decide) ?_
    refine iushr X0.here hexec rfl (hb hbytes d6) rfl ?_
    refine i2b X0.here hexec rfl (hb hbytes d7) rfl ?_
    exact Steps.refl _)
  have e0 : lo8 (ushr (Int32.ofNat B.slots.size - Int32.ofNat B.slots.size) 31) = 0 := by rw [Int32.sub_self]; decide
  rw [e0] at c3
  exact ⟨s₁, some (.int 0), _, _, _, X0, rfl, rfl, rfl, (fun h => by cases h), ⟨rfl, hh0⟩, fun fs hl => c3.trans (X0.ireturnOut hexec hret rfl (Or.inr (Or.inr (Or.inl rfl))) (hb hbytes d8) hl)⟩
end CodL
/-- the String at a is Latin-1 over a new byte[] (the heap's one new cell): the low bytes of the len chars of A from o on; every cell but a is kept -/
def Got (a : Addr) (D : Cell) (fV fC : Field) (A : Cell) (o len : Nat) (r : Option Value) (s u : State) : Prop := r = none ∧ ∃ D' V : Cell, Blank "java/lang/String" a D' u ∧ Same D D' [fV.slot, fC.slot] ∧ D'.slots[fV.slot]? = some (.ref s.heap.size) ∧ D'.slots[fC.slot]? = some (.int 0) ∧ Arr .byte s.heap.size V u ∧ V.vm = .none ∧ u.vm.findClass "[B" = some V.cls ∧ V.slots.size = len ∧ (∀ j, j < len → V.slots[j]? = some (.int (lo8 (cv A (o + j))))) ∧ (∀ (y : Addr) (c : Cell), y ≠ a → s.heap[y]? = some c → u.heap[y]? = some c) ∧ u.heap.size = s.heap.size + 1
theorem Got.mv {a : Addr} {D A : Cell} {fV fC : Field} {o len : Nat} : ∀ r (U U' V V' : State), U'.heap = U.heap → V.vm.Alike V'.vm → V'.heap = V.heap → Got a D fV fC A o len r U V → Got a D fV fC A o len r U' V' :=
  fun r U U' V V' h1 hal h2 ⟨e0, D', X, a1, a2, a3, a4, a5, a6, a7, a8, a9, a10, a11⟩ => ⟨e0, D', X, a1.mv hal h2, a2, by rw [h1]; exact a3, a4, by rw [h1]; exact a5.mv hal h2, a6, by rw [hal.findClass]; exact a7, a8, a9, by rw [h1, h2]; exact a10, by rw [h1, h2]; exact a11⟩
namespace New4
def yN : MethodName := ⟨"java/lang/String", "<init>", "([CIILjava/lang/Void;)V"⟩
abbrev yB : ByteArray := jdk_42_method_149_code
theorem d0 : decode yB 0 = .ok (.aload_n 0, 1) := by decide +kernel
theorem d1 : decode yB 1 = .ok (.invokespecial 1, 3) := by decide +kernel
theorem d4 : decode yB 4 = .ok (.iload_n 3, 1) := by decide +kernel
theorem d5 : decode yB 5 = .ok (.ifCond (.ne) 22, 3) := by decide +kernel
theorem d27 : decode yB 27 = .ok (.getstatic 38, 3) := by decide +kernel
theorem d30 : decode yB 30 = .ok (.ifCond (.eq) 28, 3) := by decide +kernel
theorem d33 : decode yB 33 = .ok (.aload_n 1, 1) := by decide +kernel
theorem d34 : decode yB 34 = .ok (.iload_n 2, 1) := by decide +kernel
theorem d35 : decode yB 35 = .ok (.iload_n 3, 1) := by decide +kernel
theorem d36 : decode yB 36 = .ok (.invokestatic 177, 3) := by decide +kernel
theorem d39 : decode yB 39 = .ok (.astore 5, 2) := by decide +kernel
theorem d41 : decode yB 41 = .ok (.aload_n 0, 1) := by decide +kernel
theorem d42 : decode yB 42 = .ok (.aload 5, 2) := by decide +kernel
theorem d44 : decode yB 44 = .ok (.iload_n 3, 1) := by decide +kernel
theorem d45 : decode yB 45 = .ok (.invokestatic 47, 3) := by decide +kernel
theorem d48 : decode yB 48 = .ok (.putfield 15, 3) := by decide +kernel
theorem d51 : decode yB 51 = .ok (.aload_n 0, 1) := by decide +kernel
theorem d52 : decode yB 52 = .ok (.aload 5, 2) := by decide +kernel
theorem d54 : decode yB 54 = .ok (.putfield 9, 3) := by decide +kernel
theorem d57 : decode yB 57 = .ok (.return_, 1) := by decide +kernel
def site : List Cond := [.fieldLink "java/lang/String" 38 "java/lang/String" "COMPACT_STRINGS" "Z", Cmp3.tab, CodL.tab, .laysFinal "java/lang/String" "java/lang/String" "value" "[B", .fieldLink "java/lang/String" 9 "java/lang/String" "value" "[B", .laysFinal "java/lang/String" "java/lang/String" "coder" "B", .fieldLink "java/lang/String" 15 "java/lang/String" "coder" "B"] ++ objW "java/lang/String" 1 ++ staticW "java/lang/String" 177 Cmp3.yN ++ staticW "java/lang/String" 47 CodL.yN
def tab : Cond := tabOf yN yB 6 none site
def P (a : Addr) (D : Cell) (fV fC : Field) (b : Addr) (A : Cell) (z : Int32) (o len : Nat) (args : Array Value) (s : State) : Prop := args = #[.ref a, .ref b, .int (Int32.ofNat o), .int (Int32.ofNat len), .null] ∧ Blank "java/lang/String" a D s ∧ Found "java/lang/String" "value" "[B" fV s ∧ Found "java/lang/String" "coder" "B" fC s ∧ Ch b A s ∧ StaticIs s "java/lang/String" "COMPACT_STRINGS" "Z" (.int z) ∧ ¬ z = 0 ∧ 0 < len ∧ o + len ≤ A.slots.size ∧ len ≤ 536870912 ∧ ∀ i, i < len → ¬ 255 < cv A (o + i)
def E (a : Addr) (D : Cell) (fV fC : Field) (A : Cell) (o len : Nat) (r : Option Value) (s u : State) : Prop := Got a D fV fC A o len r s u
/-- len > 0, no char of the range above 255: a Latin-1 String of their low bytes -/
theorem law (l : Launch) (a : Addr) (D : Cell) (fV fC : Field) (b : Addr) (A : Cell) (z : Int32) (o len : Nat) : Law l yN 5 4 2 35 yB 6 none site (P a D fV fC b A z o len) (E a D fV fC A o len) [⟨a, fC.slot⟩, ⟨a, fV.slot⟩] 1 len := by
  refine Law.of_walk (plainFor_of_name (by decide +kernel)) (by decide +kernel) (by decide +kernel) (by decide) (fun _ _ h => by rw [h.1]; rfl) (fun _ U U' hal hh h => ⟨h.1, h.2.1.mv hal hh, h.2.2.1.al hal, h.2.2.2.1.al hal, h.2.2.2.2.1.mv hal hh, h.2.2.2.2.2.1.there hal hh, h.2.2.2.2.2.2⟩) (fun r U U' V V' h1 hal h2 h => Got.mv r U U' V V' h1 hal h2 h) ?_
  intro p e s m args below meth c s₁ X0 hexec hbytes hml hret hlk hnm hown hh0 W hP
  obtain ⟨rfl, hB, f1, f2, hA, s1, hz, l0, l1, l2, hp⟩ := hP
  have a31 := hA.1.2.2.2
  have c1 : Steps p.tables e below (s₁.setTop (entryFrame m #[.ref a, .ref b, .int (Int32.ofNat o), .int (Int32.ofNat len), .null] 6)) (s₁.setTop (mkF m 0 #[.val (.ref a), .val (.ref b), .val (.int (Int32.ofNat o)), .val (.int (Int32.ofNat len)), .val .null, .unset] [])) := entry rfl
  have c2 : Steps p.tables e below (s₁.setTop (entryFrame m #[.ref a, .ref b, .int (Int32.ofNat o), .int (Int32.ofNat len), .null] 6)) (s₁.setTop (mkF m 1 #[.val (.ref a), .val (.ref b), .val (.int (Int32.ofNat o)), .val (.int (Int32.ofNat len)), .val .null, .unset] [.ref a])) := c1.trans (by
    refine XS.aloadN X0.here hexec rfl (hb hbytes d0) rfl rfl ?_
    exact Steps.refl _)
  obtain ⟨T3, X3, q3, st3⟩ := X0.oinit hexec hown (wks W (objW "java/lang/String" 1)) (g := (mkF m 1 #[.val (.ref a), .val (.ref b), .val (.int (Int32.ofNat o)), .val (.int (Int32.ofNat len)), .val .null, .unset] [.ref a])) rfl (by rw [hml]; rfl) (rest := []) rfl (hb hbytes d1) (W := 0) (by show 2 * 0 + 0 ≤ _; decide) (Nat.le_of_ble_eq_true rfl) (Nat.le_of_ble_eq_true rfl)
  have hh3 := q3.trans hh0
  have c4 : Steps p.tables e below (s₁.setTop (entryFrame m #[.ref a, .ref b, .int (Int32.ofNat o), .int (Int32.ofNat len), .null] 6)) (T3.setTop (mkF m 27 #[.val (.ref a), .val (.ref b), .val (.int (Int32.ofNat o)), .val (.int (Int32.ofNat len)), .val .null, .unset] [])) := (c2.trans (st3 _ (Steps.refl _))).trans (by
    refine XS.iloadN X3.here hexec rfl (hb hbytes d4) rfl ?_
    refine XS.ifYes X3.here hexec rfl (pc0 := 5) rfl (hb hbytes d5) rfl (i0_ne_t (nz32 (by omega) l0)) (by decide) rfl ?_
    exact Steps.refl _)
  obtain ⟨T5, X5, q5, st5⟩ := X3.sget hexec hown (wk W (.fieldLink "java/lang/String" 38 "java/lang/String" "COMPACT_STRINGS" "Z")) s1 (fun _ _ h => by rw [hh3]; exact h) (g := (mkF m 27 #[.val (.ref a), .val (.ref b), .val (.int (Int32.ofNat o)), .val (.int (Int32.ofNat len)), .val .null, .unset] [])) rfl (hb hbytes d27)
  have hh5 := q5.trans hh3
  have c6 : Steps p.tables e below (s₁.setTop (entryFrame m #[.ref a, .ref b, .int (Int32.ofNat o), .int (Int32.ofNat len), .null] 6)) (T5.setTop (mkF m 30 #[.val (.ref a), .val (.ref b), .val (.int (Int32.ofNat o)), .val (.int (Int32.ofNat len)), .val .null, .unset] [.int z])) := c4.trans (st5 _ (Steps.refl _))
  have c7 : Steps p.tables e below (s₁.setTop (entryFrame m #[.ref a, .ref b, .int (Int32.ofNat o), .int (Int32.ofNat len), .null] 6)) (T5.setTop (mkF m 36 #[.val (.ref a), .val (.ref b), .val (.int (Int32.ofNat o)), .val (.int (Int32.ofNat len)), .val .null, .unset] [.int (Int32.ofNat len), .int (Int32.ofNat o), .ref b])) := c6.trans (by
    refine XS.ifNo X5.here hexec rfl (hb hbytes d30) rfl (i0_eq_f hz) ?_
    refine XS.aloadN X5.here hexec rfl (hb hbytes d33) rfl rfl ?_
    refine XS.iloadN X5.here hexec rfl (hb hbytes d34) rfl ?_
    refine XS.iloadN X5.here hexec rfl (hb hbytes d35) rfl ?_
    exact Steps.refl _)
  obtain ⟨v8, T8, X8, E8, g8⟩ := X5.callS hexec (Cmp3.law l b A o len) hown (wks W (staticW "java/lang/String" 177 Cmp3.yN)) (wk W Cmp3.tab) (W := 0) (Nat.le_of_ble_eq_true rfl) (Nat.le_of_ble_eq_true rfl) (Nat.le_refl _) (by show 0 + len ≤ len; omega) (g := (mkF m 36 #[.val (.ref a), .val (.ref b), .val (.int (Int32.ofNat o)), .val (.int (Int32.ofNat len)), .val .null, .unset] [.int (Int32.ofNat len), .int (Int32.ofNat o), .ref b])) rfl (by rw [hml]; rfl) c7 (argsL := [.ref b, .int (Int32.ofNat o), .int (Int32.ofNat len)]) (rest := []) rfl rfl (by show 2 * 0 + 0 ≤ _; decide) (hb hbytes d36) (⟨rfl, hA.mv X5.warmed.alike hh5, l1, l2, hp⟩)
  obtain ⟨e8, z8⟩ := E8
  obtain ⟨rfl, N, n1, n2, n3, n4, n5, n6⟩ := NewArr.mv _ T5 s _ _ hh5.symm (Vm.Alike.refl _) rfl e8
  rw [hh5] at z8
  have hB1 := hB.keep X8.warmed.alike (n6 _ _ hB.1)
  have hne : s.heap.size ≠ a := (Nat.ne_of_lt (Array.getElem?_eq_some_iff.mp hB.1).1).symm
  have c9 : Steps p.tables e below (s₁.setTop (entryFrame m #[.ref a, .ref b, .int (Int32.ofNat o), .int (Int32.ofNat len), .null] 6)) (T8.setTop (mkF m 39 #[.val (.ref a), .val (.ref b), .val (.int (Int32.ofNat o)), .val (.int (Int32.ofNat len)), .val .null, .unset] [.ref s.heap.size])) := g8
  have c10 : Steps p.tables e below (s₁.setTop (entryFrame m #[.ref a, .ref b, .int (Int32.ofNat o), .int (Int32.ofNat len), .null] 6)) (T8.setTop (mkF m 45 #[.val (.ref a), .val (.ref b), .val (.int (Int32.ofNat o)), .val (.int (Int32.ofNat len)), .val .null, .val (.ref s.heap.size)] [.int (Int32.ofNat N.slots.size), .ref s.heap.size, .ref a])) := by
    have hc : Steps p.tables e below (s₁.setTop (entryFrame m #[.ref a, .ref b, .int (Int32.ofNat o), .int (Int32.ofNat len), .null] 6)) (T8.setTop (mkF m 45 #[.val (.ref a), .val (.ref b), .val (.int (Int32.ofNat o)), .val (.int (Int32.ofNat len)), .val .null, .val (.ref s.heap.size)] [.int (Int32.ofNat len), .ref s.heap.size, .ref a])) := c9.trans (by
      refine XS.astore X8.here hexec rfl (hb hbytes d39) rfl rfl rfl ?_
      refine XS.aloadN X8.here hexec rfl (hb hbytes d41) rfl rfl ?_
      refine XS.aload X8.here hexec rfl (hb hbytes d42) rfl rfl ?_
      refine XS.iloadN X8.here hexec rfl (hb hbytes d44) rfl ?_
      exact Steps.refl _)
    rw [n4]; exact hc
  obtain ⟨v11, T11, X11, E11, g11⟩ := X8.callS hexec (CodL.law l s.heap.size N) hown (wks W (staticW "java/lang/String" 47 CodL.yN)) (wk W CodL.tab) (W := 1) (Nat.le_of_ble_eq_true rfl) (Nat.le_of_ble_eq_true rfl) (Nat.le_refl _) (by show 0 + len + 0 ≤ len; omega) (g := (mkF m 45 #[.val (.ref a), .val (.ref b), .val (.int (Int32.ofNat o)), .val (.int (Int32.ofNat len)), .val .null, .val (.ref s.heap.size)] [.int (Int32.ofNat N.slots.size), .ref s.heap.size, .ref a])) rfl (by rw [hml]; rfl) c10 (argsL := [.ref s.heap.size, .int (Int32.ofNat N.slots.size)]) (rest := [.ref a]) rfl rfl (by show 2 * 0 + (1 + 0) ≤ _; decide) (hb hbytes d45) (⟨rfl, n1⟩)
  obtain ⟨rfl, q11⟩ := E11
  have hB11 := hB1.mv (X8.warmed.alike.symm.trans X11.warmed.alike) q11
  have c12 : Steps p.tables e below (s₁.setTop (entryFrame m #[.ref a, .ref b, .int (Int32.ofNat o), .int (Int32.ofNat len), .null] 6)) (T11.setTop (mkF m 48 #[.val (.ref a), .val (.ref b), .val (.int (Int32.ofNat o)), .val (.int (Int32.ofNat len)), .val .null, .val (.ref s.heap.size)] [.int 0, .ref a])) := g11
  obtain ⟨T13, X13, p13, bl13, sl13, st13⟩ := X11.finit hexec hown (wk W (.fieldLink "java/lang/String" 15 "java/lang/String" "coder" "B")) (Or.inr ⟨_, (wk W (.laysFinal "java/lang/String" "java/lang/String" "coder" "B"))⟩) (Or.inl ⟨rfl, hnm⟩) f2 (Or.inl rfl) hB11 (t := .byte) (by decide +kernel) rfl (g := (mkF m 48 #[.val (.ref a), .val (.ref b), .val (.int (Int32.ofNat o)), .val (.int (Int32.ofNat len)), .val .null, .val (.ref s.heap.size)] [.int 0, .ref a])) rfl (rest := []) rfl (hb hbytes d48)
  have c14 : Steps p.tables e below (s₁.setTop (entryFrame m #[.ref a, .ref b, .int (Int32.ofNat o), .int (Int32.ofNat len), .null] 6)) (T13.setTop (mkF m 54 #[.val (.ref a), .val (.ref b), .val (.int (Int32.ofNat o)), .val (.int (Int32.ofNat len)), .val .null, .val (.ref s.heap.size)] [.ref s.heap.size, .ref a])) := (c12.trans (st13 _ (Steps.refl _))).trans (by
    refine XS.aloadN X13.here hexec rfl (hb hbytes d51) rfl rfl ?_
    refine XS.aload X13.here hexec rfl (hb hbytes d52) rfl rfl ?_
    exact Steps.refl _)
  obtain ⟨T15, X15, p15, bl15, sl15, st15⟩ := X13.finit hexec hown (wk W (.fieldLink "java/lang/String" 9 "java/lang/String" "value" "[B")) (Or.inr ⟨_, (wk W (.laysFinal "java/lang/String" "java/lang/String" "value" "[B"))⟩) (Or.inl ⟨rfl, hnm⟩) f1 (Or.inl rfl) bl13 (t := (.array .byte)) (by decide +kernel) rfl (g := (mkF m 54 #[.val (.ref a), .val (.ref b), .val (.int (Int32.ofNat o)), .val (.int (Int32.ofNat len)), .val .null, .val (.ref s.heap.size)] [.ref s.heap.size, .ref a])) rfl (rest := []) rfl (hb hbytes d54)
  have c16 : Steps p.tables e below (s₁.setTop (entryFrame m #[.ref a, .ref b, .int (Int32.ofNat o), .int (Int32.ofNat len), .null] 6)) (T15.setTop (mkF m 57 #[.val (.ref a), .val (.ref b), .val (.int (Int32.ofNat o)), .val (.int (Int32.ofNat len)), .val .null, .val (.ref s.heap.size)] [])) := c14.trans (st15 _ (Steps.refl _))
  have ap := apart (Or.inr ⟨_, (wk W (.laysFinal "java/lang/String" "java/lang/String" "value" "[B"))⟩) (Or.inr ⟨_, (wk W (.laysFinal "java/lang/String" "java/lang/String" "coder" "B"))⟩) f1 f2 (t₁ := .array .byte) (t₂ := .byte) (by decide +kernel) (by decide +kernel) (by decide)
  have al := X8.warmed.alike.symm.trans X15.warmed.alike
  have n7 : T11.heap[s.heap.size]? = some N := by rw [q11]; exact n1.1
  exact ⟨T15, none, _, _, _, X15, by simp, rfl, by omega, (fun _ => rfl), ⟨rfl, _, N, bl15, ((Same.refl D _).set _ (by simp)).set _ (by simp), sl15, (Cell.slots_setSlot_ne _ ap).trans sl13, n1.keep al (p15.other hne (p13.other hne n7)), n2, by rw [al.findClass]; exact n3, n4, n5, fun y c h1 h2 => p15.other h1 (p13.other h1 (by rw [q11]; exact n6 y c h2)), by rw [p15.2.2, p13.2.2, q11]; exact z8⟩, fun fs hl => c16.trans (X15.returnOut hexec hret (hb hbytes d57) hl)⟩
end New4
namespace New1
def yN : MethodName := ⟨"java/lang/String", "<init>", "([C)V"⟩
abbrev yB : ByteArray := jdk_42_method_3_code
theorem d0 : decode yB 0 = .ok (.aload_n 0, 1) := by decide +kernel
theorem d1 : decode yB 1 = .ok (.aload_n 1, 1) := by decide +kernel
theorem d2 : decode yB 2 = .ok (.iconst 0, 1) := by decide +kernel
theorem d3 : decode yB 3 = .ok (.aload_n 1, 1) := by decide +kernel
theorem d4 : decode yB 4 = .ok (.arraylength, 1) := by decide +kernel
theorem d5 : decode yB 5 = .ok (.aconst_null, 1) := by decide +kernel
theorem d6 : decode yB 6 = .ok (.invokespecial 27, 3) := by decide +kernel
theorem d9 : decode yB 9 = .ok (.return_, 1) := by decide +kernel
def site : List Cond := [New4.tab] ++ initW "java/lang/String" 27 New4.yN
def tab : Cond := tabOf yN yB 2 none site
def P (a : Addr) (D : Cell) (fV fC : Field) (b : Addr) (A : Cell) (z : Int32) (args : Array Value) (s : State) : Prop := args = #[.ref a, .ref b] ∧ Blank "java/lang/String" a D s ∧ Found "java/lang/String" "value" "[B" fV s ∧ Found "java/lang/String" "coder" "B" fC s ∧ Ch b A s ∧ StaticIs s "java/lang/String" "COMPACT_STRINGS" "Z" (.int z) ∧ ¬ z = 0 ∧ 0 < A.slots.size ∧ A.slots.size ≤ 536870912 ∧ ∀ i, i < A.slots.size → ¬ 255 < cv A i
def E (a : Addr) (D : Cell) (fV fC : Field) (A : Cell) (r : Option Value) (s u : State) : Prop := Got a D fV fC A 0 A.slots.size r s u
/-- new String(chars), not empty, no char above 255: a Latin-1 String of their low bytes -/
theorem law (l : Launch) (a : Addr) (D : Cell) (fV fC : Field) (b : Addr) (A : Cell) (z : Int32) : Law l yN 2 1 3 52 yB 2 none site (P a D fV fC b A z) (E a D fV fC A) [⟨a, fC.slot⟩, ⟨a, fV.slot⟩] 1 A.slots.size := by
  refine Law.of_walk (plainFor_of_name (by decide +kernel)) (by decide +kernel) (by decide +kernel) (by decide) (fun _ _ h => by rw [h.1]; rfl) (fun _ U U' hal hh h => ⟨h.1, h.2.1.mv hal hh, h.2.2.1.al hal, h.2.2.2.1.al hal, h.2.2.2.2.1.mv hal hh, h.2.2.2.2.2.1.there hal hh, h.2.2.2.2.2.2⟩) (fun r U U' V V' h1 hal h2 h => Got.mv r U U' V V' h1 hal h2 h) ?_
  intro p e s m args below meth c s₁ X0 hexec hbytes hml hret hlk hnm hown hh0 W hP
  obtain ⟨rfl, hB, f1, f2, hA, s1, hz, l0, l2, hp⟩ := hP
  have c1 : Steps p.tables e below (s₁.setTop (entryFrame m #[.ref a, .ref b] 2)) (s₁.setTop (mkF m 0 #[.val (.ref a), .val (.ref b)] [])) := entry rfl
  have c2 : Steps p.tables e below (s₁.setTop (entryFrame m #[.ref a, .ref b] 2)) (s₁.setTop (mkF m 6 #[.val (.ref a), .val (.ref b)] [.null, .int (Int32.ofNat A.slots.size), .int 0, .ref b, .ref a])) := c1.trans (by
    refine XS.aloadN X0.here hexec rfl (hb hbytes d0) rfl rfl ?_
    refine XS.aloadN X0.here hexec rfl (hb hbytes d1) rfl rfl ?_
    refine iconstV X0.here hexec rfl 0 (hb hbytes d2) (by decide) ?_
    refine XS.aloadN X0.here hexec rfl (hb hbytes d3) rfl rfl ?_
    refine X0.alen hexec (hA.1.mv X0.warmed.alike hh0) rfl rfl (hb hbytes d4) ?_
    refine XS.aconstNull X0.here hexec rfl (hb hbytes d5) ?_
    exact Steps.refl _)
  obtain ⟨v3, T3, X3, E3, g3⟩ := X0.callN hexec (New4.law l a D fV fC b A z 0 A.slots.size) rfl hown (wks W (initW "java/lang/String" 27 New4.yN)) (W New4.tab (by simp only [site, List.mem_cons, List.mem_append, true_or, or_true])) (W := 0) (Nat.le_of_ble_eq_true rfl) (Nat.le_of_ble_eq_true rfl) (Nat.le_refl _) (by show 0 + A.slots.size ≤ A.slots.size; omega) (g := (mkF m 6 #[.val (.ref a), .val (.ref b)] [.null, .int (Int32.ofNat A.slots.size), .int (Int32.ofNat 0), .ref b, .ref a])) rfl (by rw [hml]; rfl) c2 (argsL := [.ref b, .int (Int32.ofNat 0), .int (Int32.ofNat A.slots.size), .null]) (rest := []) rfl rfl (by show 2 * 0 + 0 ≤ _; decide) (hb hbytes d6) (⟨rfl, hB.mv X0.warmed.alike hh0, f1.al X0.warmed.alike, f2.al X0.warmed.alike, hA.mv X0.warmed.alike hh0, s1.there X0.warmed.alike hh0, hz, l0, by omega, l2, fun i hi => by rw [Nat.zero_add]; exact hp i hi⟩)
  have e0 := Got.mv _ s₁ s _ _ hh0.symm (Vm.Alike.refl _) rfl E3
  obtain rfl := e0.1
  have c4 : Steps p.tables e below (s₁.setTop (entryFrame m #[.ref a, .ref b] 2)) (T3.setTop (mkF m 9 #[.val (.ref a), .val (.ref b)] [])) := g3
  exact ⟨T3, none, _, _, _, X3, by simp, rfl, by omega, (fun _ => rfl), e0, fun fs hl => c4.trans (X3.returnOut hexec hret (hb hbytes d9) hl)⟩
theorem pays {l : Launch} {R : Room} {p : Program} {e : Env} {below : List Frame} {s : State} {sargs : Array Value} {len W : Nat} (a : Addr) (D : Cell) (fV fC : Field) (b : Addr) (A : Cell) (z : Int32) (htab : tab.before sargs s = true) (hfr : 4 ≤ R.frames) (hlo : W + 65 ≤ R.locals) :
    Back l R p e below s sargs yN len W (fun A₁ a₁ => A₁.cells + 1 ≤ R.cells ∧ A₁.slots + A.slots.size ≤ R.slots ∧ P a D fV fC b A z a₁ A₁.U) (fun A₁ _ v₁ B₁ => E a D fV fC A v₁ A₁.U B₁.U ∧ B₁.locs = A₁.locs ++ [⟨a, fC.slot⟩, ⟨a, fV.slot⟩] ∧ B₁.cells = A₁.cells + 1 ∧ B₁.slots = A₁.slots + A.slots.size) :=
  (law l a D fV fC b A z).pays htab hfr (by omega)
end New1
/-- the byte, read back as charAt reads it, is the char -/
theorem lo8_mask {x : Int32} (h0 : ¬ x < 0) (h1 : ¬ 255 < x) : lo8 x &&& 255 = x := by
  have t : ∀ k : Fin 256, lo8 (Int32.ofNat k.val) &&& 255 = Int32.ofNat k.val := by decide +kernel
  rw [Int32.lt_iff_toInt_lt] at h0 h1
  have e0 : (0 : Int32).toInt = 0 := rfl
  have e1 : (255 : Int32).toInt = 255 := rfl
  obtain ⟨k, hk⟩ : ∃ k : Nat, x.toInt = k := ⟨x.toInt.toNat, by omega⟩
  have hx : x = Int32.ofNat k := Int32.toInt_inj.mp (by rw [hk, Int32.toInt_ofNat_small (by omega)])
  rw [hx]
  exact t ⟨k, by omega⟩
end StrChars
namespace StrChars.Road
open Jvm Sem ClassFile Op Lib Jvm.Stand Jvm.Free Jvm.Free.XT
open Jvm.Lib.Cold (StaticIs)
abbrev ST : String := "java/lang/String"
/-- every table word that New1's law asks, flat -/
abbrev words : List Jvm.Cond := [.code New1.yN New1.yB 2 none, .initialized ST, .methodLink ST 27 New4.yN, .instanceMethod New4.yN,
  .code New4.yN New4.yB 6 none, .fieldLink ST 38 ST "COMPACT_STRINGS" "Z", .laysFinal ST ST "value" "[B", .fieldLink ST 9 ST "value" "[B", .laysFinal ST ST "coder" "B", .fieldLink ST 15 ST "coder" "B",
  .methodLink ST 1 Lib.objectInit, .instanceMethod Lib.objectInit, .code Lib.objectInit object_method_1_code 1 none, .methodLink ST 177 Cmp3.yN, .static Cmp3.yN, .methodLink ST 47 CodL.yN, .static CodL.yN,
  .code Cmp3.yN Cmp3.yB 6 (some (.array .byte)), .initialized U16, .arrayClass .byte, .methodLink U16 115 Cmp5.yN, .static Cmp5.yN, .code Cmp5.yN Cmp5.yB 7 (some .int), .code CodL.yN CodL.yB 2 (some .byte)]
theorem tab_of {a : Array Value} {s : State} (h : ∀ w ∈ words, w.before a s = true) : New1.tab.before a s = true := by
  have h5 : Cmp5.tab.before a s = true := unparts (wk h (.code Cmp5.yN Cmp5.yB 7 (some .int))) (wks h (.initialized Cmp5.yN.cls :: Cmp5.site))
  have hc : CodL.tab.before a s = true := unparts (wk h (.code CodL.yN CodL.yB 2 (some .byte))) (wks h (.initialized CodL.yN.cls :: CodL.site))
  have q5 : ∀ w ∈ Cmp5.tab :: words, w.before a s = true := fun w hw => (List.mem_cons.mp hw).elim (fun e => e ▸ h5) (h w)
  have h3 : Cmp3.tab.before a s = true := unparts (wk q5 (.code Cmp3.yN Cmp3.yB 6 (some (.array .byte)))) (wks q5 (.initialized Cmp3.yN.cls :: Cmp3.site))
  have q3 : ∀ w ∈ Cmp3.tab :: CodL.tab :: words, w.before a s = true := fun w hw => (List.mem_cons.mp hw).elim (fun e => e ▸ h3) fun hw => (List.mem_cons.mp hw).elim (fun e => e ▸ hc) (h w)
  have h4 : New4.tab.before a s = true := unparts (wk q3 (.code New4.yN New4.yB 6 none)) (wks q3 (.initialized New4.yN.cls :: New4.site))
  have q4 : ∀ w ∈ New4.tab :: words, w.before a s = true := fun w hw => (List.mem_cons.mp hw).elim (fun e => e ▸ h4) (h w)
  exact unparts (wk q4 (.code New1.yN New1.yB 2 none)) (wks q4 (.initialized New1.yN.cls :: New1.site))
/-- the words ride from the start Z to the walk's own state -/
theorem moved {Z s : State} {a0 args : Array Value} (hZ : Z.Warmed39 s.vm) (hw : ∀ d ∈ words, d.before a0 Z = true) : ∀ d ∈ words, d.before args s = true := fun d hd => by
  have q := hw d hd
  have t : ∀ d ∈ words, d = .arrayClass .byte ∨ (d.onTables && d.keepsFace) = true := by decide +kernel
  rcases t d hd with rfl | t
  · exact RoadKit.mvA hZ q
  · exact RoadKit.mv hZ q t
/-- WHAT COMES BACK, over the tables of the start Z: h the heap at the call, h' behind it -/
def Q (Z : State) (x : Addr) (A : Cell) (h : Heap) (v : Option Value) (h' : Heap) (L : List Loc) : Prop := v = none ∧ (∀ y ∈ L, y.base = x) ∧ RoadKit.Keep h h' [x] ∧ h'.size = h.size + 1 ∧ RoadKit.Exa Z h' x ST ∧ RoadKit.Fld Z h' x ST "value" "[B" (.ref h.size) ∧ RoadKit.Fld Z h' x ST "coder" "B" (.int 0) ∧
  (∃ V : Cell, RoadKit.Arr Z h' h.size V .byte ∧ V.vm = .none ∧ Z.vm.findClass "[B" = some V.cls ∧ V.slots.size = A.slots.size ∧ ∀ j, j < A.slots.size → V.slots[j]? = some (.int (lo8 (cv A j)))) ∧
  ∀ (O n d : String) (w : Value), RoadKit.Fld Z h x O n d w → RoadKit.slotOf Z O n d ≠ RoadKit.slotOf Z ST "value" "[B" → RoadKit.slotOf Z O n d ≠ RoadKit.slotOf Z ST "coder" "B" → RoadKit.Fld Z h' x O n d w
/-- **new String(chars) AT A CALL, IN THE ROAD'S FORM**: for specialBack behind newO: x the fresh String, b the char[] with the cell A -/
theorem back {p : Program} {l : Launch} {e : Env} {R : Room} {s : State} {args : Array Value} {below : List Frame} {len W : Nat} {Z : State} {a0 : Array Value} {h : Heap} (hZ : Z.Warmed39 s.vm) (hw : ∀ d ∈ words, d.before a0 Z = true) {kI : Nat} (wi : (Jvm.Cond.instantiable ST kI).before a0 Z = true)
    {x b : Addr} {A : Cell} {z : Int32} {v0 c0 : Value} (E : RoadKit.Exa Z h x ST) (V : RoadKit.Fld Z h x ST "value" "[B" v0) (C : RoadKit.Fld Z h x ST "coder" "B" c0) (K : RoadKit.Arr Z h b A .char) (hty : Typed .char A) (S : RoadKit.Sta Z h ST "COMPACT_STRINGS" "Z" (.int z)) (hz : ¬ z = 0)
    (l0 : 0 < A.slots.size) (l2 : A.slots.size ≤ 536870912) (hp : ∀ i, i < A.slots.size → ¬ 255 < cv A i) (hfr : 4 ≤ R.frames) (hlo : W + 65 ≤ R.locals) :
    Back l R p e below s args New1.yN len W (fun P a => a = #[.ref x, .ref b] ∧ P.U.heap = h ∧ P.cells + 1 ≤ R.cells ∧ P.slots + A.slots.size ≤ R.slots)
      (fun P _ v B => ∃ L, Q Z x A h v B.U.heap L ∧ B.locs = P.locs ++ L ∧ B.cells = P.cells + 1 ∧ B.slots = P.slots + A.slots.size) := by
  intro m meth c P g ig mk a X hg hsize hdg hW hn hp'
  obtain ⟨rfl, rfl, r1, r2⟩ := hp'
  have al : Z.vm.Alike P.U.vm := hZ.alike.trans X.warmed.alike
  obtain ⟨D, cfV, kV, iV, fV, hD, gV, stV, knV, obV, asV, slV⟩ := id V
  obtain ⟨D', cfC, kC, iC, fC, hD', gC, stC, -, -, asC, slC⟩ := id C
  cases hD.symm.trans hD'
  obtain ⟨D2, kD, e1, e2, e3, e4, e5⟩ := id E
  cases hD.symm.trans e1
  obtain ⟨c2, k2, i1, i2, i3, -⟩ := Cond.instantiable_spec wi
  cases e2.symm.trans i1
  cases e3.symm.trans i2
  obtain ⟨kU, u1, u2⟩ := al.2.2 _ _ e3
  have hB : Blank ST x D P.U := ⟨hD, ⟨knV, fun q hq => by rw [hq] at obV; cases obV⟩, by rw [al.findClass]; exact e2, kU, u1, by rw [u2]; exact i3, by rw [u2]; exact e5 i3⟩
  have F1 : Found ST "value" "[B" fV P.U := ⟨SBG.found_only al ⟨cfV, kV, iV, gV⟩, stV⟩
  have F2 : Found ST "coder" "B" fC P.U := ⟨SBG.found_only al ⟨cfC, kC, iC, gC⟩, stC⟩
  have hA : Ch b A P.U := ⟨⟨K.1, State.isArrayOf_alike al K.2.1, K.2.2, by omega⟩, hty⟩
  have hS : StaticIs P.U ST "COMPACT_STRINGS" "Z" (.int z) := by
    obtain ⟨cfS, iS, kS, fS, st, cS, t1, t2, t3, t4, t5, t6, t7⟩ := S
    exact StaticIs.there (s := { Z with heap := P.U.heap }) ⟨cfS, iS, kS, fS, st, cS, t1, t2, t3, t4, t5, (fun q => by rw [q] at t6; cases t6), t7⟩ al rfl
  obtain ⟨v, B, X', ⟨⟨hv, E', V', q1, q2, q3, q4, q5, q6, q7, q8, q9, q10, q11⟩, hl, hc, hs⟩, st⟩ := New1.pays x D fV fC b A z (tab_of (moved hZ hw)) hfr hlo m meth c P g ig mk _ X hg hsize hdg hW hn ⟨r1, r2, rfl, hB, F1, F2, hA, hS, hz, l0, l2, hp⟩
  have al' : Z.vm.Alike B.U.vm := hZ.alike.trans X'.warmed.alike
  have hsz : E'.slots.size = D.slots.size := by
    obtain ⟨-, -, -, kB, w1, w2, w3⟩ := q1
    obtain ⟨kB', y1, y2⟩ := al'.2.2 _ _ e3
    rw [q2.2.1] at w1
    cases w1.symm.trans y1
    rw [w3, e5 i3, y2]
  refine ⟨v, B, X', ⟨_, ⟨hv, ?_, ⟨by omega, fun y cy hy hn' => q10 y cy (by simpa using hn') hy, fun y cy hy => ?_⟩, q11, ⟨E', _, q1.1, by rw [q2.2.1]; exact e2, by rw [q2.2.1]; exact e3, by rw [q2.1]; exact obV, fun _ => by rw [hsz]; exact e5 i3⟩,
    ⟨E', cfV, kV, iV, fV, q1.1, gV, stV, by rw [q2.1]; exact knV, by rw [q2.1]; exact obV, by rw [q2.2.1]; exact asV, q3⟩, ⟨E', cfC, kC, iC, fC, q1.1, gC, stC, by rw [q2.1]; exact knV, by rw [q2.1]; exact obV, by rw [q2.2.1]; exact asC, q4⟩,
    ⟨V', ⟨q5.1, State.isArrayOf_alike al'.symm q5.2.1, q5.2.2.1⟩, q6, by rw [← al'.findClass]; exact q7, q8, fun j hj => by have := q9 j hj; rwa [Nat.zero_add] at this⟩, fun O n d w F n1 n2 => ?_⟩, hl, hc, hs⟩, st⟩
  · intro y hy
    simp only [List.mem_cons, List.not_mem_nil, or_false] at hy
    rcases hy with rfl | rfl <;> rfl
  · by_cases q : y = x
    · subst q
      cases hD.symm.trans hy
      exact ⟨E', q1.1, q2.2.1, q2.1, hsz⟩
    · exact ⟨cy, q10 y cy q hy, rfl, rfl, rfl⟩
  · obtain ⟨D3, cf, k, i, f, g1, g2, g3, g4, g5, g6, g7⟩ := F
    cases hD.symm.trans g1
    simp only [RoadKit.slotOf, g2, gV, gC, Option.map_some, Option.getD_some] at n1 n2
    exact ⟨E', cf, k, i, f, q1.1, g2, g3, by rw [q2.1]; exact g4, by rw [q2.1]; exact g5, by rw [q2.2.1]; exact g6, by rw [q2.2.2 f.slot (by simp [n1, n2])]; exact g7⟩
end StrChars.Road
namespace StrChars.Road
open Jvm Sem ClassFile Op Lib Jvm.Stand Jvm.Free Jvm.Free.XT
/-- WHAT COMES BACK, the byte[] as a list of values -/
def QA (Z : State) (x : Addr) (zn : Int32) (cs : List Int32) (h : Heap) (v : Option Value) (h' : Heap) (L : List Loc) : Prop := v = none ∧ (∀ y ∈ L, y.base = x) ∧ RoadKit.Keep h h' [x] ∧ h'.size = h.size + 1 ∧ RoadKit.Exa Z h' x ST ∧ RoadKit.Fld Z h' x ST "value" "[B" (.ref h.size) ∧ RoadKit.Fld Z h' x ST "coder" "B" (.int 0) ∧
  (∃ kb, Z.vm.findClass "[B" = some kb ∧ RoadKit.Arv Z h' h.size kb .byte zn (cs.map fun c => .int (lo8 c)) (.int 0)) ∧
  ∀ (O n d : String) (w : Value), RoadKit.Fld Z h x O n d w → RoadKit.slotOf Z O n d ≠ RoadKit.slotOf Z ST "value" "[B" → RoadKit.slotOf Z O n d ≠ RoadKit.slotOf Z ST "coder" "B" → RoadKit.Fld Z h' x O n d w
/-- **new String(chars) AT A CALL, THE ARRAYS AS LISTS**: the char[] at b holds cs, not empty, no char above 255 -/
theorem backArv {p : Program} {l : Launch} {e : Env} {R : Room} {s : State} {args : Array Value} {below : List Frame} {len W : Nat} {Z : State} {a0 : Array Value} {h : Heap} (hZ : Z.Warmed39 s.vm) (hw : ∀ d ∈ words, d.before a0 Z = true) {kI : Nat} (wi : (Jvm.Cond.instantiable ST kI).before a0 Z = true)
    {x b : Addr} {k : ClassId} {zn z : Int32} {cs : List Int32} {dv v0 c0 : Value} (E : RoadKit.Exa Z h x ST) (V : RoadKit.Fld Z h x ST "value" "[B" v0) (C : RoadKit.Fld Z h x ST "coder" "B" c0) (K : RoadKit.Arv Z h b k .char zn (cs.map Value.int) dv) (S : RoadKit.Sta Z h ST "COMPACT_STRINGS" "Z" (.int z)) (hz : ¬ z = 0)
    (hlen : zn.toNatClampNeg = cs.length) (h0 : 0 < cs.length) (hbig : cs.length ≤ 536870912) (hall : ∀ c ∈ cs, ¬ 255 < c) (hfr : 4 ≤ R.frames) (hlo : W + 65 ≤ R.locals) :
    Back l R p e below s args New1.yN len W (fun P a => a = #[.ref x, .ref b] ∧ P.U.heap = h ∧ P.cells + 1 ≤ R.cells ∧ P.slots + cs.length ≤ R.slots)
      (fun P _ v B => ∃ L, QA Z x zn cs h v B.U.heap L ∧ B.locs = P.locs ++ L ∧ B.cells = P.cells + 1 ∧ B.slots = P.slots + cs.length) := by
  obtain ⟨A, K1, K2, K3, K4, K5, K6⟩ := K
  have e : A.slots.size = cs.length := K3.trans hlen
  have hat : ∀ (i : Nat) (hi : i < cs.length), A.slots[i]? = some (.int cs[i]) := fun i hi => by rw [K5 i (by omega)]; simp [List.getD_eq_getElem?_getD, hi]
  have hcv : ∀ (i : Nat) (hi : i < cs.length), cv A i = cs[i] := fun i hi => by unfold cv; rw [hat i hi]
  have hty : Typed .char A := fun i v hv => by
    have hi : i < A.slots.size := (Array.getElem?_eq_some_iff.mp hv).1
    have q := K5 i hi
    rw [hv] at q
    rw [Option.some.inj q]
    exact K6 i hi
  refine Back.mono (back hZ hw wi E V C K1 hty S hz (by omega) (by omega) (fun i hi => by rw [hcv i (by omega)]; exact hall _ (List.getElem_mem _)) hfr hlo) (fun P a hp => ⟨hp.1, hp.2.1, hp.2.2.1, by rw [e]; exact hp.2.2.2⟩) (fun P a v B hp hq => ?_)
  obtain ⟨L, ⟨q1, q2, q3, q4, q5, q6, q7, ⟨V', v1, v2, v3, v4, v5⟩, q9⟩, hl, hc, hs⟩ := hq
  refine ⟨L, ⟨q1, q2, q3, q4, q5, q6, q7, ⟨V'.cls, v3, V', v1, rfl, by rw [v4, e, hlen], K4, fun i hi => ?_, fun i hi => ?_⟩, q9⟩, hl, hc, by rw [hs, e]⟩
  · have hi' : i < cs.length := by omega
    rw [v5 i (by omega), hcv i hi']; simp [List.getD_eq_getElem?_getD, hi']
  · have hi' : i < cs.length := by omega
    simp only [List.getD_eq_getElem?_getD, List.getElem?_map, List.getElem?_eq_getElem hi', Option.map_some, Option.getD_some]
    exact fits_lo8 _
end StrChars.Road
namespace StrChars.Road
open Jvm Sem ClassFile Op Lib Jvm.Stand Jvm.Free Jvm.Free.XT
/-- WHAT COMES BACK, in the writer's own shape -/
def QV (Z : State) (x : Addr) (N : Int32) (bs : List Int32) (h : Heap) (n0 : Nat) (v : Option Value) (h' : Heap) (L : List Loc) : Prop := v = none ∧ RoadKit.Fr n0 L ∧ RoadKit.Keep h h' [x] ∧ RoadKit.Exa Z h' x ST ∧ RoadKit.Fld Z h' x ST "coder" "B" (.int 0) ∧
  ∃ (t : Addr) (kb : ClassId), n0 ≤ t ∧ h.size ≤ t ∧ ¬ t = x ∧ RoadKit.Fld Z h' x ST "value" "[B" (.ref t) ∧ RoadKit.Arv Z h' t kb .byte N (bs.map Value.int) (.int 0)
/-- **new String(chars) AT A CALL, FOR THE WRITER**: a char[] of n known ints, each 0 to 255 -/
theorem backV {p : Program} {l : Launch} {e : Env} {R : Room} {s : State} {args : Array Value} {below : List Frame} {len W : Nat} {Z : State} {a0 : Array Value} {h : Heap} (hZ : Z.Warmed39 s.vm) (hw : ∀ d ∈ words, d.before a0 Z = true) {kI : Nat} (wi : (Jvm.Cond.instantiable ST kI).before a0 Z = true)
    {x b : Addr} {kC : ClassId} {cs bs : List Int32} {d v0 c0 : Value} {z N : Int32} {n n0 : Nat} (hx0 : n0 ≤ x) (hh0 : n0 ≤ h.size) (E : RoadKit.Exa Z h x ST) (V : RoadKit.Fld Z h x ST "value" "[B" v0) (C : RoadKit.Fld Z h x ST "coder" "B" c0) (K : RoadKit.Arv Z h b kC .char N (cs.map Value.int) d) (S : RoadKit.Sta Z h ST "COMPACT_STRINGS" "Z" (.int z)) (hz : ¬ z = 0)
    (hn : cs.length = n) (hN : N = Int32.ofNat n) (l0 : 0 < n) (l2 : n ≤ 4000) (hp : ∀ c ∈ cs, ¬ c < 0 ∧ ¬ (255 : Int32) < c) (hb : bs = cs.map (fun c => c.toInt8.toInt32)) (hfr : 4 ≤ R.frames) (hlo : W + 65 ≤ R.locals) :
    Back l R p e below s args (⟨"java/lang/String", "<init>", "([C)V"⟩ : MethodName) len W (fun P a => a = #[.ref x, .ref b] ∧ P.U.heap = h ∧ P.cells + 1 ≤ R.cells ∧ P.slots + n ≤ R.slots)
      (fun P _ v B => ∃ L, QV Z x N bs h n0 v B.U.heap L ∧ B.locs = P.locs ++ L ∧ B.cells = P.cells + 1 ∧ B.slots = P.slots + n) := by
  subst hn hN hb
  refine Back.mono (backArv hZ hw wi E V C K S hz (n32 (by omega)) l0 (by omega) (fun c hc => (hp c hc).2) hfr hlo) (fun P a hp => hp) (fun P a v B hp hq => ?_)
  obtain ⟨L, ⟨q1, q2, q3, q4, q5, q6, q7, ⟨kb, v1, v2⟩, q9⟩, hl, hc, hs⟩ := hq
  exact ⟨L, ⟨q1, fun y hy => by rw [q2 y hy]; exact hx0, q3, q5, q7, h.size, kb, hh0, Nat.le_refl _, Nat.ne_of_gt E.lt, q6, by rw [List.map_map]; exact v2⟩, hl, hc, hs⟩
end StrChars.Road
namespace StrChars
open Jvm Sem ClassFile Op Lib Jvm.Stand Jvm.Free.XT Jvm.Free.ALB Jvm.Free.JM Jvm.Free
open Jvm.Lib.Cold (StaticIs)
def hi8 (x : Int32) : Int32 := lo8 (x >>> ((8 : Int32) &&& 31))
/-- what StringUTF16.getChar makes of two bytes -/
def pairCh (u v : Int32) : Int32 := (((u &&& 255) <<< ((0 : Int32) &&& 31)) ||| ((v &&& 255) <<< ((8 : Int32) &&& 31))).toUInt32.toUInt16.toUInt32.toInt32
theorem lo8_and (x : Int32) : (lo8 x &&& 255).toBitVec.toNat = x.toBitVec.toNat % 256 := by
  have h : (lo8 x).toBitVec = (x.toBitVec.signExtend 8).signExtend 32 := by rw [lo8, Int8.toBitVec_toInt32, Int32.toBitVec_toInt8]
  rw [Int32.toBitVec_and, BitVec.toNat_and, h]
  have e : ((x.toBitVec.signExtend 8).signExtend 32).toNat % 256 = x.toBitVec.toNat % 256 := by
    rw [BitVec.toNat_signExtend]
    have hlt := x.toBitVec.isLt
    simp only [BitVec.toNat_setWidth, BitVec.toNat_signExtend]
    split <;> split <;> omega
  rw [← e]
  exact Nat.and_two_pow_sub_one_eq_mod _ 8
theorem pair_says {c : Int32} (h0 : ¬ c < 0) (h1 : ¬ 65535 < c) : pairCh (lo8 c) (hi8 c) = c := by
  rw [Int32.lt_iff_toInt_lt] at h0 h1
  have e0 : (0 : Int32).toInt = 0 := rfl
  have e1 : (65535 : Int32).toInt = 65535 := rfl
  have hc : c.toInt = c.toBitVec.toNat := by
    have := c.toBitVec.isLt
    have e : c.toInt = c.toBitVec.toInt := rfl
    rw [e] at h0 h1
    rw [e]
    rw [BitVec.toInt_eq_toNat_cond] at h0 h1 ⊢
    split at h0 <;> split <;> omega
  have hn : c.toBitVec.toNat < 65536 := by omega
  have a1 := lo8_and c
  have a2 : (hi8 c &&& 255).toBitVec.toNat = c.toBitVec.toNat / 256 := by
    rw [hi8, lo8_and]
    have e : ((8 : Int32) &&& 31) = 8 := by decide
    rw [e, Int32.toBitVec_shiftRight]
    have e2 : ((8 : Int32).toBitVec.smod 32) = 8#32 := by decide
    rw [e2, BitVec.sshiftRight_eq', BitVec.toNat_sshiftRight_of_msb_false (by rw [BitVec.msb_eq_false_iff_two_mul_lt]; omega)]
    show c.toBitVec.toNat >>> 8 % 256 = _
    rw [Nat.shiftRight_eq_div_pow]
    omega
  unfold pairCh
  apply Int32.toBitVec_inj.mp
  apply BitVec.eq_of_toNat_eq
  have f0 : ((0 : Int32) &&& 31) = 0 := by decide
  have f8 : ((8 : Int32) &&& 31) = 8 := by decide
  rw [f0, f8]
  have g : (((lo8 c &&& 255) <<< (0 : Int32)) ||| ((hi8 c &&& 255) <<< (8 : Int32))).toBitVec.toNat = c.toBitVec.toNat := by
    rw [Int32.toBitVec_or, Int32.toBitVec_shiftLeft, Int32.toBitVec_shiftLeft]
    have s0 : ((0 : Int32).toBitVec.smod 32) = 0#32 := by decide
    have s8 : ((8 : Int32).toBitVec.smod 32) = 8#32 := by decide
    rw [s0, s8, BitVec.toNat_or]
    simp only [BitVec.shiftLeft_eq', BitVec.toNat_shiftLeft, a1, a2]
    show (c.toBitVec.toNat % 256) <<< 0 % 2 ^ 32 ||| (c.toBitVec.toNat / 256) <<< 8 % 2 ^ 32 = _
    rw [Nat.shiftLeft_zero, Nat.mod_eq_of_lt (show c.toBitVec.toNat % 256 < 2 ^ 32 by omega), Nat.mod_eq_of_lt (show (c.toBitVec.toNat / 256) <<< 8 < 2 ^ 32 by rw [Nat.shiftLeft_eq]; omega), Nat.or_comm, ← Nat.shiftLeft_add_eq_or_of_lt (by omega), Nat.shiftLeft_eq]
    omega
  show BitVec.toNat (((((lo8 c &&& 255) <<< (0 : Int32)) ||| ((hi8 c &&& 255) <<< (8 : Int32))).toBitVec.setWidth 16).setWidth 32) = _
  rw [BitVec.toNat_setWidth, BitVec.toNat_setWidth, g]
  omega
end StrChars
namespace StrChars
open Jvm Sem ClassFile Op Lib Jvm.Stand Jvm.Free.XT Jvm.Free.ALB Jvm.Free.JM Jvm.Free
open Jvm.Lib.Cold (StaticIs)
/-- the array's cell V codes the n chars f 0 .. f (n - 1) by the coder cd, as the JDK does: coder 1 just where some char is above 255 -/
def Cod (cd : Int32) (n : Nat) (f : Nat → Int32) (V : Cell) : Prop := (cd = 0 ∧ V.slots.size = n ∧ ∀ j, j < n → V.slots[j]? = some (.int (lo8 (f j))) ∧ ¬ 255 < f j) ∨ (cd = 1 ∧ V.slots.size = 2 * n ∧ (∀ j, j < n → V.slots[2 * j]? = some (.int (lo8 (f j))) ∧ V.slots[2 * j + 1]? = some (.int (hi8 (f j)))) ∧ ∃ j, j < n ∧ 255 < f j)
/-- **x is a String of the n chars f 0 .. f (n - 1)**, Latin-1 or UTF-16; its array at t has the cell V -/
def Txt (x t : Addr) (V : Cell) (cd : Int32) (n : Nat) (f : Nat → Int32) (U : State) : Prop := Exact "java/lang/String" x U ∧ Has x "java/lang/String" "value" "[B" (.ref t) U ∧ Has x "java/lang/String" "coder" "B" (.int cd) U ∧ XT.Arr .byte t V U ∧ Cod cd n f V ∧ ∀ j, j < n → ¬ f j < 0 ∧ ¬ 65535 < f j
theorem Txt.mv {x t : Addr} {V : Cell} {cd : Int32} {n : Nat} {f : Nat → Int32} {U U' : State} (h : Txt x t V cd n f U) (hal : U.vm.Alike U'.vm) (hh : U'.heap = U.heap) : Txt x t V cd n f U' := ⟨h.1.mv hal hh, h.2.1.mv hal hh, h.2.2.1.mv hal hh, h.2.2.2.1.mv hal hh, h.2.2.2.2⟩
end StrChars
namespace StrChars.Road
open Jvm Sem ClassFile Op Lib Jvm.Stand Jvm.Free Jvm.Free.XT
open Jvm.Lib.Cold (StaticIs)
theorem consq {a : Array Value} {s : State} {c : Jvm.Cond} {L : List Jvm.Cond} (h0 : c.before a s = true) (h : ∀ w ∈ L, w.before a s = true) : ∀ w ∈ c :: L, w.before a s = true := fun w hw => (List.mem_cons.mp hw).elim (fun e => e ▸ h0) (h w)
/-- the bytes of the chars cs, low before high -/
def wideBytes : List Int32 → List Value
  | [] => []
  | c :: cs => .int (lo8 c) :: .int (hi8 c) :: wideBytes cs
theorem wide_lo (d : Value) : ∀ (cs : List Int32) (j : Nat), j < cs.length → (wideBytes cs).getD (2 * j) d = .int (lo8 (cs.getD j 0))
  | [], j, h => absurd h (Nat.not_lt_zero j)
  | c :: cs, 0, _ => rfl
  | c :: cs, j + 1, h => by
    have q := wide_lo d cs j (by simpa using h)
    rw [show 2 * (j + 1) = 2 * j + 1 + 1 from by omega]
    simpa [wideBytes] using q
theorem wide_hi (d : Value) : ∀ (cs : List Int32) (j : Nat), j < cs.length → (wideBytes cs).getD (2 * j + 1) d = .int (hi8 (cs.getD j 0))
  | [], j, h => absurd h (Nat.not_lt_zero j)
  | c :: cs, 0, _ => rfl
  | c :: cs, j + 1, h => by
    have q := wide_hi d cs j (by simpa using h)
    rw [show 2 * (j + 1) + 1 = 2 * j + 1 + 1 + 1 from by omega]
    simpa [wideBytes] using q
theorem low_at (d : Value) (cs : List Int32) (j : Nat) (h : j < cs.length) : (cs.map fun c => Value.int (lo8 c)).getD j d = .int (lo8 (cs.getD j 0)) := by
  simp [List.getD_eq_getElem?_getD, h]
/-- an array of N2 bytes vs codes the chars cs by the coder cd -/
def CodA (cs : List Int32) (cd N2 : Int32) (vs : List Value) : Prop := (cd = 0 ∧ N2 = Int32.ofNat cs.length ∧ vs = (cs.map fun c => Value.int (lo8 c)) ∧ ∀ c ∈ cs, ¬ 255 < c) ∨ (cd = 1 ∧ N2 = Int32.ofNat (2 * cs.length) ∧ vs = wideBytes cs ∧ ∃ c ∈ cs, 255 < c)
theorem CodA.cod {cs : List Int32} {cd N2 : Int32} {vs : List Value} {V : Cell} (h : CodA cs cd N2 vs) (hn : 2 * cs.length < 2 ^ 31) (hs : V.slots.size = N2.toNatClampNeg) (hv : RoadKit.Has V vs (.int 0)) : Cod cd cs.length (fun j => cs.getD j 0) V := by
  rcases h with ⟨rfl, rfl, rfl, h⟩ | ⟨rfl, rfl, rfl, c, hc, hw⟩
  · rw [n32 (by omega)] at hs
    exact Or.inl ⟨rfl, hs, fun j hj => ⟨by rw [hv j (by omega), low_at _ _ _ hj], by
      have e : cs.getD j 0 = cs[j] := by simp [List.getD_eq_getElem?_getD, hj]
      show ¬ 255 < cs.getD j 0
      rw [e]; exact h _ (List.getElem_mem _)⟩⟩
  · rw [n32 (by omega)] at hs
    obtain ⟨j, hj, rfl⟩ := List.getElem_of_mem hc
    exact Or.inr ⟨rfl, hs, fun j hj => ⟨by rw [hv _ (by omega), wide_lo _ _ _ hj], by rw [hv _ (by omega), wide_hi _ _ _ hj]⟩, j, hj, by
      have e : cs.getD j 0 = cs[j] := by simp [List.getD_eq_getElem?_getD, hj]
      show 255 < cs.getD j 0
      rw [e]; exact hw⟩
/-- an object of exactly java/lang/String, its two fields found: as the laws ask it -/
theorem strObj {Z U : State} {a0 : Array Value} {kI : Nat} (wi : (Jvm.Cond.instantiable ST kI).before a0 Z = true) (al : Z.vm.Alike U.vm) {x : Addr} {v0 c0 : Value} (E : RoadKit.Exa Z U.heap x ST) (V : RoadKit.Fld Z U.heap x ST "value" "[B" v0) (C : RoadKit.Fld Z U.heap x ST "coder" "B" c0) :
    ∃ (D : Cell) (fV fC : Field), Blank ST x D U ∧ Found ST "value" "[B" fV U ∧ Found ST "coder" "B" fC U ∧ D.slots[fV.slot]? = some v0 ∧ D.slots[fC.slot]? = some c0 ∧ RoadKit.slotOf Z ST "value" "[B" = fV.slot ∧ RoadKit.slotOf Z ST "coder" "B" = fC.slot := by
  obtain ⟨D, cfV, kV, iV, fV, hD, gV, stV, knV, obV, asV, slV⟩ := V
  obtain ⟨D', cfC, kC, iC, fC, hD', gC, stC, -, -, asC, slC⟩ := C
  cases hD.symm.trans hD'
  obtain ⟨D2, kD, e1, e2, e3, e4, e5⟩ := E
  cases hD.symm.trans e1
  obtain ⟨c2, k2, i1, i2, i3, -⟩ := Cond.instantiable_spec wi
  cases e2.symm.trans i1
  cases e3.symm.trans i2
  obtain ⟨kU, u1, u2⟩ := al.2.2 _ _ e3
  exact ⟨D, fV, fC, ⟨hD, ⟨knV, fun q hq => by rw [hq] at obV; cases obV⟩, by rw [al.findClass]; exact e2, kU, u1, by rw [u2]; exact i3, by rw [u2]; exact e5 i3⟩, ⟨SBG.found_only al ⟨cfV, kV, iV, gV⟩, stV⟩, ⟨SBG.found_only al ⟨cfC, kC, iC, gC⟩, stC⟩, slV, slC, by simp [RoadKit.slotOf, gV], by simp [RoadKit.slotOf, gC]⟩
theorem sta_is {Z U : State} (al : Z.vm.Alike U.vm) {C n d : String} {v : Value} (S : RoadKit.Sta Z U.heap C n d v) : StaticIs U C n d v := by
  obtain ⟨cfS, iS, kS, fS, st, cS, t1, t2, t3, t4, t5, t6, t7⟩ := S
  exact StaticIs.there (s := { Z with heap := U.heap }) ⟨cfS, iS, kS, fS, st, cS, t1, t2, t3, t4, t5, (fun q => by rw [q] at t6; cases t6), t7⟩ al rfl
end StrChars.Road
namespace StrChars
open Jvm Sem ClassFile Op Lib Jvm.Stand Jvm.Free.XT Jvm.Free.ALB Jvm.Free.JM Jvm.Free
open Jvm.Lib.Cold (StaticIs)
/-- what place i of a byte[]'s cell holds -/
def yv (A : Cell) (i : Nat) : Int32 := match A.slots[i]? with | some (.int x) => x | _ => 0
theorem yv_get {a : Addr} {A : Cell} {U : State} (h : XT.Arr .byte a A U) (ht : Typed .byte A) {i : Nat} (hi : i < A.slots.size) : A.slots[i]? = some (.int (yv A i)) := by
  have e := Array.getElem?_eq_getElem hi
  have f := ht i _ e
  unfold yv; rw [e]
  generalize A.slots[i] = v at f
  cases v <;> simp [fits] at f ⊢
/-- the two arrays are equal, place for place -/
def EqC (A B : Cell) : Prop := A.slots.size = B.slots.size ∧ ∀ i, i < A.slots.size → yv A i = yv B i
/-- a boolean that says whether p -/
def Says01 (q : Prop) (r : Option Value) (s u : State) : Prop := ∃ v : Int32, r = some (.int v) ∧ u.heap = s.heap ∧ ((v = 1 ∧ q) ∨ (v = 0 ∧ ¬ q))
theorem Says01.mv {q : Prop} : ∀ r (U U' V V' : State), U'.heap = U.heap → V.vm.Alike V'.vm → V'.heap = V.heap → Says01 q r U V → Says01 q r U' V' :=
  fun r U U' V V' h1 _ h2 ⟨v, a, b, c⟩ => ⟨v, a, by rw [h1, h2]; exact b, c⟩
namespace LEq
def yN : MethodName := ⟨"java/lang/StringLatin1", "equals", "([B[B)Z"⟩
abbrev yB : ByteArray := jdk_43_method_13_code
theorem d0 : decode yB 0 = .ok (.aload_n 0, 1) := by decide +kernel
theorem d1 : decode yB 1 = .ok (.arraylength, 1) := by decide +kernel
theorem d2 : decode yB 2 = .ok (.aload_n 1, 1) := by decide +kernel
theorem d3 : decode yB 3 = .ok (.arraylength, 1) := by decide +kernel
theorem d4 : decode yB 4 = .ok (.if_icmp (.ne) 30, 3) := by decide +kernel
theorem d7 : decode yB 7 = .ok (.iconst 0, 1) := by decide +kernel
theorem d8 : decode yB 8 = .ok (.istore_n 2, 1) := by decide +kernel
theorem d9 : decode yB 9 = .ok (.iload_n 2, 1) := by decide +kernel
theorem d10 : decode yB 10 = .ok (.aload_n 0, 1) := by decide +kernel
theorem d11 : decode yB 11 = .ok (.arraylength, 1) := by decide +kernel
theorem d12 : decode yB 12 = .ok (.if_icmp (.ge) 20, 3) := by decide +kernel
theorem d15 : decode yB 15 = .ok (.aload_n 0, 1) := by decide +kernel
theorem d16 : decode yB 16 = .ok (.iload_n 2, 1) := by decide +kernel
theorem d17 : decode yB 17 = .ok (.baload, 1) := by decide +kernel
theorem d18 : decode yB 18 = .ok (.aload_n 1, 1) := by decide +kernel
theorem d19 : decode yB 19 = .ok (.iload_n 2, 1) := by decide +kernel
theorem d20 : decode yB 20 = .ok (.baload, 1) := by decide +kernel
theorem d21 : decode yB 21 = .ok (.if_icmp (.eq) 5, 3) := by decide +kernel
theorem d24 : decode yB 24 = .ok (.iconst 0, 1) := by decide +kernel
theorem d25 : decode yB 25 = .ok (.ireturn, 1) := by decide +kernel
theorem d26 : decode yB 26 = .ok (.iinc 2 1, 3) := by decide +kernel
theorem d29 : decode yB 29 = .ok (.goto (-20), 3) := by decide +kernel
theorem d32 : decode yB 32 = .ok (.iconst 1, 1) := by decide +kernel
theorem d33 : decode yB 33 = .ok (.ireturn, 1) := by decide +kernel
theorem d34 : decode yB 34 = .ok (.iconst 0, 1) := by decide +kernel
theorem d35 : decode yB 35 = .ok (.ireturn, 1) := by decide +kernel
def site : List Cond := []
def tab : Cond := tabOf yN yB 3 (some .boolean) site
def P (a : Addr) (A : Cell) (b : Addr) (B : Cell) (args : Array Value) (s : State) : Prop := args = #[.ref a, .ref b] ∧ XT.Arr .byte a A s ∧ Typed .byte A ∧ XT.Arr .byte b B s ∧ Typed .byte B
/-- whether two byte[] are equal, place for place -/
theorem law (l : Launch) (a : Addr) (A : Cell) (b : Addr) (B : Cell) : Law l yN 2 2 0 0 yB 3 (some .boolean) site (P a A b B) (Says01 (EqC A B)) [] 0 0 := by
  refine Law.of_walk (plainFor_of_name (by decide +kernel)) (by decide +kernel) (by decide +kernel) (by decide) (fun _ _ h => by rw [h.1]; rfl) (fun _ U U' hal hh h => ⟨h.1, h.2.1.mv hal hh, h.2.2.1, h.2.2.2.1.mv hal hh, h.2.2.2.2⟩) (fun r U U' V V' h1 hal h2 h => Says01.mv r U U' V V' h1 hal h2 h) ?_
  intro p e s m args below meth c s₁ X0 hexec hbytes hml hret hlk hnm hown hh0 W hP
  obtain ⟨rfl, hA, tA, hB, tB⟩ := hP
  have a31 := hA.2.2.2
  have b31 := hB.2.2.2
  have hA0 := hA.mv X0.warmed.alike hh0
  have hB0 := hB.mv X0.warmed.alike hh0
  have c1 : Steps p.tables e below (s₁.setTop (entryFrame m #[.ref a, .ref b] 3)) (s₁.setTop (mkF m 0 #[.val (.ref a), .val (.ref b), .unset] [])) := entry rfl
  have c2 : Steps p.tables e below (s₁.setTop (entryFrame m #[.ref a, .ref b] 3)) (s₁.setTop (mkF m 4 #[.val (.ref a), .val (.ref b), .unset] [.int (Int32.ofNat B.slots.size), .int (Int32.ofNat A.slots.size)])) := c1.trans (by
    refine XS.aloadN X0.here hexec rfl (hb hbytes d0) rfl rfl ?_
    refine X0.alen hexec hA0 rfl rfl (hb hbytes d1) ?_
    refine XS.aloadN X0.here hexec rfl (hb hbytes d2) rfl rfl ?_
    refine X0.alen hexec hB0 rfl rfl (hb hbytes d3) ?_
    exact Steps.refl _)
  by_cases hs : A.slots.size = B.slots.size
  · have c3 : Steps p.tables e below (s₁.setTop (entryFrame m #[.ref a, .ref b] 3)) (s₁.setTop (mkF m 9 #[.val (.ref a), .val (.ref b), .val (.int 0)] [])) := c2.trans (by
      refine XS.icmpNo X0.here hexec rfl (hb hbytes d4) rfl (ii_ne_f (by rw [hs])) ?_
      refine iconstV X0.here hexec rfl 0 (hb hbytes d7) (by decide) ?_
      refine XS.istoreN X0.here hexec rfl (hb hbytes d8) rfl rfl ?_
      exact Steps.refl _)
    have loop : ∀ (r i : Nat), i + r = A.slots.size → (∀ j, j < i → yv A j = yv B j) → Steps p.tables e below (s₁.setTop (entryFrame m #[.ref a, .ref b] 3)) (s₁.setTop (mkF m 9 #[.val (.ref a), .val (.ref b), .val (.int (Int32.ofNat i))] [])) → ∃ (pc : Nat) (Ls : Array Slot) (v : Int32), (pc = 25 ∨ pc = 33) ∧ ((v = 1 ∧ EqC A B) ∨ (v = 0 ∧ ¬ EqC A B)) ∧ Steps p.tables e below (s₁.setTop (entryFrame m #[.ref a, .ref b] 3)) (s₁.setTop (mkF m pc Ls [.int v])) := by
      intro r
      induction r with
      | zero =>
        intro i hi he cl
        exact ⟨33, _, 1, Or.inr rfl, Or.inl ⟨rfl, hs, fun j hj => he j (by omega)⟩, cl.trans (by
          refine XS.iloadN X0.here hexec rfl (hb hbytes d9) rfl ?_
          refine XS.aloadN X0.here hexec rfl (hb hbytes d10) rfl rfl ?_
          refine X0.alen hexec hA0 rfl rfl (hb hbytes d11) ?_
          refine XS.icmpYes X0.here hexec rfl (pc0 := 12) rfl (hb hbytes d12) rfl (ii_ge_t (nlt32 (by omega) (by omega))) (by decide) rfl ?_
          refine iconstV X0.here hexec rfl 1 (hb hbytes d32) (by decide) ?_
          exact Steps.refl _)⟩
      | succ r ih =>
        intro i hi he cl
        have c4 : Steps p.tables e below (s₁.setTop (entryFrame m #[.ref a, .ref b] 3)) (s₁.setTop (mkF m 21 #[.val (.ref a), .val (.ref b), .val (.int (Int32.ofNat i))] [.int (yv B i), .int (yv A i)])) := cl.trans (by
          refine XS.iloadN X0.here hexec rfl (hb hbytes d9) rfl ?_
          refine XS.aloadN X0.here hexec rfl (hb hbytes d10) rfl rfl ?_
          refine X0.alen hexec hA0 rfl rfl (hb hbytes d11) ?_
          refine XS.icmpNo X0.here hexec rfl (hb hbytes d12) rfl (ii_ge_f (lt32 (by omega) (by omega))) ?_
          refine XS.aloadN X0.here hexec rfl (hb hbytes d15) rfl rfl ?_
          refine XS.iloadN X0.here hexec rfl (hb hbytes d16) rfl ?_
          refine X0.aget hexec hA0 rfl (yv_get hA tA (i := i) (by omega)) rfl rfl (hb hbytes d17) ?_
          refine XS.aloadN X0.here hexec rfl (hb hbytes d18) rfl rfl ?_
          refine XS.iloadN X0.here hexec rfl (hb hbytes d19) rfl ?_
          refine X0.aget hexec hB0 rfl (yv_get hB tB (i := i) (by omega)) rfl rfl (hb hbytes d20) ?_
          exact Steps.refl _)
        by_cases hv : yv A i = yv B i
        · have c5 : Steps p.tables e below (s₁.setTop (entryFrame m #[.ref a, .ref b] 3)) (s₁.setTop (mkF m 9 #[.val (.ref a), .val (.ref b), .val (.int (Int32.ofNat i + 1))] [])) := c4.trans (by
            refine XS.icmpYes X0.here hexec rfl (pc0 := 21) rfl (hb hbytes d21) rfl (ii_eq_t hv) (by decide) rfl ?_
            refine iincV X0.here hexec rfl 1 (hb hbytes d26) (by decide) rfl rfl ?_
            refine XS.goto X0.here hexec rfl (pc0 := 29) rfl (hb hbytes d29) (by decide) rfl ?_
            exact Steps.refl _)
          rw [succ32] at c5
          exact ih (i + 1) (by omega) (fun j hj => by
            by_cases e : j = i
            · rw [e]; exact hv
            · exact he j (by omega)) c5
        · exact ⟨25, _, 0, Or.inl rfl, Or.inr ⟨rfl, fun q => hv (q.2 i (by omega))⟩, c4.trans (by
            refine XS.icmpNo X0.here hexec rfl (hb hbytes d21) rfl (ii_eq_f hv) ?_
            refine iconstV X0.here hexec rfl 0 (hb hbytes d24) (by decide) ?_
            exact Steps.refl _)⟩
    obtain ⟨pc, Ls, v, hpc, hv, cz⟩ := loop A.slots.size 0 (by omega) (fun j hj => absurd hj (Nat.not_lt_zero j)) c3
    have nv : narrow .boolean (.int v) = .int v := by rcases hv with ⟨rfl, -⟩ | ⟨rfl, -⟩ <;> rfl
    rcases hpc with rfl | rfl
    · exact ⟨s₁, some (.int v), _, _, _, X0, rfl, rfl, rfl, (fun h => by cases h), ⟨v, rfl, hh0, hv⟩, fun fs hl => cz.trans (X0.ireturnOut hexec hret nv (Or.inr (Or.inl rfl)) (hb hbytes d25) hl)⟩
    · exact ⟨s₁, some (.int v), _, _, _, X0, rfl, rfl, rfl, (fun h => by cases h), ⟨v, rfl, hh0, hv⟩, fun fs hl => cz.trans (X0.ireturnOut hexec hret nv (Or.inr (Or.inl rfl)) (hb hbytes d33) hl)⟩
  · have c3 : Steps p.tables e below (s₁.setTop (entryFrame m #[.ref a, .ref b] 3)) (s₁.setTop (mkF m 35 #[.val (.ref a), .val (.ref b), .unset] [.int 0])) := c2.trans (by
      refine XS.icmpYes X0.here hexec rfl (pc0 := 4) rfl (hb hbytes d4) rfl (ii_ne_t (ne32 a31 b31 hs)) (by decide) rfl ?_
      refine iconstV X0.here hexec rfl 0 (hb hbytes d34) (by decide) ?_
      exact Steps.refl _)
    exact ⟨s₁, some (.int 0), _, _, _, X0, rfl, rfl, rfl, (fun h => by cases h), ⟨0, rfl, hh0, Or.inr ⟨rfl, fun q => hs q.1⟩⟩, fun fs hl => c3.trans (X0.ireturnOut hexec hret rfl (Or.inr (Or.inl rfl)) (hb hbytes d35) hl)⟩
end LEq
theorem Cod.ty {cd : Int32} {n : Nat} {f : Nat → Int32} {V : Cell} (h : Cod cd n f V) : Typed .byte V := fun i v hv => by
  have hi : i < V.slots.size := (Array.getElem?_eq_some_iff.mp hv).1
  rcases h with ⟨-, k1, k2⟩ | ⟨-, k1, k2, -⟩
  · rw [(k2 i (by omega)).1] at hv; cases hv; exact fits_lo8 _
  · rcases Nat.mod_two_eq_zero_or_one i with e | e
    · obtain ⟨j, rfl⟩ : ∃ j, i = 2 * j := ⟨i / 2, by omega⟩
      rw [(k2 j (by omega)).1] at hv; cases hv; exact fits_lo8 _
    · obtain ⟨j, rfl⟩ : ∃ j, i = 2 * j + 1 := ⟨i / 2, by omega⟩
      rw [(k2 j (by omega)).2] at hv; cases hv; exact fits_lo8 _
/-- the same text -/
def SameT (n : Nat) (f : Nat → Int32) (k : Nat) (g : Nat → Int32) : Prop := n = k ∧ ∀ j, j < n → f j = g j
theorem lo8_inj {x y : Int32} (h0 : ¬ x < 0) (h1 : ¬ 255 < x) (k0 : ¬ y < 0) (k1 : ¬ 255 < y) (h : lo8 x = lo8 y) : x = y := by
  rw [← lo8_mask h0 h1, ← lo8_mask k0 k1, h]
/-- arrays coded by one coder are equal just where the texts are -/
theorem Cod.eqv {cd : Int32} {n k : Nat} {f g : Nat → Int32} {V V' : Cell} (h : Cod cd n f V) (h' : Cod cd k g V') (hf : ∀ j, j < n → ¬ f j < 0 ∧ ¬ 65535 < f j) (hg : ∀ j, j < k → ¬ g j < 0 ∧ ¬ 65535 < g j) : EqC V V' ↔ SameT n f k g := by
  have yvv : ∀ {W : Cell} {i : Nat} {x : Int32}, W.slots[i]? = some (.int x) → yv W i = x := fun q => by unfold yv; rw [q]
  rcases h with ⟨rfl, k1, k2⟩ | ⟨rfl, k1, k2, -⟩
  · rcases h' with ⟨-, m1, m2⟩ | ⟨e, -⟩
    · constructor
      · rintro ⟨e1, e2⟩
        refine ⟨by omega, fun j hj => ?_⟩
        have q := e2 j (by omega)
        rw [yvv (k2 j hj).1, yvv (m2 j (by omega)).1] at q
        exact lo8_inj (hf j hj).1 (k2 j hj).2 (hg j (by omega)).1 (m2 j (by omega)).2 q
      · rintro ⟨rfl, e2⟩
        refine ⟨by omega, fun j hj => ?_⟩
        rw [yvv (k2 j (by omega)).1, yvv (m2 j (by omega)).1, e2 j (by omega)]
    · exact absurd e (by decide)
  · rcases h' with ⟨e, -⟩ | ⟨-, m1, m2, -⟩
    · exact absurd e (by decide)
    · constructor
      · rintro ⟨e1, e2⟩
        refine ⟨by omega, fun j hj => ?_⟩
        have q1 := e2 (2 * j) (by omega)
        have q2 := e2 (2 * j + 1) (by omega)
        rw [yvv (k2 j hj).1, yvv (m2 j (by omega)).1] at q1
        rw [yvv (k2 j hj).2, yvv (m2 j (by omega)).2] at q2
        rw [← pair_says (hf j hj).1 (hf j hj).2, ← pair_says (hg j (by omega)).1 (hg j (by omega)).2, q1, q2]
      · rintro ⟨rfl, e2⟩
        refine ⟨by omega, fun i hi => ?_⟩
        rcases Nat.mod_two_eq_zero_or_one i with e | e
        · obtain ⟨j, rfl⟩ : ∃ j, i = 2 * j := ⟨i / 2, by omega⟩
          rw [yvv (k2 j (by omega)).1, yvv (m2 j (by omega)).1, e2 j (by omega)]
        · obtain ⟨j, rfl⟩ : ∃ j, i = 2 * j + 1 := ⟨i / 2, by omega⟩
          rw [yvv (k2 j (by omega)).2, yvv (m2 j (by omega)).2, e2 j (by omega)]
/-- two codings differ: so do the texts -/
theorem Cod.dif {cd cd' : Int32} {n k : Nat} {f g : Nat → Int32} {V V' : Cell} (h : Cod cd n f V) (h' : Cod cd' k g V') (hne : ¬ cd = cd') : ¬ SameT n f k g := by
  rintro ⟨rfl, e⟩
  rcases h with ⟨rfl, -, k2⟩ | ⟨rfl, -, -, j, hj, hw⟩
  · rcases h' with ⟨rfl, -⟩ | ⟨-, -, -, j, hj, hw⟩
    · exact hne rfl
    · exact (k2 j hj).2 (by rw [e j hj]; exact hw)
  · rcases h' with ⟨-, -, m2⟩ | ⟨rfl, -⟩
    · exact (m2 j hj).2 (by rw [← e j hj]; exact hw)
    · exact hne rfl
/-- an object of exactly C is an instance of C -/
theorem cinst {p : Program} {l : Launch} {e : Env} {R : Room} {s : State} {m : MethodId} {args : Array Value} {below : List Frame} {meth : Method} {c : Code} {T : State} {locs : List Loc} {cells slots : Nat} (X : Stand p l e R s m args below meth c T locs cells slots) (hexec : p.tables.exec = Jvm.exec) {own C : String} {index : Nat} (hown : s.vm.findClass own = some m.cls) (hlink : (Cond.classLink own index C).before args s = true) {a : Addr} (hE : Exact C a T)
    {g : JFrame} (hg : g.method = m) {rest : List Value} (hstack : g.stack = .ref a :: rest) (hdg : decode c.code g.pc = .ok (.instanceof index, 3)) :
    ∃ T', Stand p l e R s m args below meth c T' locs cells slots ∧ T'.heap = T.heap ∧ ∀ target, Steps p.tables e below (T'.setTop { g with pc := g.pc + 3, stack := .int 1 :: rest }) target → Steps p.tables e below (T.setTop g) target := by
  obtain ⟨cB, h1, D, h2, h3, h4⟩ := hE
  have h1' : s.vm.findClass C = some cB := by rw [← X.warmed.alike.findClass]; exact h1
  obtain ⟨vm', X', st⟩ := X.instanceofYes hexec hown hlink h2 h4 h1' (by rw [h3]; exact Jvm.Free.SB.assignable_self _ _) hg hstack hdg
  exact ⟨_, X', rfl, st⟩
theorem cself {p : Program} {l : Launch} {e : Env} {R : Room} {s : State} {m : MethodId} {args : Array Value} {below : List Frame} {meth : Method} {c : Code} {T : State} {locs : List Loc} {cells slots : Nat} (X : Stand p l e R s m args below meth c T locs cells slots) (hexec : p.tables.exec = Jvm.exec) {own C : String} {index : Nat} (hown : s.vm.findClass own = some m.cls) (hlink : (Cond.classLink own index C).before args s = true) {a : Addr} (hE : Exact C a T)
    {g : JFrame} (hg : g.method = m) {rest : List Value} (hstack : g.stack = .ref a :: rest) (hdg : decode c.code g.pc = .ok (.checkcast index, 3)) :
    ∃ T', Stand p l e R s m args below meth c T' locs cells slots ∧ T'.heap = T.heap ∧ ∀ target, Steps p.tables e below (T'.setTop { g with pc := g.pc + 3, stack := .ref a :: rest }) target → Steps p.tables e below (T.setTop g) target := by
  obtain ⟨cB, h1, D, h2, h3, h4⟩ := hE
  have h1' : s.vm.findClass C = some cB := by rw [← X.warmed.alike.findClass]; exact h1
  obtain ⟨vm', X', st⟩ := X.checkcastYes hexec hown hlink h2 h4 h1' (by rw [h3]; exact Jvm.Free.SB.assignable_self _ _) hg hstack hdg
  exact ⟨_, X', rfl, fun t h => st t (by rw [← hstack] at h; exact h)⟩
namespace SEq
def yN : MethodName := ⟨"java/lang/String", "equals", "(Ljava/lang/Object;)Z"⟩
abbrev yB : ByteArray := jdk_42_method_66_code
theorem d0 : decode yB 0 = .ok (.aload_n 0, 1) := by decide +kernel
theorem d1 : decode yB 1 = .ok (.aload_n 1, 1) := by decide +kernel
theorem d2 : decode yB 2 = .ok (.if_acmp (.ne) 5, 3) := by decide +kernel
theorem d5 : decode yB 5 = .ok (.iconst 1, 1) := by decide +kernel
theorem d6 : decode yB 6 = .ok (.ireturn, 1) := by decide +kernel
theorem d7 : decode yB 7 = .ok (.aload_n 1, 1) := by decide +kernel
theorem d8 : decode yB 8 = .ok (.instanceof 10, 3) := by decide +kernel
theorem d11 : decode yB 11 = .ok (.ifCond (.eq) 43, 3) := by decide +kernel
theorem d14 : decode yB 14 = .ok (.aload_n 1, 1) := by decide +kernel
theorem d15 : decode yB 15 = .ok (.checkcast 10, 3) := by decide +kernel
theorem d18 : decode yB 18 = .ok (.astore_n 2, 1) := by decide +kernel
theorem d19 : decode yB 19 = .ok (.getstatic 38, 3) := by decide +kernel
theorem d22 : decode yB 22 = .ok (.ifCond (.eq) 14, 3) := by decide +kernel
theorem d25 : decode yB 25 = .ok (.aload_n 0, 1) := by decide +kernel
theorem d26 : decode yB 26 = .ok (.getfield 15, 3) := by decide +kernel
theorem d29 : decode yB 29 = .ok (.aload_n 2, 1) := by decide +kernel
theorem d30 : decode yB 30 = .ok (.getfield 15, 3) := by decide +kernel
theorem d33 : decode yB 33 = .ok (.if_icmp (.ne) 21, 3) := by decide +kernel
theorem d36 : decode yB 36 = .ok (.aload_n 0, 1) := by decide +kernel
theorem d37 : decode yB 37 = .ok (.getfield 9, 3) := by decide +kernel
theorem d40 : decode yB 40 = .ok (.aload_n 2, 1) := by decide +kernel
theorem d41 : decode yB 41 = .ok (.getfield 9, 3) := by decide +kernel
theorem d44 : decode yB 44 = .ok (.invokestatic 541, 3) := by decide +kernel
theorem d47 : decode yB 47 = .ok (.ifCond (.eq) 7, 3) := by decide +kernel
theorem d50 : decode yB 50 = .ok (.iconst 1, 1) := by decide +kernel
theorem d51 : decode yB 51 = .ok (.goto 4, 3) := by decide +kernel
theorem d54 : decode yB 54 = .ok (.iconst 0, 1) := by decide +kernel
theorem d55 : decode yB 55 = .ok (.ireturn, 1) := by decide +kernel
def site : List Cond := [.classLink "java/lang/String" 10 "java/lang/String", .fieldLink "java/lang/String" 38 "java/lang/String" "COMPACT_STRINGS" "Z", .fieldLink "java/lang/String" 15 "java/lang/String" "coder" "B", .fieldLink "java/lang/String" 9 "java/lang/String" "value" "[B", LEq.tab] ++ staticW "java/lang/String" 541 LEq.yN
def tab : Cond := tabOf yN yB 3 (some .boolean) site
def P (x t : Addr) (V : Cell) (cd : Int32) (n : Nat) (f : Nat → Int32) (y t' : Addr) (V' : Cell) (cd' : Int32) (k : Nat) (g : Nat → Int32) (z : Int32) (args : Array Value) (s : State) : Prop := args = #[.ref x, .ref y] ∧ Txt x t V cd n f s ∧ Txt y t' V' cd' k g s ∧ StaticIs s "java/lang/String" "COMPACT_STRINGS" "Z" (.int z) ∧ ¬ z = 0
/-- equals(Object) of two Strings: whether the texts are the same -/
theorem law (l : Launch) (x t : Addr) (V : Cell) (cd : Int32) (n : Nat) (f : Nat → Int32) (y t' : Addr) (V' : Cell) (cd' : Int32) (k : Nat) (g : Nat → Int32) (z : Int32) : Law l yN 2 1 1 14 yB 3 (some .boolean) site (P x t V cd n f y t' V' cd' k g z) (Says01 (SameT n f k g)) [] 0 0 := by
  refine Law.of_walk (plainFor_of_name (by decide +kernel)) (by decide +kernel) (by decide +kernel) (by decide) (fun _ _ h => by rw [h.1]; rfl) (fun _ U U' hal hh h => ⟨h.1, h.2.1.mv hal hh, h.2.2.1.mv hal hh, h.2.2.2.1.there hal hh, h.2.2.2.2⟩) (fun r U U' V V' h1 hal h2 h => Says01.mv r U U' V V' h1 hal h2 h) ?_
  intro p e s m args below meth c s₁ X0 hexec hbytes hml hret hlk hnm hown hh0 W hP
  obtain ⟨rfl, hx, hy, s1, hz⟩ := hP
  have c1 : Steps p.tables e below (s₁.setTop (entryFrame m #[.ref x, .ref y] 3)) (s₁.setTop (mkF m 2 #[.val (.ref x), .val (.ref y), .unset] [.ref y, .ref x])) := Steps.trans (entry rfl) (by
    show Steps p.tables e below (s₁.setTop (mkF m 0 #[.val (.ref x), .val (.ref y), .unset] [])) _
    refine XS.aloadN X0.here hexec rfl (hb hbytes d0) rfl rfl ?_
    refine XS.aloadN X0.here hexec rfl (hb hbytes d1) rfl rfl ?_
    exact Steps.refl _)
  by_cases hxy : x = y
  · have c2 : Steps p.tables e below (s₁.setTop (entryFrame m #[.ref x, .ref y] 3)) (s₁.setTop (mkF m 6 #[.val (.ref x), .val (.ref y), .unset] [.int 1])) := c1.trans (by
      refine acmpNo X0.here hexec rfl (hb hbytes d2) rfl rfl rfl (by simp [acmp, hxy]) ?_
      refine iconstV X0.here hexec rfl 1 (hb hbytes d5) (by decide) ?_
      exact Steps.refl _)
    subst hxy
    have ec : cd = cd' := by
      obtain ⟨D, fd, a1, a2, a3⟩ := hx.2.2.1
      obtain ⟨D', fd', b1, b2, b3⟩ := hy.2.2.1
      cases a1.symm.trans b1
      obtain ⟨q1, q2, q3, q4⟩ := a2.1
      obtain ⟨r1, r2, r3, r4⟩ := b2.1
      cases q4.symm.trans r4
      cases a3.symm.trans b3; rfl
    have et : t = t' := by
      obtain ⟨D, fd, a1, a2, a3⟩ := hx.2.1
      obtain ⟨D', fd', b1, b2, b3⟩ := hy.2.1
      cases a1.symm.trans b1
      obtain ⟨q1, q2, q3, q4⟩ := a2.1
      obtain ⟨r1, r2, r3, r4⟩ := b2.1
      cases q4.symm.trans r4
      cases a3.symm.trans b3; rfl
    subst ec et
    have ev : V = V' := by cases hx.2.2.2.1.1.symm.trans hy.2.2.2.1.1; rfl
    subst ev
    have hs : SameT n f k g := (Cod.eqv hx.2.2.2.2.1 hy.2.2.2.2.1 hx.2.2.2.2.2 hy.2.2.2.2.2).mp ⟨rfl, fun _ _ => rfl⟩
    exact ⟨s₁, some (.int 1), _, _, _, X0, rfl, rfl, rfl, (fun h => by cases h), ⟨1, rfl, hh0, Or.inl ⟨rfl, hs⟩⟩, fun fs hl => c2.trans (X0.ireturnOut hexec hret rfl (Or.inr (Or.inl rfl)) (hb hbytes d6) hl)⟩
  · have c2 : Steps p.tables e below (s₁.setTop (entryFrame m #[.ref x, .ref y] 3)) (s₁.setTop (mkF m 8 #[.val (.ref x), .val (.ref y), .unset] [.ref y])) := c1.trans (by
      refine acmpYes X0.here hexec rfl (pc0 := 2) rfl (hb hbytes d2) rfl rfl rfl (by simp [acmp, hxy]) (by decide) rfl ?_
      refine XS.aloadN X0.here hexec rfl (hb hbytes d7) rfl rfl ?_
      exact Steps.refl _)
    obtain ⟨T3, X3, q3, st3⟩ := cinst X0 hexec hown (wk W (.classLink "java/lang/String" 10 "java/lang/String")) (hy.mv X0.warmed.alike hh0).1 (g := (mkF m 8 #[.val (.ref x), .val (.ref y), .unset] [.ref y])) rfl (rest := []) rfl (hb hbytes d8)
    have hh3 := q3.trans hh0
    have c4 : Steps p.tables e below (s₁.setTop (entryFrame m #[.ref x, .ref y] 3)) (T3.setTop (mkF m 15 #[.val (.ref x), .val (.ref y), .unset] [.ref y])) := (c2.trans (st3 _ (Steps.refl _))).trans (by
      refine XS.ifNo X3.here hexec rfl (hb hbytes d11) rfl (i0_eq_f (by decide)) ?_
      refine XS.aloadN X3.here hexec rfl (hb hbytes d14) rfl rfl ?_
      exact Steps.refl _)
    obtain ⟨T5, X5, q5, st5⟩ := cself X3 hexec hown (wk W (.classLink "java/lang/String" 10 "java/lang/String")) (hy.mv X3.warmed.alike hh3).1 (g := (mkF m 15 #[.val (.ref x), .val (.ref y), .unset] [.ref y])) rfl (rest := []) rfl (hb hbytes d15)
    have hh5 := q5.trans hh3
    have c6 : Steps p.tables e below (s₁.setTop (entryFrame m #[.ref x, .ref y] 3)) (T5.setTop (mkF m 19 #[.val (.ref x), .val (.ref y), .val (.ref y)] [])) := (c4.trans (st5 _ (Steps.refl _))).trans (by
      refine XS.astoreN X5.here hexec rfl (hb hbytes d18) rfl rfl rfl ?_
      exact Steps.refl _)
    obtain ⟨T7, X7, q7, st7⟩ := X5.sget hexec hown (wk W (.fieldLink "java/lang/String" 38 "java/lang/String" "COMPACT_STRINGS" "Z")) s1 (fun _ _ h => by rw [hh5]; exact h) (g := (mkF m 19 #[.val (.ref x), .val (.ref y), .val (.ref y)] [])) rfl (hb hbytes d19)
    have hh7 := q7.trans hh5
    have c8 : Steps p.tables e below (s₁.setTop (entryFrame m #[.ref x, .ref y] 3)) (T7.setTop (mkF m 26 #[.val (.ref x), .val (.ref y), .val (.ref y)] [.ref x])) := (c6.trans (st7 _ (Steps.refl _))).trans (by
      refine XS.ifNo X7.here hexec rfl (hb hbytes d22) rfl (i0_eq_f hz) ?_
      refine XS.aloadN X7.here hexec rfl (hb hbytes d25) rfl rfl ?_
      exact Steps.refl _)
    obtain ⟨T9, X9, q9, st9⟩ := X7.hget hexec hown (wk W (.fieldLink "java/lang/String" 15 "java/lang/String" "coder" "B")) (hx.mv X7.warmed.alike hh7).2.2.1 (g := (mkF m 26 #[.val (.ref x), .val (.ref y), .val (.ref y)] [.ref x])) rfl (rest := []) rfl (hb hbytes d26)
    have hh9 := q9.trans hh7
    have c10 : Steps p.tables e below (s₁.setTop (entryFrame m #[.ref x, .ref y] 3)) (T9.setTop (mkF m 30 #[.val (.ref x), .val (.ref y), .val (.ref y)] [.ref y, .int cd])) := (c8.trans (st9 _ (Steps.refl _))).trans (by
      refine XS.aloadN X9.here hexec rfl (hb hbytes d29) rfl rfl ?_
      exact Steps.refl _)
    obtain ⟨T11, X11, q11, st11⟩ := X9.hget hexec hown (wk W (.fieldLink "java/lang/String" 15 "java/lang/String" "coder" "B")) (hy.mv X9.warmed.alike hh9).2.2.1 (g := (mkF m 30 #[.val (.ref x), .val (.ref y), .val (.ref y)] [.ref y, .int cd])) rfl (rest := [.int cd]) rfl (hb hbytes d30)
    have hh11 := q11.trans hh9
    have c12 : Steps p.tables e below (s₁.setTop (entryFrame m #[.ref x, .ref y] 3)) (T11.setTop (mkF m 33 #[.val (.ref x), .val (.ref y), .val (.ref y)] [.int cd', .int cd])) := c10.trans (st11 _ (Steps.refl _))
    by_cases hcd : cd = cd'
    · subst hcd
      have c13 : Steps p.tables e below (s₁.setTop (entryFrame m #[.ref x, .ref y] 3)) (T11.setTop (mkF m 37 #[.val (.ref x), .val (.ref y), .val (.ref y)] [.ref x])) := c12.trans (by
        refine XS.icmpNo X11.here hexec rfl (hb hbytes d33) rfl (ii_ne_f rfl) ?_
        refine XS.aloadN X11.here hexec rfl (hb hbytes d36) rfl rfl ?_
        exact Steps.refl _)
      obtain ⟨T14, X14, q14, st14⟩ := X11.hget hexec hown (wk W (.fieldLink "java/lang/String" 9 "java/lang/String" "value" "[B")) (hx.mv X11.warmed.alike hh11).2.1 (g := (mkF m 37 #[.val (.ref x), .val (.ref y), .val (.ref y)] [.ref x])) rfl (rest := []) rfl (hb hbytes d37)
      have hh14 := q14.trans hh11
      have c15 : Steps p.tables e below (s₁.setTop (entryFrame m #[.ref x, .ref y] 3)) (T14.setTop (mkF m 41 #[.val (.ref x), .val (.ref y), .val (.ref y)] [.ref y, .ref t])) := (c13.trans (st14 _ (Steps.refl _))).trans (by
        refine XS.aloadN X14.here hexec rfl (hb hbytes d40) rfl rfl ?_
        exact Steps.refl _)
      obtain ⟨T16, X16, q16, st16⟩ := X14.hget hexec hown (wk W (.fieldLink "java/lang/String" 9 "java/lang/String" "value" "[B")) (hy.mv X14.warmed.alike hh14).2.1 (g := (mkF m 41 #[.val (.ref x), .val (.ref y), .val (.ref y)] [.ref y, .ref t])) rfl (rest := [.ref t]) rfl (hb hbytes d41)
      have hh16 := q16.trans hh14
      have c17 : Steps p.tables e below (s₁.setTop (entryFrame m #[.ref x, .ref y] 3)) (T16.setTop (mkF m 44 #[.val (.ref x), .val (.ref y), .val (.ref y)] [.ref t', .ref t])) := c15.trans (st16 _ (Steps.refl _))
      obtain ⟨v18, T18, X18, E18, g18⟩ := X16.callS hexec (LEq.law l t V t' V') hown (wks W (staticW "java/lang/String" 541 LEq.yN)) (wk W LEq.tab) (W := 0) (Nat.le_of_ble_eq_true rfl) (Nat.le_of_ble_eq_true rfl) (Nat.le_refl _) (Nat.le_refl _) (g := (mkF m 44 #[.val (.ref x), .val (.ref y), .val (.ref y)] [.ref t', .ref t])) rfl (by rw [hml]; rfl) c17 (argsL := [.ref t, .ref t']) (rest := []) rfl rfl (by show 2 * 0 + 0 ≤ _; decide) (hb hbytes d44) (⟨rfl, hx.2.2.2.1.mv X16.warmed.alike hh16, hx.2.2.2.2.1.ty, hy.2.2.2.1.mv X16.warmed.alike hh16, hy.2.2.2.2.1.ty⟩)
      obtain ⟨v, rfl, q18, hv⟩ := E18
      have iff := Cod.eqv hx.2.2.2.2.1 hy.2.2.2.2.1 hx.2.2.2.2.2 hy.2.2.2.2.2
      rcases hv with ⟨rfl, he⟩ | ⟨rfl, he⟩
      · have c19 : Steps p.tables e below (s₁.setTop (entryFrame m #[.ref x, .ref y] 3)) (T18.setTop (mkF m 55 #[.val (.ref x), .val (.ref y), .val (.ref y)] [.int 1])) := Steps.trans g18 (by
          refine XS.ifNo X18.here hexec rfl (hb hbytes d47) rfl (i0_eq_f (by decide)) ?_
          refine iconstV X18.here hexec rfl 1 (hb hbytes d50) (by decide) ?_
          refine XS.goto X18.here hexec rfl (pc0 := 51) rfl (hb hbytes d51) (by decide) rfl ?_
          exact Steps.refl _)
        exact ⟨T18, some (.int 1), _, _, _, X18, rfl, rfl, rfl, (fun h => by cases h), ⟨1, rfl, q18.trans hh16, Or.inl ⟨rfl, iff.mp he⟩⟩, fun fs hl => c19.trans (X18.ireturnOut hexec hret rfl (Or.inr (Or.inl rfl)) (hb hbytes d55) hl)⟩
      · have c19 : Steps p.tables e below (s₁.setTop (entryFrame m #[.ref x, .ref y] 3)) (T18.setTop (mkF m 55 #[.val (.ref x), .val (.ref y), .val (.ref y)] [.int 0])) := Steps.trans g18 (by
          refine XS.ifYes X18.here hexec rfl (pc0 := 47) rfl (hb hbytes d47) rfl (i0_eq_t rfl) (by decide) rfl ?_
          refine iconstV X18.here hexec rfl 0 (hb hbytes d54) (by decide) ?_
          exact Steps.refl _)
        exact ⟨T18, some (.int 0), _, _, _, X18, rfl, rfl, rfl, (fun h => by cases h), ⟨0, rfl, q18.trans hh16, Or.inr ⟨rfl, fun q => he (iff.mpr q)⟩⟩, fun fs hl => c19.trans (X18.ireturnOut hexec hret rfl (Or.inr (Or.inl rfl)) (hb hbytes d55) hl)⟩
    · have c13 : Steps p.tables e below (s₁.setTop (entryFrame m #[.ref x, .ref y] 3)) (T11.setTop (mkF m 55 #[.val (.ref x), .val (.ref y), .val (.ref y)] [.int 0])) := c12.trans (by
        refine XS.icmpYes X11.here hexec rfl (pc0 := 33) rfl (hb hbytes d33) rfl (ii_ne_t hcd) (by decide) rfl ?_
        refine iconstV X11.here hexec rfl 0 (hb hbytes d54) (by decide) ?_
        exact Steps.refl _)
      exact ⟨T11, some (.int 0), _, _, _, X11, rfl, rfl, rfl, (fun h => by cases h), ⟨0, rfl, hh11, Or.inr ⟨rfl, Cod.dif hx.2.2.2.2.1 hy.2.2.2.2.1 hcd⟩⟩, fun fs hl => c13.trans (X11.ireturnOut hexec hret rfl (Or.inr (Or.inl rfl)) (hb hbytes d55) hl)⟩
theorem pays {l : Launch} {R : Room} {p : Program} {e : Env} {below : List Frame} {s : State} {sargs : Array Value} {len W : Nat} (x t : Addr) (V : Cell) (cd : Int32) (n : Nat) (f : Nat → Int32) (y t' : Addr) (V' : Cell) (cd' : Int32) (k : Nat) (g : Nat → Int32) (z : Int32) (htab : tab.before sargs s = true) (hfr : 2 ≤ R.frames) (hlo : W + 28 ≤ R.locals) :
    Back l R p e below s sargs yN len W (fun A₁ a₁ => A₁.cells + 0 ≤ R.cells ∧ A₁.slots + 0 ≤ R.slots ∧ P x t V cd n f y t' V' cd' k g z a₁ A₁.U) (fun A₁ _ v₁ B₁ => Says01 (SameT n f k g) v₁ A₁.U B₁.U ∧ B₁.locs = A₁.locs ++ [] ∧ B₁.cells = A₁.cells + 0 ∧ B₁.slots = A₁.slots + 0) :=
  (law l x t V cd n f y t' V' cd' k g z).pays htab hfr (by omega)
end SEq
end StrChars
namespace StrChars.Road
open Jvm Sem ClassFile Op Lib Jvm.Stand Jvm.Free Jvm.Free.XT
open Jvm.Lib.Cold (StaticIs)
/-- the words of String.equals(Object) -/
abbrev wordsEq : List Jvm.Cond := [.code SEq.yN SEq.yB 3 (some .boolean), .initialized ST, .classLink ST 10 ST, .fieldLink ST 38 ST "COMPACT_STRINGS" "Z", .fieldLink ST 15 ST "coder" "B", .fieldLink ST 9 ST "value" "[B", .methodLink ST 541 LEq.yN, .static LEq.yN, .code LEq.yN LEq.yB 3 (some .boolean), .initialized "java/lang/StringLatin1"]
theorem tabEq_of {a : Array Value} {s : State} (h : ∀ w ∈ wordsEq, w.before a s = true) : SEq.tab.before a s = true := by
  have hl : LEq.tab.before a s = true := unparts (wk h (.code LEq.yN LEq.yB 3 (some .boolean))) (wks h (.initialized LEq.yN.cls :: LEq.site))
  have q := consq hl h
  exact unparts (wk q (.code SEq.yN SEq.yB 3 (some .boolean))) (wks q (.initialized SEq.yN.cls :: SEq.site))
theorem movedEq {Z s : State} {a0 args : Array Value} (hZ : Z.Warmed39 s.vm) (hw : ∀ d ∈ wordsEq, d.before a0 Z = true) : ∀ d ∈ wordsEq, d.before args s = true := fun d hd => by
  have t : ∀ d ∈ wordsEq, (d.onTables && d.keepsFace) = true := by decide +kernel
  exact RoadKit.mv hZ (hw d hd) (t d hd)
/-- the road's facts of a String, as the laws ask it -/
theorem txt_of {Z U : State} {a0 : Array Value} {kI : Nat} (wi : (Jvm.Cond.instantiable ST kI).before a0 Z = true) (al : Z.vm.Alike U.vm) {x t : Addr} {kb : ClassId} {cs : List Int32} {cd N2 : Int32} {vs : List Value} (E : RoadKit.Exa Z U.heap x ST) (V : RoadKit.Fld Z U.heap x ST "value" "[B" (.ref t)) (C : RoadKit.Fld Z U.heap x ST "coder" "B" (.int cd)) (K : RoadKit.Arv Z U.heap t kb .byte N2 vs (.int 0)) (hc : CodA cs cd N2 vs) (hb : ∀ c ∈ cs, ¬ c < 0 ∧ ¬ (65535 : Int32) < c) (l2 : cs.length ≤ 4000) :
    ∃ A, Txt x t A cd cs.length (fun j => cs.getD j 0) U := by
  obtain ⟨A, K1, K2, K3, K4, K5, K6⟩ := K
  have hcod := hc.cod (by omega) K3 K5
  obtain ⟨D, fV, fC, hB, F1, F2, g1, g2, -, -⟩ := strObj wi al E V C
  exact ⟨A, ⟨_, hB.2.2.1, D, hB.1, rfl, by cases q : D.vm <;> first | rfl | exact absurd q (hB.2.1.2 _)⟩, Has.of hB F1 g1, Has.of hB F2 g2, ⟨K1.1, State.isArrayOf_alike al K1.2.1, K1.2.2, by rcases hcod with ⟨-, q, -⟩ | ⟨-, q, -⟩ <;> omega⟩, hcod, fun j hj => by
    have e : cs.getD j 0 = cs[j] := by simp [List.getD_eq_getElem?_getD, hj]
    show ¬ cs.getD j 0 < 0 ∧ ¬ 65535 < cs.getD j 0
    rw [e]; exact hb _ (List.getElem_mem _)⟩
theorem same_list (cs ds : List Int32) : SameT cs.length (fun j => cs.getD j 0) ds.length (fun j => ds.getD j 0) ↔ cs = ds := by
  constructor
  · rintro ⟨e, q⟩
    refine List.ext_getElem e fun j h1 h2 => ?_
    have := q j h1
    simpa [List.getD_eq_getElem?_getD, h1, h2] using this
  · rintro rfl
    exact ⟨rfl, fun _ _ => rfl⟩
/-- **equals(Object) OF TWO SUCH STRINGS**: 1 just where the chars are the same -/
theorem eqW {p : Program} {l : Launch} {e : Env} {R : Room} {s : State} {args : Array Value} {below : List Frame} {len W : Nat} {Z : State} {a0 : Array Value} {h : Heap} (hZ : Z.Warmed39 s.vm) (hw : ∀ d ∈ wordsEq, d.before a0 Z = true) {kI : Nat} (wi : (Jvm.Cond.instantiable ST kI).before a0 Z = true)
    {x t : Addr} {kb : ClassId} {cs : List Int32} {cd N2 : Int32} {vs : List Value} (E : RoadKit.Exa Z h x ST) (V : RoadKit.Fld Z h x ST "value" "[B" (.ref t)) (C : RoadKit.Fld Z h x ST "coder" "B" (.int cd)) (K : RoadKit.Arv Z h t kb .byte N2 vs (.int 0)) (hc : CodA cs cd N2 vs) (hb : ∀ c ∈ cs, ¬ c < 0 ∧ ¬ (65535 : Int32) < c) (l2 : cs.length ≤ 4000)
    {y t' : Addr} {kb' : ClassId} {ds : List Int32} {cd' N2' : Int32} {vs' : List Value} (E' : RoadKit.Exa Z h y ST) (V' : RoadKit.Fld Z h y ST "value" "[B" (.ref t')) (C' : RoadKit.Fld Z h y ST "coder" "B" (.int cd')) (K' : RoadKit.Arv Z h t' kb' .byte N2' vs' (.int 0)) (hc' : CodA ds cd' N2' vs') (hb' : ∀ c ∈ ds, ¬ c < 0 ∧ ¬ (65535 : Int32) < c) (l2' : ds.length ≤ 4000)
    {z : Int32} (S : RoadKit.Sta Z h ST "COMPACT_STRINGS" "Z" (.int z)) (hz : ¬ z = 0) (hfr : 2 ≤ R.frames) (hlo : W + 28 ≤ R.locals) :
    Back l R p e below s args (⟨"java/lang/String", "equals", "(Ljava/lang/Object;)Z"⟩ : MethodName) len W (fun P a => a = #[.ref x, .ref y] ∧ P.U.heap = h ∧ P.cells + 0 ≤ R.cells ∧ P.slots + 0 ≤ R.slots)
      (fun P _ v B => ∃ L, (((v = some (.int 1) ∧ cs = ds) ∨ (v = some (.int 0) ∧ ¬ cs = ds)) ∧ L = [] ∧ B.U.heap = h) ∧ B.locs = P.locs ++ L ∧ B.cells = P.cells + 0 ∧ B.slots = P.slots + 0) := by
  intro m meth c P g ig mk a X hg hsize hdg hW hn hp'
  obtain ⟨rfl, rfl, r1, r2⟩ := hp'
  have al : Z.vm.Alike P.U.vm := hZ.alike.trans X.warmed.alike
  obtain ⟨A, hx⟩ := txt_of wi al E V C K hc hb l2
  obtain ⟨A', hy⟩ := txt_of wi al E' V' C' K' hc' hb' l2'
  obtain ⟨v, B, X', ⟨⟨w, hv, hh, hq⟩, hl, hk, hs⟩, st⟩ := SEq.pays x t A cd cs.length (fun j => cs.getD j 0) y t' A' cd' ds.length (fun j => ds.getD j 0) z (tabEq_of (movedEq hZ hw)) hfr hlo m meth c P g ig mk _ X hg hsize hdg hW hn ⟨r1, r2, rfl, hx, hy, sta_is al S, hz⟩
  refine ⟨v, B, X', ⟨[], ⟨?_, rfl, hh⟩, hl, hk, hs⟩, st⟩
  rcases hq with ⟨rfl, q⟩ | ⟨rfl, q⟩
  · exact Or.inl ⟨hv, (same_list cs ds).mp q⟩
  · exact Or.inr ⟨hv, fun e => q ((same_list cs ds).mpr e)⟩
end StrChars.Road
end Jvm.Pilot.@@N@@

namespace Jvm.Pilot.@@N@@
open Jvm Jvm.ClassFile Sem Op Lib Jvm.Free Jvm.Stand Jvm.LawKit Jvm.RoadKit Bundle Jvm.Pilot.@@N@@.Jvm.D
theorem own_selP {Z s : State} {args a0 : Array Value} {y : MethodName} {n : Nat} (hZ : Z.Warmed39 s.vm) (wi : (Jvm.Cond.instantiable y.cls n).before a0 Z = true) (wp : (Jvm.Cond.privateMethod y).before a0 Z = true) (wm : (Jvm.Cond.instanceMethod y).before a0 Z = true) (hy : y.cls ≠ "java/lang/invoke/MethodHandle" ∧ y.cls ≠ "java/lang/invoke/VarHandle") : (Jvm.Cond.selects y.cls y y).before args s = true := by
  obtain ⟨c, k, h1, h2, -, h3, -⟩ := Cond.instantiable_spec (mv (args := args) hZ wi)
  exact Jvm.Stand.selects_self_of_private h1 h2 (by simp only [Bool.or_eq_false_iff] at h3; exact h3.1) (Cond.privateMethod_at (mvP hZ wp (args := args))) (mv hZ wm) hy
theorem own_fitC {Z : State} {h : Heap} {a : Addr} {cl : Cell} {ty : FieldType} {vs : List Value} {dv : Value} (A : Arr Z h a cl ty) (H : Has cl vs dv) (G : ∀ i, i < cl.slots.size → fits ty (vs.getD i dv) = true) : FitC Z cl := fun i v hv => by
  obtain ⟨hi, -⟩ := Array.getElem?_eq_some_iff.mp hv
  obtain ⟨hs, k, hk, comp, hkind⟩ := A.2.1
  have e : Z.slotType? cl.cls .none i = some ty := by simp [State.slotType?, hk, hkind]
  have q := G i hi
  have hv' : v = vs.getD i dv := Option.some.inj (hv.symm.trans (H i hi))
  rw [State.fitsSlot, e, hv']
  exact q
theorem own_ibW {Z s : State} {vm₁ : Vm} {Ts : List String} (I : IB Z s.vm Ts) (h : s.WarmedH vm₁) : IB Z vm₁ Ts := by
  obtain ⟨more, q1, q2⟩ := I
  exact ⟨more, by rw [h.interned_eq]; exact q1, q2⟩
theorem own_litS {Z s : State} {vm₁ : Vm} {own : String} {i : Nat} {a : Addr} (L : Lit s own i a) (h : s.Warmed39 vm₁) : Lit (Z.setVm vm₁) own i a := State.resolvedAt?_warmed39 (s := s) h L
theorem own_litW {Z s : State} {vm₁ : Vm} {own : String} {i : Nat} {a : Addr} (L : Lit s own i a) (h : s.WarmedH vm₁) : Lit (Z.setVm vm₁) own i a := own_litS L h.wide
theorem own_backOfV {p : Program} {l : Launch} {e : Env} {R : Room} {s : State} {args : Array Value} {below : List Frame} {Z : State} {a0 : Array Value} {h : Heap} {y : MethodName} {bytes : ByteArray} {maxL : Nat} {ret : Option FieldType} {rm : Room} {len W : Nat} {as' : Array Value} {VP : Vm → Prop} {Q : Option Value → Heap → Vm → List Loc → Prop}
    (hM : MetFree l y (head1 [Jvm.Cond.code y bytes maxL ret] rm) (fun a U => a = as' ∧ Z.Warmed39 U.vm ∧ U.heap = h ∧ VP U.vm) (fun _ _ _ _ _ => True) (fun _ U o U' => ∃ v L, o = .returned v ∧ Q v U'.heap U'.vm L ∧ ReturnedEndW U o U' L rm.cells rm.slots))
    (hZ : Z.Warmed39 s.vm) (wc : (Jvm.Cond.code y bytes maxL ret).before a0 Z = true) (wz : (Jvm.Cond.initialized y.cls).before a0 Z = true) (hf : rm.frames + 1 ≤ R.frames) (hl : W + (maxL + 11) + rm.locals ≤ R.locals) :
    BackS l R p e below s args y len W (fun A a => a = as' ∧ A.U.heap = h ∧ VP A.U.vm ∧ A.cells + rm.cells ≤ R.cells ∧ A.slots + rm.slots ≤ R.slots)
      (fun A _ v B => ∃ L, Q v B.U.heap B.U.vm L ∧ B.locs = A.locs ++ L ∧ B.cells = A.cells + rm.cells ∧ B.slots = A.slots + rm.slots) := by
  refine BackS.of_freeW (bytes := bytes) (maxL := maxL) (ret := ret) (E := fun _ _ o t L k n => k = rm.cells ∧ n = rm.slots ∧ ∃ v, o = .returned v ∧ Q v t.heap t.vm L) hM hf hl ?_ ?_ (fun _ _ _ _ _ _ _ _ _ => trivial) ?_ ?_
  · intro m meth c A a Y hp
    have hU : Z.Warmed39 A.U.vm := wtrans hZ Y.warmed
    refine ⟨?_, mv hU wc, mv hU wz, hp.2.2.2.1, hp.2.2.2.2⟩
    show (Jvm.Cond.and _ .tt).before a A.U = true
    rw [Cond.before_and, mv hU wc]
    rfl
  · intro m meth c A a g mk Y hp
    exact ⟨hp.1, wtrans hZ Y.warmed, hp.2.1, hp.2.2.1⟩
  · rintro _ _ _ _ ⟨v, L, h1, h2, h3⟩
    exact ⟨L, _, _, h3, rfl, rfl, v, h1, h2⟩
  · rintro m meth c A a g mk v t L k n Y hp _ _ ⟨e1, e2, v', e3, e4⟩
    cases e3
    subst e1 e2
    exact ⟨L, e4, rfl, rfl, rfl⟩
theorem own_n0 {Z : State} {n0 : Nat} {h : Heap} (X : Old Z n0 h) : n0 ≤ h.size := X.1 ▸ X.2.1
/-- the run comes from U to an end of which P says enough -/
def Go (p : Program) (e : Env) (below : List Frame) (P : Outcome → State → Prop) (U : State) : Prop := ∃ s₂ o, Steps p.tables e below U s₂ ∧ s₂.status = .running ∧ Ended s₂ below o ∧ P o s₂
theorem Go.st {p : Program} {e : Env} {below : List Frame} {P : Outcome → State → Prop} {U V : State} (k : ∀ t, Steps p.tables e below V t → Steps p.tables e below U t) (g : Go p e below P V) : Go p e below P U := by
  obtain ⟨a, b, h, r⟩ := g
  exact ⟨a, b, k _ h, r⟩
theorem Go.tr {p : Program} {e : Env} {below : List Frame} {P : Outcome → State → Prop} {U V : State} (k : Steps p.tables e below U V) (g : Go p e below P V) : Go p e below P U := by
  obtain ⟨a, b, h, r⟩ := g
  exact ⟨a, b, k.trans h, r⟩
theorem Go.start {p : Program} {e : Env} {below : List Frame} {P : Outcome → State → Prop} {U V : State} (k : ∀ {t}, Steps p.tables e below V t → Steps p.tables e below U t) (g : Go p e below P V) : ∃ s₂ o, Steps p.tables e below U s₂ ∧ s₂.status = .running ∧ Ended s₂ below o ∧ P o s₂ := by
  obtain ⟨a, b, h, r⟩ := g
  exact ⟨a, b, k h, r⟩
theorem own_valI {args : Array Value} {s : State} {t : Term} {k : Int32} (h : (Cond.eq t (.int k)).value args s none s [] = some true) : t.eval args s none [] s = some (.int k) := by
  obtain ⟨x, y, h1, h2, h3, -⟩ := cmp_v (Or.inl h)
  have e2 : y = .int k := (Option.some.inj h2).symm
  subst e2
  cases x <;> simp [Kin, Value.isRef] at h3
  simp only [Cond.value, h1, h2] at h
  simp at h
  rw [h1, h]
theorem own_valJ {args : Array Value} {s : State} {t : Term} {k : Int64} (h : (Cond.eq t (.long k)).value args s none s [] = some true) : t.eval args s none [] s = some (.long k) := by
  obtain ⟨x, y, h1, h2, h3, -⟩ := cmp_v (Or.inl h)
  have e2 : y = .long k := (Option.some.inj h2).symm
  subst e2
  cases x <;> simp [Kin, Value.isRef] at h3
  simp only [Cond.value, h1, h2] at h
  simp at h
  rw [h1, h]
theorem own_eqR {args : Array Value} {s : State} {t u : Term} {a : Addr} (ev : t.eval args s none [] s = some (.ref a)) (h : (Cond.eq t u).value args s none s [] = some true) : u.eval args s none [] s = some (.ref a) := by
  obtain ⟨x, y, h1, h2, h3, -⟩ := cmp_v (Or.inl h)
  cases h1.symm.trans ev
  have hy : y.isRef = true := h3.2
  have q := gotT (eq_R h1 h2 rfl hy) h
  rw [h2, ← q]
theorem own_eqL {args : Array Value} {s : State} {t u : Term} {a : Addr} (ev : u.eval args s none [] s = some (.ref a)) (h : (Cond.eq t u).value args s none s [] = some true) : t.eval args s none [] s = some (.ref a) := by
  obtain ⟨x, y, h1, h2, -, h4⟩ := cmp_v (Or.inl h)
  cases h2.symm.trans ev
  have hx : x.isRef = true := h4.2
  have q := gotT (eq_R h1 h2 hx rfl) h
  rw [h1, q]
theorem own_elI {Z : State} {args : Array Value} {t : Term} {a : Addr} {cl : Cell} {ty : FieldType} {i k : Int32} (A : Arr Z Z.heap a cl ty) (ev : t.eval args Z none [] Z = some (.ref a)) (h : (Cond.eq (.elem t (.int i)) (.int k)).value args Z none Z [] = some true) : cl.slots[i.toNatClampNeg]? = some (.int k) := (elem_in (own_valI h) ev rfl A.1).2
theorem own_elJ {Z : State} {args : Array Value} {t : Term} {a : Addr} {cl : Cell} {ty : FieldType} {i : Int32} {k : Int64} (A : Arr Z Z.heap a cl ty) (ev : t.eval args Z none [] Z = some (.ref a)) (h : (Cond.eq (.elem t (.int i)) (.long k)).value args Z none Z [] = some true) : cl.slots[i.toNatClampNeg]? = some (.long k) := (elem_in (own_valJ h) ev rfl A.1).2
theorem own_elR {Z : State} {args : Array Value} {t u : Term} {a b : Addr} {cl : Cell} {ty : FieldType} {i : Int32} (A : Arr Z Z.heap a cl ty) (ev : t.eval args Z none [] Z = some (.ref a)) (eu : u.eval args Z none [] Z = some (.ref b)) (h : (Cond.eq (.elem t (.int i)) u).value args Z none Z [] = some true) : cl.slots[i.toNatClampNeg]? = some (.ref b) := (elem_in (own_eqL eu h) ev rfl A.1).2
theorem own_arv {Z : State} {args : Array Value} {t : Term} {a : Addr} {cl : Cell} {ty : FieldType} {z : Int32} {vs : List Value} {dv : Value} (hf : Fit Z) (A : Arr Z Z.heap a cl ty) (ev : t.eval args Z none [] Z = some (.ref a)) (h : (Cond.eq (.length t) (.int z)).value args Z none Z [] = some true) (hz : ¬ z < 0) (hl : z.toNatClampNeg = vs.length) (H : HasL cl 0 vs) : Arv Z Z.heap a cl.cls ty z vs dv := by
  have hv := own_valI h
  have hA : Z.arrayAt? a = some cl := A.fin (Vm.Alike.refl _)
  have q : cl.slots.size < 2 ^ 31 := by
    simp only [Term.eval, ev, hA] at hv
    by_cases hq : cl.slots.size < 2 ^ 31
    · exact hq
    · simp [hA, hq] at hv
  have e : cl.slots.size.toInt32 = z := by
    have := len_f (args := args) (first := Z) (o := none) (idx := []) ev hA q
    rw [this] at hv
    exact Value.int.inj (Option.some.inj hv)
  exact Arv.start hf A q e hz hl H
theorem own_neI {args : Array Value} {s : State} {t : Term} {x k : Int32} (ev : t.eval args s none [] s = some (.int x)) (h : (Cond.not (Cond.eq t (.int k))).value args s none s [] = some true) : ¬ (x = k) := by
  have h' := not_v h
  intro e
  subst e
  simp [Cond.value, ev, Term.eval] at h'
theorem own_gm (zs : List Int32) (i : Nat) : (zs.map Value.int).getD i (.int (0 : Int32)) = .int (zs.getD i 0) := by
  simp only [List.getD_eq_getElem?_getD, List.getElem?_map]
  cases zs[i]? <;> rfl
/-- nn of ys laid at dp into xs -/
def own_put (xs ys : List Int32) (dp nn : Nat) : List Int32 := xs.take dp ++ ((List.range nn).map fun i => ys.getD i 0) ++ xs.drop (dp + nn)
theorem own_putM (xs ys : List Int32) (dp nn sp : Nat) (h : sp = 0) : (xs.map Value.int).take dp ++ ((List.range nn).map fun i => (ys.map Value.int).getD (sp + i) (.int (0 : Int32))) ++ (xs.map Value.int).drop (dp + nn) = (own_put xs ys dp nn).map Value.int := by
  subst h
  simp only [own_put, List.map_append, List.map_take, List.map_drop, List.map_map, Nat.zero_add]
  congr 2
  refine List.map_congr_left fun i _ => ?_
  exact own_gm ys i
theorem own_putL {xs ys : List Int32} {dp nn : Nat} (h : dp + nn ≤ xs.length) : (own_put xs ys dp nn).length = xs.length := by
  simp only [own_put, List.length_append, List.length_take, List.length_map, List.length_range, List.length_drop]
  omega
theorem own_cn {a : Int32} (h : ¬ a < 0) : (a.toNatClampNeg : Int) = a.toInt := by
  rw [Int32.lt_iff_toInt_lt] at h
  have e : (0 : Int32).toInt = 0 := rfl
  rw [e] at h
  show ((a.toInt.toNat : Nat) : Int) = a.toInt
  omega
theorem own_cl2 {a b z : Int32} (ha : ¬ a < 0) (hb : ¬ b < 0) (hz : ¬ z < 0) (h : a.toInt + b.toInt ≤ z.toInt) : a.toNatClampNeg + b.toNatClampNeg ≤ z.toNatClampNeg := by
  have h1 := own_cn ha
  have h2 := own_cn hb
  have h3 := own_cn hz
  omega
theorem own_cl0 {n z : Int32} (hn : ¬ n < 0) (h : ¬ z < n) : (0 : Int32).toNatClampNeg + n.toNatClampNeg ≤ z.toNatClampNeg := by
  have hz : ¬ z < 0 := fun q => by
    rw [Int32.lt_iff_toInt_lt] at *
    have e : (0 : Int32).toInt = 0 := rfl
    omega
  refine own_cl2 (by decide) hn hz ?_
  rw [Int32.lt_iff_toInt_lt] at h
  have e : (0 : Int32).toInt = 0 := rfl
  omega
theorem own_cl3 {a b z : Int32} (ha : ¬ a < 0) (hb : ¬ b < 0) (hz : ¬ z < 0) (h1 : ¬ (1000000 : Int32) < a) (h2 : ¬ (1000000 : Int32) < b) (h : ¬ z < a + b) : a.toNatClampNeg + b.toNatClampNeg ≤ z.toNatClampNeg := by
  refine own_cl2 ha hb hz ?_
  rw [Int32.lt_iff_toInt_lt] at ha hb h1 h2 h
  have e : (0 : Int32).toInt = 0 := rfl
  have e2 : (1000000 : Int32).toInt = 1000000 := rfl
  rw [Int32.toInt_add] at h
  rw [e] at ha hb
  rw [e2] at h1 h2
  rw [Int.bmod_eq_of_le (by omega) (by omega)] at h
  omega
theorem own_hi' {zs : List Int32} {n j : Int32} (L : zs.length = n.toNatClampNeg) (h1 : ¬ j < 0) (h2 : j < n) : j.toNatClampNeg < (zs.map Value.int).length := by
  rw [List.length_map, L]
  have hn : ¬ n < 0 := fun q => by
    rw [Int32.lt_iff_toInt_lt] at *
    omega
  have a := own_cn h1
  have b := own_cn hn
  rw [Int32.lt_iff_toInt_lt] at h2
  omega
theorem own_setM (zs : List Int32) (i : Nat) (v : Int32) : (zs.map Value.int).set i (.int v) = (zs.set i v).map Value.int := by rw [List.map_set]
theorem own_rp (k : Nat) : ∀ i, ((List.replicate k (0 : Int32)).map Value.int).getD i (.int (0 : Int32)) = ([] : List Value).getD i (.int (0 : Int32)) := fun i => by
  rw [own_gm]
  simp only [List.getD_eq_getElem?_getD, List.getElem?_replicate, List.getElem?_nil, Option.getD_none]
  split <;> rfl
theorem own_cap {z : Int32} (n : Nat) (k : Int32) (hk : k.toNatClampNeg = n) (h0 : ¬ z < 0) (h : ¬ k < z) : z.toNatClampNeg ≤ n := by
  subst hk
  have hk0 : ¬ k < 0 := fun q => by
    rw [Int32.lt_iff_toInt_lt] at *
    omega
  have a := own_cn h0
  have b := own_cn hk0
  rw [Int32.lt_iff_toInt_lt] at h
  omega

theorem own_selP2 {Z s : State} {args a0 : Array Value} {y : MethodName} {C : String} (hZ : Z.Warmed39 s.vm) (ws : (Jvm.Cond.selects C y y).before a0 Z = true) (wp : (Jvm.Cond.privateMethod y).before a0 Z = true) (wm : (Jvm.Cond.instanceMethod y).before a0 Z = true) (hy : y.cls ≠ "java/lang/invoke/MethodHandle" ∧ y.cls ≠ "java/lang/invoke/VarHandle") : (Jvm.Cond.selects y.cls y y).before args s = true := by
  have wm' : (Jvm.Cond.instanceMethod y).before args s = true := mv hZ wm
  obtain ⟨mk, meth, hn, -⟩ := Cond.instanceMethod_spec wm'
  obtain ⟨k, hk, hki⟩ := notFace_of_selects (args := args) (mv hZ ws) _ hn
  exact Jvm.Stand.selects_self_of_private (findClass_of_methodNamed hn) hk hki (Cond.privateMethod_at (mvP hZ wp (args := args))) wm' hy
theorem own_nf {s : State} {args : Array Value} {y z : MethodName} {C : String} (ws : (Jvm.Cond.selects C z z).before args s = true) (hz : z.cls = y.cls) : NotFace s y := fun r0 h0 => by
  obtain ⟨_, _, m2, -, -, q3, -, k, hk, hki⟩ := Cond.selects_spec ws
  have h2 := findClass_of_methodNamed q3
  rw [hz] at h2
  have e : r0.cls = m2.cls := Option.some.inj ((findClass_of_methodNamed h0).symm.trans h2)
  exact ⟨k, by rw [e]; exact hk, hki⟩
theorem own_sameM {Z : State} {a0 : Array Value} {y z : MethodName} {C : String} (wm : (Jvm.Cond.instanceMethod y).before a0 Z = true) (ws : (Jvm.Cond.selects C z z).before a0 Z = true) (hz : z.cls = y.cls) (hy : y.cls ≠ "java/lang/invoke/MethodHandle" ∧ y.cls ≠ "java/lang/invoke/VarHandle") : (Jvm.Cond.sameMethod y.cls y.cls y.name y.desc).before a0 Z = true := by
  obtain ⟨mk, meth, hn, -⟩ := Cond.instanceMethod_spec wm
  obtain ⟨_, _, m2, -, -, q3, -, k, hk, hki⟩ := Cond.selects_spec ws
  have h1 := findClass_of_methodNamed hn
  have h2 := findClass_of_methodNamed q3
  rw [hz] at h2
  have e : mk.cls = m2.cls := Option.some.inj (h1.symm.trans h2)
  have hf : Z.methodFound? y.cls y.name y.desc = some mk := State.methodFound?_of_named hn hy
  have hn' : Z.methodNamed? ⟨y.cls, y.name, y.desc⟩ = some mk := hn
  have hk' : Z.vm.classes[mk.cls]? = some k := by rw [e]; exact hk
  simp [Cond.before, Cond.holds, Cond.value, h1, hf, hn', hk', hki]
open Jvm.Free.Exc in
/-- the words on Throwable that this sheet has -/
def own_TW (rc : String) : List Jvm.Cond := [.initialized tN, .superclass tN "java/lang/Object", .instanceMethod tFill, .codeSync tFill LibCode.Throwable.Fill.code 1 (some (.object tN)), .instanceMethod tFill0, .native tFill0,
  .instanceMethod oInit, .code oInit object_method_1_code 1 none, .methodLink tN 1 oInit, .methodLink tN 27 tFill, .methodLink tN 202 tFill0,
  .fieldLink tN 7 tN "cause" "Ljava/lang/Throwable;", .lays rc tN "cause" "Ljava/lang/Throwable;", .fieldLink tN 17 tN "stackTrace" steD, .lays rc tN "stackTrace" steD, .fieldLink tN 24 tN "suppressedExceptions" listD, .lays rc tN "suppressedExceptions" listD,
  .fieldLink tN 13 tN "UNASSIGNED_STACK" steD, .laysStatic tN "UNASSIGNED_STACK" steD, .fieldLink tN 20 tN "SUPPRESSED_SENTINEL" listD, .laysStatic tN "SUPPRESSED_SENTINEL" listD, .lays rc tN "detailMessage" "Ljava/lang/String;",
  .fieldLink tN 198 tN "backtrace" "Ljava/lang/Object;", .lays rc tN "backtrace" "Ljava/lang/Object;", .lays rc tN "depth" "I", .arrayOver (.object "java/lang/Object"), .soleField tN "backtrace", .soleField tN "depth", .selects rc tFill0 tFill0, .declares tFill, .selects rc tFill tFill]
theorem own_TWok {rc : String} : (own_TW rc).all xOk = true := rfl
section ExcOwn
open Jvm.Free.Exc
theorem own_T {args : Array Value} {s : State} {pl : Platform} {rc : String} {cR : ClassId} {kR : Class} (ho : pl.frameOwnsMonitors = true) (hf : pl.finalization = false) (hp : pl.magicAccessors = ({} : Platform).magicAccessors)
    (W : ∀ d ∈ own_TW rc, d.before args s = true) (hR : s.vm.findClass rc = some cR) (hkR : s.vm.classes[cR]? = some kR) : ∃ T : ThrowableC, T.Links pl s ∧ s.vm.findClass tN = some T.cT ∧ s.methodNamed? tFill = some T.fill ∧ s.methodNamed? tFill0 = some T.fill0 ∧
      s.fieldFound? tN "stackTrace" steD = some (T.cT, T.kT, T.i17, T.fStack) ∧ s.fieldFound? tN "UNASSIGNED_STACK" steD = some (T.cT, T.kT, T.i13, T.fUnassigned) ∧ T.fStack.type = .array (.object "java/lang/StackTraceElement") := by
  have w : ∀ (i : Nat) (d : Jvm.Cond), (own_TW rc)[i]? = some d → d.holds args s none s [] = true := fun i d h => W d (List.mem_of_getElem? h)
  -- the native and its class
  obtain ⟨⟨c, iN⟩, mN, n1, n2, n3, n4, n5, n6⟩ := Cond.native_spec (w 5 (.native tFill0) rfl)
  have hc : s.vm.findClass tN = some c := findClass_of_methodNamed n1
  obtain ⟨k, hk, hnm⟩ := Vm.findClass_spec hc
  obtain ⟨_, k', _, -, z1, -, -, -, -, z2⟩ := Cond.superclass_spec hc (w 1 (.superclass tN "java/lang/Object") rfl)
  cases hk.symm.trans z1
  obtain ⟨iN', mN', p1, p2, p3, p4, p5, p6, p7⟩ := Cond.ownMethod (x := tFill0) hc hk (w 4 (.instanceMethod tFill0) rfl)
  cases n1.symm.trans p1
  cases n2.symm.trans p2
  -- the method
  obtain ⟨iF, mF, f1, f2, f3, f4, f5, -, -⟩ := Cond.ownMethod (x := tFill) hc hk (w 2 (.instanceMethod tFill) rfl)
  obtain ⟨mF', cF, f6, f7, f8, f9, f10, f11, -, f12⟩ := Cond.codeSync_spec f1 (w 3 (.codeSync tFill LibCode.Throwable.Fill.code 1 (some (.object tN))) rfl)
  cases f2.symm.trans f6
  -- Object's constructor
  obtain ⟨mo, mO, o1, o2, o3, o4⟩ := Cond.instanceMethod_spec (w 6 (.instanceMethod oInit) rfl)
  obtain ⟨mO', cO, o5, o6, o7, o8, -, o9, -, o10⟩ := Cond.code_spec o1 (w 7 (.code oInit object_method_1_code 1 none) rfl)
  cases o2.symm.trans o5
  obtain ⟨kO, o11, o12⟩ := Vm.findClass_spec (findClass_of_methodNamed o1)
  obtain ⟨o13, o14⟩ := name_of_methodNamed o1 o2
  -- the pool's methods
  obtain ⟨a1, b1, cf, l1, r1, x1, y1⟩ := Cond.linkedMethod hc hk o1 (w 8 (.methodLink tN 1 oInit) rfl) pl hp
  obtain ⟨a2, b2, cf2, l2, r2, x2, y2⟩ := Cond.linkedMethod hc hk f1 (w 9 (.methodLink tN 27 tFill) rfl) pl hp
  obtain ⟨a3, b3, cf3, l3, r3, x3, y3⟩ := Cond.linkedMethod hc hk n1 (w 10 (.methodLink tN 202 tFill0) rfl) pl hp
  cases x1.symm.trans x2
  cases x1.symm.trans x3
  -- its fields
  obtain ⟨u1, j1, g1, q1⟩ := Cond.ownField (t := .object tN) hc hk (by decide +kernel) (w 11 (.fieldLink tN 7 tN "cause" "Ljava/lang/Throwable;") rfl) (w 12 (.lays rc tN "cause" "Ljava/lang/Throwable;") rfl) pl hp
  obtain ⟨u2, j2, g2, q2⟩ := Cond.ownField (t := .array (.object "java/lang/StackTraceElement")) hc hk (by decide +kernel) (w 13 (.fieldLink tN 17 tN "stackTrace" steD) rfl) (w 14 (.lays rc tN "stackTrace" steD) rfl) pl hp
  obtain ⟨u3, j3, g3, q3⟩ := Cond.ownField (t := .object "java/util/List") hc hk (by decide +kernel) (w 15 (.fieldLink tN 24 tN "suppressedExceptions" listD) rfl) (w 16 (.lays rc tN "suppressedExceptions" listD) rfl) pl hp
  obtain ⟨u4, j4, g4, aS, cS, q4⟩ := Cond.ownStatic (t := .array (.object "java/lang/StackTraceElement")) hc hk (by decide +kernel) (w 17 (.fieldLink tN 13 tN "UNASSIGNED_STACK" steD) rfl) (w 18 (.laysStatic tN "UNASSIGNED_STACK" steD) rfl) pl hp
  obtain ⟨u5, j5, g5, aS', cS', q5⟩ := Cond.ownStatic (t := .object "java/util/List") hc hk (by decide +kernel) (w 19 (.fieldLink tN 20 tN "SUPPRESSED_SENTINEL" listD) rfl) (w 20 (.laysStatic tN "SUPPRESSED_SENTINEL" listD) rfl) pl hp
  obtain ⟨_, _, _, _, _, g6, -, -, -, m1, m2, -⟩ := Cond.lays_spec (w 21 (.lays rc tN "detailMessage" "Ljava/lang/String;") rfl)
  obtain ⟨-, d2, t1, t2⟩ := Cond.laysAt hR hkR q2.2.2.2.2.2.2.2 (w 14 (.lays rc tN "stackTrace" steD) rfl)
  obtain ⟨-, d3, t3, t4⟩ := Cond.laysAt hR hkR q3.2.2.2.2.2.2.2 (w 16 (.lays rc tN "suppressedExceptions" listD) rfl)
  have hap : g2.slot ≠ g3.slot := Cond.laysApart t1 t3 t2 t4 (by rw [q2.2.2.2.2.2.1, q3.2.2.2.2.2.1]; decide)
  have e1 : mF.sig.parameters = [] := by
    have : (parseMethodDescriptor tFill.desc).map (·.parameters) = some [] := by decide +kernel
    rw [f12] at this; simpa using this
  have e2 : mN.sig.parameters = [.int] := by
    have : (parseMethodDescriptor tFill0.desc).map (·.parameters) = some [.int] := by decide +kernel
    rw [n6] at this; simpa using this
  have e3 : mO.sig.parameters = [] := by
    have : (parseMethodDescriptor oInit.desc).map (·.parameters) = some [] := by decide +kernel
    rw [o10] at this; simpa using this
  refine ⟨{ cT := c, kT := k, cO := c, aS := aS, fillIdx := iF, fill0Idx := iN, initSIdx := iF, obj := mo, kObj := kO, methFill := mF, methFill0 := mN, methInitS := mF, methObj := mO, codeFill := cF, codeInitS := cF, codeObj := cO,
              fBack := g1, fDepth := g1, fStack := g2, fCause := g1, fSupp := g3, fMsg := g6, fUnassigned := g4, fSentinel := g5, cfT := cf, ci1 := a1, n1 := b1, ci27 := a2, n27 := b2, ci202 := a3, n202 := b3,
              ci7 := u1, i7 := j1, ci13 := u4, i13 := j4, ci17 := u2, i17 := j2, ci20 := u5, i20 := j5, ci24 := u3, i24 := j3 }, ?_, hc, f1, n1, q2.2.2.2.2.2.2.2, q4.2.2.2.2.2.2.2.2.2.2.2, q2.2.2.2.2.2.2.1⟩
  exact { owns := ho, noFinalization := hf, cls := hk, name := hnm, boot := Vm.findClass_boot hc hk, notInterface := z2, initialized := Cond.initialized_spec hc hk (w 0 (.initialized tN) rfl), statics := q4.2.2.2.2.2.2.1,
          fillAt := f3, fillCode := f7, fillBytes := f8, fillLocals := f9, fillLocks := f11, fillStatic := f4, fillAbstract := f5, fillReturns := f10, fillParams := e1,
          fill0At := p3, fill0Name := p6, fill0Desc := p7, fill0Params := e2, fill0Static := p4, fill0Native := n3, fill0Code := n4, fill0Locks := n5, fill0Abstract := p5,
          stackInstance := q2.2.2.2.1, stackNotFinal := q2.2.2.2.2.1, unassignedStatic := q4.2.2.2.1,
          objClass := o11, objClassName := o12, objMethod := o2, objName := o13, objStatic := o3, objAbstract := o4, objFound := by rw [o14]; exact lookupSpecial_of_named o1 o2 o3, objParams := by rw [e3]; rfl,
          objCode := o6, objBytes := o7, objLocks := o9, causeInstance := q1.2.2.2.1, causeNotFinal := q1.2.2.2.2.1, sentinelStatic := q5.2.2.2.1, suppInstance := q3.2.2.2.1, suppNotFinal := q3.2.2.2.2.1, msgInstance := m1, msgNotFinal := m2, stackApartSupp := hap,
          file := x1, mlink1 := l1, mright1 := r1, pool1 := y1, mlink27 := l2, mright27 := r2, pool27 := y2, mlink202 := l3, mright202 := r3, pool202 := y3,
          link7 := q1.1, right7 := q1.2.1, at7 := q1.2.2.1, link13 := q4.1, right13 := q4.2.1, at13 := q4.2.2.1, link17 := q2.1, right17 := q2.2.1, at17 := q2.2.2.1, link20 := q5.1, right20 := q5.2.1, at20 := q5.2.2.1, link24 := q3.1, right24 := q3.2.1, at24 := q3.2.2.1 }
theorem own_slot {Z : State} {O n d : String} {cf : ClassId} {k : Class} {i : Nat} {f : Field} (h : Z.fieldFound? O n d = some (cf, k, i, f)) : Jvm.RoadKit.slotOf Z O n d = f.slot := by simp [Jvm.RoadKit.slotOf, h]
theorem own_ff {Z s : State} (hal : Z.vm.Alike s.vm) {O n d : String} {cf : ClassId} {k : Class} {i : Nat} {f : Field} (h : Z.fieldFound? O n d = some (cf, k, i, f)) {c' : ClassId} {k' : Class} {i' : Nat} {f' : Field} (h' : s.fieldFound? O n d = some (c', k', i', f')) : f = f' ∧ k'.statics = k.statics := by
  obtain ⟨k4, q3, q4⟩ := State.fieldFound?_setVm (s := Z) hal h
  have q5 : s.fieldFound? O n d = some (cf, k4, i, f) := q3
  have q6 := Option.some.inj (q5.symm.trans h')
  simp only [Prod.mk.injEq] at q6
  obtain ⟨-, e2, -, e4⟩ := q6
  exact ⟨e4, by rw [← e2, q4]⟩
/-- fillInStackTrace() at a call, in a body whose writes so far lie in the receiver alone -/
theorem own_fill {p : Program} {l : Launch} {e : Env} {R : Room} {s : State} {m : MethodId} {args : Array Value} {below : List Frame} {meth : Method} {c : Code} {T : State} {locs : List Loc} {cells slots : Nat} {Z : State} {a0 : Array Value} {h h0 : Heap}
    (X : Stand p l e R s m args below meth c T locs cells slots) (hx : p.tables.exec = Jvm.exec) (hl : l.stackTraces = true) (hZ : Z.Warmed39 s.vm) (hown : s.vm.findClass tN = some m.cls) {rc : String} {n : Nat} (W : ∀ d ∈ own_TW rc, d.before a0 Z = true) (wi : (Cond.instantiable rc n).before a0 Z = true)
    (hT0 : ThS Z s.heap) (hTK : s.vm.MethodsKnown) (hB : s.vm.FramesKnown below) (eT : T.heap = h) {a : Addr} (E : Exa Z h a rc) (N : Unt h a) (B : Fld Z h a tN "backtrace" "Ljava/lang/Object;" .null) {u : Value} (hu : u.isRef = true) (F : Fld Z h a tN "stackTrace" steD u) (S : Sta Z h tN "UNASSIGNED_STACK" steD u)
    (es : s.heap = h0) (K0 : Keep h0 h [a]) (hsz : h.size = h0.size) (hb : ∀ y ∈ locs, y.base = a)
    {g : JFrame} (hg : g.method = m) (hsize : g.locals.size = c.maxLocals) {rest : List Value} (hs : g.stack = .ref a :: rest) (hd : decode c.code g.pc = .ok (.invokevirtual 27, 3)) (hf : 3 ≤ R.frames) {V : Nat} (hW : 2 * g.monitorRoom + (rest.map fun v => v.category).sum ≤ V) (hlo : V + 42 ≤ R.locals) (hcl : cells + 1 ≤ R.cells) (hsl : slots + 2752 ≤ R.slots) :
    ∃ (T' : State) (h' : Heap) (L : List Loc), Stand p l e R s m args below meth c T' (locs ++ L) (cells + 1) (slots + 2752) ∧ T'.heap = h' ∧ (∀ y ∈ L, y.base = a) ∧ Keep h h' [a] ∧
      (∀ {O n d : String} {v : Value}, Fld Z h a O n d v → Jvm.RoadKit.slotOf Z tN "backtrace" "Ljava/lang/Object;" ≠ Jvm.RoadKit.slotOf Z O n d → Jvm.RoadKit.slotOf Z tN "depth" "I" ≠ Jvm.RoadKit.slotOf Z O n d → Jvm.RoadKit.slotOf Z tN "stackTrace" steD ≠ Jvm.RoadKit.slotOf Z O n d → Fld Z h' a O n d v) ∧
      ∀ target, Steps p.tables e below (T'.setTop { g with pc := g.pc + 3, stack := .ref a :: rest }) target → Steps p.tables e below (T.setTop g) target := by
  have hal : Z.vm.Alike s.vm := hZ.alike
  have htr : e.platform.stackTraces = true := by rw [X.admits.platform]; exact hl
  have ho : e.platform.frameOwnsMonitors = true := by rw [X.admits.platform]
  have hfi : e.platform.finalization = false := by rw [X.admits.platform]
  have hpl : e.platform.magicAccessors = ({} : Platform).magicAccessors := by rw [X.admits.platform]
  have Ws : ∀ d ∈ own_TW rc, d.before args s = true := fun d q => mvX hT0 hZ (List.all_eq_true.mp own_TWok d q) (W d q)
  have w : ∀ (i : Nat) (d : Jvm.Cond), (own_TW rc)[i]? = some d → d.holds args s none s [] = true := fun i d q => Ws d (List.mem_of_getElem? q)
  have EE := E
  obtain ⟨cell, k, e1, e2, e3, -, e5⟩ := E
  obtain ⟨_, u1, u2, u3⟩ := N
  cases e1.symm.trans u1
  obtain ⟨ci, ki, i1, i2, i3, -⟩ := Cond.instantiable_spec wi
  cases e2.symm.trans i1
  cases e3.symm.trans i2
  have hR : s.vm.findClass rc = some cell.cls := by rw [hal.findClass]; exact e2
  obtain ⟨kX, hkX, ekX⟩ := hal.2.2 _ _ e3
  have hord : kX.kind = .ordinary := by rw [ekX]; exact i3
  have hcs : cell.slots.size = kX.instanceTypes.size := by rw [ekX]; exact e5 i3
  obtain ⟨Tt, L, t1, t2, t3, t4, t5, t6⟩ := own_T (args := args) (pl := e.platform) ho hfi hpl Ws hR hkX
  -- stackTrace and the static
  obtain ⟨_, cf, kf, i, f, b1, b2, b3, b4, b5, b6, b7⟩ := F
  cases e1.symm.trans b1
  obtain ⟨ef, -⟩ := own_ff (s := s) hal b2 t4
  rw [ef] at b7
  obtain ⟨cf', i', k', f', st, cS, z1, z2, z3, z4, z5, z6, z7⟩ := S
  obtain ⟨ef', est⟩ := own_ff (s := s) hal z1 t5
  rw [ef'] at z7
  obtain rfl : st = Tt.aS := Option.some.inj ((z4.symm.trans est.symm).trans L.statics)
  have hne : Tt.aS ≠ a := fun q => by
    rw [q] at z5
    cases e1.symm.trans z5
    rw [u2] at z6
    cases z6
  -- backtrace and depth
  obtain ⟨c8, i8, fB, v1, v2, v3, v4, -, v6, v7, v8⟩ := Cond.ownField (t := .object "java/lang/Object") t1 L.cls (by decide +kernel) (w 22 (.fieldLink tN 198 tN "backtrace" "Ljava/lang/Object;") rfl) (w 23 (.lays rc tN "backtrace" "Ljava/lang/Object;") rfl) e.platform hpl
  obtain ⟨_, cb, kb, ib, fb, B1, B2, -, -, -, -, B7⟩ := B
  cases e1.symm.trans B1
  obtain ⟨eB, -⟩ := own_ff (s := s) hal B2 v8
  rw [eB] at B7
  obtain ⟨_, _, cD, kD, iD, fD, -, -, D1, D2, -⟩ := Cond.lays_spec (w 24 (.lays rc tN "depth" "I") rfl)
  cases (Cond.lays_declared (w 24 (.lays rc tN "depth" "I") rfl) D1).symm.trans t1
  obtain ⟨D3, D4⟩ := State.fieldFound?_spec D1
  cases D3.symm.trans L.cls
  obtain ⟨D5, D6⟩ := State.fieldFound?_type D1 (t := .int) (by decide +kernel)
  have hfb := Cond.soleField_find t1 L.cls (w 26 (.soleField tN "backtrace") rfl) v3 v6 v4
  have hfd := Cond.soleField_find t1 L.cls (w 27 (.soleField tN "depth") rfl) D4 D5 D2
  obtain ⟨comp, cO, kO, -, -, hkO, hkindO, hO⟩ := Cond.arrayOver_spec (w 25 (.arrayOver (.object "java/lang/Object")) rfl)
  have tk : ∀ {f : Field} {v : Value}, kX.instanceTypes[f.slot]? = some f.type → fits f.type v = true → Jvm.Takes s cell f v := fun {f v} q1 q2 => by
    have h1 := (Array.getElem?_eq_some_iff.mp q1).1
    exact ⟨by rw [hcs]; exact h1, by simp [State.fitsSlot, State.slotType?, hkX, hord, u2, q1, q2]⟩
  have tyS := (Cond.laysAt hR hkX t4 (w 14 (.lays rc tN "stackTrace" steD) rfl)).1
  have tyB := (Cond.laysAt hR hkX v8 (w 23 (.lays rc tN "backtrace" "Ljava/lang/Object;") rfl)).1
  have tyD := (Cond.laysAt hR hkX D1 (w 24 (.lays rc tN "depth" "I") rfl)).1
  have hsel : selectMethod e.platform s.vm cell.cls Tt.fill0 = .method Tt.fill0 := by
    obtain ⟨_, _, _, s1, s2, s3, s4, -⟩ := Cond.selects_spec (w 28 (.selects rc tFill0 tFill0) rfl)
    cases s1.symm.trans hR
    cases s2.symm.trans (State.methodFound?_of_named t3 (by decide))
    cases s3.symm.trans t3
    rw [Launch.admits_selectMethod X.admits]; exact s4
  obtain ⟨cB, kB, qa, -, qc⟩ := isOf hZ eT EE
  have hSE : (Cond.selects rc tFill tFill).before args s = true := Ws _ (List.mem_of_getElem? (i := 30) rfl)
  obtain ⟨v9, _, ⟨T6, L6, c6, n6⟩, -, X6, ⟨hv, C6, nn, hn, hD6, y1, y2, y3, y4, yL, yc, yn⟩, come⟩ := X.virtualBack hx (own := tN) (C := rc) (index := 27) (y := tFill) (z := tFill) hown (Ws _ (List.mem_of_getElem? (i := 9) rfl)) (Ws _ (List.mem_of_getElem? (i := 29) rfl)) (notFace_of_selects hSE) hSE (Ws _ (List.mem_of_getElem? (i := 2) rfl)) (by decide)
    (fillPaysAny (l := l) (W := V) hx htr Tt L t2 (u0 := ⟨u, hu⟩) (self := a) (cell := cell) (cellS := cS) (fun _ => by rw [u2]; simp) (by rw [u2]; simp) (by rw [u3]) (by rw [u3]) b7 hsel hne (fun q => by rw [q] at z6; cases z6) z7 (tk tyS (by rw [t6]; exact fits_refV_array _ ⟨u, hu⟩))
      ⟨{ ci198 := c8, i198 := i8, fBack := fB }, ⟨v1, v2, v3, v4⟩, B7⟩ hTK hB t1 hO hkO hkindO hfb hfd (fun x => tk tyB (by rw [v7]; rfl)) (fun x => tk tyD (by rw [D6]; rfl)) (by omega) hlo)
    qa qc (g := g) hg hsize (Steps.refl _) (argsL := []) (rest := rest)
    (fun sig q => by rw [show parseMethodDescriptor tFill.desc = some ⟨[], some (.object tN)⟩ from by decide +kernel] at q; rw [← Option.some.inj q]; rfl) hs hW hd
    (fun vm₁ _ => ⟨rfl, hcl, hsl, by show T.heap[a]? = _; rw [eT]; exact e1, by show T.heap[Tt.aS]? = _; rw [eT]; exact z5⟩)
  dsimp only [Pt.U, Pt.locs, Pt.cells, Pt.slots] at X6 hD6 yL yc yn come
  subst hv yL yc yn
  have hLb : ∀ y ∈ locs ++ ([⟨a, fB.slot⟩, ⟨a, fD.slot⟩, ⟨a, Tt.fStack.slot⟩] : List Loc), y.base = a := fun y q => by
    rcases List.mem_append.mp q with q | q
    · exact hb y q
    · simp only [List.mem_cons, List.not_mem_nil, or_false] at q
      rcases q with rfl | rfl | rfl <;> rfl
  have other : ∀ (x : Addr) (cl : Cell), h[x]? = some cl → x ≠ a → T6.heap[x]? = some cl := fun x cl q qn => by
    have hlt : x < s.heap.size := by rw [es, ← hsz]; exact (Array.getElem?_eq_some_iff.mp q).1
    have q0 : s.heap[x]? = some s.heap[x] := Array.getElem?_eq_getElem hlt
    have q1 := K0.2.1 x _ (by rw [← es]; exact q0) (by simpa using qn)
    have q2 : cl = s.heap[x] := Option.some.inj (q.symm.trans q1)
    obtain ⟨c', r1, r2, -, r4⟩ := X6.same.2.2.2.2.2 x _ q0
    have hsl : c'.slots = s.heap[x].slots := Array.ext_getElem? fun i => r4 i fun hm => qn (hLb _ hm)
    have hcc : c' = s.heap[x] := by rw [r2, hsl]
    rw [q2, ← hcc]; exact r1
  refine ⟨T6, T6.heap, _, X6.more (Nat.le_refl _) (Nat.add_le_add_left hn _), rfl, fun y q => hLb y (List.mem_append_right _ q), ⟨?_, fun x cl q qn => other x cl q (by simpa using qn), fun x cl q => ?_⟩, fun {O n d v} G g1 g2 g3 => ?_, fun target q => come.trans q⟩
  · rw [hsz, ← es]; exact X6.same.2.1
  · by_cases hxa : x = a
    · subst hxa
      cases e1.symm.trans q
      exact ⟨C6, hD6, y1, y2, y3⟩
    · exact ⟨cl, other x cl q hxa, rfl, rfl, rfl⟩
  · obtain ⟨_, c1, k1, i1, f1, G1, G2, G3, G4, G5, G6, G7⟩ := G
    cases e1.symm.trans G1
    rw [own_slot G2] at g1 g2 g3
    rw [own_slot B2, eB] at g1
    rw [own_slot b2, ef] at g3
    have D1' : Jvm.RoadKit.slotOf Z tN "depth" "I" = fD.slot := by
      obtain ⟨k4, q3, -⟩ := State.fieldFound?_setVm (s := s) hal.symm D1
      have q4 : Z.fieldFound? tN "depth" "I" = some (Tt.cT, k4, iD, fD) := q3
      exact own_slot q4
    rw [D1'] at g2
    exact ⟨C6, c1, k1, i1, f1, hD6, G2, G3, by rw [y2]; exact G4, by rw [y2]; exact G5, by rw [y1]; exact G6, (y4 _ (Ne.symm g1) (Ne.symm g2) (Ne.symm g3)).trans G7⟩
end ExcOwn
theorem own_chW {s : State} {Z : State} {a0 : Array Value} {EL : List (String × Nat)} {h : Heap} {vm₁ : Vm} (hZ : Z.Warmed39 s.vm) (w : EW Z a0 EL) (hw : s.WarmedH vm₁) (H : CHv Z EL s.vm h) : CHr Z EL s.vm h vm₁ h := by
  have q := CHv.later (h' := h) hZ (hW := (show (Wst Z s.vm h).Warmed39 vm₁ from hw.wide)) w ⟨Nat.le_refl _, fun _ _ q => q⟩ (Or.inl hw.interned_eq) H
  exact ⟨q.1, Nat.le_refl _, q.2⟩
theorem own_chX {p : Program} {l : Launch} {e : Env} {R : Room} {s : State} {m : MethodId} {args : Array Value} {below : List Frame} {meth : Method} {c : Code} {T : State} {locs : List Loc} {cells slots : Nat} {Z : State} {a0 : Array Value} {EL : List (String × Nat)} {h : Heap} (X : Stand p l e R s m args below meth c T locs cells slots) (hZ : Z.Warmed39 s.vm) (w : EW Z a0 EL) (H : CHv Z EL s.vm h) : CHr Z EL s.vm h T.vm h := own_chW hZ w X.warmed H
theorem own_backH {p : Program} {l : Launch} {e : Env} {R : Room} {s : State} {args : Array Value} {below : List Frame} {Z : State} {a0 : Array Value} {EL : List (String × Nat)} {h : Heap} {y : MethodName} {bytes : ByteArray} {maxL : Nat} {ret : Option FieldType} {rm : Room} {len W : Nat} {as' : Array Value} {VP : Vm → Prop} {Q : Option Value → Heap → List Loc → Prop}
    (hM : MetFree l y (head1 [Jvm.Cond.code y bytes maxL ret] rm) (fun a U => a = as' ∧ Z.Warmed39 U.vm ∧ U.heap = h ∧ VP U.vm) (fun _ _ bl s _ => s.vm.MethodsKnown ∧ s.vm.FramesKnown bl) (fun _ U o U' => ∃ v L, o = .returned v ∧ (Q v U'.heap L ∧ CHr Z EL U.vm U.heap U'.vm U'.heap) ∧ ReturnedEndW U o U' L rm.cells rm.slots))
    (hZ : Z.Warmed39 s.vm) (wc : (Jvm.Cond.code y bytes maxL ret).before a0 Z = true) (wz : (Jvm.Cond.initialized y.cls).before a0 Z = true) (hf : rm.frames + 1 ≤ R.frames) (hl : W + (maxL + 11) + rm.locals ≤ R.locals) (hEL : EW Z a0 EL) (H : CHv Z EL s.vm h) (hTK : s.vm.MethodsKnown) (hB : s.vm.FramesKnown below) :
    BackS l R p e below s args y len W (fun A a => a = as' ∧ A.U.heap = h ∧ VP A.U.vm ∧ A.cells + rm.cells ≤ R.cells ∧ A.slots + rm.slots ≤ R.slots)
      (fun A _ v B => ∃ L, (Q v B.U.heap L ∧ CHr Z EL s.vm h B.U.vm B.U.heap) ∧ B.locs = A.locs ++ L ∧ B.cells = A.cells + rm.cells ∧ B.slots = A.slots + rm.slots) := by
  refine BackS.of_freeWG (bytes := bytes) (maxL := maxL) (ret := ret) (E := fun _ U o t L k n => k = rm.cells ∧ n = rm.slots ∧ ∃ v, o = .returned v ∧ Q v t.heap L ∧ CHr Z EL U.vm U.heap t.vm t.heap) hM hf hl ?_ ?_ ?_ ?_ ?_
  · intro m meth c A a Y hp
    have hU : Z.Warmed39 A.U.vm := wtrans hZ Y.warmed
    refine ⟨?_, mv hU wc, mv hU wz, hp.2.2.2.1, hp.2.2.2.2⟩
    show (Jvm.Cond.and _ .tt).before a A.U = true
    rw [Cond.before_and, mv hU wc]
    rfl
  · intro m meth c A a g mk Y hp
    exact ⟨hp.1, wtrans hZ Y.warmed, hp.2.1, hp.2.2.1⟩
  · intro m meth c A a g mk Y _ hg
    exact known_frames Y hg hTK hB
  · rintro _ _ _ _ ⟨v, L, h1, h2, h3⟩
    exact ⟨L, _, _, h3, rfl, rfl, v, h1, h2⟩
  · rintro m meth c A a g mk v t L k n Y hp _ _ ⟨e1, e2, v', e3, e4, e5⟩
    cases e3
    subst e1 e2
    refine ⟨L, ⟨e4, (own_chX Y hZ hEL H).trans ?_⟩, rfl, rfl, rfl⟩
    rw [← hp.2.1]; exact e5

def own_lat (cs : List Int32) : Prop := ∀ c ∈ cs, ¬ c < 0 ∧ ¬ (255 : Int32) < c
def own_lo (cs : List Int32) : List Int32 := cs.map (fun c => c.toInt8.toInt32)
theorem own_loL (cs : List Int32) : (own_lo cs).length = cs.length := List.length_map ..
theorem own_ofN {N : Int32} (h : ¬ N < 0) : N = Int32.ofNat N.toNatClampNeg := by
  have e := own_cn h
  apply Int32.toInt_inj.mp
  have h2 : N.toNatClampNeg < 2 ^ 31 := by have := N.toInt_lt; omega
  rw [Int32.toInt_ofNat_of_lt h2]
  exact e.symm
theorem own_pos {N : Int32} (h : ¬ N < 0) (h0 : ¬ N = 0) : 0 < N.toNatClampNeg := by
  have e := own_cn h
  rcases Nat.eq_zero_or_pos N.toNatClampNeg with z | z
  · exfalso
    apply h0
    apply Int32.toInt_inj.mp
    show N.toInt = 0
    omega
  · exact z
theorem own_backV {p : Program} {l : Launch} {e : Env} {R : Room} {s : State} {args : Array Value} {below : List Frame} {len W : Nat} {Z : State} {a0 : Array Value} {h : Heap} {n0 : Nat} (hZ : Z.Warmed39 s.vm) (hw : ∀ d ∈ StrChars.Road.words, d.before a0 Z = true) {kI : Nat} (wi : (Jvm.Cond.instantiable "java/lang/String" kI).before a0 Z = true)
    {x b : Addr} {kC : ClassId} {cs : List Int32} {d v0 c0 : Value} {z N : Int32} (hx0 : n0 ≤ x) (hh0 : n0 ≤ h.size) (E : Exa Z h x "java/lang/String") (V : Fld Z h x "java/lang/String" "value" "[B" v0) (C : Fld Z h x "java/lang/String" "coder" "B" c0) (K : Arv Z h b kC .char N (cs.map Value.int) d) (S : Sta Z h "java/lang/String" "COMPACT_STRINGS" "Z" (.int z)) (hz : ¬ z = 0)
    (hL : cs.length = N.toNatClampNeg) (h1 : ¬ N < 0) (h2 : ¬ N = 0) {cap : Nat} (hc : N.toNatClampNeg ≤ cap) (hc2 : cap ≤ 4000) (hp : own_lat cs) (hfr : 4 ≤ R.frames) (hlo : W + 65 ≤ R.locals) :
    Back l R p e below s args (⟨"java/lang/String", "<init>", "([C)V"⟩ : MethodName) len W (fun P a => a = #[.ref x, .ref b] ∧ P.U.heap = h ∧ P.cells + 1 ≤ R.cells ∧ P.slots + cap ≤ R.slots)
      (fun P _ v B => ∃ L, (∃ (t : Addr) (kb : ClassId), v = none ∧ Fr n0 L ∧ Keep h B.U.heap [x] ∧ h.size ≤ t ∧ Exa Z B.U.heap x "java/lang/String" ∧ Fld Z B.U.heap x "java/lang/String" "coder" "B" (.int (0 : Int32)) ∧ Fld Z B.U.heap x "java/lang/String" "value" "[B" (.ref t) ∧ Arv Z B.U.heap t kb .byte N ((own_lo cs).map Value.int) (.int (0 : Int32)) ∧ (own_lo cs).length = N.toNatClampNeg) ∧ B.locs = P.locs ++ L ∧ B.cells = P.cells + 1 ∧ B.slots = P.slots + cap) := by
  intro m meth c P g ig mk a X hg hsize hdg hW hn hp'
  obtain ⟨r1, r2, r3, r4⟩ := hp'
  obtain ⟨v, B, X', ⟨L, ⟨q1, q2, q3, q4, q5, t, kb, q6, q7, q8, q9, q10⟩, l1, l2, l3⟩, st⟩ := StrChars.Road.backV hZ hw wi (bs := own_lo cs) (n := N.toNatClampNeg) (N := N) hx0 hh0 E V C K S hz hL (own_ofN h1) (own_pos h1 h2) (Nat.le_trans hc hc2) hp rfl hfr hlo m meth c P g ig mk a X hg hsize hdg hW hn ⟨r1, r2, r3, Nat.le_trans (Nat.add_le_add_left hc _) r4⟩
  exact ⟨v, ⟨B.U, B.locs, B.cells, P.slots + cap⟩, X'.more (Nat.le_refl _) (by rw [l3]; exact Nat.add_le_add_left hc _), ⟨L, ⟨t, kb, q1, q2, q3, q7, q4, q5, q9, q10, (own_loL cs).trans hL⟩, l1, l2, rfl⟩, st⟩
theorem own_eqW {p : Program} {l : Launch} {e : Env} {R : Room} {s : State} {args : Array Value} {below : List Frame} {len W : Nat} {Z : State} {a0 : Array Value} {h : Heap} {n0 : Nat} (hZ : Z.Warmed39 s.vm) (hw : ∀ d ∈ StrChars.Road.wordsEq, d.before a0 Z = true) {kI : Nat} (wi : (Jvm.Cond.instantiable "java/lang/String" kI).before a0 Z = true)
    {x t y t' : Addr} {kb kb' : ClassId} {cs ys : List Int32} {N N' z : Int32} (E : Exa Z h x "java/lang/String") (V : Fld Z h x "java/lang/String" "value" "[B" (.ref t)) (C : Fld Z h x "java/lang/String" "coder" "B" (.int (0 : Int32))) (K : Arv Z h t kb .byte N (ys.map Value.int) (.int (0 : Int32)))
    (E' : Exa Z h y "java/lang/String") (V' : Fld Z h y "java/lang/String" "value" "[B" (.ref t')) (C' : Fld Z h y "java/lang/String" "coder" "B" (.int (0 : Int32))) (K' : Arv Z h t' kb' .byte N' ((own_lo cs).map Value.int) (.int (0 : Int32)))
    (hy : ys = own_lo cs) (hN : N = N') (hL : (own_lo cs).length = N'.toNatClampNeg) (h1 : ¬ N' < 0) (hc : N'.toNatClampNeg ≤ 4000) (hp : own_lat cs) (S : Sta Z h "java/lang/String" "COMPACT_STRINGS" "Z" (.int z)) (hz : ¬ z = 0) (hfr : 2 ≤ R.frames) (hlo : W + 28 ≤ R.locals) :
    Back l R p e below s args (⟨"java/lang/String", "equals", "(Ljava/lang/Object;)Z"⟩ : MethodName) len W (fun P a => a = #[.ref x, .ref y] ∧ P.U.heap = h ∧ P.cells + 0 ≤ R.cells ∧ P.slots + 0 ≤ R.slots)
      (fun P _ v B => ∃ L, (v = some (.int (1 : Int32)) ∧ Fr n0 L ∧ B.U.heap = h) ∧ B.locs = P.locs ++ L ∧ B.cells = P.cells + 0 ∧ B.slots = P.slots + 0) := by
  subst hy hN
  rw [own_loL] at hL
  have eN : N = Int32.ofNat cs.length := by rw [hL]; exact own_ofN h1
  have hcd : StrChars.Road.CodA cs 0 N ((own_lo cs).map Value.int) := Or.inl ⟨rfl, eN, by simp [own_lo, List.map_map, Function.comp_def, StrChars.lo8], fun c q => (hp c q).2⟩
  have hb : ∀ c ∈ cs, ¬ c < 0 ∧ ¬ (65535 : Int32) < c := fun c q => ⟨(hp c q).1, fun w => (hp c q).2 (Int32.lt_trans (by decide) w)⟩
  intro m meth c P g ig mk a X hg hsize hdg hW hn hp'
  obtain ⟨v, B, X', ⟨L, ⟨hq, hLL, hh⟩, l1, l2, l3⟩, st⟩ := StrChars.Road.eqW hZ hw wi E V C K hcd hb (by rw [hL]; exact hc) E' V' C' K' hcd hb (by rw [hL]; exact hc) S hz hfr hlo m meth c P g ig mk a X hg hsize hdg hW hn hp'
  refine ⟨v, B, X', ⟨L, ⟨?_, by rw [hLL]; exact Fr.nil _, hh⟩, l1, l2, l3⟩, st⟩
  rcases hq with ⟨q, -⟩ | ⟨-, q⟩
  · exact q
  · exact absurd rfl q
theorem own_sw {Z : State} {a0 : Array Value} (hw : ∀ d ∈ tables_1, d.before a0 Z = true) : ∀ d ∈ StrChars.Road.words, d.before a0 Z = true := fun d hd => hw d ((by decide +kernel : ∀ d ∈ StrChars.Road.words, d ∈ tables_1) d hd)
theorem own_se {Z : State} {a0 : Array Value} (hw : ∀ d ∈ tables_1, d.before a0 Z = true) : ∀ d ∈ StrChars.Road.wordsEq, d.before a0 Z = true := fun d hd => hw d ((by decide +kernel : ∀ d ∈ StrChars.Road.wordsEq, d ∈ tables_1) d hd)
theorem own_shr0 (x : Int32) : x >>> ((0 : Int32) &&& 31) = x := by
  rw [show ((0 : Int32) &&& 31) = 0 from rfl]
  exact Int32.shiftRight_zero
theorem own_shl0 (x : Int32) : x <<< ((0 : Int32) &&& 31) = x := by
  rw [show ((0 : Int32) &&& 31) = 0 from rfl]
  exact Int32.shiftLeft_zero
theorem own_goE {p : Program} {e : Env} {below : List Frame} {P : Outcome → State → Prop} {U V : State} (h : U = V) (g : Go p e below P V) : Go p e below P U := by rw [h]; exact g
def own_3 (n : Int32) : Prop := n = 0 ∨ n = 1 ∨ n = 2 ∨ n = 3
theorem own_3a (x : Int32) : own_3 (x &&& (3 : Int32)) := by
  have t : ∀ k : Fin 4, own_3 (Int32.ofNat k.val) := fun k => by
    match k with
    | 0 => exact Or.inl rfl
    | 1 => exact Or.inr (Or.inl rfl)
    | 2 => exact Or.inr (Or.inr (Or.inl rfl))
    | 3 => exact Or.inr (Or.inr (Or.inr rfl))
  have h : (x &&& 3).toBitVec.toNat < 4 := by
    simp only [Int32.toBitVec_and, BitVec.toNat_and]
    exact Nat.lt_succ_of_le Nat.and_le_right
  have e : (x &&& 3) = Int32.ofNat (x &&& 3).toBitVec.toNat := by
    apply Int32.toBitVec_inj.mp
    show _ = BitVec.ofNat 32 _
    rw [BitVec.ofNat_toNat]; simp
  rw [e]
  exact t ⟨_, h⟩
theorem own_ltm {j k n : Int32} (h : ¬ j < n) (q : ¬ k < j) : ¬ k < n := fun w => by
  rw [Int32.lt_iff_toInt_lt] at *
  omega
theorem own_pidx {o n N k : Int32} (h0 : ¬ o < 0) (h1 : ¬ (1000 : Int32) < o) (h2 : ¬ N < o + n) (h3 : ¬ (3 : Int32) < n) (hk : k < n) (hk0 : ¬ k < 0) : ¬ (o + k) < 0 ∧ (o + k) < N := by
  rw [Int32.lt_iff_toInt_lt] at h0 h1 h2 h3 hk hk0
  rw [Int32.lt_iff_toInt_lt, Int32.lt_iff_toInt_lt]
  have e : (0 : Int32).toInt = 0 := rfl
  have e2 : (1000 : Int32).toInt = 1000 := rfl
  have e3 : (3 : Int32).toInt = 3 := rfl
  rw [e] at h0 hk0
  rw [e2] at h1
  rw [e3] at h3
  rw [Int32.toInt_add] at h2 ⊢
  rw [Int.bmod_eq_of_le (by omega) (by omega)] at h2 ⊢
  rw [e]
  omega
theorem own_pidx0 {o n N : Int32} (h0 : ¬ o < 0) (h1 : ¬ (1000 : Int32) < o) (h2 : ¬ N < o + n) (h3 : ¬ (3 : Int32) < n) (hk : (0 : Int32) < n) : o < N := by
  have q := (own_pidx h0 h1 h2 h3 hk (by decide)).2
  rwa [Int32.add_zero] at q
theorem own_z0 (n : Int32) : ¬ n < (0 : Int32) + n := by rw [Int32.zero_add]; exact fun q => Int32.lt_irrefl q
theorem own_e3 (x : Int32) : ¬ ((((x &&& (255 : Int32)).toUInt32.toUInt16.toUInt32.toInt32).toUInt32.toUInt16.toUInt32.toInt32).toUInt32.toUInt16.toUInt32.toInt32) < 0 ∧ ¬ (255 : Int32) < ((((x &&& (255 : Int32)).toUInt32.toUInt16.toUInt32.toInt32).toUInt32.toUInt16.toUInt32.toInt32).toUInt32.toUInt16.toUInt32.toInt32) := by
  have t : ∀ k : Fin 256, ¬ ((((Int32.ofNat k.val).toUInt32.toUInt16.toUInt32.toInt32).toUInt32.toUInt16.toUInt32.toInt32).toUInt32.toUInt16.toUInt32.toInt32) < 0 ∧ ¬ (255 : Int32) < ((((Int32.ofNat k.val).toUInt32.toUInt16.toUInt32.toInt32).toUInt32.toUInt16.toUInt32.toInt32).toUInt32.toUInt16.toUInt32.toInt32) := by decide +kernel
  have h : (x &&& 255).toBitVec.toNat < 256 := by
    simp only [Int32.toBitVec_and, BitVec.toNat_and]
    exact Nat.lt_succ_of_le Nat.and_le_right
  have e : (x &&& 255) = Int32.ofNat (x &&& 255).toBitVec.toNat := by
    apply Int32.toBitVec_inj.mp
    show _ = BitVec.ofNat 32 _
    rw [BitVec.ofNat_toNat]; simp
  rw [e]
  exact t ⟨_, h⟩
theorem own_latR (n : Nat) : own_lat (List.replicate n (0 : Int32)) := fun c q => by
  rw [(List.mem_replicate.mp q).2]; decide
theorem own_latS {zs : List Int32} {v : Int32} (i : Nat) (h : own_lat zs) (hv : ¬ v < 0 ∧ ¬ (255 : Int32) < v) : own_lat (zs.set i v) := fun c q => by
  rcases List.mem_or_eq_of_mem_set q with q | rfl
  · exact h c q
  · exact hv
/-- the chars of x laid from place o on -/
def own_putc (zs : List Int32) (o x n : Int32) : List Int32 := if (2 : Int32) < n then ((zs.set o.toNatClampNeg ((((((x.toUInt32 >>> ((0 : Int32) &&& 31).toUInt32).toInt32) &&& (255 : Int32)).toUInt32.toUInt16.toUInt32.toInt32).toUInt32.toUInt16.toUInt32.toInt32).toUInt32.toUInt16.toUInt32.toInt32)).set (o + (1 : Int32)).toNatClampNeg ((((((x.toUInt32 >>> ((8 : Int32) &&& 31).toUInt32).toInt32) &&& (255 : Int32)).toUInt32.toUInt16.toUInt32.toInt32).toUInt32.toUInt16.toUInt32.toInt32).toUInt32.toUInt16.toUInt32.toInt32)).set (o + (2 : Int32)).toNatClampNeg ((((((x.toUInt32 >>> ((16 : Int32) &&& 31).toUInt32).toInt32) &&& (255 : Int32)).toUInt32.toUInt16.toUInt32.toInt32).toUInt32.toUInt16.toUInt32.toInt32).toUInt32.toUInt16.toUInt32.toInt32) else if (1 : Int32) < n then (zs.set o.toNatClampNeg ((((((x.toUInt32 >>> ((0 : Int32) &&& 31).toUInt32).toInt32) &&& (255 : Int32)).toUInt32.toUInt16.toUInt32.toInt32).toUInt32.toUInt16.toUInt32.toInt32).toUInt32.toUInt16.toUInt32.toInt32)).set (o + (1 : Int32)).toNatClampNeg ((((((x.toUInt32 >>> ((8 : Int32) &&& 31).toUInt32).toInt32) &&& (255 : Int32)).toUInt32.toUInt16.toUInt32.toInt32).toUInt32.toUInt16.toUInt32.toInt32).toUInt32.toUInt16.toUInt32.toInt32) else if (0 : Int32) < n then zs.set o.toNatClampNeg ((((((x.toUInt32 >>> ((0 : Int32) &&& 31).toUInt32).toInt32) &&& (255 : Int32)).toUInt32.toUInt16.toUInt32.toInt32).toUInt32.toUInt16.toUInt32.toInt32).toUInt32.toUInt16.toUInt32.toInt32) else zs
theorem own_pc0 {zs : List Int32} {o x n : Int32} (h : ¬ (0 : Int32) < n) : own_putc zs o x n = zs := by rw [own_putc, if_neg (own_ltm (k := 2) h (by decide)), if_neg (own_ltm (k := 1) h (by decide)), if_neg h]
theorem own_pc1 {zs : List Int32} {o x n : Int32} (h : ¬ (1 : Int32) < n) (g : (0 : Int32) < n) : own_putc zs o x n = zs.set o.toNatClampNeg ((((((x.toUInt32 >>> ((0 : Int32) &&& 31).toUInt32).toInt32) &&& (255 : Int32)).toUInt32.toUInt16.toUInt32.toInt32).toUInt32.toUInt16.toUInt32.toInt32).toUInt32.toUInt16.toUInt32.toInt32) := by rw [own_putc, if_neg (own_ltm (k := 2) h (by decide)), if_neg h, if_pos g]
theorem own_pc2 {zs : List Int32} {o x n : Int32} (h : ¬ (2 : Int32) < n) (g : (1 : Int32) < n) : own_putc zs o x n = (zs.set o.toNatClampNeg ((((((x.toUInt32 >>> ((0 : Int32) &&& 31).toUInt32).toInt32) &&& (255 : Int32)).toUInt32.toUInt16.toUInt32.toInt32).toUInt32.toUInt16.toUInt32.toInt32).toUInt32.toUInt16.toUInt32.toInt32)).set (o + (1 : Int32)).toNatClampNeg ((((((x.toUInt32 >>> ((8 : Int32) &&& 31).toUInt32).toInt32) &&& (255 : Int32)).toUInt32.toUInt16.toUInt32.toInt32).toUInt32.toUInt16.toUInt32.toInt32).toUInt32.toUInt16.toUInt32.toInt32) := by rw [own_putc, if_neg h, if_pos g]
theorem own_pc3 {zs : List Int32} {o x n : Int32} (g : (2 : Int32) < n) : own_putc zs o x n = ((zs.set o.toNatClampNeg ((((((x.toUInt32 >>> ((0 : Int32) &&& 31).toUInt32).toInt32) &&& (255 : Int32)).toUInt32.toUInt16.toUInt32.toInt32).toUInt32.toUInt16.toUInt32.toInt32).toUInt32.toUInt16.toUInt32.toInt32)).set (o + (1 : Int32)).toNatClampNeg ((((((x.toUInt32 >>> ((8 : Int32) &&& 31).toUInt32).toInt32) &&& (255 : Int32)).toUInt32.toUInt16.toUInt32.toInt32).toUInt32.toUInt16.toUInt32.toInt32).toUInt32.toUInt16.toUInt32.toInt32)).set (o + (2 : Int32)).toNatClampNeg ((((((x.toUInt32 >>> ((16 : Int32) &&& 31).toUInt32).toInt32) &&& (255 : Int32)).toUInt32.toUInt16.toUInt32.toInt32).toUInt32.toUInt16.toUInt32.toInt32).toUInt32.toUInt16.toUInt32.toInt32) := by rw [own_putc, if_pos g]
theorem own_latP {zs : List Int32} (o x n : Int32) (h : own_lat zs) : own_lat (own_putc zs o x n) := by
  unfold own_putc
  split
  · exact own_latS _ (own_latS _ (own_latS _ h (own_e3 _)) (own_e3 _)) (own_e3 _)
  · split
    · exact own_latS _ (own_latS _ h (own_e3 _)) (own_e3 _)
    · split
      · exact own_latS _ h (own_e3 _)
      · exact h
theorem own_pcL (zs : List Int32) (o x n : Int32) : (own_putc zs o x n).length = zs.length := by
  unfold own_putc
  split
  · simp
  · split
    · simp
    · split <;> simp
def own_bs (x n : Int32) : List Int32 := own_lo (own_putc (List.replicate n.toNatClampNeg (0 : Int32)) (0 : Int32) x n)
theorem own_bs0 (x : Int32) : own_bs x (0 : Int32) = [] := by
  rw [own_bs, own_pc0 (n := 0) (by decide)]; rfl
theorem own_bsL {n : Int32} (x : Int32) : (own_bs x n).length = n.toNatClampNeg := by rw [own_bs, own_loL, own_pcL, List.length_replicate]

theorem w0 {Z : State} {a0 : Array Value} (hw : ∀ d ∈ tables_1, d.before a0 Z = true) : (Jvm.Cond.methodLink "com/example/lease/lease/core/InvalidFieldExceptionWithinPinLaw" (7 : Nat) ({ cls := "com/example/lease/lease/core/InvalidFieldExceptionWithinPinLaw", name := "str", desc := "(II)Ljava/lang/String;" } : Jvm.MethodName)).before a0 Z = true := hw _ (List.mem_of_getElem? (i := 0) rfl)
theorem w1 {Z : State} {a0 : Array Value} (hw : ∀ d ∈ tables_1, d.before a0 Z = true) : (Jvm.Cond.static ({ cls := "com/example/lease/lease/core/InvalidFieldExceptionWithinPinLaw", name := "str", desc := "(II)Ljava/lang/String;" } : Jvm.MethodName)).before a0 Z = true := hw _ (List.mem_of_getElem? (i := 1) rfl)
theorem w2 {Z : State} {a0 : Array Value} (hw : ∀ d ∈ tables_1, d.before a0 Z = true) : (Jvm.Cond.initialized "com/example/lease/lease/core/InvalidFieldExceptionWithinPinLaw").before a0 Z = true := hw _ (List.mem_of_getElem? (i := 2) rfl)
theorem w3 {Z : State} {a0 : Array Value} (hw : ∀ d ∈ tables_1, d.before a0 Z = true) : (Jvm.Cond.code ({ cls := "com/example/lease/lease/core/InvalidFieldExceptionWithinPinLaw", name := "str", desc := "(II)Ljava/lang/String;" } : Jvm.MethodName) method_4_code (3 : Nat) (Option.some (Jvm.ClassFile.FieldType.object "java/lang/String"))).before a0 Z = true := hw _ (List.mem_of_getElem? (i := 3) rfl)
theorem w4 {Z : State} {a0 : Array Value} (hw : ∀ d ∈ tables_1, d.before a0 Z = true) : (Jvm.Cond.arrayClass Jvm.ClassFile.FieldType.char).before a0 Z = true := hw _ (List.mem_of_getElem? (i := 4) rfl)
theorem w5 {Z : State} {a0 : Array Value} (hw : ∀ d ∈ tables_1, d.before a0 Z = true) : (Jvm.Cond.methodLink "com/example/lease/lease/core/InvalidFieldExceptionWithinPinLaw" (13 : Nat) ({ cls := "com/example/lease/lease/core/InvalidFieldExceptionWithinPinLaw", name := "put", desc := "([CIII)V" } : Jvm.MethodName)).before a0 Z = true := hw _ (List.mem_of_getElem? (i := 5) rfl)
theorem w6 {Z : State} {a0 : Array Value} (hw : ∀ d ∈ tables_1, d.before a0 Z = true) : (Jvm.Cond.static ({ cls := "com/example/lease/lease/core/InvalidFieldExceptionWithinPinLaw", name := "put", desc := "([CIII)V" } : Jvm.MethodName)).before a0 Z = true := hw _ (List.mem_of_getElem? (i := 6) rfl)
theorem w7 {Z : State} {a0 : Array Value} (hw : ∀ d ∈ tables_1, d.before a0 Z = true) : (Jvm.Cond.code ({ cls := "com/example/lease/lease/core/InvalidFieldExceptionWithinPinLaw", name := "put", desc := "([CIII)V" } : Jvm.MethodName) method_5_code (4 : Nat) (Option.none : Option Jvm.ClassFile.FieldType)).before a0 Z = true := hw _ (List.mem_of_getElem? (i := 7) rfl)
theorem w8 {Z : State} {a0 : Array Value} (hw : ∀ d ∈ tables_1, d.before a0 Z = true) : (Jvm.Cond.methodLink "com/example/lease/lease/core/InvalidFieldExceptionWithinPinLaw" (42 : Nat) ({ cls := "com/example/lease/lease/core/InvalidFieldExceptionWithinPinLaw", name := "ch", desc := "(II)C" } : Jvm.MethodName)).before a0 Z = true := hw _ (List.mem_of_getElem? (i := 8) rfl)
theorem w9 {Z : State} {a0 : Array Value} (hw : ∀ d ∈ tables_1, d.before a0 Z = true) : (Jvm.Cond.static ({ cls := "com/example/lease/lease/core/InvalidFieldExceptionWithinPinLaw", name := "ch", desc := "(II)C" } : Jvm.MethodName)).before a0 Z = true := hw _ (List.mem_of_getElem? (i := 9) rfl)
theorem w10 {Z : State} {a0 : Array Value} (hw : ∀ d ∈ tables_1, d.before a0 Z = true) : (Jvm.Cond.code ({ cls := "com/example/lease/lease/core/InvalidFieldExceptionWithinPinLaw", name := "ch", desc := "(II)C" } : Jvm.MethodName) method_3_code (2 : Nat) (Option.some Jvm.ClassFile.FieldType.char)).before a0 Z = true := hw _ (List.mem_of_getElem? (i := 10) rfl)
theorem w11 {Z : State} {a0 : Array Value} (hw : ∀ d ∈ tables_1, d.before a0 Z = true) : (Jvm.Cond.classLink "com/example/lease/lease/core/InvalidFieldExceptionWithinPinLaw" (17 : Nat) "java/lang/String").before a0 Z = true := hw _ (List.mem_of_getElem? (i := 11) rfl)
theorem w12 {Z : State} {a0 : Array Value} (hw : ∀ d ∈ tables_1, d.before a0 Z = true) : (Jvm.Cond.instantiable "java/lang/String" (4 : Nat)).before a0 Z = true := hw _ (List.mem_of_getElem? (i := 12) rfl)
theorem w13 {Z : State} {a0 : Array Value} (hw : ∀ d ∈ tables_1, d.before a0 Z = true) : (Jvm.Cond.initialized "java/lang/String").before a0 Z = true := hw _ (List.mem_of_getElem? (i := 13) rfl)
theorem w14 {Z : State} {a0 : Array Value} (hw : ∀ d ∈ tables_1, d.before a0 Z = true) : (Jvm.Cond.methodLink "com/example/lease/lease/core/InvalidFieldExceptionWithinPinLaw" (19 : Nat) ({ cls := "java/lang/String", name := "<init>", desc := "([C)V" } : Jvm.MethodName)).before a0 Z = true := hw _ (List.mem_of_getElem? (i := 14) rfl)
theorem w15 {Z : State} {a0 : Array Value} (hw : ∀ d ∈ tables_1, d.before a0 Z = true) : (Jvm.Cond.instanceMethod ({ cls := "java/lang/String", name := "<init>", desc := "([C)V" } : Jvm.MethodName)).before a0 Z = true := hw _ (List.mem_of_getElem? (i := 15) rfl)
theorem w16 {Z : State} {a0 : Array Value} (hw : ∀ d ∈ tables_1, d.before a0 Z = true) : (Jvm.Cond.code ({ cls := "java/lang/String", name := "<init>", desc := "([C)V" } : Jvm.MethodName) jdk_42_method_3_code (2 : Nat) (Option.none : Option Jvm.ClassFile.FieldType)).before a0 Z = true := hw _ (List.mem_of_getElem? (i := 16) rfl)
theorem w17 {Z : State} {a0 : Array Value} (hw : ∀ d ∈ tables_1, d.before a0 Z = true) : (Jvm.Cond.methodLink "java/lang/String" (27 : Nat) ({ cls := "java/lang/String", name := "<init>", desc := "([CIILjava/lang/Void;)V" } : Jvm.MethodName)).before a0 Z = true := hw _ (List.mem_of_getElem? (i := 17) rfl)
theorem w18 {Z : State} {a0 : Array Value} (hw : ∀ d ∈ tables_1, d.before a0 Z = true) : (Jvm.Cond.instanceMethod ({ cls := "java/lang/String", name := "<init>", desc := "([CIILjava/lang/Void;)V" } : Jvm.MethodName)).before a0 Z = true := hw _ (List.mem_of_getElem? (i := 18) rfl)
theorem w20 {Z : State} {a0 : Array Value} (hw : ∀ d ∈ tables_1, d.before a0 Z = true) : (Jvm.Cond.code ({ cls := "java/lang/String", name := "<init>", desc := "([CIILjava/lang/Void;)V" } : Jvm.MethodName) jdk_42_method_149_code (6 : Nat) (Option.none : Option Jvm.ClassFile.FieldType)).before a0 Z = true := hw _ (List.mem_of_getElem? (i := 20) rfl)
theorem w21 {Z : State} {a0 : Array Value} (hw : ∀ d ∈ tables_1, d.before a0 Z = true) : (Jvm.Cond.methodLink "java/lang/String" (1 : Nat) ({ cls := "java/lang/Object", name := "<init>", desc := "()V" } : Jvm.MethodName)).before a0 Z = true := hw _ (List.mem_of_getElem? (i := 21) rfl)
theorem w22 {Z : State} {a0 : Array Value} (hw : ∀ d ∈ tables_1, d.before a0 Z = true) : (Jvm.Cond.instanceMethod ({ cls := "java/lang/Object", name := "<init>", desc := "()V" } : Jvm.MethodName)).before a0 Z = true := hw _ (List.mem_of_getElem? (i := 22) rfl)
theorem w23 {Z : State} {a0 : Array Value} (hw : ∀ d ∈ tables_1, d.before a0 Z = true) : (Jvm.Cond.code ({ cls := "java/lang/Object", name := "<init>", desc := "()V" } : Jvm.MethodName) object_method_1_code (1 : Nat) (Option.none : Option Jvm.ClassFile.FieldType)).before a0 Z = true := hw _ (List.mem_of_getElem? (i := 23) rfl)
theorem w24 {Z : State} {a0 : Array Value} (hw : ∀ d ∈ tables_1, d.before a0 Z = true) : (Jvm.Cond.fieldLink "java/lang/String" (38 : Nat) "java/lang/String" "COMPACT_STRINGS" "Z").before a0 Z = true := hw _ (List.mem_of_getElem? (i := 24) rfl)
theorem w29 {Z : State} {a0 : Array Value} (hw : ∀ d ∈ tables_1, d.before a0 Z = true) : (Jvm.Cond.arrayClass Jvm.ClassFile.FieldType.byte).before a0 Z = true := hw _ (List.mem_of_getElem? (i := 29) rfl)
theorem w36 {Z : State} {a0 : Array Value} (hw : ∀ d ∈ tables_1, d.before a0 Z = true) : (Jvm.Cond.fieldLink "java/lang/String" (15 : Nat) "java/lang/String" "coder" "B").before a0 Z = true := hw _ (List.mem_of_getElem? (i := 36) rfl)
theorem w37 {Z : State} {a0 : Array Value} (hw : ∀ d ∈ tables_1, d.before a0 Z = true) : (Jvm.Cond.laysFinal "java/lang/String" "java/lang/String" "coder" "B").before a0 Z = true := hw _ (List.mem_of_getElem? (i := 37) rfl)
theorem w38 {Z : State} {a0 : Array Value} (hw : ∀ d ∈ tables_1, d.before a0 Z = true) : (Jvm.Cond.fieldLink "java/lang/String" (9 : Nat) "java/lang/String" "value" "[B").before a0 Z = true := hw _ (List.mem_of_getElem? (i := 38) rfl)
theorem w39 {Z : State} {a0 : Array Value} (hw : ∀ d ∈ tables_1, d.before a0 Z = true) : (Jvm.Cond.laysFinal "java/lang/String" "java/lang/String" "value" "[B").before a0 Z = true := hw _ (List.mem_of_getElem? (i := 39) rfl)
theorem w40 {Z : State} {a0 : Array Value} (hw : ∀ d ∈ tables_1, d.before a0 Z = true) : (Jvm.Cond.stringLink "java/lang/String" (7 : Nat) "").before a0 Z = true := hw _ (List.mem_of_getElem? (i := 40) rfl)
theorem w41 {Z : State} {a0 : Array Value} (hw : ∀ d ∈ tables_1, d.before a0 Z = true) : (Jvm.Cond.soleField "java/lang/String" "value").before a0 Z = true := hw _ (List.mem_of_getElem? (i := 41) rfl)
theorem w42 {Z : State} {a0 : Array Value} (hw : ∀ d ∈ tables_1, d.before a0 Z = true) : (Jvm.Cond.soleField "java/lang/String" "coder").before a0 Z = true := hw _ (List.mem_of_getElem? (i := 42) rfl)
theorem w43 {Z : State} {a0 : Array Value} (hw : ∀ d ∈ tables_1, d.before a0 Z = true) : (Jvm.Cond.classLink "com/example/lease/lease/core/InvalidFieldExceptionWithinPinLaw" (22 : Nat) "com/example/lease/lease/core/InvalidFieldException").before a0 Z = true := hw _ (List.mem_of_getElem? (i := 43) rfl)
theorem w44 {Z : State} {a0 : Array Value} (hw : ∀ d ∈ tables_1, d.before a0 Z = true) : (Jvm.Cond.instantiable "com/example/lease/lease/core/InvalidFieldException" (8 : Nat)).before a0 Z = true := hw _ (List.mem_of_getElem? (i := 44) rfl)
theorem w45 {Z : State} {a0 : Array Value} (hw : ∀ d ∈ tables_1, d.before a0 Z = true) : (Jvm.Cond.initialized "com/example/lease/lease/core/InvalidFieldException").before a0 Z = true := hw _ (List.mem_of_getElem? (i := 45) rfl)
theorem w46 {Z : State} {a0 : Array Value} (hw : ∀ d ∈ tables_1, d.before a0 Z = true) : (Jvm.Cond.methodLink "com/example/lease/lease/core/InvalidFieldExceptionWithinPinLaw" (24 : Nat) ({ cls := "com/example/lease/lease/core/InvalidFieldException", name := "<init>", desc := "(Ljava/lang/String;Ljava/lang/String;)V" } : Jvm.MethodName)).before a0 Z = true := hw _ (List.mem_of_getElem? (i := 46) rfl)
theorem w47 {Z : State} {a0 : Array Value} (hw : ∀ d ∈ tables_1, d.before a0 Z = true) : (Jvm.Cond.instanceMethod ({ cls := "com/example/lease/lease/core/InvalidFieldException", name := "<init>", desc := "(Ljava/lang/String;Ljava/lang/String;)V" } : Jvm.MethodName)).before a0 Z = true := hw _ (List.mem_of_getElem? (i := 47) rfl)
theorem w48 {Z : State} {a0 : Array Value} (hw : ∀ d ∈ tables_1, d.before a0 Z = true) : (Jvm.Cond.code ({ cls := "com/example/lease/lease/core/InvalidFieldException", name := "<init>", desc := "(Ljava/lang/String;Ljava/lang/String;)V" } : Jvm.MethodName) prog_10_method_1_code (3 : Nat) (Option.none : Option Jvm.ClassFile.FieldType)).before a0 Z = true := hw _ (List.mem_of_getElem? (i := 48) rfl)
theorem w49 {Z : State} {a0 : Array Value} (hw : ∀ d ∈ tables_1, d.before a0 Z = true) : (Jvm.Cond.classLink "com/example/lease/lease/core/InvalidFieldException" (1 : Nat) "java/lang/StringBuilder").before a0 Z = true := hw _ (List.mem_of_getElem? (i := 49) rfl)
theorem w50 {Z : State} {a0 : Array Value} (hw : ∀ d ∈ tables_1, d.before a0 Z = true) : (Jvm.Cond.instantiable "java/lang/StringBuilder" (4 : Nat)).before a0 Z = true := hw _ (List.mem_of_getElem? (i := 50) rfl)
theorem w51 {Z : State} {a0 : Array Value} (hw : ∀ d ∈ tables_1, d.before a0 Z = true) : (Jvm.Cond.initialized "java/lang/StringBuilder").before a0 Z = true := hw _ (List.mem_of_getElem? (i := 51) rfl)
theorem w52 {Z : State} {a0 : Array Value} (hw : ∀ d ∈ tables_1, d.before a0 Z = true) : (Jvm.Cond.methodLink "com/example/lease/lease/core/InvalidFieldException" (3 : Nat) ({ cls := "java/lang/StringBuilder", name := "<init>", desc := "()V" } : Jvm.MethodName)).before a0 Z = true := hw _ (List.mem_of_getElem? (i := 52) rfl)
theorem w53 {Z : State} {a0 : Array Value} (hw : ∀ d ∈ tables_1, d.before a0 Z = true) : (Jvm.Cond.instanceMethod ({ cls := "java/lang/StringBuilder", name := "<init>", desc := "()V" } : Jvm.MethodName)).before a0 Z = true := hw _ (List.mem_of_getElem? (i := 53) rfl)
theorem w54 {Z : State} {a0 : Array Value} (hw : ∀ d ∈ tables_1, d.before a0 Z = true) : (Jvm.Cond.code ({ cls := "java/lang/StringBuilder", name := "<init>", desc := "()V" } : Jvm.MethodName) jdk_67_method_1_code (1 : Nat) (Option.none : Option Jvm.ClassFile.FieldType)).before a0 Z = true := hw _ (List.mem_of_getElem? (i := 54) rfl)
theorem w55 {Z : State} {a0 : Array Value} (hw : ∀ d ∈ tables_1, d.before a0 Z = true) : (Jvm.Cond.methodLink "java/lang/StringBuilder" (1 : Nat) ({ cls := "java/lang/AbstractStringBuilder", name := "<init>", desc := "(I)V" } : Jvm.MethodName)).before a0 Z = true := hw _ (List.mem_of_getElem? (i := 55) rfl)
theorem w56 {Z : State} {a0 : Array Value} (hw : ∀ d ∈ tables_1, d.before a0 Z = true) : (Jvm.Cond.instanceMethod ({ cls := "java/lang/AbstractStringBuilder", name := "<init>", desc := "(I)V" } : Jvm.MethodName)).before a0 Z = true := hw _ (List.mem_of_getElem? (i := 56) rfl)
theorem w59 {Z : State} {a0 : Array Value} (hw : ∀ d ∈ tables_1, d.before a0 Z = true) : (Jvm.Cond.initialized "java/lang/AbstractStringBuilder").before a0 Z = true := hw _ (List.mem_of_getElem? (i := 59) rfl)
theorem w60 {Z : State} {a0 : Array Value} (hw : ∀ d ∈ tables_1, d.before a0 Z = true) : (Jvm.Cond.code ({ cls := "java/lang/AbstractStringBuilder", name := "<init>", desc := "(I)V" } : Jvm.MethodName) jdk_68_method_2_code (2 : Nat) (Option.none : Option Jvm.ClassFile.FieldType)).before a0 Z = true := hw _ (List.mem_of_getElem? (i := 60) rfl)
theorem w61 {Z : State} {a0 : Array Value} (hw : ∀ d ∈ tables_1, d.before a0 Z = true) : (Jvm.Cond.methodLink "java/lang/AbstractStringBuilder" (3 : Nat) ({ cls := "java/lang/Object", name := "<init>", desc := "()V" } : Jvm.MethodName)).before a0 Z = true := hw _ (List.mem_of_getElem? (i := 61) rfl)
theorem w62 {Z : State} {a0 : Array Value} (hw : ∀ d ∈ tables_1, d.before a0 Z = true) : (Jvm.Cond.fieldLink "java/lang/AbstractStringBuilder" (18 : Nat) "java/lang/String" "COMPACT_STRINGS" "Z").before a0 Z = true := hw _ (List.mem_of_getElem? (i := 62) rfl)
theorem w63 {Z : State} {a0 : Array Value} (hw : ∀ d ∈ tables_1, d.before a0 Z = true) : (Jvm.Cond.fieldLink "java/lang/AbstractStringBuilder" (15 : Nat) "java/lang/AbstractStringBuilder" "value" "[B").before a0 Z = true := hw _ (List.mem_of_getElem? (i := 63) rfl)
theorem w64 {Z : State} {a0 : Array Value} (hw : ∀ d ∈ tables_1, d.before a0 Z = true) : (Jvm.Cond.lays "java/lang/StringBuilder" "java/lang/AbstractStringBuilder" "value" "[B").before a0 Z = true := hw _ (List.mem_of_getElem? (i := 64) rfl)
theorem w65 {Z : State} {a0 : Array Value} (hw : ∀ d ∈ tables_1, d.before a0 Z = true) : (Jvm.Cond.fieldLink "java/lang/AbstractStringBuilder" (22 : Nat) "java/lang/AbstractStringBuilder" "coder" "B").before a0 Z = true := hw _ (List.mem_of_getElem? (i := 65) rfl)
theorem w66 {Z : State} {a0 : Array Value} (hw : ∀ d ∈ tables_1, d.before a0 Z = true) : (Jvm.Cond.lays "java/lang/StringBuilder" "java/lang/AbstractStringBuilder" "coder" "B").before a0 Z = true := hw _ (List.mem_of_getElem? (i := 66) rfl)
theorem w67 {Z : State} {a0 : Array Value} (hw : ∀ d ∈ tables_1, d.before a0 Z = true) : (Jvm.Cond.methodLink "com/example/lease/lease/core/InvalidFieldException" (7 : Nat) ({ cls := "java/lang/StringBuilder", name := "append", desc := "(Ljava/lang/String;)Ljava/lang/StringBuilder;" } : Jvm.MethodName)).before a0 Z = true := hw _ (List.mem_of_getElem? (i := 67) rfl)
theorem w68 {Z : State} {a0 : Array Value} (hw : ∀ d ∈ tables_1, d.before a0 Z = true) : (Jvm.Cond.declares ({ cls := "java/lang/StringBuilder", name := "append", desc := "(Ljava/lang/String;)Ljava/lang/StringBuilder;" } : Jvm.MethodName)).before a0 Z = true := hw _ (List.mem_of_getElem? (i := 68) rfl)
theorem w69 {Z : State} {a0 : Array Value} (hw : ∀ d ∈ tables_1, d.before a0 Z = true) : (Jvm.Cond.instanceMethod ({ cls := "java/lang/StringBuilder", name := "append", desc := "(Ljava/lang/String;)Ljava/lang/StringBuilder;" } : Jvm.MethodName)).before a0 Z = true := hw _ (List.mem_of_getElem? (i := 69) rfl)
theorem w70 {Z : State} {a0 : Array Value} (hw : ∀ d ∈ tables_1, d.before a0 Z = true) : (Jvm.Cond.selects "java/lang/StringBuilder" ({ cls := "java/lang/StringBuilder", name := "append", desc := "(Ljava/lang/String;)Ljava/lang/StringBuilder;" } : Jvm.MethodName) ({ cls := "java/lang/StringBuilder", name := "append", desc := "(Ljava/lang/String;)Ljava/lang/StringBuilder;" } : Jvm.MethodName)).before a0 Z = true := hw _ (List.mem_of_getElem? (i := 70) rfl)
theorem w71 {Z : State} {a0 : Array Value} (hw : ∀ d ∈ tables_1, d.before a0 Z = true) : (Jvm.Cond.code ({ cls := "java/lang/StringBuilder", name := "append", desc := "(Ljava/lang/String;)Ljava/lang/StringBuilder;" } : Jvm.MethodName) jdk_67_method_7_code (2 : Nat) (Option.some (Jvm.ClassFile.FieldType.object "java/lang/StringBuilder"))).before a0 Z = true := hw _ (List.mem_of_getElem? (i := 71) rfl)
theorem w72 {Z : State} {a0 : Array Value} (hw : ∀ d ∈ tables_1, d.before a0 Z = true) : (Jvm.Cond.methodLink "java/lang/StringBuilder" (29 : Nat) ({ cls := "java/lang/AbstractStringBuilder", name := "append", desc := "(Ljava/lang/String;)Ljava/lang/AbstractStringBuilder;" } : Jvm.MethodName)).before a0 Z = true := hw _ (List.mem_of_getElem? (i := 72) rfl)
theorem w73 {Z : State} {a0 : Array Value} (hw : ∀ d ∈ tables_1, d.before a0 Z = true) : (Jvm.Cond.instanceMethod ({ cls := "java/lang/AbstractStringBuilder", name := "append", desc := "(Ljava/lang/String;)Ljava/lang/AbstractStringBuilder;" } : Jvm.MethodName)).before a0 Z = true := hw _ (List.mem_of_getElem? (i := 73) rfl)
theorem w74 {Z : State} {a0 : Array Value} (hw : ∀ d ∈ tables_1, d.before a0 Z = true) : (Jvm.Cond.superclass "java/lang/StringBuilder" "java/lang/AbstractStringBuilder").before a0 Z = true := hw _ (List.mem_of_getElem? (i := 74) rfl)
theorem w76 {Z : State} {a0 : Array Value} (hw : ∀ d ∈ tables_1, d.before a0 Z = true) : (Jvm.Cond.code ({ cls := "java/lang/AbstractStringBuilder", name := "append", desc := "(Ljava/lang/String;)Ljava/lang/AbstractStringBuilder;" } : Jvm.MethodName) jdk_68_method_22_code (3 : Nat) (Option.some (Jvm.ClassFile.FieldType.object "java/lang/AbstractStringBuilder"))).before a0 Z = true := hw _ (List.mem_of_getElem? (i := 76) rfl)
theorem w77 {Z : State} {a0 : Array Value} (hw : ∀ d ∈ tables_1, d.before a0 Z = true) : (Jvm.Cond.methodLink "java/lang/AbstractStringBuilder" (32 : Nat) ({ cls := "java/lang/String", name := "length", desc := "()I" } : Jvm.MethodName)).before a0 Z = true := hw _ (List.mem_of_getElem? (i := 77) rfl)
theorem w78 {Z : State} {a0 : Array Value} (hw : ∀ d ∈ tables_1, d.before a0 Z = true) : (Jvm.Cond.declares ({ cls := "java/lang/String", name := "length", desc := "()I" } : Jvm.MethodName)).before a0 Z = true := hw _ (List.mem_of_getElem? (i := 78) rfl)
theorem w79 {Z : State} {a0 : Array Value} (hw : ∀ d ∈ tables_1, d.before a0 Z = true) : (Jvm.Cond.instanceMethod ({ cls := "java/lang/String", name := "length", desc := "()I" } : Jvm.MethodName)).before a0 Z = true := hw _ (List.mem_of_getElem? (i := 79) rfl)
theorem w80 {Z : State} {a0 : Array Value} (hw : ∀ d ∈ tables_1, d.before a0 Z = true) : (Jvm.Cond.selects "java/lang/String" ({ cls := "java/lang/String", name := "length", desc := "()I" } : Jvm.MethodName) ({ cls := "java/lang/String", name := "length", desc := "()I" } : Jvm.MethodName)).before a0 Z = true := hw _ (List.mem_of_getElem? (i := 80) rfl)
theorem w81 {Z : State} {a0 : Array Value} (hw : ∀ d ∈ tables_1, d.before a0 Z = true) : (Jvm.Cond.code ({ cls := "java/lang/String", name := "length", desc := "()I" } : Jvm.MethodName) jdk_42_method_54_code (1 : Nat) (Option.some Jvm.ClassFile.FieldType.int)).before a0 Z = true := hw _ (List.mem_of_getElem? (i := 81) rfl)
theorem w82 {Z : State} {a0 : Array Value} (hw : ∀ d ∈ tables_1, d.before a0 Z = true) : (Jvm.Cond.methodLink "java/lang/String" (335 : Nat) ({ cls := "java/lang/String", name := "coder", desc := "()B" } : Jvm.MethodName)).before a0 Z = true := hw _ (List.mem_of_getElem? (i := 82) rfl)
theorem w83 {Z : State} {a0 : Array Value} (hw : ∀ d ∈ tables_1, d.before a0 Z = true) : (Jvm.Cond.declares ({ cls := "java/lang/String", name := "coder", desc := "()B" } : Jvm.MethodName)).before a0 Z = true := hw _ (List.mem_of_getElem? (i := 83) rfl)
theorem w84 {Z : State} {a0 : Array Value} (hw : ∀ d ∈ tables_1, d.before a0 Z = true) : (Jvm.Cond.instanceMethod ({ cls := "java/lang/String", name := "coder", desc := "()B" } : Jvm.MethodName)).before a0 Z = true := hw _ (List.mem_of_getElem? (i := 84) rfl)
theorem w85 {Z : State} {a0 : Array Value} (hw : ∀ d ∈ tables_1, d.before a0 Z = true) : (Jvm.Cond.selects "java/lang/String" ({ cls := "java/lang/String", name := "coder", desc := "()B" } : Jvm.MethodName) ({ cls := "java/lang/String", name := "coder", desc := "()B" } : Jvm.MethodName)).before a0 Z = true := hw _ (List.mem_of_getElem? (i := 85) rfl)
theorem w86 {Z : State} {a0 : Array Value} (hw : ∀ d ∈ tables_1, d.before a0 Z = true) : (Jvm.Cond.code ({ cls := "java/lang/String", name := "coder", desc := "()B" } : Jvm.MethodName) jdk_42_method_152_code (1 : Nat) (Option.some Jvm.ClassFile.FieldType.byte)).before a0 Z = true := hw _ (List.mem_of_getElem? (i := 86) rfl)
theorem w87 {Z : State} {a0 : Array Value} (hw : ∀ d ∈ tables_1, d.before a0 Z = true) : (Jvm.Cond.fieldLink "java/lang/AbstractStringBuilder" (79 : Nat) "java/lang/AbstractStringBuilder" "count" "I").before a0 Z = true := hw _ (List.mem_of_getElem? (i := 87) rfl)
theorem w88 {Z : State} {a0 : Array Value} (hw : ∀ d ∈ tables_1, d.before a0 Z = true) : (Jvm.Cond.lays "java/lang/StringBuilder" "java/lang/AbstractStringBuilder" "count" "I").before a0 Z = true := hw _ (List.mem_of_getElem? (i := 88) rfl)
theorem w89 {Z : State} {a0 : Array Value} (hw : ∀ d ∈ tables_1, d.before a0 Z = true) : (Jvm.Cond.methodLink "java/lang/AbstractStringBuilder" (100 : Nat) ({ cls := "java/lang/AbstractStringBuilder", name := "ensureCapacityInternal", desc := "(I)V" } : Jvm.MethodName)).before a0 Z = true := hw _ (List.mem_of_getElem? (i := 89) rfl)
theorem w90 {Z : State} {a0 : Array Value} (hw : ∀ d ∈ tables_1, d.before a0 Z = true) : (Jvm.Cond.instanceMethod ({ cls := "java/lang/AbstractStringBuilder", name := "ensureCapacityInternal", desc := "(I)V" } : Jvm.MethodName)).before a0 Z = true := hw _ (List.mem_of_getElem? (i := 90) rfl)
theorem w91 {Z : State} {a0 : Array Value} (hw : ∀ d ∈ tables_1, d.before a0 Z = true) : (Jvm.Cond.privateMethod ({ cls := "java/lang/AbstractStringBuilder", name := "ensureCapacityInternal", desc := "(I)V" } : Jvm.MethodName)).before a0 Z = true := hw _ (List.mem_of_getElem? (i := 91) rfl)
theorem w92 {Z : State} {a0 : Array Value} (hw : ∀ d ∈ tables_1, d.before a0 Z = true) : (Jvm.Cond.selects "java/lang/StringBuilder" ({ cls := "java/lang/AbstractStringBuilder", name := "ensureCapacityInternal", desc := "(I)V" } : Jvm.MethodName) ({ cls := "java/lang/AbstractStringBuilder", name := "ensureCapacityInternal", desc := "(I)V" } : Jvm.MethodName)).before a0 Z = true := hw _ (List.mem_of_getElem? (i := 92) rfl)
theorem w93 {Z : State} {a0 : Array Value} (hw : ∀ d ∈ tables_1, d.before a0 Z = true) : (Jvm.Cond.code ({ cls := "java/lang/AbstractStringBuilder", name := "ensureCapacityInternal", desc := "(I)V" } : Jvm.MethodName) jdk_68_method_9_code (3 : Nat) (Option.none : Option Jvm.ClassFile.FieldType)).before a0 Z = true := hw _ (List.mem_of_getElem? (i := 93) rfl)
theorem w94 {Z : State} {a0 : Array Value} (hw : ∀ d ∈ tables_1, d.before a0 Z = true) : (Jvm.Cond.methodLink "java/lang/AbstractStringBuilder" (208 : Nat) ({ cls := "java/lang/AbstractStringBuilder", name := "putStringAt", desc := "(ILjava/lang/String;)V" } : Jvm.MethodName)).before a0 Z = true := hw _ (List.mem_of_getElem? (i := 94) rfl)
theorem w95 {Z : State} {a0 : Array Value} (hw : ∀ d ∈ tables_1, d.before a0 Z = true) : (Jvm.Cond.instanceMethod ({ cls := "java/lang/AbstractStringBuilder", name := "putStringAt", desc := "(ILjava/lang/String;)V" } : Jvm.MethodName)).before a0 Z = true := hw _ (List.mem_of_getElem? (i := 95) rfl)
theorem w96 {Z : State} {a0 : Array Value} (hw : ∀ d ∈ tables_1, d.before a0 Z = true) : (Jvm.Cond.privateMethod ({ cls := "java/lang/AbstractStringBuilder", name := "putStringAt", desc := "(ILjava/lang/String;)V" } : Jvm.MethodName)).before a0 Z = true := hw _ (List.mem_of_getElem? (i := 96) rfl)
theorem w97 {Z : State} {a0 : Array Value} (hw : ∀ d ∈ tables_1, d.before a0 Z = true) : (Jvm.Cond.selects "java/lang/StringBuilder" ({ cls := "java/lang/AbstractStringBuilder", name := "putStringAt", desc := "(ILjava/lang/String;)V" } : Jvm.MethodName) ({ cls := "java/lang/AbstractStringBuilder", name := "putStringAt", desc := "(ILjava/lang/String;)V" } : Jvm.MethodName)).before a0 Z = true := hw _ (List.mem_of_getElem? (i := 97) rfl)
theorem w98 {Z : State} {a0 : Array Value} (hw : ∀ d ∈ tables_1, d.before a0 Z = true) : (Jvm.Cond.code ({ cls := "java/lang/AbstractStringBuilder", name := "putStringAt", desc := "(ILjava/lang/String;)V" } : Jvm.MethodName) jdk_68_method_73_code (3 : Nat) (Option.none : Option Jvm.ClassFile.FieldType)).before a0 Z = true := hw _ (List.mem_of_getElem? (i := 98) rfl)
theorem w99 {Z : State} {a0 : Array Value} (hw : ∀ d ∈ tables_1, d.before a0 Z = true) : (Jvm.Cond.methodLink "java/lang/AbstractStringBuilder" (397 : Nat) ({ cls := "java/lang/AbstractStringBuilder", name := "inflateIfNeededFor", desc := "(Ljava/lang/String;)V" } : Jvm.MethodName)).before a0 Z = true := hw _ (List.mem_of_getElem? (i := 99) rfl)
theorem w100 {Z : State} {a0 : Array Value} (hw : ∀ d ∈ tables_1, d.before a0 Z = true) : (Jvm.Cond.instanceMethod ({ cls := "java/lang/AbstractStringBuilder", name := "inflateIfNeededFor", desc := "(Ljava/lang/String;)V" } : Jvm.MethodName)).before a0 Z = true := hw _ (List.mem_of_getElem? (i := 100) rfl)
theorem w101 {Z : State} {a0 : Array Value} (hw : ∀ d ∈ tables_1, d.before a0 Z = true) : (Jvm.Cond.privateMethod ({ cls := "java/lang/AbstractStringBuilder", name := "inflateIfNeededFor", desc := "(Ljava/lang/String;)V" } : Jvm.MethodName)).before a0 Z = true := hw _ (List.mem_of_getElem? (i := 101) rfl)
theorem w102 {Z : State} {a0 : Array Value} (hw : ∀ d ∈ tables_1, d.before a0 Z = true) : (Jvm.Cond.selects "java/lang/StringBuilder" ({ cls := "java/lang/AbstractStringBuilder", name := "inflateIfNeededFor", desc := "(Ljava/lang/String;)V" } : Jvm.MethodName) ({ cls := "java/lang/AbstractStringBuilder", name := "inflateIfNeededFor", desc := "(Ljava/lang/String;)V" } : Jvm.MethodName)).before a0 Z = true := hw _ (List.mem_of_getElem? (i := 102) rfl)
theorem w103 {Z : State} {a0 : Array Value} (hw : ∀ d ∈ tables_1, d.before a0 Z = true) : (Jvm.Cond.code ({ cls := "java/lang/AbstractStringBuilder", name := "inflateIfNeededFor", desc := "(Ljava/lang/String;)V" } : Jvm.MethodName) jdk_68_method_71_code (2 : Nat) (Option.none : Option Jvm.ClassFile.FieldType)).before a0 Z = true := hw _ (List.mem_of_getElem? (i := 103) rfl)
theorem w104 {Z : State} {a0 : Array Value} (hw : ∀ d ∈ tables_1, d.before a0 Z = true) : (Jvm.Cond.methodLink "java/lang/AbstractStringBuilder" (40 : Nat) ({ cls := "java/lang/String", name := "coder", desc := "()B" } : Jvm.MethodName)).before a0 Z = true := hw _ (List.mem_of_getElem? (i := 104) rfl)
theorem w105 {Z : State} {a0 : Array Value} (hw : ∀ d ∈ tables_1, d.before a0 Z = true) : (Jvm.Cond.methodLink "java/lang/AbstractStringBuilder" (399 : Nat) ({ cls := "java/lang/String", name := "getBytes", desc := "([BIB)V" } : Jvm.MethodName)).before a0 Z = true := hw _ (List.mem_of_getElem? (i := 105) rfl)
theorem w106 {Z : State} {a0 : Array Value} (hw : ∀ d ∈ tables_1, d.before a0 Z = true) : (Jvm.Cond.declares ({ cls := "java/lang/String", name := "getBytes", desc := "([BIB)V" } : Jvm.MethodName)).before a0 Z = true := hw _ (List.mem_of_getElem? (i := 106) rfl)
theorem w107 {Z : State} {a0 : Array Value} (hw : ∀ d ∈ tables_1, d.before a0 Z = true) : (Jvm.Cond.instanceMethod ({ cls := "java/lang/String", name := "getBytes", desc := "([BIB)V" } : Jvm.MethodName)).before a0 Z = true := hw _ (List.mem_of_getElem? (i := 107) rfl)
theorem w108 {Z : State} {a0 : Array Value} (hw : ∀ d ∈ tables_1, d.before a0 Z = true) : (Jvm.Cond.selects "java/lang/String" ({ cls := "java/lang/String", name := "getBytes", desc := "([BIB)V" } : Jvm.MethodName) ({ cls := "java/lang/String", name := "getBytes", desc := "([BIB)V" } : Jvm.MethodName)).before a0 Z = true := hw _ (List.mem_of_getElem? (i := 108) rfl)
theorem w109 {Z : State} {a0 : Array Value} (hw : ∀ d ∈ tables_1, d.before a0 Z = true) : (Jvm.Cond.code ({ cls := "java/lang/String", name := "getBytes", desc := "([BIB)V" } : Jvm.MethodName) jdk_42_method_147_code (4 : Nat) (Option.none : Option Jvm.ClassFile.FieldType)).before a0 Z = true := hw _ (List.mem_of_getElem? (i := 109) rfl)
theorem w110 {Z : State} {a0 : Array Value} (hw : ∀ d ∈ tables_1, d.before a0 Z = true) : (Jvm.Cond.methodLink "java/lang/String" (212 : Nat) ({ cls := "java/lang/System", name := "arraycopy", desc := "(Ljava/lang/Object;ILjava/lang/Object;II)V" } : Jvm.MethodName)).before a0 Z = true := hw _ (List.mem_of_getElem? (i := 110) rfl)
theorem w111 {Z : State} {a0 : Array Value} (hw : ∀ d ∈ tables_1, d.before a0 Z = true) : (Jvm.Cond.static ({ cls := "java/lang/System", name := "arraycopy", desc := "(Ljava/lang/Object;ILjava/lang/Object;II)V" } : Jvm.MethodName)).before a0 Z = true := hw _ (List.mem_of_getElem? (i := 111) rfl)
theorem w112 {Z : State} {a0 : Array Value} (hw : ∀ d ∈ tables_1, d.before a0 Z = true) : (Jvm.Cond.initialized "java/lang/System").before a0 Z = true := hw _ (List.mem_of_getElem? (i := 112) rfl)
theorem w113 {Z : State} {a0 : Array Value} (hw : ∀ d ∈ tables_1, d.before a0 Z = true) : (Jvm.Cond.native ({ cls := "java/lang/System", name := "arraycopy", desc := "(Ljava/lang/Object;ILjava/lang/Object;II)V" } : Jvm.MethodName)).before a0 Z = true := hw _ (List.mem_of_getElem? (i := 113) rfl)
theorem w114 {Z : State} {a0 : Array Value} (hw : ∀ d ∈ tables_1, d.before a0 Z = true) : (Jvm.Cond.stringLink "com/example/lease/lease/core/InvalidFieldException" (11 : Nat) ": ").before a0 Z = true := hw _ (List.mem_of_getElem? (i := 114) rfl)
theorem w115 {Z : State} {a0 : Array Value} (hw : ∀ d ∈ tables_1, d.before a0 Z = true) : (Jvm.Cond.methodLink "com/example/lease/lease/core/InvalidFieldException" (13 : Nat) ({ cls := "java/lang/StringBuilder", name := "toString", desc := "()Ljava/lang/String;" } : Jvm.MethodName)).before a0 Z = true := hw _ (List.mem_of_getElem? (i := 115) rfl)
theorem w116 {Z : State} {a0 : Array Value} (hw : ∀ d ∈ tables_1, d.before a0 Z = true) : (Jvm.Cond.declares ({ cls := "java/lang/StringBuilder", name := "toString", desc := "()Ljava/lang/String;" } : Jvm.MethodName)).before a0 Z = true := hw _ (List.mem_of_getElem? (i := 116) rfl)
theorem w117 {Z : State} {a0 : Array Value} (hw : ∀ d ∈ tables_1, d.before a0 Z = true) : (Jvm.Cond.instanceMethod ({ cls := "java/lang/StringBuilder", name := "toString", desc := "()Ljava/lang/String;" } : Jvm.MethodName)).before a0 Z = true := hw _ (List.mem_of_getElem? (i := 117) rfl)
theorem w118 {Z : State} {a0 : Array Value} (hw : ∀ d ∈ tables_1, d.before a0 Z = true) : (Jvm.Cond.selects "java/lang/StringBuilder" ({ cls := "java/lang/StringBuilder", name := "toString", desc := "()Ljava/lang/String;" } : Jvm.MethodName) ({ cls := "java/lang/StringBuilder", name := "toString", desc := "()Ljava/lang/String;" } : Jvm.MethodName)).before a0 Z = true := hw _ (List.mem_of_getElem? (i := 118) rfl)
theorem w119 {Z : State} {a0 : Array Value} (hw : ∀ d ∈ tables_1, d.before a0 Z = true) : (Jvm.Cond.code ({ cls := "java/lang/StringBuilder", name := "toString", desc := "()Ljava/lang/String;" } : Jvm.MethodName) jdk_67_method_42_code (1 : Nat) (Option.some (Jvm.ClassFile.FieldType.object "java/lang/String"))).before a0 Z = true := hw _ (List.mem_of_getElem? (i := 119) rfl)
theorem w120 {Z : State} {a0 : Array Value} (hw : ∀ d ∈ tables_1, d.before a0 Z = true) : (Jvm.Cond.classLink "java/lang/StringBuilder" (18 : Nat) "java/lang/String").before a0 Z = true := hw _ (List.mem_of_getElem? (i := 120) rfl)
theorem w121 {Z : State} {a0 : Array Value} (hw : ∀ d ∈ tables_1, d.before a0 Z = true) : (Jvm.Cond.methodLink "java/lang/StringBuilder" (137 : Nat) ({ cls := "java/lang/String", name := "<init>", desc := "(Ljava/lang/StringBuilder;)V" } : Jvm.MethodName)).before a0 Z = true := hw _ (List.mem_of_getElem? (i := 121) rfl)
theorem w122 {Z : State} {a0 : Array Value} (hw : ∀ d ∈ tables_1, d.before a0 Z = true) : (Jvm.Cond.instanceMethod ({ cls := "java/lang/String", name := "<init>", desc := "(Ljava/lang/StringBuilder;)V" } : Jvm.MethodName)).before a0 Z = true := hw _ (List.mem_of_getElem? (i := 122) rfl)
theorem w123 {Z : State} {a0 : Array Value} (hw : ∀ d ∈ tables_1, d.before a0 Z = true) : (Jvm.Cond.code ({ cls := "java/lang/String", name := "<init>", desc := "(Ljava/lang/StringBuilder;)V" } : Jvm.MethodName) jdk_42_method_53_code (2 : Nat) (Option.none : Option Jvm.ClassFile.FieldType)).before a0 Z = true := hw _ (List.mem_of_getElem? (i := 123) rfl)
theorem w124 {Z : State} {a0 : Array Value} (hw : ∀ d ∈ tables_1, d.before a0 Z = true) : (Jvm.Cond.methodLink "java/lang/String" (489 : Nat) ({ cls := "java/lang/String", name := "<init>", desc := "(Ljava/lang/AbstractStringBuilder;Ljava/lang/Void;)V" } : Jvm.MethodName)).before a0 Z = true := hw _ (List.mem_of_getElem? (i := 124) rfl)
theorem w125 {Z : State} {a0 : Array Value} (hw : ∀ d ∈ tables_1, d.before a0 Z = true) : (Jvm.Cond.instanceMethod ({ cls := "java/lang/String", name := "<init>", desc := "(Ljava/lang/AbstractStringBuilder;Ljava/lang/Void;)V" } : Jvm.MethodName)).before a0 Z = true := hw _ (List.mem_of_getElem? (i := 125) rfl)
theorem w126 {Z : State} {a0 : Array Value} (hw : ∀ d ∈ tables_1, d.before a0 Z = true) : (Jvm.Cond.code ({ cls := "java/lang/String", name := "<init>", desc := "(Ljava/lang/AbstractStringBuilder;Ljava/lang/Void;)V" } : Jvm.MethodName) jdk_42_method_150_code (5 : Nat) (Option.none : Option Jvm.ClassFile.FieldType)).before a0 Z = true := hw _ (List.mem_of_getElem? (i := 126) rfl)
theorem w127 {Z : State} {a0 : Array Value} (hw : ∀ d ∈ tables_1, d.before a0 Z = true) : (Jvm.Cond.methodLink "java/lang/String" (552 : Nat) ({ cls := "java/lang/AbstractStringBuilder", name := "getValue", desc := "()[B" } : Jvm.MethodName)).before a0 Z = true := hw _ (List.mem_of_getElem? (i := 127) rfl)
theorem w128 {Z : State} {a0 : Array Value} (hw : ∀ d ∈ tables_1, d.before a0 Z = true) : (Jvm.Cond.declares ({ cls := "java/lang/AbstractStringBuilder", name := "getValue", desc := "()[B" } : Jvm.MethodName)).before a0 Z = true := hw _ (List.mem_of_getElem? (i := 128) rfl)
theorem w129 {Z : State} {a0 : Array Value} (hw : ∀ d ∈ tables_1, d.before a0 Z = true) : (Jvm.Cond.instanceMethod ({ cls := "java/lang/AbstractStringBuilder", name := "getValue", desc := "()[B" } : Jvm.MethodName)).before a0 Z = true := hw _ (List.mem_of_getElem? (i := 129) rfl)
theorem w130 {Z : State} {a0 : Array Value} (hw : ∀ d ∈ tables_1, d.before a0 Z = true) : (Jvm.Cond.selects "java/lang/StringBuilder" ({ cls := "java/lang/AbstractStringBuilder", name := "getValue", desc := "()[B" } : Jvm.MethodName) ({ cls := "java/lang/AbstractStringBuilder", name := "getValue", desc := "()[B" } : Jvm.MethodName)).before a0 Z = true := hw _ (List.mem_of_getElem? (i := 130) rfl)
theorem w131 {Z : State} {a0 : Array Value} (hw : ∀ d ∈ tables_1, d.before a0 Z = true) : (Jvm.Cond.code ({ cls := "java/lang/AbstractStringBuilder", name := "getValue", desc := "()[B" } : Jvm.MethodName) jdk_68_method_64_code (1 : Nat) (Option.some (Jvm.ClassFile.FieldType.array Jvm.ClassFile.FieldType.byte))).before a0 Z = true := hw _ (List.mem_of_getElem? (i := 131) rfl)
theorem w132 {Z : State} {a0 : Array Value} (hw : ∀ d ∈ tables_1, d.before a0 Z = true) : (Jvm.Cond.methodLink "java/lang/String" (549 : Nat) ({ cls := "java/lang/AbstractStringBuilder", name := "length", desc := "()I" } : Jvm.MethodName)).before a0 Z = true := hw _ (List.mem_of_getElem? (i := 132) rfl)
theorem w133 {Z : State} {a0 : Array Value} (hw : ∀ d ∈ tables_1, d.before a0 Z = true) : (Jvm.Cond.declares ({ cls := "java/lang/AbstractStringBuilder", name := "length", desc := "()I" } : Jvm.MethodName)).before a0 Z = true := hw _ (List.mem_of_getElem? (i := 133) rfl)
theorem w134 {Z : State} {a0 : Array Value} (hw : ∀ d ∈ tables_1, d.before a0 Z = true) : (Jvm.Cond.instanceMethod ({ cls := "java/lang/AbstractStringBuilder", name := "length", desc := "()I" } : Jvm.MethodName)).before a0 Z = true := hw _ (List.mem_of_getElem? (i := 134) rfl)
theorem w135 {Z : State} {a0 : Array Value} (hw : ∀ d ∈ tables_1, d.before a0 Z = true) : (Jvm.Cond.selects "java/lang/StringBuilder" ({ cls := "java/lang/AbstractStringBuilder", name := "length", desc := "()I" } : Jvm.MethodName) ({ cls := "java/lang/StringBuilder", name := "length", desc := "()I" } : Jvm.MethodName)).before a0 Z = true := hw _ (List.mem_of_getElem? (i := 135) rfl)
theorem w136 {Z : State} {a0 : Array Value} (hw : ∀ d ∈ tables_1, d.before a0 Z = true) : (Jvm.Cond.instanceMethod ({ cls := "java/lang/StringBuilder", name := "length", desc := "()I" } : Jvm.MethodName)).before a0 Z = true := hw _ (List.mem_of_getElem? (i := 136) rfl)
theorem w137 {Z : State} {a0 : Array Value} (hw : ∀ d ∈ tables_1, d.before a0 Z = true) : (Jvm.Cond.code ({ cls := "java/lang/StringBuilder", name := "length", desc := "()I" } : Jvm.MethodName) jdk_67_method_93_code (1 : Nat) (Option.some Jvm.ClassFile.FieldType.int)).before a0 Z = true := hw _ (List.mem_of_getElem? (i := 137) rfl)
theorem w138 {Z : State} {a0 : Array Value} (hw : ∀ d ∈ tables_1, d.before a0 Z = true) : (Jvm.Cond.methodLink "java/lang/StringBuilder" (343 : Nat) ({ cls := "java/lang/AbstractStringBuilder", name := "length", desc := "()I" } : Jvm.MethodName)).before a0 Z = true := hw _ (List.mem_of_getElem? (i := 138) rfl)
theorem w139 {Z : State} {a0 : Array Value} (hw : ∀ d ∈ tables_1, d.before a0 Z = true) : (Jvm.Cond.code ({ cls := "java/lang/AbstractStringBuilder", name := "length", desc := "()I" } : Jvm.MethodName) jdk_68_method_6_code (1 : Nat) (Option.some Jvm.ClassFile.FieldType.int)).before a0 Z = true := hw _ (List.mem_of_getElem? (i := 139) rfl)
theorem w140 {Z : State} {a0 : Array Value} (hw : ∀ d ∈ tables_1, d.before a0 Z = true) : (Jvm.Cond.methodLink "java/lang/String" (1047 : Nat) ({ cls := "java/lang/AbstractStringBuilder", name := "isLatin1", desc := "()Z" } : Jvm.MethodName)).before a0 Z = true := hw _ (List.mem_of_getElem? (i := 140) rfl)
theorem w141 {Z : State} {a0 : Array Value} (hw : ∀ d ∈ tables_1, d.before a0 Z = true) : (Jvm.Cond.declares ({ cls := "java/lang/AbstractStringBuilder", name := "isLatin1", desc := "()Z" } : Jvm.MethodName)).before a0 Z = true := hw _ (List.mem_of_getElem? (i := 141) rfl)
theorem w142 {Z : State} {a0 : Array Value} (hw : ∀ d ∈ tables_1, d.before a0 Z = true) : (Jvm.Cond.instanceMethod ({ cls := "java/lang/AbstractStringBuilder", name := "isLatin1", desc := "()Z" } : Jvm.MethodName)).before a0 Z = true := hw _ (List.mem_of_getElem? (i := 142) rfl)
theorem w143 {Z : State} {a0 : Array Value} (hw : ∀ d ∈ tables_1, d.before a0 Z = true) : (Jvm.Cond.selects "java/lang/StringBuilder" ({ cls := "java/lang/AbstractStringBuilder", name := "isLatin1", desc := "()Z" } : Jvm.MethodName) ({ cls := "java/lang/AbstractStringBuilder", name := "isLatin1", desc := "()Z" } : Jvm.MethodName)).before a0 Z = true := hw _ (List.mem_of_getElem? (i := 143) rfl)
theorem w144 {Z : State} {a0 : Array Value} (hw : ∀ d ∈ tables_1, d.before a0 Z = true) : (Jvm.Cond.code ({ cls := "java/lang/AbstractStringBuilder", name := "isLatin1", desc := "()Z" } : Jvm.MethodName) jdk_68_method_68_code (1 : Nat) (Option.some Jvm.ClassFile.FieldType.boolean)).before a0 Z = true := hw _ (List.mem_of_getElem? (i := 144) rfl)
theorem w145 {Z : State} {a0 : Array Value} (hw : ∀ d ∈ tables_1, d.before a0 Z = true) : (Jvm.Cond.methodLink "java/lang/String" (54 : Nat) ({ cls := "java/util/Arrays", name := "copyOfRange", desc := "([BII)[B" } : Jvm.MethodName)).before a0 Z = true := hw _ (List.mem_of_getElem? (i := 145) rfl)
theorem w146 {Z : State} {a0 : Array Value} (hw : ∀ d ∈ tables_1, d.before a0 Z = true) : (Jvm.Cond.static ({ cls := "java/util/Arrays", name := "copyOfRange", desc := "([BII)[B" } : Jvm.MethodName)).before a0 Z = true := hw _ (List.mem_of_getElem? (i := 146) rfl)
theorem w147 {Z : State} {a0 : Array Value} (hw : ∀ d ∈ tables_1, d.before a0 Z = true) : (Jvm.Cond.initialized "java/util/Arrays").before a0 Z = true := hw _ (List.mem_of_getElem? (i := 147) rfl)
theorem w148 {Z : State} {a0 : Array Value} (hw : ∀ d ∈ tables_1, d.before a0 Z = true) : (Jvm.Cond.code ({ cls := "java/util/Arrays", name := "copyOfRange", desc := "([BII)[B" } : Jvm.MethodName) jdk_65_method_132_code (3 : Nat) (Option.some (Jvm.ClassFile.FieldType.array Jvm.ClassFile.FieldType.byte))).before a0 Z = true := hw _ (List.mem_of_getElem? (i := 148) rfl)
theorem w149 {Z : State} {a0 : Array Value} (hw : ∀ d ∈ tables_1, d.before a0 Z = true) : (Jvm.Cond.methodLink "java/util/Arrays" (339 : Nat) ({ cls := "java/util/Arrays", name := "copyOfRangeByte", desc := "([BII)[B" } : Jvm.MethodName)).before a0 Z = true := hw _ (List.mem_of_getElem? (i := 149) rfl)
theorem w150 {Z : State} {a0 : Array Value} (hw : ∀ d ∈ tables_1, d.before a0 Z = true) : (Jvm.Cond.static ({ cls := "java/util/Arrays", name := "copyOfRangeByte", desc := "([BII)[B" } : Jvm.MethodName)).before a0 Z = true := hw _ (List.mem_of_getElem? (i := 150) rfl)
theorem w151 {Z : State} {a0 : Array Value} (hw : ∀ d ∈ tables_1, d.before a0 Z = true) : (Jvm.Cond.code ({ cls := "java/util/Arrays", name := "copyOfRangeByte", desc := "([BII)[B" } : Jvm.MethodName) jdk_65_method_133_code (5 : Nat) (Option.some (Jvm.ClassFile.FieldType.array Jvm.ClassFile.FieldType.byte))).before a0 Z = true := hw _ (List.mem_of_getElem? (i := 151) rfl)
theorem w152 {Z : State} {a0 : Array Value} (hw : ∀ d ∈ tables_1, d.before a0 Z = true) : (Jvm.Cond.methodLink "java/util/Arrays" (343 : Nat) ({ cls := "java/util/Arrays", name := "checkLength", desc := "(II)V" } : Jvm.MethodName)).before a0 Z = true := hw _ (List.mem_of_getElem? (i := 152) rfl)
theorem w153 {Z : State} {a0 : Array Value} (hw : ∀ d ∈ tables_1, d.before a0 Z = true) : (Jvm.Cond.static ({ cls := "java/util/Arrays", name := "checkLength", desc := "(II)V" } : Jvm.MethodName)).before a0 Z = true := hw _ (List.mem_of_getElem? (i := 153) rfl)
theorem w154 {Z : State} {a0 : Array Value} (hw : ∀ d ∈ tables_1, d.before a0 Z = true) : (Jvm.Cond.code ({ cls := "java/util/Arrays", name := "checkLength", desc := "(II)V" } : Jvm.MethodName) jdk_65_method_131_code (2 : Nat) (Option.none : Option Jvm.ClassFile.FieldType)).before a0 Z = true := hw _ (List.mem_of_getElem? (i := 154) rfl)
theorem w155 {Z : State} {a0 : Array Value} (hw : ∀ d ∈ tables_1, d.before a0 Z = true) : (Jvm.Cond.methodLink "java/util/Arrays" (304 : Nat) ({ cls := "java/lang/Math", name := "min", desc := "(II)I" } : Jvm.MethodName)).before a0 Z = true := hw _ (List.mem_of_getElem? (i := 155) rfl)
theorem w156 {Z : State} {a0 : Array Value} (hw : ∀ d ∈ tables_1, d.before a0 Z = true) : (Jvm.Cond.static ({ cls := "java/lang/Math", name := "min", desc := "(II)I" } : Jvm.MethodName)).before a0 Z = true := hw _ (List.mem_of_getElem? (i := 156) rfl)
theorem w157 {Z : State} {a0 : Array Value} (hw : ∀ d ∈ tables_1, d.before a0 Z = true) : (Jvm.Cond.initialized "java/lang/Math").before a0 Z = true := hw _ (List.mem_of_getElem? (i := 157) rfl)
theorem w158 {Z : State} {a0 : Array Value} (hw : ∀ d ∈ tables_1, d.before a0 Z = true) : (Jvm.Cond.code ({ cls := "java/lang/Math", name := "min", desc := "(II)I" } : Jvm.MethodName) jdk_29_method_69_code (2 : Nat) (Option.some Jvm.ClassFile.FieldType.int)).before a0 Z = true := hw _ (List.mem_of_getElem? (i := 158) rfl)
theorem w159 {Z : State} {a0 : Array Value} (hw : ∀ d ∈ tables_1, d.before a0 Z = true) : (Jvm.Cond.methodLink "java/util/Arrays" (150 : Nat) ({ cls := "java/lang/System", name := "arraycopy", desc := "(Ljava/lang/Object;ILjava/lang/Object;II)V" } : Jvm.MethodName)).before a0 Z = true := hw _ (List.mem_of_getElem? (i := 159) rfl)
theorem w160 {Z : State} {a0 : Array Value} (hw : ∀ d ∈ tables_1, d.before a0 Z = true) : (Jvm.Cond.methodLink "com/example/lease/lease/core/InvalidFieldException" (17 : Nat) ({ cls := "java/lang/IllegalArgumentException", name := "<init>", desc := "(Ljava/lang/String;)V" } : Jvm.MethodName)).before a0 Z = true := hw _ (List.mem_of_getElem? (i := 160) rfl)
theorem w161 {Z : State} {a0 : Array Value} (hw : ∀ d ∈ tables_1, d.before a0 Z = true) : (Jvm.Cond.instanceMethod ({ cls := "java/lang/IllegalArgumentException", name := "<init>", desc := "(Ljava/lang/String;)V" } : Jvm.MethodName)).before a0 Z = true := hw _ (List.mem_of_getElem? (i := 161) rfl)
theorem w163 {Z : State} {a0 : Array Value} (hw : ∀ d ∈ tables_1, d.before a0 Z = true) : (Jvm.Cond.initialized "java/lang/IllegalArgumentException").before a0 Z = true := hw _ (List.mem_of_getElem? (i := 163) rfl)
theorem w164 {Z : State} {a0 : Array Value} (hw : ∀ d ∈ tables_1, d.before a0 Z = true) : (Jvm.Cond.code ({ cls := "java/lang/IllegalArgumentException", name := "<init>", desc := "(Ljava/lang/String;)V" } : Jvm.MethodName) jdk_57_method_2_code (2 : Nat) (Option.none : Option Jvm.ClassFile.FieldType)).before a0 Z = true := hw _ (List.mem_of_getElem? (i := 164) rfl)
theorem w165 {Z : State} {a0 : Array Value} (hw : ∀ d ∈ tables_1, d.before a0 Z = true) : (Jvm.Cond.methodLink "java/lang/IllegalArgumentException" (7 : Nat) ({ cls := "java/lang/RuntimeException", name := "<init>", desc := "(Ljava/lang/String;)V" } : Jvm.MethodName)).before a0 Z = true := hw _ (List.mem_of_getElem? (i := 165) rfl)
theorem w166 {Z : State} {a0 : Array Value} (hw : ∀ d ∈ tables_1, d.before a0 Z = true) : (Jvm.Cond.instanceMethod ({ cls := "java/lang/RuntimeException", name := "<init>", desc := "(Ljava/lang/String;)V" } : Jvm.MethodName)).before a0 Z = true := hw _ (List.mem_of_getElem? (i := 166) rfl)
theorem w169 {Z : State} {a0 : Array Value} (hw : ∀ d ∈ tables_1, d.before a0 Z = true) : (Jvm.Cond.initialized "java/lang/RuntimeException").before a0 Z = true := hw _ (List.mem_of_getElem? (i := 169) rfl)
theorem w170 {Z : State} {a0 : Array Value} (hw : ∀ d ∈ tables_1, d.before a0 Z = true) : (Jvm.Cond.code ({ cls := "java/lang/RuntimeException", name := "<init>", desc := "(Ljava/lang/String;)V" } : Jvm.MethodName) jdk_58_method_2_code (2 : Nat) (Option.none : Option Jvm.ClassFile.FieldType)).before a0 Z = true := hw _ (List.mem_of_getElem? (i := 170) rfl)
theorem w171 {Z : State} {a0 : Array Value} (hw : ∀ d ∈ tables_1, d.before a0 Z = true) : (Jvm.Cond.methodLink "java/lang/RuntimeException" (7 : Nat) ({ cls := "java/lang/Exception", name := "<init>", desc := "(Ljava/lang/String;)V" } : Jvm.MethodName)).before a0 Z = true := hw _ (List.mem_of_getElem? (i := 171) rfl)
theorem w172 {Z : State} {a0 : Array Value} (hw : ∀ d ∈ tables_1, d.before a0 Z = true) : (Jvm.Cond.instanceMethod ({ cls := "java/lang/Exception", name := "<init>", desc := "(Ljava/lang/String;)V" } : Jvm.MethodName)).before a0 Z = true := hw _ (List.mem_of_getElem? (i := 172) rfl)
theorem w175 {Z : State} {a0 : Array Value} (hw : ∀ d ∈ tables_1, d.before a0 Z = true) : (Jvm.Cond.initialized "java/lang/Exception").before a0 Z = true := hw _ (List.mem_of_getElem? (i := 175) rfl)
theorem w176 {Z : State} {a0 : Array Value} (hw : ∀ d ∈ tables_1, d.before a0 Z = true) : (Jvm.Cond.code ({ cls := "java/lang/Exception", name := "<init>", desc := "(Ljava/lang/String;)V" } : Jvm.MethodName) jdk_59_method_2_code (2 : Nat) (Option.none : Option Jvm.ClassFile.FieldType)).before a0 Z = true := hw _ (List.mem_of_getElem? (i := 176) rfl)
theorem w177 {Z : State} {a0 : Array Value} (hw : ∀ d ∈ tables_1, d.before a0 Z = true) : (Jvm.Cond.methodLink "java/lang/Exception" (7 : Nat) ({ cls := "java/lang/Throwable", name := "<init>", desc := "(Ljava/lang/String;)V" } : Jvm.MethodName)).before a0 Z = true := hw _ (List.mem_of_getElem? (i := 177) rfl)
theorem w178 {Z : State} {a0 : Array Value} (hw : ∀ d ∈ tables_1, d.before a0 Z = true) : (Jvm.Cond.instanceMethod ({ cls := "java/lang/Throwable", name := "<init>", desc := "(Ljava/lang/String;)V" } : Jvm.MethodName)).before a0 Z = true := hw _ (List.mem_of_getElem? (i := 178) rfl)
theorem w181 {Z : State} {a0 : Array Value} (hw : ∀ d ∈ tables_1, d.before a0 Z = true) : (Jvm.Cond.initialized "java/lang/Throwable").before a0 Z = true := hw _ (List.mem_of_getElem? (i := 181) rfl)
theorem w182 {Z : State} {a0 : Array Value} (hw : ∀ d ∈ tables_1, d.before a0 Z = true) : (Jvm.Cond.code ({ cls := "java/lang/Throwable", name := "<init>", desc := "(Ljava/lang/String;)V" } : Jvm.MethodName) jdk_78_method_2_code (2 : Nat) (Option.none : Option Jvm.ClassFile.FieldType)).before a0 Z = true := hw _ (List.mem_of_getElem? (i := 182) rfl)
theorem w183 {Z : State} {a0 : Array Value} (hw : ∀ d ∈ tables_1, d.before a0 Z = true) : (Jvm.Cond.methodLink "java/lang/Throwable" (1 : Nat) ({ cls := "java/lang/Object", name := "<init>", desc := "()V" } : Jvm.MethodName)).before a0 Z = true := hw _ (List.mem_of_getElem? (i := 183) rfl)
theorem w184 {Z : State} {a0 : Array Value} (hw : ∀ d ∈ tables_1, d.before a0 Z = true) : (Jvm.Cond.fieldLink "java/lang/Throwable" (7 : Nat) "java/lang/Throwable" "cause" "Ljava/lang/Throwable;").before a0 Z = true := hw _ (List.mem_of_getElem? (i := 184) rfl)
theorem w185 {Z : State} {a0 : Array Value} (hw : ∀ d ∈ tables_1, d.before a0 Z = true) : (Jvm.Cond.lays "com/example/lease/lease/core/InvalidFieldException" "java/lang/Throwable" "cause" "Ljava/lang/Throwable;").before a0 Z = true := hw _ (List.mem_of_getElem? (i := 185) rfl)
theorem w186 {Z : State} {a0 : Array Value} (hw : ∀ d ∈ tables_1, d.before a0 Z = true) : (Jvm.Cond.fieldLink "java/lang/Throwable" (13 : Nat) "java/lang/Throwable" "UNASSIGNED_STACK" "[Ljava/lang/StackTraceElement;").before a0 Z = true := hw _ (List.mem_of_getElem? (i := 186) rfl)
theorem w187 {Z : State} {a0 : Array Value} (hw : ∀ d ∈ tables_1, d.before a0 Z = true) : (Jvm.Cond.fieldLink "java/lang/Throwable" (17 : Nat) "java/lang/Throwable" "stackTrace" "[Ljava/lang/StackTraceElement;").before a0 Z = true := hw _ (List.mem_of_getElem? (i := 187) rfl)
theorem w188 {Z : State} {a0 : Array Value} (hw : ∀ d ∈ tables_1, d.before a0 Z = true) : (Jvm.Cond.lays "com/example/lease/lease/core/InvalidFieldException" "java/lang/Throwable" "stackTrace" "[Ljava/lang/StackTraceElement;").before a0 Z = true := hw _ (List.mem_of_getElem? (i := 188) rfl)
theorem w189 {Z : State} {a0 : Array Value} (hw : ∀ d ∈ tables_1, d.before a0 Z = true) : (Jvm.Cond.fieldLink "java/lang/Throwable" (20 : Nat) "java/lang/Throwable" "SUPPRESSED_SENTINEL" "Ljava/util/List;").before a0 Z = true := hw _ (List.mem_of_getElem? (i := 189) rfl)
theorem w190 {Z : State} {a0 : Array Value} (hw : ∀ d ∈ tables_1, d.before a0 Z = true) : (Jvm.Cond.fieldLink "java/lang/Throwable" (24 : Nat) "java/lang/Throwable" "suppressedExceptions" "Ljava/util/List;").before a0 Z = true := hw _ (List.mem_of_getElem? (i := 190) rfl)
theorem w191 {Z : State} {a0 : Array Value} (hw : ∀ d ∈ tables_1, d.before a0 Z = true) : (Jvm.Cond.lays "com/example/lease/lease/core/InvalidFieldException" "java/lang/Throwable" "suppressedExceptions" "Ljava/util/List;").before a0 Z = true := hw _ (List.mem_of_getElem? (i := 191) rfl)
theorem w192 {Z : State} {a0 : Array Value} (hw : ∀ d ∈ tables_1, d.before a0 Z = true) : (Jvm.Cond.methodLink "java/lang/Throwable" (27 : Nat) ({ cls := "java/lang/Throwable", name := "fillInStackTrace", desc := "()Ljava/lang/Throwable;" } : Jvm.MethodName)).before a0 Z = true := hw _ (List.mem_of_getElem? (i := 192) rfl)
theorem w193 {Z : State} {a0 : Array Value} (hw : ∀ d ∈ tables_1, d.before a0 Z = true) : (Jvm.Cond.declares ({ cls := "java/lang/Throwable", name := "fillInStackTrace", desc := "()Ljava/lang/Throwable;" } : Jvm.MethodName)).before a0 Z = true := hw _ (List.mem_of_getElem? (i := 193) rfl)
theorem w194 {Z : State} {a0 : Array Value} (hw : ∀ d ∈ tables_1, d.before a0 Z = true) : (Jvm.Cond.instanceMethod ({ cls := "java/lang/Throwable", name := "fillInStackTrace", desc := "()Ljava/lang/Throwable;" } : Jvm.MethodName)).before a0 Z = true := hw _ (List.mem_of_getElem? (i := 194) rfl)
theorem w195 {Z : State} {a0 : Array Value} (hw : ∀ d ∈ tables_1, d.before a0 Z = true) : (Jvm.Cond.selects "com/example/lease/lease/core/InvalidFieldException" ({ cls := "java/lang/Throwable", name := "fillInStackTrace", desc := "()Ljava/lang/Throwable;" } : Jvm.MethodName) ({ cls := "java/lang/Throwable", name := "fillInStackTrace", desc := "()Ljava/lang/Throwable;" } : Jvm.MethodName)).before a0 Z = true := hw _ (List.mem_of_getElem? (i := 195) rfl)
theorem w196 {Z : State} {a0 : Array Value} (hw : ∀ d ∈ tables_1, d.before a0 Z = true) : (Jvm.Cond.arrayOver (Jvm.ClassFile.FieldType.object "java/lang/Object")).before a0 Z = true := hw _ (List.mem_of_getElem? (i := 196) rfl)
theorem w197 {Z : State} {a0 : Array Value} (hw : ∀ d ∈ tables_1, d.before a0 Z = true) : (Jvm.Cond.soleField "java/lang/Throwable" "backtrace").before a0 Z = true := hw _ (List.mem_of_getElem? (i := 197) rfl)
theorem w198 {Z : State} {a0 : Array Value} (hw : ∀ d ∈ tables_1, d.before a0 Z = true) : (Jvm.Cond.soleField "java/lang/Throwable" "depth").before a0 Z = true := hw _ (List.mem_of_getElem? (i := 198) rfl)
theorem w199 {Z : State} {a0 : Array Value} (hw : ∀ d ∈ tables_1, d.before a0 Z = true) : (Jvm.Cond.superclass "java/lang/Throwable" "java/lang/Object").before a0 Z = true := hw _ (List.mem_of_getElem? (i := 199) rfl)
theorem w200 {Z : State} {a0 : Array Value} (hw : ∀ d ∈ tables_1, d.before a0 Z = true) : (Jvm.Cond.codeSync ({ cls := "java/lang/Throwable", name := "fillInStackTrace", desc := "()Ljava/lang/Throwable;" } : Jvm.MethodName) jdk_78_method_18_code (1 : Nat) (Option.some (Jvm.ClassFile.FieldType.object "java/lang/Throwable"))).before a0 Z = true := hw _ (List.mem_of_getElem? (i := 200) rfl)
theorem w201 {Z : State} {a0 : Array Value} (hw : ∀ d ∈ tables_1, d.before a0 Z = true) : (Jvm.Cond.instanceMethod ({ cls := "java/lang/Throwable", name := "fillInStackTrace", desc := "(I)Ljava/lang/Throwable;" } : Jvm.MethodName)).before a0 Z = true := hw _ (List.mem_of_getElem? (i := 201) rfl)
theorem w202 {Z : State} {a0 : Array Value} (hw : ∀ d ∈ tables_1, d.before a0 Z = true) : (Jvm.Cond.native ({ cls := "java/lang/Throwable", name := "fillInStackTrace", desc := "(I)Ljava/lang/Throwable;" } : Jvm.MethodName)).before a0 Z = true := hw _ (List.mem_of_getElem? (i := 202) rfl)
theorem w205 {Z : State} {a0 : Array Value} (hw : ∀ d ∈ tables_1, d.before a0 Z = true) : (Jvm.Cond.methodLink "java/lang/Throwable" (202 : Nat) ({ cls := "java/lang/Throwable", name := "fillInStackTrace", desc := "(I)Ljava/lang/Throwable;" } : Jvm.MethodName)).before a0 Z = true := hw _ (List.mem_of_getElem? (i := 205) rfl)
theorem w210 {Z : State} {a0 : Array Value} (hw : ∀ d ∈ tables_1, d.before a0 Z = true) : (Jvm.Cond.fieldLink "java/lang/Throwable" (198 : Nat) "java/lang/Throwable" "backtrace" "Ljava/lang/Object;").before a0 Z = true := hw _ (List.mem_of_getElem? (i := 210) rfl)
theorem w212 {Z : State} {a0 : Array Value} (hw : ∀ d ∈ tables_1, d.before a0 Z = true) : (Jvm.Cond.laysStatic "java/lang/Throwable" "UNASSIGNED_STACK" "[Ljava/lang/StackTraceElement;").before a0 Z = true := hw _ (List.mem_of_getElem? (i := 212) rfl)
theorem w213 {Z : State} {a0 : Array Value} (hw : ∀ d ∈ tables_1, d.before a0 Z = true) : (Jvm.Cond.laysStatic "java/lang/Throwable" "SUPPRESSED_SENTINEL" "Ljava/util/List;").before a0 Z = true := hw _ (List.mem_of_getElem? (i := 213) rfl)
theorem w214 {Z : State} {a0 : Array Value} (hw : ∀ d ∈ tables_1, d.before a0 Z = true) : (Jvm.Cond.selects "com/example/lease/lease/core/InvalidFieldException" ({ cls := "java/lang/Throwable", name := "fillInStackTrace", desc := "(I)Ljava/lang/Throwable;" } : Jvm.MethodName) ({ cls := "java/lang/Throwable", name := "fillInStackTrace", desc := "(I)Ljava/lang/Throwable;" } : Jvm.MethodName)).before a0 Z = true := hw _ (List.mem_of_getElem? (i := 214) rfl)
theorem w215 {Z : State} {a0 : Array Value} (hw : ∀ d ∈ tables_1, d.before a0 Z = true) : (Jvm.Cond.lays "com/example/lease/lease/core/InvalidFieldException" "java/lang/Throwable" "detailMessage" "Ljava/lang/String;").before a0 Z = true := hw _ (List.mem_of_getElem? (i := 215) rfl)
theorem w216 {Z : State} {a0 : Array Value} (hw : ∀ d ∈ tables_1, d.before a0 Z = true) : (Jvm.Cond.lays "com/example/lease/lease/core/InvalidFieldException" "java/lang/Throwable" "backtrace" "Ljava/lang/Object;").before a0 Z = true := hw _ (List.mem_of_getElem? (i := 216) rfl)
theorem w217 {Z : State} {a0 : Array Value} (hw : ∀ d ∈ tables_1, d.before a0 Z = true) : (Jvm.Cond.lays "com/example/lease/lease/core/InvalidFieldException" "java/lang/Throwable" "depth" "I").before a0 Z = true := hw _ (List.mem_of_getElem? (i := 217) rfl)
theorem w219 {Z : State} {a0 : Array Value} (hw : ∀ d ∈ tables_1, d.before a0 Z = true) : (Jvm.Cond.fieldLink "java/lang/Throwable" (31 : Nat) "java/lang/Throwable" "detailMessage" "Ljava/lang/String;").before a0 Z = true := hw _ (List.mem_of_getElem? (i := 219) rfl)
theorem w220 {Z : State} {a0 : Array Value} (hw : ∀ d ∈ tables_1, d.before a0 Z = true) : (Jvm.Cond.stringLink "com/example/lease/lease/core/InvalidFieldException" (22 : Nat) "field").before a0 Z = true := hw _ (List.mem_of_getElem? (i := 220) rfl)
theorem w221 {Z : State} {a0 : Array Value} (hw : ∀ d ∈ tables_1, d.before a0 Z = true) : (Jvm.Cond.methodLink "com/example/lease/lease/core/InvalidFieldException" (24 : Nat) ({ cls := "java/util/Objects", name := "requireNonNull", desc := "(Ljava/lang/Object;Ljava/lang/String;)Ljava/lang/Object;" } : Jvm.MethodName)).before a0 Z = true := hw _ (List.mem_of_getElem? (i := 221) rfl)
theorem w222 {Z : State} {a0 : Array Value} (hw : ∀ d ∈ tables_1, d.before a0 Z = true) : (Jvm.Cond.static ({ cls := "java/util/Objects", name := "requireNonNull", desc := "(Ljava/lang/Object;Ljava/lang/String;)Ljava/lang/Object;" } : Jvm.MethodName)).before a0 Z = true := hw _ (List.mem_of_getElem? (i := 222) rfl)
theorem w223 {Z : State} {a0 : Array Value} (hw : ∀ d ∈ tables_1, d.before a0 Z = true) : (Jvm.Cond.initialized "java/util/Objects").before a0 Z = true := hw _ (List.mem_of_getElem? (i := 223) rfl)
theorem w224 {Z : State} {a0 : Array Value} (hw : ∀ d ∈ tables_1, d.before a0 Z = true) : (Jvm.Cond.code ({ cls := "java/util/Objects", name := "requireNonNull", desc := "(Ljava/lang/Object;Ljava/lang/String;)Ljava/lang/Object;" } : Jvm.MethodName) jdk_31_method_11_code (2 : Nat) (Option.some (Jvm.ClassFile.FieldType.object "java/lang/Object"))).before a0 Z = true := hw _ (List.mem_of_getElem? (i := 224) rfl)
theorem w225 {Z : State} {a0 : Array Value} (hw : ∀ d ∈ tables_1, d.before a0 Z = true) : (Jvm.Cond.classLink "com/example/lease/lease/core/InvalidFieldException" (30 : Nat) "java/lang/String").before a0 Z = true := hw _ (List.mem_of_getElem? (i := 225) rfl)
theorem w226 {Z : State} {a0 : Array Value} (hw : ∀ d ∈ tables_1, d.before a0 Z = true) : (Jvm.Cond.fieldLink "com/example/lease/lease/core/InvalidFieldException" (32 : Nat) "com/example/lease/lease/core/InvalidFieldException" "field" "Ljava/lang/String;").before a0 Z = true := hw _ (List.mem_of_getElem? (i := 226) rfl)
theorem w227 {Z : State} {a0 : Array Value} (hw : ∀ d ∈ tables_1, d.before a0 Z = true) : (Jvm.Cond.laysFinal "com/example/lease/lease/core/InvalidFieldException" "com/example/lease/lease/core/InvalidFieldException" "field" "Ljava/lang/String;").before a0 Z = true := hw _ (List.mem_of_getElem? (i := 227) rfl)
theorem w228 {Z : State} {a0 : Array Value} (hw : ∀ d ∈ tables_1, d.before a0 Z = true) : (Jvm.Cond.stringLink "com/example/lease/lease/core/InvalidFieldException" (37 : Nat) "reason").before a0 Z = true := hw _ (List.mem_of_getElem? (i := 228) rfl)
theorem w229 {Z : State} {a0 : Array Value} (hw : ∀ d ∈ tables_1, d.before a0 Z = true) : (Jvm.Cond.fieldLink "com/example/lease/lease/core/InvalidFieldException" (39 : Nat) "com/example/lease/lease/core/InvalidFieldException" "reason" "Ljava/lang/String;").before a0 Z = true := hw _ (List.mem_of_getElem? (i := 229) rfl)
theorem w230 {Z : State} {a0 : Array Value} (hw : ∀ d ∈ tables_1, d.before a0 Z = true) : (Jvm.Cond.laysFinal "com/example/lease/lease/core/InvalidFieldException" "com/example/lease/lease/core/InvalidFieldException" "reason" "Ljava/lang/String;").before a0 Z = true := hw _ (List.mem_of_getElem? (i := 230) rfl)
theorem w231 {Z : State} {a0 : Array Value} (hw : ∀ d ∈ tables_1, d.before a0 Z = true) : (Jvm.Cond.methodLink "com/example/lease/lease/core/InvalidFieldExceptionWithinPinLaw" (27 : Nat) ({ cls := "com/example/lease/lease/core/InvalidFieldException", name := "within", desc := "(Ljava/lang/String;)Lcom/example/lease/lease/core/InvalidFieldException;" } : Jvm.MethodName)).before a0 Z = true := hw _ (List.mem_of_getElem? (i := 231) rfl)
theorem w232 {Z : State} {a0 : Array Value} (hw : ∀ d ∈ tables_1, d.before a0 Z = true) : (Jvm.Cond.declares ({ cls := "com/example/lease/lease/core/InvalidFieldException", name := "within", desc := "(Ljava/lang/String;)Lcom/example/lease/lease/core/InvalidFieldException;" } : Jvm.MethodName)).before a0 Z = true := hw _ (List.mem_of_getElem? (i := 232) rfl)
theorem w233 {Z : State} {a0 : Array Value} (hw : ∀ d ∈ tables_1, d.before a0 Z = true) : (Jvm.Cond.instanceMethod ({ cls := "com/example/lease/lease/core/InvalidFieldException", name := "within", desc := "(Ljava/lang/String;)Lcom/example/lease/lease/core/InvalidFieldException;" } : Jvm.MethodName)).before a0 Z = true := hw _ (List.mem_of_getElem? (i := 233) rfl)
theorem w234 {Z : State} {a0 : Array Value} (hw : ∀ d ∈ tables_1, d.before a0 Z = true) : (Jvm.Cond.selects "com/example/lease/lease/core/InvalidFieldException" ({ cls := "com/example/lease/lease/core/InvalidFieldException", name := "within", desc := "(Ljava/lang/String;)Lcom/example/lease/lease/core/InvalidFieldException;" } : Jvm.MethodName) ({ cls := "com/example/lease/lease/core/InvalidFieldException", name := "within", desc := "(Ljava/lang/String;)Lcom/example/lease/lease/core/InvalidFieldException;" } : Jvm.MethodName)).before a0 Z = true := hw _ (List.mem_of_getElem? (i := 234) rfl)
theorem w235 {Z : State} {a0 : Array Value} (hw : ∀ d ∈ tables_1, d.before a0 Z = true) : (Jvm.Cond.code ({ cls := "com/example/lease/lease/core/InvalidFieldException", name := "within", desc := "(Ljava/lang/String;)Lcom/example/lease/lease/core/InvalidFieldException;" } : Jvm.MethodName) prog_10_method_4_code (2 : Nat) (Option.some (Jvm.ClassFile.FieldType.object "com/example/lease/lease/core/InvalidFieldException"))).before a0 Z = true := hw _ (List.mem_of_getElem? (i := 235) rfl)
theorem w236 {Z : State} {a0 : Array Value} (hw : ∀ d ∈ tables_1, d.before a0 Z = true) : (Jvm.Cond.classLink "com/example/lease/lease/core/InvalidFieldException" (33 : Nat) "com/example/lease/lease/core/InvalidFieldException").before a0 Z = true := hw _ (List.mem_of_getElem? (i := 236) rfl)
theorem w237 {Z : State} {a0 : Array Value} (hw : ∀ d ∈ tables_1, d.before a0 Z = true) : (Jvm.Cond.stringLink "com/example/lease/lease/core/InvalidFieldException" (41 : Nat) ".").before a0 Z = true := hw _ (List.mem_of_getElem? (i := 237) rfl)
theorem w238 {Z : State} {a0 : Array Value} (hw : ∀ d ∈ tables_1, d.before a0 Z = true) : (Jvm.Cond.methodLink "com/example/lease/lease/core/InvalidFieldException" (43 : Nat) ({ cls := "com/example/lease/lease/core/InvalidFieldException", name := "<init>", desc := "(Ljava/lang/String;Ljava/lang/String;)V" } : Jvm.MethodName)).before a0 Z = true := hw _ (List.mem_of_getElem? (i := 238) rfl)
theorem w239 {Z : State} {a0 : Array Value} (hw : ∀ d ∈ tables_1, d.before a0 Z = true) : (Jvm.Cond.methodLink "com/example/lease/lease/core/InvalidFieldExceptionWithinPinLaw" (31 : Nat) ({ cls := "com/example/lease/lease/core/InvalidFieldException", name := "field", desc := "()Ljava/lang/String;" } : Jvm.MethodName)).before a0 Z = true := hw _ (List.mem_of_getElem? (i := 239) rfl)
theorem w240 {Z : State} {a0 : Array Value} (hw : ∀ d ∈ tables_1, d.before a0 Z = true) : (Jvm.Cond.declares ({ cls := "com/example/lease/lease/core/InvalidFieldException", name := "field", desc := "()Ljava/lang/String;" } : Jvm.MethodName)).before a0 Z = true := hw _ (List.mem_of_getElem? (i := 240) rfl)
theorem w241 {Z : State} {a0 : Array Value} (hw : ∀ d ∈ tables_1, d.before a0 Z = true) : (Jvm.Cond.instanceMethod ({ cls := "com/example/lease/lease/core/InvalidFieldException", name := "field", desc := "()Ljava/lang/String;" } : Jvm.MethodName)).before a0 Z = true := hw _ (List.mem_of_getElem? (i := 241) rfl)
theorem w242 {Z : State} {a0 : Array Value} (hw : ∀ d ∈ tables_1, d.before a0 Z = true) : (Jvm.Cond.selects "com/example/lease/lease/core/InvalidFieldException" ({ cls := "com/example/lease/lease/core/InvalidFieldException", name := "field", desc := "()Ljava/lang/String;" } : Jvm.MethodName) ({ cls := "com/example/lease/lease/core/InvalidFieldException", name := "field", desc := "()Ljava/lang/String;" } : Jvm.MethodName)).before a0 Z = true := hw _ (List.mem_of_getElem? (i := 242) rfl)
theorem w243 {Z : State} {a0 : Array Value} (hw : ∀ d ∈ tables_1, d.before a0 Z = true) : (Jvm.Cond.code ({ cls := "com/example/lease/lease/core/InvalidFieldException", name := "field", desc := "()Ljava/lang/String;" } : Jvm.MethodName) prog_10_method_2_code (1 : Nat) (Option.some (Jvm.ClassFile.FieldType.object "java/lang/String"))).before a0 Z = true := hw _ (List.mem_of_getElem? (i := 243) rfl)
theorem w244 {Z : State} {a0 : Array Value} (hw : ∀ d ∈ tables_1, d.before a0 Z = true) : (Jvm.Cond.methodLink "com/example/lease/lease/core/InvalidFieldExceptionWithinPinLaw" (35 : Nat) ({ cls := "java/lang/String", name := "equals", desc := "(Ljava/lang/Object;)Z" } : Jvm.MethodName)).before a0 Z = true := hw _ (List.mem_of_getElem? (i := 244) rfl)
theorem w245 {Z : State} {a0 : Array Value} (hw : ∀ d ∈ tables_1, d.before a0 Z = true) : (Jvm.Cond.declares ({ cls := "java/lang/String", name := "equals", desc := "(Ljava/lang/Object;)Z" } : Jvm.MethodName)).before a0 Z = true := hw _ (List.mem_of_getElem? (i := 245) rfl)
theorem w246 {Z : State} {a0 : Array Value} (hw : ∀ d ∈ tables_1, d.before a0 Z = true) : (Jvm.Cond.instanceMethod ({ cls := "java/lang/String", name := "equals", desc := "(Ljava/lang/Object;)Z" } : Jvm.MethodName)).before a0 Z = true := hw _ (List.mem_of_getElem? (i := 246) rfl)
theorem w247 {Z : State} {a0 : Array Value} (hw : ∀ d ∈ tables_1, d.before a0 Z = true) : (Jvm.Cond.selects "java/lang/String" ({ cls := "java/lang/String", name := "equals", desc := "(Ljava/lang/Object;)Z" } : Jvm.MethodName) ({ cls := "java/lang/String", name := "equals", desc := "(Ljava/lang/Object;)Z" } : Jvm.MethodName)).before a0 Z = true := hw _ (List.mem_of_getElem? (i := 247) rfl)
theorem w248 {Z : State} {a0 : Array Value} (hw : ∀ d ∈ tables_1, d.before a0 Z = true) : (Jvm.Cond.code ({ cls := "java/lang/String", name := "equals", desc := "(Ljava/lang/Object;)Z" } : Jvm.MethodName) jdk_42_method_66_code (3 : Nat) (Option.some Jvm.ClassFile.FieldType.boolean)).before a0 Z = true := hw _ (List.mem_of_getElem? (i := 248) rfl)
theorem w254 {Z : State} {a0 : Array Value} (hw : ∀ d ∈ tables_1, d.before a0 Z = true) : (Jvm.Cond.methodLink "com/example/lease/lease/core/InvalidFieldExceptionWithinPinLaw" (39 : Nat) ({ cls := "com/example/lease/lease/core/InvalidFieldException", name := "reason", desc := "()Ljava/lang/String;" } : Jvm.MethodName)).before a0 Z = true := hw _ (List.mem_of_getElem? (i := 254) rfl)
theorem w255 {Z : State} {a0 : Array Value} (hw : ∀ d ∈ tables_1, d.before a0 Z = true) : (Jvm.Cond.declares ({ cls := "com/example/lease/lease/core/InvalidFieldException", name := "reason", desc := "()Ljava/lang/String;" } : Jvm.MethodName)).before a0 Z = true := hw _ (List.mem_of_getElem? (i := 255) rfl)
theorem w256 {Z : State} {a0 : Array Value} (hw : ∀ d ∈ tables_1, d.before a0 Z = true) : (Jvm.Cond.instanceMethod ({ cls := "com/example/lease/lease/core/InvalidFieldException", name := "reason", desc := "()Ljava/lang/String;" } : Jvm.MethodName)).before a0 Z = true := hw _ (List.mem_of_getElem? (i := 256) rfl)
theorem w257 {Z : State} {a0 : Array Value} (hw : ∀ d ∈ tables_1, d.before a0 Z = true) : (Jvm.Cond.selects "com/example/lease/lease/core/InvalidFieldException" ({ cls := "com/example/lease/lease/core/InvalidFieldException", name := "reason", desc := "()Ljava/lang/String;" } : Jvm.MethodName) ({ cls := "com/example/lease/lease/core/InvalidFieldException", name := "reason", desc := "()Ljava/lang/String;" } : Jvm.MethodName)).before a0 Z = true := hw _ (List.mem_of_getElem? (i := 257) rfl)
theorem w258 {Z : State} {a0 : Array Value} (hw : ∀ d ∈ tables_1, d.before a0 Z = true) : (Jvm.Cond.code ({ cls := "com/example/lease/lease/core/InvalidFieldException", name := "reason", desc := "()Ljava/lang/String;" } : Jvm.MethodName) prog_10_method_3_code (1 : Nat) (Option.some (Jvm.ClassFile.FieldType.object "java/lang/String"))).before a0 Z = true := hw _ (List.mem_of_getElem? (i := 258) rfl)
theorem own_wS {Z : State} {a0 : Array Value} (hw : ∀ d ∈ tables_1, d.before a0 Z = true) : ∀ d ∈ Bundle.stringAtoms, d.before a0 Z = true := by
  intro d hd
  simp only [Bundle.stringAtoms, List.mem_cons, List.not_mem_nil, or_false] at hd
  rcases hd with rfl | rfl | rfl | rfl | rfl | rfl | rfl
  · exact (w13 hw)
  · exact (w12 hw)
  · exact (w29 hw)
  · exact (w39 hw)
  · exact (w37 hw)
  · exact (w41 hw)
  · exact (w42 hw)
theorem d1_0 : decode method_4_code 0 = .ok (.iload_n 1, 1) := by decide +kernel
theorem d1_1 : decode method_4_code 1 = .ok (.newarray .char, 2) := by decide +kernel
theorem d1_3 : decode method_4_code 3 = .ok (.astore_n 2, 1) := by decide +kernel
theorem d1_4 : decode method_4_code 4 = .ok (.aload_n 2, 1) := by decide +kernel
theorem d1_5 : decode method_4_code 5 = .ok (.iconst 0, 1) := by decide +kernel
theorem d1_6 : decode method_4_code 6 = .ok (.iload_n 0, 1) := by decide +kernel
theorem d1_7 : decode method_4_code 7 = .ok (.iload_n 1, 1) := by decide +kernel
theorem d1_8 : decode method_4_code 8 = .ok (.invokestatic 13, 3) := by decide +kernel
theorem d1_11 : decode method_4_code 11 = .ok (.new 17, 3) := by decide +kernel
theorem d1_14 : decode method_4_code 14 = .ok (.dup, 1) := by decide +kernel
theorem d1_15 : decode method_4_code 15 = .ok (.aload_n 2, 1) := by decide +kernel
theorem d1_16 : decode method_4_code 16 = .ok (.invokespecial 19, 3) := by decide +kernel
theorem d1_19 : decode method_4_code 19 = .ok (.areturn, 1) := by decide +kernel
theorem d2_0 : decode method_5_code 0 = .ok (.iload_n 3, 1) := by decide +kernel
theorem d2_1 : decode method_5_code 1 = .ok (.ifCond .le 11, 3) := by decide +kernel
theorem d2_4 : decode method_5_code 4 = .ok (.aload_n 0, 1) := by decide +kernel
theorem d2_5 : decode method_5_code 5 = .ok (.iload_n 1, 1) := by decide +kernel
theorem d2_6 : decode method_5_code 6 = .ok (.iload_n 2, 1) := by decide +kernel
theorem d2_7 : decode method_5_code 7 = .ok (.iconst 0, 1) := by decide +kernel
theorem d2_8 : decode method_5_code 8 = .ok (.invokestatic 42, 3) := by decide +kernel
theorem d2_11 : decode method_5_code 11 = .ok (.castore, 1) := by decide +kernel
theorem d2_12 : decode method_5_code 12 = .ok (.iload_n 3, 1) := by decide +kernel
theorem d2_13 : decode method_5_code 13 = .ok (.iconst 1, 1) := by decide +kernel
theorem d2_14 : decode method_5_code 14 = .ok (.if_icmp .le 13, 3) := by decide +kernel
theorem d2_17 : decode method_5_code 17 = .ok (.aload_n 0, 1) := by decide +kernel
theorem d2_18 : decode method_5_code 18 = .ok (.iload_n 1, 1) := by decide +kernel
theorem d2_19 : decode method_5_code 19 = .ok (.iconst 1, 1) := by decide +kernel
theorem d2_20 : decode method_5_code 20 = .ok (.iadd, 1) := by decide +kernel
theorem d2_21 : decode method_5_code 21 = .ok (.iload_n 2, 1) := by decide +kernel
theorem d2_22 : decode method_5_code 22 = .ok (.iconst 1, 1) := by decide +kernel
theorem d2_23 : decode method_5_code 23 = .ok (.invokestatic 42, 3) := by decide +kernel
theorem d2_26 : decode method_5_code 26 = .ok (.castore, 1) := by decide +kernel
theorem d2_27 : decode method_5_code 27 = .ok (.iload_n 3, 1) := by decide +kernel
theorem d2_28 : decode method_5_code 28 = .ok (.iconst 2, 1) := by decide +kernel
theorem d2_29 : decode method_5_code 29 = .ok (.if_icmp .le 13, 3) := by decide +kernel
theorem d2_32 : decode method_5_code 32 = .ok (.aload_n 0, 1) := by decide +kernel
theorem d2_33 : decode method_5_code 33 = .ok (.iload_n 1, 1) := by decide +kernel
theorem d2_34 : decode method_5_code 34 = .ok (.iconst 2, 1) := by decide +kernel
theorem d2_35 : decode method_5_code 35 = .ok (.iadd, 1) := by decide +kernel
theorem d2_36 : decode method_5_code 36 = .ok (.iload_n 2, 1) := by decide +kernel
theorem d2_37 : decode method_5_code 37 = .ok (.iconst 2, 1) := by decide +kernel
theorem d2_38 : decode method_5_code 38 = .ok (.invokestatic 42, 3) := by decide +kernel
theorem d2_41 : decode method_5_code 41 = .ok (.castore, 1) := by decide +kernel
theorem d2_42 : decode method_5_code 42 = .ok (.return_, 1) := by decide +kernel
theorem d3_0 : decode method_3_code 0 = .ok (.iload_n 0, 1) := by decide +kernel
theorem d3_1 : decode method_3_code 1 = .ok (.bipush 8, 2) := by decide +kernel
theorem d3_3 : decode method_3_code 3 = .ok (.iload_n 1, 1) := by decide +kernel
theorem d3_4 : decode method_3_code 4 = .ok (.imul, 1) := by decide +kernel
theorem d3_5 : decode method_3_code 5 = .ok (.iushr, 1) := by decide +kernel
theorem d3_6 : decode method_3_code 6 = .ok (.sipush 255, 3) := by decide +kernel
theorem d3_9 : decode method_3_code 9 = .ok (.iand, 1) := by decide +kernel
theorem d3_10 : decode method_3_code 10 = .ok (.i2c, 1) := by decide +kernel
theorem d3_11 : decode method_3_code 11 = .ok (.ireturn, 1) := by decide +kernel
theorem d4_0 : decode jdk_42_method_3_code 0 = .ok (.aload_n 0, 1) := by decide +kernel
theorem d4_1 : decode jdk_42_method_3_code 1 = .ok (.aload_n 1, 1) := by decide +kernel
theorem d4_2 : decode jdk_42_method_3_code 2 = .ok (.iconst 0, 1) := by decide +kernel
theorem d4_3 : decode jdk_42_method_3_code 3 = .ok (.aload_n 1, 1) := by decide +kernel
theorem d4_4 : decode jdk_42_method_3_code 4 = .ok (.arraylength, 1) := by decide +kernel
theorem d4_5 : decode jdk_42_method_3_code 5 = .ok (.aconst_null, 1) := by decide +kernel
theorem d4_6 : decode jdk_42_method_3_code 6 = .ok (.invokespecial 27, 3) := by decide +kernel
theorem d4_9 : decode jdk_42_method_3_code 9 = .ok (.return_, 1) := by decide +kernel
theorem d5_0 : decode jdk_42_method_149_code 0 = .ok (.aload_n 0, 1) := by decide +kernel
theorem d5_1 : decode jdk_42_method_149_code 1 = .ok (.invokespecial 1, 3) := by decide +kernel
theorem d5_4 : decode jdk_42_method_149_code 4 = .ok (.iload_n 3, 1) := by decide +kernel
theorem d5_5 : decode jdk_42_method_149_code 5 = .ok (.ifCond .ne 22, 3) := by decide +kernel
theorem d5_8 : decode jdk_42_method_149_code 8 = .ok (.aload_n 0, 1) := by decide +kernel
theorem d5_9 : decode jdk_42_method_149_code 9 = .ok (.ldc 7, 2) := by decide +kernel
theorem d5_11 : decode jdk_42_method_149_code 11 = .ok (.getfield 9, 3) := by decide +kernel
theorem d5_14 : decode jdk_42_method_149_code 14 = .ok (.putfield 9, 3) := by decide +kernel
theorem d5_17 : decode jdk_42_method_149_code 17 = .ok (.aload_n 0, 1) := by decide +kernel
theorem d5_18 : decode jdk_42_method_149_code 18 = .ok (.ldc 7, 2) := by decide +kernel
theorem d5_20 : decode jdk_42_method_149_code 20 = .ok (.getfield 15, 3) := by decide +kernel
theorem d5_23 : decode jdk_42_method_149_code 23 = .ok (.putfield 15, 3) := by decide +kernel
theorem d5_26 : decode jdk_42_method_149_code 26 = .ok (.return_, 1) := by decide +kernel
theorem d10_0 : decode prog_10_method_1_code 0 = .ok (.aload_n 0, 1) := by decide +kernel
theorem d10_1 : decode prog_10_method_1_code 1 = .ok (.new 1, 3) := by decide +kernel
theorem d10_4 : decode prog_10_method_1_code 4 = .ok (.dup, 1) := by decide +kernel
theorem d10_5 : decode prog_10_method_1_code 5 = .ok (.invokespecial 3, 3) := by decide +kernel
theorem d10_8 : decode prog_10_method_1_code 8 = .ok (.aload_n 1, 1) := by decide +kernel
theorem d10_9 : decode prog_10_method_1_code 9 = .ok (.invokevirtual 7, 3) := by decide +kernel
theorem d10_12 : decode prog_10_method_1_code 12 = .ok (.ldc 11, 2) := by decide +kernel
theorem d10_14 : decode prog_10_method_1_code 14 = .ok (.invokevirtual 7, 3) := by decide +kernel
theorem d10_17 : decode prog_10_method_1_code 17 = .ok (.aload_n 2, 1) := by decide +kernel
theorem d10_18 : decode prog_10_method_1_code 18 = .ok (.invokevirtual 7, 3) := by decide +kernel
theorem d10_21 : decode prog_10_method_1_code 21 = .ok (.invokevirtual 13, 3) := by decide +kernel
theorem d10_24 : decode prog_10_method_1_code 24 = .ok (.invokespecial 17, 3) := by decide +kernel
theorem d10_27 : decode prog_10_method_1_code 27 = .ok (.aload_n 0, 1) := by decide +kernel
theorem d10_28 : decode prog_10_method_1_code 28 = .ok (.aload_n 1, 1) := by decide +kernel
theorem d10_29 : decode prog_10_method_1_code 29 = .ok (.ldc 22, 2) := by decide +kernel
theorem d10_31 : decode prog_10_method_1_code 31 = .ok (.invokestatic 24, 3) := by decide +kernel
theorem d10_34 : decode prog_10_method_1_code 34 = .ok (.checkcast 30, 3) := by decide +kernel
theorem d10_37 : decode prog_10_method_1_code 37 = .ok (.putfield 32, 3) := by decide +kernel
theorem d10_40 : decode prog_10_method_1_code 40 = .ok (.aload_n 0, 1) := by decide +kernel
theorem d10_41 : decode prog_10_method_1_code 41 = .ok (.aload_n 2, 1) := by decide +kernel
theorem d10_42 : decode prog_10_method_1_code 42 = .ok (.ldc 37, 2) := by decide +kernel
theorem d10_44 : decode prog_10_method_1_code 44 = .ok (.invokestatic 24, 3) := by decide +kernel
theorem d10_47 : decode prog_10_method_1_code 47 = .ok (.checkcast 30, 3) := by decide +kernel
theorem d10_50 : decode prog_10_method_1_code 50 = .ok (.putfield 39, 3) := by decide +kernel
theorem d10_53 : decode prog_10_method_1_code 53 = .ok (.return_, 1) := by decide +kernel
theorem d11_0 : decode jdk_67_method_1_code 0 = .ok (.aload_n 0, 1) := by decide +kernel
theorem d11_1 : decode jdk_67_method_1_code 1 = .ok (.bipush 16, 2) := by decide +kernel
theorem d11_3 : decode jdk_67_method_1_code 3 = .ok (.invokespecial 1, 3) := by decide +kernel
theorem d11_6 : decode jdk_67_method_1_code 6 = .ok (.return_, 1) := by decide +kernel
theorem d12_0 : decode jdk_68_method_2_code 0 = .ok (.aload_n 0, 1) := by decide +kernel
theorem d12_1 : decode jdk_68_method_2_code 1 = .ok (.invokespecial 3, 3) := by decide +kernel
theorem d12_4 : decode jdk_68_method_2_code 4 = .ok (.getstatic 18, 3) := by decide +kernel
theorem d12_7 : decode jdk_68_method_2_code 7 = .ok (.ifCond .eq 18, 3) := by decide +kernel
theorem d12_10 : decode jdk_68_method_2_code 10 = .ok (.aload_n 0, 1) := by decide +kernel
theorem d12_11 : decode jdk_68_method_2_code 11 = .ok (.iload_n 1, 1) := by decide +kernel
theorem d12_12 : decode jdk_68_method_2_code 12 = .ok (.newarray .byte, 2) := by decide +kernel
theorem d12_14 : decode jdk_68_method_2_code 14 = .ok (.putfield 15, 3) := by decide +kernel
theorem d12_17 : decode jdk_68_method_2_code 17 = .ok (.aload_n 0, 1) := by decide +kernel
theorem d12_18 : decode jdk_68_method_2_code 18 = .ok (.iconst 0, 1) := by decide +kernel
theorem d12_19 : decode jdk_68_method_2_code 19 = .ok (.putfield 22, 3) := by decide +kernel
theorem d12_22 : decode jdk_68_method_2_code 22 = .ok (.goto 16, 3) := by decide +kernel
theorem d12_38 : decode jdk_68_method_2_code 38 = .ok (.return_, 1) := by decide +kernel
theorem d13_0 : decode jdk_67_method_7_code 0 = .ok (.aload_n 0, 1) := by decide +kernel
theorem d13_1 : decode jdk_67_method_7_code 1 = .ok (.aload_n 1, 1) := by decide +kernel
theorem d13_2 : decode jdk_67_method_7_code 2 = .ok (.invokespecial 29, 3) := by decide +kernel
theorem d13_5 : decode jdk_67_method_7_code 5 = .ok (.pop, 1) := by decide +kernel
theorem d13_6 : decode jdk_67_method_7_code 6 = .ok (.aload_n 0, 1) := by decide +kernel
theorem d13_7 : decode jdk_67_method_7_code 7 = .ok (.areturn, 1) := by decide +kernel
theorem d14_0 : decode jdk_68_method_22_code 0 = .ok (.aload_n 1, 1) := by decide +kernel
theorem d14_1 : decode jdk_68_method_22_code 1 = .ok (.ifnonnull 8, 3) := by decide +kernel
theorem d14_9 : decode jdk_68_method_22_code 9 = .ok (.aload_n 1, 1) := by decide +kernel
theorem d14_10 : decode jdk_68_method_22_code 10 = .ok (.invokevirtual 32, 3) := by decide +kernel
theorem d14_13 : decode jdk_68_method_22_code 13 = .ok (.istore_n 2, 1) := by decide +kernel
theorem d14_14 : decode jdk_68_method_22_code 14 = .ok (.aload_n 0, 1) := by decide +kernel
theorem d14_15 : decode jdk_68_method_22_code 15 = .ok (.aload_n 0, 1) := by decide +kernel
theorem d14_16 : decode jdk_68_method_22_code 16 = .ok (.getfield 79, 3) := by decide +kernel
theorem d14_19 : decode jdk_68_method_22_code 19 = .ok (.iload_n 2, 1) := by decide +kernel
theorem d14_20 : decode jdk_68_method_22_code 20 = .ok (.iadd, 1) := by decide +kernel
theorem d14_21 : decode jdk_68_method_22_code 21 = .ok (.invokevirtual 100, 3) := by decide +kernel
theorem d14_24 : decode jdk_68_method_22_code 24 = .ok (.aload_n 0, 1) := by decide +kernel
theorem d14_25 : decode jdk_68_method_22_code 25 = .ok (.aload_n 0, 1) := by decide +kernel
theorem d14_26 : decode jdk_68_method_22_code 26 = .ok (.getfield 79, 3) := by decide +kernel
theorem d14_29 : decode jdk_68_method_22_code 29 = .ok (.aload_n 1, 1) := by decide +kernel
theorem d14_30 : decode jdk_68_method_22_code 30 = .ok (.invokevirtual 208, 3) := by decide +kernel
theorem d14_33 : decode jdk_68_method_22_code 33 = .ok (.aload_n 0, 1) := by decide +kernel
theorem d14_34 : decode jdk_68_method_22_code 34 = .ok (.dup, 1) := by decide +kernel
theorem d14_35 : decode jdk_68_method_22_code 35 = .ok (.getfield 79, 3) := by decide +kernel
theorem d14_38 : decode jdk_68_method_22_code 38 = .ok (.iload_n 2, 1) := by decide +kernel
theorem d14_39 : decode jdk_68_method_22_code 39 = .ok (.iadd, 1) := by decide +kernel
theorem d14_40 : decode jdk_68_method_22_code 40 = .ok (.putfield 79, 3) := by decide +kernel
theorem d14_43 : decode jdk_68_method_22_code 43 = .ok (.aload_n 0, 1) := by decide +kernel
theorem d14_44 : decode jdk_68_method_22_code 44 = .ok (.areturn, 1) := by decide +kernel
theorem d15_0 : decode jdk_42_method_54_code 0 = .ok (.aload_n 0, 1) := by decide +kernel
theorem d15_1 : decode jdk_42_method_54_code 1 = .ok (.getfield 9, 3) := by decide +kernel
theorem d15_4 : decode jdk_42_method_54_code 4 = .ok (.arraylength, 1) := by decide +kernel
theorem d15_5 : decode jdk_42_method_54_code 5 = .ok (.aload_n 0, 1) := by decide +kernel
theorem d15_6 : decode jdk_42_method_54_code 6 = .ok (.invokevirtual 335, 3) := by decide +kernel
theorem d15_9 : decode jdk_42_method_54_code 9 = .ok (.ishr, 1) := by decide +kernel
theorem d15_10 : decode jdk_42_method_54_code 10 = .ok (.ireturn, 1) := by decide +kernel
theorem d16_0 : decode jdk_42_method_152_code 0 = .ok (.getstatic 38, 3) := by decide +kernel
theorem d16_3 : decode jdk_42_method_152_code 3 = .ok (.ifCond .eq 10, 3) := by decide +kernel
theorem d16_6 : decode jdk_42_method_152_code 6 = .ok (.aload_n 0, 1) := by decide +kernel
theorem d16_7 : decode jdk_42_method_152_code 7 = .ok (.getfield 15, 3) := by decide +kernel
theorem d16_10 : decode jdk_42_method_152_code 10 = .ok (.goto 4, 3) := by decide +kernel
theorem d16_14 : decode jdk_42_method_152_code 14 = .ok (.ireturn, 1) := by decide +kernel
theorem d17_0 : decode jdk_68_method_9_code 0 = .ok (.aload_n 0, 1) := by decide +kernel
theorem d17_1 : decode jdk_68_method_9_code 1 = .ok (.getfield 15, 3) := by decide +kernel
theorem d17_4 : decode jdk_68_method_9_code 4 = .ok (.arraylength, 1) := by decide +kernel
theorem d17_5 : decode jdk_68_method_9_code 5 = .ok (.aload_n 0, 1) := by decide +kernel
theorem d17_6 : decode jdk_68_method_9_code 6 = .ok (.getfield 22, 3) := by decide +kernel
theorem d17_9 : decode jdk_68_method_9_code 9 = .ok (.ishr, 1) := by decide +kernel
theorem d17_10 : decode jdk_68_method_9_code 10 = .ok (.istore_n 2, 1) := by decide +kernel
theorem d17_11 : decode jdk_68_method_9_code 11 = .ok (.iload_n 1, 1) := by decide +kernel
theorem d17_12 : decode jdk_68_method_9_code 12 = .ok (.iload_n 2, 1) := by decide +kernel
theorem d17_13 : decode jdk_68_method_9_code 13 = .ok (.isub, 1) := by decide +kernel
theorem d17_14 : decode jdk_68_method_9_code 14 = .ok (.ifCond .le 24, 3) := by decide +kernel
theorem d17_38 : decode jdk_68_method_9_code 38 = .ok (.return_, 1) := by decide +kernel
theorem d18_0 : decode jdk_68_method_73_code 0 = .ok (.aload_n 0, 1) := by decide +kernel
theorem d18_1 : decode jdk_68_method_73_code 1 = .ok (.aload_n 2, 1) := by decide +kernel
theorem d18_2 : decode jdk_68_method_73_code 2 = .ok (.invokevirtual 397, 3) := by decide +kernel
theorem d18_5 : decode jdk_68_method_73_code 5 = .ok (.aload_n 2, 1) := by decide +kernel
theorem d18_6 : decode jdk_68_method_73_code 6 = .ok (.aload_n 0, 1) := by decide +kernel
theorem d18_7 : decode jdk_68_method_73_code 7 = .ok (.getfield 15, 3) := by decide +kernel
theorem d18_10 : decode jdk_68_method_73_code 10 = .ok (.iload_n 1, 1) := by decide +kernel
theorem d18_11 : decode jdk_68_method_73_code 11 = .ok (.aload_n 0, 1) := by decide +kernel
theorem d18_12 : decode jdk_68_method_73_code 12 = .ok (.getfield 22, 3) := by decide +kernel
theorem d18_15 : decode jdk_68_method_73_code 15 = .ok (.invokevirtual 399, 3) := by decide +kernel
theorem d18_18 : decode jdk_68_method_73_code 18 = .ok (.return_, 1) := by decide +kernel
theorem d19_0 : decode jdk_68_method_71_code 0 = .ok (.getstatic 18, 3) := by decide +kernel
theorem d19_3 : decode jdk_68_method_71_code 3 = .ok (.ifCond .eq 18, 3) := by decide +kernel
theorem d19_6 : decode jdk_68_method_71_code 6 = .ok (.aload_n 0, 1) := by decide +kernel
theorem d19_7 : decode jdk_68_method_71_code 7 = .ok (.getfield 22, 3) := by decide +kernel
theorem d19_10 : decode jdk_68_method_71_code 10 = .ok (.aload_n 1, 1) := by decide +kernel
theorem d19_11 : decode jdk_68_method_71_code 11 = .ok (.invokevirtual 40, 3) := by decide +kernel
theorem d19_14 : decode jdk_68_method_71_code 14 = .ok (.if_icmp .eq 7, 3) := by decide +kernel
theorem d19_21 : decode jdk_68_method_71_code 21 = .ok (.return_, 1) := by decide +kernel
theorem d20_0 : decode jdk_42_method_147_code 0 = .ok (.aload_n 0, 1) := by decide +kernel
theorem d20_1 : decode jdk_42_method_147_code 1 = .ok (.invokevirtual 335, 3) := by decide +kernel
theorem d20_4 : decode jdk_42_method_147_code 4 = .ok (.iload_n 3, 1) := by decide +kernel
theorem d20_5 : decode jdk_42_method_147_code 5 = .ok (.if_icmp .ne 23, 3) := by decide +kernel
theorem d20_8 : decode jdk_42_method_147_code 8 = .ok (.aload_n 0, 1) := by decide +kernel
theorem d20_9 : decode jdk_42_method_147_code 9 = .ok (.getfield 9, 3) := by decide +kernel
theorem d20_12 : decode jdk_42_method_147_code 12 = .ok (.iconst 0, 1) := by decide +kernel
theorem d20_13 : decode jdk_42_method_147_code 13 = .ok (.aload_n 1, 1) := by decide +kernel
theorem d20_14 : decode jdk_42_method_147_code 14 = .ok (.iload_n 2, 1) := by decide +kernel
theorem d20_15 : decode jdk_42_method_147_code 15 = .ok (.iload_n 3, 1) := by decide +kernel
theorem d20_16 : decode jdk_42_method_147_code 16 = .ok (.ishl, 1) := by decide +kernel
theorem d20_17 : decode jdk_42_method_147_code 17 = .ok (.aload_n 0, 1) := by decide +kernel
theorem d20_18 : decode jdk_42_method_147_code 18 = .ok (.getfield 9, 3) := by decide +kernel
theorem d20_21 : decode jdk_42_method_147_code 21 = .ok (.arraylength, 1) := by decide +kernel
theorem d20_22 : decode jdk_42_method_147_code 22 = .ok (.invokestatic 212, 3) := by decide +kernel
theorem d20_25 : decode jdk_42_method_147_code 25 = .ok (.goto 18, 3) := by decide +kernel
theorem d20_43 : decode jdk_42_method_147_code 43 = .ok (.return_, 1) := by decide +kernel
theorem d21_0 : decode jdk_67_method_42_code 0 = .ok (.new 18, 3) := by decide +kernel
theorem d21_3 : decode jdk_67_method_42_code 3 = .ok (.dup, 1) := by decide +kernel
theorem d21_4 : decode jdk_67_method_42_code 4 = .ok (.aload_n 0, 1) := by decide +kernel
theorem d21_5 : decode jdk_67_method_42_code 5 = .ok (.invokespecial 137, 3) := by decide +kernel
theorem d21_8 : decode jdk_67_method_42_code 8 = .ok (.areturn, 1) := by decide +kernel
theorem d22_0 : decode jdk_42_method_53_code 0 = .ok (.aload_n 0, 1) := by decide +kernel
theorem d22_1 : decode jdk_42_method_53_code 1 = .ok (.aload_n 1, 1) := by decide +kernel
theorem d22_2 : decode jdk_42_method_53_code 2 = .ok (.aconst_null, 1) := by decide +kernel
theorem d22_3 : decode jdk_42_method_53_code 3 = .ok (.invokespecial 489, 3) := by decide +kernel
theorem d22_6 : decode jdk_42_method_53_code 6 = .ok (.return_, 1) := by decide +kernel
theorem d23_0 : decode jdk_42_method_150_code 0 = .ok (.aload_n 0, 1) := by decide +kernel
theorem d23_1 : decode jdk_42_method_150_code 1 = .ok (.invokespecial 1, 3) := by decide +kernel
theorem d23_4 : decode jdk_42_method_150_code 4 = .ok (.aload_n 1, 1) := by decide +kernel
theorem d23_5 : decode jdk_42_method_150_code 5 = .ok (.invokevirtual 552, 3) := by decide +kernel
theorem d23_8 : decode jdk_42_method_150_code 8 = .ok (.astore_n 3, 1) := by decide +kernel
theorem d23_9 : decode jdk_42_method_150_code 9 = .ok (.aload_n 1, 1) := by decide +kernel
theorem d23_10 : decode jdk_42_method_150_code 10 = .ok (.invokevirtual 549, 3) := by decide +kernel
theorem d23_13 : decode jdk_42_method_150_code 13 = .ok (.istore 4, 2) := by decide +kernel
theorem d23_15 : decode jdk_42_method_150_code 15 = .ok (.aload_n 1, 1) := by decide +kernel
theorem d23_16 : decode jdk_42_method_150_code 16 = .ok (.invokevirtual 1047, 3) := by decide +kernel
theorem d23_19 : decode jdk_42_method_150_code 19 = .ok (.ifCond .eq 22, 3) := by decide +kernel
theorem d23_22 : decode jdk_42_method_150_code 22 = .ok (.aload_n 0, 1) := by decide +kernel
theorem d23_23 : decode jdk_42_method_150_code 23 = .ok (.iconst 0, 1) := by decide +kernel
theorem d23_24 : decode jdk_42_method_150_code 24 = .ok (.putfield 15, 3) := by decide +kernel
theorem d23_27 : decode jdk_42_method_150_code 27 = .ok (.aload_n 0, 1) := by decide +kernel
theorem d23_28 : decode jdk_42_method_150_code 28 = .ok (.aload_n 3, 1) := by decide +kernel
theorem d23_29 : decode jdk_42_method_150_code 29 = .ok (.iconst 0, 1) := by decide +kernel
theorem d23_30 : decode jdk_42_method_150_code 30 = .ok (.iload 4, 2) := by decide +kernel
theorem d23_32 : decode jdk_42_method_150_code 32 = .ok (.invokestatic 54, 3) := by decide +kernel
theorem d23_35 : decode jdk_42_method_150_code 35 = .ok (.putfield 9, 3) := by decide +kernel
theorem d23_38 : decode jdk_42_method_150_code 38 = .ok (.goto 59, 3) := by decide +kernel
theorem d23_97 : decode jdk_42_method_150_code 97 = .ok (.return_, 1) := by decide +kernel
theorem d24_0 : decode jdk_68_method_64_code 0 = .ok (.aload_n 0, 1) := by decide +kernel
theorem d24_1 : decode jdk_68_method_64_code 1 = .ok (.getfield 15, 3) := by decide +kernel
theorem d24_4 : decode jdk_68_method_64_code 4 = .ok (.areturn, 1) := by decide +kernel
theorem d25_0 : decode jdk_67_method_93_code 0 = .ok (.aload_n 0, 1) := by decide +kernel
theorem d25_1 : decode jdk_67_method_93_code 1 = .ok (.invokespecial 343, 3) := by decide +kernel
theorem d25_4 : decode jdk_67_method_93_code 4 = .ok (.ireturn, 1) := by decide +kernel
theorem d26_0 : decode jdk_68_method_6_code 0 = .ok (.aload_n 0, 1) := by decide +kernel
theorem d26_1 : decode jdk_68_method_6_code 1 = .ok (.getfield 79, 3) := by decide +kernel
theorem d26_4 : decode jdk_68_method_6_code 4 = .ok (.ireturn, 1) := by decide +kernel
theorem d27_0 : decode jdk_68_method_68_code 0 = .ok (.getstatic 18, 3) := by decide +kernel
theorem d27_3 : decode jdk_68_method_68_code 3 = .ok (.ifCond .eq 14, 3) := by decide +kernel
theorem d27_6 : decode jdk_68_method_68_code 6 = .ok (.aload_n 0, 1) := by decide +kernel
theorem d27_7 : decode jdk_68_method_68_code 7 = .ok (.getfield 22, 3) := by decide +kernel
theorem d27_10 : decode jdk_68_method_68_code 10 = .ok (.ifCond .ne 7, 3) := by decide +kernel
theorem d27_13 : decode jdk_68_method_68_code 13 = .ok (.iconst 1, 1) := by decide +kernel
theorem d27_14 : decode jdk_68_method_68_code 14 = .ok (.goto 4, 3) := by decide +kernel
theorem d27_18 : decode jdk_68_method_68_code 18 = .ok (.ireturn, 1) := by decide +kernel
theorem d28_0 : decode jdk_65_method_132_code 0 = .ok (.iload_n 1, 1) := by decide +kernel
theorem d28_1 : decode jdk_65_method_132_code 1 = .ok (.ifCond .ne 9, 3) := by decide +kernel
theorem d28_4 : decode jdk_65_method_132_code 4 = .ok (.iload_n 2, 1) := by decide +kernel
theorem d28_5 : decode jdk_65_method_132_code 5 = .ok (.aload_n 0, 1) := by decide +kernel
theorem d28_6 : decode jdk_65_method_132_code 6 = .ok (.arraylength, 1) := by decide +kernel
theorem d28_7 : decode jdk_65_method_132_code 7 = .ok (.if_icmp .eq 10, 3) := by decide +kernel
theorem d28_10 : decode jdk_65_method_132_code 10 = .ok (.aload_n 0, 1) := by decide +kernel
theorem d28_11 : decode jdk_65_method_132_code 11 = .ok (.iload_n 1, 1) := by decide +kernel
theorem d28_12 : decode jdk_65_method_132_code 12 = .ok (.iload_n 2, 1) := by decide +kernel
theorem d28_13 : decode jdk_65_method_132_code 13 = .ok (.invokestatic 339, 3) := by decide +kernel
theorem d28_16 : decode jdk_65_method_132_code 16 = .ok (.areturn, 1) := by decide +kernel
theorem d29_0 : decode jdk_65_method_133_code 0 = .ok (.iload_n 1, 1) := by decide +kernel
theorem d29_1 : decode jdk_65_method_133_code 1 = .ok (.iload_n 2, 1) := by decide +kernel
theorem d29_2 : decode jdk_65_method_133_code 2 = .ok (.invokestatic 343, 3) := by decide +kernel
theorem d29_5 : decode jdk_65_method_133_code 5 = .ok (.iload_n 2, 1) := by decide +kernel
theorem d29_6 : decode jdk_65_method_133_code 6 = .ok (.iload_n 1, 1) := by decide +kernel
theorem d29_7 : decode jdk_65_method_133_code 7 = .ok (.isub, 1) := by decide +kernel
theorem d29_8 : decode jdk_65_method_133_code 8 = .ok (.istore_n 3, 1) := by decide +kernel
theorem d29_9 : decode jdk_65_method_133_code 9 = .ok (.iload_n 3, 1) := by decide +kernel
theorem d29_10 : decode jdk_65_method_133_code 10 = .ok (.newarray .byte, 2) := by decide +kernel
theorem d29_12 : decode jdk_65_method_133_code 12 = .ok (.astore 4, 2) := by decide +kernel
theorem d29_14 : decode jdk_65_method_133_code 14 = .ok (.aload_n 0, 1) := by decide +kernel
theorem d29_15 : decode jdk_65_method_133_code 15 = .ok (.iload_n 1, 1) := by decide +kernel
theorem d29_16 : decode jdk_65_method_133_code 16 = .ok (.aload 4, 2) := by decide +kernel
theorem d29_18 : decode jdk_65_method_133_code 18 = .ok (.iconst 0, 1) := by decide +kernel
theorem d29_19 : decode jdk_65_method_133_code 19 = .ok (.aload_n 0, 1) := by decide +kernel
theorem d29_20 : decode jdk_65_method_133_code 20 = .ok (.arraylength, 1) := by decide +kernel
theorem d29_21 : decode jdk_65_method_133_code 21 = .ok (.iload_n 1, 1) := by decide +kernel
theorem d29_22 : decode jdk_65_method_133_code 22 = .ok (.isub, 1) := by decide +kernel
theorem d29_23 : decode jdk_65_method_133_code 23 = .ok (.iload_n 3, 1) := by decide +kernel
theorem d29_24 : decode jdk_65_method_133_code 24 = .ok (.invokestatic 304, 3) := by decide +kernel
theorem d29_27 : decode jdk_65_method_133_code 27 = .ok (.invokestatic 150, 3) := by decide +kernel
theorem d29_30 : decode jdk_65_method_133_code 30 = .ok (.aload 4, 2) := by decide +kernel
theorem d29_32 : decode jdk_65_method_133_code 32 = .ok (.areturn, 1) := by decide +kernel
theorem d30_0 : decode jdk_65_method_131_code 0 = .ok (.iload_n 1, 1) := by decide +kernel
theorem d30_1 : decode jdk_65_method_131_code 1 = .ok (.iload_n 0, 1) := by decide +kernel
theorem d30_2 : decode jdk_65_method_131_code 2 = .ok (.if_icmp .ge 35, 3) := by decide +kernel
theorem d30_37 : decode jdk_65_method_131_code 37 = .ok (.return_, 1) := by decide +kernel
theorem d31_0 : decode jdk_29_method_69_code 0 = .ok (.iload_n 0, 1) := by decide +kernel
theorem d31_1 : decode jdk_29_method_69_code 1 = .ok (.iload_n 1, 1) := by decide +kernel
theorem d31_2 : decode jdk_29_method_69_code 2 = .ok (.if_icmp .gt 7, 3) := by decide +kernel
theorem d31_9 : decode jdk_29_method_69_code 9 = .ok (.iload_n 1, 1) := by decide +kernel
theorem d31_10 : decode jdk_29_method_69_code 10 = .ok (.ireturn, 1) := by decide +kernel
theorem d32_0 : decode jdk_57_method_2_code 0 = .ok (.aload_n 0, 1) := by decide +kernel
theorem d32_1 : decode jdk_57_method_2_code 1 = .ok (.aload_n 1, 1) := by decide +kernel
theorem d32_2 : decode jdk_57_method_2_code 2 = .ok (.invokespecial 7, 3) := by decide +kernel
theorem d32_5 : decode jdk_57_method_2_code 5 = .ok (.return_, 1) := by decide +kernel
theorem d33_0 : decode jdk_58_method_2_code 0 = .ok (.aload_n 0, 1) := by decide +kernel
theorem d33_1 : decode jdk_58_method_2_code 1 = .ok (.aload_n 1, 1) := by decide +kernel
theorem d33_2 : decode jdk_58_method_2_code 2 = .ok (.invokespecial 7, 3) := by decide +kernel
theorem d33_5 : decode jdk_58_method_2_code 5 = .ok (.return_, 1) := by decide +kernel
theorem d34_0 : decode jdk_59_method_2_code 0 = .ok (.aload_n 0, 1) := by decide +kernel
theorem d34_1 : decode jdk_59_method_2_code 1 = .ok (.aload_n 1, 1) := by decide +kernel
theorem d34_2 : decode jdk_59_method_2_code 2 = .ok (.invokespecial 7, 3) := by decide +kernel
theorem d34_5 : decode jdk_59_method_2_code 5 = .ok (.return_, 1) := by decide +kernel
theorem d35_0 : decode jdk_78_method_2_code 0 = .ok (.aload_n 0, 1) := by decide +kernel
theorem d35_1 : decode jdk_78_method_2_code 1 = .ok (.invokespecial 1, 3) := by decide +kernel
theorem d35_4 : decode jdk_78_method_2_code 4 = .ok (.aload_n 0, 1) := by decide +kernel
theorem d35_5 : decode jdk_78_method_2_code 5 = .ok (.aload_n 0, 1) := by decide +kernel
theorem d35_6 : decode jdk_78_method_2_code 6 = .ok (.putfield 7, 3) := by decide +kernel
theorem d35_9 : decode jdk_78_method_2_code 9 = .ok (.aload_n 0, 1) := by decide +kernel
theorem d35_10 : decode jdk_78_method_2_code 10 = .ok (.getstatic 13, 3) := by decide +kernel
theorem d35_13 : decode jdk_78_method_2_code 13 = .ok (.putfield 17, 3) := by decide +kernel
theorem d35_16 : decode jdk_78_method_2_code 16 = .ok (.aload_n 0, 1) := by decide +kernel
theorem d35_17 : decode jdk_78_method_2_code 17 = .ok (.getstatic 20, 3) := by decide +kernel
theorem d35_20 : decode jdk_78_method_2_code 20 = .ok (.putfield 24, 3) := by decide +kernel
theorem d35_23 : decode jdk_78_method_2_code 23 = .ok (.aload_n 0, 1) := by decide +kernel
theorem d35_24 : decode jdk_78_method_2_code 24 = .ok (.invokevirtual 27, 3) := by decide +kernel
theorem d35_27 : decode jdk_78_method_2_code 27 = .ok (.pop, 1) := by decide +kernel
theorem d35_28 : decode jdk_78_method_2_code 28 = .ok (.aload_n 0, 1) := by decide +kernel
theorem d35_29 : decode jdk_78_method_2_code 29 = .ok (.aload_n 1, 1) := by decide +kernel
theorem d35_30 : decode jdk_78_method_2_code 30 = .ok (.putfield 31, 3) := by decide +kernel
theorem d35_33 : decode jdk_78_method_2_code 33 = .ok (.return_, 1) := by decide +kernel
theorem d38_0 : decode jdk_31_method_11_code 0 = .ok (.aload_n 0, 1) := by decide +kernel
theorem d38_1 : decode jdk_31_method_11_code 1 = .ok (.ifnonnull 12, 3) := by decide +kernel
theorem d38_13 : decode jdk_31_method_11_code 13 = .ok (.aload_n 0, 1) := by decide +kernel
theorem d38_14 : decode jdk_31_method_11_code 14 = .ok (.areturn, 1) := by decide +kernel
theorem d39_0 : decode prog_10_method_4_code 0 = .ok (.new 33, 3) := by decide +kernel
theorem d39_3 : decode prog_10_method_4_code 3 = .ok (.dup, 1) := by decide +kernel
theorem d39_4 : decode prog_10_method_4_code 4 = .ok (.new 1, 3) := by decide +kernel
theorem d39_7 : decode prog_10_method_4_code 7 = .ok (.dup, 1) := by decide +kernel
theorem d39_8 : decode prog_10_method_4_code 8 = .ok (.invokespecial 3, 3) := by decide +kernel
theorem d39_11 : decode prog_10_method_4_code 11 = .ok (.aload_n 1, 1) := by decide +kernel
theorem d39_12 : decode prog_10_method_4_code 12 = .ok (.invokevirtual 7, 3) := by decide +kernel
theorem d39_15 : decode prog_10_method_4_code 15 = .ok (.ldc 41, 2) := by decide +kernel
theorem d39_17 : decode prog_10_method_4_code 17 = .ok (.invokevirtual 7, 3) := by decide +kernel
theorem d39_20 : decode prog_10_method_4_code 20 = .ok (.aload_n 0, 1) := by decide +kernel
theorem d39_21 : decode prog_10_method_4_code 21 = .ok (.getfield 32, 3) := by decide +kernel
theorem d39_24 : decode prog_10_method_4_code 24 = .ok (.invokevirtual 7, 3) := by decide +kernel
theorem d39_27 : decode prog_10_method_4_code 27 = .ok (.invokevirtual 13, 3) := by decide +kernel
theorem d39_30 : decode prog_10_method_4_code 30 = .ok (.aload_n 0, 1) := by decide +kernel
theorem d39_31 : decode prog_10_method_4_code 31 = .ok (.getfield 39, 3) := by decide +kernel
theorem d39_34 : decode prog_10_method_4_code 34 = .ok (.invokespecial 43, 3) := by decide +kernel
theorem d39_37 : decode prog_10_method_4_code 37 = .ok (.areturn, 1) := by decide +kernel
theorem d40_0 : decode prog_10_method_2_code 0 = .ok (.aload_n 0, 1) := by decide +kernel
theorem d40_1 : decode prog_10_method_2_code 1 = .ok (.getfield 32, 3) := by decide +kernel
theorem d40_4 : decode prog_10_method_2_code 4 = .ok (.areturn, 1) := by decide +kernel
theorem d41_0 : decode jdk_42_method_66_code 0 = .ok (.aload_n 0, 1) := by decide +kernel
theorem d41_1 : decode jdk_42_method_66_code 1 = .ok (.aload_n 1, 1) := by decide +kernel
theorem d41_2 : decode jdk_42_method_66_code 2 = .ok (.if_acmp .ne 5, 3) := by decide +kernel
theorem d41_5 : decode jdk_42_method_66_code 5 = .ok (.iconst 1, 1) := by decide +kernel
theorem d41_6 : decode jdk_42_method_66_code 6 = .ok (.ireturn, 1) := by decide +kernel
theorem d43_0 : decode prog_10_method_3_code 0 = .ok (.aload_n 0, 1) := by decide +kernel
theorem d43_1 : decode prog_10_method_3_code 1 = .ok (.getfield 39, 3) := by decide +kernel
theorem d43_4 : decode prog_10_method_3_code 4 = .ok (.areturn, 1) := by decide +kernel
theorem pd_0 : parseMethodDescriptor "(II)C" = some ⟨[.int, .int], some .char⟩ := by decide +kernel
theorem pd_1 : parseMethodDescriptor "([CIII)V" = some ⟨[(.array .char), .int, .int, .int], none⟩ := by decide +kernel
theorem pd_2 : parseMethodDescriptor "([CIILjava/lang/Void;)V" = some ⟨[(.array .char), .int, .int, (.object "java/lang/Void")], none⟩ := by decide +kernel
theorem pd_3 : parseMethodDescriptor "([C)V" = some ⟨[(.array .char)], none⟩ := by decide +kernel
theorem pd_4 : parseMethodDescriptor "(II)Ljava/lang/String;" = some ⟨[.int, .int], some (.object "java/lang/String")⟩ := by decide +kernel
theorem pd_5 : parseMethodDescriptor "(I)V" = some ⟨[.int], none⟩ := by decide +kernel
theorem pd_6 : parseMethodDescriptor "()V" = some ⟨[], none⟩ := by decide +kernel
theorem pd_7 : parseMethodDescriptor "()B" = some ⟨[], some .byte⟩ := by decide +kernel
theorem pd_8 : parseMethodDescriptor "()I" = some ⟨[], some .int⟩ := by decide +kernel
theorem pd_9 : parseMethodDescriptor "(Ljava/lang/String;)V" = some ⟨[(.object "java/lang/String")], none⟩ := by decide +kernel
theorem pd_10 : parseMethodDescriptor "([BIB)V" = some ⟨[(.array .byte), .int, .byte], none⟩ := by decide +kernel
theorem pd_11 : parseMethodDescriptor "(ILjava/lang/String;)V" = some ⟨[.int, (.object "java/lang/String")], none⟩ := by decide +kernel
theorem pd_12 : parseMethodDescriptor "(Ljava/lang/String;)Ljava/lang/AbstractStringBuilder;" = some ⟨[(.object "java/lang/String")], some (.object "java/lang/AbstractStringBuilder")⟩ := by decide +kernel
theorem pd_13 : parseMethodDescriptor "(Ljava/lang/String;)Ljava/lang/StringBuilder;" = some ⟨[(.object "java/lang/String")], some (.object "java/lang/StringBuilder")⟩ := by decide +kernel
theorem pd_14 : parseMethodDescriptor "()[B" = some ⟨[], some (.array .byte)⟩ := by decide +kernel
theorem pd_15 : parseMethodDescriptor "()Z" = some ⟨[], some .boolean⟩ := by decide +kernel
theorem pd_16 : parseMethodDescriptor "(II)V" = some ⟨[.int, .int], none⟩ := by decide +kernel
theorem pd_17 : parseMethodDescriptor "(II)I" = some ⟨[.int, .int], some .int⟩ := by decide +kernel
theorem pd_18 : parseMethodDescriptor "([BII)[B" = some ⟨[(.array .byte), .int, .int], some (.array .byte)⟩ := by decide +kernel
theorem pd_19 : parseMethodDescriptor "(Ljava/lang/AbstractStringBuilder;Ljava/lang/Void;)V" = some ⟨[(.object "java/lang/AbstractStringBuilder"), (.object "java/lang/Void")], none⟩ := by decide +kernel
theorem pd_20 : parseMethodDescriptor "(Ljava/lang/StringBuilder;)V" = some ⟨[(.object "java/lang/StringBuilder")], none⟩ := by decide +kernel
theorem pd_21 : parseMethodDescriptor "()Ljava/lang/String;" = some ⟨[], some (.object "java/lang/String")⟩ := by decide +kernel
theorem pd_22 : parseMethodDescriptor "(Ljava/lang/Object;Ljava/lang/String;)Ljava/lang/Object;" = some ⟨[(.object "java/lang/Object"), (.object "java/lang/String")], some (.object "java/lang/Object")⟩ := by decide +kernel
theorem pd_23 : parseMethodDescriptor "(Ljava/lang/String;Ljava/lang/String;)V" = some ⟨[(.object "java/lang/String"), (.object "java/lang/String")], none⟩ := by decide +kernel
theorem pd_24 : parseMethodDescriptor "(Ljava/lang/String;)Lcom/example/lease/lease/core/InvalidFieldException;" = some ⟨[(.object "java/lang/String")], some (.object "com/example/lease/lease/core/InvalidFieldException")⟩ := by decide +kernel
theorem pd_25 : parseMethodDescriptor "(Ljava/lang/Object;)Z" = some ⟨[(.object "java/lang/Object")], some .boolean⟩ := by decide +kernel
theorem pn_0 : plainName "com/example/lease/lease/core/InvalidFieldExceptionWithinPinLaw" = true := by first | (simp [plainName, overriddenIn]; done) | decide +kernel
theorem pn_1 : plainName "java/lang/String" = true := by first | (simp [plainName, overriddenIn]; done) | decide +kernel
theorem pn_2 : plainName "java/lang/AbstractStringBuilder" = true := by first | (simp [plainName, overriddenIn]; done) | decide +kernel
theorem pn_3 : plainName "java/lang/StringBuilder" = true := by first | (simp [plainName, overriddenIn]; done) | decide +kernel
theorem pn_4 : plainName "java/util/Arrays" = true := by first | (simp [plainName, overriddenIn]; done) | decide +kernel
theorem pn_5 : plainName "java/lang/Throwable" = true := by first | (simp [plainName, overriddenIn]; done) | decide +kernel
theorem pn_6 : plainName "java/lang/Exception" = true := by first | (simp [plainName, overriddenIn]; done) | decide +kernel
theorem pn_7 : plainName "java/lang/RuntimeException" = true := by first | (simp [plainName, overriddenIn]; done) | decide +kernel
theorem pn_8 : plainName "java/lang/IllegalArgumentException" = true := by first | (simp [plainName, overriddenIn]; done) | decide +kernel
theorem pn_9 : plainName "java/util/Objects" = true := by first | (simp [plainName, overriddenIn]; done) | decide +kernel
theorem pn_10 : plainName "com/example/lease/lease/core/InvalidFieldException" = true := by first | (simp [plainName, overriddenIn]; done) | decide +kernel
theorem own_q0 (n1 : Int32) (B1 : own_3 n1) : ¬ (n1 < (0 : Int32)) := by
  rcases B1 with rfl | rfl | rfl | rfl <;> decide
theorem own_q1 (n1 : Int32) (B1 : own_3 n1) : ¬ ((3 : Int32) < n1) := by
  rcases B1 with rfl | rfl | rfl | rfl <;> decide
theorem own_q2 (n2 : Int32) (B2 : own_3 n2) : ¬ (n2 < (0 : Int32)) := by
  rcases B2 with rfl | rfl | rfl | rfl <;> decide
theorem own_q3 (n2 : Int32) (B2 : own_3 n2) : ¬ ((3 : Int32) < n2) := by
  rcases B2 with rfl | rfl | rfl | rfl <;> decide
theorem own_q4 (n3 : Int32) (B3 : own_3 n3) : ¬ (n3 < (0 : Int32)) := by
  rcases B3 with rfl | rfl | rfl | rfl <;> decide
theorem own_q5 (n3 : Int32) (B3 : own_3 n3) : ¬ ((3 : Int32) < n3) := by
  rcases B3 with rfl | rfl | rfl | rfl <;> decide
theorem own_q6 (n1 n2 : Int32) (B1 : own_3 n1) (B2 : own_3 n2) : ¬ ((7 : Int32) < ((n1 + (1 : Int32)) + n2)) := by
  rcases B1 with rfl | rfl | rfl | rfl <;> rcases B2 with rfl | rfl | rfl | rfl <;> decide
theorem own_q7 (n1 n2 : Int32) (B1 : own_3 n1) (B2 : own_3 n2) : ¬ (((n1 + (1 : Int32)) + n2) < (0 : Int32)) := by
  rcases B1 with rfl | rfl | rfl | rfl <;> rcases B2 with rfl | rfl | rfl | rfl <;> decide
theorem own_q8 (n1 n2 : Int32) (B1 : own_3 n1) (B2 : own_3 n2) : ¬ (((n1 + (1 : Int32)) + n2) < ((0 : Int32) + n1)) := by
  rcases B1 with rfl | rfl | rfl | rfl <;> rcases B2 with rfl | rfl | rfl | rfl <;> decide
theorem own_q9 (n1 n2 : Int32) (B1 : own_3 n1) (B2 : own_3 n2) : n1 < ((n1 + (1 : Int32)) + n2) := by
  rcases B1 with rfl | rfl | rfl | rfl <;> rcases B2 with rfl | rfl | rfl | rfl <;> decide
theorem own_q10 (n1 : Int32) (B1 : own_3 n1) : ¬ ((n1 + (1 : Int32)) < (0 : Int32)) := by
  rcases B1 with rfl | rfl | rfl | rfl <;> decide
theorem own_q11 (n1 : Int32) (B1 : own_3 n1) : ¬ ((1000 : Int32) < (n1 + (1 : Int32))) := by
  rcases B1 with rfl | rfl | rfl | rfl <;> decide
theorem own_q12 (n1 n2 : Int32) (B1 : own_3 n1) (B2 : own_3 n2) : ¬ (((n1 + (1 : Int32)) + n2) = (0 : Int32)) := by
  rcases B1 with rfl | rfl | rfl | rfl <;> rcases B2 with rfl | rfl | rfl | rfl <;> decide
theorem own_q13 (n2 : Int32) (B2 : own_3 n2) : ¬ ((0 : Int32) < (((0 : Int32) + n2) - (16 : Int32))) := by
  rcases B2 with rfl | rfl | rfl | rfl <;> decide
theorem own_q14 (n2 : Int32) (B2 : own_3 n2) : ¬ ((16 : Int32) < n2) := by
  rcases B2 with rfl | rfl | rfl | rfl <;> decide
theorem own_q15 (n2 : Int32) (B2 : own_3 n2) : ¬ ((0 : Int32) < ((((0 : Int32) + n2) + (2 : Int32)) - (16 : Int32))) := by
  rcases B2 with rfl | rfl | rfl | rfl <;> decide
theorem own_q16 (n2 : Int32) (B2 : own_3 n2) : ¬ (((0 : Int32) + n2) < (0 : Int32)) := by
  rcases B2 with rfl | rfl | rfl | rfl <;> decide
theorem own_q17 (n2 : Int32) (B2 : own_3 n2) : ¬ ((1000000 : Int32) < ((0 : Int32) + n2)) := by
  rcases B2 with rfl | rfl | rfl | rfl <;> decide
theorem own_q18 (n2 : Int32) (B2 : own_3 n2) : ¬ ((16 : Int32) < (((0 : Int32) + n2) + (2 : Int32))) := by
  rcases B2 with rfl | rfl | rfl | rfl <;> decide
theorem own_q19 (n2 n3 : Int32) (B2 : own_3 n2) (B3 : own_3 n3) : ¬ ((0 : Int32) < (((((0 : Int32) + n2) + (2 : Int32)) + n3) - (16 : Int32))) := by
  rcases B2 with rfl | rfl | rfl | rfl <;> rcases B3 with rfl | rfl | rfl | rfl <;> decide
theorem own_q20 (n2 : Int32) (B2 : own_3 n2) : ¬ ((((0 : Int32) + n2) + (2 : Int32)) < (0 : Int32)) := by
  rcases B2 with rfl | rfl | rfl | rfl <;> decide
theorem own_q21 (n2 : Int32) (B2 : own_3 n2) : ¬ ((1000000 : Int32) < (((0 : Int32) + n2) + (2 : Int32))) := by
  rcases B2 with rfl | rfl | rfl | rfl <;> decide
theorem own_q22 (n3 : Int32) (B3 : own_3 n3) : ¬ ((1000000 : Int32) < n3) := by
  rcases B3 with rfl | rfl | rfl | rfl <;> decide
theorem own_q23 (n2 n3 : Int32) (B2 : own_3 n2) (B3 : own_3 n3) : ¬ ((16 : Int32) < ((((0 : Int32) + n2) + (2 : Int32)) + n3)) := by
  rcases B2 with rfl | rfl | rfl | rfl <;> rcases B3 with rfl | rfl | rfl | rfl <;> decide
theorem own_q24 (n2 n3 : Int32) (B2 : own_3 n2) (B3 : own_3 n3) : ¬ (((((0 : Int32) + n2) + (2 : Int32)) + n3) = (16 : Int32)) := by
  rcases B2 with rfl | rfl | rfl | rfl <;> rcases B3 with rfl | rfl | rfl | rfl <;> decide
theorem own_q25 (n2 n3 : Int32) (B2 : own_3 n2) (B3 : own_3 n3) : ¬ (((((0 : Int32) + n2) + (2 : Int32)) + n3) < (0 : Int32)) := by
  rcases B2 with rfl | rfl | rfl | rfl <;> rcases B3 with rfl | rfl | rfl | rfl <;> decide
theorem own_q26 (n2 n3 : Int32) (B2 : own_3 n2) (B3 : own_3 n3) : ¬ ((12 : Int32) < (((((0 : Int32) + n2) + (2 : Int32)) + n3) - (0 : Int32))) := by
  rcases B2 with rfl | rfl | rfl | rfl <;> rcases B3 with rfl | rfl | rfl | rfl <;> decide
theorem own_q27 (n2 n3 : Int32) (B2 : own_3 n2) (B3 : own_3 n3) : ¬ ((((((0 : Int32) + n2) + (2 : Int32)) + n3) - (0 : Int32)) < (0 : Int32)) := by
  rcases B2 with rfl | rfl | rfl | rfl <;> rcases B3 with rfl | rfl | rfl | rfl <;> decide
theorem own_q28 (n2 n3 : Int32) (B2 : own_3 n2) (B3 : own_3 n3) : (((((0 : Int32) + n2) + (2 : Int32)) + n3) - (0 : Int32)) < (16 : Int32) := by
  rcases B2 with rfl | rfl | rfl | rfl <;> rcases B3 with rfl | rfl | rfl | rfl <;> decide
theorem own_q29 (n2 n3 : Int32) (B2 : own_3 n2) (B3 : own_3 n3) : ¬ ((16 : Int32) < (((((0 : Int32) + n2) + (2 : Int32)) + n3) - (0 : Int32))) := by
  rcases B2 with rfl | rfl | rfl | rfl <;> rcases B3 with rfl | rfl | rfl | rfl <;> decide
theorem own_q30 (n1 : Int32) (B1 : own_3 n1) : ¬ ((0 : Int32) < (((0 : Int32) + n1) - (16 : Int32))) := by
  rcases B1 with rfl | rfl | rfl | rfl <;> decide
theorem own_q31 (n1 : Int32) (B1 : own_3 n1) : ¬ ((16 : Int32) < n1) := by
  rcases B1 with rfl | rfl | rfl | rfl <;> decide
theorem own_q32 (n1 : Int32) (B1 : own_3 n1) : ¬ ((0 : Int32) < ((((0 : Int32) + n1) + (1 : Int32)) - (16 : Int32))) := by
  rcases B1 with rfl | rfl | rfl | rfl <;> decide
theorem own_q33 (n1 : Int32) (B1 : own_3 n1) : ¬ (((0 : Int32) + n1) < (0 : Int32)) := by
  rcases B1 with rfl | rfl | rfl | rfl <;> decide
theorem own_q34 (n1 : Int32) (B1 : own_3 n1) : ¬ ((1000000 : Int32) < ((0 : Int32) + n1)) := by
  rcases B1 with rfl | rfl | rfl | rfl <;> decide
theorem own_q35 (n1 : Int32) (B1 : own_3 n1) : ¬ ((16 : Int32) < (((0 : Int32) + n1) + (1 : Int32))) := by
  rcases B1 with rfl | rfl | rfl | rfl <;> decide
theorem own_q36 (n1 n2 : Int32) (B1 : own_3 n1) (B2 : own_3 n2) : ¬ ((0 : Int32) < (((((0 : Int32) + n1) + (1 : Int32)) + n2) - (16 : Int32))) := by
  rcases B1 with rfl | rfl | rfl | rfl <;> rcases B2 with rfl | rfl | rfl | rfl <;> decide
theorem own_q37 (n1 : Int32) (B1 : own_3 n1) : ¬ ((((0 : Int32) + n1) + (1 : Int32)) < (0 : Int32)) := by
  rcases B1 with rfl | rfl | rfl | rfl <;> decide
theorem own_q38 (n1 : Int32) (B1 : own_3 n1) : ¬ ((1000000 : Int32) < (((0 : Int32) + n1) + (1 : Int32))) := by
  rcases B1 with rfl | rfl | rfl | rfl <;> decide
theorem own_q39 (n2 : Int32) (B2 : own_3 n2) : ¬ ((1000000 : Int32) < n2) := by
  rcases B2 with rfl | rfl | rfl | rfl <;> decide
theorem own_q40 (n1 n2 : Int32) (B1 : own_3 n1) (B2 : own_3 n2) : ¬ ((16 : Int32) < ((((0 : Int32) + n1) + (1 : Int32)) + n2)) := by
  rcases B1 with rfl | rfl | rfl | rfl <;> rcases B2 with rfl | rfl | rfl | rfl <;> decide
theorem own_q41 (n1 n2 : Int32) (B1 : own_3 n1) (B2 : own_3 n2) : ¬ (((((0 : Int32) + n1) + (1 : Int32)) + n2) = (16 : Int32)) := by
  rcases B1 with rfl | rfl | rfl | rfl <;> rcases B2 with rfl | rfl | rfl | rfl <;> decide
theorem own_q42 (n1 n2 : Int32) (B1 : own_3 n1) (B2 : own_3 n2) : ¬ (((((0 : Int32) + n1) + (1 : Int32)) + n2) < (0 : Int32)) := by
  rcases B1 with rfl | rfl | rfl | rfl <;> rcases B2 with rfl | rfl | rfl | rfl <;> decide
theorem own_q43 (n1 n2 : Int32) (B1 : own_3 n1) (B2 : own_3 n2) : ¬ ((12 : Int32) < (((((0 : Int32) + n1) + (1 : Int32)) + n2) - (0 : Int32))) := by
  rcases B1 with rfl | rfl | rfl | rfl <;> rcases B2 with rfl | rfl | rfl | rfl <;> decide
theorem own_q44 (n1 n2 : Int32) (B1 : own_3 n1) (B2 : own_3 n2) : ¬ ((((((0 : Int32) + n1) + (1 : Int32)) + n2) - (0 : Int32)) < (0 : Int32)) := by
  rcases B1 with rfl | rfl | rfl | rfl <;> rcases B2 with rfl | rfl | rfl | rfl <;> decide
theorem own_q45 (n1 n2 : Int32) (B1 : own_3 n1) (B2 : own_3 n2) : (((((0 : Int32) + n1) + (1 : Int32)) + n2) - (0 : Int32)) < (16 : Int32) := by
  rcases B1 with rfl | rfl | rfl | rfl <;> rcases B2 with rfl | rfl | rfl | rfl <;> decide
theorem own_q46 (n1 n2 : Int32) (B1 : own_3 n1) (B2 : own_3 n2) : ¬ ((16 : Int32) < (((((0 : Int32) + n1) + (1 : Int32)) + n2) - (0 : Int32))) := by
  rcases B1 with rfl | rfl | rfl | rfl <;> rcases B2 with rfl | rfl | rfl | rfl <;> decide
theorem own_q47 (n1 n2 : Int32) (B1 : own_3 n1) (B2 : own_3 n2) : ¬ ((0 : Int32) < (((0 : Int32) + (((((0 : Int32) + n1) + (1 : Int32)) + n2) - (0 : Int32))) - (16 : Int32))) := by
  rcases B1 with rfl | rfl | rfl | rfl <;> rcases B2 with rfl | rfl | rfl | rfl <;> decide
theorem own_q48 (n1 n2 : Int32) (B1 : own_3 n1) (B2 : own_3 n2) : ¬ ((0 : Int32) < ((((0 : Int32) + (((((0 : Int32) + n1) + (1 : Int32)) + n2) - (0 : Int32))) + (2 : Int32)) - (16 : Int32))) := by
  rcases B1 with rfl | rfl | rfl | rfl <;> rcases B2 with rfl | rfl | rfl | rfl <;> decide
theorem own_q49 (n1 n2 : Int32) (B1 : own_3 n1) (B2 : own_3 n2) : ¬ (((0 : Int32) + (((((0 : Int32) + n1) + (1 : Int32)) + n2) - (0 : Int32))) < (0 : Int32)) := by
  rcases B1 with rfl | rfl | rfl | rfl <;> rcases B2 with rfl | rfl | rfl | rfl <;> decide
theorem own_q50 (n1 n2 : Int32) (B1 : own_3 n1) (B2 : own_3 n2) : ¬ ((1000000 : Int32) < ((0 : Int32) + (((((0 : Int32) + n1) + (1 : Int32)) + n2) - (0 : Int32)))) := by
  rcases B1 with rfl | rfl | rfl | rfl <;> rcases B2 with rfl | rfl | rfl | rfl <;> decide
theorem own_q51 (n1 n2 : Int32) (B1 : own_3 n1) (B2 : own_3 n2) : ¬ ((16 : Int32) < (((0 : Int32) + (((((0 : Int32) + n1) + (1 : Int32)) + n2) - (0 : Int32))) + (2 : Int32))) := by
  rcases B1 with rfl | rfl | rfl | rfl <;> rcases B2 with rfl | rfl | rfl | rfl <;> decide
theorem own_q52 (n1 n2 n3 : Int32) (B1 : own_3 n1) (B2 : own_3 n2) (B3 : own_3 n3) : ¬ ((0 : Int32) < (((((0 : Int32) + (((((0 : Int32) + n1) + (1 : Int32)) + n2) - (0 : Int32))) + (2 : Int32)) + n3) - (16 : Int32))) := by
  rcases B1 with rfl | rfl | rfl | rfl <;> rcases B2 with rfl | rfl | rfl | rfl <;> rcases B3 with rfl | rfl | rfl | rfl <;> decide
theorem own_q53 (n1 n2 : Int32) (B1 : own_3 n1) (B2 : own_3 n2) : ¬ ((((0 : Int32) + (((((0 : Int32) + n1) + (1 : Int32)) + n2) - (0 : Int32))) + (2 : Int32)) < (0 : Int32)) := by
  rcases B1 with rfl | rfl | rfl | rfl <;> rcases B2 with rfl | rfl | rfl | rfl <;> decide
theorem own_q54 (n1 n2 : Int32) (B1 : own_3 n1) (B2 : own_3 n2) : ¬ ((1000000 : Int32) < (((0 : Int32) + (((((0 : Int32) + n1) + (1 : Int32)) + n2) - (0 : Int32))) + (2 : Int32))) := by
  rcases B1 with rfl | rfl | rfl | rfl <;> rcases B2 with rfl | rfl | rfl | rfl <;> decide
theorem own_q55 (n1 n2 n3 : Int32) (B1 : own_3 n1) (B2 : own_3 n2) (B3 : own_3 n3) : ¬ ((16 : Int32) < ((((0 : Int32) + (((((0 : Int32) + n1) + (1 : Int32)) + n2) - (0 : Int32))) + (2 : Int32)) + n3)) := by
  rcases B1 with rfl | rfl | rfl | rfl <;> rcases B2 with rfl | rfl | rfl | rfl <;> rcases B3 with rfl | rfl | rfl | rfl <;> decide
theorem own_q56 (n1 n2 n3 : Int32) (B1 : own_3 n1) (B2 : own_3 n2) (B3 : own_3 n3) : ¬ (((((0 : Int32) + (((((0 : Int32) + n1) + (1 : Int32)) + n2) - (0 : Int32))) + (2 : Int32)) + n3) = (16 : Int32)) := by
  rcases B1 with rfl | rfl | rfl | rfl <;> rcases B2 with rfl | rfl | rfl | rfl <;> rcases B3 with rfl | rfl | rfl | rfl <;> decide
theorem own_q57 (n1 n2 n3 : Int32) (B1 : own_3 n1) (B2 : own_3 n2) (B3 : own_3 n3) : ¬ (((((0 : Int32) + (((((0 : Int32) + n1) + (1 : Int32)) + n2) - (0 : Int32))) + (2 : Int32)) + n3) < (0 : Int32)) := by
  rcases B1 with rfl | rfl | rfl | rfl <;> rcases B2 with rfl | rfl | rfl | rfl <;> rcases B3 with rfl | rfl | rfl | rfl <;> decide
theorem own_q58 (n1 n2 n3 : Int32) (B1 : own_3 n1) (B2 : own_3 n2) (B3 : own_3 n3) : ¬ ((12 : Int32) < (((((0 : Int32) + (((((0 : Int32) + n1) + (1 : Int32)) + n2) - (0 : Int32))) + (2 : Int32)) + n3) - (0 : Int32))) := by
  rcases B1 with rfl | rfl | rfl | rfl <;> rcases B2 with rfl | rfl | rfl | rfl <;> rcases B3 with rfl | rfl | rfl | rfl <;> decide
theorem own_q59 (n1 n2 n3 : Int32) (B1 : own_3 n1) (B2 : own_3 n2) (B3 : own_3 n3) : ¬ ((((((0 : Int32) + (((((0 : Int32) + n1) + (1 : Int32)) + n2) - (0 : Int32))) + (2 : Int32)) + n3) - (0 : Int32)) < (0 : Int32)) := by
  rcases B1 with rfl | rfl | rfl | rfl <;> rcases B2 with rfl | rfl | rfl | rfl <;> rcases B3 with rfl | rfl | rfl | rfl <;> decide
theorem own_q60 (n1 n2 n3 : Int32) (B1 : own_3 n1) (B2 : own_3 n2) (B3 : own_3 n3) : (((((0 : Int32) + (((((0 : Int32) + n1) + (1 : Int32)) + n2) - (0 : Int32))) + (2 : Int32)) + n3) - (0 : Int32)) < (16 : Int32) := by
  rcases B1 with rfl | rfl | rfl | rfl <;> rcases B2 with rfl | rfl | rfl | rfl <;> rcases B3 with rfl | rfl | rfl | rfl <;> decide
theorem own_q61 (n1 n2 n3 : Int32) (B1 : own_3 n1) (B2 : own_3 n2) (B3 : own_3 n3) : ¬ ((16 : Int32) < (((((0 : Int32) + (((((0 : Int32) + n1) + (1 : Int32)) + n2) - (0 : Int32))) + (2 : Int32)) + n3) - (0 : Int32))) := by
  rcases B1 with rfl | rfl | rfl | rfl <;> rcases B2 with rfl | rfl | rfl | rfl <;> rcases B3 with rfl | rfl | rfl | rfl <;> decide
theorem own_q62 (n1 n2 : Int32) (B1 : own_3 n1) (B2 : own_3 n2) : (((((0 : Int32) + n1) + (1 : Int32)) + n2) - (0 : Int32)) = ((n1 + (1 : Int32)) + n2) := by
  rcases B1 with rfl | rfl | rfl | rfl <;> rcases B2 with rfl | rfl | rfl | rfl <;> decide
theorem own_law (i0 i1 n1 n2 : Int32) (B1 : own_3 n1) (B2 : own_3 n2) : (own_put (List.replicate ((((((0 : Int32) + n1) + (1 : Int32)) + n2) - (0 : Int32))).toNatClampNeg (0 : Int32)) (own_put (own_put (own_put (List.replicate 16 (0 : Int32)) (own_bs i0 n1) 0 (n1).toNatClampNeg) [(46 : Int32)] (((0 : Int32) + n1)).toNatClampNeg 1) (own_bs i1 n2) ((((0 : Int32) + n1) + (1 : Int32))).toNatClampNeg (n2).toNatClampNeg) 0 ((((((0 : Int32) + n1) + (1 : Int32)) + n2) - (0 : Int32))).toNatClampNeg) = (own_lo (own_putc ((own_putc (List.replicate (((n1 + (1 : Int32)) + n2)).toNatClampNeg (0 : Int32)) (0 : Int32) i0 n1).set (n1).toNatClampNeg (46 : Int32)) (n1 + (1 : Int32)) i1 n2)) := by
  rcases B1 with rfl | rfl | rfl | rfl <;> rcases B2 with rfl | rfl | rfl | rfl <;> rfl
theorem own_EW {Z : State} {a0 : Array Value} (hw : ∀ d ∈ tables_1, d.before a0 Z = true) : EW Z a0 consts_1 := (EW.cons (w114 hw) (by decide) (EW.cons (w220 hw) (by decide) (EW.cons (w228 hw) (by decide) (EW.cons (w237 hw) (by decide) (EW.cons (w40 hw) (by decide) EW.nil)))))
theorem own_TWw {Z : State} {a0 : Array Value} (hw : ∀ d ∈ tables_1, d.before a0 Z = true) : ∀ d ∈ own_TW "com/example/lease/lease/core/InvalidFieldException", d.before a0 Z = true := by
  intro d hd
  simp only [own_TW, List.mem_cons, List.not_mem_nil, or_false] at hd
  rcases hd with rfl | rfl | rfl | rfl | rfl | rfl | rfl | rfl | rfl | rfl | rfl | rfl | rfl | rfl | rfl | rfl | rfl | rfl | rfl | rfl | rfl | rfl | rfl | rfl | rfl | rfl | rfl | rfl | rfl | rfl | rfl
  · exact (w181 hw)
  · exact (w199 hw)
  · exact (w194 hw)
  · exact (w200 hw)
  · exact (w201 hw)
  · exact (w202 hw)
  · exact (w22 hw)
  · exact (w23 hw)
  · exact (w183 hw)
  · exact (w192 hw)
  · exact (w205 hw)
  · exact (w184 hw)
  · exact (w185 hw)
  · exact (w187 hw)
  · exact (w188 hw)
  · exact (w190 hw)
  · exact (w191 hw)
  · exact (w186 hw)
  · exact (w212 hw)
  · exact (w189 hw)
  · exact (w213 hw)
  · exact (w215 hw)
  · exact (w210 hw)
  · exact (w216 hw)
  · exact (w217 hw)
  · exact (w196 hw)
  · exact (w197 hw)
  · exact (w198 hw)
  · exact (w214 hw)
  · exact (w193 hw)
  · exact (w195 hw)
def Q_rm3_1 (Z : State) (p1 : Int32) (h0 : Heap) (n0 : Nat) (v : Option Value) (h : Heap) (L : List Loc) : Prop := v = some (.int (((((p1.toUInt32 >>> ((0 : Int32) &&& 31).toUInt32).toInt32) &&& (255 : Int32)).toUInt32.toUInt16.toUInt32.toInt32).toUInt32.toUInt16.toUInt32.toInt32)) ∧ Fr n0 L ∧ h = h0
set_option maxRecDepth 65536 in
set_option maxHeartbeats 40000000 in
theorem rm3_1 (l : Launch) (Z : State) (a0 : Array Value) (hw : ∀ d ∈ tables_1, d.before a0 Z = true) (ws : List Jvm.Cond) (p1 : Int32) (h0 : Heap) (n0 : Nat) (O0 : Old Z n0 h0) :
    MetFree l (⟨"com/example/lease/lease/core/InvalidFieldExceptionWithinPinLaw", "ch", "(II)C"⟩ : MethodName) (head1 (Jvm.Cond.code (⟨"com/example/lease/lease/core/InvalidFieldExceptionWithinPinLaw", "ch", "(II)C"⟩ : MethodName) method_3_code 2 (some .char) :: ws) ({ frames := 0, cells := 0, slots := 0, locals := 0 } : Room)) (fun a U => a = #[(.int p1), (.int (0 : Int32))] ∧ Z.Warmed39 U.vm ∧ U.heap = h0) (fun _ _ _ _ _ => True) (fun _ U o U' => ∃ v L, o = .returned v ∧ Q_rm3_1 Z p1 h0 n0 v U'.heap L ∧ FrameEnd U o U' L ({ frames := 0, cells := 0, slots := 0, locals := 0 } : Room).cells ({ frames := 0, cells := 0, slots := 0, locals := 0 } : Room).slots) := by
  refine MetFree.of_bodySF (plainFor_of_name pn_0) hisR ?_
  intro p e s m args below meth c s₁ Bd hml0 hP hK
  obtain ⟨rfl, hZ, hh⟩ := hP
  have hx := Bd.exec
  have hby := Bd.bytes
  have hml : c.maxLocals = 2 := hml0
  have hown : s.vm.findClass "com/example/lease/lease/core/InvalidFieldExceptionWithinPinLaw" = some m.cls := findClass_of_methodNamed Bd.named
  have hnm := (name_of_methodNamed Bd.named Bd.method).1
  have X0 : Stand p l e ({ frames := 0, cells := 0, slots := 0, locals := 0 } : Room) s m #[(.int p1), (.int (0 : Int32))] below meth c s₁ [] 0 0 := Stand.of_body Bd
  have e0 : s₁.heap = h0 := by rw [← hh, Bd.state]; rfl
  have N0 := Fr.nil n0
  refine Go.start (P := (fun o U' => ∃ v L, o = .returned v ∧ Q_rm3_1 Z p1 h0 n0 v U'.heap L ∧ FrameEnd s o U' L ({ frames := 0, cells := 0, slots := 0, locals := 0 } : Room).cells ({ frames := 0, cells := 0, slots := 0, locals := 0 } : Room).slots)) (castTop (g' := (mkF m 0 #[.val (.int p1), .val (.int (0 : Int32))] [])) (by first | rfl | simp [entryFrame, mkF, argsToLocals, Value.category]) (T := s₁)) ?_
  refine Go.st (fun t k => XS.iloadN X0.here hx rfl (hb hby d3_0) rfl k) ?_
  show Go p e below _ (s₁.setTop (mkF m 1 #[.val (.int p1), .val (.int (0 : Int32))] [(.int p1)]))
  refine Go.st (fun t k => XS.bipush X0.here hx rfl (hb hby d3_1) k) ?_
  show Go p e below _ (s₁.setTop (mkF m 3 #[.val (.int p1), .val (.int (0 : Int32))] [(.int (8 : Int32)), (.int p1)]))
  refine Go.st (fun t k => XS.iloadN X0.here hx rfl (hb hby d3_3) rfl k) ?_
  show Go p e below _ (s₁.setTop (mkF m 4 #[.val (.int p1), .val (.int (0 : Int32))] [(.int (0 : Int32)), (.int (8 : Int32)), (.int p1)]))
  refine Go.st (fun t k => XS.imul X0.here hx rfl (hb hby d3_4) rfl k) ?_
  show Go p e below _ (s₁.setTop (mkF m 5 #[.val (.int p1), .val (.int (0 : Int32))] [(.int (0 : Int32)), (.int p1)]))
  refine Go.st (fun t k => XS.iushr X0.here hx rfl (hb hby d3_5) rfl k) ?_
  show Go p e below _ (s₁.setTop (mkF m 6 #[.val (.int p1), .val (.int (0 : Int32))] [(.int ((p1.toUInt32 >>> ((0 : Int32) &&& 31).toUInt32).toInt32))]))
  refine Go.st (fun t k => XS.sipush X0.here hx rfl (hb hby d3_6) k) ?_
  show Go p e below _ (s₁.setTop (mkF m 9 #[.val (.int p1), .val (.int (0 : Int32))] [(.int (255 : Int32)), (.int ((p1.toUInt32 >>> ((0 : Int32) &&& 31).toUInt32).toInt32))]))
  refine Go.st (fun t k => XS.iand X0.here hx rfl (hb hby d3_9) rfl k) ?_
  show Go p e below _ (s₁.setTop (mkF m 10 #[.val (.int p1), .val (.int (0 : Int32))] [(.int (((p1.toUInt32 >>> ((0 : Int32) &&& 31).toUInt32).toInt32) &&& (255 : Int32)))]))
  refine Go.st (fun t k => XS.i2c X0.here hx rfl (hb hby d3_10) rfl k) ?_
  show Go p e below _ (s₁.setTop (mkF m 11 #[.val (.int p1), .val (.int (0 : Int32))] [(.int ((((p1.toUInt32 >>> ((0 : Int32) &&& 31).toUInt32).toInt32) &&& (255 : Int32)).toUInt32.toUInt16.toUInt32.toInt32))]))
  obtain ⟨fs, hr, hrun, hended, hWd, hsame⟩ := X0.leave (v := some (.int (((((p1.toUInt32 >>> ((0 : Int32) &&& 31).toUInt32).toInt32) &&& (255 : Int32)).toUInt32.toUInt16.toUInt32.toInt32).toUInt32.toUInt16.toUInt32.toInt32))) (fun h => by rw [Bd.returns] at h; cases h)
  refine ⟨_, _, ?_, hrun, hended, _, _, rfl, ?_, ⟨⟨_, rfl⟩, hWd, hsame.mono (by decide) (by decide)⟩⟩
  · exact retN X0 hx (t := .char) Bd.returns (by simp) (hb hby d3_11) hr
  · show Q_rm3_1 Z p1 h0 n0 _ s₁.heap _
    rw [e0]
    exact ⟨rfl, N0, rfl⟩
def Q_rm3_2 (Z : State) (p1 : Int32) (h0 : Heap) (n0 : Nat) (v : Option Value) (h : Heap) (L : List Loc) : Prop := v = some (.int (((((p1.toUInt32 >>> ((8 : Int32) &&& 31).toUInt32).toInt32) &&& (255 : Int32)).toUInt32.toUInt16.toUInt32.toInt32).toUInt32.toUInt16.toUInt32.toInt32)) ∧ Fr n0 L ∧ h = h0
set_option maxRecDepth 65536 in
set_option maxHeartbeats 40000000 in
theorem rm3_2 (l : Launch) (Z : State) (a0 : Array Value) (hw : ∀ d ∈ tables_1, d.before a0 Z = true) (ws : List Jvm.Cond) (p1 : Int32) (h0 : Heap) (n0 : Nat) (O0 : Old Z n0 h0) :
    MetFree l (⟨"com/example/lease/lease/core/InvalidFieldExceptionWithinPinLaw", "ch", "(II)C"⟩ : MethodName) (head1 (Jvm.Cond.code (⟨"com/example/lease/lease/core/InvalidFieldExceptionWithinPinLaw", "ch", "(II)C"⟩ : MethodName) method_3_code 2 (some .char) :: ws) ({ frames := 0, cells := 0, slots := 0, locals := 0 } : Room)) (fun a U => a = #[(.int p1), (.int (1 : Int32))] ∧ Z.Warmed39 U.vm ∧ U.heap = h0) (fun _ _ _ _ _ => True) (fun _ U o U' => ∃ v L, o = .returned v ∧ Q_rm3_2 Z p1 h0 n0 v U'.heap L ∧ FrameEnd U o U' L ({ frames := 0, cells := 0, slots := 0, locals := 0 } : Room).cells ({ frames := 0, cells := 0, slots := 0, locals := 0 } : Room).slots) := by
  refine MetFree.of_bodySF (plainFor_of_name pn_0) hisR ?_
  intro p e s m args below meth c s₁ Bd hml0 hP hK
  obtain ⟨rfl, hZ, hh⟩ := hP
  have hx := Bd.exec
  have hby := Bd.bytes
  have hml : c.maxLocals = 2 := hml0
  have hown : s.vm.findClass "com/example/lease/lease/core/InvalidFieldExceptionWithinPinLaw" = some m.cls := findClass_of_methodNamed Bd.named
  have hnm := (name_of_methodNamed Bd.named Bd.method).1
  have X0 : Stand p l e ({ frames := 0, cells := 0, slots := 0, locals := 0 } : Room) s m #[(.int p1), (.int (1 : Int32))] below meth c s₁ [] 0 0 := Stand.of_body Bd
  have e0 : s₁.heap = h0 := by rw [← hh, Bd.state]; rfl
  have N0 := Fr.nil n0
  refine Go.start (P := (fun o U' => ∃ v L, o = .returned v ∧ Q_rm3_2 Z p1 h0 n0 v U'.heap L ∧ FrameEnd s o U' L ({ frames := 0, cells := 0, slots := 0, locals := 0 } : Room).cells ({ frames := 0, cells := 0, slots := 0, locals := 0 } : Room).slots)) (castTop (g' := (mkF m 0 #[.val (.int p1), .val (.int (1 : Int32))] [])) (by first | rfl | simp [entryFrame, mkF, argsToLocals, Value.category]) (T := s₁)) ?_
  refine Go.st (fun t k => XS.iloadN X0.here hx rfl (hb hby d3_0) rfl k) ?_
  show Go p e below _ (s₁.setTop (mkF m 1 #[.val (.int p1), .val (.int (1 : Int32))] [(.int p1)]))
  refine Go.st (fun t k => XS.bipush X0.here hx rfl (hb hby d3_1) k) ?_
  show Go p e below _ (s₁.setTop (mkF m 3 #[.val (.int p1), .val (.int (1 : Int32))] [(.int (8 : Int32)), (.int p1)]))
  refine Go.st (fun t k => XS.iloadN X0.here hx rfl (hb hby d3_3) rfl k) ?_
  show Go p e below _ (s₁.setTop (mkF m 4 #[.val (.int p1), .val (.int (1 : Int32))] [(.int (1 : Int32)), (.int (8 : Int32)), (.int p1)]))
  refine Go.st (fun t k => XS.imul X0.here hx rfl (hb hby d3_4) rfl k) ?_
  show Go p e below _ (s₁.setTop (mkF m 5 #[.val (.int p1), .val (.int (1 : Int32))] [(.int (8 : Int32)), (.int p1)]))
  refine Go.st (fun t k => XS.iushr X0.here hx rfl (hb hby d3_5) rfl k) ?_
  show Go p e below _ (s₁.setTop (mkF m 6 #[.val (.int p1), .val (.int (1 : Int32))] [(.int ((p1.toUInt32 >>> ((8 : Int32) &&& 31).toUInt32).toInt32))]))
  refine Go.st (fun t k => XS.sipush X0.here hx rfl (hb hby d3_6) k) ?_
  show Go p e below _ (s₁.setTop (mkF m 9 #[.val (.int p1), .val (.int (1 : Int32))] [(.int (255 : Int32)), (.int ((p1.toUInt32 >>> ((8 : Int32) &&& 31).toUInt32).toInt32))]))
  refine Go.st (fun t k => XS.iand X0.here hx rfl (hb hby d3_9) rfl k) ?_
  show Go p e below _ (s₁.setTop (mkF m 10 #[.val (.int p1), .val (.int (1 : Int32))] [(.int (((p1.toUInt32 >>> ((8 : Int32) &&& 31).toUInt32).toInt32) &&& (255 : Int32)))]))
  refine Go.st (fun t k => XS.i2c X0.here hx rfl (hb hby d3_10) rfl k) ?_
  show Go p e below _ (s₁.setTop (mkF m 11 #[.val (.int p1), .val (.int (1 : Int32))] [(.int ((((p1.toUInt32 >>> ((8 : Int32) &&& 31).toUInt32).toInt32) &&& (255 : Int32)).toUInt32.toUInt16.toUInt32.toInt32))]))
  obtain ⟨fs, hr, hrun, hended, hWd, hsame⟩ := X0.leave (v := some (.int (((((p1.toUInt32 >>> ((8 : Int32) &&& 31).toUInt32).toInt32) &&& (255 : Int32)).toUInt32.toUInt16.toUInt32.toInt32).toUInt32.toUInt16.toUInt32.toInt32))) (fun h => by rw [Bd.returns] at h; cases h)
  refine ⟨_, _, ?_, hrun, hended, _, _, rfl, ?_, ⟨⟨_, rfl⟩, hWd, hsame.mono (by decide) (by decide)⟩⟩
  · exact retN X0 hx (t := .char) Bd.returns (by simp) (hb hby d3_11) hr
  · show Q_rm3_2 Z p1 h0 n0 _ s₁.heap _
    rw [e0]
    exact ⟨rfl, N0, rfl⟩
def Q_rm3_3 (Z : State) (p1 : Int32) (h0 : Heap) (n0 : Nat) (v : Option Value) (h : Heap) (L : List Loc) : Prop := v = some (.int (((((p1.toUInt32 >>> ((16 : Int32) &&& 31).toUInt32).toInt32) &&& (255 : Int32)).toUInt32.toUInt16.toUInt32.toInt32).toUInt32.toUInt16.toUInt32.toInt32)) ∧ Fr n0 L ∧ h = h0
set_option maxRecDepth 65536 in
set_option maxHeartbeats 40000000 in
theorem rm3_3 (l : Launch) (Z : State) (a0 : Array Value) (hw : ∀ d ∈ tables_1, d.before a0 Z = true) (ws : List Jvm.Cond) (p1 : Int32) (h0 : Heap) (n0 : Nat) (O0 : Old Z n0 h0) :
    MetFree l (⟨"com/example/lease/lease/core/InvalidFieldExceptionWithinPinLaw", "ch", "(II)C"⟩ : MethodName) (head1 (Jvm.Cond.code (⟨"com/example/lease/lease/core/InvalidFieldExceptionWithinPinLaw", "ch", "(II)C"⟩ : MethodName) method_3_code 2 (some .char) :: ws) ({ frames := 0, cells := 0, slots := 0, locals := 0 } : Room)) (fun a U => a = #[(.int p1), (.int (2 : Int32))] ∧ Z.Warmed39 U.vm ∧ U.heap = h0) (fun _ _ _ _ _ => True) (fun _ U o U' => ∃ v L, o = .returned v ∧ Q_rm3_3 Z p1 h0 n0 v U'.heap L ∧ FrameEnd U o U' L ({ frames := 0, cells := 0, slots := 0, locals := 0 } : Room).cells ({ frames := 0, cells := 0, slots := 0, locals := 0 } : Room).slots) := by
  refine MetFree.of_bodySF (plainFor_of_name pn_0) hisR ?_
  intro p e s m args below meth c s₁ Bd hml0 hP hK
  obtain ⟨rfl, hZ, hh⟩ := hP
  have hx := Bd.exec
  have hby := Bd.bytes
  have hml : c.maxLocals = 2 := hml0
  have hown : s.vm.findClass "com/example/lease/lease/core/InvalidFieldExceptionWithinPinLaw" = some m.cls := findClass_of_methodNamed Bd.named
  have hnm := (name_of_methodNamed Bd.named Bd.method).1
  have X0 : Stand p l e ({ frames := 0, cells := 0, slots := 0, locals := 0 } : Room) s m #[(.int p1), (.int (2 : Int32))] below meth c s₁ [] 0 0 := Stand.of_body Bd
  have e0 : s₁.heap = h0 := by rw [← hh, Bd.state]; rfl
  have N0 := Fr.nil n0
  refine Go.start (P := (fun o U' => ∃ v L, o = .returned v ∧ Q_rm3_3 Z p1 h0 n0 v U'.heap L ∧ FrameEnd s o U' L ({ frames := 0, cells := 0, slots := 0, locals := 0 } : Room).cells ({ frames := 0, cells := 0, slots := 0, locals := 0 } : Room).slots)) (castTop (g' := (mkF m 0 #[.val (.int p1), .val (.int (2 : Int32))] [])) (by first | rfl | simp [entryFrame, mkF, argsToLocals, Value.category]) (T := s₁)) ?_
  refine Go.st (fun t k => XS.iloadN X0.here hx rfl (hb hby d3_0) rfl k) ?_
  show Go p e below _ (s₁.setTop (mkF m 1 #[.val (.int p1), .val (.int (2 : Int32))] [(.int p1)]))
  refine Go.st (fun t k => XS.bipush X0.here hx rfl (hb hby d3_1) k) ?_
  show Go p e below _ (s₁.setTop (mkF m 3 #[.val (.int p1), .val (.int (2 : Int32))] [(.int (8 : Int32)), (.int p1)]))
  refine Go.st (fun t k => XS.iloadN X0.here hx rfl (hb hby d3_3) rfl k) ?_
  show Go p e below _ (s₁.setTop (mkF m 4 #[.val (.int p1), .val (.int (2 : Int32))] [(.int (2 : Int32)), (.int (8 : Int32)), (.int p1)]))
  refine Go.st (fun t k => XS.imul X0.here hx rfl (hb hby d3_4) rfl k) ?_
  show Go p e below _ (s₁.setTop (mkF m 5 #[.val (.int p1), .val (.int (2 : Int32))] [(.int (16 : Int32)), (.int p1)]))
  refine Go.st (fun t k => XS.iushr X0.here hx rfl (hb hby d3_5) rfl k) ?_
  show Go p e below _ (s₁.setTop (mkF m 6 #[.val (.int p1), .val (.int (2 : Int32))] [(.int ((p1.toUInt32 >>> ((16 : Int32) &&& 31).toUInt32).toInt32))]))
  refine Go.st (fun t k => XS.sipush X0.here hx rfl (hb hby d3_6) k) ?_
  show Go p e below _ (s₁.setTop (mkF m 9 #[.val (.int p1), .val (.int (2 : Int32))] [(.int (255 : Int32)), (.int ((p1.toUInt32 >>> ((16 : Int32) &&& 31).toUInt32).toInt32))]))
  refine Go.st (fun t k => XS.iand X0.here hx rfl (hb hby d3_9) rfl k) ?_
  show Go p e below _ (s₁.setTop (mkF m 10 #[.val (.int p1), .val (.int (2 : Int32))] [(.int (((p1.toUInt32 >>> ((16 : Int32) &&& 31).toUInt32).toInt32) &&& (255 : Int32)))]))
  refine Go.st (fun t k => XS.i2c X0.here hx rfl (hb hby d3_10) rfl k) ?_
  show Go p e below _ (s₁.setTop (mkF m 11 #[.val (.int p1), .val (.int (2 : Int32))] [(.int ((((p1.toUInt32 >>> ((16 : Int32) &&& 31).toUInt32).toInt32) &&& (255 : Int32)).toUInt32.toUInt16.toUInt32.toInt32))]))
  obtain ⟨fs, hr, hrun, hended, hWd, hsame⟩ := X0.leave (v := some (.int (((((p1.toUInt32 >>> ((16 : Int32) &&& 31).toUInt32).toInt32) &&& (255 : Int32)).toUInt32.toUInt16.toUInt32.toInt32).toUInt32.toUInt16.toUInt32.toInt32))) (fun h => by rw [Bd.returns] at h; cases h)
  refine ⟨_, _, ?_, hrun, hended, _, _, rfl, ?_, ⟨⟨_, rfl⟩, hWd, hsame.mono (by decide) (by decide)⟩⟩
  · exact retN X0 hx (t := .char) Bd.returns (by simp) (hb hby d3_11) hr
  · show Q_rm3_3 Z p1 h0 n0 _ s₁.heap _
    rw [e0]
    exact ⟨rfl, N0, rfl⟩
def Q_rmP (Z : State) (a1 : Addr) (of : Int32) (x : Int32) (n : Int32) (zs : List Int32) (kc : ClassId) (N : Int32) (h0 : Heap) (n0 : Nat) (v : Option Value) (h : Heap) (L : List Loc) : Prop := v = none ∧ Fr n0 L ∧ Keep h0 h [a1] ∧ Arv Z h a1 kc .char N ((own_putc zs of x n).map Value.int) (.int (0 : Int32)) ∧ (own_putc zs of x n).length = (N).toNatClampNeg
set_option maxRecDepth 65536 in
set_option maxHeartbeats 40000000 in
theorem rmP (l : Launch) (Z : State) (a0 : Array Value) (hw : ∀ d ∈ tables_1, d.before a0 Z = true) (ws : List Jvm.Cond) (a1 : Addr) (of : Int32) (x : Int32) (n : Int32) (zs : List Int32) (kc : ClassId) (N : Int32) (h0 : Heap) (n0 : Nat) (O0 : Old Z n0 h0) (Mg1 : n0 ≤ a1) (MF1 : Arv Z h0 a1 kc .char N (zs.map Value.int) (.int (0 : Int32))) (Mp1 : ¬ (of < (0 : Int32))) (Mp2 : ¬ ((1000 : Int32) < of)) (Mp3 : ¬ (N < (of + n))) (Mp4 : ¬ (n < (0 : Int32))) (Mp5 : ¬ ((3 : Int32) < n)) (Mp6 : zs.length = (N).toNatClampNeg) :
    MetFree l (⟨"com/example/lease/lease/core/InvalidFieldExceptionWithinPinLaw", "put", "([CIII)V"⟩ : MethodName) (head1 (Jvm.Cond.code (⟨"com/example/lease/lease/core/InvalidFieldExceptionWithinPinLaw", "put", "([CIII)V"⟩ : MethodName) method_5_code 4 none :: ws) ({ frames := 1, cells := 0, slots := 0, locals := 15 } : Room)) (fun a U => a = #[(.ref a1), (.int of), (.int x), (.int n)] ∧ Z.Warmed39 U.vm ∧ U.heap = h0) (fun _ _ _ _ _ => True) (fun _ U o U' => ∃ v L, o = .returned v ∧ Q_rmP Z a1 of x n zs kc N h0 n0 v U'.heap L ∧ FrameEnd U o U' L ({ frames := 1, cells := 0, slots := 0, locals := 15 } : Room).cells ({ frames := 1, cells := 0, slots := 0, locals := 15 } : Room).slots) := by
  refine MetFree.of_bodySF (plainFor_of_name pn_0) hisR ?_
  intro p e s m args below meth c s₁ Bd hml0 hP hK
  obtain ⟨rfl, hZ, hh⟩ := hP
  have hx := Bd.exec
  have hby := Bd.bytes
  have hml : c.maxLocals = 4 := hml0
  have hown : s.vm.findClass "com/example/lease/lease/core/InvalidFieldExceptionWithinPinLaw" = some m.cls := findClass_of_methodNamed Bd.named
  have hnm := (name_of_methodNamed Bd.named Bd.method).1
  have X0 : Stand p l e ({ frames := 1, cells := 0, slots := 0, locals := 15 } : Room) s m #[(.ref a1), (.int of), (.int x), (.int n)] below meth c s₁ [] 0 0 := Stand.of_body Bd
  have e0 : s₁.heap = h0 := by rw [← hh, Bd.state]; rfl
  have N0 := Fr.nil n0
  refine Go.start (P := (fun o U' => ∃ v L, o = .returned v ∧ Q_rmP Z a1 of x n zs kc N h0 n0 v U'.heap L ∧ FrameEnd s o U' L ({ frames := 1, cells := 0, slots := 0, locals := 15 } : Room).cells ({ frames := 1, cells := 0, slots := 0, locals := 15 } : Room).slots)) (castTop (g' := (mkF m 0 #[.val (.ref a1), .val (.int of), .val (.int x), .val (.int n)] [])) (by first | rfl | simp [entryFrame, mkF, argsToLocals, Value.category]) (T := s₁)) ?_
  refine Go.st (fun t k => XS.iloadN X0.here hx rfl (hb hby d2_0) rfl k) ?_
  show Go p e below _ (s₁.setTop (mkF m 1 #[.val (.ref a1), .val (.int of), .val (.int x), .val (.int n)] [(.int n)]))
  by_cases hc1 : (0 : Int32) < n
  · refine Go.st (fun t k => XS.ifNo X0.here hx rfl (hb hby d2_1) rfl (Jvm.Free.XT.i0_le_f hc1) k) ?_
    show Go p e below _ (s₁.setTop (mkF m 4 #[.val (.ref a1), .val (.int of), .val (.int x), .val (.int n)] []))
    refine Go.st (fun t k => XS.aloadN X0.here hx rfl (hb hby d2_4) rfl rfl k) ?_
    show Go p e below _ (s₁.setTop (mkF m 5 #[.val (.ref a1), .val (.int of), .val (.int x), .val (.int n)] [(.ref a1)]))
    refine Go.st (fun t k => XS.iloadN X0.here hx rfl (hb hby d2_5) rfl k) ?_
    show Go p e below _ (s₁.setTop (mkF m 6 #[.val (.ref a1), .val (.int of), .val (.int x), .val (.int n)] [(.int of), (.ref a1)]))
    refine Go.st (fun t k => XS.iloadN X0.here hx rfl (hb hby d2_6) rfl k) ?_
    show Go p e below _ (s₁.setTop (mkF m 7 #[.val (.ref a1), .val (.int of), .val (.int x), .val (.int n)] [(.int x), (.int of), (.ref a1)]))
    refine Go.st (fun t k => XS.iconst X0.here hx rfl (hb hby d2_7) k) ?_
    show Go p e below _ (s₁.setTop (mkF m 8 #[.val (.ref a1), .val (.int of), .val (.int x), .val (.int n)] [(.int (0 : Int32)), (.int x), (.int of), (.ref a1)]))
    obtain ⟨_, _, ⟨T2, L2, k2, n2⟩, -, X2, ⟨Lc2, hQ2, l2, y2, z2⟩, st2⟩ := Jvm.LawKit.callS X0 hx (y := (⟨"com/example/lease/lease/core/InvalidFieldExceptionWithinPinLaw", "ch", "(II)C"⟩ : MethodName)) hown (mvT hZ (w8 hw)) (mvT hZ (w9 hw)) (mvT hZ (w2 hw)) (mvT hZ (w10 hw)) (by decide) (backOf (W := 2) (rm3_1 l Z a0 hw [] x h0 n0 O0 ) hZ (w10 hw) (w2 hw) (by decide) (by decide)) (g := (mkF m 8 #[.val (.ref a1), .val (.int of), .val (.int x), .val (.int n)] [(.int (0 : Int32)), (.int x), (.int of), (.ref a1)])) rfl (by rw [hml]; rfl) (argsL := [(.int x), (.int (0 : Int32))]) (rest := [(.int of), (.ref a1)]) (lenOf pd_0 rfl) rfl (by show 2 * 0 + _ ≤ _; exact Nat.le_of_eq rfl) (hb hby d2_8) (fun vm₁ hw₁ => ⟨rfl, e0, (by decide : 0 + 0 ≤ _), (by decide : 0 + 0 ≤ _)⟩)
    dsimp only [Pt.U, Pt.locs, Pt.cells, Pt.slots] at X2 l2 y2 z2 st2 hQ2
    subst l2 y2 z2
    obtain ⟨rfl, M2, eh2⟩ := hQ2
    have N2 := Fr.app N0 M2
    refine Go.st st2 ?_
    show Go p e below _ (T2.setTop (mkF m 11 #[.val (.ref a1), .val (.int of), .val (.int x), .val (.int n)] [(.int (((((x.toUInt32 >>> ((0 : Int32) &&& 31).toUInt32).toInt32) &&& (255 : Int32)).toUInt32.toUInt16.toUInt32.toInt32).toUInt32.toUInt16.toUInt32.toInt32)), (.int of), (.ref a1)]))
    obtain ⟨cl3, Ar3, q3, S3, M3, H3, G3⟩ := id MF1
    have hin3 : ¬ (of < 0 ∨ cl3.slots.size ≤ (of).toNatClampNeg) := inb_of S3 ⟨Mp1, (own_pidx0 Mp1 Mp2 Mp3 Mp5 hc1)⟩
    obtain ⟨T3, h3, X3, e3, W3, st3⟩ := stC X2 hx hZ eh2 Ar3 (j := of) hin3 (g := (mkF m 11 #[.val (.ref a1), .val (.int of), .val (.int x), .val (.int n)] [(.int (((((x.toUInt32 >>> ((0 : Int32) &&& 31).toUInt32).toInt32) &&& (255 : Int32)).toUInt32.toUInt16.toUInt32.toInt32).toUInt32.toUInt16.toUInt32.toInt32)), (.int of), (.ref a1)])) rfl rfl (hb hby d2_11)
    have V3 : Arv Z h3 a1 kc .char N ((zs.set (of).toNatClampNeg ((((((x.toUInt32 >>> ((0 : Int32) &&& 31).toUInt32).toInt32) &&& (255 : Int32)).toUInt32.toUInt16.toUInt32.toInt32).toUInt32.toUInt16.toUInt32.toInt32).toUInt32.toUInt16.toUInt32.toInt32)).map Value.int) (.int (0 : Int32)) := own_setM zs _ _ ▸ Arv.set Ar3 q3 S3 M3 H3 G3 (fits_nar_char _) W3 _ rfl (own_hi' Mp6 Mp1 (own_pidx0 Mp1 Mp2 Mp3 Mp5 hc1))
    have LN3 : (zs.set (of).toNatClampNeg ((((((x.toUInt32 >>> ((0 : Int32) &&& 31).toUInt32).toInt32) &&& (255 : Int32)).toUInt32.toUInt16.toUInt32.toInt32).toUInt32.toUInt16.toUInt32.toInt32).toUInt32.toUInt16.toUInt32.toInt32)).length = (N).toNatClampNeg := List.length_set.trans Mp6
    have N3 := Fr.snoc X3 N2 Mg1
    have O3 : Old Z n0 h3 := O0.wr W3 Mg1
    have K3 : Keep h0 h3 [a1] := (Keep.refl h0 [a1]).wr W3 (Or.inl (List.mem_of_getElem? (i := 0) rfl))
    refine Go.st st3 ?_
    show Go p e below _ (T3.setTop (mkF m 12 #[.val (.ref a1), .val (.int of), .val (.int x), .val (.int n)] []))
    refine Go.st (fun t k => XS.iloadN X3.here hx rfl (hb hby d2_12) rfl k) ?_
    show Go p e below _ (T3.setTop (mkF m 13 #[.val (.ref a1), .val (.int of), .val (.int x), .val (.int n)] [(.int n)]))
    refine Go.st (fun t k => XS.iconst X3.here hx rfl (hb hby d2_13) k) ?_
    show Go p e below _ (T3.setTop (mkF m 14 #[.val (.ref a1), .val (.int of), .val (.int x), .val (.int n)] [(.int (1 : Int32)), (.int n)]))
    by_cases hc4 : (1 : Int32) < n
    · refine Go.st (fun t k => XS.icmpNo X3.here hx rfl (hb hby d2_14) rfl (Jvm.Free.XT.ii_le_f hc4) k) ?_
      show Go p e below _ (T3.setTop (mkF m 17 #[.val (.ref a1), .val (.int of), .val (.int x), .val (.int n)] []))
      refine Go.st (fun t k => XS.aloadN X3.here hx rfl (hb hby d2_17) rfl rfl k) ?_
      show Go p e below _ (T3.setTop (mkF m 18 #[.val (.ref a1), .val (.int of), .val (.int x), .val (.int n)] [(.ref a1)]))
      refine Go.st (fun t k => XS.iloadN X3.here hx rfl (hb hby d2_18) rfl k) ?_
      show Go p e below _ (T3.setTop (mkF m 19 #[.val (.ref a1), .val (.int of), .val (.int x), .val (.int n)] [(.int of), (.ref a1)]))
      refine Go.st (fun t k => XS.iconst X3.here hx rfl (hb hby d2_19) k) ?_
      show Go p e below _ (T3.setTop (mkF m 20 #[.val (.ref a1), .val (.int of), .val (.int x), .val (.int n)] [(.int (1 : Int32)), (.int of), (.ref a1)]))
      refine Go.st (fun t k => XS.iadd X3.here hx rfl (hb hby d2_20) rfl k) ?_
      show Go p e below _ (T3.setTop (mkF m 21 #[.val (.ref a1), .val (.int of), .val (.int x), .val (.int n)] [(.int (of + (1 : Int32))), (.ref a1)]))
      refine Go.st (fun t k => XS.iloadN X3.here hx rfl (hb hby d2_21) rfl k) ?_
      show Go p e below _ (T3.setTop (mkF m 22 #[.val (.ref a1), .val (.int of), .val (.int x), .val (.int n)] [(.int x), (.int (of + (1 : Int32))), (.ref a1)]))
      refine Go.st (fun t k => XS.iconst X3.here hx rfl (hb hby d2_22) k) ?_
      show Go p e below _ (T3.setTop (mkF m 23 #[.val (.ref a1), .val (.int of), .val (.int x), .val (.int n)] [(.int (1 : Int32)), (.int x), (.int (of + (1 : Int32))), (.ref a1)]))
      obtain ⟨_, _, ⟨T5, L5, k5, n5⟩, -, X5, ⟨Lc5, hQ5, l5, y5, z5⟩, st5⟩ := Jvm.LawKit.callS X3 hx (y := (⟨"com/example/lease/lease/core/InvalidFieldExceptionWithinPinLaw", "ch", "(II)C"⟩ : MethodName)) hown (mvT hZ (w8 hw)) (mvT hZ (w9 hw)) (mvT hZ (w2 hw)) (mvT hZ (w10 hw)) (by decide) (backOf (W := 2) (rm3_2 l Z a0 hw [] x h3 n0 O3 ) hZ (w10 hw) (w2 hw) (by decide) (by decide)) (g := (mkF m 23 #[.val (.ref a1), .val (.int of), .val (.int x), .val (.int n)] [(.int (1 : Int32)), (.int x), (.int (of + (1 : Int32))), (.ref a1)])) rfl (by rw [hml]; rfl) (argsL := [(.int x), (.int (1 : Int32))]) (rest := [(.int (of + (1 : Int32))), (.ref a1)]) (lenOf pd_0 rfl) rfl (by show 2 * 0 + _ ≤ _; exact Nat.le_of_eq rfl) (hb hby d2_23) (fun vm₁ hw₁ => ⟨rfl, e3, (by decide : 0 + 0 ≤ _), (by decide : 0 + 0 ≤ _)⟩)
      dsimp only [Pt.U, Pt.locs, Pt.cells, Pt.slots] at X5 l5 y5 z5 st5 hQ5
      subst l5 y5 z5
      obtain ⟨rfl, M5, eh5⟩ := hQ5
      have N5 := Fr.app N3 M5
      refine Go.st st5 ?_
      show Go p e below _ (T5.setTop (mkF m 26 #[.val (.ref a1), .val (.int of), .val (.int x), .val (.int n)] [(.int (((((x.toUInt32 >>> ((8 : Int32) &&& 31).toUInt32).toInt32) &&& (255 : Int32)).toUInt32.toUInt16.toUInt32.toInt32).toUInt32.toUInt16.toUInt32.toInt32)), (.int (of + (1 : Int32))), (.ref a1)]))
      obtain ⟨cl6, Ar6, q6, S6, M6, H6, G6⟩ := id V3
      have hin6 : ¬ ((of + (1 : Int32)) < 0 ∨ cl6.slots.size ≤ ((of + (1 : Int32))).toNatClampNeg) := inb_of S6 ⟨(own_pidx Mp1 Mp2 Mp3 Mp5 hc4 (by decide)).1, (own_pidx Mp1 Mp2 Mp3 Mp5 hc4 (by decide)).2⟩
      obtain ⟨T6, h6, X6, e6, W6, st6⟩ := stC X5 hx hZ eh5 Ar6 (j := (of + (1 : Int32))) hin6 (g := (mkF m 26 #[.val (.ref a1), .val (.int of), .val (.int x), .val (.int n)] [(.int (((((x.toUInt32 >>> ((8 : Int32) &&& 31).toUInt32).toInt32) &&& (255 : Int32)).toUInt32.toUInt16.toUInt32.toInt32).toUInt32.toUInt16.toUInt32.toInt32)), (.int (of + (1 : Int32))), (.ref a1)])) rfl rfl (hb hby d2_26)
      have V6 : Arv Z h6 a1 kc .char N (((zs.set (of).toNatClampNeg ((((((x.toUInt32 >>> ((0 : Int32) &&& 31).toUInt32).toInt32) &&& (255 : Int32)).toUInt32.toUInt16.toUInt32.toInt32).toUInt32.toUInt16.toUInt32.toInt32).toUInt32.toUInt16.toUInt32.toInt32)).set ((of + (1 : Int32))).toNatClampNeg ((((((x.toUInt32 >>> ((8 : Int32) &&& 31).toUInt32).toInt32) &&& (255 : Int32)).toUInt32.toUInt16.toUInt32.toInt32).toUInt32.toUInt16.toUInt32.toInt32).toUInt32.toUInt16.toUInt32.toInt32)).map Value.int) (.int (0 : Int32)) := own_setM (zs.set (of).toNatClampNeg ((((((x.toUInt32 >>> ((0 : Int32) &&& 31).toUInt32).toInt32) &&& (255 : Int32)).toUInt32.toUInt16.toUInt32.toInt32).toUInt32.toUInt16.toUInt32.toInt32).toUInt32.toUInt16.toUInt32.toInt32)) _ _ ▸ Arv.set Ar6 q6 S6 M6 H6 G6 (fits_nar_char _) W6 _ rfl (own_hi' LN3 (own_pidx Mp1 Mp2 Mp3 Mp5 hc4 (by decide)).1 (own_pidx Mp1 Mp2 Mp3 Mp5 hc4 (by decide)).2)
      have LN6 : ((zs.set (of).toNatClampNeg ((((((x.toUInt32 >>> ((0 : Int32) &&& 31).toUInt32).toInt32) &&& (255 : Int32)).toUInt32.toUInt16.toUInt32.toInt32).toUInt32.toUInt16.toUInt32.toInt32).toUInt32.toUInt16.toUInt32.toInt32)).set ((of + (1 : Int32))).toNatClampNeg ((((((x.toUInt32 >>> ((8 : Int32) &&& 31).toUInt32).toInt32) &&& (255 : Int32)).toUInt32.toUInt16.toUInt32.toInt32).toUInt32.toUInt16.toUInt32.toInt32).toUInt32.toUInt16.toUInt32.toInt32)).length = (N).toNatClampNeg := List.length_set.trans LN3
      have N6 := Fr.snoc X6 N5 Mg1
      have O6 : Old Z n0 h6 := O3.wr W6 Mg1
      have K6 : Keep h0 h6 [a1] := K3.wr W6 (Or.inl (List.mem_of_getElem? (i := 0) rfl))
      refine Go.st st6 ?_
      show Go p e below _ (T6.setTop (mkF m 27 #[.val (.ref a1), .val (.int of), .val (.int x), .val (.int n)] []))
      refine Go.st (fun t k => XS.iloadN X6.here hx rfl (hb hby d2_27) rfl k) ?_
      show Go p e below _ (T6.setTop (mkF m 28 #[.val (.ref a1), .val (.int of), .val (.int x), .val (.int n)] [(.int n)]))
      refine Go.st (fun t k => XS.iconst X6.here hx rfl (hb hby d2_28) k) ?_
      show Go p e below _ (T6.setTop (mkF m 29 #[.val (.ref a1), .val (.int of), .val (.int x), .val (.int n)] [(.int (2 : Int32)), (.int n)]))
      by_cases hc7 : (2 : Int32) < n
      · refine Go.st (fun t k => XS.icmpNo X6.here hx rfl (hb hby d2_29) rfl (Jvm.Free.XT.ii_le_f hc7) k) ?_
        show Go p e below _ (T6.setTop (mkF m 32 #[.val (.ref a1), .val (.int of), .val (.int x), .val (.int n)] []))
        refine Go.st (fun t k => XS.aloadN X6.here hx rfl (hb hby d2_32) rfl rfl k) ?_
        show Go p e below _ (T6.setTop (mkF m 33 #[.val (.ref a1), .val (.int of), .val (.int x), .val (.int n)] [(.ref a1)]))
        refine Go.st (fun t k => XS.iloadN X6.here hx rfl (hb hby d2_33) rfl k) ?_
        show Go p e below _ (T6.setTop (mkF m 34 #[.val (.ref a1), .val (.int of), .val (.int x), .val (.int n)] [(.int of), (.ref a1)]))
        refine Go.st (fun t k => XS.iconst X6.here hx rfl (hb hby d2_34) k) ?_
        show Go p e below _ (T6.setTop (mkF m 35 #[.val (.ref a1), .val (.int of), .val (.int x), .val (.int n)] [(.int (2 : Int32)), (.int of), (.ref a1)]))
        refine Go.st (fun t k => XS.iadd X6.here hx rfl (hb hby d2_35) rfl k) ?_
        show Go p e below _ (T6.setTop (mkF m 36 #[.val (.ref a1), .val (.int of), .val (.int x), .val (.int n)] [(.int (of + (2 : Int32))), (.ref a1)]))
        refine Go.st (fun t k => XS.iloadN X6.here hx rfl (hb hby d2_36) rfl k) ?_
        show Go p e below _ (T6.setTop (mkF m 37 #[.val (.ref a1), .val (.int of), .val (.int x), .val (.int n)] [(.int x), (.int (of + (2 : Int32))), (.ref a1)]))
        refine Go.st (fun t k => XS.iconst X6.here hx rfl (hb hby d2_37) k) ?_
        show Go p e below _ (T6.setTop (mkF m 38 #[.val (.ref a1), .val (.int of), .val (.int x), .val (.int n)] [(.int (2 : Int32)), (.int x), (.int (of + (2 : Int32))), (.ref a1)]))
        obtain ⟨_, _, ⟨T8, L8, k8, n8⟩, -, X8, ⟨Lc8, hQ8, l8, y8, z8⟩, st8⟩ := Jvm.LawKit.callS X6 hx (y := (⟨"com/example/lease/lease/core/InvalidFieldExceptionWithinPinLaw", "ch", "(II)C"⟩ : MethodName)) hown (mvT hZ (w8 hw)) (mvT hZ (w9 hw)) (mvT hZ (w2 hw)) (mvT hZ (w10 hw)) (by decide) (backOf (W := 2) (rm3_3 l Z a0 hw [] x h6 n0 O6 ) hZ (w10 hw) (w2 hw) (by decide) (by decide)) (g := (mkF m 38 #[.val (.ref a1), .val (.int of), .val (.int x), .val (.int n)] [(.int (2 : Int32)), (.int x), (.int (of + (2 : Int32))), (.ref a1)])) rfl (by rw [hml]; rfl) (argsL := [(.int x), (.int (2 : Int32))]) (rest := [(.int (of + (2 : Int32))), (.ref a1)]) (lenOf pd_0 rfl) rfl (by show 2 * 0 + _ ≤ _; exact Nat.le_of_eq rfl) (hb hby d2_38) (fun vm₁ hw₁ => ⟨rfl, e6, (by decide : 0 + 0 ≤ _), (by decide : 0 + 0 ≤ _)⟩)
        dsimp only [Pt.U, Pt.locs, Pt.cells, Pt.slots] at X8 l8 y8 z8 st8 hQ8
        subst l8 y8 z8
        obtain ⟨rfl, M8, eh8⟩ := hQ8
        have N8 := Fr.app N6 M8
        refine Go.st st8 ?_
        show Go p e below _ (T8.setTop (mkF m 41 #[.val (.ref a1), .val (.int of), .val (.int x), .val (.int n)] [(.int (((((x.toUInt32 >>> ((16 : Int32) &&& 31).toUInt32).toInt32) &&& (255 : Int32)).toUInt32.toUInt16.toUInt32.toInt32).toUInt32.toUInt16.toUInt32.toInt32)), (.int (of + (2 : Int32))), (.ref a1)]))
        obtain ⟨cl9, Ar9, q9, S9, M9, H9, G9⟩ := id V6
        have hin9 : ¬ ((of + (2 : Int32)) < 0 ∨ cl9.slots.size ≤ ((of + (2 : Int32))).toNatClampNeg) := inb_of S9 ⟨(own_pidx Mp1 Mp2 Mp3 Mp5 hc7 (by decide)).1, (own_pidx Mp1 Mp2 Mp3 Mp5 hc7 (by decide)).2⟩
        obtain ⟨T9, h9, X9, e9, W9, st9⟩ := stC X8 hx hZ eh8 Ar9 (j := (of + (2 : Int32))) hin9 (g := (mkF m 41 #[.val (.ref a1), .val (.int of), .val (.int x), .val (.int n)] [(.int (((((x.toUInt32 >>> ((16 : Int32) &&& 31).toUInt32).toInt32) &&& (255 : Int32)).toUInt32.toUInt16.toUInt32.toInt32).toUInt32.toUInt16.toUInt32.toInt32)), (.int (of + (2 : Int32))), (.ref a1)])) rfl rfl (hb hby d2_41)
        have V9 : Arv Z h9 a1 kc .char N ((((zs.set (of).toNatClampNeg ((((((x.toUInt32 >>> ((0 : Int32) &&& 31).toUInt32).toInt32) &&& (255 : Int32)).toUInt32.toUInt16.toUInt32.toInt32).toUInt32.toUInt16.toUInt32.toInt32).toUInt32.toUInt16.toUInt32.toInt32)).set ((of + (1 : Int32))).toNatClampNeg ((((((x.toUInt32 >>> ((8 : Int32) &&& 31).toUInt32).toInt32) &&& (255 : Int32)).toUInt32.toUInt16.toUInt32.toInt32).toUInt32.toUInt16.toUInt32.toInt32).toUInt32.toUInt16.toUInt32.toInt32)).set ((of + (2 : Int32))).toNatClampNeg ((((((x.toUInt32 >>> ((16 : Int32) &&& 31).toUInt32).toInt32) &&& (255 : Int32)).toUInt32.toUInt16.toUInt32.toInt32).toUInt32.toUInt16.toUInt32.toInt32).toUInt32.toUInt16.toUInt32.toInt32)).map Value.int) (.int (0 : Int32)) := own_setM ((zs.set (of).toNatClampNeg ((((((x.toUInt32 >>> ((0 : Int32) &&& 31).toUInt32).toInt32) &&& (255 : Int32)).toUInt32.toUInt16.toUInt32.toInt32).toUInt32.toUInt16.toUInt32.toInt32).toUInt32.toUInt16.toUInt32.toInt32)).set ((of + (1 : Int32))).toNatClampNeg ((((((x.toUInt32 >>> ((8 : Int32) &&& 31).toUInt32).toInt32) &&& (255 : Int32)).toUInt32.toUInt16.toUInt32.toInt32).toUInt32.toUInt16.toUInt32.toInt32).toUInt32.toUInt16.toUInt32.toInt32)) _ _ ▸ Arv.set Ar9 q9 S9 M9 H9 G9 (fits_nar_char _) W9 _ rfl (own_hi' LN6 (own_pidx Mp1 Mp2 Mp3 Mp5 hc7 (by decide)).1 (own_pidx Mp1 Mp2 Mp3 Mp5 hc7 (by decide)).2)
        have LN9 : (((zs.set (of).toNatClampNeg ((((((x.toUInt32 >>> ((0 : Int32) &&& 31).toUInt32).toInt32) &&& (255 : Int32)).toUInt32.toUInt16.toUInt32.toInt32).toUInt32.toUInt16.toUInt32.toInt32).toUInt32.toUInt16.toUInt32.toInt32)).set ((of + (1 : Int32))).toNatClampNeg ((((((x.toUInt32 >>> ((8 : Int32) &&& 31).toUInt32).toInt32) &&& (255 : Int32)).toUInt32.toUInt16.toUInt32.toInt32).toUInt32.toUInt16.toUInt32.toInt32).toUInt32.toUInt16.toUInt32.toInt32)).set ((of + (2 : Int32))).toNatClampNeg ((((((x.toUInt32 >>> ((16 : Int32) &&& 31).toUInt32).toInt32) &&& (255 : Int32)).toUInt32.toUInt16.toUInt32.toInt32).toUInt32.toUInt16.toUInt32.toInt32).toUInt32.toUInt16.toUInt32.toInt32)).length = (N).toNatClampNeg := List.length_set.trans LN6
        have N9 := Fr.snoc X9 N8 Mg1
        have O9 : Old Z n0 h9 := O6.wr W9 Mg1
        have K9 : Keep h0 h9 [a1] := K6.wr W9 (Or.inl (List.mem_of_getElem? (i := 0) rfl))
        refine Go.st st9 ?_
        show Go p e below _ (T9.setTop (mkF m 42 #[.val (.ref a1), .val (.int of), .val (.int x), .val (.int n)] []))
        obtain ⟨fs, hr, hrun, hended, hWd, hsame⟩ := X9.leave (v := none) (fun _ => rfl)
        refine ⟨_, _, ?_, hrun, hended, _, _, rfl, ?_, ⟨⟨_, rfl⟩, hWd, hsame.mono (by decide) (by decide)⟩⟩
        · exact X9.returnOut hx Bd.returns (hb hby d2_42) hr
        · show Q_rmP Z a1 of x n zs kc N h0 n0 _ T9.heap _
          rw [e9]
          exact ⟨rfl, N9, K9, (by rw [own_pc3 hc7]; exact V9), (by rw [own_pcL]; exact Mp6)⟩
      · refine Go.st (fun t k => XS.icmpYes X6.here hx rfl (pc0 := 29) (pc' := 42) rfl (hb hby d2_29) rfl (Jvm.Free.XT.ii_le_t hc7) (by decide) (by decide) k) ?_
        show Go p e below _ (T6.setTop (mkF m 42 #[.val (.ref a1), .val (.int of), .val (.int x), .val (.int n)] []))
        obtain ⟨fs, hr, hrun, hended, hWd, hsame⟩ := X6.leave (v := none) (fun _ => rfl)
        refine ⟨_, _, ?_, hrun, hended, _, _, rfl, ?_, ⟨⟨_, rfl⟩, hWd, hsame.mono (by decide) (by decide)⟩⟩
        · exact X6.returnOut hx Bd.returns (hb hby d2_42) hr
        · show Q_rmP Z a1 of x n zs kc N h0 n0 _ T6.heap _
          rw [e6]
          exact ⟨rfl, N6, K6, (by rw [own_pc2 hc7 hc4]; exact V6), (by rw [own_pcL]; exact Mp6)⟩
    · refine Go.st (fun t k => XS.icmpYes X3.here hx rfl (pc0 := 14) (pc' := 27) rfl (hb hby d2_14) rfl (Jvm.Free.XT.ii_le_t hc4) (by decide) (by decide) k) ?_
      show Go p e below _ (T3.setTop (mkF m 27 #[.val (.ref a1), .val (.int of), .val (.int x), .val (.int n)] []))
      refine Go.st (fun t k => XS.iloadN X3.here hx rfl (hb hby d2_27) rfl k) ?_
      show Go p e below _ (T3.setTop (mkF m 28 #[.val (.ref a1), .val (.int of), .val (.int x), .val (.int n)] [(.int n)]))
      refine Go.st (fun t k => XS.iconst X3.here hx rfl (hb hby d2_28) k) ?_
      show Go p e below _ (T3.setTop (mkF m 29 #[.val (.ref a1), .val (.int of), .val (.int x), .val (.int n)] [(.int (2 : Int32)), (.int n)]))
      refine Go.st (fun t k => XS.icmpYes X3.here hx rfl (pc0 := 29) (pc' := 42) rfl (hb hby d2_29) rfl (Jvm.Free.XT.ii_le_t (own_ltm hc4 (by decide))) (by decide) (by decide) k) ?_
      show Go p e below _ (T3.setTop (mkF m 42 #[.val (.ref a1), .val (.int of), .val (.int x), .val (.int n)] []))
      obtain ⟨fs, hr, hrun, hended, hWd, hsame⟩ := X3.leave (v := none) (fun _ => rfl)
      refine ⟨_, _, ?_, hrun, hended, _, _, rfl, ?_, ⟨⟨_, rfl⟩, hWd, hsame.mono (by decide) (by decide)⟩⟩
      · exact X3.returnOut hx Bd.returns (hb hby d2_42) hr
      · show Q_rmP Z a1 of x n zs kc N h0 n0 _ T3.heap _
        rw [e3]
        exact ⟨rfl, N3, K3, (by rw [own_pc1 hc4 hc1]; exact V3), (by rw [own_pcL]; exact Mp6)⟩
  · refine Go.st (fun t k => XS.ifYes X0.here hx rfl (pc0 := 1) (pc' := 12) rfl (hb hby d2_1) rfl (Jvm.Free.XT.i0_le_t hc1) (by decide) (by decide) k) ?_
    show Go p e below _ (s₁.setTop (mkF m 12 #[.val (.ref a1), .val (.int of), .val (.int x), .val (.int n)] []))
    refine Go.st (fun t k => XS.iloadN X0.here hx rfl (hb hby d2_12) rfl k) ?_
    show Go p e below _ (s₁.setTop (mkF m 13 #[.val (.ref a1), .val (.int of), .val (.int x), .val (.int n)] [(.int n)]))
    refine Go.st (fun t k => XS.iconst X0.here hx rfl (hb hby d2_13) k) ?_
    show Go p e below _ (s₁.setTop (mkF m 14 #[.val (.ref a1), .val (.int of), .val (.int x), .val (.int n)] [(.int (1 : Int32)), (.int n)]))
    refine Go.st (fun t k => XS.icmpYes X0.here hx rfl (pc0 := 14) (pc' := 27) rfl (hb hby d2_14) rfl (Jvm.Free.XT.ii_le_t (own_ltm hc1 (by decide))) (by decide) (by decide) k) ?_
    show Go p e below _ (s₁.setTop (mkF m 27 #[.val (.ref a1), .val (.int of), .val (.int x), .val (.int n)] []))
    refine Go.st (fun t k => XS.iloadN X0.here hx rfl (hb hby d2_27) rfl k) ?_
    show Go p e below _ (s₁.setTop (mkF m 28 #[.val (.ref a1), .val (.int of), .val (.int x), .val (.int n)] [(.int n)]))
    refine Go.st (fun t k => XS.iconst X0.here hx rfl (hb hby d2_28) k) ?_
    show Go p e below _ (s₁.setTop (mkF m 29 #[.val (.ref a1), .val (.int of), .val (.int x), .val (.int n)] [(.int (2 : Int32)), (.int n)]))
    refine Go.st (fun t k => XS.icmpYes X0.here hx rfl (pc0 := 29) (pc' := 42) rfl (hb hby d2_29) rfl (Jvm.Free.XT.ii_le_t (own_ltm hc1 (by decide))) (by decide) (by decide) k) ?_
    show Go p e below _ (s₁.setTop (mkF m 42 #[.val (.ref a1), .val (.int of), .val (.int x), .val (.int n)] []))
    obtain ⟨fs, hr, hrun, hended, hWd, hsame⟩ := X0.leave (v := none) (fun _ => rfl)
    refine ⟨_, _, ?_, hrun, hended, _, _, rfl, ?_, ⟨⟨_, rfl⟩, hWd, hsame.mono (by decide) (by decide)⟩⟩
    · exact X0.returnOut hx Bd.returns (hb hby d2_42) hr
    · show Q_rmP Z a1 of x n zs kc N h0 n0 _ s₁.heap _
      rw [e0]
      exact ⟨rfl, N0, (Keep.refl h0 [a1]), (by rw [own_pc0 hc1]; exact MF1), (by rw [own_pcL]; exact Mp6)⟩
def Q_rm5_1 (Z : State) (a1 : Addr) (a2 : Addr) (h0 : Heap) (n0 : Nat) (v : Option Value) (h : Heap) (L : List Loc) : Prop := ∃ (t2 : Addr) (kk2 : ClassId), v = none ∧ Fr n0 L ∧ Keep h0 h [a1] ∧ Fld Z h a1 "java/lang/String" "value" "[B" (.ref t2) ∧ Fld Z h a1 "java/lang/String" "coder" "B" (.int (0 : Int32)) ∧ Arv Z h t2 kk2 .byte (0 : Int32) [] (.int (0 : Int32))
set_option maxRecDepth 65536 in
set_option maxHeartbeats 40000000 in
theorem rm5_1 (l : Launch) (Z : State) (a0 : Array Value) (hw : ∀ d ∈ tables_1, d.before a0 Z = true) (ws : List Jvm.Cond) (a1 : Addr) (a2 : Addr) (h0 : Heap) (n0 : Nat) (O0 : Old Z n0 h0) (P1 : Exa Z h0 a1 "java/lang/String") (P2 : Fld Z h0 a1 "java/lang/String" "value" "[B" .null) (P3 : n0 ≤ a1) (P4 : Fld Z h0 a1 "java/lang/String" "coder" "B" (.int (0 : Int32))) :
    MetFree l (⟨"java/lang/String", "<init>", "([CIILjava/lang/Void;)V"⟩ : MethodName) (head1 (Jvm.Cond.code (⟨"java/lang/String", "<init>", "([CIILjava/lang/Void;)V"⟩ : MethodName) jdk_42_method_149_code 6 none :: ws) ({ frames := 1, cells := 4, slots := 8, locals := 12 } : Room)) (fun a U => a = #[(.ref a1), (.ref a2), (.int (0 : Int32)), (.int (0 : Int32)), .null] ∧ Z.Warmed39 U.vm ∧ U.heap = h0 ∧ CHv Z consts_1 U.vm h0 ∧ Safe Z consts_1 U.vm h0 a1) (fun _ _ bl s _ => s.vm.MethodsKnown ∧ s.vm.FramesKnown bl) (fun _ U o U' => ∃ v L, o = .returned v ∧ (Q_rm5_1 Z a1 a2 h0 n0 v U'.heap L ∧ CHr Z consts_1 U.vm U.heap U'.vm U'.heap) ∧ ReturnedEndW U o U' L ({ frames := 1, cells := 4, slots := 8, locals := 12 } : Room).cells ({ frames := 1, cells := 4, slots := 8, locals := 12 } : Room).slots) := by
  refine MetFree.of_bodySF (plainFor_of_name pn_1) hisR ?_
  intro p e s m args below meth c s₁ Bd hml0 hP hK
  obtain ⟨rfl, hZ, hh, HV0, HV1⟩ := hP
  have hx := Bd.exec
  have hby := Bd.bytes
  have hml : c.maxLocals = 6 := hml0
  have hown : s.vm.findClass "java/lang/String" = some m.cls := findClass_of_methodNamed Bd.named
  have hnm := (name_of_methodNamed Bd.named Bd.method).1
  have X0 : Stand p l e ({ frames := 1, cells := 4, slots := 8, locals := 12 } : Room) s m #[(.ref a1), (.ref a2), (.int (0 : Int32)), (.int (0 : Int32)), .null] below meth c s₁ [] 0 0 := Stand.of_body Bd
  have e0 : s₁.heap = h0 := by rw [← hh, Bd.state]; rfl
  have N0 := Fr.nil n0
  obtain ⟨hTK, hBl⟩ := hK
  have CR0 := CHr.refl HV0
  refine Go.start (P := (fun o U' => ∃ v L, o = .returned v ∧ (Q_rm5_1 Z a1 a2 h0 n0 v U'.heap L ∧ CHr Z consts_1 s.vm s.heap U'.vm U'.heap) ∧ ReturnedEndW s o U' L ({ frames := 1, cells := 4, slots := 8, locals := 12 } : Room).cells ({ frames := 1, cells := 4, slots := 8, locals := 12 } : Room).slots)) (castTop (g' := (mkF m 0 #[.val (.ref a1), .val (.ref a2), .val (.int (0 : Int32)), .val (.int (0 : Int32)), .val .null, .unset] [])) (by first | rfl | simp [entryFrame, mkF, argsToLocals, Value.category]) (T := s₁)) ?_
  refine Go.st (fun t k => XS.aloadN X0.here hx rfl (hb hby d5_0) rfl rfl k) ?_
  show Go p e below _ (s₁.setTop (mkF m 1 #[.val (.ref a1), .val (.ref a2), .val (.int (0 : Int32)), .val (.int (0 : Int32)), .val .null, .unset] [(.ref a1)]))
  obtain ⟨T1, X1, e1, st1⟩ := initO X0 hx hZ hown (w21 hw) (w22 hw) (w23 hw) e0 (g := (mkF m 1 #[.val (.ref a1), .val (.ref a2), .val (.int (0 : Int32)), .val (.int (0 : Int32)), .val .null, .unset] [(.ref a1)])) rfl (by rw [hml]; rfl) rfl (hb hby d5_1) (by decide) (W := 0) (by show 2 * 0 + _ ≤ _; exact Nat.le_of_eq rfl) (by decide)
  refine Go.st st1 ?_
  show Go p e below _ (T1.setTop (mkF m 4 #[.val (.ref a1), .val (.ref a2), .val (.int (0 : Int32)), .val (.int (0 : Int32)), .val .null, .unset] []))
  refine Go.st (fun t k => XS.iloadN X1.here hx rfl (hb hby d5_4) rfl k) ?_
  show Go p e below _ (T1.setTop (mkF m 5 #[.val (.ref a1), .val (.ref a2), .val (.int (0 : Int32)), .val (.int (0 : Int32)), .val .null, .unset] [(.int (0 : Int32))]))
  refine Go.st (fun t k => XS.ifNo X1.here hx rfl (hb hby d5_5) rfl (Jvm.Free.XT.i0_ne_f (by decide : (0 : Int32) = (0 : Int32))) k) ?_
  show Go p e below _ (T1.setTop (mkF m 8 #[.val (.ref a1), .val (.ref a2), .val (.int (0 : Int32)), .val (.int (0 : Int32)), .val .null, .unset] []))
  refine Go.st (fun t k => XS.aloadN X1.here hx rfl (hb hby d5_8) rfl rfl k) ?_
  show Go p e below _ (T1.setTop (mkF m 9 #[.val (.ref a1), .val (.ref a2), .val (.int (0 : Int32)), .val (.int (0 : Int32)), .val .null, .unset] [(.ref a1)]))
  obtain ⟨b2, T2, h2, k2, t2, kk2, X2, e2, E2, hS2, hk2, hZ2, hown2, A2, Fc2, Fv2, V2, -, -, HC2, -, NE2, st2⟩ := ldcCH (s := s) (vm0 := s.vm) X1 hx hZ hown (w40 hw) (own_wS hw) e1 (State.WarmedH.since (State.WarmedH.refl s) 0) (Nat.zero_le _) (own_EW hw) (List.mem_of_getElem? (i := 4) rfl) CR0.1 (vs := []) (z := (0 : Int32)) ⟨by decide, rfl⟩ (by decide) (by decide) (g := (mkF m 9 #[.val (.ref a1), .val (.ref a2), .val (.int (0 : Int32)), .val (.int (0 : Int32)), .val .null, .unset] [(.ref a1)])) rfl (hb hby d5_9) (n := 0) (by decide) (by decide) (by decide) (by decide)
  have hZ := hZ2
  have hown := hown2
  have C2 : CHr Z consts_1 s.vm h0 T2.vm h2 := CR0.trans HC2
  have O2 : Old Z n0 h2 := O0.ext E2
  have K2 : Keep h0 h2 [a1] := (Keep.refl h0 [a1]).ext E2
  have S3 := (CHr.safe HC2 P1.lt HV1)
  have ne2_a1 := NE2 a1 S3
  refine Go.st st2 ?_
  show Go p e below _ (T2.setTop (mkF m 11 #[.val (.ref a1), .val (.ref a2), .val (.int (0 : Int32)), .val (.int (0 : Int32)), .val .null, .unset] [(.ref b2), (.ref a1)]))
  obtain ⟨T4, X4, e4, st4⟩ := getF X2 hx hZ hown (host := "") (Or.inl (w38 hw)) Via.refl e2 Fv2 (g := (mkF m 11 #[.val (.ref a1), .val (.ref a2), .val (.int (0 : Int32)), .val (.int (0 : Int32)), .val .null, .unset] [(.ref b2), (.ref a1)])) rfl rfl (hb hby d5_11)
  refine Go.st st4 ?_
  show Go p e below _ (T4.setTop (mkF m 14 #[.val (.ref a1), .val (.ref a2), .val (.int (0 : Int32)), .val (.int (0 : Int32)), .val .null, .unset] [(.ref t2), (.ref a1)]))
  obtain ⟨T5, h5, X5, e5, W5, st5⟩ := putF X4 hx hZ hown (host := "") (Or.inl (w38 hw)) Via.refl e4 (P2.ext E2) (P1.ext E2) (Or.inr ⟨(w39 hw), rfl, hnm⟩) (w12 hw) (ty := (.array .byte)) (by decide) rfl rfl (g := (mkF m 14 #[.val (.ref a1), .val (.ref a2), .val (.int (0 : Int32)), .val (.int (0 : Int32)), .val .null, .unset] [(.ref t2), (.ref a1)])) rfl rfl (hb hby d5_14)
  have F5 : Fld Z h5 a1 "java/lang/String" "value" "[B" (.ref t2) := (P2.ext E2).same W5
  have N5 := Fr.snoc X5 N0 P3
  have SW5 : Safe Z consts_1 T2.vm h2 a1 := S3
  have C5 : CHr Z consts_1 s.vm h0 T2.vm h5 := C2.trans (CHr.wr W5 SW5 C2.1)
  have O5 : Old Z n0 h5 := O2.wr W5 P3
  have K5 : Keep h0 h5 [a1] := K2.wr W5 (Or.inl (List.mem_of_getElem? (i := 0) rfl))
  refine Go.st st5 ?_
  show Go p e below _ (T5.setTop (mkF m 17 #[.val (.ref a1), .val (.ref a2), .val (.int (0 : Int32)), .val (.int (0 : Int32)), .val .null, .unset] []))
  refine Go.st (fun t k => XS.aloadN X5.here hx rfl (hb hby d5_17) rfl rfl k) ?_
  show Go p e below _ (T5.setTop (mkF m 18 #[.val (.ref a1), .val (.ref a2), .val (.int (0 : Int32)), .val (.int (0 : Int32)), .val .null, .unset] [(.ref a1)]))
  obtain ⟨b6, T6, h6, k6, t6, kk6, X6, e6, E6, hS6, hk6, hZ6, hown6, A6, Fc6, Fv6, V6, -, -, HC6, -, NE6, st6⟩ := ldcCH (s := s) (vm0 := T2.vm) X5 hx hZ hown (w40 hw) (own_wS hw) e5 hS2 (Nat.le_trans hk2 (Nat.le_of_eq W5.size.symm)) (own_EW hw) (List.mem_of_getElem? (i := 4) rfl) C5.1 (vs := []) (z := (0 : Int32)) ⟨by decide, rfl⟩ (by decide) (by decide) (g := (mkF m 18 #[.val (.ref a1), .val (.ref a2), .val (.int (0 : Int32)), .val (.int (0 : Int32)), .val .null, .unset] [(.ref a1)])) rfl (hb hby d5_18) (n := 0) (by decide) (by decide) (by decide) (by decide)
  have hZ := hZ6
  have hown := hown6
  have C6 : CHr Z consts_1 s.vm h0 T6.vm h6 := C5.trans HC6
  have O6 : Old Z n0 h6 := O5.ext E6
  have K6 : Keep h0 h6 [a1] := K5.ext E6
  have S7 := (CHr.safe HC6 (Nat.lt_of_lt_of_le (Nat.lt_of_lt_of_le P1.lt E2.1) (Nat.le_of_eq W5.size.symm)) (Safe.wr W5 SW5 C2.1 S3))
  have ne6_a1 := NE6 a1 S7
  refine Go.st st6 ?_
  show Go p e below _ (T6.setTop (mkF m 20 #[.val (.ref a1), .val (.ref a2), .val (.int (0 : Int32)), .val (.int (0 : Int32)), .val .null, .unset] [(.ref b6), (.ref a1)]))
  obtain ⟨T8, X8, e8, st8⟩ := getF X6 hx hZ hown (host := "") (Or.inl (w36 hw)) Via.refl e6 Fc6 (g := (mkF m 20 #[.val (.ref a1), .val (.ref a2), .val (.int (0 : Int32)), .val (.int (0 : Int32)), .val .null, .unset] [(.ref b6), (.ref a1)])) rfl rfl (hb hby d5_20)
  refine Go.st st8 ?_
  show Go p e below _ (T8.setTop (mkF m 23 #[.val (.ref a1), .val (.ref a2), .val (.int (0 : Int32)), .val (.int (0 : Int32)), .val .null, .unset] [(.int (0 : Int32)), (.ref a1)]))
  have c9 := (((P4.ext E2).other W5 (Or.inr (slot_ne (Or.inr (w37 hw)) (Or.inr (w39 hw)) (by decide) (t := .byte) (t' := (.array .byte)) (by decide) (by decide)))).ext E6)
  obtain ⟨T10, h10, X10, e10, W10, st10⟩ := putFN X8 hx hZ hown (w36 hw) Via.refl e8 c9 (((P1.ext E2).wr W5).ext E6) (Or.inr ⟨(w37 hw), rfl, hnm⟩) (w12 hw) (ty := .byte) (v' := (.int (0 : Int32))) (by decide) rfl (by decide) (g := (mkF m 23 #[.val (.ref a1), .val (.ref a2), .val (.int (0 : Int32)), .val (.int (0 : Int32)), .val .null, .unset] [(.int (0 : Int32)), (.ref a1)])) rfl rfl (hb hby d5_23)
  have F10 : Fld Z h10 a1 "java/lang/String" "coder" "B" (.int (0 : Int32)) := c9.same W10
  have N10 := Fr.snoc X10 N5 P3
  have SW10 : Safe Z consts_1 T6.vm h6 a1 := S7
  have C10 : CHr Z consts_1 s.vm h0 T6.vm h10 := C6.trans (CHr.wr W10 SW10 C6.1)
  have O10 : Old Z n0 h10 := O6.wr W10 P3
  have K10 : Keep h0 h10 [a1] := K6.wr W10 (Or.inl (List.mem_of_getElem? (i := 0) rfl))
  refine Go.st st10 ?_
  show Go p e below _ (T10.setTop (mkF m 26 #[.val (.ref a1), .val (.ref a2), .val (.int (0 : Int32)), .val (.int (0 : Int32)), .val .null, .unset] []))
  obtain ⟨fs, hr, hrun, hended, hEnd⟩ := X10.leaveW hS6 (by rw [e10]; exact (Nat.le_trans hk6 (Nat.le_of_eq W10.size.symm))) (v := none) (fun _ => rfl)
  have c11 := ((F5.ext E6).other W10 (Or.inr (slot_ne (Or.inr (w39 hw)) (Or.inr (w37 hw)) (by decide) (t := (.array .byte)) (t' := .byte) (by decide) (by decide))))
  have c12 := (((V2.other W5 (Ne.symm ne2_a1.2)).ext E6).other W10 (Ne.symm ne2_a1.2))
  refine ⟨_, _, ?_, hrun, hended, _, _, rfl, ?_, ⟨hEnd.1, hEnd.2.1, hEnd.2.2.1, hEnd.2.2.2.mono (by decide) (by decide)⟩⟩
  · exact X10.returnOut hx Bd.returns (hb hby d5_26) hr
  · show Q_rm5_1 Z a1 a2 h0 n0 _ T10.heap _ ∧ CHr Z consts_1 s.vm s.heap T10.vm T10.heap
    rw [hh, e10]
    exact ⟨⟨t2, kk2, rfl, N10, K10, c11, F10, c12⟩, C10.trans (own_chX (s := (s.setVm T6.vm)) X10 hZ (own_EW hw) C10.1)⟩
def Q_rm4_1 (Z : State) (a1 : Addr) (a2 : Addr) (kz3 : ClassId) (zs4 : List Int32) (h0 : Heap) (n0 : Nat) (v : Option Value) (h : Heap) (L : List Loc) : Prop := ∃ (t2_2 : Addr) (kk2_2 : ClassId), v = none ∧ Fr n0 L ∧ Keep h0 h [a1] ∧ Fld Z h a1 "java/lang/String" "value" "[B" (.ref t2_2) ∧ Fld Z h a1 "java/lang/String" "coder" "B" (.int (0 : Int32)) ∧ Arv Z h t2_2 kk2_2 .byte (0 : Int32) [] (.int (0 : Int32))
set_option maxRecDepth 65536 in
set_option maxHeartbeats 40000000 in
theorem rm4_1 (l : Launch) (Z : State) (a0 : Array Value) (hw : ∀ d ∈ tables_1, d.before a0 Z = true) (ws : List Jvm.Cond) (a1 : Addr) (a2 : Addr) (kz3 : ClassId) (zs4 : List Int32) (h0 : Heap) (n0 : Nat) (O0 : Old Z n0 h0) (P1 : Arv Z h0 a2 kz3 .char (0 : Int32) (zs4.map Value.int) (.int (0 : Int32))) (P2 : Exa Z h0 a1 "java/lang/String") (P3 : Fld Z h0 a1 "java/lang/String" "value" "[B" .null) (P4 : n0 ≤ a1) (P5 : Fld Z h0 a1 "java/lang/String" "coder" "B" (.int (0 : Int32))) :
    MetFree l (⟨"java/lang/String", "<init>", "([C)V"⟩ : MethodName) (head1 (Jvm.Cond.code (⟨"java/lang/String", "<init>", "([C)V"⟩ : MethodName) jdk_42_method_3_code 2 none :: ws) ({ frames := 2, cells := 4, slots := 8, locals := 29 } : Room)) (fun a U => a = #[(.ref a1), (.ref a2)] ∧ Z.Warmed39 U.vm ∧ U.heap = h0 ∧ CHv Z consts_1 U.vm h0 ∧ Safe Z consts_1 U.vm h0 a1) (fun _ _ bl s _ => s.vm.MethodsKnown ∧ s.vm.FramesKnown bl) (fun _ U o U' => ∃ v L, o = .returned v ∧ (Q_rm4_1 Z a1 a2 kz3 zs4 h0 n0 v U'.heap L ∧ CHr Z consts_1 U.vm U.heap U'.vm U'.heap) ∧ ReturnedEndW U o U' L ({ frames := 2, cells := 4, slots := 8, locals := 29 } : Room).cells ({ frames := 2, cells := 4, slots := 8, locals := 29 } : Room).slots) := by
  refine MetFree.of_bodySF (plainFor_of_name pn_1) hisR ?_
  intro p e s m args below meth c s₁ Bd hml0 hP hK
  obtain ⟨rfl, hZ, hh, HV0, HV1⟩ := hP
  have hx := Bd.exec
  have hby := Bd.bytes
  have hml : c.maxLocals = 2 := hml0
  have hown : s.vm.findClass "java/lang/String" = some m.cls := findClass_of_methodNamed Bd.named
  have hnm := (name_of_methodNamed Bd.named Bd.method).1
  have X0 : Stand p l e ({ frames := 2, cells := 4, slots := 8, locals := 29 } : Room) s m #[(.ref a1), (.ref a2)] below meth c s₁ [] 0 0 := Stand.of_body Bd
  have e0 : s₁.heap = h0 := by rw [← hh, Bd.state]; rfl
  have N0 := Fr.nil n0
  obtain ⟨hTK, hBl⟩ := hK
  have CR0 := CHr.refl HV0
  refine Go.start (P := (fun o U' => ∃ v L, o = .returned v ∧ (Q_rm4_1 Z a1 a2 kz3 zs4 h0 n0 v U'.heap L ∧ CHr Z consts_1 s.vm s.heap U'.vm U'.heap) ∧ ReturnedEndW s o U' L ({ frames := 2, cells := 4, slots := 8, locals := 29 } : Room).cells ({ frames := 2, cells := 4, slots := 8, locals := 29 } : Room).slots)) (castTop (g' := (mkF m 0 #[.val (.ref a1), .val (.ref a2)] [])) (by first | rfl | simp [entryFrame, mkF, argsToLocals, Value.category]) (T := s₁)) ?_
  refine Go.st (fun t k => XS.aloadN X0.here hx rfl (hb hby d4_0) rfl rfl k) ?_
  show Go p e below _ (s₁.setTop (mkF m 1 #[.val (.ref a1), .val (.ref a2)] [(.ref a1)]))
  refine Go.st (fun t k => XS.aloadN X0.here hx rfl (hb hby d4_1) rfl rfl k) ?_
  show Go p e below _ (s₁.setTop (mkF m 2 #[.val (.ref a1), .val (.ref a2)] [(.ref a2), (.ref a1)]))
  refine Go.st (fun t k => XS.iconst X0.here hx rfl (hb hby d4_2) k) ?_
  show Go p e below _ (s₁.setTop (mkF m 3 #[.val (.ref a1), .val (.ref a2)] [(.int (0 : Int32)), (.ref a2), (.ref a1)]))
  refine Go.st (fun t k => XS.aloadN X0.here hx rfl (hb hby d4_3) rfl rfl k) ?_
  show Go p e below _ (s₁.setTop (mkF m 4 #[.val (.ref a1), .val (.ref a2)] [(.ref a2), (.int (0 : Int32)), (.ref a2), (.ref a1)]))
  obtain ⟨cl1, Ar1, -, S1, M1, -, -⟩ := id P1
  refine Go.st (fun t k => X0.arraylength hx (by rw [e0]; exact Ar1.1) (State.isArrayOf_alike hZ.alike Ar1.2.1) (g := (mkF m 4 #[.val (.ref a1), .val (.ref a2)] [(.ref a2), (.int (0 : Int32)), (.ref a2), (.ref a1)])) rfl rfl (hb hby d4_4) t k) ?_
  rw [len_of S1 M1]
  show Go p e below _ (s₁.setTop (mkF m 5 #[.val (.ref a1), .val (.ref a2)] [(.int (0 : Int32)), (.int (0 : Int32)), (.ref a2), (.ref a1)]))
  refine Go.st (fun t k => XS.aconstNull X0.here hx rfl (hb hby d4_5) k) ?_
  show Go p e below _ (s₁.setTop (mkF m 6 #[.val (.ref a1), .val (.ref a2)] [.null, (.int (0 : Int32)), (.int (0 : Int32)), (.ref a2), (.ref a1)]))
  obtain ⟨_, _, ⟨T2, L2, k2, n2⟩, -, X2, hS2, hg2, ⟨Lc2, hQ2, l2, y2, z2⟩, st2⟩ := X0.specialBackS hx (y := (⟨"java/lang/String", "<init>", "([CIILjava/lang/Void;)V"⟩ : MethodName)) rfl hown (mvT hZ (w17 hw)) (mvT hZ (w18 hw)) (mvT hZ (w20 hw)) (by decide) (own_backH (VP := fun vm => CHv Z consts_1 vm h0 ∧ Safe Z consts_1 vm h0 a1) (Q := Q_rm5_1 Z a1 a2 h0 n0) (rm := ({ frames := 1, cells := 4, slots := 8, locals := 12 } : Room)) (W := 0) (rm5_1 l Z a0 hw [] a1 a2 h0 n0 O0 P2 P3 P4 P5) hZ (w20 hw) (w13 hw) (by decide) (by decide) (own_EW hw) CR0.1 hTK hBl) (g := (mkF m 6 #[.val (.ref a1), .val (.ref a2)] [.null, (.int (0 : Int32)), (.int (0 : Int32)), (.ref a2), (.ref a1)])) rfl (by rw [hml]; rfl) (Steps.refl _) (a := a1) (argsL := [(.ref a2), (.int (0 : Int32)), (.int (0 : Int32)), .null]) (rest := []) (lenOf pd_2 rfl) rfl (by show 2 * 0 + _ ≤ _; exact Nat.le_of_eq rfl) (hb hby d4_6) (fun vm₁ hw₁ => ⟨rfl, e0, (⟨(own_chW hZ (own_EW hw) hw₁ CR0.1).1, (own_chW hZ (own_EW hw) hw₁ CR0.1).safe P2.lt HV1⟩), (by decide : 0 + 4 ≤ _), (by decide : 0 + 8 ≤ _)⟩)
  dsimp only [Pt.U, Pt.locs, Pt.cells, Pt.slots] at X2 l2 y2 z2 st2 hQ2 hS2 hg2
  subst l2 y2 z2
  have hZ : Z.Warmed39 (s.setVm T2.vm).vm := State.Warmed39.trans (t := s) hZ hS2.1
  have hown : (s.setVm T2.vm).vm.findClass "java/lang/String" = some m.cls := by rw [show (s.setVm T2.vm).vm = T2.vm from rfl, hS2.1.alike.findClass]; exact hown
  have hS20 := hS2.1
  obtain ⟨hQ2, HC2⟩ := hQ2
  obtain ⟨t2_2, kk2_2, rfl, M2, K2c, r2_0, r2_1, r2_2⟩ := hQ2
  have N2 := Fr.app N0 M2
  have C2 : CHr Z consts_1 s.vm h0 T2.vm T2.heap := CR0.trans HC2
  have O2 : Old Z n0 T2.heap := O0.keep K2c (allS P4 all0)
  have K2 : Keep h0 T2.heap [a1] := (Keep.refl h0 [a1]).trans K2c (allS (Or.inl (List.mem_of_getElem? (i := 0) rfl)) all0)
  refine Go.tr st2 ?_
  show Go p e below _ (T2.setTop (mkF m 9 #[.val (.ref a1), .val (.ref a2)] []))
  obtain ⟨fs, hr, hrun, hended, hEnd⟩ := X2.leaveW hS2 (Nat.le_refl _) (v := none) (fun _ => rfl)
  refine ⟨_, _, ?_, hrun, hended, _, _, rfl, ?_, ⟨hEnd.1, hEnd.2.1, hEnd.2.2.1, hEnd.2.2.2.mono (by decide) (by decide)⟩⟩
  · exact X2.returnOut hx Bd.returns (hb hby d4_9) hr
  · show Q_rm4_1 Z a1 a2 kz3 zs4 h0 n0 _ T2.heap _ ∧ CHr Z consts_1 s.vm s.heap T2.vm T2.heap
    rw [hh]
    exact ⟨⟨t2_2, kk2_2, rfl, N2, K2, r2_0, r2_1, r2_2⟩, C2.trans (own_chX (s := (s.setVm T2.vm)) X2 hZ (own_EW hw) C2.1)⟩
def Q_rmS (Z : State) (x : Int32) (n : Int32) (p3 : Int32) (h0 : Heap) (n0 : Nat) (v : Option Value) (h : Heap) (L : List Loc) : Prop := ∃ (bs : Addr) (bt : Addr) (bk : ClassId), v = some (.ref bs) ∧ Fr n0 L ∧ Keep h0 h [] ∧ h0.size ≤ bs ∧ Exa Z h bs "java/lang/String" ∧ Fld Z h bs "java/lang/String" "coder" "B" (.int (0 : Int32)) ∧ Fld Z h bs "java/lang/String" "value" "[B" (.ref bt) ∧ Arv Z h bt bk .byte n ((own_bs x n).map Value.int) (.int (0 : Int32)) ∧ (own_bs x n).length = (n).toNatClampNeg
set_option maxRecDepth 65536 in
set_option maxHeartbeats 40000000 in
theorem rmS (l : Launch) (Z : State) (a0 : Array Value) (hw : ∀ d ∈ tables_1, d.before a0 Z = true) (ws : List Jvm.Cond) (x : Int32) (n : Int32) (p3 : Int32) (h0 : Heap) (n0 : Nat) (O0 : Old Z n0 h0) (Mp1 : ¬ (n < (0 : Int32))) (Mp2 : ¬ ((3 : Int32) < n)) (P3 : Sta Z Z.heap "java/lang/String" "COMPACT_STRINGS" "Z" (.int p3)) (P4 : ¬ (p3 = (0 : Int32))) :
    MetFree l (⟨"com/example/lease/lease/core/InvalidFieldExceptionWithinPinLaw", "str", "(II)Ljava/lang/String;"⟩ : MethodName) (head1 (Jvm.Cond.code (⟨"com/example/lease/lease/core/InvalidFieldExceptionWithinPinLaw", "str", "(II)Ljava/lang/String;"⟩ : MethodName) method_4_code 3 (some (.object "java/lang/String")) :: ws) ({ frames := 4, cells := 6, slots := 15, locals := 66 } : Room)) (fun a U => a = #[(.int x), (.int n)] ∧ Z.Warmed39 U.vm ∧ U.heap = h0 ∧ CHv Z consts_1 U.vm h0) (fun _ _ bl s _ => s.vm.MethodsKnown ∧ s.vm.FramesKnown bl) (fun _ U o U' => ∃ v L, o = .returned v ∧ (Q_rmS Z x n p3 h0 n0 v U'.heap L ∧ CHr Z consts_1 U.vm U.heap U'.vm U'.heap) ∧ ReturnedEndW U o U' L ({ frames := 4, cells := 6, slots := 15, locals := 66 } : Room).cells ({ frames := 4, cells := 6, slots := 15, locals := 66 } : Room).slots) := by
  refine MetFree.of_bodySF (plainFor_of_name pn_0) hisR ?_
  intro p e s m args below meth c s₁ Bd hml0 hP hK
  obtain ⟨rfl, hZ, hh, HV0⟩ := hP
  have hx := Bd.exec
  have hby := Bd.bytes
  have hml : c.maxLocals = 3 := hml0
  have hown : s.vm.findClass "com/example/lease/lease/core/InvalidFieldExceptionWithinPinLaw" = some m.cls := findClass_of_methodNamed Bd.named
  have hnm := (name_of_methodNamed Bd.named Bd.method).1
  have X0 : Stand p l e ({ frames := 4, cells := 6, slots := 15, locals := 66 } : Room) s m #[(.int x), (.int n)] below meth c s₁ [] 0 0 := Stand.of_body Bd
  have e0 : s₁.heap = h0 := by rw [← hh, Bd.state]; rfl
  have N0 := Fr.nil n0
  obtain ⟨hTK, hBl⟩ := hK
  have CR0 := CHr.refl HV0
  refine Go.start (P := (fun o U' => ∃ v L, o = .returned v ∧ (Q_rmS Z x n p3 h0 n0 v U'.heap L ∧ CHr Z consts_1 s.vm s.heap U'.vm U'.heap) ∧ ReturnedEndW s o U' L ({ frames := 4, cells := 6, slots := 15, locals := 66 } : Room).cells ({ frames := 4, cells := 6, slots := 15, locals := 66 } : Room).slots)) (castTop (g' := (mkF m 0 #[.val (.int x), .val (.int n), .unset] [])) (by first | rfl | simp [entryFrame, mkF, argsToLocals, Value.category]) (T := s₁)) ?_
  by_cases hz : n = (0 : Int32)
  · refine own_goE (V := s₁.setTop (mkF m 0 #[.val (.int x), .val (.int (0 : Int32)), .unset] [])) (by rw [hz]) ?_
    refine Go.st (fun t k => XS.iloadN X0.here hx rfl (hb hby d1_0) rfl k) ?_
    show Go p e below _ (s₁.setTop (mkF m 1 #[.val (.int x), .val (.int (0 : Int32)), .unset] [(.int (0 : Int32))]))
    obtain ⟨T1, h1, k1, X1, e1, E1, A1, st1⟩ := newP X0 hx hZ (aty := .char) (w4 hw) e0 (g := (mkF m 1 #[.val (.int x), .val (.int (0 : Int32)), .unset] [(.int (0 : Int32))])) rfl (hb hby d1_1) rfl (by decide : ¬ ((0 : Int32) < (0 : Int32))) (cap := 3) (own_cap 3 (3 : Int32) rfl (by decide : ¬ ((0 : Int32) < (0 : Int32))) (by decide : ¬ ((3 : Int32) < (0 : Int32)))) (by decide) (by decide) (by decide)
    obtain ⟨b1, z1⟩ : ∃ z, z = h0.size := ⟨_, rfl⟩
    rw [← z1] at A1 st1
    have g_b1 : n0 ≤ b1 := Nat.le_trans (own_n0 O0) (Nat.le_of_eq z1.symm)
    have s_b1 : h0.size ≤ b1 := Nat.le_trans (Keep.refl h0 []).1 (Nat.le_of_eq z1.symm)
    have V1 : Arv Z h1 b1 k1 .char (0 : Int32) ((List.replicate 0 (0 : Int32)).map Value.int) (.int (0 : Int32)) := (Arv.new A1 (by decide : ¬ ((0 : Int32) < (0 : Int32)))).pad (own_rp _)
    have LN1 : (List.replicate 0 (0 : Int32)).length = 0 := List.length_replicate
    have C1 : CHr Z consts_1 s.vm h0 s.vm h1 := CR0.trans (CHr.ext E1 CR0.1)
    have O1 : Old Z n0 h1 := O0.ext E1
    have K1 : Keep h0 h1 [] := (Keep.refl h0 []).ext E1
    refine Go.st st1 ?_
    show Go p e below _ (T1.setTop (mkF m 3 #[.val (.int x), .val (.int (0 : Int32)), .unset] [(.ref b1)]))
    refine Go.st (fun t k => XS.astoreN X1.here hx rfl (hb hby d1_3) rfl rfl (l' := #[.val (.int x), .val (.int (0 : Int32)), .val (.ref b1)]) rfl k) ?_
    show Go p e below _ (T1.setTop (mkF m 4 #[.val (.int x), .val (.int (0 : Int32)), .val (.ref b1)] []))
    refine Go.st (fun t k => XS.aloadN X1.here hx rfl (hb hby d1_4) rfl rfl k) ?_
    show Go p e below _ (T1.setTop (mkF m 5 #[.val (.int x), .val (.int (0 : Int32)), .val (.ref b1)] [(.ref b1)]))
    refine Go.st (fun t k => XS.iconst X1.here hx rfl (hb hby d1_5) k) ?_
    show Go p e below _ (T1.setTop (mkF m 6 #[.val (.int x), .val (.int (0 : Int32)), .val (.ref b1)] [(.int (0 : Int32)), (.ref b1)]))
    refine Go.st (fun t k => XS.iloadN X1.here hx rfl (hb hby d1_6) rfl k) ?_
    show Go p e below _ (T1.setTop (mkF m 7 #[.val (.int x), .val (.int (0 : Int32)), .val (.ref b1)] [(.int x), (.int (0 : Int32)), (.ref b1)]))
    refine Go.st (fun t k => XS.iloadN X1.here hx rfl (hb hby d1_7) rfl k) ?_
    show Go p e below _ (T1.setTop (mkF m 8 #[.val (.int x), .val (.int (0 : Int32)), .val (.ref b1)] [(.int (0 : Int32)), (.int x), (.int (0 : Int32)), (.ref b1)]))
    obtain ⟨_, _, ⟨T2, L2, k2, n2⟩, -, X2, ⟨Lc2, hQ2, l2, y2, z2⟩, st2⟩ := Jvm.LawKit.callS X1 hx (y := (⟨"com/example/lease/lease/core/InvalidFieldExceptionWithinPinLaw", "put", "([CIII)V"⟩ : MethodName)) hown (mvT hZ (w5 hw)) (mvT hZ (w6 hw)) (mvT hZ (w2 hw)) (mvT hZ (w7 hw)) (by decide) (backOf (W := 0) (rmP l Z a0 hw [] b1 (0 : Int32) x (0 : Int32) (List.replicate 0 (0 : Int32)) k1 (0 : Int32) h1 n0 O1 g_b1 V1 (by decide : ¬ ((0 : Int32) < (0 : Int32))) (by decide : ¬ ((1000 : Int32) < (0 : Int32))) (by decide : ¬ ((0 : Int32) < (0 : Int32))) (by decide : ¬ ((0 : Int32) < (0 : Int32))) (by decide : ¬ ((3 : Int32) < (0 : Int32))) LN1) hZ (w7 hw) (w2 hw) (by decide) (by decide)) (g := (mkF m 8 #[.val (.int x), .val (.int (0 : Int32)), .val (.ref b1)] [(.int (0 : Int32)), (.int x), (.int (0 : Int32)), (.ref b1)])) rfl (by rw [hml]; rfl) (argsL := [(.ref b1), (.int (0 : Int32)), (.int x), (.int (0 : Int32))]) (rest := []) (lenOf pd_1 rfl) rfl (by show 2 * 0 + _ ≤ _; exact Nat.le_of_eq rfl) (hb hby d1_8) (fun vm₁ hw₁ => ⟨rfl, e1, (by decide : 1 + 0 ≤ _), (by decide : 3 + 0 ≤ _)⟩)
    dsimp only [Pt.U, Pt.locs, Pt.cells, Pt.slots] at X2 l2 y2 z2 st2 hQ2
    subst l2 y2 z2
    obtain ⟨rfl, M2, K2c, r2_0, r2_1⟩ := hQ2
    have N2 := Fr.app N0 M2
    have SK2 : ∀ y ∈ ([b1] : List Addr), Safe Z consts_1 s.vm h1 y := (sfS (Safe.arv hZ.alike V1 nofun) sf0)
    have C2 : CHr Z consts_1 s.vm h0 s.vm T2.heap := C1.trans (CHr.keep K2c SK2 C1.1)
    have O2 : Old Z n0 T2.heap := O1.keep K2c (allS g_b1 all0)
    have K2 : Keep h0 T2.heap [] := K1.trans K2c (allS (Or.inr s_b1) all0)
    refine Go.st st2 ?_
    show Go p e below _ (T2.setTop (mkF m 11 #[.val (.int x), .val (.int (0 : Int32)), .val (.ref b1)] []))
    obtain ⟨T3, h3, X3, e3, E3, A3, D3, -, st3⟩ := newO X2 hx hZ hown (w11 hw) (w12 hw) (w13 hw) rfl (g := (mkF m 11 #[.val (.int x), .val (.int (0 : Int32)), .val (.ref b1)] [])) rfl (hb hby d1_11) (by decide) (by decide)
    obtain ⟨b3, z3⟩ : ∃ z, z = T2.heap.size := ⟨_, rfl⟩
    rw [← z3] at A3 D3 st3
    have g_b3 : n0 ≤ b3 := Nat.le_trans (own_n0 O2) (Nat.le_of_eq z3.symm)
    have s_b3 : h0.size ≤ b3 := Nat.le_trans K2.1 (Nat.le_of_eq z3.symm)
    have C3 : CHr Z consts_1 s.vm h0 s.vm h3 := C2.trans (CHr.ext E3 C2.1)
    have O3 : Old Z n0 h3 := O2.ext E3
    have K3 : Keep h0 h3 [] := K2.ext E3
    have f3_37 : Fld Z h3 b3 "java/lang/String" "coder" "B" (.int (0 : Int32)) := D3 (Or.inr (w37 hw)) (ty := .byte) (by decide)
    have f3_39 : Fld Z h3 b3 "java/lang/String" "value" "[B" .null := D3 (Or.inr (w39 hw)) (ty := (.array .byte)) (by decide)
    refine Go.st st3 ?_
    show Go p e below _ (T3.setTop (mkF m 14 #[.val (.int x), .val (.int (0 : Int32)), .val (.ref b1)] [(.ref b3)]))
    refine Go.st (fun t k => XS.dup X3.here hx rfl (hb hby d1_14) rfl rfl k) ?_
    show Go p e below _ (T3.setTop (mkF m 15 #[.val (.int x), .val (.int (0 : Int32)), .val (.ref b1)] [(.ref b3), (.ref b3)]))
    refine Go.st (fun t k => XS.aloadN X3.here hx rfl (hb hby d1_15) rfl rfl k) ?_
    show Go p e below _ (T3.setTop (mkF m 16 #[.val (.int x), .val (.int (0 : Int32)), .val (.ref b1)] [(.ref b1), (.ref b3), (.ref b3)]))
    have S4 := (Safe.ext E3 C2.1 (Safe.new (Nat.le_of_eq z3.symm)))
    obtain ⟨_, _, ⟨T5, L5, k5, n5⟩, -, X5, hS5, hg5, ⟨Lc5, hQ5, l5, y5, z5⟩, st5⟩ := X3.specialBackS hx (y := (⟨"java/lang/String", "<init>", "([C)V"⟩ : MethodName)) rfl hown (mvT hZ (w14 hw)) (mvT hZ (w15 hw)) (mvT hZ (w16 hw)) (by decide) (own_backH (VP := fun vm => CHv Z consts_1 vm h3 ∧ Safe Z consts_1 vm h3 b3) (Q := Q_rm4_1 Z b3 b1 k1 (own_putc (List.replicate 0 (0 : Int32)) (0 : Int32) x (0 : Int32)) h3 n0) (rm := ({ frames := 2, cells := 4, slots := 8, locals := 29 } : Room)) (W := 1) (rm4_1 l Z a0 hw [] b3 b1 k1 (own_putc (List.replicate 0 (0 : Int32)) (0 : Int32) x (0 : Int32)) h3 n0 O3 (r2_0.ext E3) A3 f3_39 g_b3 f3_37) hZ (w16 hw) (w13 hw) (by decide) (by decide) (own_EW hw) C3.1 hTK hBl) (g := (mkF m 16 #[.val (.int x), .val (.int (0 : Int32)), .val (.ref b1)] [(.ref b1), (.ref b3), (.ref b3)])) rfl (by rw [hml]; rfl) (Steps.refl _) (a := b3) (argsL := [(.ref b1)]) (rest := [(.ref b3)]) (lenOf pd_3 rfl) rfl (by show 2 * 0 + _ ≤ _; exact Nat.le_of_eq rfl) (hb hby d1_16) (fun vm₁ hw₁ => ⟨rfl, e3, (⟨(own_chW hZ (own_EW hw) hw₁ C3.1).1, (own_chW hZ (own_EW hw) hw₁ C3.1).safe A3.lt S4⟩), (by decide : 2 + 4 ≤ _), (by decide : 7 + 8 ≤ _)⟩)
    dsimp only [Pt.U, Pt.locs, Pt.cells, Pt.slots] at X5 l5 y5 z5 st5 hQ5 hS5 hg5
    subst l5 y5 z5
    have hZ : Z.Warmed39 (s.setVm T5.vm).vm := State.Warmed39.trans (t := s) hZ hS5.1
    have hown : (s.setVm T5.vm).vm.findClass "com/example/lease/lease/core/InvalidFieldExceptionWithinPinLaw" = some m.cls := by rw [show (s.setVm T5.vm).vm = T5.vm from rfl, hS5.1.alike.findClass]; exact hown
    have hS50 := hS5.1
    obtain ⟨hQ5, HC5⟩ := hQ5
    obtain ⟨t2_2_5, kk2_2_5, rfl, M5, K5c, r5_0, r5_1, r5_2⟩ := hQ5
    have N5 := Fr.app N2 M5
    have C5 : CHr Z consts_1 s.vm h0 T5.vm T5.heap := C3.trans HC5
    have O5 : Old Z n0 T5.heap := O3.keep K5c (allS g_b3 all0)
    have K5 : Keep h0 T5.heap [] := K3.trans K5c (allS (Or.inr s_b3) all0)
    refine Go.tr st5 ?_
    show Go p e below _ (T5.setTop (mkF m 19 #[.val (.int x), .val (.int (0 : Int32)), .val (.ref b1)] [(.ref b3)]))
    obtain ⟨fs, hr, hrun, hended, hEnd⟩ := X5.leaveW hS5 (Nat.le_refl _) (v := some (.ref b3)) (fun h => by rw [Bd.returns] at h; cases h)
    refine ⟨_, _, ?_, hrun, hended, _, _, rfl, ?_, ⟨hEnd.1, hEnd.2.1, hEnd.2.2.1, hEnd.2.2.2.mono (by decide) (by decide)⟩⟩
    · exact own_retA X5 hx Bd.returns rfl rfl (hb hby d1_19) hr
    · show Q_rmS Z x n p3 h0 n0 _ T5.heap _ ∧ CHr Z consts_1 s.vm s.heap T5.vm T5.heap
      rw [hh]
      exact ⟨⟨b3, t2_2_5, kk2_2_5, rfl, N5, K5, s_b3, (A3.keep K5c), r5_1, r5_0, (by rw [hz, own_bs0]; exact r5_2), (own_bsL _)⟩, C5.trans (own_chX (s := (s.setVm T5.vm)) X5 hZ (own_EW hw) C5.1)⟩
  · show Go p e below _ (s₁.setTop (mkF m 0 #[.val (.int x), .val (.int n), .unset] []))
    refine Go.st (fun t k => XS.iloadN X0.here hx rfl (hb hby d1_0) rfl k) ?_
    show Go p e below _ (s₁.setTop (mkF m 1 #[.val (.int x), .val (.int n), .unset] [(.int n)]))
    obtain ⟨T6, h6, k6, X6, e6, E6, A6, st6⟩ := newP X0 hx hZ (aty := .char) (w4 hw) e0 (g := (mkF m 1 #[.val (.int x), .val (.int n), .unset] [(.int n)])) rfl (hb hby d1_1) rfl Mp1 (cap := 3) (own_cap 3 (3 : Int32) rfl Mp1 Mp2) (by decide) (by decide) (by decide)
    obtain ⟨b6, z6⟩ : ∃ z, z = h0.size := ⟨_, rfl⟩
    rw [← z6] at A6 st6
    have g_b6 : n0 ≤ b6 := Nat.le_trans (own_n0 O0) (Nat.le_of_eq z6.symm)
    have s_b6 : h0.size ≤ b6 := Nat.le_trans (Keep.refl h0 []).1 (Nat.le_of_eq z6.symm)
    have V6 : Arv Z h6 b6 k6 .char n ((List.replicate (n).toNatClampNeg (0 : Int32)).map Value.int) (.int (0 : Int32)) := (Arv.new A6 Mp1).pad (own_rp _)
    have LN6 : (List.replicate (n).toNatClampNeg (0 : Int32)).length = (n).toNatClampNeg := List.length_replicate
    have C6 : CHr Z consts_1 s.vm h0 s.vm h6 := CR0.trans (CHr.ext E6 CR0.1)
    have O6 : Old Z n0 h6 := O0.ext E6
    have K6 : Keep h0 h6 [] := (Keep.refl h0 []).ext E6
    refine Go.st st6 ?_
    show Go p e below _ (T6.setTop (mkF m 3 #[.val (.int x), .val (.int n), .unset] [(.ref b6)]))
    refine Go.st (fun t k => XS.astoreN X6.here hx rfl (hb hby d1_3) rfl rfl (l' := #[.val (.int x), .val (.int n), .val (.ref b6)]) rfl k) ?_
    show Go p e below _ (T6.setTop (mkF m 4 #[.val (.int x), .val (.int n), .val (.ref b6)] []))
    refine Go.st (fun t k => XS.aloadN X6.here hx rfl (hb hby d1_4) rfl rfl k) ?_
    show Go p e below _ (T6.setTop (mkF m 5 #[.val (.int x), .val (.int n), .val (.ref b6)] [(.ref b6)]))
    refine Go.st (fun t k => XS.iconst X6.here hx rfl (hb hby d1_5) k) ?_
    show Go p e below _ (T6.setTop (mkF m 6 #[.val (.int x), .val (.int n), .val (.ref b6)] [(.int (0 : Int32)), (.ref b6)]))
    refine Go.st (fun t k => XS.iloadN X6.here hx rfl (hb hby d1_6) rfl k) ?_
    show Go p e below _ (T6.setTop (mkF m 7 #[.val (.int x), .val (.int n), .val (.ref b6)] [(.int x), (.int (0 : Int32)), (.ref b6)]))
    refine Go.st (fun t k => XS.iloadN X6.here hx rfl (hb hby d1_7) rfl k) ?_
    show Go p e below _ (T6.setTop (mkF m 8 #[.val (.int x), .val (.int n), .val (.ref b6)] [(.int n), (.int x), (.int (0 : Int32)), (.ref b6)]))
    obtain ⟨_, _, ⟨T7, L7, k7, n7⟩, -, X7, ⟨Lc7, hQ7, l7, y7, z7⟩, st7⟩ := Jvm.LawKit.callS X6 hx (y := (⟨"com/example/lease/lease/core/InvalidFieldExceptionWithinPinLaw", "put", "([CIII)V"⟩ : MethodName)) hown (mvT hZ (w5 hw)) (mvT hZ (w6 hw)) (mvT hZ (w2 hw)) (mvT hZ (w7 hw)) (by decide) (backOf (W := 0) (rmP l Z a0 hw [] b6 (0 : Int32) x n (List.replicate (n).toNatClampNeg (0 : Int32)) k6 n h6 n0 O6 g_b6 V6 (by decide : ¬ ((0 : Int32) < (0 : Int32))) (by decide : ¬ ((1000 : Int32) < (0 : Int32))) (own_z0 _) Mp1 Mp2 LN6) hZ (w7 hw) (w2 hw) (by decide) (by decide)) (g := (mkF m 8 #[.val (.int x), .val (.int n), .val (.ref b6)] [(.int n), (.int x), (.int (0 : Int32)), (.ref b6)])) rfl (by rw [hml]; rfl) (argsL := [(.ref b6), (.int (0 : Int32)), (.int x), (.int n)]) (rest := []) (lenOf pd_1 rfl) rfl (by show 2 * 0 + _ ≤ _; exact Nat.le_of_eq rfl) (hb hby d1_8) (fun vm₁ hw₁ => ⟨rfl, e6, (by decide : 1 + 0 ≤ _), (by decide : 3 + 0 ≤ _)⟩)
    dsimp only [Pt.U, Pt.locs, Pt.cells, Pt.slots] at X7 l7 y7 z7 st7 hQ7
    subst l7 y7 z7
    obtain ⟨rfl, M7, K7c, r7_0, r7_1⟩ := hQ7
    have N7 := Fr.app N0 M7
    have SK7 : ∀ y ∈ ([b6] : List Addr), Safe Z consts_1 s.vm h6 y := (sfS (Safe.arv hZ.alike V6 nofun) sf0)
    have C7 : CHr Z consts_1 s.vm h0 s.vm T7.heap := C6.trans (CHr.keep K7c SK7 C6.1)
    have O7 : Old Z n0 T7.heap := O6.keep K7c (allS g_b6 all0)
    have K7 : Keep h0 T7.heap [] := K6.trans K7c (allS (Or.inr s_b6) all0)
    refine Go.st st7 ?_
    show Go p e below _ (T7.setTop (mkF m 11 #[.val (.int x), .val (.int n), .val (.ref b6)] []))
    obtain ⟨T8, h8, X8, e8, E8, A8, D8, -, st8⟩ := newO X7 hx hZ hown (w11 hw) (w12 hw) (w13 hw) rfl (g := (mkF m 11 #[.val (.int x), .val (.int n), .val (.ref b6)] [])) rfl (hb hby d1_11) (by decide) (by decide)
    obtain ⟨b8, z8⟩ : ∃ z, z = T7.heap.size := ⟨_, rfl⟩
    rw [← z8] at A8 D8 st8
    have g_b8 : n0 ≤ b8 := Nat.le_trans (own_n0 O7) (Nat.le_of_eq z8.symm)
    have s_b8 : h0.size ≤ b8 := Nat.le_trans K7.1 (Nat.le_of_eq z8.symm)
    have C8 : CHr Z consts_1 s.vm h0 s.vm h8 := C7.trans (CHr.ext E8 C7.1)
    have O8 : Old Z n0 h8 := O7.ext E8
    have K8 : Keep h0 h8 [] := K7.ext E8
    have f8_37 : Fld Z h8 b8 "java/lang/String" "coder" "B" (.int (0 : Int32)) := D8 (Or.inr (w37 hw)) (ty := .byte) (by decide)
    have f8_39 : Fld Z h8 b8 "java/lang/String" "value" "[B" .null := D8 (Or.inr (w39 hw)) (ty := (.array .byte)) (by decide)
    refine Go.st st8 ?_
    show Go p e below _ (T8.setTop (mkF m 14 #[.val (.int x), .val (.int n), .val (.ref b6)] [(.ref b8)]))
    refine Go.st (fun t k => XS.dup X8.here hx rfl (hb hby d1_14) rfl rfl k) ?_
    show Go p e below _ (T8.setTop (mkF m 15 #[.val (.int x), .val (.int n), .val (.ref b6)] [(.ref b8), (.ref b8)]))
    refine Go.st (fun t k => XS.aloadN X8.here hx rfl (hb hby d1_15) rfl rfl k) ?_
    show Go p e below _ (T8.setTop (mkF m 16 #[.val (.int x), .val (.int n), .val (.ref b6)] [(.ref b6), (.ref b8), (.ref b8)]))
    obtain ⟨_, _, ⟨T9, L9, k9, n9⟩, -, X9, ⟨Lc9, hQ9, l9, y9, z9⟩, st9⟩ := X8.specialBack hx (y := (⟨"java/lang/String", "<init>", "([C)V"⟩ : MethodName)) rfl hown (mvT hZ (w14 hw)) (mvT hZ (w15 hw)) (mvT hZ (w16 hw)) (by decide) (own_backV (W := 1) (n0 := n0) hZ (own_sw hw) (kI := 4) (w12 hw) (x := b8) (b := b6) g_b8 (own_n0 O8) A8 f8_39 f8_37 (r7_0.ext E8) (P3.ext O8.2) P4 r7_1 Mp1 hz (cap := 3) (own_cap 3 (3 : Int32) rfl Mp1 Mp2) (by decide) (own_latP _ _ _ (own_latR _)) (by decide) (by decide)) (g := (mkF m 16 #[.val (.int x), .val (.int n), .val (.ref b6)] [(.ref b6), (.ref b8), (.ref b8)])) rfl (by rw [hml]; rfl) (Steps.refl _) (a := b8) (argsL := [(.ref b6)]) (rest := [(.ref b8)]) (lenOf pd_3 rfl) rfl (by show 2 * 0 + _ ≤ _; exact Nat.le_of_eq rfl) (hb hby d1_16) (fun vm₁ hw₁ => ⟨rfl, e8, (by decide : 2 + 1 ≤ _), (by decide : 7 + 3 ≤ _)⟩)
    dsimp only [Pt.U, Pt.locs, Pt.cells, Pt.slots] at X9 l9 y9 z9 st9 hQ9
    subst l9 y9 z9
    obtain ⟨t_9, kb_9, rfl, M9, K9c, r9_0, r9_1, r9_2, r9_3, r9_4, r9_5⟩ := hQ9
    have N9 := Fr.app N7 M9
    have g_t_9 : n0 ≤ t_9 := Nat.le_trans (own_n0 O8) r9_0
    have s_t_9 : h0.size ≤ t_9 := Nat.le_trans K8.1 r9_0
    have S10 := (Safe.ext E8 C7.1 (Safe.new (Nat.le_of_eq z8.symm)))
    have SK9 : ∀ y ∈ ([b8] : List Addr), Safe Z consts_1 s.vm h8 y := (sfS S10 sf0)
    have C9 : CHr Z consts_1 s.vm h0 s.vm T9.heap := C8.trans (CHr.keep K9c SK9 C8.1)
    have O9 : Old Z n0 T9.heap := O8.keep K9c (allS g_b8 all0)
    have K9 : Keep h0 T9.heap [] := K8.trans K9c (allS (Or.inr s_b8) all0)
    refine Go.tr st9 ?_
    show Go p e below _ (T9.setTop (mkF m 19 #[.val (.int x), .val (.int n), .val (.ref b6)] [(.ref b8)]))
    obtain ⟨fs, hr, hrun, hended, hWd, hsame⟩ := X9.leave (v := some (.ref b8)) (fun h => by rw [Bd.returns] at h; cases h)
    refine ⟨_, _, ?_, hrun, hended, _, _, rfl, ?_, (ReturnedEndW.of_narrow ⟨_, rfl⟩ hWd (hsame.mono (by decide) (by decide)))⟩
    · exact own_retA X9 hx Bd.returns rfl rfl (hb hby d1_19) hr
    · show Q_rmS Z x n p3 h0 n0 _ T9.heap _ ∧ CHr Z consts_1 s.vm s.heap T9.vm T9.heap
      rw [hh]
      exact ⟨⟨b8, t_9, kb_9, rfl, N9, K9, s_b8, r9_1, r9_2, r9_3, r9_4, (own_bsL _)⟩, C9.trans (own_chX (s := s) X9 hZ (own_EW hw) C9.1)⟩
def Q_rm12_1 (Z : State) (a1 : Addr) (p2 : Int32) (h0 : Heap) (n0 : Nat) (v : Option Value) (h : Heap) (L : List Loc) : Prop := ∃ (b3 : Addr) (k3 : ClassId), v = none ∧ Fr n0 L ∧ Keep h0 h [a1] ∧ h0.size ≤ b3 ∧ Fld Z h a1 "java/lang/AbstractStringBuilder" "value" "[B" (.ref b3) ∧ Fld Z h a1 "java/lang/AbstractStringBuilder" "coder" "B" (.int (0 : Int32)) ∧ Fld Z h a1 "java/lang/AbstractStringBuilder" "count" "I" (.int (0 : Int32)) ∧ Arv Z h b3 k3 .byte (16 : Int32) ((List.replicate 16 (0 : Int32)).map Value.int) (.int (0 : Int32)) ∧ (List.replicate 16 (0 : Int32)).length = 16
set_option maxRecDepth 65536 in
set_option maxHeartbeats 40000000 in
theorem rm12_1 (l : Launch) (Z : State) (a0 : Array Value) (hw : ∀ d ∈ tables_1, d.before a0 Z = true) (ws : List Jvm.Cond) (a1 : Addr) (p2 : Int32) (h0 : Heap) (n0 : Nat) (O0 : Old Z n0 h0) (P1 : Sta Z Z.heap "java/lang/String" "COMPACT_STRINGS" "Z" (.int p2)) (P2 : ¬ (p2 = (0 : Int32))) (P3 : Exa Z h0 a1 "java/lang/StringBuilder") (P4 : Fld Z h0 a1 "java/lang/AbstractStringBuilder" "value" "[B" .null) (P5 : n0 ≤ a1) (P6 : Fld Z h0 a1 "java/lang/AbstractStringBuilder" "coder" "B" (.int (0 : Int32))) (P7 : Fld Z h0 a1 "java/lang/AbstractStringBuilder" "count" "I" (.int (0 : Int32))) :
    MetFree l (⟨"java/lang/AbstractStringBuilder", "<init>", "(I)V"⟩ : MethodName) (head1 (Jvm.Cond.code (⟨"java/lang/AbstractStringBuilder", "<init>", "(I)V"⟩ : MethodName) jdk_68_method_2_code 2 none :: ws) ({ frames := 1, cells := 1, slots := 16, locals := 12 } : Room)) (fun a U => a = #[(.ref a1), (.int (16 : Int32))] ∧ Z.Warmed39 U.vm ∧ U.heap = h0) (fun _ _ _ _ _ => True) (fun _ U o U' => ∃ v L, o = .returned v ∧ Q_rm12_1 Z a1 p2 h0 n0 v U'.heap L ∧ FrameEnd U o U' L ({ frames := 1, cells := 1, slots := 16, locals := 12 } : Room).cells ({ frames := 1, cells := 1, slots := 16, locals := 12 } : Room).slots) := by
  refine MetFree.of_bodySF (plainFor_of_name pn_2) hisR ?_
  intro p e s m args below meth c s₁ Bd hml0 hP hK
  obtain ⟨rfl, hZ, hh⟩ := hP
  have hx := Bd.exec
  have hby := Bd.bytes
  have hml : c.maxLocals = 2 := hml0
  have hown : s.vm.findClass "java/lang/AbstractStringBuilder" = some m.cls := findClass_of_methodNamed Bd.named
  have hnm := (name_of_methodNamed Bd.named Bd.method).1
  have X0 : Stand p l e ({ frames := 1, cells := 1, slots := 16, locals := 12 } : Room) s m #[(.ref a1), (.int (16 : Int32))] below meth c s₁ [] 0 0 := Stand.of_body Bd
  have e0 : s₁.heap = h0 := by rw [← hh, Bd.state]; rfl
  have N0 := Fr.nil n0
  refine Go.start (P := (fun o U' => ∃ v L, o = .returned v ∧ Q_rm12_1 Z a1 p2 h0 n0 v U'.heap L ∧ FrameEnd s o U' L ({ frames := 1, cells := 1, slots := 16, locals := 12 } : Room).cells ({ frames := 1, cells := 1, slots := 16, locals := 12 } : Room).slots)) (castTop (g' := (mkF m 0 #[.val (.ref a1), .val (.int (16 : Int32))] [])) (by first | rfl | simp [entryFrame, mkF, argsToLocals, Value.category]) (T := s₁)) ?_
  refine Go.st (fun t k => XS.aloadN X0.here hx rfl (hb hby d12_0) rfl rfl k) ?_
  show Go p e below _ (s₁.setTop (mkF m 1 #[.val (.ref a1), .val (.int (16 : Int32))] [(.ref a1)]))
  obtain ⟨T1, X1, e1, st1⟩ := initO X0 hx hZ hown (w61 hw) (w22 hw) (w23 hw) e0 (g := (mkF m 1 #[.val (.ref a1), .val (.int (16 : Int32))] [(.ref a1)])) rfl (by rw [hml]; rfl) rfl (hb hby d12_1) (by decide) (W := 0) (by show 2 * 0 + _ ≤ _; exact Nat.le_of_eq rfl) (by decide)
  refine Go.st st1 ?_
  show Go p e below _ (T1.setTop (mkF m 4 #[.val (.ref a1), .val (.int (16 : Int32))] []))
  obtain ⟨T2, X2, e2, st2⟩ := getS2 X1 hx hZ hown (host := "") (Or.inl (w62 hw)) Via.refl e1 (P1.ext O0.2) (g := (mkF m 4 #[.val (.ref a1), .val (.int (16 : Int32))] [])) rfl (hb hby d12_4)
  refine Go.st st2 ?_
  show Go p e below _ (T2.setTop (mkF m 7 #[.val (.ref a1), .val (.int (16 : Int32))] [(.int p2)]))
  refine Go.st (fun t k => XS.ifNo X2.here hx rfl (hb hby d12_7) rfl (Jvm.Free.XT.i0_eq_f P2) k) ?_
  show Go p e below _ (T2.setTop (mkF m 10 #[.val (.ref a1), .val (.int (16 : Int32))] []))
  refine Go.st (fun t k => XS.aloadN X2.here hx rfl (hb hby d12_10) rfl rfl k) ?_
  show Go p e below _ (T2.setTop (mkF m 11 #[.val (.ref a1), .val (.int (16 : Int32))] [(.ref a1)]))
  refine Go.st (fun t k => XS.iloadN X2.here hx rfl (hb hby d12_11) rfl k) ?_
  show Go p e below _ (T2.setTop (mkF m 12 #[.val (.ref a1), .val (.int (16 : Int32))] [(.int (16 : Int32)), (.ref a1)]))
  obtain ⟨T3, h3, k3, X3, e3, E3, A3, st3⟩ := newP X2 hx hZ (aty := .byte) (w29 hw) e2 (g := (mkF m 12 #[.val (.ref a1), .val (.int (16 : Int32))] [(.int (16 : Int32)), (.ref a1)])) rfl (hb hby d12_12) rfl (by decide : ¬ ((16 : Int32) < (0 : Int32))) (cap := 16) (own_cap 16 (16 : Int32) rfl (by decide : ¬ ((16 : Int32) < (0 : Int32))) (by decide : ¬ ((16 : Int32) < (16 : Int32)))) (by decide) (by decide) (by decide)
  obtain ⟨b3, z3⟩ : ∃ z, z = h0.size := ⟨_, rfl⟩
  rw [← z3] at A3 st3
  have g_b3 : n0 ≤ b3 := Nat.le_trans (own_n0 O0) (Nat.le_of_eq z3.symm)
  have s_b3 : h0.size ≤ b3 := Nat.le_trans (Keep.refl h0 [a1]).1 (Nat.le_of_eq z3.symm)
  have V3 : Arv Z h3 b3 k3 .byte (16 : Int32) ((List.replicate 16 (0 : Int32)).map Value.int) (.int (0 : Int32)) := (Arv.new A3 (by decide : ¬ ((16 : Int32) < (0 : Int32)))).pad (own_rp _)
  have LN3 : (List.replicate 16 (0 : Int32)).length = 16 := List.length_replicate
  have O3 : Old Z n0 h3 := O0.ext E3
  have K3 : Keep h0 h3 [a1] := (Keep.refl h0 [a1]).ext E3
  refine Go.st st3 ?_
  show Go p e below _ (T3.setTop (mkF m 14 #[.val (.ref a1), .val (.int (16 : Int32))] [(.ref b3), (.ref a1)]))
  obtain ⟨T4, h4, X4, e4, W4, st4⟩ := putF X3 hx hZ hown (host := "") (Or.inl (w63 hw)) Via.refl e3 (P4.ext E3) (P3.ext E3) (Or.inl (w64 hw)) (w50 hw) (ty := (.array .byte)) (by decide) rfl rfl (g := (mkF m 14 #[.val (.ref a1), .val (.int (16 : Int32))] [(.ref b3), (.ref a1)])) rfl rfl (hb hby d12_14)
  have F4 : Fld Z h4 a1 "java/lang/AbstractStringBuilder" "value" "[B" (.ref b3) := (P4.ext E3).same W4
  have N4 := Fr.snoc X4 N0 P5
  have O4 : Old Z n0 h4 := O3.wr W4 P5
  have K4 : Keep h0 h4 [a1] := K3.wr W4 (Or.inl (List.mem_of_getElem? (i := 0) rfl))
  refine Go.st st4 ?_
  show Go p e below _ (T4.setTop (mkF m 17 #[.val (.ref a1), .val (.int (16 : Int32))] []))
  refine Go.st (fun t k => XS.aloadN X4.here hx rfl (hb hby d12_17) rfl rfl k) ?_
  show Go p e below _ (T4.setTop (mkF m 18 #[.val (.ref a1), .val (.int (16 : Int32))] [(.ref a1)]))
  refine Go.st (fun t k => XS.iconst X4.here hx rfl (hb hby d12_18) k) ?_
  show Go p e below _ (T4.setTop (mkF m 19 #[.val (.ref a1), .val (.int (16 : Int32))] [(.int (0 : Int32)), (.ref a1)]))
  have c5 := ((P6.ext E3).other W4 (Or.inr (slot_ne (Or.inl (w66 hw)) (Or.inl (w64 hw)) (by decide) (t := .byte) (t' := (.array .byte)) (by decide) (by decide))))
  obtain ⟨T6, h6, X6, e6, W6, st6⟩ := putFN X4 hx hZ hown (w65 hw) Via.refl e4 c5 ((P3.ext E3).wr W4) (Or.inl (w66 hw)) (w50 hw) (ty := .byte) (v' := (.int (0 : Int32))) (by decide) rfl (by decide) (g := (mkF m 19 #[.val (.ref a1), .val (.int (16 : Int32))] [(.int (0 : Int32)), (.ref a1)])) rfl rfl (hb hby d12_19)
  have F6 : Fld Z h6 a1 "java/lang/AbstractStringBuilder" "coder" "B" (.int (0 : Int32)) := c5.same W6
  have N6 := Fr.snoc X6 N4 P5
  have O6 : Old Z n0 h6 := O4.wr W6 P5
  have K6 : Keep h0 h6 [a1] := K4.wr W6 (Or.inl (List.mem_of_getElem? (i := 0) rfl))
  refine Go.st st6 ?_
  show Go p e below _ (T6.setTop (mkF m 22 #[.val (.ref a1), .val (.int (16 : Int32))] []))
  refine Go.st (fun t k => XS.goto X6.here hx rfl (pc0 := 22) (pc' := 38) rfl (hb hby d12_22) (by decide) (by decide) k) ?_
  show Go p e below _ (T6.setTop (mkF m 38 #[.val (.ref a1), .val (.int (16 : Int32))] []))
  obtain ⟨fs, hr, hrun, hended, hWd, hsame⟩ := X6.leave (v := none) (fun _ => rfl)
  have c7 := (F4.other W6 (Or.inr (slot_ne (Or.inl (w64 hw)) (Or.inl (w66 hw)) (by decide) (t := (.array .byte)) (t' := .byte) (by decide) (by decide))))
  have c8 := (((P7.ext E3).other W4 (Or.inr (slot_ne (Or.inl (w88 hw)) (Or.inl (w64 hw)) (by decide) (t := .int) (t' := (.array .byte)) (by decide) (by decide)))).other W6 (Or.inr (slot_ne (Or.inl (w88 hw)) (Or.inl (w66 hw)) (by decide) (t := .int) (t' := .byte) (by decide) (by decide))))
  have c9 := ((V3.other W4 (Ne.symm (Nat.ne_of_lt (Nat.lt_of_lt_of_le P3.lt (Nat.le_of_eq z3.symm))))).other W6 (Ne.symm (Nat.ne_of_lt (Nat.lt_of_lt_of_le P3.lt (Nat.le_of_eq z3.symm)))))
  refine ⟨_, _, ?_, hrun, hended, _, _, rfl, ?_, ⟨⟨_, rfl⟩, hWd, hsame.mono (by decide) (by decide)⟩⟩
  · exact X6.returnOut hx Bd.returns (hb hby d12_38) hr
  · show Q_rm12_1 Z a1 p2 h0 n0 _ T6.heap _
    rw [e6]
    exact ⟨b3, k3, rfl, N6, K6, s_b3, c7, F6, c8, c9, LN3⟩
def Q_rm11_1 (Z : State) (a1 : Addr) (p2 : Int32) (h0 : Heap) (n0 : Nat) (v : Option Value) (h : Heap) (L : List Loc) : Prop := ∃ (b3_1 : Addr) (k3_1 : ClassId), v = none ∧ Fr n0 L ∧ Keep h0 h [a1] ∧ h0.size ≤ b3_1 ∧ Fld Z h a1 "java/lang/AbstractStringBuilder" "value" "[B" (.ref b3_1) ∧ Fld Z h a1 "java/lang/AbstractStringBuilder" "coder" "B" (.int (0 : Int32)) ∧ Fld Z h a1 "java/lang/AbstractStringBuilder" "count" "I" (.int (0 : Int32)) ∧ Arv Z h b3_1 k3_1 .byte (16 : Int32) ((List.replicate 16 (0 : Int32)).map Value.int) (.int (0 : Int32)) ∧ (List.replicate 16 (0 : Int32)).length = 16
set_option maxRecDepth 65536 in
set_option maxHeartbeats 40000000 in
theorem rm11_1 (l : Launch) (Z : State) (a0 : Array Value) (hw : ∀ d ∈ tables_1, d.before a0 Z = true) (ws : List Jvm.Cond) (a1 : Addr) (p2 : Int32) (h0 : Heap) (n0 : Nat) (O0 : Old Z n0 h0) (P1 : Sta Z Z.heap "java/lang/String" "COMPACT_STRINGS" "Z" (.int p2)) (P2 : ¬ (p2 = (0 : Int32))) (P3 : Exa Z h0 a1 "java/lang/StringBuilder") (P4 : Fld Z h0 a1 "java/lang/AbstractStringBuilder" "value" "[B" .null) (P5 : n0 ≤ a1) (P6 : Fld Z h0 a1 "java/lang/AbstractStringBuilder" "coder" "B" (.int (0 : Int32))) (P7 : Fld Z h0 a1 "java/lang/AbstractStringBuilder" "count" "I" (.int (0 : Int32))) :
    MetFree l (⟨"java/lang/StringBuilder", "<init>", "()V"⟩ : MethodName) (head1 (Jvm.Cond.code (⟨"java/lang/StringBuilder", "<init>", "()V"⟩ : MethodName) jdk_67_method_1_code 1 none :: ws) ({ frames := 2, cells := 1, slots := 16, locals := 25 } : Room)) (fun a U => a = #[(.ref a1)] ∧ Z.Warmed39 U.vm ∧ U.heap = h0) (fun _ _ _ _ _ => True) (fun _ U o U' => ∃ v L, o = .returned v ∧ Q_rm11_1 Z a1 p2 h0 n0 v U'.heap L ∧ FrameEnd U o U' L ({ frames := 2, cells := 1, slots := 16, locals := 25 } : Room).cells ({ frames := 2, cells := 1, slots := 16, locals := 25 } : Room).slots) := by
  refine MetFree.of_bodySF (plainFor_of_name pn_3) hisR ?_
  intro p e s m args below meth c s₁ Bd hml0 hP hK
  obtain ⟨rfl, hZ, hh⟩ := hP
  have hx := Bd.exec
  have hby := Bd.bytes
  have hml : c.maxLocals = 1 := hml0
  have hown : s.vm.findClass "java/lang/StringBuilder" = some m.cls := findClass_of_methodNamed Bd.named
  have hnm := (name_of_methodNamed Bd.named Bd.method).1
  have X0 : Stand p l e ({ frames := 2, cells := 1, slots := 16, locals := 25 } : Room) s m #[(.ref a1)] below meth c s₁ [] 0 0 := Stand.of_body Bd
  have e0 : s₁.heap = h0 := by rw [← hh, Bd.state]; rfl
  have N0 := Fr.nil n0
  refine Go.start (P := (fun o U' => ∃ v L, o = .returned v ∧ Q_rm11_1 Z a1 p2 h0 n0 v U'.heap L ∧ FrameEnd s o U' L ({ frames := 2, cells := 1, slots := 16, locals := 25 } : Room).cells ({ frames := 2, cells := 1, slots := 16, locals := 25 } : Room).slots)) (castTop (g' := (mkF m 0 #[.val (.ref a1)] [])) (by first | rfl | simp [entryFrame, mkF, argsToLocals, Value.category]) (T := s₁)) ?_
  refine Go.st (fun t k => XS.aloadN X0.here hx rfl (hb hby d11_0) rfl rfl k) ?_
  show Go p e below _ (s₁.setTop (mkF m 1 #[.val (.ref a1)] [(.ref a1)]))
  refine Go.st (fun t k => XS.bipush X0.here hx rfl (hb hby d11_1) k) ?_
  show Go p e below _ (s₁.setTop (mkF m 3 #[.val (.ref a1)] [(.int (16 : Int32)), (.ref a1)]))
  obtain ⟨_, _, ⟨T1, L1, k1, n1⟩, -, X1, ⟨Lc1, hQ1, l1, y1, z1⟩, st1⟩ := X0.specialBack hx (y := (⟨"java/lang/AbstractStringBuilder", "<init>", "(I)V"⟩ : MethodName)) rfl hown (mvT hZ (w55 hw)) (mvT hZ (w56 hw)) (mvT hZ (w60 hw)) (by decide) (backOf (W := 0) (rm12_1 l Z a0 hw [] a1 p2 h0 n0 O0 P1 P2 P3 P4 P5 P6 P7) hZ (w60 hw) (w59 hw) (by decide) (by decide)) (g := (mkF m 3 #[.val (.ref a1)] [(.int (16 : Int32)), (.ref a1)])) rfl (by rw [hml]; rfl) (Steps.refl _) (a := a1) (argsL := [(.int (16 : Int32))]) (rest := []) (lenOf pd_5 rfl) rfl (by show 2 * 0 + _ ≤ _; exact Nat.le_of_eq rfl) (hb hby d11_3) (fun vm₁ hw₁ => ⟨rfl, e0, (by decide : 0 + 1 ≤ _), (by decide : 0 + 16 ≤ _)⟩)
  dsimp only [Pt.U, Pt.locs, Pt.cells, Pt.slots] at X1 l1 y1 z1 st1 hQ1
  subst l1 y1 z1
  obtain ⟨b3_1, k3_1, rfl, M1, K1c, r1_0, r1_1, r1_2, r1_3, r1_4, r1_5⟩ := hQ1
  have N1 := Fr.app N0 M1
  have g_b3_1 : n0 ≤ b3_1 := Nat.le_trans (own_n0 O0) r1_0
  have s_b3_1 : h0.size ≤ b3_1 := Nat.le_trans (Keep.refl h0 [a1]).1 r1_0
  have O1 : Old Z n0 T1.heap := O0.keep K1c (allS P5 all0)
  have K1 : Keep h0 T1.heap [a1] := (Keep.refl h0 [a1]).trans K1c (allS (Or.inl (List.mem_of_getElem? (i := 0) rfl)) all0)
  refine Go.tr st1 ?_
  show Go p e below _ (T1.setTop (mkF m 6 #[.val (.ref a1)] []))
  obtain ⟨fs, hr, hrun, hended, hWd, hsame⟩ := X1.leave (v := none) (fun _ => rfl)
  refine ⟨_, _, ?_, hrun, hended, _, _, rfl, ?_, ⟨⟨_, rfl⟩, hWd, hsame.mono (by decide) (by decide)⟩⟩
  · exact X1.returnOut hx Bd.returns (hb hby d11_6) hr
  · show Q_rm11_1 Z a1 p2 h0 n0 _ T1.heap _
    exact ⟨b3_1, k3_1, rfl, N1, K1, s_b3_1, r1_1, r1_2, r1_3, r1_4, r1_5⟩
def Q_rm16_1 (Z : State) (a1 : Addr) (p2 : Int32) (h0 : Heap) (n0 : Nat) (v : Option Value) (h : Heap) (L : List Loc) : Prop := v = some (.int (0 : Int32)) ∧ Fr n0 L ∧ h = h0
set_option maxRecDepth 65536 in
set_option maxHeartbeats 40000000 in
theorem rm16_1 (l : Launch) (Z : State) (a0 : Array Value) (hw : ∀ d ∈ tables_1, d.before a0 Z = true) (ws : List Jvm.Cond) (a1 : Addr) (p2 : Int32) (h0 : Heap) (n0 : Nat) (O0 : Old Z n0 h0) (P1 : Sta Z Z.heap "java/lang/String" "COMPACT_STRINGS" "Z" (.int p2)) (P2 : ¬ (p2 = (0 : Int32))) (P3 : Fld Z h0 a1 "java/lang/String" "coder" "B" (.int (0 : Int32))) :
    MetFree l (⟨"java/lang/String", "coder", "()B"⟩ : MethodName) (head1 (Jvm.Cond.code (⟨"java/lang/String", "coder", "()B"⟩ : MethodName) jdk_42_method_152_code 1 (some .byte) :: ws) ({ frames := 0, cells := 0, slots := 0, locals := 0 } : Room)) (fun a U => a = #[(.ref a1)] ∧ Z.Warmed39 U.vm ∧ U.heap = h0) (fun _ _ _ _ _ => True) (fun _ U o U' => ∃ v L, o = .returned v ∧ Q_rm16_1 Z a1 p2 h0 n0 v U'.heap L ∧ FrameEnd U o U' L ({ frames := 0, cells := 0, slots := 0, locals := 0 } : Room).cells ({ frames := 0, cells := 0, slots := 0, locals := 0 } : Room).slots) := by
  refine MetFree.of_bodySF (plainFor_of_name pn_1) hisR ?_
  intro p e s m args below meth c s₁ Bd hml0 hP hK
  obtain ⟨rfl, hZ, hh⟩ := hP
  have hx := Bd.exec
  have hby := Bd.bytes
  have hml : c.maxLocals = 1 := hml0
  have hown : s.vm.findClass "java/lang/String" = some m.cls := findClass_of_methodNamed Bd.named
  have hnm := (name_of_methodNamed Bd.named Bd.method).1
  have X0 : Stand p l e ({ frames := 0, cells := 0, slots := 0, locals := 0 } : Room) s m #[(.ref a1)] below meth c s₁ [] 0 0 := Stand.of_body Bd
  have e0 : s₁.heap = h0 := by rw [← hh, Bd.state]; rfl
  have N0 := Fr.nil n0
  refine Go.start (P := (fun o U' => ∃ v L, o = .returned v ∧ Q_rm16_1 Z a1 p2 h0 n0 v U'.heap L ∧ FrameEnd s o U' L ({ frames := 0, cells := 0, slots := 0, locals := 0 } : Room).cells ({ frames := 0, cells := 0, slots := 0, locals := 0 } : Room).slots)) (castTop (g' := (mkF m 0 #[.val (.ref a1)] [])) (by first | rfl | simp [entryFrame, mkF, argsToLocals, Value.category]) (T := s₁)) ?_
  obtain ⟨T1, X1, e1, st1⟩ := getS2 X0 hx hZ hown (host := "") (Or.inl (w24 hw)) Via.refl e0 (P1.ext O0.2) (g := (mkF m 0 #[.val (.ref a1)] [])) rfl (hb hby d16_0)
  refine Go.st st1 ?_
  show Go p e below _ (T1.setTop (mkF m 3 #[.val (.ref a1)] [(.int p2)]))
  refine Go.st (fun t k => XS.ifNo X1.here hx rfl (hb hby d16_3) rfl (Jvm.Free.XT.i0_eq_f P2) k) ?_
  show Go p e below _ (T1.setTop (mkF m 6 #[.val (.ref a1)] []))
  refine Go.st (fun t k => XS.aloadN X1.here hx rfl (hb hby d16_6) rfl rfl k) ?_
  show Go p e below _ (T1.setTop (mkF m 7 #[.val (.ref a1)] [(.ref a1)]))
  obtain ⟨T2, X2, e2, st2⟩ := getF X1 hx hZ hown (host := "") (Or.inl (w36 hw)) Via.refl e1 P3 (g := (mkF m 7 #[.val (.ref a1)] [(.ref a1)])) rfl rfl (hb hby d16_7)
  refine Go.st st2 ?_
  show Go p e below _ (T2.setTop (mkF m 10 #[.val (.ref a1)] [(.int (0 : Int32))]))
  refine Go.st (fun t k => XS.goto X2.here hx rfl (pc0 := 10) (pc' := 14) rfl (hb hby d16_10) (by decide) (by decide) k) ?_
  show Go p e below _ (T2.setTop (mkF m 14 #[.val (.ref a1)] [(.int (0 : Int32))]))
  obtain ⟨fs, hr, hrun, hended, hWd, hsame⟩ := X2.leave (v := some (.int (0 : Int32))) (fun h => by rw [Bd.returns] at h; cases h)
  refine ⟨_, _, ?_, hrun, hended, _, _, rfl, ?_, ⟨⟨_, rfl⟩, hWd, hsame.mono (by decide) (by decide)⟩⟩
  · exact retN X2 hx (t := .byte) Bd.returns (by simp) (hb hby d16_14) hr
  · show Q_rm16_1 Z a1 p2 h0 n0 _ T2.heap _
    rw [e2]
    exact ⟨rfl, N0, rfl⟩
def Q_rm15_1 (Z : State) (a1 : Addr) (a2 : Addr) (kz3 : ClassId) (zs4 : List Int32) (p5 : Int32) (p6 : Int32) (h0 : Heap) (n0 : Nat) (v : Option Value) (h : Heap) (L : List Loc) : Prop := v = some (.int p5) ∧ Fr n0 L ∧ h = h0
set_option maxRecDepth 65536 in
set_option maxHeartbeats 40000000 in
theorem rm15_1 (l : Launch) (Z : State) (a0 : Array Value) (hw : ∀ d ∈ tables_1, d.before a0 Z = true) (ws : List Jvm.Cond) (a1 : Addr) (a2 : Addr) (kz3 : ClassId) (zs4 : List Int32) (p5 : Int32) (p6 : Int32) (h0 : Heap) (n0 : Nat) (O0 : Old Z n0 h0) (P1 : Fld Z h0 a1 "java/lang/String" "value" "[B" (.ref a2)) (P2 : Arv Z h0 a2 kz3 .byte p5 (zs4.map Value.int) (.int (0 : Int32))) (P3 : Exa Z h0 a1 "java/lang/String") (P4 : Sta Z Z.heap "java/lang/String" "COMPACT_STRINGS" "Z" (.int p6)) (P5 : ¬ (p6 = (0 : Int32))) (P6 : Fld Z h0 a1 "java/lang/String" "coder" "B" (.int (0 : Int32))) :
    MetFree l (⟨"java/lang/String", "length", "()I"⟩ : MethodName) (head1 (Jvm.Cond.code (⟨"java/lang/String", "length", "()I"⟩ : MethodName) jdk_42_method_54_code 1 (some .int) :: ws) ({ frames := 1, cells := 0, slots := 0, locals := 13 } : Room)) (fun a U => a = #[(.ref a1)] ∧ Z.Warmed39 U.vm ∧ U.heap = h0) (fun _ _ _ _ _ => True) (fun _ U o U' => ∃ v L, o = .returned v ∧ Q_rm15_1 Z a1 a2 kz3 zs4 p5 p6 h0 n0 v U'.heap L ∧ FrameEnd U o U' L ({ frames := 1, cells := 0, slots := 0, locals := 13 } : Room).cells ({ frames := 1, cells := 0, slots := 0, locals := 13 } : Room).slots) := by
  refine MetFree.of_bodySF (plainFor_of_name pn_1) hisR ?_
  intro p e s m args below meth c s₁ Bd hml0 hP hK
  obtain ⟨rfl, hZ, hh⟩ := hP
  have hx := Bd.exec
  have hby := Bd.bytes
  have hml : c.maxLocals = 1 := hml0
  have hown : s.vm.findClass "java/lang/String" = some m.cls := findClass_of_methodNamed Bd.named
  have hnm := (name_of_methodNamed Bd.named Bd.method).1
  have X0 : Stand p l e ({ frames := 1, cells := 0, slots := 0, locals := 13 } : Room) s m #[(.ref a1)] below meth c s₁ [] 0 0 := Stand.of_body Bd
  have e0 : s₁.heap = h0 := by rw [← hh, Bd.state]; rfl
  have N0 := Fr.nil n0
  refine Go.start (P := (fun o U' => ∃ v L, o = .returned v ∧ Q_rm15_1 Z a1 a2 kz3 zs4 p5 p6 h0 n0 v U'.heap L ∧ FrameEnd s o U' L ({ frames := 1, cells := 0, slots := 0, locals := 13 } : Room).cells ({ frames := 1, cells := 0, slots := 0, locals := 13 } : Room).slots)) (castTop (g' := (mkF m 0 #[.val (.ref a1)] [])) (by first | rfl | simp [entryFrame, mkF, argsToLocals, Value.category]) (T := s₁)) ?_
  refine Go.st (fun t k => XS.aloadN X0.here hx rfl (hb hby d15_0) rfl rfl k) ?_
  show Go p e below _ (s₁.setTop (mkF m 1 #[.val (.ref a1)] [(.ref a1)]))
  obtain ⟨T1, X1, e1, st1⟩ := getF X0 hx hZ hown (host := "") (Or.inl (w38 hw)) Via.refl e0 P1 (g := (mkF m 1 #[.val (.ref a1)] [(.ref a1)])) rfl rfl (hb hby d15_1)
  refine Go.st st1 ?_
  show Go p e below _ (T1.setTop (mkF m 4 #[.val (.ref a1)] [(.ref a2)]))
  obtain ⟨cl2, Ar2, -, S2, M2, -, -⟩ := id P2
  refine Go.st (fun t k => X1.arraylength hx (by rw [e1]; exact Ar2.1) (State.isArrayOf_alike hZ.alike Ar2.2.1) (g := (mkF m 4 #[.val (.ref a1)] [(.ref a2)])) rfl rfl (hb hby d15_4) t k) ?_
  rw [len_of S2 M2]
  show Go p e below _ (T1.setTop (mkF m 5 #[.val (.ref a1)] [(.int p5)]))
  refine Go.st (fun t k => XS.aloadN X1.here hx rfl (hb hby d15_5) rfl rfl k) ?_
  show Go p e below _ (T1.setTop (mkF m 6 #[.val (.ref a1)] [(.ref a1), (.int p5)]))
  obtain ⟨cq3, kq3, q3a, q3b, q3c⟩ := isOf hZ e1 P3
  obtain ⟨_, _, ⟨T3, L3, k3, n3⟩, -, X3, ⟨Lc3, hQ3, l3, y3, z3⟩, st3⟩ := X1.virtualBack hx (y := (⟨"java/lang/String", "coder", "()B"⟩ : MethodName)) (z := (⟨"java/lang/String", "coder", "()B"⟩ : MethodName)) hown (mvT hZ (w82 hw)) (mvT hZ (w83 hw)) (notFace_of_selects (args := #[]) (mvT hZ (w85 hw))) (mvT hZ (w85 hw)) (mvT hZ (w84 hw)) (by decide) (backOf (W := 1) (rm16_1 l Z a0 hw [] a1 p6 h0 n0 O0 P4 P5 P6) hZ (w86 hw) (w13 hw) (by decide) (by decide)) q3a q3c (g := (mkF m 6 #[.val (.ref a1)] [(.ref a1), (.int p5)])) rfl (by rw [hml]; rfl) (Steps.refl _) (argsL := []) (rest := [(.int p5)]) (lenOf pd_7 rfl) rfl (by show 2 * 0 + _ ≤ _; exact Nat.le_of_eq rfl) (hb hby d15_6) (fun vm₁ hw₁ => ⟨rfl, e1, (by decide : 0 + 0 ≤ _), (by decide : 0 + 0 ≤ _)⟩)
  dsimp only [Pt.U, Pt.locs, Pt.cells, Pt.slots] at X3 l3 y3 z3 st3 hQ3
  subst l3 y3 z3
  obtain ⟨rfl, M3, eh3⟩ := hQ3
  have N3 := Fr.app N0 M3
  refine Go.tr st3 ?_
  show Go p e below _ (T3.setTop (mkF m 9 #[.val (.ref a1)] [(.int (0 : Int32)), (.int p5)]))
  refine Go.st (fun t k => XS.ishr X3.here hx rfl (hb hby d15_9) rfl k) ?_
  show Go p e below _ (T3.setTop (mkF m 10 #[.val (.ref a1)] [(.int (p5 >>> ((0 : Int32) &&& 31)))]))
  rw [own_shr0 p5]
  show Go p e below _ (T3.setTop (mkF m 10 #[.val (.ref a1)] [(.int p5)]))
  obtain ⟨fs, hr, hrun, hended, hWd, hsame⟩ := X3.leave (v := some (.int p5)) (fun h => by rw [Bd.returns] at h; cases h)
  refine ⟨_, _, ?_, hrun, hended, _, _, rfl, ?_, ⟨⟨_, rfl⟩, hWd, hsame.mono (by decide) (by decide)⟩⟩
  · exact retI X3 hx Bd.returns (hb hby d15_10) hr
  · show Q_rm15_1 Z a1 a2 kz3 zs4 p5 p6 h0 n0 _ T3.heap _
    rw [eh3]
    exact ⟨rfl, N3, rfl⟩
def Q_rm17_1 (Z : State) (a1 : Addr) (p2 : Int32) (a3 : Addr) (kz4 : ClassId) (zs5 : List Int32) (h0 : Heap) (n0 : Nat) (v : Option Value) (h : Heap) (L : List Loc) : Prop := v = none ∧ Fr n0 L ∧ h = h0
set_option maxRecDepth 65536 in
set_option maxHeartbeats 40000000 in
theorem rm17_1 (l : Launch) (Z : State) (a0 : Array Value) (hw : ∀ d ∈ tables_1, d.before a0 Z = true) (ws : List Jvm.Cond) (a1 : Addr) (p2 : Int32) (a3 : Addr) (kz4 : ClassId) (zs5 : List Int32) (h0 : Heap) (n0 : Nat) (O0 : Old Z n0 h0) (P1 : Fld Z h0 a1 "java/lang/AbstractStringBuilder" "value" "[B" (.ref a3)) (P2 : Arv Z h0 a3 kz4 .byte (16 : Int32) (zs5.map Value.int) (.int (0 : Int32))) (P3 : Fld Z h0 a1 "java/lang/AbstractStringBuilder" "coder" "B" (.int (0 : Int32))) (P4 : ¬ ((0 : Int32) < (p2 - (16 : Int32)))) :
    MetFree l (⟨"java/lang/AbstractStringBuilder", "ensureCapacityInternal", "(I)V"⟩ : MethodName) (head1 (Jvm.Cond.code (⟨"java/lang/AbstractStringBuilder", "ensureCapacityInternal", "(I)V"⟩ : MethodName) jdk_68_method_9_code 3 none :: ws) ({ frames := 0, cells := 0, slots := 0, locals := 0 } : Room)) (fun a U => a = #[(.ref a1), (.int p2)] ∧ Z.Warmed39 U.vm ∧ U.heap = h0) (fun _ _ _ _ _ => True) (fun _ U o U' => ∃ v L, o = .returned v ∧ Q_rm17_1 Z a1 p2 a3 kz4 zs5 h0 n0 v U'.heap L ∧ FrameEnd U o U' L ({ frames := 0, cells := 0, slots := 0, locals := 0 } : Room).cells ({ frames := 0, cells := 0, slots := 0, locals := 0 } : Room).slots) := by
  refine MetFree.of_bodySF (plainFor_of_name pn_2) hisR ?_
  intro p e s m args below meth c s₁ Bd hml0 hP hK
  obtain ⟨rfl, hZ, hh⟩ := hP
  have hx := Bd.exec
  have hby := Bd.bytes
  have hml : c.maxLocals = 3 := hml0
  have hown : s.vm.findClass "java/lang/AbstractStringBuilder" = some m.cls := findClass_of_methodNamed Bd.named
  have hnm := (name_of_methodNamed Bd.named Bd.method).1
  have X0 : Stand p l e ({ frames := 0, cells := 0, slots := 0, locals := 0 } : Room) s m #[(.ref a1), (.int p2)] below meth c s₁ [] 0 0 := Stand.of_body Bd
  have e0 : s₁.heap = h0 := by rw [← hh, Bd.state]; rfl
  have N0 := Fr.nil n0
  refine Go.start (P := (fun o U' => ∃ v L, o = .returned v ∧ Q_rm17_1 Z a1 p2 a3 kz4 zs5 h0 n0 v U'.heap L ∧ FrameEnd s o U' L ({ frames := 0, cells := 0, slots := 0, locals := 0 } : Room).cells ({ frames := 0, cells := 0, slots := 0, locals := 0 } : Room).slots)) (castTop (g' := (mkF m 0 #[.val (.ref a1), .val (.int p2), .unset] [])) (by first | rfl | simp [entryFrame, mkF, argsToLocals, Value.category]) (T := s₁)) ?_
  refine Go.st (fun t k => XS.aloadN X0.here hx rfl (hb hby d17_0) rfl rfl k) ?_
  show Go p e below _ (s₁.setTop (mkF m 1 #[.val (.ref a1), .val (.int p2), .unset] [(.ref a1)]))
  obtain ⟨T1, X1, e1, st1⟩ := getF X0 hx hZ hown (host := "") (Or.inl (w63 hw)) Via.refl e0 P1 (g := (mkF m 1 #[.val (.ref a1), .val (.int p2), .unset] [(.ref a1)])) rfl rfl (hb hby d17_1)
  refine Go.st st1 ?_
  show Go p e below _ (T1.setTop (mkF m 4 #[.val (.ref a1), .val (.int p2), .unset] [(.ref a3)]))
  obtain ⟨cl2, Ar2, -, S2, M2, -, -⟩ := id P2
  refine Go.st (fun t k => X1.arraylength hx (by rw [e1]; exact Ar2.1) (State.isArrayOf_alike hZ.alike Ar2.2.1) (g := (mkF m 4 #[.val (.ref a1), .val (.int p2), .unset] [(.ref a3)])) rfl rfl (hb hby d17_4) t k) ?_
  rw [len_of S2 M2]
  show Go p e below _ (T1.setTop (mkF m 5 #[.val (.ref a1), .val (.int p2), .unset] [(.int (16 : Int32))]))
  refine Go.st (fun t k => XS.aloadN X1.here hx rfl (hb hby d17_5) rfl rfl k) ?_
  show Go p e below _ (T1.setTop (mkF m 6 #[.val (.ref a1), .val (.int p2), .unset] [(.ref a1), (.int (16 : Int32))]))
  obtain ⟨T3, X3, e3, st3⟩ := getF X1 hx hZ hown (host := "") (Or.inl (w65 hw)) Via.refl e1 P3 (g := (mkF m 6 #[.val (.ref a1), .val (.int p2), .unset] [(.ref a1), (.int (16 : Int32))])) rfl rfl (hb hby d17_6)
  refine Go.st st3 ?_
  show Go p e below _ (T3.setTop (mkF m 9 #[.val (.ref a1), .val (.int p2), .unset] [(.int (0 : Int32)), (.int (16 : Int32))]))
  refine Go.st (fun t k => XS.ishr X3.here hx rfl (hb hby d17_9) rfl k) ?_
  show Go p e below _ (T3.setTop (mkF m 10 #[.val (.ref a1), .val (.int p2), .unset] [(.int (16 : Int32))]))
  refine Go.st (fun t k => XS.istoreN X3.here hx rfl (hb hby d17_10) rfl (l' := #[.val (.ref a1), .val (.int p2), .val (.int (16 : Int32))]) rfl k) ?_
  show Go p e below _ (T3.setTop (mkF m 11 #[.val (.ref a1), .val (.int p2), .val (.int (16 : Int32))] []))
  refine Go.st (fun t k => XS.iloadN X3.here hx rfl (hb hby d17_11) rfl k) ?_
  show Go p e below _ (T3.setTop (mkF m 12 #[.val (.ref a1), .val (.int p2), .val (.int (16 : Int32))] [(.int p2)]))
  refine Go.st (fun t k => XS.iloadN X3.here hx rfl (hb hby d17_12) rfl k) ?_
  show Go p e below _ (T3.setTop (mkF m 13 #[.val (.ref a1), .val (.int p2), .val (.int (16 : Int32))] [(.int (16 : Int32)), (.int p2)]))
  refine Go.st (fun t k => XS.isub X3.here hx rfl (hb hby d17_13) rfl k) ?_
  show Go p e below _ (T3.setTop (mkF m 14 #[.val (.ref a1), .val (.int p2), .val (.int (16 : Int32))] [(.int (p2 - (16 : Int32)))]))
  refine Go.st (fun t k => XS.ifYes X3.here hx rfl (pc0 := 14) (pc' := 38) rfl (hb hby d17_14) rfl (Jvm.Free.XT.i0_le_t P4) (by decide) (by decide) k) ?_
  show Go p e below _ (T3.setTop (mkF m 38 #[.val (.ref a1), .val (.int p2), .val (.int (16 : Int32))] []))
  obtain ⟨fs, hr, hrun, hended, hWd, hsame⟩ := X3.leave (v := none) (fun _ => rfl)
  refine ⟨_, _, ?_, hrun, hended, _, _, rfl, ?_, ⟨⟨_, rfl⟩, hWd, hsame.mono (by decide) (by decide)⟩⟩
  · exact X3.returnOut hx Bd.returns (hb hby d17_38) hr
  · show Q_rm17_1 Z a1 p2 a3 kz4 zs5 h0 n0 _ T3.heap _
    rw [e3]
    exact ⟨rfl, N0, rfl⟩
def Q_rm19_1 (Z : State) (a1 : Addr) (a2 : Addr) (p3 : Int32) (h0 : Heap) (n0 : Nat) (v : Option Value) (h : Heap) (L : List Loc) : Prop := v = none ∧ Fr n0 L ∧ h = h0
set_option maxRecDepth 65536 in
set_option maxHeartbeats 40000000 in
theorem rm19_1 (l : Launch) (Z : State) (a0 : Array Value) (hw : ∀ d ∈ tables_1, d.before a0 Z = true) (ws : List Jvm.Cond) (a1 : Addr) (a2 : Addr) (p3 : Int32) (h0 : Heap) (n0 : Nat) (O0 : Old Z n0 h0) (P1 : Sta Z Z.heap "java/lang/String" "COMPACT_STRINGS" "Z" (.int p3)) (P2 : ¬ (p3 = (0 : Int32))) (P3 : Fld Z h0 a1 "java/lang/AbstractStringBuilder" "coder" "B" (.int (0 : Int32))) (P4 : Exa Z h0 a2 "java/lang/String") (P5 : Fld Z h0 a2 "java/lang/String" "coder" "B" (.int (0 : Int32))) :
    MetFree l (⟨"java/lang/AbstractStringBuilder", "inflateIfNeededFor", "(Ljava/lang/String;)V"⟩ : MethodName) (head1 (Jvm.Cond.code (⟨"java/lang/AbstractStringBuilder", "inflateIfNeededFor", "(Ljava/lang/String;)V"⟩ : MethodName) jdk_68_method_71_code 2 none :: ws) ({ frames := 1, cells := 0, slots := 0, locals := 13 } : Room)) (fun a U => a = #[(.ref a1), (.ref a2)] ∧ Z.Warmed39 U.vm ∧ U.heap = h0) (fun _ _ _ _ _ => True) (fun _ U o U' => ∃ v L, o = .returned v ∧ Q_rm19_1 Z a1 a2 p3 h0 n0 v U'.heap L ∧ FrameEnd U o U' L ({ frames := 1, cells := 0, slots := 0, locals := 13 } : Room).cells ({ frames := 1, cells := 0, slots := 0, locals := 13 } : Room).slots) := by
  refine MetFree.of_bodySF (plainFor_of_name pn_2) hisR ?_
  intro p e s m args below meth c s₁ Bd hml0 hP hK
  obtain ⟨rfl, hZ, hh⟩ := hP
  have hx := Bd.exec
  have hby := Bd.bytes
  have hml : c.maxLocals = 2 := hml0
  have hown : s.vm.findClass "java/lang/AbstractStringBuilder" = some m.cls := findClass_of_methodNamed Bd.named
  have hnm := (name_of_methodNamed Bd.named Bd.method).1
  have X0 : Stand p l e ({ frames := 1, cells := 0, slots := 0, locals := 13 } : Room) s m #[(.ref a1), (.ref a2)] below meth c s₁ [] 0 0 := Stand.of_body Bd
  have e0 : s₁.heap = h0 := by rw [← hh, Bd.state]; rfl
  have N0 := Fr.nil n0
  refine Go.start (P := (fun o U' => ∃ v L, o = .returned v ∧ Q_rm19_1 Z a1 a2 p3 h0 n0 v U'.heap L ∧ FrameEnd s o U' L ({ frames := 1, cells := 0, slots := 0, locals := 13 } : Room).cells ({ frames := 1, cells := 0, slots := 0, locals := 13 } : Room).slots)) (castTop (g' := (mkF m 0 #[.val (.ref a1), .val (.ref a2)] [])) (by first | rfl | simp [entryFrame, mkF, argsToLocals, Value.category]) (T := s₁)) ?_
  obtain ⟨T1, X1, e1, st1⟩ := getS2 X0 hx hZ hown (host := "") (Or.inl (w62 hw)) Via.refl e0 (P1.ext O0.2) (g := (mkF m 0 #[.val (.ref a1), .val (.ref a2)] [])) rfl (hb hby d19_0)
  refine Go.st st1 ?_
  show Go p e below _ (T1.setTop (mkF m 3 #[.val (.ref a1), .val (.ref a2)] [(.int p3)]))
  refine Go.st (fun t k => XS.ifNo X1.here hx rfl (hb hby d19_3) rfl (Jvm.Free.XT.i0_eq_f P2) k) ?_
  show Go p e below _ (T1.setTop (mkF m 6 #[.val (.ref a1), .val (.ref a2)] []))
  refine Go.st (fun t k => XS.aloadN X1.here hx rfl (hb hby d19_6) rfl rfl k) ?_
  show Go p e below _ (T1.setTop (mkF m 7 #[.val (.ref a1), .val (.ref a2)] [(.ref a1)]))
  obtain ⟨T2, X2, e2, st2⟩ := getF X1 hx hZ hown (host := "") (Or.inl (w65 hw)) Via.refl e1 P3 (g := (mkF m 7 #[.val (.ref a1), .val (.ref a2)] [(.ref a1)])) rfl rfl (hb hby d19_7)
  refine Go.st st2 ?_
  show Go p e below _ (T2.setTop (mkF m 10 #[.val (.ref a1), .val (.ref a2)] [(.int (0 : Int32))]))
  refine Go.st (fun t k => XS.aloadN X2.here hx rfl (hb hby d19_10) rfl rfl k) ?_
  show Go p e below _ (T2.setTop (mkF m 11 #[.val (.ref a1), .val (.ref a2)] [(.ref a2), (.int (0 : Int32))]))
  obtain ⟨cq3, kq3, q3a, q3b, q3c⟩ := isOf hZ e2 P4
  obtain ⟨_, _, ⟨T3, L3, k3, n3⟩, -, X3, ⟨Lc3, hQ3, l3, y3, z3⟩, st3⟩ := X2.virtualBack hx (y := (⟨"java/lang/String", "coder", "()B"⟩ : MethodName)) (z := (⟨"java/lang/String", "coder", "()B"⟩ : MethodName)) hown (mvT hZ (w104 hw)) (mvT hZ (w83 hw)) (notFace_of_selects (args := #[]) (mvT hZ (w85 hw))) (mvT hZ (w85 hw)) (mvT hZ (w84 hw)) (by decide) (backOf (W := 1) (rm16_1 l Z a0 hw [] a2 p3 h0 n0 O0 P1 P2 P5) hZ (w86 hw) (w13 hw) (by decide) (by decide)) q3a q3c (g := (mkF m 11 #[.val (.ref a1), .val (.ref a2)] [(.ref a2), (.int (0 : Int32))])) rfl (by rw [hml]; rfl) (Steps.refl _) (argsL := []) (rest := [(.int (0 : Int32))]) (lenOf pd_7 rfl) rfl (by show 2 * 0 + _ ≤ _; exact Nat.le_of_eq rfl) (hb hby d19_11) (fun vm₁ hw₁ => ⟨rfl, e2, (by decide : 0 + 0 ≤ _), (by decide : 0 + 0 ≤ _)⟩)
  dsimp only [Pt.U, Pt.locs, Pt.cells, Pt.slots] at X3 l3 y3 z3 st3 hQ3
  subst l3 y3 z3
  obtain ⟨rfl, M3, eh3⟩ := hQ3
  have N3 := Fr.app N0 M3
  refine Go.tr st3 ?_
  show Go p e below _ (T3.setTop (mkF m 14 #[.val (.ref a1), .val (.ref a2)] [(.int (0 : Int32)), (.int (0 : Int32))]))
  refine Go.st (fun t k => XS.icmpYes X3.here hx rfl (pc0 := 14) (pc' := 21) rfl (hb hby d19_14) rfl (Jvm.Free.XT.ii_eq_t (by decide : (0 : Int32) = (0 : Int32))) (by decide) (by decide) k) ?_
  show Go p e below _ (T3.setTop (mkF m 21 #[.val (.ref a1), .val (.ref a2)] []))
  obtain ⟨fs, hr, hrun, hended, hWd, hsame⟩ := X3.leave (v := none) (fun _ => rfl)
  refine ⟨_, _, ?_, hrun, hended, _, _, rfl, ?_, ⟨⟨_, rfl⟩, hWd, hsame.mono (by decide) (by decide)⟩⟩
  · exact X3.returnOut hx Bd.returns (hb hby d19_21) hr
  · show Q_rm19_1 Z a1 a2 p3 h0 n0 _ T3.heap _
    rw [eh3]
    exact ⟨rfl, N3, rfl⟩
def Q_rm20_1 (Z : State) (a1 : Addr) (a2 : Addr) (p3 : Int32) (a4 : Addr) (kz5 : ClassId) (zs6 : List Int32) (p7 : Int32) (kz8 : ClassId) (zs9 : List Int32) (h0 : Heap) (n0 : Nat) (v : Option Value) (h : Heap) (L : List Loc) : Prop := v = none ∧ Fr n0 L ∧ Keep h0 h [a2] ∧ Arv Z h a2 kz8 .byte (16 : Int32) ((own_put zs9 zs6 0 (p7).toNatClampNeg).map Value.int) (.int (0 : Int32)) ∧ (own_put zs9 zs6 0 (p7).toNatClampNeg).length = 16
set_option maxRecDepth 65536 in
set_option maxHeartbeats 40000000 in
theorem rm20_1 (l : Launch) (Z : State) (a0 : Array Value) (hw : ∀ d ∈ tables_1, d.before a0 Z = true) (ws : List Jvm.Cond) (a1 : Addr) (a2 : Addr) (p3 : Int32) (a4 : Addr) (kz5 : ClassId) (zs6 : List Int32) (p7 : Int32) (kz8 : ClassId) (zs9 : List Int32) (h0 : Heap) (n0 : Nat) (O0 : Old Z n0 h0) (P1 : Exa Z h0 a1 "java/lang/String") (P2 : Sta Z Z.heap "java/lang/String" "COMPACT_STRINGS" "Z" (.int p3)) (P3 : ¬ (p3 = (0 : Int32))) (P4 : Fld Z h0 a1 "java/lang/String" "coder" "B" (.int (0 : Int32))) (P5 : Fld Z h0 a1 "java/lang/String" "value" "[B" (.ref a4)) (P6 : Arv Z h0 a4 kz5 .byte p7 (zs6.map Value.int) (.int (0 : Int32))) (P7 : Arv Z h0 a2 kz8 .byte (16 : Int32) (zs9.map Value.int) (.int (0 : Int32))) (P8 : n0 ≤ a2) (P9 : zs9.length = 16) (P10 : ¬ (p7 < (0 : Int32))) (P11 : ¬ ((16 : Int32) < p7)) :
    MetFree l (⟨"java/lang/String", "getBytes", "([BIB)V"⟩ : MethodName) (head1 (Jvm.Cond.code (⟨"java/lang/String", "getBytes", "([BIB)V"⟩ : MethodName) jdk_42_method_147_code 4 none :: ws) ({ frames := 1, cells := 0, slots := 0, locals := 18 } : Room)) (fun a U => a = #[(.ref a1), (.ref a2), (.int (0 : Int32)), (.int (0 : Int32))] ∧ Z.Warmed39 U.vm ∧ U.heap = h0) (fun _ _ _ _ _ => True) (fun _ U o U' => ∃ v L, o = .returned v ∧ Q_rm20_1 Z a1 a2 p3 a4 kz5 zs6 p7 kz8 zs9 h0 n0 v U'.heap L ∧ FrameEnd U o U' L ({ frames := 1, cells := 0, slots := 0, locals := 18 } : Room).cells ({ frames := 1, cells := 0, slots := 0, locals := 18 } : Room).slots) := by
  refine MetFree.of_bodySF (plainFor_of_name pn_1) hisR ?_
  intro p e s m args below meth c s₁ Bd hml0 hP hK
  obtain ⟨rfl, hZ, hh⟩ := hP
  have hx := Bd.exec
  have hby := Bd.bytes
  have hml : c.maxLocals = 4 := hml0
  have hown : s.vm.findClass "java/lang/String" = some m.cls := findClass_of_methodNamed Bd.named
  have hnm := (name_of_methodNamed Bd.named Bd.method).1
  have X0 : Stand p l e ({ frames := 1, cells := 0, slots := 0, locals := 18 } : Room) s m #[(.ref a1), (.ref a2), (.int (0 : Int32)), (.int (0 : Int32))] below meth c s₁ [] 0 0 := Stand.of_body Bd
  have e0 : s₁.heap = h0 := by rw [← hh, Bd.state]; rfl
  have N0 := Fr.nil n0
  refine Go.start (P := (fun o U' => ∃ v L, o = .returned v ∧ Q_rm20_1 Z a1 a2 p3 a4 kz5 zs6 p7 kz8 zs9 h0 n0 v U'.heap L ∧ FrameEnd s o U' L ({ frames := 1, cells := 0, slots := 0, locals := 18 } : Room).cells ({ frames := 1, cells := 0, slots := 0, locals := 18 } : Room).slots)) (castTop (g' := (mkF m 0 #[.val (.ref a1), .val (.ref a2), .val (.int (0 : Int32)), .val (.int (0 : Int32))] [])) (by first | rfl | simp [entryFrame, mkF, argsToLocals, Value.category]) (T := s₁)) ?_
  refine Go.st (fun t k => XS.aloadN X0.here hx rfl (hb hby d20_0) rfl rfl k) ?_
  show Go p e below _ (s₁.setTop (mkF m 1 #[.val (.ref a1), .val (.ref a2), .val (.int (0 : Int32)), .val (.int (0 : Int32))] [(.ref a1)]))
  obtain ⟨cq1, kq1, q1a, q1b, q1c⟩ := isOf hZ e0 P1
  obtain ⟨_, _, ⟨T1, L1, k1, n1⟩, -, X1, ⟨Lc1, hQ1, l1, y1, z1⟩, st1⟩ := X0.virtualBack hx (y := (⟨"java/lang/String", "coder", "()B"⟩ : MethodName)) (z := (⟨"java/lang/String", "coder", "()B"⟩ : MethodName)) hown (mvT hZ (w82 hw)) (mvT hZ (w83 hw)) (notFace_of_selects (args := #[]) (mvT hZ (w85 hw))) (mvT hZ (w85 hw)) (mvT hZ (w84 hw)) (by decide) (backOf (W := 0) (rm16_1 l Z a0 hw [] a1 p3 h0 n0 O0 P2 P3 P4) hZ (w86 hw) (w13 hw) (by decide) (by decide)) q1a q1c (g := (mkF m 1 #[.val (.ref a1), .val (.ref a2), .val (.int (0 : Int32)), .val (.int (0 : Int32))] [(.ref a1)])) rfl (by rw [hml]; rfl) (Steps.refl _) (argsL := []) (rest := []) (lenOf pd_7 rfl) rfl (by show 2 * 0 + _ ≤ _; exact Nat.le_of_eq rfl) (hb hby d20_1) (fun vm₁ hw₁ => ⟨rfl, e0, (by decide : 0 + 0 ≤ _), (by decide : 0 + 0 ≤ _)⟩)
  dsimp only [Pt.U, Pt.locs, Pt.cells, Pt.slots] at X1 l1 y1 z1 st1 hQ1
  subst l1 y1 z1
  obtain ⟨rfl, M1, eh1⟩ := hQ1
  have N1 := Fr.app N0 M1
  refine Go.tr st1 ?_
  show Go p e below _ (T1.setTop (mkF m 4 #[.val (.ref a1), .val (.ref a2), .val (.int (0 : Int32)), .val (.int (0 : Int32))] [(.int (0 : Int32))]))
  refine Go.st (fun t k => XS.iloadN X1.here hx rfl (hb hby d20_4) rfl k) ?_
  show Go p e below _ (T1.setTop (mkF m 5 #[.val (.ref a1), .val (.ref a2), .val (.int (0 : Int32)), .val (.int (0 : Int32))] [(.int (0 : Int32)), (.int (0 : Int32))]))
  refine Go.st (fun t k => XS.icmpNo X1.here hx rfl (hb hby d20_5) rfl (Jvm.Free.XT.ii_ne_f (by decide : (0 : Int32) = (0 : Int32))) k) ?_
  show Go p e below _ (T1.setTop (mkF m 8 #[.val (.ref a1), .val (.ref a2), .val (.int (0 : Int32)), .val (.int (0 : Int32))] []))
  refine Go.st (fun t k => XS.aloadN X1.here hx rfl (hb hby d20_8) rfl rfl k) ?_
  show Go p e below _ (T1.setTop (mkF m 9 #[.val (.ref a1), .val (.ref a2), .val (.int (0 : Int32)), .val (.int (0 : Int32))] [(.ref a1)]))
  obtain ⟨T2, X2, e2, st2⟩ := getF X1 hx hZ hown (host := "") (Or.inl (w38 hw)) Via.refl eh1 P5 (g := (mkF m 9 #[.val (.ref a1), .val (.ref a2), .val (.int (0 : Int32)), .val (.int (0 : Int32))] [(.ref a1)])) rfl rfl (hb hby d20_9)
  refine Go.st st2 ?_
  show Go p e below _ (T2.setTop (mkF m 12 #[.val (.ref a1), .val (.ref a2), .val (.int (0 : Int32)), .val (.int (0 : Int32))] [(.ref a4)]))
  refine Go.st (fun t k => XS.iconst X2.here hx rfl (hb hby d20_12) k) ?_
  show Go p e below _ (T2.setTop (mkF m 13 #[.val (.ref a1), .val (.ref a2), .val (.int (0 : Int32)), .val (.int (0 : Int32))] [(.int (0 : Int32)), (.ref a4)]))
  refine Go.st (fun t k => XS.aloadN X2.here hx rfl (hb hby d20_13) rfl rfl k) ?_
  show Go p e below _ (T2.setTop (mkF m 14 #[.val (.ref a1), .val (.ref a2), .val (.int (0 : Int32)), .val (.int (0 : Int32))] [(.ref a2), (.int (0 : Int32)), (.ref a4)]))
  refine Go.st (fun t k => XS.iloadN X2.here hx rfl (hb hby d20_14) rfl k) ?_
  show Go p e below _ (T2.setTop (mkF m 15 #[.val (.ref a1), .val (.ref a2), .val (.int (0 : Int32)), .val (.int (0 : Int32))] [(.int (0 : Int32)), (.ref a2), (.int (0 : Int32)), (.ref a4)]))
  refine Go.st (fun t k => XS.iloadN X2.here hx rfl (hb hby d20_15) rfl k) ?_
  show Go p e below _ (T2.setTop (mkF m 16 #[.val (.ref a1), .val (.ref a2), .val (.int (0 : Int32)), .val (.int (0 : Int32))] [(.int (0 : Int32)), (.int (0 : Int32)), (.ref a2), (.int (0 : Int32)), (.ref a4)]))
  refine Go.st (fun t k => XS.ishl X2.here hx rfl (hb hby d20_16) rfl k) ?_
  show Go p e below _ (T2.setTop (mkF m 17 #[.val (.ref a1), .val (.ref a2), .val (.int (0 : Int32)), .val (.int (0 : Int32))] [(.int (0 : Int32)), (.ref a2), (.int (0 : Int32)), (.ref a4)]))
  refine Go.st (fun t k => XS.aloadN X2.here hx rfl (hb hby d20_17) rfl rfl k) ?_
  show Go p e below _ (T2.setTop (mkF m 18 #[.val (.ref a1), .val (.ref a2), .val (.int (0 : Int32)), .val (.int (0 : Int32))] [(.ref a1), (.int (0 : Int32)), (.ref a2), (.int (0 : Int32)), (.ref a4)]))
  obtain ⟨T3, X3, e3, st3⟩ := getF X2 hx hZ hown (host := "") (Or.inl (w38 hw)) Via.refl e2 P5 (g := (mkF m 18 #[.val (.ref a1), .val (.ref a2), .val (.int (0 : Int32)), .val (.int (0 : Int32))] [(.ref a1), (.int (0 : Int32)), (.ref a2), (.int (0 : Int32)), (.ref a4)])) rfl rfl (hb hby d20_18)
  refine Go.st st3 ?_
  show Go p e below _ (T3.setTop (mkF m 21 #[.val (.ref a1), .val (.ref a2), .val (.int (0 : Int32)), .val (.int (0 : Int32))] [(.ref a4), (.int (0 : Int32)), (.ref a2), (.int (0 : Int32)), (.ref a4)]))
  obtain ⟨cl4, Ar4, -, S4, M4, -, -⟩ := id P6
  refine Go.st (fun t k => X3.arraylength hx (by rw [e3]; exact Ar4.1) (State.isArrayOf_alike hZ.alike Ar4.2.1) (g := (mkF m 21 #[.val (.ref a1), .val (.ref a2), .val (.int (0 : Int32)), .val (.int (0 : Int32))] [(.ref a4), (.int (0 : Int32)), (.ref a2), (.int (0 : Int32)), (.ref a4)])) rfl rfl (hb hby d20_21) t k) ?_
  rw [len_of S4 M4]
  show Go p e below _ (T3.setTop (mkF m 22 #[.val (.ref a1), .val (.ref a2), .val (.int (0 : Int32)), .val (.int (0 : Int32))] [(.int p7), (.int (0 : Int32)), (.ref a2), (.int (0 : Int32)), (.ref a4)]))
  have g55 : ((0 : Int32)).toNatClampNeg + (p7).toNatClampNeg ≤ ((16 : Int32)).toNatClampNeg := (own_cl0 P10 P11)
  have l55 : ((0 : Int32)).toNatClampNeg + (p7).toNatClampNeg ≤ zs9.length := Nat.le_trans g55 (Nat.le_of_eq P9.symm)
  obtain ⟨T5, h5, L5, X5, e5, N5, K5c, V50, st5⟩ := cpA X3 hx hZ hown (w110 hw) (w113 hw) (w111 hw) (w112 hw) e3 P6 P7 (Or.inl ⟨rfl, rfl⟩) (sp := (0 : Int32)) (dp := (0 : Int32)) (nn := p7) (by decide) (by decide : ¬ ((0 : Int32) < (0 : Int32))) P10 (own_cl0 P10 (fun q => Int32.lt_irrefl q)) g55 rfl (by rw [List.length_map]; exact l55) N1 P8 (g := (mkF m 22 #[.val (.ref a1), .val (.ref a2), .val (.int (0 : Int32)), .val (.int (0 : Int32))] [(.int p7), (.int (0 : Int32)), (.ref a2), (.int (0 : Int32)), (.ref a4)])) rfl (by rw [hml]; rfl) (rest := []) rfl (hb hby d20_22) (by decide) (W := 0) (by show 2 * 0 + _ ≤ _; exact Nat.le_of_eq rfl) (by decide)
  have V5 : Arv Z h5 a2 kz8 .byte (16 : Int32) ((own_put zs9 zs6 0 (p7).toNatClampNeg).map Value.int) (.int (0 : Int32)) := own_putM zs9 zs6 _ _ _ rfl ▸ V50
  have LN5 : (own_put zs9 zs6 0 (p7).toNatClampNeg).length = 16 := (own_putL l55).trans P9
  have O5 : Old Z n0 h5 := O0.keep K5c (allS P8 all0)
  have K5 : Keep h0 h5 [a2] := (Keep.refl h0 [a2]).trans K5c (allS (Or.inl (List.mem_of_getElem? (i := 0) rfl)) all0)
  refine Go.st st5 ?_
  show Go p e below _ (T5.setTop (mkF m 25 #[.val (.ref a1), .val (.ref a2), .val (.int (0 : Int32)), .val (.int (0 : Int32))] []))
  refine Go.st (fun t k => XS.goto X5.here hx rfl (pc0 := 25) (pc' := 43) rfl (hb hby d20_25) (by decide) (by decide) k) ?_
  show Go p e below _ (T5.setTop (mkF m 43 #[.val (.ref a1), .val (.ref a2), .val (.int (0 : Int32)), .val (.int (0 : Int32))] []))
  obtain ⟨fs, hr, hrun, hended, hWd, hsame⟩ := X5.leave (v := none) (fun _ => rfl)
  refine ⟨_, _, ?_, hrun, hended, _, _, rfl, ?_, ⟨⟨_, rfl⟩, hWd, hsame.mono (by decide) (by decide)⟩⟩
  · exact X5.returnOut hx Bd.returns (hb hby d20_43) hr
  · show Q_rm20_1 Z a1 a2 p3 a4 kz5 zs6 p7 kz8 zs9 h0 n0 _ T5.heap _
    rw [e5]
    exact ⟨rfl, N5, K5, V5, LN5⟩
def Q_rm18_1 (Z : State) (a1 : Addr) (a2 : Addr) (p3 : Int32) (a4 : Addr) (a5 : Addr) (kz6 : ClassId) (zs7 : List Int32) (p8 : Int32) (kz9 : ClassId) (zs10 : List Int32) (h0 : Heap) (n0 : Nat) (v : Option Value) (h : Heap) (L : List Loc) : Prop := v = none ∧ Fr n0 L ∧ Keep h0 h [a4] ∧ Arv Z h a4 kz9 .byte (16 : Int32) ((own_put zs10 zs7 0 (p8).toNatClampNeg).map Value.int) (.int (0 : Int32)) ∧ (own_put zs10 zs7 0 (p8).toNatClampNeg).length = 16
set_option maxRecDepth 65536 in
set_option maxHeartbeats 40000000 in
theorem rm18_1 (l : Launch) (Z : State) (a0 : Array Value) (hw : ∀ d ∈ tables_1, d.before a0 Z = true) (ws : List Jvm.Cond) (a1 : Addr) (a2 : Addr) (p3 : Int32) (a4 : Addr) (a5 : Addr) (kz6 : ClassId) (zs7 : List Int32) (p8 : Int32) (kz9 : ClassId) (zs10 : List Int32) (h0 : Heap) (n0 : Nat) (O0 : Old Z n0 h0) (P1 : Exa Z h0 a1 "java/lang/StringBuilder") (P2 : Sta Z Z.heap "java/lang/String" "COMPACT_STRINGS" "Z" (.int p3)) (P3 : ¬ (p3 = (0 : Int32))) (P4 : Fld Z h0 a1 "java/lang/AbstractStringBuilder" "coder" "B" (.int (0 : Int32))) (P5 : Exa Z h0 a2 "java/lang/String") (P6 : Fld Z h0 a2 "java/lang/String" "coder" "B" (.int (0 : Int32))) (P7 : Fld Z h0 a1 "java/lang/AbstractStringBuilder" "value" "[B" (.ref a4)) (P8 : Fld Z h0 a2 "java/lang/String" "value" "[B" (.ref a5)) (P9 : Arv Z h0 a5 kz6 .byte p8 (zs7.map Value.int) (.int (0 : Int32))) (P10 : Arv Z h0 a4 kz9 .byte (16 : Int32) (zs10.map Value.int) (.int (0 : Int32))) (P11 : n0 ≤ a4) (P12 : zs10.length = 16) (P13 : ¬ (p8 < (0 : Int32))) (P14 : ¬ ((16 : Int32) < p8)) :
    MetFree l (⟨"java/lang/AbstractStringBuilder", "putStringAt", "(ILjava/lang/String;)V"⟩ : MethodName) (head1 (Jvm.Cond.code (⟨"java/lang/AbstractStringBuilder", "putStringAt", "(ILjava/lang/String;)V"⟩ : MethodName) jdk_68_method_73_code 3 none :: ws) ({ frames := 2, cells := 0, slots := 0, locals := 33 } : Room)) (fun a U => a = #[(.ref a1), (.int (0 : Int32)), (.ref a2)] ∧ Z.Warmed39 U.vm ∧ U.heap = h0) (fun _ _ _ _ _ => True) (fun _ U o U' => ∃ v L, o = .returned v ∧ Q_rm18_1 Z a1 a2 p3 a4 a5 kz6 zs7 p8 kz9 zs10 h0 n0 v U'.heap L ∧ FrameEnd U o U' L ({ frames := 2, cells := 0, slots := 0, locals := 33 } : Room).cells ({ frames := 2, cells := 0, slots := 0, locals := 33 } : Room).slots) := by
  refine MetFree.of_bodySF (plainFor_of_name pn_2) hisR ?_
  intro p e s m args below meth c s₁ Bd hml0 hP hK
  obtain ⟨rfl, hZ, hh⟩ := hP
  have hx := Bd.exec
  have hby := Bd.bytes
  have hml : c.maxLocals = 3 := hml0
  have hown : s.vm.findClass "java/lang/AbstractStringBuilder" = some m.cls := findClass_of_methodNamed Bd.named
  have hnm := (name_of_methodNamed Bd.named Bd.method).1
  have X0 : Stand p l e ({ frames := 2, cells := 0, slots := 0, locals := 33 } : Room) s m #[(.ref a1), (.int (0 : Int32)), (.ref a2)] below meth c s₁ [] 0 0 := Stand.of_body Bd
  have e0 : s₁.heap = h0 := by rw [← hh, Bd.state]; rfl
  have N0 := Fr.nil n0
  refine Go.start (P := (fun o U' => ∃ v L, o = .returned v ∧ Q_rm18_1 Z a1 a2 p3 a4 a5 kz6 zs7 p8 kz9 zs10 h0 n0 v U'.heap L ∧ FrameEnd s o U' L ({ frames := 2, cells := 0, slots := 0, locals := 33 } : Room).cells ({ frames := 2, cells := 0, slots := 0, locals := 33 } : Room).slots)) (castTop (g' := (mkF m 0 #[.val (.ref a1), .val (.int (0 : Int32)), .val (.ref a2)] [])) (by first | rfl | simp [entryFrame, mkF, argsToLocals, Value.category]) (T := s₁)) ?_
  refine Go.st (fun t k => XS.aloadN X0.here hx rfl (hb hby d18_0) rfl rfl k) ?_
  show Go p e below _ (s₁.setTop (mkF m 1 #[.val (.ref a1), .val (.int (0 : Int32)), .val (.ref a2)] [(.ref a1)]))
  refine Go.st (fun t k => XS.aloadN X0.here hx rfl (hb hby d18_1) rfl rfl k) ?_
  show Go p e below _ (s₁.setTop (mkF m 2 #[.val (.ref a1), .val (.int (0 : Int32)), .val (.ref a2)] [(.ref a2), (.ref a1)]))
  obtain ⟨cq1, u1, u1'⟩ := P1.cell
  obtain ⟨_, _, ⟨T1, L1, k1, n1⟩, -, X1, ⟨Lc1, hQ1, l1, y1, z1⟩, st1⟩ := X0.privateBack hx (y := (⟨"java/lang/AbstractStringBuilder", "inflateIfNeededFor", "(Ljava/lang/String;)V"⟩ : MethodName)) hown (mvT hZ (w99 hw)) (mvT hZ (w100 hw)) (own_selP2 hZ (w102 hw) (w101 hw) (w100 hw) (by decide)) (Cond.privateMethod_at (mvP hZ (w101 hw) (args := #[]))) (mvT hZ (w103 hw)) (by decide) (backOf (W := 0) (rm19_1 l Z a0 hw [] a1 a2 p3 h0 n0 O0 P2 P3 P4 P5 P6) hZ (w103 hw) (w59 hw) (by decide) (by decide)) (g := (mkF m 2 #[.val (.ref a1), .val (.int (0 : Int32)), .val (.ref a2)] [(.ref a2), (.ref a1)])) rfl (by rw [hml]; rfl) (Steps.refl _) (a := a1) (by rw [e0]; exact u1) u1' (argsL := [(.ref a2)]) (rest := []) (lenOf pd_9 rfl) rfl (by show 2 * 0 + _ ≤ _; exact Nat.le_of_eq rfl) (hb hby d18_2) (fun vm₁ hw₁ => ⟨rfl, e0, (by decide : 0 + 0 ≤ _), (by decide : 0 + 0 ≤ _)⟩)
  dsimp only [Pt.U, Pt.locs, Pt.cells, Pt.slots] at X1 l1 y1 z1 st1 hQ1
  subst l1 y1 z1
  obtain ⟨rfl, M1, eh1⟩ := hQ1
  have N1 := Fr.app N0 M1
  refine Go.tr st1 ?_
  show Go p e below _ (T1.setTop (mkF m 5 #[.val (.ref a1), .val (.int (0 : Int32)), .val (.ref a2)] []))
  refine Go.st (fun t k => XS.aloadN X1.here hx rfl (hb hby d18_5) rfl rfl k) ?_
  show Go p e below _ (T1.setTop (mkF m 6 #[.val (.ref a1), .val (.int (0 : Int32)), .val (.ref a2)] [(.ref a2)]))
  refine Go.st (fun t k => XS.aloadN X1.here hx rfl (hb hby d18_6) rfl rfl k) ?_
  show Go p e below _ (T1.setTop (mkF m 7 #[.val (.ref a1), .val (.int (0 : Int32)), .val (.ref a2)] [(.ref a1), (.ref a2)]))
  obtain ⟨T2, X2, e2, st2⟩ := getF X1 hx hZ hown (host := "") (Or.inl (w63 hw)) Via.refl eh1 P7 (g := (mkF m 7 #[.val (.ref a1), .val (.int (0 : Int32)), .val (.ref a2)] [(.ref a1), (.ref a2)])) rfl rfl (hb hby d18_7)
  refine Go.st st2 ?_
  show Go p e below _ (T2.setTop (mkF m 10 #[.val (.ref a1), .val (.int (0 : Int32)), .val (.ref a2)] [(.ref a4), (.ref a2)]))
  refine Go.st (fun t k => XS.iloadN X2.here hx rfl (hb hby d18_10) rfl k) ?_
  show Go p e below _ (T2.setTop (mkF m 11 #[.val (.ref a1), .val (.int (0 : Int32)), .val (.ref a2)] [(.int (0 : Int32)), (.ref a4), (.ref a2)]))
  refine Go.st (fun t k => XS.aloadN X2.here hx rfl (hb hby d18_11) rfl rfl k) ?_
  show Go p e below _ (T2.setTop (mkF m 12 #[.val (.ref a1), .val (.int (0 : Int32)), .val (.ref a2)] [(.ref a1), (.int (0 : Int32)), (.ref a4), (.ref a2)]))
  obtain ⟨T3, X3, e3, st3⟩ := getF X2 hx hZ hown (host := "") (Or.inl (w65 hw)) Via.refl e2 P4 (g := (mkF m 12 #[.val (.ref a1), .val (.int (0 : Int32)), .val (.ref a2)] [(.ref a1), (.int (0 : Int32)), (.ref a4), (.ref a2)])) rfl rfl (hb hby d18_12)
  refine Go.st st3 ?_
  show Go p e below _ (T3.setTop (mkF m 15 #[.val (.ref a1), .val (.int (0 : Int32)), .val (.ref a2)] [(.int (0 : Int32)), (.int (0 : Int32)), (.ref a4), (.ref a2)]))
  obtain ⟨cq4, kq4, q4a, q4b, q4c⟩ := isOf hZ e3 P5
  obtain ⟨_, _, ⟨T4, L4, k4, n4⟩, -, X4, ⟨Lc4, hQ4, l4, y4, z4⟩, st4⟩ := X3.virtualBack hx (y := (⟨"java/lang/String", "getBytes", "([BIB)V"⟩ : MethodName)) (z := (⟨"java/lang/String", "getBytes", "([BIB)V"⟩ : MethodName)) hown (mvT hZ (w105 hw)) (mvT hZ (w106 hw)) (notFace_of_selects (args := #[]) (mvT hZ (w108 hw))) (mvT hZ (w108 hw)) (mvT hZ (w107 hw)) (by decide) (backOf (W := 0) (rm20_1 l Z a0 hw [] a2 a4 p3 a5 kz6 zs7 p8 kz9 zs10 h0 n0 O0 P5 P2 P3 P6 P8 P9 P10 P11 P12 P13 P14) hZ (w109 hw) (w13 hw) (by decide) (by decide)) q4a q4c (g := (mkF m 15 #[.val (.ref a1), .val (.int (0 : Int32)), .val (.ref a2)] [(.int (0 : Int32)), (.int (0 : Int32)), (.ref a4), (.ref a2)])) rfl (by rw [hml]; rfl) (Steps.refl _) (argsL := [(.ref a4), (.int (0 : Int32)), (.int (0 : Int32))]) (rest := []) (lenOf pd_10 rfl) rfl (by show 2 * 0 + _ ≤ _; exact Nat.le_of_eq rfl) (hb hby d18_15) (fun vm₁ hw₁ => ⟨rfl, e3, (by decide : 0 + 0 ≤ _), (by decide : 0 + 0 ≤ _)⟩)
  dsimp only [Pt.U, Pt.locs, Pt.cells, Pt.slots] at X4 l4 y4 z4 st4 hQ4
  subst l4 y4 z4
  obtain ⟨rfl, M4, K4c, r4_0, r4_1⟩ := hQ4
  have N4 := Fr.app N1 M4
  have O4 : Old Z n0 T4.heap := O0.keep K4c (allS P11 all0)
  have K4 : Keep h0 T4.heap [a4] := (Keep.refl h0 [a4]).trans K4c (allS (Or.inl (List.mem_of_getElem? (i := 0) rfl)) all0)
  refine Go.tr st4 ?_
  show Go p e below _ (T4.setTop (mkF m 18 #[.val (.ref a1), .val (.int (0 : Int32)), .val (.ref a2)] []))
  obtain ⟨fs, hr, hrun, hended, hWd, hsame⟩ := X4.leave (v := none) (fun _ => rfl)
  refine ⟨_, _, ?_, hrun, hended, _, _, rfl, ?_, ⟨⟨_, rfl⟩, hWd, hsame.mono (by decide) (by decide)⟩⟩
  · exact X4.returnOut hx Bd.returns (hb hby d18_18) hr
  · show Q_rm18_1 Z a1 a2 p3 a4 a5 kz6 zs7 p8 kz9 zs10 h0 n0 _ T4.heap _
    exact ⟨rfl, N4, K4, r4_0, r4_1⟩
def Q_rm14_1 (Z : State) (a1 : Addr) (a2 : Addr) (a3 : Addr) (kz4 : ClassId) (zs5 : List Int32) (p6 : Int32) (p7 : Int32) (a8 : Addr) (kz9 : ClassId) (zs10 : List Int32) (h0 : Heap) (n0 : Nat) (v : Option Value) (h : Heap) (L : List Loc) : Prop := v = some (.ref a1) ∧ Fr n0 L ∧ Keep h0 h [a8, a1] ∧ Fld Z h a1 "java/lang/AbstractStringBuilder" "count" "I" (.int ((0 : Int32) + p6)) ∧ Fld Z h a1 "java/lang/AbstractStringBuilder" "value" "[B" (.ref a8) ∧ Fld Z h a1 "java/lang/AbstractStringBuilder" "coder" "B" (.int (0 : Int32)) ∧ Arv Z h a8 kz9 .byte (16 : Int32) ((own_put zs10 zs5 0 (p6).toNatClampNeg).map Value.int) (.int (0 : Int32)) ∧ (own_put zs10 zs5 0 (p6).toNatClampNeg).length = 16
set_option maxRecDepth 65536 in
set_option maxHeartbeats 40000000 in
theorem rm14_1 (l : Launch) (Z : State) (a0 : Array Value) (hw : ∀ d ∈ tables_1, d.before a0 Z = true) (ws : List Jvm.Cond) (a1 : Addr) (a2 : Addr) (a3 : Addr) (kz4 : ClassId) (zs5 : List Int32) (p6 : Int32) (p7 : Int32) (a8 : Addr) (kz9 : ClassId) (zs10 : List Int32) (h0 : Heap) (n0 : Nat) (O0 : Old Z n0 h0) (P1 : Exa Z h0 a2 "java/lang/String") (P2 : Fld Z h0 a2 "java/lang/String" "value" "[B" (.ref a3)) (P3 : Arv Z h0 a3 kz4 .byte p6 (zs5.map Value.int) (.int (0 : Int32))) (P4 : Sta Z Z.heap "java/lang/String" "COMPACT_STRINGS" "Z" (.int p7)) (P5 : ¬ (p7 = (0 : Int32))) (P6 : Fld Z h0 a2 "java/lang/String" "coder" "B" (.int (0 : Int32))) (P7 : Fld Z h0 a1 "java/lang/AbstractStringBuilder" "count" "I" (.int (0 : Int32))) (P8 : Exa Z h0 a1 "java/lang/StringBuilder") (P9 : Fld Z h0 a1 "java/lang/AbstractStringBuilder" "value" "[B" (.ref a8)) (P10 : Arv Z h0 a8 kz9 .byte (16 : Int32) (zs10.map Value.int) (.int (0 : Int32))) (P11 : Fld Z h0 a1 "java/lang/AbstractStringBuilder" "coder" "B" (.int (0 : Int32))) (P12 : ¬ ((0 : Int32) < (((0 : Int32) + p6) - (16 : Int32)))) (P13 : n0 ≤ a8) (P14 : zs10.length = 16) (P15 : ¬ (p6 < (0 : Int32))) (P16 : ¬ ((16 : Int32) < p6)) (P17 : a1 ≠ a8) (P18 : n0 ≤ a1) :
    MetFree l (⟨"java/lang/AbstractStringBuilder", "append", "(Ljava/lang/String;)Ljava/lang/AbstractStringBuilder;"⟩ : MethodName) (head1 (Jvm.Cond.code (⟨"java/lang/AbstractStringBuilder", "append", "(Ljava/lang/String;)Ljava/lang/AbstractStringBuilder;"⟩ : MethodName) jdk_68_method_22_code 3 (some (.object "java/lang/AbstractStringBuilder")) :: ws) ({ frames := 3, cells := 0, slots := 0, locals := 47 } : Room)) (fun a U => a = #[(.ref a1), (.ref a2)] ∧ Z.Warmed39 U.vm ∧ U.heap = h0) (fun _ _ _ _ _ => True) (fun _ U o U' => ∃ v L, o = .returned v ∧ Q_rm14_1 Z a1 a2 a3 kz4 zs5 p6 p7 a8 kz9 zs10 h0 n0 v U'.heap L ∧ FrameEnd U o U' L ({ frames := 3, cells := 0, slots := 0, locals := 47 } : Room).cells ({ frames := 3, cells := 0, slots := 0, locals := 47 } : Room).slots) := by
  refine MetFree.of_bodySF (plainFor_of_name pn_2) hisR ?_
  intro p e s m args below meth c s₁ Bd hml0 hP hK
  obtain ⟨rfl, hZ, hh⟩ := hP
  have hx := Bd.exec
  have hby := Bd.bytes
  have hml : c.maxLocals = 3 := hml0
  have hown : s.vm.findClass "java/lang/AbstractStringBuilder" = some m.cls := findClass_of_methodNamed Bd.named
  have hnm := (name_of_methodNamed Bd.named Bd.method).1
  have X0 : Stand p l e ({ frames := 3, cells := 0, slots := 0, locals := 47 } : Room) s m #[(.ref a1), (.ref a2)] below meth c s₁ [] 0 0 := Stand.of_body Bd
  have e0 : s₁.heap = h0 := by rw [← hh, Bd.state]; rfl
  have N0 := Fr.nil n0
  refine Go.start (P := (fun o U' => ∃ v L, o = .returned v ∧ Q_rm14_1 Z a1 a2 a3 kz4 zs5 p6 p7 a8 kz9 zs10 h0 n0 v U'.heap L ∧ FrameEnd s o U' L ({ frames := 3, cells := 0, slots := 0, locals := 47 } : Room).cells ({ frames := 3, cells := 0, slots := 0, locals := 47 } : Room).slots)) (castTop (g' := (mkF m 0 #[.val (.ref a1), .val (.ref a2), .unset] [])) (by first | rfl | simp [entryFrame, mkF, argsToLocals, Value.category]) (T := s₁)) ?_
  refine Go.st (fun t k => XS.aloadN X0.here hx rfl (hb hby d14_0) rfl rfl k) ?_
  show Go p e below _ (s₁.setTop (mkF m 1 #[.val (.ref a1), .val (.ref a2), .unset] [(.ref a2)]))
  refine Go.st (fun t k => XS.ifnonnullYes X0.here hx rfl (pc0 := 1) (pc' := 9) rfl (hb hby d14_1) rfl (by decide) (by decide) k) ?_
  show Go p e below _ (s₁.setTop (mkF m 9 #[.val (.ref a1), .val (.ref a2), .unset] []))
  refine Go.st (fun t k => XS.aloadN X0.here hx rfl (hb hby d14_9) rfl rfl k) ?_
  show Go p e below _ (s₁.setTop (mkF m 10 #[.val (.ref a1), .val (.ref a2), .unset] [(.ref a2)]))
  obtain ⟨cq1, kq1, q1a, q1b, q1c⟩ := isOf hZ e0 P1
  obtain ⟨_, _, ⟨T1, L1, k1, n1⟩, -, X1, ⟨Lc1, hQ1, l1, y1, z1⟩, st1⟩ := X0.virtualBack hx (y := (⟨"java/lang/String", "length", "()I"⟩ : MethodName)) (z := (⟨"java/lang/String", "length", "()I"⟩ : MethodName)) hown (mvT hZ (w77 hw)) (mvT hZ (w78 hw)) (notFace_of_selects (args := #[]) (mvT hZ (w80 hw))) (mvT hZ (w80 hw)) (mvT hZ (w79 hw)) (by decide) (backOf (W := 0) (rm15_1 l Z a0 hw [] a2 a3 kz4 zs5 p6 p7 h0 n0 O0 P2 P3 P1 P4 P5 P6) hZ (w81 hw) (w13 hw) (by decide) (by decide)) q1a q1c (g := (mkF m 10 #[.val (.ref a1), .val (.ref a2), .unset] [(.ref a2)])) rfl (by rw [hml]; rfl) (Steps.refl _) (argsL := []) (rest := []) (lenOf pd_8 rfl) rfl (by show 2 * 0 + _ ≤ _; exact Nat.le_of_eq rfl) (hb hby d14_10) (fun vm₁ hw₁ => ⟨rfl, e0, (by decide : 0 + 0 ≤ _), (by decide : 0 + 0 ≤ _)⟩)
  dsimp only [Pt.U, Pt.locs, Pt.cells, Pt.slots] at X1 l1 y1 z1 st1 hQ1
  subst l1 y1 z1
  obtain ⟨rfl, M1, eh1⟩ := hQ1
  have N1 := Fr.app N0 M1
  refine Go.tr st1 ?_
  show Go p e below _ (T1.setTop (mkF m 13 #[.val (.ref a1), .val (.ref a2), .unset] [(.int p6)]))
  refine Go.st (fun t k => XS.istoreN X1.here hx rfl (hb hby d14_13) rfl (l' := #[.val (.ref a1), .val (.ref a2), .val (.int p6)]) rfl k) ?_
  show Go p e below _ (T1.setTop (mkF m 14 #[.val (.ref a1), .val (.ref a2), .val (.int p6)] []))
  refine Go.st (fun t k => XS.aloadN X1.here hx rfl (hb hby d14_14) rfl rfl k) ?_
  show Go p e below _ (T1.setTop (mkF m 15 #[.val (.ref a1), .val (.ref a2), .val (.int p6)] [(.ref a1)]))
  refine Go.st (fun t k => XS.aloadN X1.here hx rfl (hb hby d14_15) rfl rfl k) ?_
  show Go p e below _ (T1.setTop (mkF m 16 #[.val (.ref a1), .val (.ref a2), .val (.int p6)] [(.ref a1), (.ref a1)]))
  obtain ⟨T2, X2, e2, st2⟩ := getF X1 hx hZ hown (host := "") (Or.inl (w87 hw)) Via.refl eh1 P7 (g := (mkF m 16 #[.val (.ref a1), .val (.ref a2), .val (.int p6)] [(.ref a1), (.ref a1)])) rfl rfl (hb hby d14_16)
  refine Go.st st2 ?_
  show Go p e below _ (T2.setTop (mkF m 19 #[.val (.ref a1), .val (.ref a2), .val (.int p6)] [(.int (0 : Int32)), (.ref a1)]))
  refine Go.st (fun t k => XS.iloadN X2.here hx rfl (hb hby d14_19) rfl k) ?_
  show Go p e below _ (T2.setTop (mkF m 20 #[.val (.ref a1), .val (.ref a2), .val (.int p6)] [(.int p6), (.int (0 : Int32)), (.ref a1)]))
  refine Go.st (fun t k => XS.iadd X2.here hx rfl (hb hby d14_20) rfl k) ?_
  show Go p e below _ (T2.setTop (mkF m 21 #[.val (.ref a1), .val (.ref a2), .val (.int p6)] [(.int ((0 : Int32) + p6)), (.ref a1)]))
  obtain ⟨cq3, u3, u3'⟩ := P8.cell
  obtain ⟨_, _, ⟨T3, L3, k3, n3⟩, -, X3, ⟨Lc3, hQ3, l3, y3, z3⟩, st3⟩ := X2.privateBack hx (y := (⟨"java/lang/AbstractStringBuilder", "ensureCapacityInternal", "(I)V"⟩ : MethodName)) hown (mvT hZ (w89 hw)) (mvT hZ (w90 hw)) (own_selP2 hZ (w92 hw) (w91 hw) (w90 hw) (by decide)) (Cond.privateMethod_at (mvP hZ (w91 hw) (args := #[]))) (mvT hZ (w93 hw)) (by decide) (backOf (W := 0) (rm17_1 l Z a0 hw [] a1 ((0 : Int32) + p6) a8 kz9 zs10 h0 n0 O0 P9 P10 P11 P12) hZ (w93 hw) (w59 hw) (by decide) (by decide)) (g := (mkF m 21 #[.val (.ref a1), .val (.ref a2), .val (.int p6)] [(.int ((0 : Int32) + p6)), (.ref a1)])) rfl (by rw [hml]; rfl) (Steps.refl _) (a := a1) (by rw [e2]; exact u3) u3' (argsL := [(.int ((0 : Int32) + p6))]) (rest := []) (lenOf pd_5 rfl) rfl (by show 2 * 0 + _ ≤ _; exact Nat.le_of_eq rfl) (hb hby d14_21) (fun vm₁ hw₁ => ⟨rfl, e2, (by decide : 0 + 0 ≤ _), (by decide : 0 + 0 ≤ _)⟩)
  dsimp only [Pt.U, Pt.locs, Pt.cells, Pt.slots] at X3 l3 y3 z3 st3 hQ3
  subst l3 y3 z3
  obtain ⟨rfl, M3, eh3⟩ := hQ3
  have N3 := Fr.app N1 M3
  refine Go.tr st3 ?_
  show Go p e below _ (T3.setTop (mkF m 24 #[.val (.ref a1), .val (.ref a2), .val (.int p6)] []))
  refine Go.st (fun t k => XS.aloadN X3.here hx rfl (hb hby d14_24) rfl rfl k) ?_
  show Go p e below _ (T3.setTop (mkF m 25 #[.val (.ref a1), .val (.ref a2), .val (.int p6)] [(.ref a1)]))
  refine Go.st (fun t k => XS.aloadN X3.here hx rfl (hb hby d14_25) rfl rfl k) ?_
  show Go p e below _ (T3.setTop (mkF m 26 #[.val (.ref a1), .val (.ref a2), .val (.int p6)] [(.ref a1), (.ref a1)]))
  obtain ⟨T4, X4, e4, st4⟩ := getF X3 hx hZ hown (host := "") (Or.inl (w87 hw)) Via.refl eh3 P7 (g := (mkF m 26 #[.val (.ref a1), .val (.ref a2), .val (.int p6)] [(.ref a1), (.ref a1)])) rfl rfl (hb hby d14_26)
  refine Go.st st4 ?_
  show Go p e below _ (T4.setTop (mkF m 29 #[.val (.ref a1), .val (.ref a2), .val (.int p6)] [(.int (0 : Int32)), (.ref a1)]))
  refine Go.st (fun t k => XS.aloadN X4.here hx rfl (hb hby d14_29) rfl rfl k) ?_
  show Go p e below _ (T4.setTop (mkF m 30 #[.val (.ref a1), .val (.ref a2), .val (.int p6)] [(.ref a2), (.int (0 : Int32)), (.ref a1)]))
  obtain ⟨cq5, u5, u5'⟩ := P8.cell
  obtain ⟨_, _, ⟨T5, L5, k5, n5⟩, -, X5, ⟨Lc5, hQ5, l5, y5, z5⟩, st5⟩ := X4.privateBack hx (y := (⟨"java/lang/AbstractStringBuilder", "putStringAt", "(ILjava/lang/String;)V"⟩ : MethodName)) hown (mvT hZ (w94 hw)) (mvT hZ (w95 hw)) (own_selP2 hZ (w97 hw) (w96 hw) (w95 hw) (by decide)) (Cond.privateMethod_at (mvP hZ (w96 hw) (args := #[]))) (mvT hZ (w98 hw)) (by decide) (backOf (W := 0) (rm18_1 l Z a0 hw [] a1 a2 p7 a8 a3 kz4 zs5 p6 kz9 zs10 h0 n0 O0 P8 P4 P5 P11 P1 P6 P9 P2 P3 P10 P13 P14 P15 P16) hZ (w98 hw) (w59 hw) (by decide) (by decide)) (g := (mkF m 30 #[.val (.ref a1), .val (.ref a2), .val (.int p6)] [(.ref a2), (.int (0 : Int32)), (.ref a1)])) rfl (by rw [hml]; rfl) (Steps.refl _) (a := a1) (by rw [e4]; exact u5) u5' (argsL := [(.int (0 : Int32)), (.ref a2)]) (rest := []) (lenOf pd_11 rfl) rfl (by show 2 * 0 + _ ≤ _; exact Nat.le_of_eq rfl) (hb hby d14_30) (fun vm₁ hw₁ => ⟨rfl, e4, (by decide : 0 + 0 ≤ _), (by decide : 0 + 0 ≤ _)⟩)
  dsimp only [Pt.U, Pt.locs, Pt.cells, Pt.slots] at X5 l5 y5 z5 st5 hQ5
  subst l5 y5 z5
  obtain ⟨rfl, M5, K5c, r5_0, r5_1⟩ := hQ5
  have N5 := Fr.app N3 M5
  have O5 : Old Z n0 T5.heap := O0.keep K5c (allS P13 all0)
  have K5 : Keep h0 T5.heap [a8, a1] := (Keep.refl h0 [a8, a1]).trans K5c (allS (Or.inl (List.mem_of_getElem? (i := 0) rfl)) all0)
  refine Go.tr st5 ?_
  show Go p e below _ (T5.setTop (mkF m 33 #[.val (.ref a1), .val (.ref a2), .val (.int p6)] []))
  refine Go.st (fun t k => XS.aloadN X5.here hx rfl (hb hby d14_33) rfl rfl k) ?_
  show Go p e below _ (T5.setTop (mkF m 34 #[.val (.ref a1), .val (.ref a2), .val (.int p6)] [(.ref a1)]))
  refine Go.st (fun t k => XS.dup X5.here hx rfl (hb hby d14_34) rfl rfl k) ?_
  show Go p e below _ (T5.setTop (mkF m 35 #[.val (.ref a1), .val (.ref a2), .val (.int p6)] [(.ref a1), (.ref a1)]))
  obtain ⟨T6, X6, e6, st6⟩ := getF X5 hx hZ hown (host := "") (Or.inl (w87 hw)) Via.refl rfl (P7.keep K5c (ninS P17 nin0)) (g := (mkF m 35 #[.val (.ref a1), .val (.ref a2), .val (.int p6)] [(.ref a1), (.ref a1)])) rfl rfl (hb hby d14_35)
  refine Go.st st6 ?_
  show Go p e below _ (T6.setTop (mkF m 38 #[.val (.ref a1), .val (.ref a2), .val (.int p6)] [(.int (0 : Int32)), (.ref a1)]))
  refine Go.st (fun t k => XS.iloadN X6.here hx rfl (hb hby d14_38) rfl k) ?_
  show Go p e below _ (T6.setTop (mkF m 39 #[.val (.ref a1), .val (.ref a2), .val (.int p6)] [(.int p6), (.int (0 : Int32)), (.ref a1)]))
  refine Go.st (fun t k => XS.iadd X6.here hx rfl (hb hby d14_39) rfl k) ?_
  show Go p e below _ (T6.setTop (mkF m 40 #[.val (.ref a1), .val (.ref a2), .val (.int p6)] [(.int ((0 : Int32) + p6)), (.ref a1)]))
  obtain ⟨T7, h7, X7, e7, W7, st7⟩ := putF X6 hx hZ hown (host := "") (Or.inl (w87 hw)) Via.refl e6 (P7.keep K5c (ninS P17 nin0)) (P8.keep K5c) (Or.inl (w88 hw)) (w50 hw) (ty := .int) (by decide) rfl rfl (g := (mkF m 40 #[.val (.ref a1), .val (.ref a2), .val (.int p6)] [(.int ((0 : Int32) + p6)), (.ref a1)])) rfl rfl (hb hby d14_40)
  have F7 : Fld Z h7 a1 "java/lang/AbstractStringBuilder" "count" "I" (.int ((0 : Int32) + p6)) := (P7.keep K5c (ninS P17 nin0)).same W7
  have N7 := Fr.snoc X7 N5 P18
  have O7 : Old Z n0 h7 := O5.wr W7 P18
  have K7 : Keep h0 h7 [a8, a1] := K5.wr W7 (Or.inl (List.mem_of_getElem? (i := 1) rfl))
  refine Go.st st7 ?_
  show Go p e below _ (T7.setTop (mkF m 43 #[.val (.ref a1), .val (.ref a2), .val (.int p6)] []))
  refine Go.st (fun t k => XS.aloadN X7.here hx rfl (hb hby d14_43) rfl rfl k) ?_
  show Go p e below _ (T7.setTop (mkF m 44 #[.val (.ref a1), .val (.ref a2), .val (.int p6)] [(.ref a1)]))
  obtain ⟨fs, hr, hrun, hended, hWd, hsame⟩ := X7.leave (v := some (.ref a1)) (fun h => by rw [Bd.returns] at h; cases h)
  have c8 := ((P9.keep K5c (ninS P17 nin0)).other W7 (Or.inr (slot_ne (Or.inl (w64 hw)) (Or.inl (w88 hw)) (by decide) (t := (.array .byte)) (t' := .int) (by decide) (by decide))))
  have c9 := ((P11.keep K5c (ninS P17 nin0)).other W7 (Or.inr (slot_ne (Or.inl (w66 hw)) (Or.inl (w88 hw)) (by decide) (t := .byte) (t' := .int) (by decide) (by decide))))
  refine ⟨_, _, ?_, hrun, hended, _, _, rfl, ?_, ⟨⟨_, rfl⟩, hWd, hsame.mono (by decide) (by decide)⟩⟩
  · exact own_retA X7 hx Bd.returns rfl rfl (hb hby d14_44) hr
  · show Q_rm14_1 Z a1 a2 a3 kz4 zs5 p6 p7 a8 kz9 zs10 h0 n0 _ T7.heap _
    rw [e7]
    exact ⟨rfl, N7, K7, F7, c8, c9, (r5_0.other W7 (Ne.symm P17)), r5_1⟩
def Q_rm13_1 (Z : State) (a1 : Addr) (a2 : Addr) (a3 : Addr) (kz4 : ClassId) (zs5 : List Int32) (p6 : Int32) (p7 : Int32) (a8 : Addr) (kz9 : ClassId) (zs10 : List Int32) (h0 : Heap) (n0 : Nat) (v : Option Value) (h : Heap) (L : List Loc) : Prop := v = some (.ref a1) ∧ Fr n0 L ∧ Keep h0 h [a1, a8] ∧ Fld Z h a1 "java/lang/AbstractStringBuilder" "count" "I" (.int ((0 : Int32) + p6)) ∧ Fld Z h a1 "java/lang/AbstractStringBuilder" "value" "[B" (.ref a8) ∧ Fld Z h a1 "java/lang/AbstractStringBuilder" "coder" "B" (.int (0 : Int32)) ∧ Arv Z h a8 kz9 .byte (16 : Int32) ((own_put zs10 zs5 0 (p6).toNatClampNeg).map Value.int) (.int (0 : Int32)) ∧ (own_put zs10 zs5 0 (p6).toNatClampNeg).length = 16
set_option maxRecDepth 65536 in
set_option maxHeartbeats 40000000 in
theorem rm13_1 (l : Launch) (Z : State) (a0 : Array Value) (hw : ∀ d ∈ tables_1, d.before a0 Z = true) (ws : List Jvm.Cond) (a1 : Addr) (a2 : Addr) (a3 : Addr) (kz4 : ClassId) (zs5 : List Int32) (p6 : Int32) (p7 : Int32) (a8 : Addr) (kz9 : ClassId) (zs10 : List Int32) (h0 : Heap) (n0 : Nat) (O0 : Old Z n0 h0) (P1 : Exa Z h0 a2 "java/lang/String") (P2 : Fld Z h0 a2 "java/lang/String" "value" "[B" (.ref a3)) (P3 : Arv Z h0 a3 kz4 .byte p6 (zs5.map Value.int) (.int (0 : Int32))) (P4 : Sta Z Z.heap "java/lang/String" "COMPACT_STRINGS" "Z" (.int p7)) (P5 : ¬ (p7 = (0 : Int32))) (P6 : Fld Z h0 a2 "java/lang/String" "coder" "B" (.int (0 : Int32))) (P7 : Fld Z h0 a1 "java/lang/AbstractStringBuilder" "count" "I" (.int (0 : Int32))) (P8 : Exa Z h0 a1 "java/lang/StringBuilder") (P9 : Fld Z h0 a1 "java/lang/AbstractStringBuilder" "value" "[B" (.ref a8)) (P10 : Arv Z h0 a8 kz9 .byte (16 : Int32) (zs10.map Value.int) (.int (0 : Int32))) (P11 : Fld Z h0 a1 "java/lang/AbstractStringBuilder" "coder" "B" (.int (0 : Int32))) (P12 : ¬ ((0 : Int32) < (((0 : Int32) + p6) - (16 : Int32)))) (P13 : n0 ≤ a8) (P14 : zs10.length = 16) (P15 : ¬ (p6 < (0 : Int32))) (P16 : ¬ ((16 : Int32) < p6)) (P17 : a1 ≠ a8) (P18 : n0 ≤ a1) :
    MetFree l (⟨"java/lang/StringBuilder", "append", "(Ljava/lang/String;)Ljava/lang/StringBuilder;"⟩ : MethodName) (head1 (Jvm.Cond.code (⟨"java/lang/StringBuilder", "append", "(Ljava/lang/String;)Ljava/lang/StringBuilder;"⟩ : MethodName) jdk_67_method_7_code 2 (some (.object "java/lang/StringBuilder")) :: ws) ({ frames := 4, cells := 0, slots := 0, locals := 61 } : Room)) (fun a U => a = #[(.ref a1), (.ref a2)] ∧ Z.Warmed39 U.vm ∧ U.heap = h0) (fun _ _ _ _ _ => True) (fun _ U o U' => ∃ v L, o = .returned v ∧ Q_rm13_1 Z a1 a2 a3 kz4 zs5 p6 p7 a8 kz9 zs10 h0 n0 v U'.heap L ∧ FrameEnd U o U' L ({ frames := 4, cells := 0, slots := 0, locals := 61 } : Room).cells ({ frames := 4, cells := 0, slots := 0, locals := 61 } : Room).slots) := by
  refine MetFree.of_bodySF (plainFor_of_name pn_3) hisR ?_
  intro p e s m args below meth c s₁ Bd hml0 hP hK
  obtain ⟨rfl, hZ, hh⟩ := hP
  have hx := Bd.exec
  have hby := Bd.bytes
  have hml : c.maxLocals = 2 := hml0
  have hown : s.vm.findClass "java/lang/StringBuilder" = some m.cls := findClass_of_methodNamed Bd.named
  have hnm := (name_of_methodNamed Bd.named Bd.method).1
  have X0 : Stand p l e ({ frames := 4, cells := 0, slots := 0, locals := 61 } : Room) s m #[(.ref a1), (.ref a2)] below meth c s₁ [] 0 0 := Stand.of_body Bd
  have e0 : s₁.heap = h0 := by rw [← hh, Bd.state]; rfl
  have N0 := Fr.nil n0
  refine Go.start (P := (fun o U' => ∃ v L, o = .returned v ∧ Q_rm13_1 Z a1 a2 a3 kz4 zs5 p6 p7 a8 kz9 zs10 h0 n0 v U'.heap L ∧ FrameEnd s o U' L ({ frames := 4, cells := 0, slots := 0, locals := 61 } : Room).cells ({ frames := 4, cells := 0, slots := 0, locals := 61 } : Room).slots)) (castTop (g' := (mkF m 0 #[.val (.ref a1), .val (.ref a2)] [])) (by first | rfl | simp [entryFrame, mkF, argsToLocals, Value.category]) (T := s₁)) ?_
  refine Go.st (fun t k => XS.aloadN X0.here hx rfl (hb hby d13_0) rfl rfl k) ?_
  show Go p e below _ (s₁.setTop (mkF m 1 #[.val (.ref a1), .val (.ref a2)] [(.ref a1)]))
  refine Go.st (fun t k => XS.aloadN X0.here hx rfl (hb hby d13_1) rfl rfl k) ?_
  show Go p e below _ (s₁.setTop (mkF m 2 #[.val (.ref a1), .val (.ref a2)] [(.ref a2), (.ref a1)]))
  obtain ⟨_, _, ⟨T1, L1, k1, n1⟩, -, X1, ⟨Lc1, hQ1, l1, y1, z1⟩, st1⟩ := superBack X0 hx hZ (y := (⟨"java/lang/AbstractStringBuilder", "append", "(Ljava/lang/String;)Ljava/lang/AbstractStringBuilder;"⟩ : MethodName)) hown (w72 hw) (own_sameM (y := (⟨"java/lang/AbstractStringBuilder", "append", "(Ljava/lang/String;)Ljava/lang/AbstractStringBuilder;"⟩ : MethodName)) (w73 hw) (w92 hw) rfl (by decide)) (w73 hw) (w74 hw) (by decide) (backOf (W := 0) (rm14_1 l Z a0 hw [] a1 a2 a3 kz4 zs5 p6 p7 a8 kz9 zs10 h0 n0 O0 P1 P2 P3 P4 P5 P6 P7 P8 P9 P10 P11 P12 P13 P14 P15 P16 P17 P18) hZ (w76 hw) (w59 hw) (by decide) (by decide)) e0 (Ins.self P8) (g := (mkF m 2 #[.val (.ref a1), .val (.ref a2)] [(.ref a2), (.ref a1)])) rfl (by rw [hml]; rfl) (w76 hw) (argsL := [(.ref a2)]) (rest := []) (lenOf pd_12 rfl) rfl (by show 2 * 0 + _ ≤ _; exact Nat.le_of_eq rfl) (hb hby d13_2) (fun vm₁ hw₁ => ⟨rfl, e0, (by decide : 0 + 0 ≤ _), (by decide : 0 + 0 ≤ _)⟩)
  dsimp only [Pt.U, Pt.locs, Pt.cells, Pt.slots] at X1 l1 y1 z1 st1 hQ1
  subst l1 y1 z1
  obtain ⟨rfl, M1, K1c, r1_0, r1_1, r1_2, r1_3, r1_4⟩ := hQ1
  have N1 := Fr.app N0 M1
  have O1 : Old Z n0 T1.heap := O0.keep K1c (allS P13 (allS P18 all0))
  have K1 : Keep h0 T1.heap [a1, a8] := (Keep.refl h0 [a1, a8]).trans K1c (allS (Or.inl (List.mem_of_getElem? (i := 1) rfl)) (allS (Or.inl (List.mem_of_getElem? (i := 0) rfl)) all0))
  refine Go.tr st1 ?_
  show Go p e below _ (T1.setTop (mkF m 5 #[.val (.ref a1), .val (.ref a2)] [(.ref a1)]))
  refine Go.st (fun t k => XS.pop X1.here hx rfl (hb hby d13_5) rfl rfl k) ?_
  show Go p e below _ (T1.setTop (mkF m 6 #[.val (.ref a1), .val (.ref a2)] []))
  refine Go.st (fun t k => XS.aloadN X1.here hx rfl (hb hby d13_6) rfl rfl k) ?_
  show Go p e below _ (T1.setTop (mkF m 7 #[.val (.ref a1), .val (.ref a2)] [(.ref a1)]))
  obtain ⟨fs, hr, hrun, hended, hWd, hsame⟩ := X1.leave (v := some (.ref a1)) (fun h => by rw [Bd.returns] at h; cases h)
  refine ⟨_, _, ?_, hrun, hended, _, _, rfl, ?_, ⟨⟨_, rfl⟩, hWd, hsame.mono (by decide) (by decide)⟩⟩
  · exact own_retA X1 hx Bd.returns rfl rfl (hb hby d13_7) hr
  · show Q_rm13_1 Z a1 a2 a3 kz4 zs5 p6 p7 a8 kz9 zs10 h0 n0 _ T1.heap _
    exact ⟨rfl, N1, K1, r1_0, r1_1, r1_2, r1_3, r1_4⟩
def Q_rm20_2 (Z : State) (a1 : Addr) (a2 : Addr) (p3 : Int32) (p4 : Int32) (a5 : Addr) (kz6 : ClassId) (kz7 : ClassId) (zs8 : List Int32) (h0 : Heap) (n0 : Nat) (v : Option Value) (h : Heap) (L : List Loc) : Prop := v = none ∧ Fr n0 L ∧ Keep h0 h [a2] ∧ Arv Z h a2 kz7 .byte (16 : Int32) ((own_put zs8 [(58 : Int32), (32 : Int32)] (p3).toNatClampNeg 2).map Value.int) (.int (0 : Int32)) ∧ (own_put zs8 [(58 : Int32), (32 : Int32)] (p3).toNatClampNeg 2).length = 16
set_option maxRecDepth 65536 in
set_option maxHeartbeats 40000000 in
theorem rm20_2 (l : Launch) (Z : State) (a0 : Array Value) (hw : ∀ d ∈ tables_1, d.before a0 Z = true) (ws : List Jvm.Cond) (a1 : Addr) (a2 : Addr) (p3 : Int32) (p4 : Int32) (a5 : Addr) (kz6 : ClassId) (kz7 : ClassId) (zs8 : List Int32) (h0 : Heap) (n0 : Nat) (O0 : Old Z n0 h0) (P1 : Exa Z h0 a1 "java/lang/String") (P2 : Sta Z Z.heap "java/lang/String" "COMPACT_STRINGS" "Z" (.int p4)) (P3 : ¬ (p4 = (0 : Int32))) (P4 : Fld Z h0 a1 "java/lang/String" "coder" "B" (.int (0 : Int32))) (P5 : Fld Z h0 a1 "java/lang/String" "value" "[B" (.ref a5)) (P6 : Arv Z h0 a5 kz6 .byte (2 : Int32) [(.int (58 : Int32)), (.int (32 : Int32))] (.int (0 : Int32))) (P7 : Arv Z h0 a2 kz7 .byte (16 : Int32) (zs8.map Value.int) (.int (0 : Int32))) (P8 : n0 ≤ a2) (P9 : zs8.length = 16) (P10 : ¬ (p3 < (0 : Int32))) (P11 : ¬ ((1000000 : Int32) < p3)) (P12 : ¬ ((16 : Int32) < (p3 + (2 : Int32)))) :
    MetFree l (⟨"java/lang/String", "getBytes", "([BIB)V"⟩ : MethodName) (head1 (Jvm.Cond.code (⟨"java/lang/String", "getBytes", "([BIB)V"⟩ : MethodName) jdk_42_method_147_code 4 none :: ws) ({ frames := 1, cells := 0, slots := 0, locals := 18 } : Room)) (fun a U => a = #[(.ref a1), (.ref a2), (.int p3), (.int (0 : Int32))] ∧ Z.Warmed39 U.vm ∧ U.heap = h0) (fun _ _ _ _ _ => True) (fun _ U o U' => ∃ v L, o = .returned v ∧ Q_rm20_2 Z a1 a2 p3 p4 a5 kz6 kz7 zs8 h0 n0 v U'.heap L ∧ FrameEnd U o U' L ({ frames := 1, cells := 0, slots := 0, locals := 18 } : Room).cells ({ frames := 1, cells := 0, slots := 0, locals := 18 } : Room).slots) := by
  refine MetFree.of_bodySF (plainFor_of_name pn_1) hisR ?_
  intro p e s m args below meth c s₁ Bd hml0 hP hK
  obtain ⟨rfl, hZ, hh⟩ := hP
  have hx := Bd.exec
  have hby := Bd.bytes
  have hml : c.maxLocals = 4 := hml0
  have hown : s.vm.findClass "java/lang/String" = some m.cls := findClass_of_methodNamed Bd.named
  have hnm := (name_of_methodNamed Bd.named Bd.method).1
  have X0 : Stand p l e ({ frames := 1, cells := 0, slots := 0, locals := 18 } : Room) s m #[(.ref a1), (.ref a2), (.int p3), (.int (0 : Int32))] below meth c s₁ [] 0 0 := Stand.of_body Bd
  have e0 : s₁.heap = h0 := by rw [← hh, Bd.state]; rfl
  have N0 := Fr.nil n0
  refine Go.start (P := (fun o U' => ∃ v L, o = .returned v ∧ Q_rm20_2 Z a1 a2 p3 p4 a5 kz6 kz7 zs8 h0 n0 v U'.heap L ∧ FrameEnd s o U' L ({ frames := 1, cells := 0, slots := 0, locals := 18 } : Room).cells ({ frames := 1, cells := 0, slots := 0, locals := 18 } : Room).slots)) (castTop (g' := (mkF m 0 #[.val (.ref a1), .val (.ref a2), .val (.int p3), .val (.int (0 : Int32))] [])) (by first | rfl | simp [entryFrame, mkF, argsToLocals, Value.category]) (T := s₁)) ?_
  refine Go.st (fun t k => XS.aloadN X0.here hx rfl (hb hby d20_0) rfl rfl k) ?_
  show Go p e below _ (s₁.setTop (mkF m 1 #[.val (.ref a1), .val (.ref a2), .val (.int p3), .val (.int (0 : Int32))] [(.ref a1)]))
  obtain ⟨cq1, kq1, q1a, q1b, q1c⟩ := isOf hZ e0 P1
  obtain ⟨_, _, ⟨T1, L1, k1, n1⟩, -, X1, ⟨Lc1, hQ1, l1, y1, z1⟩, st1⟩ := X0.virtualBack hx (y := (⟨"java/lang/String", "coder", "()B"⟩ : MethodName)) (z := (⟨"java/lang/String", "coder", "()B"⟩ : MethodName)) hown (mvT hZ (w82 hw)) (mvT hZ (w83 hw)) (notFace_of_selects (args := #[]) (mvT hZ (w85 hw))) (mvT hZ (w85 hw)) (mvT hZ (w84 hw)) (by decide) (backOf (W := 0) (rm16_1 l Z a0 hw [] a1 p4 h0 n0 O0 P2 P3 P4) hZ (w86 hw) (w13 hw) (by decide) (by decide)) q1a q1c (g := (mkF m 1 #[.val (.ref a1), .val (.ref a2), .val (.int p3), .val (.int (0 : Int32))] [(.ref a1)])) rfl (by rw [hml]; rfl) (Steps.refl _) (argsL := []) (rest := []) (lenOf pd_7 rfl) rfl (by show 2 * 0 + _ ≤ _; exact Nat.le_of_eq rfl) (hb hby d20_1) (fun vm₁ hw₁ => ⟨rfl, e0, (by decide : 0 + 0 ≤ _), (by decide : 0 + 0 ≤ _)⟩)
  dsimp only [Pt.U, Pt.locs, Pt.cells, Pt.slots] at X1 l1 y1 z1 st1 hQ1
  subst l1 y1 z1
  obtain ⟨rfl, M1, eh1⟩ := hQ1
  have N1 := Fr.app N0 M1
  refine Go.tr st1 ?_
  show Go p e below _ (T1.setTop (mkF m 4 #[.val (.ref a1), .val (.ref a2), .val (.int p3), .val (.int (0 : Int32))] [(.int (0 : Int32))]))
  refine Go.st (fun t k => XS.iloadN X1.here hx rfl (hb hby d20_4) rfl k) ?_
  show Go p e below _ (T1.setTop (mkF m 5 #[.val (.ref a1), .val (.ref a2), .val (.int p3), .val (.int (0 : Int32))] [(.int (0 : Int32)), (.int (0 : Int32))]))
  refine Go.st (fun t k => XS.icmpNo X1.here hx rfl (hb hby d20_5) rfl (Jvm.Free.XT.ii_ne_f (by decide : (0 : Int32) = (0 : Int32))) k) ?_
  show Go p e below _ (T1.setTop (mkF m 8 #[.val (.ref a1), .val (.ref a2), .val (.int p3), .val (.int (0 : Int32))] []))
  refine Go.st (fun t k => XS.aloadN X1.here hx rfl (hb hby d20_8) rfl rfl k) ?_
  show Go p e below _ (T1.setTop (mkF m 9 #[.val (.ref a1), .val (.ref a2), .val (.int p3), .val (.int (0 : Int32))] [(.ref a1)]))
  obtain ⟨T2, X2, e2, st2⟩ := getF X1 hx hZ hown (host := "") (Or.inl (w38 hw)) Via.refl eh1 P5 (g := (mkF m 9 #[.val (.ref a1), .val (.ref a2), .val (.int p3), .val (.int (0 : Int32))] [(.ref a1)])) rfl rfl (hb hby d20_9)
  refine Go.st st2 ?_
  show Go p e below _ (T2.setTop (mkF m 12 #[.val (.ref a1), .val (.ref a2), .val (.int p3), .val (.int (0 : Int32))] [(.ref a5)]))
  refine Go.st (fun t k => XS.iconst X2.here hx rfl (hb hby d20_12) k) ?_
  show Go p e below _ (T2.setTop (mkF m 13 #[.val (.ref a1), .val (.ref a2), .val (.int p3), .val (.int (0 : Int32))] [(.int (0 : Int32)), (.ref a5)]))
  refine Go.st (fun t k => XS.aloadN X2.here hx rfl (hb hby d20_13) rfl rfl k) ?_
  show Go p e below _ (T2.setTop (mkF m 14 #[.val (.ref a1), .val (.ref a2), .val (.int p3), .val (.int (0 : Int32))] [(.ref a2), (.int (0 : Int32)), (.ref a5)]))
  refine Go.st (fun t k => XS.iloadN X2.here hx rfl (hb hby d20_14) rfl k) ?_
  show Go p e below _ (T2.setTop (mkF m 15 #[.val (.ref a1), .val (.ref a2), .val (.int p3), .val (.int (0 : Int32))] [(.int p3), (.ref a2), (.int (0 : Int32)), (.ref a5)]))
  refine Go.st (fun t k => XS.iloadN X2.here hx rfl (hb hby d20_15) rfl k) ?_
  show Go p e below _ (T2.setTop (mkF m 16 #[.val (.ref a1), .val (.ref a2), .val (.int p3), .val (.int (0 : Int32))] [(.int (0 : Int32)), (.int p3), (.ref a2), (.int (0 : Int32)), (.ref a5)]))
  refine Go.st (fun t k => XS.ishl X2.here hx rfl (hb hby d20_16) rfl k) ?_
  show Go p e below _ (T2.setTop (mkF m 17 #[.val (.ref a1), .val (.ref a2), .val (.int p3), .val (.int (0 : Int32))] [(.int (p3 <<< ((0 : Int32) &&& 31))), (.ref a2), (.int (0 : Int32)), (.ref a5)]))
  rw [own_shl0 p3]
  show Go p e below _ (T2.setTop (mkF m 17 #[.val (.ref a1), .val (.ref a2), .val (.int p3), .val (.int (0 : Int32))] [(.int p3), (.ref a2), (.int (0 : Int32)), (.ref a5)]))
  refine Go.st (fun t k => XS.aloadN X2.here hx rfl (hb hby d20_17) rfl rfl k) ?_
  show Go p e below _ (T2.setTop (mkF m 18 #[.val (.ref a1), .val (.ref a2), .val (.int p3), .val (.int (0 : Int32))] [(.ref a1), (.int p3), (.ref a2), (.int (0 : Int32)), (.ref a5)]))
  obtain ⟨T3, X3, e3, st3⟩ := getF X2 hx hZ hown (host := "") (Or.inl (w38 hw)) Via.refl e2 P5 (g := (mkF m 18 #[.val (.ref a1), .val (.ref a2), .val (.int p3), .val (.int (0 : Int32))] [(.ref a1), (.int p3), (.ref a2), (.int (0 : Int32)), (.ref a5)])) rfl rfl (hb hby d20_18)
  refine Go.st st3 ?_
  show Go p e below _ (T3.setTop (mkF m 21 #[.val (.ref a1), .val (.ref a2), .val (.int p3), .val (.int (0 : Int32))] [(.ref a5), (.int p3), (.ref a2), (.int (0 : Int32)), (.ref a5)]))
  obtain ⟨cl4, Ar4, -, S4, M4, -, -⟩ := id P6
  refine Go.st (fun t k => X3.arraylength hx (by rw [e3]; exact Ar4.1) (State.isArrayOf_alike hZ.alike Ar4.2.1) (g := (mkF m 21 #[.val (.ref a1), .val (.ref a2), .val (.int p3), .val (.int (0 : Int32))] [(.ref a5), (.int p3), (.ref a2), (.int (0 : Int32)), (.ref a5)])) rfl rfl (hb hby d20_21) t k) ?_
  rw [len_of S4 M4]
  show Go p e below _ (T3.setTop (mkF m 22 #[.val (.ref a1), .val (.ref a2), .val (.int p3), .val (.int (0 : Int32))] [(.int (2 : Int32)), (.int p3), (.ref a2), (.int (0 : Int32)), (.ref a5)]))
  have V5 : Arv Z h0 a5 kz6 .byte (2 : Int32) ([(58 : Int32), (32 : Int32)].map Value.int) (.int (0 : Int32)) := P6
  have LN5 : [(58 : Int32), (32 : Int32)].length = 2 := rfl
  have g56 : (p3).toNatClampNeg + ((2 : Int32)).toNatClampNeg ≤ ((16 : Int32)).toNatClampNeg := (own_cl3 P10 (by decide : ¬ ((2 : Int32) < (0 : Int32))) (by decide : ¬ ((16 : Int32) < (0 : Int32))) P11 (by decide : ¬ ((1000000 : Int32) < (2 : Int32))) P12)
  have l56 : (p3).toNatClampNeg + ((2 : Int32)).toNatClampNeg ≤ zs8.length := Nat.le_trans g56 (Nat.le_of_eq P9.symm)
  obtain ⟨T6, h6, L6, X6, e6, N6, K6c, V60, st6⟩ := cpA X3 hx hZ hown (w110 hw) (w113 hw) (w111 hw) (w112 hw) e3 V5 P7 (Or.inl ⟨rfl, rfl⟩) (sp := (0 : Int32)) (dp := p3) (nn := (2 : Int32)) (by decide) P10 (by decide : ¬ ((2 : Int32) < (0 : Int32))) (own_cl0 (by decide : ¬ ((2 : Int32) < (0 : Int32))) (by decide : ¬ ((2 : Int32) < (2 : Int32)))) g56 rfl (by rw [List.length_map]; exact l56) N1 P8 (g := (mkF m 22 #[.val (.ref a1), .val (.ref a2), .val (.int p3), .val (.int (0 : Int32))] [(.int (2 : Int32)), (.int p3), (.ref a2), (.int (0 : Int32)), (.ref a5)])) rfl (by rw [hml]; rfl) (rest := []) rfl (hb hby d20_22) (by decide) (W := 0) (by show 2 * 0 + _ ≤ _; exact Nat.le_of_eq rfl) (by decide)
  have V6 : Arv Z h6 a2 kz7 .byte (16 : Int32) ((own_put zs8 [(58 : Int32), (32 : Int32)] (p3).toNatClampNeg 2).map Value.int) (.int (0 : Int32)) := own_putM zs8 [(58 : Int32), (32 : Int32)] _ _ _ rfl ▸ V60
  have LN6 : (own_put zs8 [(58 : Int32), (32 : Int32)] (p3).toNatClampNeg 2).length = 16 := (own_putL l56).trans P9
  have O6 : Old Z n0 h6 := O0.keep K6c (allS P8 all0)
  have K6 : Keep h0 h6 [a2] := (Keep.refl h0 [a2]).trans K6c (allS (Or.inl (List.mem_of_getElem? (i := 0) rfl)) all0)
  refine Go.st st6 ?_
  show Go p e below _ (T6.setTop (mkF m 25 #[.val (.ref a1), .val (.ref a2), .val (.int p3), .val (.int (0 : Int32))] []))
  refine Go.st (fun t k => XS.goto X6.here hx rfl (pc0 := 25) (pc' := 43) rfl (hb hby d20_25) (by decide) (by decide) k) ?_
  show Go p e below _ (T6.setTop (mkF m 43 #[.val (.ref a1), .val (.ref a2), .val (.int p3), .val (.int (0 : Int32))] []))
  obtain ⟨fs, hr, hrun, hended, hWd, hsame⟩ := X6.leave (v := none) (fun _ => rfl)
  refine ⟨_, _, ?_, hrun, hended, _, _, rfl, ?_, ⟨⟨_, rfl⟩, hWd, hsame.mono (by decide) (by decide)⟩⟩
  · exact X6.returnOut hx Bd.returns (hb hby d20_43) hr
  · show Q_rm20_2 Z a1 a2 p3 p4 a5 kz6 kz7 zs8 h0 n0 _ T6.heap _
    rw [e6]
    exact ⟨rfl, N6, K6, V6, LN6⟩
def Q_rm18_2 (Z : State) (a1 : Addr) (p2 : Int32) (a3 : Addr) (p4 : Int32) (a5 : Addr) (a6 : Addr) (kz7 : ClassId) (kz8 : ClassId) (zs9 : List Int32) (h0 : Heap) (n0 : Nat) (v : Option Value) (h : Heap) (L : List Loc) : Prop := v = none ∧ Fr n0 L ∧ Keep h0 h [a5] ∧ Arv Z h a5 kz8 .byte (16 : Int32) ((own_put zs9 [(58 : Int32), (32 : Int32)] (p2).toNatClampNeg 2).map Value.int) (.int (0 : Int32)) ∧ (own_put zs9 [(58 : Int32), (32 : Int32)] (p2).toNatClampNeg 2).length = 16
set_option maxRecDepth 65536 in
set_option maxHeartbeats 40000000 in
theorem rm18_2 (l : Launch) (Z : State) (a0 : Array Value) (hw : ∀ d ∈ tables_1, d.before a0 Z = true) (ws : List Jvm.Cond) (a1 : Addr) (p2 : Int32) (a3 : Addr) (p4 : Int32) (a5 : Addr) (a6 : Addr) (kz7 : ClassId) (kz8 : ClassId) (zs9 : List Int32) (h0 : Heap) (n0 : Nat) (O0 : Old Z n0 h0) (P1 : Exa Z h0 a1 "java/lang/StringBuilder") (P2 : Sta Z Z.heap "java/lang/String" "COMPACT_STRINGS" "Z" (.int p4)) (P3 : ¬ (p4 = (0 : Int32))) (P4 : Fld Z h0 a1 "java/lang/AbstractStringBuilder" "coder" "B" (.int (0 : Int32))) (P5 : Exa Z h0 a3 "java/lang/String") (P6 : Fld Z h0 a3 "java/lang/String" "coder" "B" (.int (0 : Int32))) (P7 : Fld Z h0 a1 "java/lang/AbstractStringBuilder" "value" "[B" (.ref a5)) (P8 : Fld Z h0 a3 "java/lang/String" "value" "[B" (.ref a6)) (P9 : Arv Z h0 a6 kz7 .byte (2 : Int32) [(.int (58 : Int32)), (.int (32 : Int32))] (.int (0 : Int32))) (P10 : Arv Z h0 a5 kz8 .byte (16 : Int32) (zs9.map Value.int) (.int (0 : Int32))) (P11 : n0 ≤ a5) (P12 : zs9.length = 16) (P13 : ¬ (p2 < (0 : Int32))) (P14 : ¬ ((1000000 : Int32) < p2)) (P15 : ¬ ((16 : Int32) < (p2 + (2 : Int32)))) :
    MetFree l (⟨"java/lang/AbstractStringBuilder", "putStringAt", "(ILjava/lang/String;)V"⟩ : MethodName) (head1 (Jvm.Cond.code (⟨"java/lang/AbstractStringBuilder", "putStringAt", "(ILjava/lang/String;)V"⟩ : MethodName) jdk_68_method_73_code 3 none :: ws) ({ frames := 2, cells := 0, slots := 0, locals := 33 } : Room)) (fun a U => a = #[(.ref a1), (.int p2), (.ref a3)] ∧ Z.Warmed39 U.vm ∧ U.heap = h0) (fun _ _ _ _ _ => True) (fun _ U o U' => ∃ v L, o = .returned v ∧ Q_rm18_2 Z a1 p2 a3 p4 a5 a6 kz7 kz8 zs9 h0 n0 v U'.heap L ∧ FrameEnd U o U' L ({ frames := 2, cells := 0, slots := 0, locals := 33 } : Room).cells ({ frames := 2, cells := 0, slots := 0, locals := 33 } : Room).slots) := by
  refine MetFree.of_bodySF (plainFor_of_name pn_2) hisR ?_
  intro p e s m args below meth c s₁ Bd hml0 hP hK
  obtain ⟨rfl, hZ, hh⟩ := hP
  have hx := Bd.exec
  have hby := Bd.bytes
  have hml : c.maxLocals = 3 := hml0
  have hown : s.vm.findClass "java/lang/AbstractStringBuilder" = some m.cls := findClass_of_methodNamed Bd.named
  have hnm := (name_of_methodNamed Bd.named Bd.method).1
  have X0 : Stand p l e ({ frames := 2, cells := 0, slots := 0, locals := 33 } : Room) s m #[(.ref a1), (.int p2), (.ref a3)] below meth c s₁ [] 0 0 := Stand.of_body Bd
  have e0 : s₁.heap = h0 := by rw [← hh, Bd.state]; rfl
  have N0 := Fr.nil n0
  refine Go.start (P := (fun o U' => ∃ v L, o = .returned v ∧ Q_rm18_2 Z a1 p2 a3 p4 a5 a6 kz7 kz8 zs9 h0 n0 v U'.heap L ∧ FrameEnd s o U' L ({ frames := 2, cells := 0, slots := 0, locals := 33 } : Room).cells ({ frames := 2, cells := 0, slots := 0, locals := 33 } : Room).slots)) (castTop (g' := (mkF m 0 #[.val (.ref a1), .val (.int p2), .val (.ref a3)] [])) (by first | rfl | simp [entryFrame, mkF, argsToLocals, Value.category]) (T := s₁)) ?_
  refine Go.st (fun t k => XS.aloadN X0.here hx rfl (hb hby d18_0) rfl rfl k) ?_
  show Go p e below _ (s₁.setTop (mkF m 1 #[.val (.ref a1), .val (.int p2), .val (.ref a3)] [(.ref a1)]))
  refine Go.st (fun t k => XS.aloadN X0.here hx rfl (hb hby d18_1) rfl rfl k) ?_
  show Go p e below _ (s₁.setTop (mkF m 2 #[.val (.ref a1), .val (.int p2), .val (.ref a3)] [(.ref a3), (.ref a1)]))
  obtain ⟨cq1, u1, u1'⟩ := P1.cell
  obtain ⟨_, _, ⟨T1, L1, k1, n1⟩, -, X1, ⟨Lc1, hQ1, l1, y1, z1⟩, st1⟩ := X0.privateBack hx (y := (⟨"java/lang/AbstractStringBuilder", "inflateIfNeededFor", "(Ljava/lang/String;)V"⟩ : MethodName)) hown (mvT hZ (w99 hw)) (mvT hZ (w100 hw)) (own_selP2 hZ (w102 hw) (w101 hw) (w100 hw) (by decide)) (Cond.privateMethod_at (mvP hZ (w101 hw) (args := #[]))) (mvT hZ (w103 hw)) (by decide) (backOf (W := 0) (rm19_1 l Z a0 hw [] a1 a3 p4 h0 n0 O0 P2 P3 P4 P5 P6) hZ (w103 hw) (w59 hw) (by decide) (by decide)) (g := (mkF m 2 #[.val (.ref a1), .val (.int p2), .val (.ref a3)] [(.ref a3), (.ref a1)])) rfl (by rw [hml]; rfl) (Steps.refl _) (a := a1) (by rw [e0]; exact u1) u1' (argsL := [(.ref a3)]) (rest := []) (lenOf pd_9 rfl) rfl (by show 2 * 0 + _ ≤ _; exact Nat.le_of_eq rfl) (hb hby d18_2) (fun vm₁ hw₁ => ⟨rfl, e0, (by decide : 0 + 0 ≤ _), (by decide : 0 + 0 ≤ _)⟩)
  dsimp only [Pt.U, Pt.locs, Pt.cells, Pt.slots] at X1 l1 y1 z1 st1 hQ1
  subst l1 y1 z1
  obtain ⟨rfl, M1, eh1⟩ := hQ1
  have N1 := Fr.app N0 M1
  refine Go.tr st1 ?_
  show Go p e below _ (T1.setTop (mkF m 5 #[.val (.ref a1), .val (.int p2), .val (.ref a3)] []))
  refine Go.st (fun t k => XS.aloadN X1.here hx rfl (hb hby d18_5) rfl rfl k) ?_
  show Go p e below _ (T1.setTop (mkF m 6 #[.val (.ref a1), .val (.int p2), .val (.ref a3)] [(.ref a3)]))
  refine Go.st (fun t k => XS.aloadN X1.here hx rfl (hb hby d18_6) rfl rfl k) ?_
  show Go p e below _ (T1.setTop (mkF m 7 #[.val (.ref a1), .val (.int p2), .val (.ref a3)] [(.ref a1), (.ref a3)]))
  obtain ⟨T2, X2, e2, st2⟩ := getF X1 hx hZ hown (host := "") (Or.inl (w63 hw)) Via.refl eh1 P7 (g := (mkF m 7 #[.val (.ref a1), .val (.int p2), .val (.ref a3)] [(.ref a1), (.ref a3)])) rfl rfl (hb hby d18_7)
  refine Go.st st2 ?_
  show Go p e below _ (T2.setTop (mkF m 10 #[.val (.ref a1), .val (.int p2), .val (.ref a3)] [(.ref a5), (.ref a3)]))
  refine Go.st (fun t k => XS.iloadN X2.here hx rfl (hb hby d18_10) rfl k) ?_
  show Go p e below _ (T2.setTop (mkF m 11 #[.val (.ref a1), .val (.int p2), .val (.ref a3)] [(.int p2), (.ref a5), (.ref a3)]))
  refine Go.st (fun t k => XS.aloadN X2.here hx rfl (hb hby d18_11) rfl rfl k) ?_
  show Go p e below _ (T2.setTop (mkF m 12 #[.val (.ref a1), .val (.int p2), .val (.ref a3)] [(.ref a1), (.int p2), (.ref a5), (.ref a3)]))
  obtain ⟨T3, X3, e3, st3⟩ := getF X2 hx hZ hown (host := "") (Or.inl (w65 hw)) Via.refl e2 P4 (g := (mkF m 12 #[.val (.ref a1), .val (.int p2), .val (.ref a3)] [(.ref a1), (.int p2), (.ref a5), (.ref a3)])) rfl rfl (hb hby d18_12)
  refine Go.st st3 ?_
  show Go p e below _ (T3.setTop (mkF m 15 #[.val (.ref a1), .val (.int p2), .val (.ref a3)] [(.int (0 : Int32)), (.int p2), (.ref a5), (.ref a3)]))
  obtain ⟨cq4, kq4, q4a, q4b, q4c⟩ := isOf hZ e3 P5
  obtain ⟨_, _, ⟨T4, L4, k4, n4⟩, -, X4, ⟨Lc4, hQ4, l4, y4, z4⟩, st4⟩ := X3.virtualBack hx (y := (⟨"java/lang/String", "getBytes", "([BIB)V"⟩ : MethodName)) (z := (⟨"java/lang/String", "getBytes", "([BIB)V"⟩ : MethodName)) hown (mvT hZ (w105 hw)) (mvT hZ (w106 hw)) (notFace_of_selects (args := #[]) (mvT hZ (w108 hw))) (mvT hZ (w108 hw)) (mvT hZ (w107 hw)) (by decide) (backOf (W := 0) (rm20_2 l Z a0 hw [] a3 a5 p2 p4 a6 kz7 kz8 zs9 h0 n0 O0 P5 P2 P3 P6 P8 P9 P10 P11 P12 P13 P14 P15) hZ (w109 hw) (w13 hw) (by decide) (by decide)) q4a q4c (g := (mkF m 15 #[.val (.ref a1), .val (.int p2), .val (.ref a3)] [(.int (0 : Int32)), (.int p2), (.ref a5), (.ref a3)])) rfl (by rw [hml]; rfl) (Steps.refl _) (argsL := [(.ref a5), (.int p2), (.int (0 : Int32))]) (rest := []) (lenOf pd_10 rfl) rfl (by show 2 * 0 + _ ≤ _; exact Nat.le_of_eq rfl) (hb hby d18_15) (fun vm₁ hw₁ => ⟨rfl, e3, (by decide : 0 + 0 ≤ _), (by decide : 0 + 0 ≤ _)⟩)
  dsimp only [Pt.U, Pt.locs, Pt.cells, Pt.slots] at X4 l4 y4 z4 st4 hQ4
  subst l4 y4 z4
  obtain ⟨rfl, M4, K4c, r4_0, r4_1⟩ := hQ4
  have N4 := Fr.app N1 M4
  have O4 : Old Z n0 T4.heap := O0.keep K4c (allS P11 all0)
  have K4 : Keep h0 T4.heap [a5] := (Keep.refl h0 [a5]).trans K4c (allS (Or.inl (List.mem_of_getElem? (i := 0) rfl)) all0)
  refine Go.tr st4 ?_
  show Go p e below _ (T4.setTop (mkF m 18 #[.val (.ref a1), .val (.int p2), .val (.ref a3)] []))
  obtain ⟨fs, hr, hrun, hended, hWd, hsame⟩ := X4.leave (v := none) (fun _ => rfl)
  refine ⟨_, _, ?_, hrun, hended, _, _, rfl, ?_, ⟨⟨_, rfl⟩, hWd, hsame.mono (by decide) (by decide)⟩⟩
  · exact X4.returnOut hx Bd.returns (hb hby d18_18) hr
  · show Q_rm18_2 Z a1 p2 a3 p4 a5 a6 kz7 kz8 zs9 h0 n0 _ T4.heap _
    exact ⟨rfl, N4, K4, r4_0, r4_1⟩
def Q_rm14_2 (Z : State) (a1 : Addr) (a2 : Addr) (a3 : Addr) (kz4 : ClassId) (p5 : Int32) (p6 : Int32) (a7 : Addr) (kz8 : ClassId) (zs9 : List Int32) (h0 : Heap) (n0 : Nat) (v : Option Value) (h : Heap) (L : List Loc) : Prop := v = some (.ref a1) ∧ Fr n0 L ∧ Keep h0 h [a7, a1] ∧ Fld Z h a1 "java/lang/AbstractStringBuilder" "count" "I" (.int (p6 + (2 : Int32))) ∧ Fld Z h a1 "java/lang/AbstractStringBuilder" "value" "[B" (.ref a7) ∧ Fld Z h a1 "java/lang/AbstractStringBuilder" "coder" "B" (.int (0 : Int32)) ∧ Arv Z h a7 kz8 .byte (16 : Int32) ((own_put zs9 [(58 : Int32), (32 : Int32)] (p6).toNatClampNeg 2).map Value.int) (.int (0 : Int32)) ∧ (own_put zs9 [(58 : Int32), (32 : Int32)] (p6).toNatClampNeg 2).length = 16
set_option maxRecDepth 65536 in
set_option maxHeartbeats 40000000 in
theorem rm14_2 (l : Launch) (Z : State) (a0 : Array Value) (hw : ∀ d ∈ tables_1, d.before a0 Z = true) (ws : List Jvm.Cond) (a1 : Addr) (a2 : Addr) (a3 : Addr) (kz4 : ClassId) (p5 : Int32) (p6 : Int32) (a7 : Addr) (kz8 : ClassId) (zs9 : List Int32) (h0 : Heap) (n0 : Nat) (O0 : Old Z n0 h0) (P1 : Exa Z h0 a2 "java/lang/String") (P2 : Fld Z h0 a2 "java/lang/String" "value" "[B" (.ref a3)) (P3 : Arv Z h0 a3 kz4 .byte (2 : Int32) [(.int (58 : Int32)), (.int (32 : Int32))] (.int (0 : Int32))) (P4 : Sta Z Z.heap "java/lang/String" "COMPACT_STRINGS" "Z" (.int p5)) (P5 : ¬ (p5 = (0 : Int32))) (P6 : Fld Z h0 a2 "java/lang/String" "coder" "B" (.int (0 : Int32))) (P7 : Fld Z h0 a1 "java/lang/AbstractStringBuilder" "count" "I" (.int p6)) (P8 : Exa Z h0 a1 "java/lang/StringBuilder") (P9 : Fld Z h0 a1 "java/lang/AbstractStringBuilder" "value" "[B" (.ref a7)) (P10 : Arv Z h0 a7 kz8 .byte (16 : Int32) (zs9.map Value.int) (.int (0 : Int32))) (P11 : Fld Z h0 a1 "java/lang/AbstractStringBuilder" "coder" "B" (.int (0 : Int32))) (P12 : ¬ ((0 : Int32) < ((p6 + (2 : Int32)) - (16 : Int32)))) (P13 : n0 ≤ a7) (P14 : zs9.length = 16) (P15 : ¬ (p6 < (0 : Int32))) (P16 : ¬ ((1000000 : Int32) < p6)) (P17 : ¬ ((16 : Int32) < (p6 + (2 : Int32)))) (P18 : a1 ≠ a7) (P19 : n0 ≤ a1) :
    MetFree l (⟨"java/lang/AbstractStringBuilder", "append", "(Ljava/lang/String;)Ljava/lang/AbstractStringBuilder;"⟩ : MethodName) (head1 (Jvm.Cond.code (⟨"java/lang/AbstractStringBuilder", "append", "(Ljava/lang/String;)Ljava/lang/AbstractStringBuilder;"⟩ : MethodName) jdk_68_method_22_code 3 (some (.object "java/lang/AbstractStringBuilder")) :: ws) ({ frames := 3, cells := 0, slots := 0, locals := 47 } : Room)) (fun a U => a = #[(.ref a1), (.ref a2)] ∧ Z.Warmed39 U.vm ∧ U.heap = h0) (fun _ _ _ _ _ => True) (fun _ U o U' => ∃ v L, o = .returned v ∧ Q_rm14_2 Z a1 a2 a3 kz4 p5 p6 a7 kz8 zs9 h0 n0 v U'.heap L ∧ FrameEnd U o U' L ({ frames := 3, cells := 0, slots := 0, locals := 47 } : Room).cells ({ frames := 3, cells := 0, slots := 0, locals := 47 } : Room).slots) := by
  refine MetFree.of_bodySF (plainFor_of_name pn_2) hisR ?_
  intro p e s m args below meth c s₁ Bd hml0 hP hK
  obtain ⟨rfl, hZ, hh⟩ := hP
  have hx := Bd.exec
  have hby := Bd.bytes
  have hml : c.maxLocals = 3 := hml0
  have hown : s.vm.findClass "java/lang/AbstractStringBuilder" = some m.cls := findClass_of_methodNamed Bd.named
  have hnm := (name_of_methodNamed Bd.named Bd.method).1
  have X0 : Stand p l e ({ frames := 3, cells := 0, slots := 0, locals := 47 } : Room) s m #[(.ref a1), (.ref a2)] below meth c s₁ [] 0 0 := Stand.of_body Bd
  have e0 : s₁.heap = h0 := by rw [← hh, Bd.state]; rfl
  have N0 := Fr.nil n0
  refine Go.start (P := (fun o U' => ∃ v L, o = .returned v ∧ Q_rm14_2 Z a1 a2 a3 kz4 p5 p6 a7 kz8 zs9 h0 n0 v U'.heap L ∧ FrameEnd s o U' L ({ frames := 3, cells := 0, slots := 0, locals := 47 } : Room).cells ({ frames := 3, cells := 0, slots := 0, locals := 47 } : Room).slots)) (castTop (g' := (mkF m 0 #[.val (.ref a1), .val (.ref a2), .unset] [])) (by first | rfl | simp [entryFrame, mkF, argsToLocals, Value.category]) (T := s₁)) ?_
  refine Go.st (fun t k => XS.aloadN X0.here hx rfl (hb hby d14_0) rfl rfl k) ?_
  show Go p e below _ (s₁.setTop (mkF m 1 #[.val (.ref a1), .val (.ref a2), .unset] [(.ref a2)]))
  refine Go.st (fun t k => XS.ifnonnullYes X0.here hx rfl (pc0 := 1) (pc' := 9) rfl (hb hby d14_1) rfl (by decide) (by decide) k) ?_
  show Go p e below _ (s₁.setTop (mkF m 9 #[.val (.ref a1), .val (.ref a2), .unset] []))
  refine Go.st (fun t k => XS.aloadN X0.here hx rfl (hb hby d14_9) rfl rfl k) ?_
  show Go p e below _ (s₁.setTop (mkF m 10 #[.val (.ref a1), .val (.ref a2), .unset] [(.ref a2)]))
  obtain ⟨cq1, kq1, q1a, q1b, q1c⟩ := isOf hZ e0 P1
  obtain ⟨_, _, ⟨T1, L1, k1, n1⟩, -, X1, ⟨Lc1, hQ1, l1, y1, z1⟩, st1⟩ := X0.virtualBack hx (y := (⟨"java/lang/String", "length", "()I"⟩ : MethodName)) (z := (⟨"java/lang/String", "length", "()I"⟩ : MethodName)) hown (mvT hZ (w77 hw)) (mvT hZ (w78 hw)) (notFace_of_selects (args := #[]) (mvT hZ (w80 hw))) (mvT hZ (w80 hw)) (mvT hZ (w79 hw)) (by decide) (backOf (W := 0) (rm15_1 l Z a0 hw [] a2 a3 kz4 [(58 : Int32), (32 : Int32)] (2 : Int32) p5 h0 n0 O0 P2 P3 P1 P4 P5 P6) hZ (w81 hw) (w13 hw) (by decide) (by decide)) q1a q1c (g := (mkF m 10 #[.val (.ref a1), .val (.ref a2), .unset] [(.ref a2)])) rfl (by rw [hml]; rfl) (Steps.refl _) (argsL := []) (rest := []) (lenOf pd_8 rfl) rfl (by show 2 * 0 + _ ≤ _; exact Nat.le_of_eq rfl) (hb hby d14_10) (fun vm₁ hw₁ => ⟨rfl, e0, (by decide : 0 + 0 ≤ _), (by decide : 0 + 0 ≤ _)⟩)
  dsimp only [Pt.U, Pt.locs, Pt.cells, Pt.slots] at X1 l1 y1 z1 st1 hQ1
  subst l1 y1 z1
  obtain ⟨rfl, M1, eh1⟩ := hQ1
  have N1 := Fr.app N0 M1
  refine Go.tr st1 ?_
  show Go p e below _ (T1.setTop (mkF m 13 #[.val (.ref a1), .val (.ref a2), .unset] [(.int (2 : Int32))]))
  refine Go.st (fun t k => XS.istoreN X1.here hx rfl (hb hby d14_13) rfl (l' := #[.val (.ref a1), .val (.ref a2), .val (.int (2 : Int32))]) rfl k) ?_
  show Go p e below _ (T1.setTop (mkF m 14 #[.val (.ref a1), .val (.ref a2), .val (.int (2 : Int32))] []))
  refine Go.st (fun t k => XS.aloadN X1.here hx rfl (hb hby d14_14) rfl rfl k) ?_
  show Go p e below _ (T1.setTop (mkF m 15 #[.val (.ref a1), .val (.ref a2), .val (.int (2 : Int32))] [(.ref a1)]))
  refine Go.st (fun t k => XS.aloadN X1.here hx rfl (hb hby d14_15) rfl rfl k) ?_
  show Go p e below _ (T1.setTop (mkF m 16 #[.val (.ref a1), .val (.ref a2), .val (.int (2 : Int32))] [(.ref a1), (.ref a1)]))
  obtain ⟨T2, X2, e2, st2⟩ := getF X1 hx hZ hown (host := "") (Or.inl (w87 hw)) Via.refl eh1 P7 (g := (mkF m 16 #[.val (.ref a1), .val (.ref a2), .val (.int (2 : Int32))] [(.ref a1), (.ref a1)])) rfl rfl (hb hby d14_16)
  refine Go.st st2 ?_
  show Go p e below _ (T2.setTop (mkF m 19 #[.val (.ref a1), .val (.ref a2), .val (.int (2 : Int32))] [(.int p6), (.ref a1)]))
  refine Go.st (fun t k => XS.iloadN X2.here hx rfl (hb hby d14_19) rfl k) ?_
  show Go p e below _ (T2.setTop (mkF m 20 #[.val (.ref a1), .val (.ref a2), .val (.int (2 : Int32))] [(.int (2 : Int32)), (.int p6), (.ref a1)]))
  refine Go.st (fun t k => XS.iadd X2.here hx rfl (hb hby d14_20) rfl k) ?_
  show Go p e below _ (T2.setTop (mkF m 21 #[.val (.ref a1), .val (.ref a2), .val (.int (2 : Int32))] [(.int (p6 + (2 : Int32))), (.ref a1)]))
  obtain ⟨cq3, u3, u3'⟩ := P8.cell
  obtain ⟨_, _, ⟨T3, L3, k3, n3⟩, -, X3, ⟨Lc3, hQ3, l3, y3, z3⟩, st3⟩ := X2.privateBack hx (y := (⟨"java/lang/AbstractStringBuilder", "ensureCapacityInternal", "(I)V"⟩ : MethodName)) hown (mvT hZ (w89 hw)) (mvT hZ (w90 hw)) (own_selP2 hZ (w92 hw) (w91 hw) (w90 hw) (by decide)) (Cond.privateMethod_at (mvP hZ (w91 hw) (args := #[]))) (mvT hZ (w93 hw)) (by decide) (backOf (W := 0) (rm17_1 l Z a0 hw [] a1 (p6 + (2 : Int32)) a7 kz8 zs9 h0 n0 O0 P9 P10 P11 P12) hZ (w93 hw) (w59 hw) (by decide) (by decide)) (g := (mkF m 21 #[.val (.ref a1), .val (.ref a2), .val (.int (2 : Int32))] [(.int (p6 + (2 : Int32))), (.ref a1)])) rfl (by rw [hml]; rfl) (Steps.refl _) (a := a1) (by rw [e2]; exact u3) u3' (argsL := [(.int (p6 + (2 : Int32)))]) (rest := []) (lenOf pd_5 rfl) rfl (by show 2 * 0 + _ ≤ _; exact Nat.le_of_eq rfl) (hb hby d14_21) (fun vm₁ hw₁ => ⟨rfl, e2, (by decide : 0 + 0 ≤ _), (by decide : 0 + 0 ≤ _)⟩)
  dsimp only [Pt.U, Pt.locs, Pt.cells, Pt.slots] at X3 l3 y3 z3 st3 hQ3
  subst l3 y3 z3
  obtain ⟨rfl, M3, eh3⟩ := hQ3
  have N3 := Fr.app N1 M3
  refine Go.tr st3 ?_
  show Go p e below _ (T3.setTop (mkF m 24 #[.val (.ref a1), .val (.ref a2), .val (.int (2 : Int32))] []))
  refine Go.st (fun t k => XS.aloadN X3.here hx rfl (hb hby d14_24) rfl rfl k) ?_
  show Go p e below _ (T3.setTop (mkF m 25 #[.val (.ref a1), .val (.ref a2), .val (.int (2 : Int32))] [(.ref a1)]))
  refine Go.st (fun t k => XS.aloadN X3.here hx rfl (hb hby d14_25) rfl rfl k) ?_
  show Go p e below _ (T3.setTop (mkF m 26 #[.val (.ref a1), .val (.ref a2), .val (.int (2 : Int32))] [(.ref a1), (.ref a1)]))
  obtain ⟨T4, X4, e4, st4⟩ := getF X3 hx hZ hown (host := "") (Or.inl (w87 hw)) Via.refl eh3 P7 (g := (mkF m 26 #[.val (.ref a1), .val (.ref a2), .val (.int (2 : Int32))] [(.ref a1), (.ref a1)])) rfl rfl (hb hby d14_26)
  refine Go.st st4 ?_
  show Go p e below _ (T4.setTop (mkF m 29 #[.val (.ref a1), .val (.ref a2), .val (.int (2 : Int32))] [(.int p6), (.ref a1)]))
  refine Go.st (fun t k => XS.aloadN X4.here hx rfl (hb hby d14_29) rfl rfl k) ?_
  show Go p e below _ (T4.setTop (mkF m 30 #[.val (.ref a1), .val (.ref a2), .val (.int (2 : Int32))] [(.ref a2), (.int p6), (.ref a1)]))
  obtain ⟨cq5, u5, u5'⟩ := P8.cell
  obtain ⟨_, _, ⟨T5, L5, k5, n5⟩, -, X5, ⟨Lc5, hQ5, l5, y5, z5⟩, st5⟩ := X4.privateBack hx (y := (⟨"java/lang/AbstractStringBuilder", "putStringAt", "(ILjava/lang/String;)V"⟩ : MethodName)) hown (mvT hZ (w94 hw)) (mvT hZ (w95 hw)) (own_selP2 hZ (w97 hw) (w96 hw) (w95 hw) (by decide)) (Cond.privateMethod_at (mvP hZ (w96 hw) (args := #[]))) (mvT hZ (w98 hw)) (by decide) (backOf (W := 0) (rm18_2 l Z a0 hw [] a1 p6 a2 p5 a7 a3 kz4 kz8 zs9 h0 n0 O0 P8 P4 P5 P11 P1 P6 P9 P2 P3 P10 P13 P14 P15 P16 P17) hZ (w98 hw) (w59 hw) (by decide) (by decide)) (g := (mkF m 30 #[.val (.ref a1), .val (.ref a2), .val (.int (2 : Int32))] [(.ref a2), (.int p6), (.ref a1)])) rfl (by rw [hml]; rfl) (Steps.refl _) (a := a1) (by rw [e4]; exact u5) u5' (argsL := [(.int p6), (.ref a2)]) (rest := []) (lenOf pd_11 rfl) rfl (by show 2 * 0 + _ ≤ _; exact Nat.le_of_eq rfl) (hb hby d14_30) (fun vm₁ hw₁ => ⟨rfl, e4, (by decide : 0 + 0 ≤ _), (by decide : 0 + 0 ≤ _)⟩)
  dsimp only [Pt.U, Pt.locs, Pt.cells, Pt.slots] at X5 l5 y5 z5 st5 hQ5
  subst l5 y5 z5
  obtain ⟨rfl, M5, K5c, r5_0, r5_1⟩ := hQ5
  have N5 := Fr.app N3 M5
  have O5 : Old Z n0 T5.heap := O0.keep K5c (allS P13 all0)
  have K5 : Keep h0 T5.heap [a7, a1] := (Keep.refl h0 [a7, a1]).trans K5c (allS (Or.inl (List.mem_of_getElem? (i := 0) rfl)) all0)
  refine Go.tr st5 ?_
  show Go p e below _ (T5.setTop (mkF m 33 #[.val (.ref a1), .val (.ref a2), .val (.int (2 : Int32))] []))
  refine Go.st (fun t k => XS.aloadN X5.here hx rfl (hb hby d14_33) rfl rfl k) ?_
  show Go p e below _ (T5.setTop (mkF m 34 #[.val (.ref a1), .val (.ref a2), .val (.int (2 : Int32))] [(.ref a1)]))
  refine Go.st (fun t k => XS.dup X5.here hx rfl (hb hby d14_34) rfl rfl k) ?_
  show Go p e below _ (T5.setTop (mkF m 35 #[.val (.ref a1), .val (.ref a2), .val (.int (2 : Int32))] [(.ref a1), (.ref a1)]))
  obtain ⟨T6, X6, e6, st6⟩ := getF X5 hx hZ hown (host := "") (Or.inl (w87 hw)) Via.refl rfl (P7.keep K5c (ninS P18 nin0)) (g := (mkF m 35 #[.val (.ref a1), .val (.ref a2), .val (.int (2 : Int32))] [(.ref a1), (.ref a1)])) rfl rfl (hb hby d14_35)
  refine Go.st st6 ?_
  show Go p e below _ (T6.setTop (mkF m 38 #[.val (.ref a1), .val (.ref a2), .val (.int (2 : Int32))] [(.int p6), (.ref a1)]))
  refine Go.st (fun t k => XS.iloadN X6.here hx rfl (hb hby d14_38) rfl k) ?_
  show Go p e below _ (T6.setTop (mkF m 39 #[.val (.ref a1), .val (.ref a2), .val (.int (2 : Int32))] [(.int (2 : Int32)), (.int p6), (.ref a1)]))
  refine Go.st (fun t k => XS.iadd X6.here hx rfl (hb hby d14_39) rfl k) ?_
  show Go p e below _ (T6.setTop (mkF m 40 #[.val (.ref a1), .val (.ref a2), .val (.int (2 : Int32))] [(.int (p6 + (2 : Int32))), (.ref a1)]))
  obtain ⟨T7, h7, X7, e7, W7, st7⟩ := putF X6 hx hZ hown (host := "") (Or.inl (w87 hw)) Via.refl e6 (P7.keep K5c (ninS P18 nin0)) (P8.keep K5c) (Or.inl (w88 hw)) (w50 hw) (ty := .int) (by decide) rfl rfl (g := (mkF m 40 #[.val (.ref a1), .val (.ref a2), .val (.int (2 : Int32))] [(.int (p6 + (2 : Int32))), (.ref a1)])) rfl rfl (hb hby d14_40)
  have F7 : Fld Z h7 a1 "java/lang/AbstractStringBuilder" "count" "I" (.int (p6 + (2 : Int32))) := (P7.keep K5c (ninS P18 nin0)).same W7
  have N7 := Fr.snoc X7 N5 P19
  have O7 : Old Z n0 h7 := O5.wr W7 P19
  have K7 : Keep h0 h7 [a7, a1] := K5.wr W7 (Or.inl (List.mem_of_getElem? (i := 1) rfl))
  refine Go.st st7 ?_
  show Go p e below _ (T7.setTop (mkF m 43 #[.val (.ref a1), .val (.ref a2), .val (.int (2 : Int32))] []))
  refine Go.st (fun t k => XS.aloadN X7.here hx rfl (hb hby d14_43) rfl rfl k) ?_
  show Go p e below _ (T7.setTop (mkF m 44 #[.val (.ref a1), .val (.ref a2), .val (.int (2 : Int32))] [(.ref a1)]))
  obtain ⟨fs, hr, hrun, hended, hWd, hsame⟩ := X7.leave (v := some (.ref a1)) (fun h => by rw [Bd.returns] at h; cases h)
  have c8 := ((P9.keep K5c (ninS P18 nin0)).other W7 (Or.inr (slot_ne (Or.inl (w64 hw)) (Or.inl (w88 hw)) (by decide) (t := (.array .byte)) (t' := .int) (by decide) (by decide))))
  have c9 := ((P11.keep K5c (ninS P18 nin0)).other W7 (Or.inr (slot_ne (Or.inl (w66 hw)) (Or.inl (w88 hw)) (by decide) (t := .byte) (t' := .int) (by decide) (by decide))))
  refine ⟨_, _, ?_, hrun, hended, _, _, rfl, ?_, ⟨⟨_, rfl⟩, hWd, hsame.mono (by decide) (by decide)⟩⟩
  · exact own_retA X7 hx Bd.returns rfl rfl (hb hby d14_44) hr
  · show Q_rm14_2 Z a1 a2 a3 kz4 p5 p6 a7 kz8 zs9 h0 n0 _ T7.heap _
    rw [e7]
    exact ⟨rfl, N7, K7, F7, c8, c9, (r5_0.other W7 (Ne.symm P18)), r5_1⟩
def Q_rm13_2 (Z : State) (a1 : Addr) (a2 : Addr) (a3 : Addr) (kz4 : ClassId) (p5 : Int32) (p6 : Int32) (a7 : Addr) (kz8 : ClassId) (zs9 : List Int32) (h0 : Heap) (n0 : Nat) (v : Option Value) (h : Heap) (L : List Loc) : Prop := v = some (.ref a1) ∧ Fr n0 L ∧ Keep h0 h [a1, a7] ∧ Fld Z h a1 "java/lang/AbstractStringBuilder" "count" "I" (.int (p6 + (2 : Int32))) ∧ Fld Z h a1 "java/lang/AbstractStringBuilder" "value" "[B" (.ref a7) ∧ Fld Z h a1 "java/lang/AbstractStringBuilder" "coder" "B" (.int (0 : Int32)) ∧ Arv Z h a7 kz8 .byte (16 : Int32) ((own_put zs9 [(58 : Int32), (32 : Int32)] (p6).toNatClampNeg 2).map Value.int) (.int (0 : Int32)) ∧ (own_put zs9 [(58 : Int32), (32 : Int32)] (p6).toNatClampNeg 2).length = 16
set_option maxRecDepth 65536 in
set_option maxHeartbeats 40000000 in
theorem rm13_2 (l : Launch) (Z : State) (a0 : Array Value) (hw : ∀ d ∈ tables_1, d.before a0 Z = true) (ws : List Jvm.Cond) (a1 : Addr) (a2 : Addr) (a3 : Addr) (kz4 : ClassId) (p5 : Int32) (p6 : Int32) (a7 : Addr) (kz8 : ClassId) (zs9 : List Int32) (h0 : Heap) (n0 : Nat) (O0 : Old Z n0 h0) (P1 : Exa Z h0 a2 "java/lang/String") (P2 : Fld Z h0 a2 "java/lang/String" "value" "[B" (.ref a3)) (P3 : Arv Z h0 a3 kz4 .byte (2 : Int32) [(.int (58 : Int32)), (.int (32 : Int32))] (.int (0 : Int32))) (P4 : Sta Z Z.heap "java/lang/String" "COMPACT_STRINGS" "Z" (.int p5)) (P5 : ¬ (p5 = (0 : Int32))) (P6 : Fld Z h0 a2 "java/lang/String" "coder" "B" (.int (0 : Int32))) (P7 : Fld Z h0 a1 "java/lang/AbstractStringBuilder" "count" "I" (.int p6)) (P8 : Exa Z h0 a1 "java/lang/StringBuilder") (P9 : Fld Z h0 a1 "java/lang/AbstractStringBuilder" "value" "[B" (.ref a7)) (P10 : Arv Z h0 a7 kz8 .byte (16 : Int32) (zs9.map Value.int) (.int (0 : Int32))) (P11 : Fld Z h0 a1 "java/lang/AbstractStringBuilder" "coder" "B" (.int (0 : Int32))) (P12 : ¬ ((0 : Int32) < ((p6 + (2 : Int32)) - (16 : Int32)))) (P13 : n0 ≤ a7) (P14 : zs9.length = 16) (P15 : ¬ (p6 < (0 : Int32))) (P16 : ¬ ((1000000 : Int32) < p6)) (P17 : ¬ ((16 : Int32) < (p6 + (2 : Int32)))) (P18 : a1 ≠ a7) (P19 : n0 ≤ a1) :
    MetFree l (⟨"java/lang/StringBuilder", "append", "(Ljava/lang/String;)Ljava/lang/StringBuilder;"⟩ : MethodName) (head1 (Jvm.Cond.code (⟨"java/lang/StringBuilder", "append", "(Ljava/lang/String;)Ljava/lang/StringBuilder;"⟩ : MethodName) jdk_67_method_7_code 2 (some (.object "java/lang/StringBuilder")) :: ws) ({ frames := 4, cells := 0, slots := 0, locals := 61 } : Room)) (fun a U => a = #[(.ref a1), (.ref a2)] ∧ Z.Warmed39 U.vm ∧ U.heap = h0) (fun _ _ _ _ _ => True) (fun _ U o U' => ∃ v L, o = .returned v ∧ Q_rm13_2 Z a1 a2 a3 kz4 p5 p6 a7 kz8 zs9 h0 n0 v U'.heap L ∧ FrameEnd U o U' L ({ frames := 4, cells := 0, slots := 0, locals := 61 } : Room).cells ({ frames := 4, cells := 0, slots := 0, locals := 61 } : Room).slots) := by
  refine MetFree.of_bodySF (plainFor_of_name pn_3) hisR ?_
  intro p e s m args below meth c s₁ Bd hml0 hP hK
  obtain ⟨rfl, hZ, hh⟩ := hP
  have hx := Bd.exec
  have hby := Bd.bytes
  have hml : c.maxLocals = 2 := hml0
  have hown : s.vm.findClass "java/lang/StringBuilder" = some m.cls := findClass_of_methodNamed Bd.named
  have hnm := (name_of_methodNamed Bd.named Bd.method).1
  have X0 : Stand p l e ({ frames := 4, cells := 0, slots := 0, locals := 61 } : Room) s m #[(.ref a1), (.ref a2)] below meth c s₁ [] 0 0 := Stand.of_body Bd
  have e0 : s₁.heap = h0 := by rw [← hh, Bd.state]; rfl
  have N0 := Fr.nil n0
  refine Go.start (P := (fun o U' => ∃ v L, o = .returned v ∧ Q_rm13_2 Z a1 a2 a3 kz4 p5 p6 a7 kz8 zs9 h0 n0 v U'.heap L ∧ FrameEnd s o U' L ({ frames := 4, cells := 0, slots := 0, locals := 61 } : Room).cells ({ frames := 4, cells := 0, slots := 0, locals := 61 } : Room).slots)) (castTop (g' := (mkF m 0 #[.val (.ref a1), .val (.ref a2)] [])) (by first | rfl | simp [entryFrame, mkF, argsToLocals, Value.category]) (T := s₁)) ?_
  refine Go.st (fun t k => XS.aloadN X0.here hx rfl (hb hby d13_0) rfl rfl k) ?_
  show Go p e below _ (s₁.setTop (mkF m 1 #[.val (.ref a1), .val (.ref a2)] [(.ref a1)]))
  refine Go.st (fun t k => XS.aloadN X0.here hx rfl (hb hby d13_1) rfl rfl k) ?_
  show Go p e below _ (s₁.setTop (mkF m 2 #[.val (.ref a1), .val (.ref a2)] [(.ref a2), (.ref a1)]))
  obtain ⟨_, _, ⟨T1, L1, k1, n1⟩, -, X1, ⟨Lc1, hQ1, l1, y1, z1⟩, st1⟩ := superBack X0 hx hZ (y := (⟨"java/lang/AbstractStringBuilder", "append", "(Ljava/lang/String;)Ljava/lang/AbstractStringBuilder;"⟩ : MethodName)) hown (w72 hw) (own_sameM (y := (⟨"java/lang/AbstractStringBuilder", "append", "(Ljava/lang/String;)Ljava/lang/AbstractStringBuilder;"⟩ : MethodName)) (w73 hw) (w92 hw) rfl (by decide)) (w73 hw) (w74 hw) (by decide) (backOf (W := 0) (rm14_2 l Z a0 hw [] a1 a2 a3 kz4 p5 p6 a7 kz8 zs9 h0 n0 O0 P1 P2 P3 P4 P5 P6 P7 P8 P9 P10 P11 P12 P13 P14 P15 P16 P17 P18 P19) hZ (w76 hw) (w59 hw) (by decide) (by decide)) e0 (Ins.self P8) (g := (mkF m 2 #[.val (.ref a1), .val (.ref a2)] [(.ref a2), (.ref a1)])) rfl (by rw [hml]; rfl) (w76 hw) (argsL := [(.ref a2)]) (rest := []) (lenOf pd_12 rfl) rfl (by show 2 * 0 + _ ≤ _; exact Nat.le_of_eq rfl) (hb hby d13_2) (fun vm₁ hw₁ => ⟨rfl, e0, (by decide : 0 + 0 ≤ _), (by decide : 0 + 0 ≤ _)⟩)
  dsimp only [Pt.U, Pt.locs, Pt.cells, Pt.slots] at X1 l1 y1 z1 st1 hQ1
  subst l1 y1 z1
  obtain ⟨rfl, M1, K1c, r1_0, r1_1, r1_2, r1_3, r1_4⟩ := hQ1
  have N1 := Fr.app N0 M1
  have O1 : Old Z n0 T1.heap := O0.keep K1c (allS P13 (allS P19 all0))
  have K1 : Keep h0 T1.heap [a1, a7] := (Keep.refl h0 [a1, a7]).trans K1c (allS (Or.inl (List.mem_of_getElem? (i := 1) rfl)) (allS (Or.inl (List.mem_of_getElem? (i := 0) rfl)) all0))
  refine Go.tr st1 ?_
  show Go p e below _ (T1.setTop (mkF m 5 #[.val (.ref a1), .val (.ref a2)] [(.ref a1)]))
  refine Go.st (fun t k => XS.pop X1.here hx rfl (hb hby d13_5) rfl rfl k) ?_
  show Go p e below _ (T1.setTop (mkF m 6 #[.val (.ref a1), .val (.ref a2)] []))
  refine Go.st (fun t k => XS.aloadN X1.here hx rfl (hb hby d13_6) rfl rfl k) ?_
  show Go p e below _ (T1.setTop (mkF m 7 #[.val (.ref a1), .val (.ref a2)] [(.ref a1)]))
  obtain ⟨fs, hr, hrun, hended, hWd, hsame⟩ := X1.leave (v := some (.ref a1)) (fun h => by rw [Bd.returns] at h; cases h)
  refine ⟨_, _, ?_, hrun, hended, _, _, rfl, ?_, ⟨⟨_, rfl⟩, hWd, hsame.mono (by decide) (by decide)⟩⟩
  · exact own_retA X1 hx Bd.returns rfl rfl (hb hby d13_7) hr
  · show Q_rm13_2 Z a1 a2 a3 kz4 p5 p6 a7 kz8 zs9 h0 n0 _ T1.heap _
    exact ⟨rfl, N1, K1, r1_0, r1_1, r1_2, r1_3, r1_4⟩
def Q_rm20_3 (Z : State) (a1 : Addr) (a2 : Addr) (p3 : Int32) (p4 : Int32) (a5 : Addr) (kz6 : ClassId) (zs7 : List Int32) (p8 : Int32) (kz9 : ClassId) (zs10 : List Int32) (h0 : Heap) (n0 : Nat) (v : Option Value) (h : Heap) (L : List Loc) : Prop := v = none ∧ Fr n0 L ∧ Keep h0 h [a2] ∧ Arv Z h a2 kz9 .byte (16 : Int32) ((own_put zs10 zs7 (p3).toNatClampNeg (p8).toNatClampNeg).map Value.int) (.int (0 : Int32)) ∧ (own_put zs10 zs7 (p3).toNatClampNeg (p8).toNatClampNeg).length = 16
set_option maxRecDepth 65536 in
set_option maxHeartbeats 40000000 in
theorem rm20_3 (l : Launch) (Z : State) (a0 : Array Value) (hw : ∀ d ∈ tables_1, d.before a0 Z = true) (ws : List Jvm.Cond) (a1 : Addr) (a2 : Addr) (p3 : Int32) (p4 : Int32) (a5 : Addr) (kz6 : ClassId) (zs7 : List Int32) (p8 : Int32) (kz9 : ClassId) (zs10 : List Int32) (h0 : Heap) (n0 : Nat) (O0 : Old Z n0 h0) (P1 : Exa Z h0 a1 "java/lang/String") (P2 : Sta Z Z.heap "java/lang/String" "COMPACT_STRINGS" "Z" (.int p4)) (P3 : ¬ (p4 = (0 : Int32))) (P4 : Fld Z h0 a1 "java/lang/String" "coder" "B" (.int (0 : Int32))) (P5 : Fld Z h0 a1 "java/lang/String" "value" "[B" (.ref a5)) (P6 : Arv Z h0 a5 kz6 .byte p8 (zs7.map Value.int) (.int (0 : Int32))) (P7 : Arv Z h0 a2 kz9 .byte (16 : Int32) (zs10.map Value.int) (.int (0 : Int32))) (P8 : n0 ≤ a2) (P9 : zs10.length = 16) (P10 : ¬ (p8 < (0 : Int32))) (P11 : ¬ (p3 < (0 : Int32))) (P12 : ¬ ((1000000 : Int32) < p3)) (P13 : ¬ ((1000000 : Int32) < p8)) (P14 : ¬ ((16 : Int32) < (p3 + p8))) :
    MetFree l (⟨"java/lang/String", "getBytes", "([BIB)V"⟩ : MethodName) (head1 (Jvm.Cond.code (⟨"java/lang/String", "getBytes", "([BIB)V"⟩ : MethodName) jdk_42_method_147_code 4 none :: ws) ({ frames := 1, cells := 0, slots := 0, locals := 18 } : Room)) (fun a U => a = #[(.ref a1), (.ref a2), (.int p3), (.int (0 : Int32))] ∧ Z.Warmed39 U.vm ∧ U.heap = h0) (fun _ _ _ _ _ => True) (fun _ U o U' => ∃ v L, o = .returned v ∧ Q_rm20_3 Z a1 a2 p3 p4 a5 kz6 zs7 p8 kz9 zs10 h0 n0 v U'.heap L ∧ FrameEnd U o U' L ({ frames := 1, cells := 0, slots := 0, locals := 18 } : Room).cells ({ frames := 1, cells := 0, slots := 0, locals := 18 } : Room).slots) := by
  refine MetFree.of_bodySF (plainFor_of_name pn_1) hisR ?_
  intro p e s m args below meth c s₁ Bd hml0 hP hK
  obtain ⟨rfl, hZ, hh⟩ := hP
  have hx := Bd.exec
  have hby := Bd.bytes
  have hml : c.maxLocals = 4 := hml0
  have hown : s.vm.findClass "java/lang/String" = some m.cls := findClass_of_methodNamed Bd.named
  have hnm := (name_of_methodNamed Bd.named Bd.method).1
  have X0 : Stand p l e ({ frames := 1, cells := 0, slots := 0, locals := 18 } : Room) s m #[(.ref a1), (.ref a2), (.int p3), (.int (0 : Int32))] below meth c s₁ [] 0 0 := Stand.of_body Bd
  have e0 : s₁.heap = h0 := by rw [← hh, Bd.state]; rfl
  have N0 := Fr.nil n0
  refine Go.start (P := (fun o U' => ∃ v L, o = .returned v ∧ Q_rm20_3 Z a1 a2 p3 p4 a5 kz6 zs7 p8 kz9 zs10 h0 n0 v U'.heap L ∧ FrameEnd s o U' L ({ frames := 1, cells := 0, slots := 0, locals := 18 } : Room).cells ({ frames := 1, cells := 0, slots := 0, locals := 18 } : Room).slots)) (castTop (g' := (mkF m 0 #[.val (.ref a1), .val (.ref a2), .val (.int p3), .val (.int (0 : Int32))] [])) (by first | rfl | simp [entryFrame, mkF, argsToLocals, Value.category]) (T := s₁)) ?_
  refine Go.st (fun t k => XS.aloadN X0.here hx rfl (hb hby d20_0) rfl rfl k) ?_
  show Go p e below _ (s₁.setTop (mkF m 1 #[.val (.ref a1), .val (.ref a2), .val (.int p3), .val (.int (0 : Int32))] [(.ref a1)]))
  obtain ⟨cq1, kq1, q1a, q1b, q1c⟩ := isOf hZ e0 P1
  obtain ⟨_, _, ⟨T1, L1, k1, n1⟩, -, X1, ⟨Lc1, hQ1, l1, y1, z1⟩, st1⟩ := X0.virtualBack hx (y := (⟨"java/lang/String", "coder", "()B"⟩ : MethodName)) (z := (⟨"java/lang/String", "coder", "()B"⟩ : MethodName)) hown (mvT hZ (w82 hw)) (mvT hZ (w83 hw)) (notFace_of_selects (args := #[]) (mvT hZ (w85 hw))) (mvT hZ (w85 hw)) (mvT hZ (w84 hw)) (by decide) (backOf (W := 0) (rm16_1 l Z a0 hw [] a1 p4 h0 n0 O0 P2 P3 P4) hZ (w86 hw) (w13 hw) (by decide) (by decide)) q1a q1c (g := (mkF m 1 #[.val (.ref a1), .val (.ref a2), .val (.int p3), .val (.int (0 : Int32))] [(.ref a1)])) rfl (by rw [hml]; rfl) (Steps.refl _) (argsL := []) (rest := []) (lenOf pd_7 rfl) rfl (by show 2 * 0 + _ ≤ _; exact Nat.le_of_eq rfl) (hb hby d20_1) (fun vm₁ hw₁ => ⟨rfl, e0, (by decide : 0 + 0 ≤ _), (by decide : 0 + 0 ≤ _)⟩)
  dsimp only [Pt.U, Pt.locs, Pt.cells, Pt.slots] at X1 l1 y1 z1 st1 hQ1
  subst l1 y1 z1
  obtain ⟨rfl, M1, eh1⟩ := hQ1
  have N1 := Fr.app N0 M1
  refine Go.tr st1 ?_
  show Go p e below _ (T1.setTop (mkF m 4 #[.val (.ref a1), .val (.ref a2), .val (.int p3), .val (.int (0 : Int32))] [(.int (0 : Int32))]))
  refine Go.st (fun t k => XS.iloadN X1.here hx rfl (hb hby d20_4) rfl k) ?_
  show Go p e below _ (T1.setTop (mkF m 5 #[.val (.ref a1), .val (.ref a2), .val (.int p3), .val (.int (0 : Int32))] [(.int (0 : Int32)), (.int (0 : Int32))]))
  refine Go.st (fun t k => XS.icmpNo X1.here hx rfl (hb hby d20_5) rfl (Jvm.Free.XT.ii_ne_f (by decide : (0 : Int32) = (0 : Int32))) k) ?_
  show Go p e below _ (T1.setTop (mkF m 8 #[.val (.ref a1), .val (.ref a2), .val (.int p3), .val (.int (0 : Int32))] []))
  refine Go.st (fun t k => XS.aloadN X1.here hx rfl (hb hby d20_8) rfl rfl k) ?_
  show Go p e below _ (T1.setTop (mkF m 9 #[.val (.ref a1), .val (.ref a2), .val (.int p3), .val (.int (0 : Int32))] [(.ref a1)]))
  obtain ⟨T2, X2, e2, st2⟩ := getF X1 hx hZ hown (host := "") (Or.inl (w38 hw)) Via.refl eh1 P5 (g := (mkF m 9 #[.val (.ref a1), .val (.ref a2), .val (.int p3), .val (.int (0 : Int32))] [(.ref a1)])) rfl rfl (hb hby d20_9)
  refine Go.st st2 ?_
  show Go p e below _ (T2.setTop (mkF m 12 #[.val (.ref a1), .val (.ref a2), .val (.int p3), .val (.int (0 : Int32))] [(.ref a5)]))
  refine Go.st (fun t k => XS.iconst X2.here hx rfl (hb hby d20_12) k) ?_
  show Go p e below _ (T2.setTop (mkF m 13 #[.val (.ref a1), .val (.ref a2), .val (.int p3), .val (.int (0 : Int32))] [(.int (0 : Int32)), (.ref a5)]))
  refine Go.st (fun t k => XS.aloadN X2.here hx rfl (hb hby d20_13) rfl rfl k) ?_
  show Go p e below _ (T2.setTop (mkF m 14 #[.val (.ref a1), .val (.ref a2), .val (.int p3), .val (.int (0 : Int32))] [(.ref a2), (.int (0 : Int32)), (.ref a5)]))
  refine Go.st (fun t k => XS.iloadN X2.here hx rfl (hb hby d20_14) rfl k) ?_
  show Go p e below _ (T2.setTop (mkF m 15 #[.val (.ref a1), .val (.ref a2), .val (.int p3), .val (.int (0 : Int32))] [(.int p3), (.ref a2), (.int (0 : Int32)), (.ref a5)]))
  refine Go.st (fun t k => XS.iloadN X2.here hx rfl (hb hby d20_15) rfl k) ?_
  show Go p e below _ (T2.setTop (mkF m 16 #[.val (.ref a1), .val (.ref a2), .val (.int p3), .val (.int (0 : Int32))] [(.int (0 : Int32)), (.int p3), (.ref a2), (.int (0 : Int32)), (.ref a5)]))
  refine Go.st (fun t k => XS.ishl X2.here hx rfl (hb hby d20_16) rfl k) ?_
  show Go p e below _ (T2.setTop (mkF m 17 #[.val (.ref a1), .val (.ref a2), .val (.int p3), .val (.int (0 : Int32))] [(.int (p3 <<< ((0 : Int32) &&& 31))), (.ref a2), (.int (0 : Int32)), (.ref a5)]))
  rw [own_shl0 p3]
  show Go p e below _ (T2.setTop (mkF m 17 #[.val (.ref a1), .val (.ref a2), .val (.int p3), .val (.int (0 : Int32))] [(.int p3), (.ref a2), (.int (0 : Int32)), (.ref a5)]))
  refine Go.st (fun t k => XS.aloadN X2.here hx rfl (hb hby d20_17) rfl rfl k) ?_
  show Go p e below _ (T2.setTop (mkF m 18 #[.val (.ref a1), .val (.ref a2), .val (.int p3), .val (.int (0 : Int32))] [(.ref a1), (.int p3), (.ref a2), (.int (0 : Int32)), (.ref a5)]))
  obtain ⟨T3, X3, e3, st3⟩ := getF X2 hx hZ hown (host := "") (Or.inl (w38 hw)) Via.refl e2 P5 (g := (mkF m 18 #[.val (.ref a1), .val (.ref a2), .val (.int p3), .val (.int (0 : Int32))] [(.ref a1), (.int p3), (.ref a2), (.int (0 : Int32)), (.ref a5)])) rfl rfl (hb hby d20_18)
  refine Go.st st3 ?_
  show Go p e below _ (T3.setTop (mkF m 21 #[.val (.ref a1), .val (.ref a2), .val (.int p3), .val (.int (0 : Int32))] [(.ref a5), (.int p3), (.ref a2), (.int (0 : Int32)), (.ref a5)]))
  obtain ⟨cl4, Ar4, -, S4, M4, -, -⟩ := id P6
  refine Go.st (fun t k => X3.arraylength hx (by rw [e3]; exact Ar4.1) (State.isArrayOf_alike hZ.alike Ar4.2.1) (g := (mkF m 21 #[.val (.ref a1), .val (.ref a2), .val (.int p3), .val (.int (0 : Int32))] [(.ref a5), (.int p3), (.ref a2), (.int (0 : Int32)), (.ref a5)])) rfl rfl (hb hby d20_21) t k) ?_
  rw [len_of S4 M4]
  show Go p e below _ (T3.setTop (mkF m 22 #[.val (.ref a1), .val (.ref a2), .val (.int p3), .val (.int (0 : Int32))] [(.int p8), (.int p3), (.ref a2), (.int (0 : Int32)), (.ref a5)]))
  have g55 : (p3).toNatClampNeg + (p8).toNatClampNeg ≤ ((16 : Int32)).toNatClampNeg := (own_cl3 P11 P10 (by decide : ¬ ((16 : Int32) < (0 : Int32))) P12 P13 P14)
  have l55 : (p3).toNatClampNeg + (p8).toNatClampNeg ≤ zs10.length := Nat.le_trans g55 (Nat.le_of_eq P9.symm)
  obtain ⟨T5, h5, L5, X5, e5, N5, K5c, V50, st5⟩ := cpA X3 hx hZ hown (w110 hw) (w113 hw) (w111 hw) (w112 hw) e3 P6 P7 (Or.inl ⟨rfl, rfl⟩) (sp := (0 : Int32)) (dp := p3) (nn := p8) (by decide) P11 P10 (own_cl0 P10 (fun q => Int32.lt_irrefl q)) g55 rfl (by rw [List.length_map]; exact l55) N1 P8 (g := (mkF m 22 #[.val (.ref a1), .val (.ref a2), .val (.int p3), .val (.int (0 : Int32))] [(.int p8), (.int p3), (.ref a2), (.int (0 : Int32)), (.ref a5)])) rfl (by rw [hml]; rfl) (rest := []) rfl (hb hby d20_22) (by decide) (W := 0) (by show 2 * 0 + _ ≤ _; exact Nat.le_of_eq rfl) (by decide)
  have V5 : Arv Z h5 a2 kz9 .byte (16 : Int32) ((own_put zs10 zs7 (p3).toNatClampNeg (p8).toNatClampNeg).map Value.int) (.int (0 : Int32)) := own_putM zs10 zs7 _ _ _ rfl ▸ V50
  have LN5 : (own_put zs10 zs7 (p3).toNatClampNeg (p8).toNatClampNeg).length = 16 := (own_putL l55).trans P9
  have O5 : Old Z n0 h5 := O0.keep K5c (allS P8 all0)
  have K5 : Keep h0 h5 [a2] := (Keep.refl h0 [a2]).trans K5c (allS (Or.inl (List.mem_of_getElem? (i := 0) rfl)) all0)
  refine Go.st st5 ?_
  show Go p e below _ (T5.setTop (mkF m 25 #[.val (.ref a1), .val (.ref a2), .val (.int p3), .val (.int (0 : Int32))] []))
  refine Go.st (fun t k => XS.goto X5.here hx rfl (pc0 := 25) (pc' := 43) rfl (hb hby d20_25) (by decide) (by decide) k) ?_
  show Go p e below _ (T5.setTop (mkF m 43 #[.val (.ref a1), .val (.ref a2), .val (.int p3), .val (.int (0 : Int32))] []))
  obtain ⟨fs, hr, hrun, hended, hWd, hsame⟩ := X5.leave (v := none) (fun _ => rfl)
  refine ⟨_, _, ?_, hrun, hended, _, _, rfl, ?_, ⟨⟨_, rfl⟩, hWd, hsame.mono (by decide) (by decide)⟩⟩
  · exact X5.returnOut hx Bd.returns (hb hby d20_43) hr
  · show Q_rm20_3 Z a1 a2 p3 p4 a5 kz6 zs7 p8 kz9 zs10 h0 n0 _ T5.heap _
    rw [e5]
    exact ⟨rfl, N5, K5, V5, LN5⟩
def Q_rm18_3 (Z : State) (a1 : Addr) (p2 : Int32) (a3 : Addr) (p4 : Int32) (a5 : Addr) (a6 : Addr) (kz7 : ClassId) (zs8 : List Int32) (p9 : Int32) (kz10 : ClassId) (zs11 : List Int32) (h0 : Heap) (n0 : Nat) (v : Option Value) (h : Heap) (L : List Loc) : Prop := v = none ∧ Fr n0 L ∧ Keep h0 h [a5] ∧ Arv Z h a5 kz10 .byte (16 : Int32) ((own_put zs11 zs8 (p2).toNatClampNeg (p9).toNatClampNeg).map Value.int) (.int (0 : Int32)) ∧ (own_put zs11 zs8 (p2).toNatClampNeg (p9).toNatClampNeg).length = 16
set_option maxRecDepth 65536 in
set_option maxHeartbeats 40000000 in
theorem rm18_3 (l : Launch) (Z : State) (a0 : Array Value) (hw : ∀ d ∈ tables_1, d.before a0 Z = true) (ws : List Jvm.Cond) (a1 : Addr) (p2 : Int32) (a3 : Addr) (p4 : Int32) (a5 : Addr) (a6 : Addr) (kz7 : ClassId) (zs8 : List Int32) (p9 : Int32) (kz10 : ClassId) (zs11 : List Int32) (h0 : Heap) (n0 : Nat) (O0 : Old Z n0 h0) (P1 : Exa Z h0 a1 "java/lang/StringBuilder") (P2 : Sta Z Z.heap "java/lang/String" "COMPACT_STRINGS" "Z" (.int p4)) (P3 : ¬ (p4 = (0 : Int32))) (P4 : Fld Z h0 a1 "java/lang/AbstractStringBuilder" "coder" "B" (.int (0 : Int32))) (P5 : Exa Z h0 a3 "java/lang/String") (P6 : Fld Z h0 a3 "java/lang/String" "coder" "B" (.int (0 : Int32))) (P7 : Fld Z h0 a1 "java/lang/AbstractStringBuilder" "value" "[B" (.ref a5)) (P8 : Fld Z h0 a3 "java/lang/String" "value" "[B" (.ref a6)) (P9 : Arv Z h0 a6 kz7 .byte p9 (zs8.map Value.int) (.int (0 : Int32))) (P10 : Arv Z h0 a5 kz10 .byte (16 : Int32) (zs11.map Value.int) (.int (0 : Int32))) (P11 : n0 ≤ a5) (P12 : zs11.length = 16) (P13 : ¬ (p9 < (0 : Int32))) (P14 : ¬ (p2 < (0 : Int32))) (P15 : ¬ ((1000000 : Int32) < p2)) (P16 : ¬ ((1000000 : Int32) < p9)) (P17 : ¬ ((16 : Int32) < (p2 + p9))) :
    MetFree l (⟨"java/lang/AbstractStringBuilder", "putStringAt", "(ILjava/lang/String;)V"⟩ : MethodName) (head1 (Jvm.Cond.code (⟨"java/lang/AbstractStringBuilder", "putStringAt", "(ILjava/lang/String;)V"⟩ : MethodName) jdk_68_method_73_code 3 none :: ws) ({ frames := 2, cells := 0, slots := 0, locals := 33 } : Room)) (fun a U => a = #[(.ref a1), (.int p2), (.ref a3)] ∧ Z.Warmed39 U.vm ∧ U.heap = h0) (fun _ _ _ _ _ => True) (fun _ U o U' => ∃ v L, o = .returned v ∧ Q_rm18_3 Z a1 p2 a3 p4 a5 a6 kz7 zs8 p9 kz10 zs11 h0 n0 v U'.heap L ∧ FrameEnd U o U' L ({ frames := 2, cells := 0, slots := 0, locals := 33 } : Room).cells ({ frames := 2, cells := 0, slots := 0, locals := 33 } : Room).slots) := by
  refine MetFree.of_bodySF (plainFor_of_name pn_2) hisR ?_
  intro p e s m args below meth c s₁ Bd hml0 hP hK
  obtain ⟨rfl, hZ, hh⟩ := hP
  have hx := Bd.exec
  have hby := Bd.bytes
  have hml : c.maxLocals = 3 := hml0
  have hown : s.vm.findClass "java/lang/AbstractStringBuilder" = some m.cls := findClass_of_methodNamed Bd.named
  have hnm := (name_of_methodNamed Bd.named Bd.method).1
  have X0 : Stand p l e ({ frames := 2, cells := 0, slots := 0, locals := 33 } : Room) s m #[(.ref a1), (.int p2), (.ref a3)] below meth c s₁ [] 0 0 := Stand.of_body Bd
  have e0 : s₁.heap = h0 := by rw [← hh, Bd.state]; rfl
  have N0 := Fr.nil n0
  refine Go.start (P := (fun o U' => ∃ v L, o = .returned v ∧ Q_rm18_3 Z a1 p2 a3 p4 a5 a6 kz7 zs8 p9 kz10 zs11 h0 n0 v U'.heap L ∧ FrameEnd s o U' L ({ frames := 2, cells := 0, slots := 0, locals := 33 } : Room).cells ({ frames := 2, cells := 0, slots := 0, locals := 33 } : Room).slots)) (castTop (g' := (mkF m 0 #[.val (.ref a1), .val (.int p2), .val (.ref a3)] [])) (by first | rfl | simp [entryFrame, mkF, argsToLocals, Value.category]) (T := s₁)) ?_
  refine Go.st (fun t k => XS.aloadN X0.here hx rfl (hb hby d18_0) rfl rfl k) ?_
  show Go p e below _ (s₁.setTop (mkF m 1 #[.val (.ref a1), .val (.int p2), .val (.ref a3)] [(.ref a1)]))
  refine Go.st (fun t k => XS.aloadN X0.here hx rfl (hb hby d18_1) rfl rfl k) ?_
  show Go p e below _ (s₁.setTop (mkF m 2 #[.val (.ref a1), .val (.int p2), .val (.ref a3)] [(.ref a3), (.ref a1)]))
  obtain ⟨cq1, u1, u1'⟩ := P1.cell
  obtain ⟨_, _, ⟨T1, L1, k1, n1⟩, -, X1, ⟨Lc1, hQ1, l1, y1, z1⟩, st1⟩ := X0.privateBack hx (y := (⟨"java/lang/AbstractStringBuilder", "inflateIfNeededFor", "(Ljava/lang/String;)V"⟩ : MethodName)) hown (mvT hZ (w99 hw)) (mvT hZ (w100 hw)) (own_selP2 hZ (w102 hw) (w101 hw) (w100 hw) (by decide)) (Cond.privateMethod_at (mvP hZ (w101 hw) (args := #[]))) (mvT hZ (w103 hw)) (by decide) (backOf (W := 0) (rm19_1 l Z a0 hw [] a1 a3 p4 h0 n0 O0 P2 P3 P4 P5 P6) hZ (w103 hw) (w59 hw) (by decide) (by decide)) (g := (mkF m 2 #[.val (.ref a1), .val (.int p2), .val (.ref a3)] [(.ref a3), (.ref a1)])) rfl (by rw [hml]; rfl) (Steps.refl _) (a := a1) (by rw [e0]; exact u1) u1' (argsL := [(.ref a3)]) (rest := []) (lenOf pd_9 rfl) rfl (by show 2 * 0 + _ ≤ _; exact Nat.le_of_eq rfl) (hb hby d18_2) (fun vm₁ hw₁ => ⟨rfl, e0, (by decide : 0 + 0 ≤ _), (by decide : 0 + 0 ≤ _)⟩)
  dsimp only [Pt.U, Pt.locs, Pt.cells, Pt.slots] at X1 l1 y1 z1 st1 hQ1
  subst l1 y1 z1
  obtain ⟨rfl, M1, eh1⟩ := hQ1
  have N1 := Fr.app N0 M1
  refine Go.tr st1 ?_
  show Go p e below _ (T1.setTop (mkF m 5 #[.val (.ref a1), .val (.int p2), .val (.ref a3)] []))
  refine Go.st (fun t k => XS.aloadN X1.here hx rfl (hb hby d18_5) rfl rfl k) ?_
  show Go p e below _ (T1.setTop (mkF m 6 #[.val (.ref a1), .val (.int p2), .val (.ref a3)] [(.ref a3)]))
  refine Go.st (fun t k => XS.aloadN X1.here hx rfl (hb hby d18_6) rfl rfl k) ?_
  show Go p e below _ (T1.setTop (mkF m 7 #[.val (.ref a1), .val (.int p2), .val (.ref a3)] [(.ref a1), (.ref a3)]))
  obtain ⟨T2, X2, e2, st2⟩ := getF X1 hx hZ hown (host := "") (Or.inl (w63 hw)) Via.refl eh1 P7 (g := (mkF m 7 #[.val (.ref a1), .val (.int p2), .val (.ref a3)] [(.ref a1), (.ref a3)])) rfl rfl (hb hby d18_7)
  refine Go.st st2 ?_
  show Go p e below _ (T2.setTop (mkF m 10 #[.val (.ref a1), .val (.int p2), .val (.ref a3)] [(.ref a5), (.ref a3)]))
  refine Go.st (fun t k => XS.iloadN X2.here hx rfl (hb hby d18_10) rfl k) ?_
  show Go p e below _ (T2.setTop (mkF m 11 #[.val (.ref a1), .val (.int p2), .val (.ref a3)] [(.int p2), (.ref a5), (.ref a3)]))
  refine Go.st (fun t k => XS.aloadN X2.here hx rfl (hb hby d18_11) rfl rfl k) ?_
  show Go p e below _ (T2.setTop (mkF m 12 #[.val (.ref a1), .val (.int p2), .val (.ref a3)] [(.ref a1), (.int p2), (.ref a5), (.ref a3)]))
  obtain ⟨T3, X3, e3, st3⟩ := getF X2 hx hZ hown (host := "") (Or.inl (w65 hw)) Via.refl e2 P4 (g := (mkF m 12 #[.val (.ref a1), .val (.int p2), .val (.ref a3)] [(.ref a1), (.int p2), (.ref a5), (.ref a3)])) rfl rfl (hb hby d18_12)
  refine Go.st st3 ?_
  show Go p e below _ (T3.setTop (mkF m 15 #[.val (.ref a1), .val (.int p2), .val (.ref a3)] [(.int (0 : Int32)), (.int p2), (.ref a5), (.ref a3)]))
  obtain ⟨cq4, kq4, q4a, q4b, q4c⟩ := isOf hZ e3 P5
  obtain ⟨_, _, ⟨T4, L4, k4, n4⟩, -, X4, ⟨Lc4, hQ4, l4, y4, z4⟩, st4⟩ := X3.virtualBack hx (y := (⟨"java/lang/String", "getBytes", "([BIB)V"⟩ : MethodName)) (z := (⟨"java/lang/String", "getBytes", "([BIB)V"⟩ : MethodName)) hown (mvT hZ (w105 hw)) (mvT hZ (w106 hw)) (notFace_of_selects (args := #[]) (mvT hZ (w108 hw))) (mvT hZ (w108 hw)) (mvT hZ (w107 hw)) (by decide) (backOf (W := 0) (rm20_3 l Z a0 hw [] a3 a5 p2 p4 a6 kz7 zs8 p9 kz10 zs11 h0 n0 O0 P5 P2 P3 P6 P8 P9 P10 P11 P12 P13 P14 P15 P16 P17) hZ (w109 hw) (w13 hw) (by decide) (by decide)) q4a q4c (g := (mkF m 15 #[.val (.ref a1), .val (.int p2), .val (.ref a3)] [(.int (0 : Int32)), (.int p2), (.ref a5), (.ref a3)])) rfl (by rw [hml]; rfl) (Steps.refl _) (argsL := [(.ref a5), (.int p2), (.int (0 : Int32))]) (rest := []) (lenOf pd_10 rfl) rfl (by show 2 * 0 + _ ≤ _; exact Nat.le_of_eq rfl) (hb hby d18_15) (fun vm₁ hw₁ => ⟨rfl, e3, (by decide : 0 + 0 ≤ _), (by decide : 0 + 0 ≤ _)⟩)
  dsimp only [Pt.U, Pt.locs, Pt.cells, Pt.slots] at X4 l4 y4 z4 st4 hQ4
  subst l4 y4 z4
  obtain ⟨rfl, M4, K4c, r4_0, r4_1⟩ := hQ4
  have N4 := Fr.app N1 M4
  have O4 : Old Z n0 T4.heap := O0.keep K4c (allS P11 all0)
  have K4 : Keep h0 T4.heap [a5] := (Keep.refl h0 [a5]).trans K4c (allS (Or.inl (List.mem_of_getElem? (i := 0) rfl)) all0)
  refine Go.tr st4 ?_
  show Go p e below _ (T4.setTop (mkF m 18 #[.val (.ref a1), .val (.int p2), .val (.ref a3)] []))
  obtain ⟨fs, hr, hrun, hended, hWd, hsame⟩ := X4.leave (v := none) (fun _ => rfl)
  refine ⟨_, _, ?_, hrun, hended, _, _, rfl, ?_, ⟨⟨_, rfl⟩, hWd, hsame.mono (by decide) (by decide)⟩⟩
  · exact X4.returnOut hx Bd.returns (hb hby d18_18) hr
  · show Q_rm18_3 Z a1 p2 a3 p4 a5 a6 kz7 zs8 p9 kz10 zs11 h0 n0 _ T4.heap _
    exact ⟨rfl, N4, K4, r4_0, r4_1⟩
def Q_rm14_3 (Z : State) (a1 : Addr) (a2 : Addr) (a3 : Addr) (kz4 : ClassId) (zs5 : List Int32) (p6 : Int32) (p7 : Int32) (p8 : Int32) (a9 : Addr) (kz10 : ClassId) (zs11 : List Int32) (h0 : Heap) (n0 : Nat) (v : Option Value) (h : Heap) (L : List Loc) : Prop := v = some (.ref a1) ∧ Fr n0 L ∧ Keep h0 h [a9, a1] ∧ Fld Z h a1 "java/lang/AbstractStringBuilder" "count" "I" (.int (p8 + p6)) ∧ Fld Z h a1 "java/lang/AbstractStringBuilder" "value" "[B" (.ref a9) ∧ Fld Z h a1 "java/lang/AbstractStringBuilder" "coder" "B" (.int (0 : Int32)) ∧ Arv Z h a9 kz10 .byte (16 : Int32) ((own_put zs11 zs5 (p8).toNatClampNeg (p6).toNatClampNeg).map Value.int) (.int (0 : Int32)) ∧ (own_put zs11 zs5 (p8).toNatClampNeg (p6).toNatClampNeg).length = 16
set_option maxRecDepth 65536 in
set_option maxHeartbeats 40000000 in
theorem rm14_3 (l : Launch) (Z : State) (a0 : Array Value) (hw : ∀ d ∈ tables_1, d.before a0 Z = true) (ws : List Jvm.Cond) (a1 : Addr) (a2 : Addr) (a3 : Addr) (kz4 : ClassId) (zs5 : List Int32) (p6 : Int32) (p7 : Int32) (p8 : Int32) (a9 : Addr) (kz10 : ClassId) (zs11 : List Int32) (h0 : Heap) (n0 : Nat) (O0 : Old Z n0 h0) (P1 : Exa Z h0 a2 "java/lang/String") (P2 : Fld Z h0 a2 "java/lang/String" "value" "[B" (.ref a3)) (P3 : Arv Z h0 a3 kz4 .byte p6 (zs5.map Value.int) (.int (0 : Int32))) (P4 : Sta Z Z.heap "java/lang/String" "COMPACT_STRINGS" "Z" (.int p7)) (P5 : ¬ (p7 = (0 : Int32))) (P6 : Fld Z h0 a2 "java/lang/String" "coder" "B" (.int (0 : Int32))) (P7 : Fld Z h0 a1 "java/lang/AbstractStringBuilder" "count" "I" (.int p8)) (P8 : Exa Z h0 a1 "java/lang/StringBuilder") (P9 : Fld Z h0 a1 "java/lang/AbstractStringBuilder" "value" "[B" (.ref a9)) (P10 : Arv Z h0 a9 kz10 .byte (16 : Int32) (zs11.map Value.int) (.int (0 : Int32))) (P11 : Fld Z h0 a1 "java/lang/AbstractStringBuilder" "coder" "B" (.int (0 : Int32))) (P12 : ¬ ((0 : Int32) < ((p8 + p6) - (16 : Int32)))) (P13 : n0 ≤ a9) (P14 : zs11.length = 16) (P15 : ¬ (p6 < (0 : Int32))) (P16 : ¬ (p8 < (0 : Int32))) (P17 : ¬ ((1000000 : Int32) < p8)) (P18 : ¬ ((1000000 : Int32) < p6)) (P19 : ¬ ((16 : Int32) < (p8 + p6))) (P20 : a1 ≠ a9) (P21 : n0 ≤ a1) :
    MetFree l (⟨"java/lang/AbstractStringBuilder", "append", "(Ljava/lang/String;)Ljava/lang/AbstractStringBuilder;"⟩ : MethodName) (head1 (Jvm.Cond.code (⟨"java/lang/AbstractStringBuilder", "append", "(Ljava/lang/String;)Ljava/lang/AbstractStringBuilder;"⟩ : MethodName) jdk_68_method_22_code 3 (some (.object "java/lang/AbstractStringBuilder")) :: ws) ({ frames := 3, cells := 0, slots := 0, locals := 47 } : Room)) (fun a U => a = #[(.ref a1), (.ref a2)] ∧ Z.Warmed39 U.vm ∧ U.heap = h0) (fun _ _ _ _ _ => True) (fun _ U o U' => ∃ v L, o = .returned v ∧ Q_rm14_3 Z a1 a2 a3 kz4 zs5 p6 p7 p8 a9 kz10 zs11 h0 n0 v U'.heap L ∧ FrameEnd U o U' L ({ frames := 3, cells := 0, slots := 0, locals := 47 } : Room).cells ({ frames := 3, cells := 0, slots := 0, locals := 47 } : Room).slots) := by
  refine MetFree.of_bodySF (plainFor_of_name pn_2) hisR ?_
  intro p e s m args below meth c s₁ Bd hml0 hP hK
  obtain ⟨rfl, hZ, hh⟩ := hP
  have hx := Bd.exec
  have hby := Bd.bytes
  have hml : c.maxLocals = 3 := hml0
  have hown : s.vm.findClass "java/lang/AbstractStringBuilder" = some m.cls := findClass_of_methodNamed Bd.named
  have hnm := (name_of_methodNamed Bd.named Bd.method).1
  have X0 : Stand p l e ({ frames := 3, cells := 0, slots := 0, locals := 47 } : Room) s m #[(.ref a1), (.ref a2)] below meth c s₁ [] 0 0 := Stand.of_body Bd
  have e0 : s₁.heap = h0 := by rw [← hh, Bd.state]; rfl
  have N0 := Fr.nil n0
  refine Go.start (P := (fun o U' => ∃ v L, o = .returned v ∧ Q_rm14_3 Z a1 a2 a3 kz4 zs5 p6 p7 p8 a9 kz10 zs11 h0 n0 v U'.heap L ∧ FrameEnd s o U' L ({ frames := 3, cells := 0, slots := 0, locals := 47 } : Room).cells ({ frames := 3, cells := 0, slots := 0, locals := 47 } : Room).slots)) (castTop (g' := (mkF m 0 #[.val (.ref a1), .val (.ref a2), .unset] [])) (by first | rfl | simp [entryFrame, mkF, argsToLocals, Value.category]) (T := s₁)) ?_
  refine Go.st (fun t k => XS.aloadN X0.here hx rfl (hb hby d14_0) rfl rfl k) ?_
  show Go p e below _ (s₁.setTop (mkF m 1 #[.val (.ref a1), .val (.ref a2), .unset] [(.ref a2)]))
  refine Go.st (fun t k => XS.ifnonnullYes X0.here hx rfl (pc0 := 1) (pc' := 9) rfl (hb hby d14_1) rfl (by decide) (by decide) k) ?_
  show Go p e below _ (s₁.setTop (mkF m 9 #[.val (.ref a1), .val (.ref a2), .unset] []))
  refine Go.st (fun t k => XS.aloadN X0.here hx rfl (hb hby d14_9) rfl rfl k) ?_
  show Go p e below _ (s₁.setTop (mkF m 10 #[.val (.ref a1), .val (.ref a2), .unset] [(.ref a2)]))
  obtain ⟨cq1, kq1, q1a, q1b, q1c⟩ := isOf hZ e0 P1
  obtain ⟨_, _, ⟨T1, L1, k1, n1⟩, -, X1, ⟨Lc1, hQ1, l1, y1, z1⟩, st1⟩ := X0.virtualBack hx (y := (⟨"java/lang/String", "length", "()I"⟩ : MethodName)) (z := (⟨"java/lang/String", "length", "()I"⟩ : MethodName)) hown (mvT hZ (w77 hw)) (mvT hZ (w78 hw)) (notFace_of_selects (args := #[]) (mvT hZ (w80 hw))) (mvT hZ (w80 hw)) (mvT hZ (w79 hw)) (by decide) (backOf (W := 0) (rm15_1 l Z a0 hw [] a2 a3 kz4 zs5 p6 p7 h0 n0 O0 P2 P3 P1 P4 P5 P6) hZ (w81 hw) (w13 hw) (by decide) (by decide)) q1a q1c (g := (mkF m 10 #[.val (.ref a1), .val (.ref a2), .unset] [(.ref a2)])) rfl (by rw [hml]; rfl) (Steps.refl _) (argsL := []) (rest := []) (lenOf pd_8 rfl) rfl (by show 2 * 0 + _ ≤ _; exact Nat.le_of_eq rfl) (hb hby d14_10) (fun vm₁ hw₁ => ⟨rfl, e0, (by decide : 0 + 0 ≤ _), (by decide : 0 + 0 ≤ _)⟩)
  dsimp only [Pt.U, Pt.locs, Pt.cells, Pt.slots] at X1 l1 y1 z1 st1 hQ1
  subst l1 y1 z1
  obtain ⟨rfl, M1, eh1⟩ := hQ1
  have N1 := Fr.app N0 M1
  refine Go.tr st1 ?_
  show Go p e below _ (T1.setTop (mkF m 13 #[.val (.ref a1), .val (.ref a2), .unset] [(.int p6)]))
  refine Go.st (fun t k => XS.istoreN X1.here hx rfl (hb hby d14_13) rfl (l' := #[.val (.ref a1), .val (.ref a2), .val (.int p6)]) rfl k) ?_
  show Go p e below _ (T1.setTop (mkF m 14 #[.val (.ref a1), .val (.ref a2), .val (.int p6)] []))
  refine Go.st (fun t k => XS.aloadN X1.here hx rfl (hb hby d14_14) rfl rfl k) ?_
  show Go p e below _ (T1.setTop (mkF m 15 #[.val (.ref a1), .val (.ref a2), .val (.int p6)] [(.ref a1)]))
  refine Go.st (fun t k => XS.aloadN X1.here hx rfl (hb hby d14_15) rfl rfl k) ?_
  show Go p e below _ (T1.setTop (mkF m 16 #[.val (.ref a1), .val (.ref a2), .val (.int p6)] [(.ref a1), (.ref a1)]))
  obtain ⟨T2, X2, e2, st2⟩ := getF X1 hx hZ hown (host := "") (Or.inl (w87 hw)) Via.refl eh1 P7 (g := (mkF m 16 #[.val (.ref a1), .val (.ref a2), .val (.int p6)] [(.ref a1), (.ref a1)])) rfl rfl (hb hby d14_16)
  refine Go.st st2 ?_
  show Go p e below _ (T2.setTop (mkF m 19 #[.val (.ref a1), .val (.ref a2), .val (.int p6)] [(.int p8), (.ref a1)]))
  refine Go.st (fun t k => XS.iloadN X2.here hx rfl (hb hby d14_19) rfl k) ?_
  show Go p e below _ (T2.setTop (mkF m 20 #[.val (.ref a1), .val (.ref a2), .val (.int p6)] [(.int p6), (.int p8), (.ref a1)]))
  refine Go.st (fun t k => XS.iadd X2.here hx rfl (hb hby d14_20) rfl k) ?_
  show Go p e below _ (T2.setTop (mkF m 21 #[.val (.ref a1), .val (.ref a2), .val (.int p6)] [(.int (p8 + p6)), (.ref a1)]))
  obtain ⟨cq3, u3, u3'⟩ := P8.cell
  obtain ⟨_, _, ⟨T3, L3, k3, n3⟩, -, X3, ⟨Lc3, hQ3, l3, y3, z3⟩, st3⟩ := X2.privateBack hx (y := (⟨"java/lang/AbstractStringBuilder", "ensureCapacityInternal", "(I)V"⟩ : MethodName)) hown (mvT hZ (w89 hw)) (mvT hZ (w90 hw)) (own_selP2 hZ (w92 hw) (w91 hw) (w90 hw) (by decide)) (Cond.privateMethod_at (mvP hZ (w91 hw) (args := #[]))) (mvT hZ (w93 hw)) (by decide) (backOf (W := 0) (rm17_1 l Z a0 hw [] a1 (p8 + p6) a9 kz10 zs11 h0 n0 O0 P9 P10 P11 P12) hZ (w93 hw) (w59 hw) (by decide) (by decide)) (g := (mkF m 21 #[.val (.ref a1), .val (.ref a2), .val (.int p6)] [(.int (p8 + p6)), (.ref a1)])) rfl (by rw [hml]; rfl) (Steps.refl _) (a := a1) (by rw [e2]; exact u3) u3' (argsL := [(.int (p8 + p6))]) (rest := []) (lenOf pd_5 rfl) rfl (by show 2 * 0 + _ ≤ _; exact Nat.le_of_eq rfl) (hb hby d14_21) (fun vm₁ hw₁ => ⟨rfl, e2, (by decide : 0 + 0 ≤ _), (by decide : 0 + 0 ≤ _)⟩)
  dsimp only [Pt.U, Pt.locs, Pt.cells, Pt.slots] at X3 l3 y3 z3 st3 hQ3
  subst l3 y3 z3
  obtain ⟨rfl, M3, eh3⟩ := hQ3
  have N3 := Fr.app N1 M3
  refine Go.tr st3 ?_
  show Go p e below _ (T3.setTop (mkF m 24 #[.val (.ref a1), .val (.ref a2), .val (.int p6)] []))
  refine Go.st (fun t k => XS.aloadN X3.here hx rfl (hb hby d14_24) rfl rfl k) ?_
  show Go p e below _ (T3.setTop (mkF m 25 #[.val (.ref a1), .val (.ref a2), .val (.int p6)] [(.ref a1)]))
  refine Go.st (fun t k => XS.aloadN X3.here hx rfl (hb hby d14_25) rfl rfl k) ?_
  show Go p e below _ (T3.setTop (mkF m 26 #[.val (.ref a1), .val (.ref a2), .val (.int p6)] [(.ref a1), (.ref a1)]))
  obtain ⟨T4, X4, e4, st4⟩ := getF X3 hx hZ hown (host := "") (Or.inl (w87 hw)) Via.refl eh3 P7 (g := (mkF m 26 #[.val (.ref a1), .val (.ref a2), .val (.int p6)] [(.ref a1), (.ref a1)])) rfl rfl (hb hby d14_26)
  refine Go.st st4 ?_
  show Go p e below _ (T4.setTop (mkF m 29 #[.val (.ref a1), .val (.ref a2), .val (.int p6)] [(.int p8), (.ref a1)]))
  refine Go.st (fun t k => XS.aloadN X4.here hx rfl (hb hby d14_29) rfl rfl k) ?_
  show Go p e below _ (T4.setTop (mkF m 30 #[.val (.ref a1), .val (.ref a2), .val (.int p6)] [(.ref a2), (.int p8), (.ref a1)]))
  obtain ⟨cq5, u5, u5'⟩ := P8.cell
  obtain ⟨_, _, ⟨T5, L5, k5, n5⟩, -, X5, ⟨Lc5, hQ5, l5, y5, z5⟩, st5⟩ := X4.privateBack hx (y := (⟨"java/lang/AbstractStringBuilder", "putStringAt", "(ILjava/lang/String;)V"⟩ : MethodName)) hown (mvT hZ (w94 hw)) (mvT hZ (w95 hw)) (own_selP2 hZ (w97 hw) (w96 hw) (w95 hw) (by decide)) (Cond.privateMethod_at (mvP hZ (w96 hw) (args := #[]))) (mvT hZ (w98 hw)) (by decide) (backOf (W := 0) (rm18_3 l Z a0 hw [] a1 p8 a2 p7 a9 a3 kz4 zs5 p6 kz10 zs11 h0 n0 O0 P8 P4 P5 P11 P1 P6 P9 P2 P3 P10 P13 P14 P15 P16 P17 P18 P19) hZ (w98 hw) (w59 hw) (by decide) (by decide)) (g := (mkF m 30 #[.val (.ref a1), .val (.ref a2), .val (.int p6)] [(.ref a2), (.int p8), (.ref a1)])) rfl (by rw [hml]; rfl) (Steps.refl _) (a := a1) (by rw [e4]; exact u5) u5' (argsL := [(.int p8), (.ref a2)]) (rest := []) (lenOf pd_11 rfl) rfl (by show 2 * 0 + _ ≤ _; exact Nat.le_of_eq rfl) (hb hby d14_30) (fun vm₁ hw₁ => ⟨rfl, e4, (by decide : 0 + 0 ≤ _), (by decide : 0 + 0 ≤ _)⟩)
  dsimp only [Pt.U, Pt.locs, Pt.cells, Pt.slots] at X5 l5 y5 z5 st5 hQ5
  subst l5 y5 z5
  obtain ⟨rfl, M5, K5c, r5_0, r5_1⟩ := hQ5
  have N5 := Fr.app N3 M5
  have O5 : Old Z n0 T5.heap := O0.keep K5c (allS P13 all0)
  have K5 : Keep h0 T5.heap [a9, a1] := (Keep.refl h0 [a9, a1]).trans K5c (allS (Or.inl (List.mem_of_getElem? (i := 0) rfl)) all0)
  refine Go.tr st5 ?_
  show Go p e below _ (T5.setTop (mkF m 33 #[.val (.ref a1), .val (.ref a2), .val (.int p6)] []))
  refine Go.st (fun t k => XS.aloadN X5.here hx rfl (hb hby d14_33) rfl rfl k) ?_
  show Go p e below _ (T5.setTop (mkF m 34 #[.val (.ref a1), .val (.ref a2), .val (.int p6)] [(.ref a1)]))
  refine Go.st (fun t k => XS.dup X5.here hx rfl (hb hby d14_34) rfl rfl k) ?_
  show Go p e below _ (T5.setTop (mkF m 35 #[.val (.ref a1), .val (.ref a2), .val (.int p6)] [(.ref a1), (.ref a1)]))
  obtain ⟨T6, X6, e6, st6⟩ := getF X5 hx hZ hown (host := "") (Or.inl (w87 hw)) Via.refl rfl (P7.keep K5c (ninS P20 nin0)) (g := (mkF m 35 #[.val (.ref a1), .val (.ref a2), .val (.int p6)] [(.ref a1), (.ref a1)])) rfl rfl (hb hby d14_35)
  refine Go.st st6 ?_
  show Go p e below _ (T6.setTop (mkF m 38 #[.val (.ref a1), .val (.ref a2), .val (.int p6)] [(.int p8), (.ref a1)]))
  refine Go.st (fun t k => XS.iloadN X6.here hx rfl (hb hby d14_38) rfl k) ?_
  show Go p e below _ (T6.setTop (mkF m 39 #[.val (.ref a1), .val (.ref a2), .val (.int p6)] [(.int p6), (.int p8), (.ref a1)]))
  refine Go.st (fun t k => XS.iadd X6.here hx rfl (hb hby d14_39) rfl k) ?_
  show Go p e below _ (T6.setTop (mkF m 40 #[.val (.ref a1), .val (.ref a2), .val (.int p6)] [(.int (p8 + p6)), (.ref a1)]))
  obtain ⟨T7, h7, X7, e7, W7, st7⟩ := putF X6 hx hZ hown (host := "") (Or.inl (w87 hw)) Via.refl e6 (P7.keep K5c (ninS P20 nin0)) (P8.keep K5c) (Or.inl (w88 hw)) (w50 hw) (ty := .int) (by decide) rfl rfl (g := (mkF m 40 #[.val (.ref a1), .val (.ref a2), .val (.int p6)] [(.int (p8 + p6)), (.ref a1)])) rfl rfl (hb hby d14_40)
  have F7 : Fld Z h7 a1 "java/lang/AbstractStringBuilder" "count" "I" (.int (p8 + p6)) := (P7.keep K5c (ninS P20 nin0)).same W7
  have N7 := Fr.snoc X7 N5 P21
  have O7 : Old Z n0 h7 := O5.wr W7 P21
  have K7 : Keep h0 h7 [a9, a1] := K5.wr W7 (Or.inl (List.mem_of_getElem? (i := 1) rfl))
  refine Go.st st7 ?_
  show Go p e below _ (T7.setTop (mkF m 43 #[.val (.ref a1), .val (.ref a2), .val (.int p6)] []))
  refine Go.st (fun t k => XS.aloadN X7.here hx rfl (hb hby d14_43) rfl rfl k) ?_
  show Go p e below _ (T7.setTop (mkF m 44 #[.val (.ref a1), .val (.ref a2), .val (.int p6)] [(.ref a1)]))
  obtain ⟨fs, hr, hrun, hended, hWd, hsame⟩ := X7.leave (v := some (.ref a1)) (fun h => by rw [Bd.returns] at h; cases h)
  have c8 := ((P9.keep K5c (ninS P20 nin0)).other W7 (Or.inr (slot_ne (Or.inl (w64 hw)) (Or.inl (w88 hw)) (by decide) (t := (.array .byte)) (t' := .int) (by decide) (by decide))))
  have c9 := ((P11.keep K5c (ninS P20 nin0)).other W7 (Or.inr (slot_ne (Or.inl (w66 hw)) (Or.inl (w88 hw)) (by decide) (t := .byte) (t' := .int) (by decide) (by decide))))
  refine ⟨_, _, ?_, hrun, hended, _, _, rfl, ?_, ⟨⟨_, rfl⟩, hWd, hsame.mono (by decide) (by decide)⟩⟩
  · exact own_retA X7 hx Bd.returns rfl rfl (hb hby d14_44) hr
  · show Q_rm14_3 Z a1 a2 a3 kz4 zs5 p6 p7 p8 a9 kz10 zs11 h0 n0 _ T7.heap _
    rw [e7]
    exact ⟨rfl, N7, K7, F7, c8, c9, (r5_0.other W7 (Ne.symm P20)), r5_1⟩
def Q_rm13_3 (Z : State) (a1 : Addr) (a2 : Addr) (a3 : Addr) (kz4 : ClassId) (zs5 : List Int32) (p6 : Int32) (p7 : Int32) (p8 : Int32) (a9 : Addr) (kz10 : ClassId) (zs11 : List Int32) (h0 : Heap) (n0 : Nat) (v : Option Value) (h : Heap) (L : List Loc) : Prop := v = some (.ref a1) ∧ Fr n0 L ∧ Keep h0 h [a1, a9] ∧ Fld Z h a1 "java/lang/AbstractStringBuilder" "count" "I" (.int (p8 + p6)) ∧ Fld Z h a1 "java/lang/AbstractStringBuilder" "value" "[B" (.ref a9) ∧ Fld Z h a1 "java/lang/AbstractStringBuilder" "coder" "B" (.int (0 : Int32)) ∧ Arv Z h a9 kz10 .byte (16 : Int32) ((own_put zs11 zs5 (p8).toNatClampNeg (p6).toNatClampNeg).map Value.int) (.int (0 : Int32)) ∧ (own_put zs11 zs5 (p8).toNatClampNeg (p6).toNatClampNeg).length = 16
set_option maxRecDepth 65536 in
set_option maxHeartbeats 40000000 in
theorem rm13_3 (l : Launch) (Z : State) (a0 : Array Value) (hw : ∀ d ∈ tables_1, d.before a0 Z = true) (ws : List Jvm.Cond) (a1 : Addr) (a2 : Addr) (a3 : Addr) (kz4 : ClassId) (zs5 : List Int32) (p6 : Int32) (p7 : Int32) (p8 : Int32) (a9 : Addr) (kz10 : ClassId) (zs11 : List Int32) (h0 : Heap) (n0 : Nat) (O0 : Old Z n0 h0) (P1 : Exa Z h0 a2 "java/lang/String") (P2 : Fld Z h0 a2 "java/lang/String" "value" "[B" (.ref a3)) (P3 : Arv Z h0 a3 kz4 .byte p6 (zs5.map Value.int) (.int (0 : Int32))) (P4 : Sta Z Z.heap "java/lang/String" "COMPACT_STRINGS" "Z" (.int p7)) (P5 : ¬ (p7 = (0 : Int32))) (P6 : Fld Z h0 a2 "java/lang/String" "coder" "B" (.int (0 : Int32))) (P7 : Fld Z h0 a1 "java/lang/AbstractStringBuilder" "count" "I" (.int p8)) (P8 : Exa Z h0 a1 "java/lang/StringBuilder") (P9 : Fld Z h0 a1 "java/lang/AbstractStringBuilder" "value" "[B" (.ref a9)) (P10 : Arv Z h0 a9 kz10 .byte (16 : Int32) (zs11.map Value.int) (.int (0 : Int32))) (P11 : Fld Z h0 a1 "java/lang/AbstractStringBuilder" "coder" "B" (.int (0 : Int32))) (P12 : ¬ ((0 : Int32) < ((p8 + p6) - (16 : Int32)))) (P13 : n0 ≤ a9) (P14 : zs11.length = 16) (P15 : ¬ (p6 < (0 : Int32))) (P16 : ¬ (p8 < (0 : Int32))) (P17 : ¬ ((1000000 : Int32) < p8)) (P18 : ¬ ((1000000 : Int32) < p6)) (P19 : ¬ ((16 : Int32) < (p8 + p6))) (P20 : a1 ≠ a9) (P21 : n0 ≤ a1) :
    MetFree l (⟨"java/lang/StringBuilder", "append", "(Ljava/lang/String;)Ljava/lang/StringBuilder;"⟩ : MethodName) (head1 (Jvm.Cond.code (⟨"java/lang/StringBuilder", "append", "(Ljava/lang/String;)Ljava/lang/StringBuilder;"⟩ : MethodName) jdk_67_method_7_code 2 (some (.object "java/lang/StringBuilder")) :: ws) ({ frames := 4, cells := 0, slots := 0, locals := 61 } : Room)) (fun a U => a = #[(.ref a1), (.ref a2)] ∧ Z.Warmed39 U.vm ∧ U.heap = h0) (fun _ _ _ _ _ => True) (fun _ U o U' => ∃ v L, o = .returned v ∧ Q_rm13_3 Z a1 a2 a3 kz4 zs5 p6 p7 p8 a9 kz10 zs11 h0 n0 v U'.heap L ∧ FrameEnd U o U' L ({ frames := 4, cells := 0, slots := 0, locals := 61 } : Room).cells ({ frames := 4, cells := 0, slots := 0, locals := 61 } : Room).slots) := by
  refine MetFree.of_bodySF (plainFor_of_name pn_3) hisR ?_
  intro p e s m args below meth c s₁ Bd hml0 hP hK
  obtain ⟨rfl, hZ, hh⟩ := hP
  have hx := Bd.exec
  have hby := Bd.bytes
  have hml : c.maxLocals = 2 := hml0
  have hown : s.vm.findClass "java/lang/StringBuilder" = some m.cls := findClass_of_methodNamed Bd.named
  have hnm := (name_of_methodNamed Bd.named Bd.method).1
  have X0 : Stand p l e ({ frames := 4, cells := 0, slots := 0, locals := 61 } : Room) s m #[(.ref a1), (.ref a2)] below meth c s₁ [] 0 0 := Stand.of_body Bd
  have e0 : s₁.heap = h0 := by rw [← hh, Bd.state]; rfl
  have N0 := Fr.nil n0
  refine Go.start (P := (fun o U' => ∃ v L, o = .returned v ∧ Q_rm13_3 Z a1 a2 a3 kz4 zs5 p6 p7 p8 a9 kz10 zs11 h0 n0 v U'.heap L ∧ FrameEnd s o U' L ({ frames := 4, cells := 0, slots := 0, locals := 61 } : Room).cells ({ frames := 4, cells := 0, slots := 0, locals := 61 } : Room).slots)) (castTop (g' := (mkF m 0 #[.val (.ref a1), .val (.ref a2)] [])) (by first | rfl | simp [entryFrame, mkF, argsToLocals, Value.category]) (T := s₁)) ?_
  refine Go.st (fun t k => XS.aloadN X0.here hx rfl (hb hby d13_0) rfl rfl k) ?_
  show Go p e below _ (s₁.setTop (mkF m 1 #[.val (.ref a1), .val (.ref a2)] [(.ref a1)]))
  refine Go.st (fun t k => XS.aloadN X0.here hx rfl (hb hby d13_1) rfl rfl k) ?_
  show Go p e below _ (s₁.setTop (mkF m 2 #[.val (.ref a1), .val (.ref a2)] [(.ref a2), (.ref a1)]))
  obtain ⟨_, _, ⟨T1, L1, k1, n1⟩, -, X1, ⟨Lc1, hQ1, l1, y1, z1⟩, st1⟩ := superBack X0 hx hZ (y := (⟨"java/lang/AbstractStringBuilder", "append", "(Ljava/lang/String;)Ljava/lang/AbstractStringBuilder;"⟩ : MethodName)) hown (w72 hw) (own_sameM (y := (⟨"java/lang/AbstractStringBuilder", "append", "(Ljava/lang/String;)Ljava/lang/AbstractStringBuilder;"⟩ : MethodName)) (w73 hw) (w92 hw) rfl (by decide)) (w73 hw) (w74 hw) (by decide) (backOf (W := 0) (rm14_3 l Z a0 hw [] a1 a2 a3 kz4 zs5 p6 p7 p8 a9 kz10 zs11 h0 n0 O0 P1 P2 P3 P4 P5 P6 P7 P8 P9 P10 P11 P12 P13 P14 P15 P16 P17 P18 P19 P20 P21) hZ (w76 hw) (w59 hw) (by decide) (by decide)) e0 (Ins.self P8) (g := (mkF m 2 #[.val (.ref a1), .val (.ref a2)] [(.ref a2), (.ref a1)])) rfl (by rw [hml]; rfl) (w76 hw) (argsL := [(.ref a2)]) (rest := []) (lenOf pd_12 rfl) rfl (by show 2 * 0 + _ ≤ _; exact Nat.le_of_eq rfl) (hb hby d13_2) (fun vm₁ hw₁ => ⟨rfl, e0, (by decide : 0 + 0 ≤ _), (by decide : 0 + 0 ≤ _)⟩)
  dsimp only [Pt.U, Pt.locs, Pt.cells, Pt.slots] at X1 l1 y1 z1 st1 hQ1
  subst l1 y1 z1
  obtain ⟨rfl, M1, K1c, r1_0, r1_1, r1_2, r1_3, r1_4⟩ := hQ1
  have N1 := Fr.app N0 M1
  have O1 : Old Z n0 T1.heap := O0.keep K1c (allS P13 (allS P21 all0))
  have K1 : Keep h0 T1.heap [a1, a9] := (Keep.refl h0 [a1, a9]).trans K1c (allS (Or.inl (List.mem_of_getElem? (i := 1) rfl)) (allS (Or.inl (List.mem_of_getElem? (i := 0) rfl)) all0))
  refine Go.tr st1 ?_
  show Go p e below _ (T1.setTop (mkF m 5 #[.val (.ref a1), .val (.ref a2)] [(.ref a1)]))
  refine Go.st (fun t k => XS.pop X1.here hx rfl (hb hby d13_5) rfl rfl k) ?_
  show Go p e below _ (T1.setTop (mkF m 6 #[.val (.ref a1), .val (.ref a2)] []))
  refine Go.st (fun t k => XS.aloadN X1.here hx rfl (hb hby d13_6) rfl rfl k) ?_
  show Go p e below _ (T1.setTop (mkF m 7 #[.val (.ref a1), .val (.ref a2)] [(.ref a1)]))
  obtain ⟨fs, hr, hrun, hended, hWd, hsame⟩ := X1.leave (v := some (.ref a1)) (fun h => by rw [Bd.returns] at h; cases h)
  refine ⟨_, _, ?_, hrun, hended, _, _, rfl, ?_, ⟨⟨_, rfl⟩, hWd, hsame.mono (by decide) (by decide)⟩⟩
  · exact own_retA X1 hx Bd.returns rfl rfl (hb hby d13_7) hr
  · show Q_rm13_3 Z a1 a2 a3 kz4 zs5 p6 p7 p8 a9 kz10 zs11 h0 n0 _ T1.heap _
    exact ⟨rfl, N1, K1, r1_0, r1_1, r1_2, r1_3, r1_4⟩
def Q_rm24_1 (Z : State) (a1 : Addr) (a2 : Addr) (h0 : Heap) (n0 : Nat) (v : Option Value) (h : Heap) (L : List Loc) : Prop := v = some (.ref a2) ∧ Fr n0 L ∧ h = h0
set_option maxRecDepth 65536 in
set_option maxHeartbeats 40000000 in
theorem rm24_1 (l : Launch) (Z : State) (a0 : Array Value) (hw : ∀ d ∈ tables_1, d.before a0 Z = true) (ws : List Jvm.Cond) (a1 : Addr) (a2 : Addr) (h0 : Heap) (n0 : Nat) (O0 : Old Z n0 h0) (P1 : Fld Z h0 a1 "java/lang/AbstractStringBuilder" "value" "[B" (.ref a2)) :
    MetFree l (⟨"java/lang/AbstractStringBuilder", "getValue", "()[B"⟩ : MethodName) (head1 (Jvm.Cond.code (⟨"java/lang/AbstractStringBuilder", "getValue", "()[B"⟩ : MethodName) jdk_68_method_64_code 1 (some (.array .byte)) :: ws) ({ frames := 0, cells := 0, slots := 0, locals := 0 } : Room)) (fun a U => a = #[(.ref a1)] ∧ Z.Warmed39 U.vm ∧ U.heap = h0) (fun _ _ _ _ _ => True) (fun _ U o U' => ∃ v L, o = .returned v ∧ Q_rm24_1 Z a1 a2 h0 n0 v U'.heap L ∧ FrameEnd U o U' L ({ frames := 0, cells := 0, slots := 0, locals := 0 } : Room).cells ({ frames := 0, cells := 0, slots := 0, locals := 0 } : Room).slots) := by
  refine MetFree.of_bodySF (plainFor_of_name pn_2) hisR ?_
  intro p e s m args below meth c s₁ Bd hml0 hP hK
  obtain ⟨rfl, hZ, hh⟩ := hP
  have hx := Bd.exec
  have hby := Bd.bytes
  have hml : c.maxLocals = 1 := hml0
  have hown : s.vm.findClass "java/lang/AbstractStringBuilder" = some m.cls := findClass_of_methodNamed Bd.named
  have hnm := (name_of_methodNamed Bd.named Bd.method).1
  have X0 : Stand p l e ({ frames := 0, cells := 0, slots := 0, locals := 0 } : Room) s m #[(.ref a1)] below meth c s₁ [] 0 0 := Stand.of_body Bd
  have e0 : s₁.heap = h0 := by rw [← hh, Bd.state]; rfl
  have N0 := Fr.nil n0
  refine Go.start (P := (fun o U' => ∃ v L, o = .returned v ∧ Q_rm24_1 Z a1 a2 h0 n0 v U'.heap L ∧ FrameEnd s o U' L ({ frames := 0, cells := 0, slots := 0, locals := 0 } : Room).cells ({ frames := 0, cells := 0, slots := 0, locals := 0 } : Room).slots)) (castTop (g' := (mkF m 0 #[.val (.ref a1)] [])) (by first | rfl | simp [entryFrame, mkF, argsToLocals, Value.category]) (T := s₁)) ?_
  refine Go.st (fun t k => XS.aloadN X0.here hx rfl (hb hby d24_0) rfl rfl k) ?_
  show Go p e below _ (s₁.setTop (mkF m 1 #[.val (.ref a1)] [(.ref a1)]))
  obtain ⟨T1, X1, e1, st1⟩ := getF X0 hx hZ hown (host := "") (Or.inl (w63 hw)) Via.refl e0 P1 (g := (mkF m 1 #[.val (.ref a1)] [(.ref a1)])) rfl rfl (hb hby d24_1)
  refine Go.st st1 ?_
  show Go p e below _ (T1.setTop (mkF m 4 #[.val (.ref a1)] [(.ref a2)]))
  obtain ⟨fs, hr, hrun, hended, hWd, hsame⟩ := X1.leave (v := some (.ref a2)) (fun h => by rw [Bd.returns] at h; cases h)
  refine ⟨_, _, ?_, hrun, hended, _, _, rfl, ?_, ⟨⟨_, rfl⟩, hWd, hsame.mono (by decide) (by decide)⟩⟩
  · exact own_retA X1 hx Bd.returns rfl rfl (hb hby d24_4) hr
  · show Q_rm24_1 Z a1 a2 h0 n0 _ T1.heap _
    rw [e1]
    exact ⟨rfl, N0, rfl⟩
def Q_rm26_1 (Z : State) (a1 : Addr) (p2 : Int32) (h0 : Heap) (n0 : Nat) (v : Option Value) (h : Heap) (L : List Loc) : Prop := v = some (.int p2) ∧ Fr n0 L ∧ h = h0
set_option maxRecDepth 65536 in
set_option maxHeartbeats 40000000 in
theorem rm26_1 (l : Launch) (Z : State) (a0 : Array Value) (hw : ∀ d ∈ tables_1, d.before a0 Z = true) (ws : List Jvm.Cond) (a1 : Addr) (p2 : Int32) (h0 : Heap) (n0 : Nat) (O0 : Old Z n0 h0) (P1 : Fld Z h0 a1 "java/lang/AbstractStringBuilder" "count" "I" (.int p2)) :
    MetFree l (⟨"java/lang/AbstractStringBuilder", "length", "()I"⟩ : MethodName) (head1 (Jvm.Cond.code (⟨"java/lang/AbstractStringBuilder", "length", "()I"⟩ : MethodName) jdk_68_method_6_code 1 (some .int) :: ws) ({ frames := 0, cells := 0, slots := 0, locals := 0 } : Room)) (fun a U => a = #[(.ref a1)] ∧ Z.Warmed39 U.vm ∧ U.heap = h0) (fun _ _ _ _ _ => True) (fun _ U o U' => ∃ v L, o = .returned v ∧ Q_rm26_1 Z a1 p2 h0 n0 v U'.heap L ∧ FrameEnd U o U' L ({ frames := 0, cells := 0, slots := 0, locals := 0 } : Room).cells ({ frames := 0, cells := 0, slots := 0, locals := 0 } : Room).slots) := by
  refine MetFree.of_bodySF (plainFor_of_name pn_2) hisR ?_
  intro p e s m args below meth c s₁ Bd hml0 hP hK
  obtain ⟨rfl, hZ, hh⟩ := hP
  have hx := Bd.exec
  have hby := Bd.bytes
  have hml : c.maxLocals = 1 := hml0
  have hown : s.vm.findClass "java/lang/AbstractStringBuilder" = some m.cls := findClass_of_methodNamed Bd.named
  have hnm := (name_of_methodNamed Bd.named Bd.method).1
  have X0 : Stand p l e ({ frames := 0, cells := 0, slots := 0, locals := 0 } : Room) s m #[(.ref a1)] below meth c s₁ [] 0 0 := Stand.of_body Bd
  have e0 : s₁.heap = h0 := by rw [← hh, Bd.state]; rfl
  have N0 := Fr.nil n0
  refine Go.start (P := (fun o U' => ∃ v L, o = .returned v ∧ Q_rm26_1 Z a1 p2 h0 n0 v U'.heap L ∧ FrameEnd s o U' L ({ frames := 0, cells := 0, slots := 0, locals := 0 } : Room).cells ({ frames := 0, cells := 0, slots := 0, locals := 0 } : Room).slots)) (castTop (g' := (mkF m 0 #[.val (.ref a1)] [])) (by first | rfl | simp [entryFrame, mkF, argsToLocals, Value.category]) (T := s₁)) ?_
  refine Go.st (fun t k => XS.aloadN X0.here hx rfl (hb hby d26_0) rfl rfl k) ?_
  show Go p e below _ (s₁.setTop (mkF m 1 #[.val (.ref a1)] [(.ref a1)]))
  obtain ⟨T1, X1, e1, st1⟩ := getF X0 hx hZ hown (host := "") (Or.inl (w87 hw)) Via.refl e0 P1 (g := (mkF m 1 #[.val (.ref a1)] [(.ref a1)])) rfl rfl (hb hby d26_1)
  refine Go.st st1 ?_
  show Go p e below _ (T1.setTop (mkF m 4 #[.val (.ref a1)] [(.int p2)]))
  obtain ⟨fs, hr, hrun, hended, hWd, hsame⟩ := X1.leave (v := some (.int p2)) (fun h => by rw [Bd.returns] at h; cases h)
  refine ⟨_, _, ?_, hrun, hended, _, _, rfl, ?_, ⟨⟨_, rfl⟩, hWd, hsame.mono (by decide) (by decide)⟩⟩
  · exact retI X1 hx Bd.returns (hb hby d26_4) hr
  · show Q_rm26_1 Z a1 p2 h0 n0 _ T1.heap _
    rw [e1]
    exact ⟨rfl, N0, rfl⟩
def Q_rm25_1 (Z : State) (a1 : Addr) (p2 : Int32) (h0 : Heap) (n0 : Nat) (v : Option Value) (h : Heap) (L : List Loc) : Prop := v = some (.int p2) ∧ Fr n0 L ∧ h = h0
set_option maxRecDepth 65536 in
set_option maxHeartbeats 40000000 in
theorem rm25_1 (l : Launch) (Z : State) (a0 : Array Value) (hw : ∀ d ∈ tables_1, d.before a0 Z = true) (ws : List Jvm.Cond) (a1 : Addr) (p2 : Int32) (h0 : Heap) (n0 : Nat) (O0 : Old Z n0 h0) (P1 : Fld Z h0 a1 "java/lang/AbstractStringBuilder" "count" "I" (.int p2)) (P2 : Exa Z h0 a1 "java/lang/StringBuilder") :
    MetFree l (⟨"java/lang/StringBuilder", "length", "()I"⟩ : MethodName) (head1 (Jvm.Cond.code (⟨"java/lang/StringBuilder", "length", "()I"⟩ : MethodName) jdk_67_method_93_code 1 (some .int) :: ws) ({ frames := 1, cells := 0, slots := 0, locals := 12 } : Room)) (fun a U => a = #[(.ref a1)] ∧ Z.Warmed39 U.vm ∧ U.heap = h0) (fun _ _ _ _ _ => True) (fun _ U o U' => ∃ v L, o = .returned v ∧ Q_rm25_1 Z a1 p2 h0 n0 v U'.heap L ∧ FrameEnd U o U' L ({ frames := 1, cells := 0, slots := 0, locals := 12 } : Room).cells ({ frames := 1, cells := 0, slots := 0, locals := 12 } : Room).slots) := by
  refine MetFree.of_bodySF (plainFor_of_name pn_3) hisR ?_
  intro p e s m args below meth c s₁ Bd hml0 hP hK
  obtain ⟨rfl, hZ, hh⟩ := hP
  have hx := Bd.exec
  have hby := Bd.bytes
  have hml : c.maxLocals = 1 := hml0
  have hown : s.vm.findClass "java/lang/StringBuilder" = some m.cls := findClass_of_methodNamed Bd.named
  have hnm := (name_of_methodNamed Bd.named Bd.method).1
  have X0 : Stand p l e ({ frames := 1, cells := 0, slots := 0, locals := 12 } : Room) s m #[(.ref a1)] below meth c s₁ [] 0 0 := Stand.of_body Bd
  have e0 : s₁.heap = h0 := by rw [← hh, Bd.state]; rfl
  have N0 := Fr.nil n0
  refine Go.start (P := (fun o U' => ∃ v L, o = .returned v ∧ Q_rm25_1 Z a1 p2 h0 n0 v U'.heap L ∧ FrameEnd s o U' L ({ frames := 1, cells := 0, slots := 0, locals := 12 } : Room).cells ({ frames := 1, cells := 0, slots := 0, locals := 12 } : Room).slots)) (castTop (g' := (mkF m 0 #[.val (.ref a1)] [])) (by first | rfl | simp [entryFrame, mkF, argsToLocals, Value.category]) (T := s₁)) ?_
  refine Go.st (fun t k => XS.aloadN X0.here hx rfl (hb hby d25_0) rfl rfl k) ?_
  show Go p e below _ (s₁.setTop (mkF m 1 #[.val (.ref a1)] [(.ref a1)]))
  obtain ⟨_, _, ⟨T1, L1, k1, n1⟩, -, X1, ⟨Lc1, hQ1, l1, y1, z1⟩, st1⟩ := superBack X0 hx hZ (y := (⟨"java/lang/AbstractStringBuilder", "length", "()I"⟩ : MethodName)) hown (w138 hw) (own_sameM (y := (⟨"java/lang/AbstractStringBuilder", "length", "()I"⟩ : MethodName)) (w134 hw) (w92 hw) rfl (by decide)) (w134 hw) (w74 hw) (by decide) (backOf (W := 0) (rm26_1 l Z a0 hw [] a1 p2 h0 n0 O0 P1) hZ (w139 hw) (w59 hw) (by decide) (by decide)) e0 (Ins.self P2) (g := (mkF m 1 #[.val (.ref a1)] [(.ref a1)])) rfl (by rw [hml]; rfl) (w139 hw) (argsL := []) (rest := []) (lenOf pd_8 rfl) rfl (by show 2 * 0 + _ ≤ _; exact Nat.le_of_eq rfl) (hb hby d25_1) (fun vm₁ hw₁ => ⟨rfl, e0, (by decide : 0 + 0 ≤ _), (by decide : 0 + 0 ≤ _)⟩)
  dsimp only [Pt.U, Pt.locs, Pt.cells, Pt.slots] at X1 l1 y1 z1 st1 hQ1
  subst l1 y1 z1
  obtain ⟨rfl, M1, eh1⟩ := hQ1
  have N1 := Fr.app N0 M1
  refine Go.tr st1 ?_
  show Go p e below _ (T1.setTop (mkF m 4 #[.val (.ref a1)] [(.int p2)]))
  obtain ⟨fs, hr, hrun, hended, hWd, hsame⟩ := X1.leave (v := some (.int p2)) (fun h => by rw [Bd.returns] at h; cases h)
  refine ⟨_, _, ?_, hrun, hended, _, _, rfl, ?_, ⟨⟨_, rfl⟩, hWd, hsame.mono (by decide) (by decide)⟩⟩
  · exact retI X1 hx Bd.returns (hb hby d25_4) hr
  · show Q_rm25_1 Z a1 p2 h0 n0 _ T1.heap _
    rw [eh1]
    exact ⟨rfl, N1, rfl⟩
def Q_rm27_1 (Z : State) (a1 : Addr) (p2 : Int32) (h0 : Heap) (n0 : Nat) (v : Option Value) (h : Heap) (L : List Loc) : Prop := v = some (.int (1 : Int32)) ∧ Fr n0 L ∧ h = h0
set_option maxRecDepth 65536 in
set_option maxHeartbeats 40000000 in
theorem rm27_1 (l : Launch) (Z : State) (a0 : Array Value) (hw : ∀ d ∈ tables_1, d.before a0 Z = true) (ws : List Jvm.Cond) (a1 : Addr) (p2 : Int32) (h0 : Heap) (n0 : Nat) (O0 : Old Z n0 h0) (P1 : Sta Z Z.heap "java/lang/String" "COMPACT_STRINGS" "Z" (.int p2)) (P2 : ¬ (p2 = (0 : Int32))) (P3 : Fld Z h0 a1 "java/lang/AbstractStringBuilder" "coder" "B" (.int (0 : Int32))) :
    MetFree l (⟨"java/lang/AbstractStringBuilder", "isLatin1", "()Z"⟩ : MethodName) (head1 (Jvm.Cond.code (⟨"java/lang/AbstractStringBuilder", "isLatin1", "()Z"⟩ : MethodName) jdk_68_method_68_code 1 (some .boolean) :: ws) ({ frames := 0, cells := 0, slots := 0, locals := 0 } : Room)) (fun a U => a = #[(.ref a1)] ∧ Z.Warmed39 U.vm ∧ U.heap = h0) (fun _ _ _ _ _ => True) (fun _ U o U' => ∃ v L, o = .returned v ∧ Q_rm27_1 Z a1 p2 h0 n0 v U'.heap L ∧ FrameEnd U o U' L ({ frames := 0, cells := 0, slots := 0, locals := 0 } : Room).cells ({ frames := 0, cells := 0, slots := 0, locals := 0 } : Room).slots) := by
  refine MetFree.of_bodySF (plainFor_of_name pn_2) hisR ?_
  intro p e s m args below meth c s₁ Bd hml0 hP hK
  obtain ⟨rfl, hZ, hh⟩ := hP
  have hx := Bd.exec
  have hby := Bd.bytes
  have hml : c.maxLocals = 1 := hml0
  have hown : s.vm.findClass "java/lang/AbstractStringBuilder" = some m.cls := findClass_of_methodNamed Bd.named
  have hnm := (name_of_methodNamed Bd.named Bd.method).1
  have X0 : Stand p l e ({ frames := 0, cells := 0, slots := 0, locals := 0 } : Room) s m #[(.ref a1)] below meth c s₁ [] 0 0 := Stand.of_body Bd
  have e0 : s₁.heap = h0 := by rw [← hh, Bd.state]; rfl
  have N0 := Fr.nil n0
  refine Go.start (P := (fun o U' => ∃ v L, o = .returned v ∧ Q_rm27_1 Z a1 p2 h0 n0 v U'.heap L ∧ FrameEnd s o U' L ({ frames := 0, cells := 0, slots := 0, locals := 0 } : Room).cells ({ frames := 0, cells := 0, slots := 0, locals := 0 } : Room).slots)) (castTop (g' := (mkF m 0 #[.val (.ref a1)] [])) (by first | rfl | simp [entryFrame, mkF, argsToLocals, Value.category]) (T := s₁)) ?_
  obtain ⟨T1, X1, e1, st1⟩ := getS2 X0 hx hZ hown (host := "") (Or.inl (w62 hw)) Via.refl e0 (P1.ext O0.2) (g := (mkF m 0 #[.val (.ref a1)] [])) rfl (hb hby d27_0)
  refine Go.st st1 ?_
  show Go p e below _ (T1.setTop (mkF m 3 #[.val (.ref a1)] [(.int p2)]))
  refine Go.st (fun t k => XS.ifNo X1.here hx rfl (hb hby d27_3) rfl (Jvm.Free.XT.i0_eq_f P2) k) ?_
  show Go p e below _ (T1.setTop (mkF m 6 #[.val (.ref a1)] []))
  refine Go.st (fun t k => XS.aloadN X1.here hx rfl (hb hby d27_6) rfl rfl k) ?_
  show Go p e below _ (T1.setTop (mkF m 7 #[.val (.ref a1)] [(.ref a1)]))
  obtain ⟨T2, X2, e2, st2⟩ := getF X1 hx hZ hown (host := "") (Or.inl (w65 hw)) Via.refl e1 P3 (g := (mkF m 7 #[.val (.ref a1)] [(.ref a1)])) rfl rfl (hb hby d27_7)
  refine Go.st st2 ?_
  show Go p e below _ (T2.setTop (mkF m 10 #[.val (.ref a1)] [(.int (0 : Int32))]))
  refine Go.st (fun t k => XS.ifNo X2.here hx rfl (hb hby d27_10) rfl (Jvm.Free.XT.i0_ne_f (by decide : (0 : Int32) = (0 : Int32))) k) ?_
  show Go p e below _ (T2.setTop (mkF m 13 #[.val (.ref a1)] []))
  refine Go.st (fun t k => XS.iconst X2.here hx rfl (hb hby d27_13) k) ?_
  show Go p e below _ (T2.setTop (mkF m 14 #[.val (.ref a1)] [(.int (1 : Int32))]))
  refine Go.st (fun t k => XS.goto X2.here hx rfl (pc0 := 14) (pc' := 18) rfl (hb hby d27_14) (by decide) (by decide) k) ?_
  show Go p e below _ (T2.setTop (mkF m 18 #[.val (.ref a1)] [(.int (1 : Int32))]))
  obtain ⟨fs, hr, hrun, hended, hWd, hsame⟩ := X2.leave (v := some (.int (1 : Int32))) (fun h => by rw [Bd.returns] at h; cases h)
  refine ⟨_, _, ?_, hrun, hended, _, _, rfl, ?_, ⟨⟨_, rfl⟩, hWd, hsame.mono (by decide) (by decide)⟩⟩
  · exact retN X2 hx (t := .boolean) Bd.returns (by simp) (hb hby d27_18) hr
  · show Q_rm27_1 Z a1 p2 h0 n0 _ T2.heap _
    rw [e2]
    exact ⟨rfl, N0, rfl⟩
def Q_rm30_1 (Z : State) (p1 : Int32) (h0 : Heap) (n0 : Nat) (v : Option Value) (h : Heap) (L : List Loc) : Prop := v = none ∧ Fr n0 L ∧ h = h0
set_option maxRecDepth 65536 in
set_option maxHeartbeats 40000000 in
theorem rm30_1 (l : Launch) (Z : State) (a0 : Array Value) (hw : ∀ d ∈ tables_1, d.before a0 Z = true) (ws : List Jvm.Cond) (p1 : Int32) (h0 : Heap) (n0 : Nat) (O0 : Old Z n0 h0) (P1 : ¬ (p1 < (0 : Int32))) :
    MetFree l (⟨"java/util/Arrays", "checkLength", "(II)V"⟩ : MethodName) (head1 (Jvm.Cond.code (⟨"java/util/Arrays", "checkLength", "(II)V"⟩ : MethodName) jdk_65_method_131_code 2 none :: ws) ({ frames := 0, cells := 0, slots := 0, locals := 0 } : Room)) (fun a U => a = #[(.int (0 : Int32)), (.int p1)] ∧ Z.Warmed39 U.vm ∧ U.heap = h0) (fun _ _ _ _ _ => True) (fun _ U o U' => ∃ v L, o = .returned v ∧ Q_rm30_1 Z p1 h0 n0 v U'.heap L ∧ FrameEnd U o U' L ({ frames := 0, cells := 0, slots := 0, locals := 0 } : Room).cells ({ frames := 0, cells := 0, slots := 0, locals := 0 } : Room).slots) := by
  refine MetFree.of_bodySF (plainFor_of_name pn_4) hisR ?_
  intro p e s m args below meth c s₁ Bd hml0 hP hK
  obtain ⟨rfl, hZ, hh⟩ := hP
  have hx := Bd.exec
  have hby := Bd.bytes
  have hml : c.maxLocals = 2 := hml0
  have hown : s.vm.findClass "java/util/Arrays" = some m.cls := findClass_of_methodNamed Bd.named
  have hnm := (name_of_methodNamed Bd.named Bd.method).1
  have X0 : Stand p l e ({ frames := 0, cells := 0, slots := 0, locals := 0 } : Room) s m #[(.int (0 : Int32)), (.int p1)] below meth c s₁ [] 0 0 := Stand.of_body Bd
  have e0 : s₁.heap = h0 := by rw [← hh, Bd.state]; rfl
  have N0 := Fr.nil n0
  refine Go.start (P := (fun o U' => ∃ v L, o = .returned v ∧ Q_rm30_1 Z p1 h0 n0 v U'.heap L ∧ FrameEnd s o U' L ({ frames := 0, cells := 0, slots := 0, locals := 0 } : Room).cells ({ frames := 0, cells := 0, slots := 0, locals := 0 } : Room).slots)) (castTop (g' := (mkF m 0 #[.val (.int (0 : Int32)), .val (.int p1)] [])) (by first | rfl | simp [entryFrame, mkF, argsToLocals, Value.category]) (T := s₁)) ?_
  refine Go.st (fun t k => XS.iloadN X0.here hx rfl (hb hby d30_0) rfl k) ?_
  show Go p e below _ (s₁.setTop (mkF m 1 #[.val (.int (0 : Int32)), .val (.int p1)] [(.int p1)]))
  refine Go.st (fun t k => XS.iloadN X0.here hx rfl (hb hby d30_1) rfl k) ?_
  show Go p e below _ (s₁.setTop (mkF m 2 #[.val (.int (0 : Int32)), .val (.int p1)] [(.int (0 : Int32)), (.int p1)]))
  refine Go.st (fun t k => XS.icmpYes X0.here hx rfl (pc0 := 2) (pc' := 37) rfl (hb hby d30_2) rfl (Jvm.Free.XT.ii_ge_t P1) (by decide) (by decide) k) ?_
  show Go p e below _ (s₁.setTop (mkF m 37 #[.val (.int (0 : Int32)), .val (.int p1)] []))
  obtain ⟨fs, hr, hrun, hended, hWd, hsame⟩ := X0.leave (v := none) (fun _ => rfl)
  refine ⟨_, _, ?_, hrun, hended, _, _, rfl, ?_, ⟨⟨_, rfl⟩, hWd, hsame.mono (by decide) (by decide)⟩⟩
  · exact X0.returnOut hx Bd.returns (hb hby d30_37) hr
  · show Q_rm30_1 Z p1 h0 n0 _ s₁.heap _
    rw [e0]
    exact ⟨rfl, N0, rfl⟩
def Q_rm31_1 (Z : State) (p1 : Int32) (h0 : Heap) (n0 : Nat) (v : Option Value) (h : Heap) (L : List Loc) : Prop := v = some (.int p1) ∧ Fr n0 L ∧ h = h0
set_option maxRecDepth 65536 in
set_option maxHeartbeats 40000000 in
theorem rm31_1 (l : Launch) (Z : State) (a0 : Array Value) (hw : ∀ d ∈ tables_1, d.before a0 Z = true) (ws : List Jvm.Cond) (p1 : Int32) (h0 : Heap) (n0 : Nat) (O0 : Old Z n0 h0) (P1 : p1 < (16 : Int32)) :
    MetFree l (⟨"java/lang/Math", "min", "(II)I"⟩ : MethodName) (head1 (Jvm.Cond.code (⟨"java/lang/Math", "min", "(II)I"⟩ : MethodName) jdk_29_method_69_code 2 (some .int) :: ws) ({ frames := 0, cells := 0, slots := 0, locals := 0 } : Room)) (fun a U => a = #[(.int (16 : Int32)), (.int p1)] ∧ Z.Warmed39 U.vm ∧ U.heap = h0) (fun _ _ _ _ _ => True) (fun _ U o U' => ∃ v L, o = .returned v ∧ Q_rm31_1 Z p1 h0 n0 v U'.heap L ∧ FrameEnd U o U' L ({ frames := 0, cells := 0, slots := 0, locals := 0 } : Room).cells ({ frames := 0, cells := 0, slots := 0, locals := 0 } : Room).slots) := by
  refine MetFree.of_bodySF (Jvm.Free.JP.mathPlain rfl (by decide +kernel)) hisR ?_
  intro p e s m args below meth c s₁ Bd hml0 hP hK
  obtain ⟨rfl, hZ, hh⟩ := hP
  have hx := Bd.exec
  have hby := Bd.bytes
  have hml : c.maxLocals = 2 := hml0
  have hown : s.vm.findClass "java/lang/Math" = some m.cls := findClass_of_methodNamed Bd.named
  have hnm := (name_of_methodNamed Bd.named Bd.method).1
  have X0 : Stand p l e ({ frames := 0, cells := 0, slots := 0, locals := 0 } : Room) s m #[(.int (16 : Int32)), (.int p1)] below meth c s₁ [] 0 0 := Stand.of_body Bd
  have e0 : s₁.heap = h0 := by rw [← hh, Bd.state]; rfl
  have N0 := Fr.nil n0
  refine Go.start (P := (fun o U' => ∃ v L, o = .returned v ∧ Q_rm31_1 Z p1 h0 n0 v U'.heap L ∧ FrameEnd s o U' L ({ frames := 0, cells := 0, slots := 0, locals := 0 } : Room).cells ({ frames := 0, cells := 0, slots := 0, locals := 0 } : Room).slots)) (castTop (g' := (mkF m 0 #[.val (.int (16 : Int32)), .val (.int p1)] [])) (by first | rfl | simp [entryFrame, mkF, argsToLocals, Value.category]) (T := s₁)) ?_
  refine Go.st (fun t k => XS.iloadN X0.here hx rfl (hb hby d31_0) rfl k) ?_
  show Go p e below _ (s₁.setTop (mkF m 1 #[.val (.int (16 : Int32)), .val (.int p1)] [(.int (16 : Int32))]))
  refine Go.st (fun t k => XS.iloadN X0.here hx rfl (hb hby d31_1) rfl k) ?_
  show Go p e below _ (s₁.setTop (mkF m 2 #[.val (.int (16 : Int32)), .val (.int p1)] [(.int p1), (.int (16 : Int32))]))
  refine Go.st (fun t k => XS.icmpYes X0.here hx rfl (pc0 := 2) (pc' := 9) rfl (hb hby d31_2) rfl (Jvm.Free.XT.ii_gt_t P1) (by decide) (by decide) k) ?_
  show Go p e below _ (s₁.setTop (mkF m 9 #[.val (.int (16 : Int32)), .val (.int p1)] []))
  refine Go.st (fun t k => XS.iloadN X0.here hx rfl (hb hby d31_9) rfl k) ?_
  show Go p e below _ (s₁.setTop (mkF m 10 #[.val (.int (16 : Int32)), .val (.int p1)] [(.int p1)]))
  obtain ⟨fs, hr, hrun, hended, hWd, hsame⟩ := X0.leave (v := some (.int p1)) (fun h => by rw [Bd.returns] at h; cases h)
  refine ⟨_, _, ?_, hrun, hended, _, _, rfl, ?_, ⟨⟨_, rfl⟩, hWd, hsame.mono (by decide) (by decide)⟩⟩
  · exact retI X0 hx Bd.returns (hb hby d31_10) hr
  · show Q_rm31_1 Z p1 h0 n0 _ s₁.heap _
    rw [e0]
    exact ⟨rfl, N0, rfl⟩
def Q_rm29_1 (Z : State) (a1 : Addr) (p2 : Int32) (kz3 : ClassId) (zs4 : List Int32) (h0 : Heap) (n0 : Nat) (v : Option Value) (h : Heap) (L : List Loc) : Prop := ∃ (b2 : Addr) (k2 : ClassId), v = some (.ref b2) ∧ Fr n0 L ∧ Keep h0 h [] ∧ h0.size ≤ b2 ∧ Arv Z h b2 k2 .byte (p2 - (0 : Int32)) ((own_put (List.replicate ((p2 - (0 : Int32))).toNatClampNeg (0 : Int32)) zs4 0 ((p2 - (0 : Int32))).toNatClampNeg).map Value.int) (.int (0 : Int32)) ∧ (own_put (List.replicate ((p2 - (0 : Int32))).toNatClampNeg (0 : Int32)) zs4 0 ((p2 - (0 : Int32))).toNatClampNeg).length = ((p2 - (0 : Int32))).toNatClampNeg
set_option maxRecDepth 65536 in
set_option maxHeartbeats 40000000 in
theorem rm29_1 (l : Launch) (Z : State) (a0 : Array Value) (hw : ∀ d ∈ tables_1, d.before a0 Z = true) (ws : List Jvm.Cond) (a1 : Addr) (p2 : Int32) (kz3 : ClassId) (zs4 : List Int32) (h0 : Heap) (n0 : Nat) (O0 : Old Z n0 h0) (P1 : ¬ (p2 < (0 : Int32))) (P2 : ¬ ((12 : Int32) < (p2 - (0 : Int32)))) (P3 : ¬ ((p2 - (0 : Int32)) < (0 : Int32))) (P4 : Arv Z h0 a1 kz3 .byte (16 : Int32) (zs4.map Value.int) (.int (0 : Int32))) (P5 : (p2 - (0 : Int32)) < (16 : Int32)) (P6 : ¬ ((16 : Int32) < (p2 - (0 : Int32)))) :
    MetFree l (⟨"java/util/Arrays", "copyOfRangeByte", "([BII)[B"⟩ : MethodName) (head1 (Jvm.Cond.code (⟨"java/util/Arrays", "copyOfRangeByte", "([BII)[B"⟩ : MethodName) jdk_65_method_133_code 5 (some (.array .byte)) :: ws) ({ frames := 1, cells := 1, slots := 12, locals := 18 } : Room)) (fun a U => a = #[(.ref a1), (.int (0 : Int32)), (.int p2)] ∧ Z.Warmed39 U.vm ∧ U.heap = h0) (fun _ _ _ _ _ => True) (fun _ U o U' => ∃ v L, o = .returned v ∧ Q_rm29_1 Z a1 p2 kz3 zs4 h0 n0 v U'.heap L ∧ FrameEnd U o U' L ({ frames := 1, cells := 1, slots := 12, locals := 18 } : Room).cells ({ frames := 1, cells := 1, slots := 12, locals := 18 } : Room).slots) := by
  refine MetFree.of_bodySF (plainFor_of_name pn_4) hisR ?_
  intro p e s m args below meth c s₁ Bd hml0 hP hK
  obtain ⟨rfl, hZ, hh⟩ := hP
  have hx := Bd.exec
  have hby := Bd.bytes
  have hml : c.maxLocals = 5 := hml0
  have hown : s.vm.findClass "java/util/Arrays" = some m.cls := findClass_of_methodNamed Bd.named
  have hnm := (name_of_methodNamed Bd.named Bd.method).1
  have X0 : Stand p l e ({ frames := 1, cells := 1, slots := 12, locals := 18 } : Room) s m #[(.ref a1), (.int (0 : Int32)), (.int p2)] below meth c s₁ [] 0 0 := Stand.of_body Bd
  have e0 : s₁.heap = h0 := by rw [← hh, Bd.state]; rfl
  have N0 := Fr.nil n0
  refine Go.start (P := (fun o U' => ∃ v L, o = .returned v ∧ Q_rm29_1 Z a1 p2 kz3 zs4 h0 n0 v U'.heap L ∧ FrameEnd s o U' L ({ frames := 1, cells := 1, slots := 12, locals := 18 } : Room).cells ({ frames := 1, cells := 1, slots := 12, locals := 18 } : Room).slots)) (castTop (g' := (mkF m 0 #[.val (.ref a1), .val (.int (0 : Int32)), .val (.int p2), .unset, .unset] [])) (by first | rfl | simp [entryFrame, mkF, argsToLocals, Value.category]) (T := s₁)) ?_
  refine Go.st (fun t k => XS.iloadN X0.here hx rfl (hb hby d29_0) rfl k) ?_
  show Go p e below _ (s₁.setTop (mkF m 1 #[.val (.ref a1), .val (.int (0 : Int32)), .val (.int p2), .unset, .unset] [(.int (0 : Int32))]))
  refine Go.st (fun t k => XS.iloadN X0.here hx rfl (hb hby d29_1) rfl k) ?_
  show Go p e below _ (s₁.setTop (mkF m 2 #[.val (.ref a1), .val (.int (0 : Int32)), .val (.int p2), .unset, .unset] [(.int p2), (.int (0 : Int32))]))
  obtain ⟨_, _, ⟨T1, L1, k1, n1⟩, -, X1, ⟨Lc1, hQ1, l1, y1, z1⟩, st1⟩ := Jvm.LawKit.callS X0 hx (y := (⟨"java/util/Arrays", "checkLength", "(II)V"⟩ : MethodName)) hown (mvT hZ (w152 hw)) (mvT hZ (w153 hw)) (mvT hZ (w147 hw)) (mvT hZ (w154 hw)) (by decide) (backOf (W := 0) (rm30_1 l Z a0 hw [] p2 h0 n0 O0 P1) hZ (w154 hw) (w147 hw) (by decide) (by decide)) (g := (mkF m 2 #[.val (.ref a1), .val (.int (0 : Int32)), .val (.int p2), .unset, .unset] [(.int p2), (.int (0 : Int32))])) rfl (by rw [hml]; rfl) (argsL := [(.int (0 : Int32)), (.int p2)]) (rest := []) (lenOf pd_16 rfl) rfl (by show 2 * 0 + _ ≤ _; exact Nat.le_of_eq rfl) (hb hby d29_2) (fun vm₁ hw₁ => ⟨rfl, e0, (by decide : 0 + 0 ≤ _), (by decide : 0 + 0 ≤ _)⟩)
  dsimp only [Pt.U, Pt.locs, Pt.cells, Pt.slots] at X1 l1 y1 z1 st1 hQ1
  subst l1 y1 z1
  obtain ⟨rfl, M1, eh1⟩ := hQ1
  have N1 := Fr.app N0 M1
  refine Go.st st1 ?_
  show Go p e below _ (T1.setTop (mkF m 5 #[.val (.ref a1), .val (.int (0 : Int32)), .val (.int p2), .unset, .unset] []))
  refine Go.st (fun t k => XS.iloadN X1.here hx rfl (hb hby d29_5) rfl k) ?_
  show Go p e below _ (T1.setTop (mkF m 6 #[.val (.ref a1), .val (.int (0 : Int32)), .val (.int p2), .unset, .unset] [(.int p2)]))
  refine Go.st (fun t k => XS.iloadN X1.here hx rfl (hb hby d29_6) rfl k) ?_
  show Go p e below _ (T1.setTop (mkF m 7 #[.val (.ref a1), .val (.int (0 : Int32)), .val (.int p2), .unset, .unset] [(.int (0 : Int32)), (.int p2)]))
  refine Go.st (fun t k => XS.isub X1.here hx rfl (hb hby d29_7) rfl k) ?_
  show Go p e below _ (T1.setTop (mkF m 8 #[.val (.ref a1), .val (.int (0 : Int32)), .val (.int p2), .unset, .unset] [(.int (p2 - (0 : Int32)))]))
  refine Go.st (fun t k => XS.istoreN X1.here hx rfl (hb hby d29_8) rfl (l' := #[.val (.ref a1), .val (.int (0 : Int32)), .val (.int p2), .val (.int (p2 - (0 : Int32))), .unset]) rfl k) ?_
  show Go p e below _ (T1.setTop (mkF m 9 #[.val (.ref a1), .val (.int (0 : Int32)), .val (.int p2), .val (.int (p2 - (0 : Int32))), .unset] []))
  refine Go.st (fun t k => XS.iloadN X1.here hx rfl (hb hby d29_9) rfl k) ?_
  show Go p e below _ (T1.setTop (mkF m 10 #[.val (.ref a1), .val (.int (0 : Int32)), .val (.int p2), .val (.int (p2 - (0 : Int32))), .unset] [(.int (p2 - (0 : Int32)))]))
  obtain ⟨T2, h2, k2, X2, e2, E2, A2, st2⟩ := newP X1 hx hZ (aty := .byte) (w29 hw) eh1 (g := (mkF m 10 #[.val (.ref a1), .val (.int (0 : Int32)), .val (.int p2), .val (.int (p2 - (0 : Int32))), .unset] [(.int (p2 - (0 : Int32)))])) rfl (hb hby d29_10) rfl P3 (cap := 12) (own_cap 12 (12 : Int32) rfl P3 P2) (by decide) (by decide) (by decide)
  obtain ⟨b2, z2⟩ : ∃ z, z = h0.size := ⟨_, rfl⟩
  rw [← z2] at A2 st2
  have g_b2 : n0 ≤ b2 := Nat.le_trans (own_n0 O0) (Nat.le_of_eq z2.symm)
  have s_b2 : h0.size ≤ b2 := Nat.le_trans (Keep.refl h0 []).1 (Nat.le_of_eq z2.symm)
  have V2 : Arv Z h2 b2 k2 .byte (p2 - (0 : Int32)) ((List.replicate ((p2 - (0 : Int32))).toNatClampNeg (0 : Int32)).map Value.int) (.int (0 : Int32)) := (Arv.new A2 P3).pad (own_rp _)
  have LN2 : (List.replicate ((p2 - (0 : Int32))).toNatClampNeg (0 : Int32)).length = ((p2 - (0 : Int32))).toNatClampNeg := List.length_replicate
  have O2 : Old Z n0 h2 := O0.ext E2
  have K2 : Keep h0 h2 [] := (Keep.refl h0 []).ext E2
  refine Go.st st2 ?_
  show Go p e below _ (T2.setTop (mkF m 12 #[.val (.ref a1), .val (.int (0 : Int32)), .val (.int p2), .val (.int (p2 - (0 : Int32))), .unset] [(.ref b2)]))
  refine Go.st (fun t k => XS.astore X2.here hx rfl (hb hby d29_12) rfl rfl (l' := #[.val (.ref a1), .val (.int (0 : Int32)), .val (.int p2), .val (.int (p2 - (0 : Int32))), .val (.ref b2)]) rfl k) ?_
  show Go p e below _ (T2.setTop (mkF m 14 #[.val (.ref a1), .val (.int (0 : Int32)), .val (.int p2), .val (.int (p2 - (0 : Int32))), .val (.ref b2)] []))
  refine Go.st (fun t k => XS.aloadN X2.here hx rfl (hb hby d29_14) rfl rfl k) ?_
  show Go p e below _ (T2.setTop (mkF m 15 #[.val (.ref a1), .val (.int (0 : Int32)), .val (.int p2), .val (.int (p2 - (0 : Int32))), .val (.ref b2)] [(.ref a1)]))
  refine Go.st (fun t k => XS.iloadN X2.here hx rfl (hb hby d29_15) rfl k) ?_
  show Go p e below _ (T2.setTop (mkF m 16 #[.val (.ref a1), .val (.int (0 : Int32)), .val (.int p2), .val (.int (p2 - (0 : Int32))), .val (.ref b2)] [(.int (0 : Int32)), (.ref a1)]))
  refine Go.st (fun t k => XS.aload X2.here hx rfl (hb hby d29_16) rfl rfl k) ?_
  show Go p e below _ (T2.setTop (mkF m 18 #[.val (.ref a1), .val (.int (0 : Int32)), .val (.int p2), .val (.int (p2 - (0 : Int32))), .val (.ref b2)] [(.ref b2), (.int (0 : Int32)), (.ref a1)]))
  refine Go.st (fun t k => XS.iconst X2.here hx rfl (hb hby d29_18) k) ?_
  show Go p e below _ (T2.setTop (mkF m 19 #[.val (.ref a1), .val (.int (0 : Int32)), .val (.int p2), .val (.int (p2 - (0 : Int32))), .val (.ref b2)] [(.int (0 : Int32)), (.ref b2), (.int (0 : Int32)), (.ref a1)]))
  refine Go.st (fun t k => XS.aloadN X2.here hx rfl (hb hby d29_19) rfl rfl k) ?_
  show Go p e below _ (T2.setTop (mkF m 20 #[.val (.ref a1), .val (.int (0 : Int32)), .val (.int p2), .val (.int (p2 - (0 : Int32))), .val (.ref b2)] [(.ref a1), (.int (0 : Int32)), (.ref b2), (.int (0 : Int32)), (.ref a1)]))
  obtain ⟨cl3, Ar3, -, S3, M3, -, -⟩ := id (P4.ext E2)
  refine Go.st (fun t k => X2.arraylength hx (by rw [e2]; exact Ar3.1) (State.isArrayOf_alike hZ.alike Ar3.2.1) (g := (mkF m 20 #[.val (.ref a1), .val (.int (0 : Int32)), .val (.int p2), .val (.int (p2 - (0 : Int32))), .val (.ref b2)] [(.ref a1), (.int (0 : Int32)), (.ref b2), (.int (0 : Int32)), (.ref a1)])) rfl rfl (hb hby d29_20) t k) ?_
  rw [len_of S3 M3]
  show Go p e below _ (T2.setTop (mkF m 21 #[.val (.ref a1), .val (.int (0 : Int32)), .val (.int p2), .val (.int (p2 - (0 : Int32))), .val (.ref b2)] [(.int (16 : Int32)), (.int (0 : Int32)), (.ref b2), (.int (0 : Int32)), (.ref a1)]))
  refine Go.st (fun t k => XS.iloadN X2.here hx rfl (hb hby d29_21) rfl k) ?_
  show Go p e below _ (T2.setTop (mkF m 22 #[.val (.ref a1), .val (.int (0 : Int32)), .val (.int p2), .val (.int (p2 - (0 : Int32))), .val (.ref b2)] [(.int (0 : Int32)), (.int (16 : Int32)), (.int (0 : Int32)), (.ref b2), (.int (0 : Int32)), (.ref a1)]))
  refine Go.st (fun t k => XS.isub X2.here hx rfl (hb hby d29_22) rfl k) ?_
  show Go p e below _ (T2.setTop (mkF m 23 #[.val (.ref a1), .val (.int (0 : Int32)), .val (.int p2), .val (.int (p2 - (0 : Int32))), .val (.ref b2)] [(.int (16 : Int32)), (.int (0 : Int32)), (.ref b2), (.int (0 : Int32)), (.ref a1)]))
  refine Go.st (fun t k => XS.iloadN X2.here hx rfl (hb hby d29_23) rfl k) ?_
  show Go p e below _ (T2.setTop (mkF m 24 #[.val (.ref a1), .val (.int (0 : Int32)), .val (.int p2), .val (.int (p2 - (0 : Int32))), .val (.ref b2)] [(.int (p2 - (0 : Int32))), (.int (16 : Int32)), (.int (0 : Int32)), (.ref b2), (.int (0 : Int32)), (.ref a1)]))
  obtain ⟨_, _, ⟨T4, L4, k4, n4⟩, -, X4, ⟨Lc4, hQ4, l4, y4, z4⟩, st4⟩ := Jvm.LawKit.callS X2 hx (y := (⟨"java/lang/Math", "min", "(II)I"⟩ : MethodName)) hown (mvT hZ (w155 hw)) (mvT hZ (w156 hw)) (mvT hZ (w157 hw)) (mvT hZ (w158 hw)) (by decide) (backOf (W := 4) (rm31_1 l Z a0 hw [] (p2 - (0 : Int32)) h2 n0 O2 P5) hZ (w158 hw) (w157 hw) (by decide) (by decide)) (g := (mkF m 24 #[.val (.ref a1), .val (.int (0 : Int32)), .val (.int p2), .val (.int (p2 - (0 : Int32))), .val (.ref b2)] [(.int (p2 - (0 : Int32))), (.int (16 : Int32)), (.int (0 : Int32)), (.ref b2), (.int (0 : Int32)), (.ref a1)])) rfl (by rw [hml]; rfl) (argsL := [(.int (16 : Int32)), (.int (p2 - (0 : Int32)))]) (rest := [(.int (0 : Int32)), (.ref b2), (.int (0 : Int32)), (.ref a1)]) (lenOf pd_17 rfl) rfl (by show 2 * 0 + _ ≤ _; exact Nat.le_of_eq rfl) (hb hby d29_24) (fun vm₁ hw₁ => ⟨rfl, e2, (by decide : 1 + 0 ≤ _), (by decide : 12 + 0 ≤ _)⟩)
  dsimp only [Pt.U, Pt.locs, Pt.cells, Pt.slots] at X4 l4 y4 z4 st4 hQ4
  subst l4 y4 z4
  obtain ⟨rfl, M4, eh4⟩ := hQ4
  have N4 := Fr.app N1 M4
  refine Go.st st4 ?_
  show Go p e below _ (T4.setTop (mkF m 27 #[.val (.ref a1), .val (.int (0 : Int32)), .val (.int p2), .val (.int (p2 - (0 : Int32))), .val (.ref b2)] [(.int (p2 - (0 : Int32))), (.int (0 : Int32)), (.ref b2), (.int (0 : Int32)), (.ref a1)]))
  have g55 : ((0 : Int32)).toNatClampNeg + ((p2 - (0 : Int32))).toNatClampNeg ≤ ((p2 - (0 : Int32))).toNatClampNeg := (own_cl0 P3 (fun q => Int32.lt_irrefl q))
  have l55 : ((0 : Int32)).toNatClampNeg + ((p2 - (0 : Int32))).toNatClampNeg ≤ (List.replicate ((p2 - (0 : Int32))).toNatClampNeg (0 : Int32)).length := Nat.le_trans g55 (Nat.le_of_eq LN2.symm)
  obtain ⟨T5, h5, L5, X5, e5, N5, K5c, V50, st5⟩ := cpA X4 hx hZ hown (w159 hw) (w113 hw) (w111 hw) (w112 hw) eh4 (P4.ext E2) V2 (Or.inl ⟨rfl, rfl⟩) (sp := (0 : Int32)) (dp := (0 : Int32)) (nn := (p2 - (0 : Int32))) (by decide) (by decide : ¬ ((0 : Int32) < (0 : Int32))) P3 (own_cl0 P3 P6) g55 rfl (by rw [List.length_map]; exact l55) N4 g_b2 (g := (mkF m 27 #[.val (.ref a1), .val (.int (0 : Int32)), .val (.int p2), .val (.int (p2 - (0 : Int32))), .val (.ref b2)] [(.int (p2 - (0 : Int32))), (.int (0 : Int32)), (.ref b2), (.int (0 : Int32)), (.ref a1)])) rfl (by rw [hml]; rfl) (rest := []) rfl (hb hby d29_27) (by decide) (W := 0) (by show 2 * 0 + _ ≤ _; exact Nat.le_of_eq rfl) (by decide)
  have V5 : Arv Z h5 b2 k2 .byte (p2 - (0 : Int32)) ((own_put (List.replicate ((p2 - (0 : Int32))).toNatClampNeg (0 : Int32)) zs4 0 ((p2 - (0 : Int32))).toNatClampNeg).map Value.int) (.int (0 : Int32)) := own_putM (List.replicate ((p2 - (0 : Int32))).toNatClampNeg (0 : Int32)) zs4 _ _ _ rfl ▸ V50
  have LN5 : (own_put (List.replicate ((p2 - (0 : Int32))).toNatClampNeg (0 : Int32)) zs4 0 ((p2 - (0 : Int32))).toNatClampNeg).length = ((p2 - (0 : Int32))).toNatClampNeg := (own_putL l55).trans LN2
  have O5 : Old Z n0 h5 := O2.keep K5c (allS g_b2 all0)
  have K5 : Keep h0 h5 [] := K2.trans K5c (allS (Or.inr s_b2) all0)
  refine Go.st st5 ?_
  show Go p e below _ (T5.setTop (mkF m 30 #[.val (.ref a1), .val (.int (0 : Int32)), .val (.int p2), .val (.int (p2 - (0 : Int32))), .val (.ref b2)] []))
  refine Go.st (fun t k => XS.aload X5.here hx rfl (hb hby d29_30) rfl rfl k) ?_
  show Go p e below _ (T5.setTop (mkF m 32 #[.val (.ref a1), .val (.int (0 : Int32)), .val (.int p2), .val (.int (p2 - (0 : Int32))), .val (.ref b2)] [(.ref b2)]))
  obtain ⟨fs, hr, hrun, hended, hWd, hsame⟩ := X5.leave (v := some (.ref b2)) (fun h => by rw [Bd.returns] at h; cases h)
  refine ⟨_, _, ?_, hrun, hended, _, _, rfl, ?_, ⟨⟨_, rfl⟩, hWd, hsame.mono (by decide) (by decide)⟩⟩
  · exact own_retA X5 hx Bd.returns rfl rfl (hb hby d29_32) hr
  · show Q_rm29_1 Z a1 p2 kz3 zs4 h0 n0 _ T5.heap _
    rw [e5]
    exact ⟨b2, k2, rfl, N5, K5, s_b2, V5, LN5⟩
def Q_rm28_1 (Z : State) (a1 : Addr) (p2 : Int32) (kz3 : ClassId) (zs4 : List Int32) (h0 : Heap) (n0 : Nat) (v : Option Value) (h : Heap) (L : List Loc) : Prop := ∃ (b2_2 : Addr) (k2_2 : ClassId), v = some (.ref b2_2) ∧ Fr n0 L ∧ Keep h0 h [] ∧ h0.size ≤ b2_2 ∧ Arv Z h b2_2 k2_2 .byte (p2 - (0 : Int32)) ((own_put (List.replicate ((p2 - (0 : Int32))).toNatClampNeg (0 : Int32)) zs4 0 ((p2 - (0 : Int32))).toNatClampNeg).map Value.int) (.int (0 : Int32)) ∧ (own_put (List.replicate ((p2 - (0 : Int32))).toNatClampNeg (0 : Int32)) zs4 0 ((p2 - (0 : Int32))).toNatClampNeg).length = ((p2 - (0 : Int32))).toNatClampNeg
set_option maxRecDepth 65536 in
set_option maxHeartbeats 40000000 in
theorem rm28_1 (l : Launch) (Z : State) (a0 : Array Value) (hw : ∀ d ∈ tables_1, d.before a0 Z = true) (ws : List Jvm.Cond) (a1 : Addr) (p2 : Int32) (kz3 : ClassId) (zs4 : List Int32) (h0 : Heap) (n0 : Nat) (O0 : Old Z n0 h0) (P1 : Arv Z h0 a1 kz3 .byte (16 : Int32) (zs4.map Value.int) (.int (0 : Int32))) (P2 : ¬ (p2 = (16 : Int32))) (P3 : ¬ (p2 < (0 : Int32))) (P4 : ¬ ((12 : Int32) < (p2 - (0 : Int32)))) (P5 : ¬ ((p2 - (0 : Int32)) < (0 : Int32))) (P6 : (p2 - (0 : Int32)) < (16 : Int32)) (P7 : ¬ ((16 : Int32) < (p2 - (0 : Int32)))) :
    MetFree l (⟨"java/util/Arrays", "copyOfRange", "([BII)[B"⟩ : MethodName) (head1 (Jvm.Cond.code (⟨"java/util/Arrays", "copyOfRange", "([BII)[B"⟩ : MethodName) jdk_65_method_132_code 3 (some (.array .byte)) :: ws) ({ frames := 2, cells := 1, slots := 12, locals := 34 } : Room)) (fun a U => a = #[(.ref a1), (.int (0 : Int32)), (.int p2)] ∧ Z.Warmed39 U.vm ∧ U.heap = h0) (fun _ _ _ _ _ => True) (fun _ U o U' => ∃ v L, o = .returned v ∧ Q_rm28_1 Z a1 p2 kz3 zs4 h0 n0 v U'.heap L ∧ FrameEnd U o U' L ({ frames := 2, cells := 1, slots := 12, locals := 34 } : Room).cells ({ frames := 2, cells := 1, slots := 12, locals := 34 } : Room).slots) := by
  refine MetFree.of_bodySF (plainFor_of_name pn_4) hisR ?_
  intro p e s m args below meth c s₁ Bd hml0 hP hK
  obtain ⟨rfl, hZ, hh⟩ := hP
  have hx := Bd.exec
  have hby := Bd.bytes
  have hml : c.maxLocals = 3 := hml0
  have hown : s.vm.findClass "java/util/Arrays" = some m.cls := findClass_of_methodNamed Bd.named
  have hnm := (name_of_methodNamed Bd.named Bd.method).1
  have X0 : Stand p l e ({ frames := 2, cells := 1, slots := 12, locals := 34 } : Room) s m #[(.ref a1), (.int (0 : Int32)), (.int p2)] below meth c s₁ [] 0 0 := Stand.of_body Bd
  have e0 : s₁.heap = h0 := by rw [← hh, Bd.state]; rfl
  have N0 := Fr.nil n0
  refine Go.start (P := (fun o U' => ∃ v L, o = .returned v ∧ Q_rm28_1 Z a1 p2 kz3 zs4 h0 n0 v U'.heap L ∧ FrameEnd s o U' L ({ frames := 2, cells := 1, slots := 12, locals := 34 } : Room).cells ({ frames := 2, cells := 1, slots := 12, locals := 34 } : Room).slots)) (castTop (g' := (mkF m 0 #[.val (.ref a1), .val (.int (0 : Int32)), .val (.int p2)] [])) (by first | rfl | simp [entryFrame, mkF, argsToLocals, Value.category]) (T := s₁)) ?_
  refine Go.st (fun t k => XS.iloadN X0.here hx rfl (hb hby d28_0) rfl k) ?_
  show Go p e below _ (s₁.setTop (mkF m 1 #[.val (.ref a1), .val (.int (0 : Int32)), .val (.int p2)] [(.int (0 : Int32))]))
  refine Go.st (fun t k => XS.ifNo X0.here hx rfl (hb hby d28_1) rfl (Jvm.Free.XT.i0_ne_f (by decide : (0 : Int32) = (0 : Int32))) k) ?_
  show Go p e below _ (s₁.setTop (mkF m 4 #[.val (.ref a1), .val (.int (0 : Int32)), .val (.int p2)] []))
  refine Go.st (fun t k => XS.iloadN X0.here hx rfl (hb hby d28_4) rfl k) ?_
  show Go p e below _ (s₁.setTop (mkF m 5 #[.val (.ref a1), .val (.int (0 : Int32)), .val (.int p2)] [(.int p2)]))
  refine Go.st (fun t k => XS.aloadN X0.here hx rfl (hb hby d28_5) rfl rfl k) ?_
  show Go p e below _ (s₁.setTop (mkF m 6 #[.val (.ref a1), .val (.int (0 : Int32)), .val (.int p2)] [(.ref a1), (.int p2)]))
  obtain ⟨cl1, Ar1, -, S1, M1, -, -⟩ := id P1
  refine Go.st (fun t k => X0.arraylength hx (by rw [e0]; exact Ar1.1) (State.isArrayOf_alike hZ.alike Ar1.2.1) (g := (mkF m 6 #[.val (.ref a1), .val (.int (0 : Int32)), .val (.int p2)] [(.ref a1), (.int p2)])) rfl rfl (hb hby d28_6) t k) ?_
  rw [len_of S1 M1]
  show Go p e below _ (s₁.setTop (mkF m 7 #[.val (.ref a1), .val (.int (0 : Int32)), .val (.int p2)] [(.int (16 : Int32)), (.int p2)]))
  refine Go.st (fun t k => XS.icmpNo X0.here hx rfl (hb hby d28_7) rfl (Jvm.Free.XT.ii_eq_f P2) k) ?_
  show Go p e below _ (s₁.setTop (mkF m 10 #[.val (.ref a1), .val (.int (0 : Int32)), .val (.int p2)] []))
  refine Go.st (fun t k => XS.aloadN X0.here hx rfl (hb hby d28_10) rfl rfl k) ?_
  show Go p e below _ (s₁.setTop (mkF m 11 #[.val (.ref a1), .val (.int (0 : Int32)), .val (.int p2)] [(.ref a1)]))
  refine Go.st (fun t k => XS.iloadN X0.here hx rfl (hb hby d28_11) rfl k) ?_
  show Go p e below _ (s₁.setTop (mkF m 12 #[.val (.ref a1), .val (.int (0 : Int32)), .val (.int p2)] [(.int (0 : Int32)), (.ref a1)]))
  refine Go.st (fun t k => XS.iloadN X0.here hx rfl (hb hby d28_12) rfl k) ?_
  show Go p e below _ (s₁.setTop (mkF m 13 #[.val (.ref a1), .val (.int (0 : Int32)), .val (.int p2)] [(.int p2), (.int (0 : Int32)), (.ref a1)]))
  obtain ⟨_, _, ⟨T2, L2, k2, n2⟩, -, X2, ⟨Lc2, hQ2, l2, y2, z2⟩, st2⟩ := Jvm.LawKit.callS X0 hx (y := (⟨"java/util/Arrays", "copyOfRangeByte", "([BII)[B"⟩ : MethodName)) hown (mvT hZ (w149 hw)) (mvT hZ (w150 hw)) (mvT hZ (w147 hw)) (mvT hZ (w151 hw)) (by decide) (backOf (W := 0) (rm29_1 l Z a0 hw [] a1 p2 kz3 zs4 h0 n0 O0 P3 P4 P5 P1 P6 P7) hZ (w151 hw) (w147 hw) (by decide) (by decide)) (g := (mkF m 13 #[.val (.ref a1), .val (.int (0 : Int32)), .val (.int p2)] [(.int p2), (.int (0 : Int32)), (.ref a1)])) rfl (by rw [hml]; rfl) (argsL := [(.ref a1), (.int (0 : Int32)), (.int p2)]) (rest := []) (lenOf pd_18 rfl) rfl (by show 2 * 0 + _ ≤ _; exact Nat.le_of_eq rfl) (hb hby d28_13) (fun vm₁ hw₁ => ⟨rfl, e0, (by decide : 0 + 1 ≤ _), (by decide : 0 + 12 ≤ _)⟩)
  dsimp only [Pt.U, Pt.locs, Pt.cells, Pt.slots] at X2 l2 y2 z2 st2 hQ2
  subst l2 y2 z2
  obtain ⟨b2_2, k2_2, rfl, M2, K2c, r2_0, r2_1, r2_2⟩ := hQ2
  have N2 := Fr.app N0 M2
  have g_b2_2 : n0 ≤ b2_2 := Nat.le_trans (own_n0 O0) r2_0
  have s_b2_2 : h0.size ≤ b2_2 := Nat.le_trans (Keep.refl h0 []).1 r2_0
  have O2 : Old Z n0 T2.heap := O0.keep K2c all0
  have K2 : Keep h0 T2.heap [] := (Keep.refl h0 []).trans K2c all0
  refine Go.st st2 ?_
  show Go p e below _ (T2.setTop (mkF m 16 #[.val (.ref a1), .val (.int (0 : Int32)), .val (.int p2)] [(.ref b2_2)]))
  obtain ⟨fs, hr, hrun, hended, hWd, hsame⟩ := X2.leave (v := some (.ref b2_2)) (fun h => by rw [Bd.returns] at h; cases h)
  refine ⟨_, _, ?_, hrun, hended, _, _, rfl, ?_, ⟨⟨_, rfl⟩, hWd, hsame.mono (by decide) (by decide)⟩⟩
  · exact own_retA X2 hx Bd.returns rfl rfl (hb hby d28_16) hr
  · show Q_rm28_1 Z a1 p2 kz3 zs4 h0 n0 _ T2.heap _
    exact ⟨b2_2, k2_2, rfl, N2, K2, s_b2_2, r2_1, r2_2⟩
def Q_rm23_1 (Z : State) (a1 : Addr) (a2 : Addr) (a3 : Addr) (p4 : Int32) (p5 : Int32) (kz6 : ClassId) (zs7 : List Int32) (h0 : Heap) (n0 : Nat) (v : Option Value) (h : Heap) (L : List Loc) : Prop := ∃ (b2_2_6 : Addr) (k2_2_6 : ClassId), v = none ∧ Fr n0 L ∧ Keep h0 h [a1] ∧ h0.size ≤ b2_2_6 ∧ Fld Z h a1 "java/lang/String" "coder" "B" (.int (0 : Int32)) ∧ Fld Z h a1 "java/lang/String" "value" "[B" (.ref b2_2_6) ∧ Arv Z h b2_2_6 k2_2_6 .byte (p4 - (0 : Int32)) ((own_put (List.replicate ((p4 - (0 : Int32))).toNatClampNeg (0 : Int32)) zs7 0 ((p4 - (0 : Int32))).toNatClampNeg).map Value.int) (.int (0 : Int32)) ∧ (own_put (List.replicate ((p4 - (0 : Int32))).toNatClampNeg (0 : Int32)) zs7 0 ((p4 - (0 : Int32))).toNatClampNeg).length = ((p4 - (0 : Int32))).toNatClampNeg
set_option maxRecDepth 65536 in
set_option maxHeartbeats 40000000 in
theorem rm23_1 (l : Launch) (Z : State) (a0 : Array Value) (hw : ∀ d ∈ tables_1, d.before a0 Z = true) (ws : List Jvm.Cond) (a1 : Addr) (a2 : Addr) (a3 : Addr) (p4 : Int32) (p5 : Int32) (kz6 : ClassId) (zs7 : List Int32) (h0 : Heap) (n0 : Nat) (O0 : Old Z n0 h0) (P1 : Exa Z h0 a2 "java/lang/StringBuilder") (P2 : Fld Z h0 a2 "java/lang/AbstractStringBuilder" "value" "[B" (.ref a3)) (P3 : Fld Z h0 a2 "java/lang/AbstractStringBuilder" "count" "I" (.int p4)) (P4 : Sta Z Z.heap "java/lang/String" "COMPACT_STRINGS" "Z" (.int p5)) (P5 : ¬ (p5 = (0 : Int32))) (P6 : Fld Z h0 a2 "java/lang/AbstractStringBuilder" "coder" "B" (.int (0 : Int32))) (P7 : Exa Z h0 a1 "java/lang/String") (P8 : Fld Z h0 a1 "java/lang/String" "coder" "B" (.int (0 : Int32))) (P9 : n0 ≤ a1) (P10 : Arv Z h0 a3 kz6 .byte (16 : Int32) (zs7.map Value.int) (.int (0 : Int32))) (P11 : ¬ (p4 = (16 : Int32))) (P12 : ¬ (p4 < (0 : Int32))) (P13 : ¬ ((12 : Int32) < (p4 - (0 : Int32)))) (P14 : ¬ ((p4 - (0 : Int32)) < (0 : Int32))) (P15 : (p4 - (0 : Int32)) < (16 : Int32)) (P16 : ¬ ((16 : Int32) < (p4 - (0 : Int32)))) (P17 : a3 ≠ a1) (P18 : Fld Z h0 a1 "java/lang/String" "value" "[B" .null) :
    MetFree l (⟨"java/lang/String", "<init>", "(Ljava/lang/AbstractStringBuilder;Ljava/lang/Void;)V"⟩ : MethodName) (head1 (Jvm.Cond.code (⟨"java/lang/String", "<init>", "(Ljava/lang/AbstractStringBuilder;Ljava/lang/Void;)V"⟩ : MethodName) jdk_42_method_150_code 5 none :: ws) ({ frames := 3, cells := 1, slots := 12, locals := 49 } : Room)) (fun a U => a = #[(.ref a1), (.ref a2), .null] ∧ Z.Warmed39 U.vm ∧ U.heap = h0) (fun _ _ _ _ _ => True) (fun _ U o U' => ∃ v L, o = .returned v ∧ Q_rm23_1 Z a1 a2 a3 p4 p5 kz6 zs7 h0 n0 v U'.heap L ∧ FrameEnd U o U' L ({ frames := 3, cells := 1, slots := 12, locals := 49 } : Room).cells ({ frames := 3, cells := 1, slots := 12, locals := 49 } : Room).slots) := by
  refine MetFree.of_bodySF (plainFor_of_name pn_1) hisR ?_
  intro p e s m args below meth c s₁ Bd hml0 hP hK
  obtain ⟨rfl, hZ, hh⟩ := hP
  have hx := Bd.exec
  have hby := Bd.bytes
  have hml : c.maxLocals = 5 := hml0
  have hown : s.vm.findClass "java/lang/String" = some m.cls := findClass_of_methodNamed Bd.named
  have hnm := (name_of_methodNamed Bd.named Bd.method).1
  have X0 : Stand p l e ({ frames := 3, cells := 1, slots := 12, locals := 49 } : Room) s m #[(.ref a1), (.ref a2), .null] below meth c s₁ [] 0 0 := Stand.of_body Bd
  have e0 : s₁.heap = h0 := by rw [← hh, Bd.state]; rfl
  have N0 := Fr.nil n0
  refine Go.start (P := (fun o U' => ∃ v L, o = .returned v ∧ Q_rm23_1 Z a1 a2 a3 p4 p5 kz6 zs7 h0 n0 v U'.heap L ∧ FrameEnd s o U' L ({ frames := 3, cells := 1, slots := 12, locals := 49 } : Room).cells ({ frames := 3, cells := 1, slots := 12, locals := 49 } : Room).slots)) (castTop (g' := (mkF m 0 #[.val (.ref a1), .val (.ref a2), .val .null, .unset, .unset] [])) (by first | rfl | simp [entryFrame, mkF, argsToLocals, Value.category]) (T := s₁)) ?_
  refine Go.st (fun t k => XS.aloadN X0.here hx rfl (hb hby d23_0) rfl rfl k) ?_
  show Go p e below _ (s₁.setTop (mkF m 1 #[.val (.ref a1), .val (.ref a2), .val .null, .unset, .unset] [(.ref a1)]))
  obtain ⟨T1, X1, e1, st1⟩ := initO X0 hx hZ hown (w21 hw) (w22 hw) (w23 hw) e0 (g := (mkF m 1 #[.val (.ref a1), .val (.ref a2), .val .null, .unset, .unset] [(.ref a1)])) rfl (by rw [hml]; rfl) rfl (hb hby d23_1) (by decide) (W := 0) (by show 2 * 0 + _ ≤ _; exact Nat.le_of_eq rfl) (by decide)
  refine Go.st st1 ?_
  show Go p e below _ (T1.setTop (mkF m 4 #[.val (.ref a1), .val (.ref a2), .val .null, .unset, .unset] []))
  refine Go.st (fun t k => XS.aloadN X1.here hx rfl (hb hby d23_4) rfl rfl k) ?_
  show Go p e below _ (T1.setTop (mkF m 5 #[.val (.ref a1), .val (.ref a2), .val .null, .unset, .unset] [(.ref a2)]))
  obtain ⟨cq2, kq2, q2a, q2b, q2c⟩ := isOf hZ e1 P1
  obtain ⟨_, _, ⟨T2, L2, k2, n2⟩, -, X2, ⟨Lc2, hQ2, l2, y2, z2⟩, st2⟩ := X1.virtualBack hx (y := (⟨"java/lang/AbstractStringBuilder", "getValue", "()[B"⟩ : MethodName)) (z := (⟨"java/lang/AbstractStringBuilder", "getValue", "()[B"⟩ : MethodName)) hown (mvT hZ (w127 hw)) (mvT hZ (w128 hw)) (notFace_of_selects (args := #[]) (mvT hZ (w130 hw))) (mvT hZ (w130 hw)) (mvT hZ (w129 hw)) (by decide) (backOf (W := 0) (rm24_1 l Z a0 hw [] a2 a3 h0 n0 O0 P2) hZ (w131 hw) (w59 hw) (by decide) (by decide)) q2a q2c (g := (mkF m 5 #[.val (.ref a1), .val (.ref a2), .val .null, .unset, .unset] [(.ref a2)])) rfl (by rw [hml]; rfl) (Steps.refl _) (argsL := []) (rest := []) (lenOf pd_14 rfl) rfl (by show 2 * 0 + _ ≤ _; exact Nat.le_of_eq rfl) (hb hby d23_5) (fun vm₁ hw₁ => ⟨rfl, e1, (by decide : 0 + 0 ≤ _), (by decide : 0 + 0 ≤ _)⟩)
  dsimp only [Pt.U, Pt.locs, Pt.cells, Pt.slots] at X2 l2 y2 z2 st2 hQ2
  subst l2 y2 z2
  obtain ⟨rfl, M2, eh2⟩ := hQ2
  have N2 := Fr.app N0 M2
  refine Go.tr st2 ?_
  show Go p e below _ (T2.setTop (mkF m 8 #[.val (.ref a1), .val (.ref a2), .val .null, .unset, .unset] [(.ref a3)]))
  refine Go.st (fun t k => XS.astoreN X2.here hx rfl (hb hby d23_8) rfl rfl (l' := #[.val (.ref a1), .val (.ref a2), .val .null, .val (.ref a3), .unset]) rfl k) ?_
  show Go p e below _ (T2.setTop (mkF m 9 #[.val (.ref a1), .val (.ref a2), .val .null, .val (.ref a3), .unset] []))
  refine Go.st (fun t k => XS.aloadN X2.here hx rfl (hb hby d23_9) rfl rfl k) ?_
  show Go p e below _ (T2.setTop (mkF m 10 #[.val (.ref a1), .val (.ref a2), .val .null, .val (.ref a3), .unset] [(.ref a2)]))
  obtain ⟨cq3, kq3, q3a, q3b, q3c⟩ := isOf hZ eh2 P1
  obtain ⟨_, _, ⟨T3, L3, k3, n3⟩, -, X3, ⟨Lc3, hQ3, l3, y3, z3⟩, st3⟩ := X2.virtualBack hx (y := (⟨"java/lang/AbstractStringBuilder", "length", "()I"⟩ : MethodName)) (z := (⟨"java/lang/StringBuilder", "length", "()I"⟩ : MethodName)) hown (mvT hZ (w132 hw)) (mvT hZ (w133 hw)) (own_nf (args := #[]) (mvT hZ (w92 hw)) rfl) (mvT hZ (w135 hw)) (mvT hZ (w136 hw)) (by decide) (backOf (W := 0) (rm25_1 l Z a0 hw [] a2 p4 h0 n0 O0 P3 P1) hZ (w137 hw) (w51 hw) (by decide) (by decide)) q3a q3c (g := (mkF m 10 #[.val (.ref a1), .val (.ref a2), .val .null, .val (.ref a3), .unset] [(.ref a2)])) rfl (by rw [hml]; rfl) (Steps.refl _) (argsL := []) (rest := []) (lenOf pd_8 rfl) rfl (by show 2 * 0 + _ ≤ _; exact Nat.le_of_eq rfl) (hb hby d23_10) (fun vm₁ hw₁ => ⟨rfl, eh2, (by decide : 0 + 0 ≤ _), (by decide : 0 + 0 ≤ _)⟩)
  dsimp only [Pt.U, Pt.locs, Pt.cells, Pt.slots] at X3 l3 y3 z3 st3 hQ3
  subst l3 y3 z3
  obtain ⟨rfl, M3, eh3⟩ := hQ3
  have N3 := Fr.app N2 M3
  refine Go.tr st3 ?_
  show Go p e below _ (T3.setTop (mkF m 13 #[.val (.ref a1), .val (.ref a2), .val .null, .val (.ref a3), .unset] [(.int p4)]))
  refine Go.st (fun t k => XS.istore X3.here hx rfl (hb hby d23_13) rfl (l' := #[.val (.ref a1), .val (.ref a2), .val .null, .val (.ref a3), .val (.int p4)]) rfl k) ?_
  show Go p e below _ (T3.setTop (mkF m 15 #[.val (.ref a1), .val (.ref a2), .val .null, .val (.ref a3), .val (.int p4)] []))
  refine Go.st (fun t k => XS.aloadN X3.here hx rfl (hb hby d23_15) rfl rfl k) ?_
  show Go p e below _ (T3.setTop (mkF m 16 #[.val (.ref a1), .val (.ref a2), .val .null, .val (.ref a3), .val (.int p4)] [(.ref a2)]))
  obtain ⟨cq4, kq4, q4a, q4b, q4c⟩ := isOf hZ eh3 P1
  obtain ⟨_, _, ⟨T4, L4, k4, n4⟩, -, X4, ⟨Lc4, hQ4, l4, y4, z4⟩, st4⟩ := X3.virtualBack hx (y := (⟨"java/lang/AbstractStringBuilder", "isLatin1", "()Z"⟩ : MethodName)) (z := (⟨"java/lang/AbstractStringBuilder", "isLatin1", "()Z"⟩ : MethodName)) hown (mvT hZ (w140 hw)) (mvT hZ (w141 hw)) (notFace_of_selects (args := #[]) (mvT hZ (w143 hw))) (mvT hZ (w143 hw)) (mvT hZ (w142 hw)) (by decide) (backOf (W := 0) (rm27_1 l Z a0 hw [] a2 p5 h0 n0 O0 P4 P5 P6) hZ (w144 hw) (w59 hw) (by decide) (by decide)) q4a q4c (g := (mkF m 16 #[.val (.ref a1), .val (.ref a2), .val .null, .val (.ref a3), .val (.int p4)] [(.ref a2)])) rfl (by rw [hml]; rfl) (Steps.refl _) (argsL := []) (rest := []) (lenOf pd_15 rfl) rfl (by show 2 * 0 + _ ≤ _; exact Nat.le_of_eq rfl) (hb hby d23_16) (fun vm₁ hw₁ => ⟨rfl, eh3, (by decide : 0 + 0 ≤ _), (by decide : 0 + 0 ≤ _)⟩)
  dsimp only [Pt.U, Pt.locs, Pt.cells, Pt.slots] at X4 l4 y4 z4 st4 hQ4
  subst l4 y4 z4
  obtain ⟨rfl, M4, eh4⟩ := hQ4
  have N4 := Fr.app N3 M4
  refine Go.tr st4 ?_
  show Go p e below _ (T4.setTop (mkF m 19 #[.val (.ref a1), .val (.ref a2), .val .null, .val (.ref a3), .val (.int p4)] [(.int (1 : Int32))]))
  refine Go.st (fun t k => XS.ifNo X4.here hx rfl (hb hby d23_19) rfl (Jvm.Free.XT.i0_eq_f (by decide : ¬ ((1 : Int32) = (0 : Int32)))) k) ?_
  show Go p e below _ (T4.setTop (mkF m 22 #[.val (.ref a1), .val (.ref a2), .val .null, .val (.ref a3), .val (.int p4)] []))
  refine Go.st (fun t k => XS.aloadN X4.here hx rfl (hb hby d23_22) rfl rfl k) ?_
  show Go p e below _ (T4.setTop (mkF m 23 #[.val (.ref a1), .val (.ref a2), .val .null, .val (.ref a3), .val (.int p4)] [(.ref a1)]))
  refine Go.st (fun t k => XS.iconst X4.here hx rfl (hb hby d23_23) k) ?_
  show Go p e below _ (T4.setTop (mkF m 24 #[.val (.ref a1), .val (.ref a2), .val .null, .val (.ref a3), .val (.int p4)] [(.int (0 : Int32)), (.ref a1)]))
  obtain ⟨T5, h5, X5, e5, W5, st5⟩ := putFN X4 hx hZ hown (w36 hw) Via.refl eh4 P8 P7 (Or.inr ⟨(w37 hw), rfl, hnm⟩) (w12 hw) (ty := .byte) (v' := (.int (0 : Int32))) (by decide) rfl (by decide) (g := (mkF m 24 #[.val (.ref a1), .val (.ref a2), .val .null, .val (.ref a3), .val (.int p4)] [(.int (0 : Int32)), (.ref a1)])) rfl rfl (hb hby d23_24)
  have F5 : Fld Z h5 a1 "java/lang/String" "coder" "B" (.int (0 : Int32)) := P8.same W5
  have N5 := Fr.snoc X5 N4 P9
  have O5 : Old Z n0 h5 := O0.wr W5 P9
  have K5 : Keep h0 h5 [a1] := (Keep.refl h0 [a1]).wr W5 (Or.inl (List.mem_of_getElem? (i := 0) rfl))
  refine Go.st st5 ?_
  show Go p e below _ (T5.setTop (mkF m 27 #[.val (.ref a1), .val (.ref a2), .val .null, .val (.ref a3), .val (.int p4)] []))
  refine Go.st (fun t k => XS.aloadN X5.here hx rfl (hb hby d23_27) rfl rfl k) ?_
  show Go p e below _ (T5.setTop (mkF m 28 #[.val (.ref a1), .val (.ref a2), .val .null, .val (.ref a3), .val (.int p4)] [(.ref a1)]))
  refine Go.st (fun t k => XS.aloadN X5.here hx rfl (hb hby d23_28) rfl rfl k) ?_
  show Go p e below _ (T5.setTop (mkF m 29 #[.val (.ref a1), .val (.ref a2), .val .null, .val (.ref a3), .val (.int p4)] [(.ref a3), (.ref a1)]))
  refine Go.st (fun t k => XS.iconst X5.here hx rfl (hb hby d23_29) k) ?_
  show Go p e below _ (T5.setTop (mkF m 30 #[.val (.ref a1), .val (.ref a2), .val .null, .val (.ref a3), .val (.int p4)] [(.int (0 : Int32)), (.ref a3), (.ref a1)]))
  refine Go.st (fun t k => XS.iload X5.here hx rfl (hb hby d23_30) rfl k) ?_
  show Go p e below _ (T5.setTop (mkF m 32 #[.val (.ref a1), .val (.ref a2), .val .null, .val (.ref a3), .val (.int p4)] [(.int p4), (.int (0 : Int32)), (.ref a3), (.ref a1)]))
  obtain ⟨_, _, ⟨T6, L6, k6, n6⟩, -, X6, ⟨Lc6, hQ6, l6, y6, z6⟩, st6⟩ := Jvm.LawKit.callS X5 hx (y := (⟨"java/util/Arrays", "copyOfRange", "([BII)[B"⟩ : MethodName)) hown (mvT hZ (w145 hw)) (mvT hZ (w146 hw)) (mvT hZ (w147 hw)) (mvT hZ (w148 hw)) (by decide) (backOf (W := 1) (rm28_1 l Z a0 hw [] a3 p4 kz6 zs7 h5 n0 O5 (P10.other W5 P17) P11 P12 P13 P14 P15 P16) hZ (w148 hw) (w147 hw) (by decide) (by decide)) (g := (mkF m 32 #[.val (.ref a1), .val (.ref a2), .val .null, .val (.ref a3), .val (.int p4)] [(.int p4), (.int (0 : Int32)), (.ref a3), (.ref a1)])) rfl (by rw [hml]; rfl) (argsL := [(.ref a3), (.int (0 : Int32)), (.int p4)]) (rest := [(.ref a1)]) (lenOf pd_18 rfl) rfl (by show 2 * 0 + _ ≤ _; exact Nat.le_of_eq rfl) (hb hby d23_32) (fun vm₁ hw₁ => ⟨rfl, e5, (by decide : 0 + 1 ≤ _), (by decide : 0 + 12 ≤ _)⟩)
  dsimp only [Pt.U, Pt.locs, Pt.cells, Pt.slots] at X6 l6 y6 z6 st6 hQ6
  subst l6 y6 z6
  obtain ⟨b2_2_6, k2_2_6, rfl, M6, K6c, r6_0, r6_1, r6_2⟩ := hQ6
  have N6 := Fr.app N5 M6
  have g_b2_2_6 : n0 ≤ b2_2_6 := Nat.le_trans (own_n0 O5) r6_0
  have s_b2_2_6 : h0.size ≤ b2_2_6 := Nat.le_trans K5.1 r6_0
  have O6 : Old Z n0 T6.heap := O5.keep K6c all0
  have K6 : Keep h0 T6.heap [a1] := K5.trans K6c all0
  refine Go.st st6 ?_
  show Go p e below _ (T6.setTop (mkF m 35 #[.val (.ref a1), .val (.ref a2), .val .null, .val (.ref a3), .val (.int p4)] [(.ref b2_2_6), (.ref a1)]))
  have c7 := ((P18.other W5 (Or.inr (slot_ne (Or.inr (w39 hw)) (Or.inr (w37 hw)) (by decide) (t := (.array .byte)) (t' := .byte) (by decide) (by decide)))).keep K6c nin0)
  obtain ⟨T8, h8, X8, e8, W8, st8⟩ := putF X6 hx hZ hown (host := "") (Or.inl (w38 hw)) Via.refl rfl c7 ((P7.wr W5).keep K6c) (Or.inr ⟨(w39 hw), rfl, hnm⟩) (w12 hw) (ty := (.array .byte)) (by decide) rfl rfl (g := (mkF m 35 #[.val (.ref a1), .val (.ref a2), .val .null, .val (.ref a3), .val (.int p4)] [(.ref b2_2_6), (.ref a1)])) rfl rfl (hb hby d23_35)
  have F8 : Fld Z h8 a1 "java/lang/String" "value" "[B" (.ref b2_2_6) := c7.same W8
  have N8 := Fr.snoc X8 N6 P9
  have O8 : Old Z n0 h8 := O6.wr W8 P9
  have K8 : Keep h0 h8 [a1] := K6.wr W8 (Or.inl (List.mem_of_getElem? (i := 0) rfl))
  refine Go.st st8 ?_
  show Go p e below _ (T8.setTop (mkF m 38 #[.val (.ref a1), .val (.ref a2), .val .null, .val (.ref a3), .val (.int p4)] []))
  refine Go.st (fun t k => XS.goto X8.here hx rfl (pc0 := 38) (pc' := 97) rfl (hb hby d23_38) (by decide) (by decide) k) ?_
  show Go p e below _ (T8.setTop (mkF m 97 #[.val (.ref a1), .val (.ref a2), .val .null, .val (.ref a3), .val (.int p4)] []))
  obtain ⟨fs, hr, hrun, hended, hWd, hsame⟩ := X8.leave (v := none) (fun _ => rfl)
  have c9 := ((F5.keep K6c nin0).other W8 (Or.inr (slot_ne (Or.inr (w37 hw)) (Or.inr (w39 hw)) (by decide) (t := .byte) (t' := (.array .byte)) (by decide) (by decide))))
  have c10 := (r6_1.other W8 (Ne.symm (Nat.ne_of_lt (Nat.lt_of_lt_of_le (Nat.lt_of_lt_of_le P7.lt (Nat.le_of_eq W5.size.symm)) r6_0))))
  refine ⟨_, _, ?_, hrun, hended, _, _, rfl, ?_, ⟨⟨_, rfl⟩, hWd, hsame.mono (by decide) (by decide)⟩⟩
  · exact X8.returnOut hx Bd.returns (hb hby d23_97) hr
  · show Q_rm23_1 Z a1 a2 a3 p4 p5 kz6 zs7 h0 n0 _ T8.heap _
    rw [e8]
    exact ⟨b2_2_6, k2_2_6, rfl, N8, K8, s_b2_2_6, c9, F8, c10, r6_2⟩
def Q_rm22_1 (Z : State) (a1 : Addr) (a2 : Addr) (a3 : Addr) (p4 : Int32) (p5 : Int32) (kz6 : ClassId) (zs7 : List Int32) (h0 : Heap) (n0 : Nat) (v : Option Value) (h : Heap) (L : List Loc) : Prop := ∃ (b2_2_6_1 : Addr) (k2_2_6_1 : ClassId), v = none ∧ Fr n0 L ∧ Keep h0 h [a1] ∧ h0.size ≤ b2_2_6_1 ∧ Fld Z h a1 "java/lang/String" "coder" "B" (.int (0 : Int32)) ∧ Fld Z h a1 "java/lang/String" "value" "[B" (.ref b2_2_6_1) ∧ Arv Z h b2_2_6_1 k2_2_6_1 .byte (p4 - (0 : Int32)) ((own_put (List.replicate ((p4 - (0 : Int32))).toNatClampNeg (0 : Int32)) zs7 0 ((p4 - (0 : Int32))).toNatClampNeg).map Value.int) (.int (0 : Int32)) ∧ (own_put (List.replicate ((p4 - (0 : Int32))).toNatClampNeg (0 : Int32)) zs7 0 ((p4 - (0 : Int32))).toNatClampNeg).length = ((p4 - (0 : Int32))).toNatClampNeg
set_option maxRecDepth 65536 in
set_option maxHeartbeats 40000000 in
theorem rm22_1 (l : Launch) (Z : State) (a0 : Array Value) (hw : ∀ d ∈ tables_1, d.before a0 Z = true) (ws : List Jvm.Cond) (a1 : Addr) (a2 : Addr) (a3 : Addr) (p4 : Int32) (p5 : Int32) (kz6 : ClassId) (zs7 : List Int32) (h0 : Heap) (n0 : Nat) (O0 : Old Z n0 h0) (P1 : Exa Z h0 a2 "java/lang/StringBuilder") (P2 : Fld Z h0 a2 "java/lang/AbstractStringBuilder" "value" "[B" (.ref a3)) (P3 : Fld Z h0 a2 "java/lang/AbstractStringBuilder" "count" "I" (.int p4)) (P4 : Sta Z Z.heap "java/lang/String" "COMPACT_STRINGS" "Z" (.int p5)) (P5 : ¬ (p5 = (0 : Int32))) (P6 : Fld Z h0 a2 "java/lang/AbstractStringBuilder" "coder" "B" (.int (0 : Int32))) (P7 : Exa Z h0 a1 "java/lang/String") (P8 : Fld Z h0 a1 "java/lang/String" "coder" "B" (.int (0 : Int32))) (P9 : n0 ≤ a1) (P10 : Arv Z h0 a3 kz6 .byte (16 : Int32) (zs7.map Value.int) (.int (0 : Int32))) (P11 : ¬ (p4 = (16 : Int32))) (P12 : ¬ (p4 < (0 : Int32))) (P13 : ¬ ((12 : Int32) < (p4 - (0 : Int32)))) (P14 : ¬ ((p4 - (0 : Int32)) < (0 : Int32))) (P15 : (p4 - (0 : Int32)) < (16 : Int32)) (P16 : ¬ ((16 : Int32) < (p4 - (0 : Int32)))) (P17 : a3 ≠ a1) (P18 : Fld Z h0 a1 "java/lang/String" "value" "[B" .null) :
    MetFree l (⟨"java/lang/String", "<init>", "(Ljava/lang/StringBuilder;)V"⟩ : MethodName) (head1 (Jvm.Cond.code (⟨"java/lang/String", "<init>", "(Ljava/lang/StringBuilder;)V"⟩ : MethodName) jdk_42_method_53_code 2 none :: ws) ({ frames := 4, cells := 1, slots := 12, locals := 65 } : Room)) (fun a U => a = #[(.ref a1), (.ref a2)] ∧ Z.Warmed39 U.vm ∧ U.heap = h0) (fun _ _ _ _ _ => True) (fun _ U o U' => ∃ v L, o = .returned v ∧ Q_rm22_1 Z a1 a2 a3 p4 p5 kz6 zs7 h0 n0 v U'.heap L ∧ FrameEnd U o U' L ({ frames := 4, cells := 1, slots := 12, locals := 65 } : Room).cells ({ frames := 4, cells := 1, slots := 12, locals := 65 } : Room).slots) := by
  refine MetFree.of_bodySF (plainFor_of_name pn_1) hisR ?_
  intro p e s m args below meth c s₁ Bd hml0 hP hK
  obtain ⟨rfl, hZ, hh⟩ := hP
  have hx := Bd.exec
  have hby := Bd.bytes
  have hml : c.maxLocals = 2 := hml0
  have hown : s.vm.findClass "java/lang/String" = some m.cls := findClass_of_methodNamed Bd.named
  have hnm := (name_of_methodNamed Bd.named Bd.method).1
  have X0 : Stand p l e ({ frames := 4, cells := 1, slots := 12, locals := 65 } : Room) s m #[(.ref a1), (.ref a2)] below meth c s₁ [] 0 0 := Stand.of_body Bd
  have e0 : s₁.heap = h0 := by rw [← hh, Bd.state]; rfl
  have N0 := Fr.nil n0
  refine Go.start (P := (fun o U' => ∃ v L, o = .returned v ∧ Q_rm22_1 Z a1 a2 a3 p4 p5 kz6 zs7 h0 n0 v U'.heap L ∧ FrameEnd s o U' L ({ frames := 4, cells := 1, slots := 12, locals := 65 } : Room).cells ({ frames := 4, cells := 1, slots := 12, locals := 65 } : Room).slots)) (castTop (g' := (mkF m 0 #[.val (.ref a1), .val (.ref a2)] [])) (by first | rfl | simp [entryFrame, mkF, argsToLocals, Value.category]) (T := s₁)) ?_
  refine Go.st (fun t k => XS.aloadN X0.here hx rfl (hb hby d22_0) rfl rfl k) ?_
  show Go p e below _ (s₁.setTop (mkF m 1 #[.val (.ref a1), .val (.ref a2)] [(.ref a1)]))
  refine Go.st (fun t k => XS.aloadN X0.here hx rfl (hb hby d22_1) rfl rfl k) ?_
  show Go p e below _ (s₁.setTop (mkF m 2 #[.val (.ref a1), .val (.ref a2)] [(.ref a2), (.ref a1)]))
  refine Go.st (fun t k => XS.aconstNull X0.here hx rfl (hb hby d22_2) k) ?_
  show Go p e below _ (s₁.setTop (mkF m 3 #[.val (.ref a1), .val (.ref a2)] [.null, (.ref a2), (.ref a1)]))
  obtain ⟨_, _, ⟨T1, L1, k1, n1⟩, -, X1, ⟨Lc1, hQ1, l1, y1, z1⟩, st1⟩ := X0.specialBack hx (y := (⟨"java/lang/String", "<init>", "(Ljava/lang/AbstractStringBuilder;Ljava/lang/Void;)V"⟩ : MethodName)) rfl hown (mvT hZ (w124 hw)) (mvT hZ (w125 hw)) (mvT hZ (w126 hw)) (by decide) (backOf (W := 0) (rm23_1 l Z a0 hw [] a1 a2 a3 p4 p5 kz6 zs7 h0 n0 O0 P1 P2 P3 P4 P5 P6 P7 P8 P9 P10 P11 P12 P13 P14 P15 P16 P17 P18) hZ (w126 hw) (w13 hw) (by decide) (by decide)) (g := (mkF m 3 #[.val (.ref a1), .val (.ref a2)] [.null, (.ref a2), (.ref a1)])) rfl (by rw [hml]; rfl) (Steps.refl _) (a := a1) (argsL := [(.ref a2), .null]) (rest := []) (lenOf pd_19 rfl) rfl (by show 2 * 0 + _ ≤ _; exact Nat.le_of_eq rfl) (hb hby d22_3) (fun vm₁ hw₁ => ⟨rfl, e0, (by decide : 0 + 1 ≤ _), (by decide : 0 + 12 ≤ _)⟩)
  dsimp only [Pt.U, Pt.locs, Pt.cells, Pt.slots] at X1 l1 y1 z1 st1 hQ1
  subst l1 y1 z1
  obtain ⟨b2_2_6_1, k2_2_6_1, rfl, M1, K1c, r1_0, r1_1, r1_2, r1_3, r1_4⟩ := hQ1
  have N1 := Fr.app N0 M1
  have g_b2_2_6_1 : n0 ≤ b2_2_6_1 := Nat.le_trans (own_n0 O0) r1_0
  have s_b2_2_6_1 : h0.size ≤ b2_2_6_1 := Nat.le_trans (Keep.refl h0 [a1]).1 r1_0
  have O1 : Old Z n0 T1.heap := O0.keep K1c (allS P9 all0)
  have K1 : Keep h0 T1.heap [a1] := (Keep.refl h0 [a1]).trans K1c (allS (Or.inl (List.mem_of_getElem? (i := 0) rfl)) all0)
  refine Go.tr st1 ?_
  show Go p e below _ (T1.setTop (mkF m 6 #[.val (.ref a1), .val (.ref a2)] []))
  obtain ⟨fs, hr, hrun, hended, hWd, hsame⟩ := X1.leave (v := none) (fun _ => rfl)
  refine ⟨_, _, ?_, hrun, hended, _, _, rfl, ?_, ⟨⟨_, rfl⟩, hWd, hsame.mono (by decide) (by decide)⟩⟩
  · exact X1.returnOut hx Bd.returns (hb hby d22_6) hr
  · show Q_rm22_1 Z a1 a2 a3 p4 p5 kz6 zs7 h0 n0 _ T1.heap _
    exact ⟨b2_2_6_1, k2_2_6_1, rfl, N1, K1, s_b2_2_6_1, r1_1, r1_2, r1_3, r1_4⟩
def Q_rm21_1 (Z : State) (a1 : Addr) (a2 : Addr) (p3 : Int32) (p4 : Int32) (kz5 : ClassId) (zs6 : List Int32) (h0 : Heap) (n0 : Nat) (v : Option Value) (h : Heap) (L : List Loc) : Prop := ∃ (b1 : Addr) (b2_2_6_1_2 : Addr) (k2_2_6_1_2 : ClassId), v = some (.ref b1) ∧ Fr n0 L ∧ Keep h0 h [] ∧ h0.size ≤ b1 ∧ h0.size ≤ b2_2_6_1_2 ∧ b1 ≠ b2_2_6_1_2 ∧ Exa Z h b1 "java/lang/String" ∧ Fld Z h b1 "java/lang/String" "coder" "B" (.int (0 : Int32)) ∧ Fld Z h b1 "java/lang/String" "value" "[B" (.ref b2_2_6_1_2) ∧ Arv Z h b2_2_6_1_2 k2_2_6_1_2 .byte (p3 - (0 : Int32)) ((own_put (List.replicate ((p3 - (0 : Int32))).toNatClampNeg (0 : Int32)) zs6 0 ((p3 - (0 : Int32))).toNatClampNeg).map Value.int) (.int (0 : Int32)) ∧ (own_put (List.replicate ((p3 - (0 : Int32))).toNatClampNeg (0 : Int32)) zs6 0 ((p3 - (0 : Int32))).toNatClampNeg).length = ((p3 - (0 : Int32))).toNatClampNeg
set_option maxRecDepth 65536 in
set_option maxHeartbeats 40000000 in
theorem rm21_1 (l : Launch) (Z : State) (a0 : Array Value) (hw : ∀ d ∈ tables_1, d.before a0 Z = true) (ws : List Jvm.Cond) (a1 : Addr) (a2 : Addr) (p3 : Int32) (p4 : Int32) (kz5 : ClassId) (zs6 : List Int32) (h0 : Heap) (n0 : Nat) (O0 : Old Z n0 h0) (P1 : Exa Z h0 a1 "java/lang/StringBuilder") (P2 : Fld Z h0 a1 "java/lang/AbstractStringBuilder" "value" "[B" (.ref a2)) (P3 : Fld Z h0 a1 "java/lang/AbstractStringBuilder" "count" "I" (.int p3)) (P4 : Sta Z Z.heap "java/lang/String" "COMPACT_STRINGS" "Z" (.int p4)) (P5 : ¬ (p4 = (0 : Int32))) (P6 : Fld Z h0 a1 "java/lang/AbstractStringBuilder" "coder" "B" (.int (0 : Int32))) (P7 : Arv Z h0 a2 kz5 .byte (16 : Int32) (zs6.map Value.int) (.int (0 : Int32))) (P8 : ¬ (p3 = (16 : Int32))) (P9 : ¬ (p3 < (0 : Int32))) (P10 : ¬ ((12 : Int32) < (p3 - (0 : Int32)))) (P11 : ¬ ((p3 - (0 : Int32)) < (0 : Int32))) (P12 : (p3 - (0 : Int32)) < (16 : Int32)) (P13 : ¬ ((16 : Int32) < (p3 - (0 : Int32)))) :
    MetFree l (⟨"java/lang/StringBuilder", "toString", "()Ljava/lang/String;"⟩ : MethodName) (head1 (Jvm.Cond.code (⟨"java/lang/StringBuilder", "toString", "()Ljava/lang/String;"⟩ : MethodName) jdk_67_method_42_code 1 (some (.object "java/lang/String")) :: ws) ({ frames := 5, cells := 2, slots := 16, locals := 79 } : Room)) (fun a U => a = #[(.ref a1)] ∧ Z.Warmed39 U.vm ∧ U.heap = h0) (fun _ _ _ _ _ => True) (fun _ U o U' => ∃ v L, o = .returned v ∧ Q_rm21_1 Z a1 a2 p3 p4 kz5 zs6 h0 n0 v U'.heap L ∧ FrameEnd U o U' L ({ frames := 5, cells := 2, slots := 16, locals := 79 } : Room).cells ({ frames := 5, cells := 2, slots := 16, locals := 79 } : Room).slots) := by
  refine MetFree.of_bodySF (plainFor_of_name pn_3) hisR ?_
  intro p e s m args below meth c s₁ Bd hml0 hP hK
  obtain ⟨rfl, hZ, hh⟩ := hP
  have hx := Bd.exec
  have hby := Bd.bytes
  have hml : c.maxLocals = 1 := hml0
  have hown : s.vm.findClass "java/lang/StringBuilder" = some m.cls := findClass_of_methodNamed Bd.named
  have hnm := (name_of_methodNamed Bd.named Bd.method).1
  have X0 : Stand p l e ({ frames := 5, cells := 2, slots := 16, locals := 79 } : Room) s m #[(.ref a1)] below meth c s₁ [] 0 0 := Stand.of_body Bd
  have e0 : s₁.heap = h0 := by rw [← hh, Bd.state]; rfl
  have N0 := Fr.nil n0
  refine Go.start (P := (fun o U' => ∃ v L, o = .returned v ∧ Q_rm21_1 Z a1 a2 p3 p4 kz5 zs6 h0 n0 v U'.heap L ∧ FrameEnd s o U' L ({ frames := 5, cells := 2, slots := 16, locals := 79 } : Room).cells ({ frames := 5, cells := 2, slots := 16, locals := 79 } : Room).slots)) (castTop (g' := (mkF m 0 #[.val (.ref a1)] [])) (by first | rfl | simp [entryFrame, mkF, argsToLocals, Value.category]) (T := s₁)) ?_
  obtain ⟨T1, h1, X1, e1, E1, A1, D1, -, st1⟩ := newO X0 hx hZ hown (w120 hw) (w12 hw) (w13 hw) e0 (g := (mkF m 0 #[.val (.ref a1)] [])) rfl (hb hby d21_0) (by decide) (by decide)
  obtain ⟨b1, z1⟩ : ∃ z, z = h0.size := ⟨_, rfl⟩
  rw [← z1] at A1 D1 st1
  have g_b1 : n0 ≤ b1 := Nat.le_trans (own_n0 O0) (Nat.le_of_eq z1.symm)
  have s_b1 : h0.size ≤ b1 := Nat.le_trans (Keep.refl h0 []).1 (Nat.le_of_eq z1.symm)
  have O1 : Old Z n0 h1 := O0.ext E1
  have K1 : Keep h0 h1 [] := (Keep.refl h0 []).ext E1
  have f1_37 : Fld Z h1 b1 "java/lang/String" "coder" "B" (.int (0 : Int32)) := D1 (Or.inr (w37 hw)) (ty := .byte) (by decide)
  have f1_39 : Fld Z h1 b1 "java/lang/String" "value" "[B" .null := D1 (Or.inr (w39 hw)) (ty := (.array .byte)) (by decide)
  refine Go.st st1 ?_
  show Go p e below _ (T1.setTop (mkF m 3 #[.val (.ref a1)] [(.ref b1)]))
  refine Go.st (fun t k => XS.dup X1.here hx rfl (hb hby d21_3) rfl rfl k) ?_
  show Go p e below _ (T1.setTop (mkF m 4 #[.val (.ref a1)] [(.ref b1), (.ref b1)]))
  refine Go.st (fun t k => XS.aloadN X1.here hx rfl (hb hby d21_4) rfl rfl k) ?_
  show Go p e below _ (T1.setTop (mkF m 5 #[.val (.ref a1)] [(.ref a1), (.ref b1), (.ref b1)]))
  obtain ⟨_, _, ⟨T2, L2, k2, n2⟩, -, X2, ⟨Lc2, hQ2, l2, y2, z2⟩, st2⟩ := X1.specialBack hx (y := (⟨"java/lang/String", "<init>", "(Ljava/lang/StringBuilder;)V"⟩ : MethodName)) rfl hown (mvT hZ (w121 hw)) (mvT hZ (w122 hw)) (mvT hZ (w123 hw)) (by decide) (backOf (W := 1) (rm22_1 l Z a0 hw [] b1 a1 a2 p3 p4 kz5 zs6 h1 n0 O1 (P1.ext E1) (P2.ext E1) (P3.ext E1) P4 P5 (P6.ext E1) A1 f1_37 g_b1 (P7.ext E1) P8 P9 P10 P11 P12 P13 (Nat.ne_of_lt (Nat.lt_of_lt_of_le P7.lt (Nat.le_of_eq z1.symm))) f1_39) hZ (w123 hw) (w13 hw) (by decide) (by decide)) (g := (mkF m 5 #[.val (.ref a1)] [(.ref a1), (.ref b1), (.ref b1)])) rfl (by rw [hml]; rfl) (Steps.refl _) (a := b1) (argsL := [(.ref a1)]) (rest := [(.ref b1)]) (lenOf pd_20 rfl) rfl (by show 2 * 0 + _ ≤ _; exact Nat.le_of_eq rfl) (hb hby d21_5) (fun vm₁ hw₁ => ⟨rfl, e1, (by decide : 1 + 1 ≤ _), (by decide : 4 + 12 ≤ _)⟩)
  dsimp only [Pt.U, Pt.locs, Pt.cells, Pt.slots] at X2 l2 y2 z2 st2 hQ2
  subst l2 y2 z2
  obtain ⟨b2_2_6_1_2, k2_2_6_1_2, rfl, M2, K2c, r2_0, r2_1, r2_2, r2_3, r2_4⟩ := hQ2
  have N2 := Fr.app N0 M2
  have g_b2_2_6_1_2 : n0 ≤ b2_2_6_1_2 := Nat.le_trans (own_n0 O1) r2_0
  have s_b2_2_6_1_2 : h0.size ≤ b2_2_6_1_2 := Nat.le_trans K1.1 r2_0
  have O2 : Old Z n0 T2.heap := O1.keep K2c (allS g_b1 all0)
  have K2 : Keep h0 T2.heap [] := K1.trans K2c (allS (Or.inr s_b1) all0)
  refine Go.tr st2 ?_
  show Go p e below _ (T2.setTop (mkF m 8 #[.val (.ref a1)] [(.ref b1)]))
  obtain ⟨fs, hr, hrun, hended, hWd, hsame⟩ := X2.leave (v := some (.ref b1)) (fun h => by rw [Bd.returns] at h; cases h)
  refine ⟨_, _, ?_, hrun, hended, _, _, rfl, ?_, ⟨⟨_, rfl⟩, hWd, hsame.mono (by decide) (by decide)⟩⟩
  · exact own_retA X2 hx Bd.returns rfl rfl (hb hby d21_8) hr
  · show Q_rm21_1 Z a1 a2 p3 p4 kz5 zs6 h0 n0 _ T2.heap _
    exact ⟨b1, b2_2_6_1_2, k2_2_6_1_2, rfl, N2, K2, s_b1, s_b2_2_6_1_2, (Nat.ne_of_lt (Nat.lt_of_lt_of_le A1.lt r2_0)), (A1.keep K2c), r2_1, r2_2, r2_3, r2_4⟩
def Q_rm35_1 (Z : State) (a1 : Addr) (a2 : Addr) (a3 : Addr) (a4 : Addr) (h0 : Heap) (n0 : Nat) (v : Option Value) (h : Heap) (L : List Loc) : Prop := v = none ∧ Fr n0 L ∧ Keep h0 h [a1] ∧ Fld Z h a1 "java/lang/Throwable" "cause" "Ljava/lang/Throwable;" (.ref a1) ∧ Fld Z h a1 "java/lang/Throwable" "suppressedExceptions" "Ljava/util/List;" (.ref a4) ∧ Fld Z h a1 "java/lang/Throwable" "detailMessage" "Ljava/lang/String;" (.ref a2) ∧ Fld Z h a1 "com/example/lease/lease/core/InvalidFieldException" "field" "Ljava/lang/String;" .null ∧ Fld Z h a1 "com/example/lease/lease/core/InvalidFieldException" "reason" "Ljava/lang/String;" .null
set_option maxRecDepth 65536 in
set_option maxHeartbeats 40000000 in
theorem rm35_1 (l : Launch) (Z : State) (a0 : Array Value) (hw : ∀ d ∈ tables_1, d.before a0 Z = true) (ws : List Jvm.Cond) (a1 : Addr) (a2 : Addr) (a3 : Addr) (a4 : Addr) (h0 : Heap) (n0 : Nat) (O0 : Old Z n0 h0) (P1 : Exa Z h0 a1 "com/example/lease/lease/core/InvalidFieldException") (P2 : Fld Z h0 a1 "java/lang/Throwable" "cause" "Ljava/lang/Throwable;" .null) (P3 : n0 ≤ a1) (P4 : Sta Z Z.heap "java/lang/Throwable" "UNASSIGNED_STACK" "[Ljava/lang/StackTraceElement;" (.ref a3)) (P5 : Fld Z h0 a1 "java/lang/Throwable" "stackTrace" "[Ljava/lang/StackTraceElement;" .null) (P6 : Sta Z Z.heap "java/lang/Throwable" "SUPPRESSED_SENTINEL" "Ljava/util/List;" (.ref a4)) (P7 : Fld Z h0 a1 "java/lang/Throwable" "suppressedExceptions" "Ljava/util/List;" .null) (HL : l.stackTraces = true) (P9 : Unt h0 a1) (P10 : Fld Z h0 a1 "java/lang/Throwable" "backtrace" "Ljava/lang/Object;" .null) (P11 : Fld Z h0 a1 "java/lang/Throwable" "detailMessage" "Ljava/lang/String;" .null) (P12 : Fld Z h0 a1 "java/lang/Throwable" "depth" "I" (.int (0 : Int32))) (P13 : Fld Z h0 a1 "com/example/lease/lease/core/InvalidFieldException" "field" "Ljava/lang/String;" .null) (P14 : Fld Z h0 a1 "com/example/lease/lease/core/InvalidFieldException" "reason" "Ljava/lang/String;" .null) :
    MetFree l (⟨"java/lang/Throwable", "<init>", "(Ljava/lang/String;)V"⟩ : MethodName) (head1 (Jvm.Cond.code (⟨"java/lang/Throwable", "<init>", "(Ljava/lang/String;)V"⟩ : MethodName) jdk_78_method_2_code 2 none :: ws) ({ frames := 3, cells := 1, slots := 2752, locals := 42 } : Room)) (fun a U => a = #[(.ref a1), (.ref a2)] ∧ Z.Warmed39 U.vm ∧ U.heap = h0 ∧ CHv Z consts_1 U.vm h0) (fun _ _ bl s _ => s.vm.MethodsKnown ∧ s.vm.FramesKnown bl) (fun _ U o U' => ∃ v L, o = .returned v ∧ (Q_rm35_1 Z a1 a2 a3 a4 h0 n0 v U'.heap L ∧ CHr Z consts_1 U.vm U.heap U'.vm U'.heap) ∧ ReturnedEndW U o U' L ({ frames := 3, cells := 1, slots := 2752, locals := 42 } : Room).cells ({ frames := 3, cells := 1, slots := 2752, locals := 42 } : Room).slots) := by
  refine MetFree.of_bodySF (plainFor_of_name pn_5) hisR ?_
  intro p e s m args below meth c s₁ Bd hml0 hP hK
  obtain ⟨rfl, hZ, hh, HV0⟩ := hP
  have hx := Bd.exec
  have hby := Bd.bytes
  have hml : c.maxLocals = 2 := hml0
  have hown : s.vm.findClass "java/lang/Throwable" = some m.cls := findClass_of_methodNamed Bd.named
  have hnm := (name_of_methodNamed Bd.named Bd.method).1
  have X0 : Stand p l e ({ frames := 3, cells := 1, slots := 2752, locals := 42 } : Room) s m #[(.ref a1), (.ref a2)] below meth c s₁ [] 0 0 := Stand.of_body Bd
  have e0 : s₁.heap = h0 := by rw [← hh, Bd.state]; rfl
  have N0 := Fr.nil n0
  obtain ⟨hTK, hBl⟩ := hK
  have CR0 := CHr.refl HV0
  refine Go.start (P := (fun o U' => ∃ v L, o = .returned v ∧ (Q_rm35_1 Z a1 a2 a3 a4 h0 n0 v U'.heap L ∧ CHr Z consts_1 s.vm s.heap U'.vm U'.heap) ∧ ReturnedEndW s o U' L ({ frames := 3, cells := 1, slots := 2752, locals := 42 } : Room).cells ({ frames := 3, cells := 1, slots := 2752, locals := 42 } : Room).slots)) (castTop (g' := (mkF m 0 #[.val (.ref a1), .val (.ref a2)] [])) (by first | rfl | simp [entryFrame, mkF, argsToLocals, Value.category]) (T := s₁)) ?_
  refine Go.st (fun t k => XS.aloadN X0.here hx rfl (hb hby d35_0) rfl rfl k) ?_
  show Go p e below _ (s₁.setTop (mkF m 1 #[.val (.ref a1), .val (.ref a2)] [(.ref a1)]))
  obtain ⟨T1, X1, e1, st1⟩ := initO X0 hx hZ hown (w183 hw) (w22 hw) (w23 hw) e0 (g := (mkF m 1 #[.val (.ref a1), .val (.ref a2)] [(.ref a1)])) rfl (by rw [hml]; rfl) rfl (hb hby d35_1) (by decide) (W := 0) (by show 2 * 0 + _ ≤ _; exact Nat.le_of_eq rfl) (by decide)
  refine Go.st st1 ?_
  show Go p e below _ (T1.setTop (mkF m 4 #[.val (.ref a1), .val (.ref a2)] []))
  refine Go.st (fun t k => XS.aloadN X1.here hx rfl (hb hby d35_4) rfl rfl k) ?_
  show Go p e below _ (T1.setTop (mkF m 5 #[.val (.ref a1), .val (.ref a2)] [(.ref a1)]))
  refine Go.st (fun t k => XS.aloadN X1.here hx rfl (hb hby d35_5) rfl rfl k) ?_
  show Go p e below _ (T1.setTop (mkF m 6 #[.val (.ref a1), .val (.ref a2)] [(.ref a1), (.ref a1)]))
  obtain ⟨T2, h2, X2, e2, W2, st2⟩ := putF X1 hx hZ hown (host := "") (Or.inl (w184 hw)) Via.refl e1 P2 P1 (Or.inl (w185 hw)) (w44 hw) (ty := (.object "java/lang/Throwable")) (by decide) rfl rfl (g := (mkF m 6 #[.val (.ref a1), .val (.ref a2)] [(.ref a1), (.ref a1)])) rfl rfl (hb hby d35_6)
  have F2 : Fld Z h2 a1 "java/lang/Throwable" "cause" "Ljava/lang/Throwable;" (.ref a1) := P2.same W2
  have N2 := Fr.snoc X2 N0 P3
  have SW2 : Safe Z consts_1 s.vm h0 a1 := (Safe.exa hZ.alike P1 (by decide) (by decide))
  have C2 : CHr Z consts_1 s.vm h0 s.vm h2 := CR0.trans (CHr.wr W2 SW2 CR0.1)
  have O2 : Old Z n0 h2 := O0.wr W2 P3
  have K2 : Keep h0 h2 [a1] := (Keep.refl h0 [a1]).wr W2 (Or.inl (List.mem_of_getElem? (i := 0) rfl))
  refine Go.st st2 ?_
  show Go p e below _ (T2.setTop (mkF m 9 #[.val (.ref a1), .val (.ref a2)] []))
  refine Go.st (fun t k => XS.aloadN X2.here hx rfl (hb hby d35_9) rfl rfl k) ?_
  show Go p e below _ (T2.setTop (mkF m 10 #[.val (.ref a1), .val (.ref a2)] [(.ref a1)]))
  obtain ⟨T3, X3, e3, st3⟩ := getS2 X2 hx hZ hown (host := "") (Or.inl (w186 hw)) Via.refl e2 (P4.ext O2.2) (g := (mkF m 10 #[.val (.ref a1), .val (.ref a2)] [(.ref a1)])) rfl (hb hby d35_10)
  refine Go.st st3 ?_
  show Go p e below _ (T3.setTop (mkF m 13 #[.val (.ref a1), .val (.ref a2)] [(.ref a3), (.ref a1)]))
  have c4 := (P5.other W2 (Or.inr (slot_ne (Or.inl (w188 hw)) (Or.inl (w185 hw)) (by decide) (t := (.array (.object "java/lang/StackTraceElement"))) (t' := (.object "java/lang/Throwable")) (by decide) (by decide))))
  obtain ⟨T5, h5, X5, e5, W5, st5⟩ := putF X3 hx hZ hown (host := "") (Or.inl (w187 hw)) Via.refl e3 c4 (P1.wr W2) (Or.inl (w188 hw)) (w44 hw) (ty := (.array (.object "java/lang/StackTraceElement"))) (by decide) rfl rfl (g := (mkF m 13 #[.val (.ref a1), .val (.ref a2)] [(.ref a3), (.ref a1)])) rfl rfl (hb hby d35_13)
  have F5 : Fld Z h5 a1 "java/lang/Throwable" "stackTrace" "[Ljava/lang/StackTraceElement;" (.ref a3) := c4.same W5
  have N5 := Fr.snoc X5 N2 P3
  have SW5 : Safe Z consts_1 s.vm h2 a1 := (Safe.exa hZ.alike (P1.wr W2) (by decide) (by decide))
  have C5 : CHr Z consts_1 s.vm h0 s.vm h5 := C2.trans (CHr.wr W5 SW5 C2.1)
  have O5 : Old Z n0 h5 := O2.wr W5 P3
  have K5 : Keep h0 h5 [a1] := K2.wr W5 (Or.inl (List.mem_of_getElem? (i := 0) rfl))
  refine Go.st st5 ?_
  show Go p e below _ (T5.setTop (mkF m 16 #[.val (.ref a1), .val (.ref a2)] []))
  refine Go.st (fun t k => XS.aloadN X5.here hx rfl (hb hby d35_16) rfl rfl k) ?_
  show Go p e below _ (T5.setTop (mkF m 17 #[.val (.ref a1), .val (.ref a2)] [(.ref a1)]))
  obtain ⟨T6, X6, e6, st6⟩ := getS2 X5 hx hZ hown (host := "") (Or.inl (w189 hw)) Via.refl e5 (P6.ext O5.2) (g := (mkF m 17 #[.val (.ref a1), .val (.ref a2)] [(.ref a1)])) rfl (hb hby d35_17)
  refine Go.st st6 ?_
  show Go p e below _ (T6.setTop (mkF m 20 #[.val (.ref a1), .val (.ref a2)] [(.ref a4), (.ref a1)]))
  have c7 := ((P7.other W2 (Or.inr (slot_ne (Or.inl (w191 hw)) (Or.inl (w185 hw)) (by decide) (t := (.object "java/util/List")) (t' := (.object "java/lang/Throwable")) (by decide) (by decide)))).other W5 (Or.inr (slot_ne (Or.inl (w191 hw)) (Or.inl (w188 hw)) (by decide) (t := (.object "java/util/List")) (t' := (.array (.object "java/lang/StackTraceElement"))) (by decide) (by decide))))
  obtain ⟨T8, h8, X8, e8, W8, st8⟩ := putF X6 hx hZ hown (host := "") (Or.inl (w190 hw)) Via.refl e6 c7 ((P1.wr W2).wr W5) (Or.inl (w191 hw)) (w44 hw) (ty := (.object "java/util/List")) (by decide) rfl rfl (g := (mkF m 20 #[.val (.ref a1), .val (.ref a2)] [(.ref a4), (.ref a1)])) rfl rfl (hb hby d35_20)
  have F8 : Fld Z h8 a1 "java/lang/Throwable" "suppressedExceptions" "Ljava/util/List;" (.ref a4) := c7.same W8
  have N8 := Fr.snoc X8 N5 P3
  have SW8 : Safe Z consts_1 s.vm h5 a1 := (Safe.exa hZ.alike ((P1.wr W2).wr W5) (by decide) (by decide))
  have C8 : CHr Z consts_1 s.vm h0 s.vm h8 := C5.trans (CHr.wr W8 SW8 C5.1)
  have O8 : Old Z n0 h8 := O5.wr W8 P3
  have K8 : Keep h0 h8 [a1] := K5.wr W8 (Or.inl (List.mem_of_getElem? (i := 0) rfl))
  refine Go.st st8 ?_
  show Go p e below _ (T8.setTop (mkF m 23 #[.val (.ref a1), .val (.ref a2)] []))
  refine Go.st (fun t k => XS.aloadN X8.here hx rfl (hb hby d35_23) rfl rfl k) ?_
  show Go p e below _ (T8.setTop (mkF m 24 #[.val (.ref a1), .val (.ref a2)] [(.ref a1)]))
  have c9 := (((P10.other W2 (Or.inr (slot_ne (Or.inl (w216 hw)) (Or.inl (w185 hw)) (by decide) (t := (.object "java/lang/Object")) (t' := (.object "java/lang/Throwable")) (by decide) (by decide)))).other W5 (Or.inr (slot_ne (Or.inl (w216 hw)) (Or.inl (w188 hw)) (by decide) (t := (.object "java/lang/Object")) (t' := (.array (.object "java/lang/StackTraceElement"))) (by decide) (by decide)))).other W8 (Or.inr (slot_ne (Or.inl (w216 hw)) (Or.inl (w191 hw)) (by decide) (t := (.object "java/lang/Object")) (t' := (.object "java/util/List")) (by decide) (by decide))))
  have c10 := (F5.other W8 (Or.inr (slot_ne (Or.inl (w188 hw)) (Or.inl (w191 hw)) (by decide) (t := (.array (.object "java/lang/StackTraceElement"))) (t' := (.object "java/util/List")) (by decide) (by decide))))
  have c11 := ((F2.other W5 (Or.inr (slot_ne (Or.inl (w185 hw)) (Or.inl (w188 hw)) (by decide) (t := (.object "java/lang/Throwable")) (t' := (.array (.object "java/lang/StackTraceElement"))) (by decide) (by decide)))).other W8 (Or.inr (slot_ne (Or.inl (w185 hw)) (Or.inl (w191 hw)) (by decide) (t := (.object "java/lang/Throwable")) (t' := (.object "java/util/List")) (by decide) (by decide))))
  have c12 := (((P11.other W2 (Or.inr (slot_ne (Or.inl (w215 hw)) (Or.inl (w185 hw)) (by decide) (t := (.object "java/lang/String")) (t' := (.object "java/lang/Throwable")) (by decide) (by decide)))).other W5 (Or.inr (slot_ne (Or.inl (w215 hw)) (Or.inl (w188 hw)) (by decide) (t := (.object "java/lang/String")) (t' := (.array (.object "java/lang/StackTraceElement"))) (by decide) (by decide)))).other W8 (Or.inr (slot_ne (Or.inl (w215 hw)) (Or.inl (w191 hw)) (by decide) (t := (.object "java/lang/String")) (t' := (.object "java/util/List")) (by decide) (by decide))))
  have c13 := (((P13.other W2 (Or.inr (slot_ne (Or.inr (w227 hw)) (Or.inl (w185 hw)) (by decide) (t := (.object "java/lang/String")) (t' := (.object "java/lang/Throwable")) (by decide) (by decide)))).other W5 (Or.inr (slot_ne (Or.inr (w227 hw)) (Or.inl (w188 hw)) (by decide) (t := (.object "java/lang/String")) (t' := (.array (.object "java/lang/StackTraceElement"))) (by decide) (by decide)))).other W8 (Or.inr (slot_ne (Or.inr (w227 hw)) (Or.inl (w191 hw)) (by decide) (t := (.object "java/lang/String")) (t' := (.object "java/util/List")) (by decide) (by decide))))
  have c14 := (((P14.other W2 (Or.inr (slot_ne (Or.inr (w230 hw)) (Or.inl (w185 hw)) (by decide) (t := (.object "java/lang/String")) (t' := (.object "java/lang/Throwable")) (by decide) (by decide)))).other W5 (Or.inr (slot_ne (Or.inr (w230 hw)) (Or.inl (w188 hw)) (by decide) (t := (.object "java/lang/String")) (t' := (.array (.object "java/lang/StackTraceElement"))) (by decide) (by decide)))).other W8 (Or.inr (slot_ne (Or.inr (w230 hw)) (Or.inl (w191 hw)) (by decide) (t := (.object "java/lang/String")) (t' := (.object "java/util/List")) (by decide) (by decide))))
  have TS0 : ThS Z s.heap := by rw [hh]; exact ThS.ext O0.2 ThS.start
  obtain ⟨T15, h15, Lf15, X15, e15, Lb15, K15c, FF15, st15⟩ := own_fill X8 hx HL hZ hown (rc := "com/example/lease/lease/core/InvalidFieldException") (n := 8) (own_TWw hw) (w44 hw) TS0 hTK hBl e8 (((P1.wr W2).wr W5).wr W8) (((P9.wr W2).wr W5).wr W8) c9 (u := (.ref a3)) rfl c10 (P4.ext O8.2) hh K8 (W8.size.trans (W5.size.trans W2.size)) (fun y hy => by simp only [List.nil_append, List.cons_append, List.append_assoc, List.mem_append, List.mem_cons, List.not_mem_nil, or_false, false_or] at hy; rcases hy with rfl | rfl | rfl <;> rfl) (g := (mkF m 24 #[.val (.ref a1), .val (.ref a2)] [(.ref a1)])) rfl (by rw [hml]; rfl) (rest := []) rfl (hb hby d35_24) (by decide) (V := 0) (by show 2 * 0 + _ ≤ _; exact Nat.le_of_eq rfl) (by decide) (by decide) (by decide)
  have N15 := Fr.app N8 (fun y hy => by rw [Lb15 y hy]; exact P3)
  have SK15 : ∀ y ∈ ([a1] : List Addr), Safe Z consts_1 s.vm h8 y := (sfS (Safe.exa hZ.alike (((P1.wr W2).wr W5).wr W8) (by decide) (by decide)) sf0)
  have C15 : CHr Z consts_1 s.vm h0 s.vm h15 := C8.trans (CHr.keep K15c SK15 C8.1)
  have O15 : Old Z n0 h15 := O8.keep K15c (allS P3 all0)
  have K15 : Keep h0 h15 [a1] := K8.trans K15c (allS (Or.inl (List.mem_of_getElem? (i := 0) rfl)) all0)
  have F15_cause : Fld Z h15 a1 "java/lang/Throwable" "cause" "Ljava/lang/Throwable;" (.ref a1) := FF15 c11 (slot_ne (Or.inl (w216 hw)) (Or.inl (w185 hw)) (by decide) (t := (.object "java/lang/Object")) (t' := (.object "java/lang/Throwable")) (by decide) (by decide)) (slot_ne (Or.inl (w217 hw)) (Or.inl (w185 hw)) (by decide) (t := .int) (t' := (.object "java/lang/Throwable")) (by decide) (by decide)) (slot_ne (Or.inl (w188 hw)) (Or.inl (w185 hw)) (by decide) (t := (.array (.object "java/lang/StackTraceElement"))) (t' := (.object "java/lang/Throwable")) (by decide) (by decide))
  have F15_suppressedExceptions : Fld Z h15 a1 "java/lang/Throwable" "suppressedExceptions" "Ljava/util/List;" (.ref a4) := FF15 F8 (slot_ne (Or.inl (w216 hw)) (Or.inl (w191 hw)) (by decide) (t := (.object "java/lang/Object")) (t' := (.object "java/util/List")) (by decide) (by decide)) (slot_ne (Or.inl (w217 hw)) (Or.inl (w191 hw)) (by decide) (t := .int) (t' := (.object "java/util/List")) (by decide) (by decide)) (slot_ne (Or.inl (w188 hw)) (Or.inl (w191 hw)) (by decide) (t := (.array (.object "java/lang/StackTraceElement"))) (t' := (.object "java/util/List")) (by decide) (by decide))
  have F15_detailMessage : Fld Z h15 a1 "java/lang/Throwable" "detailMessage" "Ljava/lang/String;" .null := FF15 c12 (slot_ne (Or.inl (w216 hw)) (Or.inl (w215 hw)) (by decide) (t := (.object "java/lang/Object")) (t' := (.object "java/lang/String")) (by decide) (by decide)) (slot_ne (Or.inl (w217 hw)) (Or.inl (w215 hw)) (by decide) (t := .int) (t' := (.object "java/lang/String")) (by decide) (by decide)) (slot_ne (Or.inl (w188 hw)) (Or.inl (w215 hw)) (by decide) (t := (.array (.object "java/lang/StackTraceElement"))) (t' := (.object "java/lang/String")) (by decide) (by decide))
  have F15_field : Fld Z h15 a1 "com/example/lease/lease/core/InvalidFieldException" "field" "Ljava/lang/String;" .null := FF15 c13 (slot_ne (Or.inl (w216 hw)) (Or.inr (w227 hw)) (by decide) (t := (.object "java/lang/Object")) (t' := (.object "java/lang/String")) (by decide) (by decide)) (slot_ne (Or.inl (w217 hw)) (Or.inr (w227 hw)) (by decide) (t := .int) (t' := (.object "java/lang/String")) (by decide) (by decide)) (slot_ne (Or.inl (w188 hw)) (Or.inr (w227 hw)) (by decide) (t := (.array (.object "java/lang/StackTraceElement"))) (t' := (.object "java/lang/String")) (by decide) (by decide))
  have F15_reason : Fld Z h15 a1 "com/example/lease/lease/core/InvalidFieldException" "reason" "Ljava/lang/String;" .null := FF15 c14 (slot_ne (Or.inl (w216 hw)) (Or.inr (w230 hw)) (by decide) (t := (.object "java/lang/Object")) (t' := (.object "java/lang/String")) (by decide) (by decide)) (slot_ne (Or.inl (w217 hw)) (Or.inr (w230 hw)) (by decide) (t := .int) (t' := (.object "java/lang/String")) (by decide) (by decide)) (slot_ne (Or.inl (w188 hw)) (Or.inr (w230 hw)) (by decide) (t := (.array (.object "java/lang/StackTraceElement"))) (t' := (.object "java/lang/String")) (by decide) (by decide))
  refine Go.st st15 ?_
  show Go p e below _ (T15.setTop (mkF m 27 #[.val (.ref a1), .val (.ref a2)] [(.ref a1)]))
  refine Go.st (fun t k => XS.pop X15.here hx rfl (hb hby d35_27) rfl rfl k) ?_
  show Go p e below _ (T15.setTop (mkF m 28 #[.val (.ref a1), .val (.ref a2)] []))
  refine Go.st (fun t k => XS.aloadN X15.here hx rfl (hb hby d35_28) rfl rfl k) ?_
  show Go p e below _ (T15.setTop (mkF m 29 #[.val (.ref a1), .val (.ref a2)] [(.ref a1)]))
  refine Go.st (fun t k => XS.aloadN X15.here hx rfl (hb hby d35_29) rfl rfl k) ?_
  show Go p e below _ (T15.setTop (mkF m 30 #[.val (.ref a1), .val (.ref a2)] [(.ref a2), (.ref a1)]))
  obtain ⟨T16, h16, X16, e16, W16, st16⟩ := putF X15 hx hZ hown (host := "") (Or.inl (w219 hw)) Via.refl e15 F15_detailMessage ((((P1.wr W2).wr W5).wr W8).keep K15c) (Or.inl (w215 hw)) (w44 hw) (ty := (.object "java/lang/String")) (by decide) rfl rfl (g := (mkF m 30 #[.val (.ref a1), .val (.ref a2)] [(.ref a2), (.ref a1)])) rfl rfl (hb hby d35_30)
  have F16 : Fld Z h16 a1 "java/lang/Throwable" "detailMessage" "Ljava/lang/String;" (.ref a2) := F15_detailMessage.same W16
  have N16 := Fr.snoc X16 N15 P3
  have SW16 : Safe Z consts_1 s.vm h15 a1 := (Safe.exa hZ.alike ((((P1.wr W2).wr W5).wr W8).keep K15c) (by decide) (by decide))
  have C16 : CHr Z consts_1 s.vm h0 s.vm h16 := C15.trans (CHr.wr W16 SW16 C15.1)
  have O16 : Old Z n0 h16 := O15.wr W16 P3
  have K16 : Keep h0 h16 [a1] := K15.wr W16 (Or.inl (List.mem_of_getElem? (i := 0) rfl))
  refine Go.st st16 ?_
  show Go p e below _ (T16.setTop (mkF m 33 #[.val (.ref a1), .val (.ref a2)] []))
  obtain ⟨fs, hr, hrun, hended, hWd, hsame⟩ := X16.leave (v := none) (fun _ => rfl)
  have c17 := (F15_cause.other W16 (Or.inr (slot_ne (Or.inl (w185 hw)) (Or.inl (w215 hw)) (by decide) (t := (.object "java/lang/Throwable")) (t' := (.object "java/lang/String")) (by decide) (by decide))))
  have c18 := (F15_suppressedExceptions.other W16 (Or.inr (slot_ne (Or.inl (w191 hw)) (Or.inl (w215 hw)) (by decide) (t := (.object "java/util/List")) (t' := (.object "java/lang/String")) (by decide) (by decide))))
  have c19 := (F15_field.other W16 (Or.inr (slot_ne (Or.inr (w227 hw)) (Or.inl (w215 hw)) (by decide) (t := (.object "java/lang/String")) (t' := (.object "java/lang/String")) (by decide) (by decide))))
  have c20 := (F15_reason.other W16 (Or.inr (slot_ne (Or.inr (w230 hw)) (Or.inl (w215 hw)) (by decide) (t := (.object "java/lang/String")) (t' := (.object "java/lang/String")) (by decide) (by decide))))
  refine ⟨_, _, ?_, hrun, hended, _, _, rfl, ?_, (ReturnedEndW.of_narrow ⟨_, rfl⟩ hWd (hsame.mono (by decide) (by decide)))⟩
  · exact X16.returnOut hx Bd.returns (hb hby d35_33) hr
  · show Q_rm35_1 Z a1 a2 a3 a4 h0 n0 _ T16.heap _ ∧ CHr Z consts_1 s.vm s.heap T16.vm T16.heap
    rw [hh, e16]
    exact ⟨⟨rfl, N16, K16, c17, c18, F16, c19, c20⟩, C16.trans (own_chX (s := s) X16 hZ (own_EW hw) C16.1)⟩
def Q_rm34_1 (Z : State) (a1 : Addr) (a2 : Addr) (a3 : Addr) (a4 : Addr) (h0 : Heap) (n0 : Nat) (v : Option Value) (h : Heap) (L : List Loc) : Prop := v = none ∧ Fr n0 L ∧ Keep h0 h [a1] ∧ Fld Z h a1 "java/lang/Throwable" "cause" "Ljava/lang/Throwable;" (.ref a1) ∧ Fld Z h a1 "java/lang/Throwable" "suppressedExceptions" "Ljava/util/List;" (.ref a4) ∧ Fld Z h a1 "java/lang/Throwable" "detailMessage" "Ljava/lang/String;" (.ref a2) ∧ Fld Z h a1 "com/example/lease/lease/core/InvalidFieldException" "field" "Ljava/lang/String;" .null ∧ Fld Z h a1 "com/example/lease/lease/core/InvalidFieldException" "reason" "Ljava/lang/String;" .null
set_option maxRecDepth 65536 in
set_option maxHeartbeats 40000000 in
theorem rm34_1 (l : Launch) (Z : State) (a0 : Array Value) (hw : ∀ d ∈ tables_1, d.before a0 Z = true) (ws : List Jvm.Cond) (a1 : Addr) (a2 : Addr) (a3 : Addr) (a4 : Addr) (h0 : Heap) (n0 : Nat) (O0 : Old Z n0 h0) (P1 : Exa Z h0 a1 "com/example/lease/lease/core/InvalidFieldException") (P2 : Fld Z h0 a1 "java/lang/Throwable" "cause" "Ljava/lang/Throwable;" .null) (P3 : n0 ≤ a1) (P4 : Sta Z Z.heap "java/lang/Throwable" "UNASSIGNED_STACK" "[Ljava/lang/StackTraceElement;" (.ref a3)) (P5 : Fld Z h0 a1 "java/lang/Throwable" "stackTrace" "[Ljava/lang/StackTraceElement;" .null) (P6 : Sta Z Z.heap "java/lang/Throwable" "SUPPRESSED_SENTINEL" "Ljava/util/List;" (.ref a4)) (P7 : Fld Z h0 a1 "java/lang/Throwable" "suppressedExceptions" "Ljava/util/List;" .null) (HL : l.stackTraces = true) (P9 : Unt h0 a1) (P10 : Fld Z h0 a1 "java/lang/Throwable" "backtrace" "Ljava/lang/Object;" .null) (P11 : Fld Z h0 a1 "java/lang/Throwable" "detailMessage" "Ljava/lang/String;" .null) (P12 : Fld Z h0 a1 "java/lang/Throwable" "depth" "I" (.int (0 : Int32))) (P13 : Fld Z h0 a1 "com/example/lease/lease/core/InvalidFieldException" "field" "Ljava/lang/String;" .null) (P14 : Fld Z h0 a1 "com/example/lease/lease/core/InvalidFieldException" "reason" "Ljava/lang/String;" .null) :
    MetFree l (⟨"java/lang/Exception", "<init>", "(Ljava/lang/String;)V"⟩ : MethodName) (head1 (Jvm.Cond.code (⟨"java/lang/Exception", "<init>", "(Ljava/lang/String;)V"⟩ : MethodName) jdk_59_method_2_code 2 none :: ws) ({ frames := 4, cells := 1, slots := 2752, locals := 55 } : Room)) (fun a U => a = #[(.ref a1), (.ref a2)] ∧ Z.Warmed39 U.vm ∧ U.heap = h0 ∧ CHv Z consts_1 U.vm h0) (fun _ _ bl s _ => s.vm.MethodsKnown ∧ s.vm.FramesKnown bl) (fun _ U o U' => ∃ v L, o = .returned v ∧ (Q_rm34_1 Z a1 a2 a3 a4 h0 n0 v U'.heap L ∧ CHr Z consts_1 U.vm U.heap U'.vm U'.heap) ∧ ReturnedEndW U o U' L ({ frames := 4, cells := 1, slots := 2752, locals := 55 } : Room).cells ({ frames := 4, cells := 1, slots := 2752, locals := 55 } : Room).slots) := by
  refine MetFree.of_bodySF (plainFor_of_name pn_6) hisR ?_
  intro p e s m args below meth c s₁ Bd hml0 hP hK
  obtain ⟨rfl, hZ, hh, HV0⟩ := hP
  have hx := Bd.exec
  have hby := Bd.bytes
  have hml : c.maxLocals = 2 := hml0
  have hown : s.vm.findClass "java/lang/Exception" = some m.cls := findClass_of_methodNamed Bd.named
  have hnm := (name_of_methodNamed Bd.named Bd.method).1
  have X0 : Stand p l e ({ frames := 4, cells := 1, slots := 2752, locals := 55 } : Room) s m #[(.ref a1), (.ref a2)] below meth c s₁ [] 0 0 := Stand.of_body Bd
  have e0 : s₁.heap = h0 := by rw [← hh, Bd.state]; rfl
  have N0 := Fr.nil n0
  obtain ⟨hTK, hBl⟩ := hK
  have CR0 := CHr.refl HV0
  refine Go.start (P := (fun o U' => ∃ v L, o = .returned v ∧ (Q_rm34_1 Z a1 a2 a3 a4 h0 n0 v U'.heap L ∧ CHr Z consts_1 s.vm s.heap U'.vm U'.heap) ∧ ReturnedEndW s o U' L ({ frames := 4, cells := 1, slots := 2752, locals := 55 } : Room).cells ({ frames := 4, cells := 1, slots := 2752, locals := 55 } : Room).slots)) (castTop (g' := (mkF m 0 #[.val (.ref a1), .val (.ref a2)] [])) (by first | rfl | simp [entryFrame, mkF, argsToLocals, Value.category]) (T := s₁)) ?_
  refine Go.st (fun t k => XS.aloadN X0.here hx rfl (hb hby d34_0) rfl rfl k) ?_
  show Go p e below _ (s₁.setTop (mkF m 1 #[.val (.ref a1), .val (.ref a2)] [(.ref a1)]))
  refine Go.st (fun t k => XS.aloadN X0.here hx rfl (hb hby d34_1) rfl rfl k) ?_
  show Go p e below _ (s₁.setTop (mkF m 2 #[.val (.ref a1), .val (.ref a2)] [(.ref a2), (.ref a1)]))
  obtain ⟨_, _, ⟨T1, L1, k1, n1⟩, -, X1, hS1, hg1, ⟨Lc1, hQ1, l1, y1, z1⟩, st1⟩ := X0.specialBackS hx (y := (⟨"java/lang/Throwable", "<init>", "(Ljava/lang/String;)V"⟩ : MethodName)) rfl hown (mvT hZ (w177 hw)) (mvT hZ (w178 hw)) (mvT hZ (w182 hw)) (by decide) (own_backH (VP := fun vm => CHv Z consts_1 vm h0) (Q := Q_rm35_1 Z a1 a2 a3 a4 h0 n0) (rm := ({ frames := 3, cells := 1, slots := 2752, locals := 42 } : Room)) (W := 0) (rm35_1 l Z a0 hw [] a1 a2 a3 a4 h0 n0 O0 P1 P2 P3 P4 P5 P6 P7 HL P9 P10 P11 P12 P13 P14) hZ (w182 hw) (w181 hw) (by decide) (by decide) (own_EW hw) CR0.1 hTK hBl) (g := (mkF m 2 #[.val (.ref a1), .val (.ref a2)] [(.ref a2), (.ref a1)])) rfl (by rw [hml]; rfl) (Steps.refl _) (a := a1) (argsL := [(.ref a2)]) (rest := []) (lenOf pd_9 rfl) rfl (by show 2 * 0 + _ ≤ _; exact Nat.le_of_eq rfl) (hb hby d34_2) (fun vm₁ hw₁ => ⟨rfl, e0, ((own_chW hZ (own_EW hw) hw₁ CR0.1).1), (by decide : 0 + 1 ≤ _), (by decide : 0 + 2752 ≤ _)⟩)
  dsimp only [Pt.U, Pt.locs, Pt.cells, Pt.slots] at X1 l1 y1 z1 st1 hQ1 hS1 hg1
  subst l1 y1 z1
  have hZ : Z.Warmed39 (s.setVm T1.vm).vm := State.Warmed39.trans (t := s) hZ hS1.1
  have hown : (s.setVm T1.vm).vm.findClass "java/lang/Exception" = some m.cls := by rw [show (s.setVm T1.vm).vm = T1.vm from rfl, hS1.1.alike.findClass]; exact hown
  have hS10 := hS1.1
  obtain ⟨hQ1, HC1⟩ := hQ1
  obtain ⟨rfl, M1, K1c, r1_0, r1_1, r1_2, r1_3, r1_4⟩ := hQ1
  have N1 := Fr.app N0 M1
  have C1 : CHr Z consts_1 s.vm h0 T1.vm T1.heap := CR0.trans HC1
  have O1 : Old Z n0 T1.heap := O0.keep K1c (allS P3 all0)
  have K1 : Keep h0 T1.heap [a1] := (Keep.refl h0 [a1]).trans K1c (allS (Or.inl (List.mem_of_getElem? (i := 0) rfl)) all0)
  refine Go.tr st1 ?_
  show Go p e below _ (T1.setTop (mkF m 5 #[.val (.ref a1), .val (.ref a2)] []))
  obtain ⟨fs, hr, hrun, hended, hEnd⟩ := X1.leaveW hS1 (Nat.le_refl _) (v := none) (fun _ => rfl)
  refine ⟨_, _, ?_, hrun, hended, _, _, rfl, ?_, ⟨hEnd.1, hEnd.2.1, hEnd.2.2.1, hEnd.2.2.2.mono (by decide) (by decide)⟩⟩
  · exact X1.returnOut hx Bd.returns (hb hby d34_5) hr
  · show Q_rm34_1 Z a1 a2 a3 a4 h0 n0 _ T1.heap _ ∧ CHr Z consts_1 s.vm s.heap T1.vm T1.heap
    rw [hh]
    exact ⟨⟨rfl, N1, K1, r1_0, r1_1, r1_2, r1_3, r1_4⟩, C1.trans (own_chX (s := (s.setVm T1.vm)) X1 hZ (own_EW hw) C1.1)⟩
def Q_rm33_1 (Z : State) (a1 : Addr) (a2 : Addr) (a3 : Addr) (a4 : Addr) (h0 : Heap) (n0 : Nat) (v : Option Value) (h : Heap) (L : List Loc) : Prop := v = none ∧ Fr n0 L ∧ Keep h0 h [a1] ∧ Fld Z h a1 "java/lang/Throwable" "cause" "Ljava/lang/Throwable;" (.ref a1) ∧ Fld Z h a1 "java/lang/Throwable" "suppressedExceptions" "Ljava/util/List;" (.ref a4) ∧ Fld Z h a1 "java/lang/Throwable" "detailMessage" "Ljava/lang/String;" (.ref a2) ∧ Fld Z h a1 "com/example/lease/lease/core/InvalidFieldException" "field" "Ljava/lang/String;" .null ∧ Fld Z h a1 "com/example/lease/lease/core/InvalidFieldException" "reason" "Ljava/lang/String;" .null
set_option maxRecDepth 65536 in
set_option maxHeartbeats 40000000 in
theorem rm33_1 (l : Launch) (Z : State) (a0 : Array Value) (hw : ∀ d ∈ tables_1, d.before a0 Z = true) (ws : List Jvm.Cond) (a1 : Addr) (a2 : Addr) (a3 : Addr) (a4 : Addr) (h0 : Heap) (n0 : Nat) (O0 : Old Z n0 h0) (P1 : Exa Z h0 a1 "com/example/lease/lease/core/InvalidFieldException") (P2 : Fld Z h0 a1 "java/lang/Throwable" "cause" "Ljava/lang/Throwable;" .null) (P3 : n0 ≤ a1) (P4 : Sta Z Z.heap "java/lang/Throwable" "UNASSIGNED_STACK" "[Ljava/lang/StackTraceElement;" (.ref a3)) (P5 : Fld Z h0 a1 "java/lang/Throwable" "stackTrace" "[Ljava/lang/StackTraceElement;" .null) (P6 : Sta Z Z.heap "java/lang/Throwable" "SUPPRESSED_SENTINEL" "Ljava/util/List;" (.ref a4)) (P7 : Fld Z h0 a1 "java/lang/Throwable" "suppressedExceptions" "Ljava/util/List;" .null) (HL : l.stackTraces = true) (P9 : Unt h0 a1) (P10 : Fld Z h0 a1 "java/lang/Throwable" "backtrace" "Ljava/lang/Object;" .null) (P11 : Fld Z h0 a1 "java/lang/Throwable" "detailMessage" "Ljava/lang/String;" .null) (P12 : Fld Z h0 a1 "java/lang/Throwable" "depth" "I" (.int (0 : Int32))) (P13 : Fld Z h0 a1 "com/example/lease/lease/core/InvalidFieldException" "field" "Ljava/lang/String;" .null) (P14 : Fld Z h0 a1 "com/example/lease/lease/core/InvalidFieldException" "reason" "Ljava/lang/String;" .null) :
    MetFree l (⟨"java/lang/RuntimeException", "<init>", "(Ljava/lang/String;)V"⟩ : MethodName) (head1 (Jvm.Cond.code (⟨"java/lang/RuntimeException", "<init>", "(Ljava/lang/String;)V"⟩ : MethodName) jdk_58_method_2_code 2 none :: ws) ({ frames := 5, cells := 1, slots := 2752, locals := 68 } : Room)) (fun a U => a = #[(.ref a1), (.ref a2)] ∧ Z.Warmed39 U.vm ∧ U.heap = h0 ∧ CHv Z consts_1 U.vm h0) (fun _ _ bl s _ => s.vm.MethodsKnown ∧ s.vm.FramesKnown bl) (fun _ U o U' => ∃ v L, o = .returned v ∧ (Q_rm33_1 Z a1 a2 a3 a4 h0 n0 v U'.heap L ∧ CHr Z consts_1 U.vm U.heap U'.vm U'.heap) ∧ ReturnedEndW U o U' L ({ frames := 5, cells := 1, slots := 2752, locals := 68 } : Room).cells ({ frames := 5, cells := 1, slots := 2752, locals := 68 } : Room).slots) := by
  refine MetFree.of_bodySF (plainFor_of_name pn_7) hisR ?_
  intro p e s m args below meth c s₁ Bd hml0 hP hK
  obtain ⟨rfl, hZ, hh, HV0⟩ := hP
  have hx := Bd.exec
  have hby := Bd.bytes
  have hml : c.maxLocals = 2 := hml0
  have hown : s.vm.findClass "java/lang/RuntimeException" = some m.cls := findClass_of_methodNamed Bd.named
  have hnm := (name_of_methodNamed Bd.named Bd.method).1
  have X0 : Stand p l e ({ frames := 5, cells := 1, slots := 2752, locals := 68 } : Room) s m #[(.ref a1), (.ref a2)] below meth c s₁ [] 0 0 := Stand.of_body Bd
  have e0 : s₁.heap = h0 := by rw [← hh, Bd.state]; rfl
  have N0 := Fr.nil n0
  obtain ⟨hTK, hBl⟩ := hK
  have CR0 := CHr.refl HV0
  refine Go.start (P := (fun o U' => ∃ v L, o = .returned v ∧ (Q_rm33_1 Z a1 a2 a3 a4 h0 n0 v U'.heap L ∧ CHr Z consts_1 s.vm s.heap U'.vm U'.heap) ∧ ReturnedEndW s o U' L ({ frames := 5, cells := 1, slots := 2752, locals := 68 } : Room).cells ({ frames := 5, cells := 1, slots := 2752, locals := 68 } : Room).slots)) (castTop (g' := (mkF m 0 #[.val (.ref a1), .val (.ref a2)] [])) (by first | rfl | simp [entryFrame, mkF, argsToLocals, Value.category]) (T := s₁)) ?_
  refine Go.st (fun t k => XS.aloadN X0.here hx rfl (hb hby d33_0) rfl rfl k) ?_
  show Go p e below _ (s₁.setTop (mkF m 1 #[.val (.ref a1), .val (.ref a2)] [(.ref a1)]))
  refine Go.st (fun t k => XS.aloadN X0.here hx rfl (hb hby d33_1) rfl rfl k) ?_
  show Go p e below _ (s₁.setTop (mkF m 2 #[.val (.ref a1), .val (.ref a2)] [(.ref a2), (.ref a1)]))
  obtain ⟨_, _, ⟨T1, L1, k1, n1⟩, -, X1, hS1, hg1, ⟨Lc1, hQ1, l1, y1, z1⟩, st1⟩ := X0.specialBackS hx (y := (⟨"java/lang/Exception", "<init>", "(Ljava/lang/String;)V"⟩ : MethodName)) rfl hown (mvT hZ (w171 hw)) (mvT hZ (w172 hw)) (mvT hZ (w176 hw)) (by decide) (own_backH (VP := fun vm => CHv Z consts_1 vm h0) (Q := Q_rm34_1 Z a1 a2 a3 a4 h0 n0) (rm := ({ frames := 4, cells := 1, slots := 2752, locals := 55 } : Room)) (W := 0) (rm34_1 l Z a0 hw [] a1 a2 a3 a4 h0 n0 O0 P1 P2 P3 P4 P5 P6 P7 HL P9 P10 P11 P12 P13 P14) hZ (w176 hw) (w175 hw) (by decide) (by decide) (own_EW hw) CR0.1 hTK hBl) (g := (mkF m 2 #[.val (.ref a1), .val (.ref a2)] [(.ref a2), (.ref a1)])) rfl (by rw [hml]; rfl) (Steps.refl _) (a := a1) (argsL := [(.ref a2)]) (rest := []) (lenOf pd_9 rfl) rfl (by show 2 * 0 + _ ≤ _; exact Nat.le_of_eq rfl) (hb hby d33_2) (fun vm₁ hw₁ => ⟨rfl, e0, ((own_chW hZ (own_EW hw) hw₁ CR0.1).1), (by decide : 0 + 1 ≤ _), (by decide : 0 + 2752 ≤ _)⟩)
  dsimp only [Pt.U, Pt.locs, Pt.cells, Pt.slots] at X1 l1 y1 z1 st1 hQ1 hS1 hg1
  subst l1 y1 z1
  have hZ : Z.Warmed39 (s.setVm T1.vm).vm := State.Warmed39.trans (t := s) hZ hS1.1
  have hown : (s.setVm T1.vm).vm.findClass "java/lang/RuntimeException" = some m.cls := by rw [show (s.setVm T1.vm).vm = T1.vm from rfl, hS1.1.alike.findClass]; exact hown
  have hS10 := hS1.1
  obtain ⟨hQ1, HC1⟩ := hQ1
  obtain ⟨rfl, M1, K1c, r1_0, r1_1, r1_2, r1_3, r1_4⟩ := hQ1
  have N1 := Fr.app N0 M1
  have C1 : CHr Z consts_1 s.vm h0 T1.vm T1.heap := CR0.trans HC1
  have O1 : Old Z n0 T1.heap := O0.keep K1c (allS P3 all0)
  have K1 : Keep h0 T1.heap [a1] := (Keep.refl h0 [a1]).trans K1c (allS (Or.inl (List.mem_of_getElem? (i := 0) rfl)) all0)
  refine Go.tr st1 ?_
  show Go p e below _ (T1.setTop (mkF m 5 #[.val (.ref a1), .val (.ref a2)] []))
  obtain ⟨fs, hr, hrun, hended, hEnd⟩ := X1.leaveW hS1 (Nat.le_refl _) (v := none) (fun _ => rfl)
  refine ⟨_, _, ?_, hrun, hended, _, _, rfl, ?_, ⟨hEnd.1, hEnd.2.1, hEnd.2.2.1, hEnd.2.2.2.mono (by decide) (by decide)⟩⟩
  · exact X1.returnOut hx Bd.returns (hb hby d33_5) hr
  · show Q_rm33_1 Z a1 a2 a3 a4 h0 n0 _ T1.heap _ ∧ CHr Z consts_1 s.vm s.heap T1.vm T1.heap
    rw [hh]
    exact ⟨⟨rfl, N1, K1, r1_0, r1_1, r1_2, r1_3, r1_4⟩, C1.trans (own_chX (s := (s.setVm T1.vm)) X1 hZ (own_EW hw) C1.1)⟩
def Q_rm32_1 (Z : State) (a1 : Addr) (a2 : Addr) (a3 : Addr) (a4 : Addr) (h0 : Heap) (n0 : Nat) (v : Option Value) (h : Heap) (L : List Loc) : Prop := v = none ∧ Fr n0 L ∧ Keep h0 h [a1] ∧ Fld Z h a1 "java/lang/Throwable" "cause" "Ljava/lang/Throwable;" (.ref a1) ∧ Fld Z h a1 "java/lang/Throwable" "suppressedExceptions" "Ljava/util/List;" (.ref a4) ∧ Fld Z h a1 "java/lang/Throwable" "detailMessage" "Ljava/lang/String;" (.ref a2) ∧ Fld Z h a1 "com/example/lease/lease/core/InvalidFieldException" "field" "Ljava/lang/String;" .null ∧ Fld Z h a1 "com/example/lease/lease/core/InvalidFieldException" "reason" "Ljava/lang/String;" .null
set_option maxRecDepth 65536 in
set_option maxHeartbeats 40000000 in
theorem rm32_1 (l : Launch) (Z : State) (a0 : Array Value) (hw : ∀ d ∈ tables_1, d.before a0 Z = true) (ws : List Jvm.Cond) (a1 : Addr) (a2 : Addr) (a3 : Addr) (a4 : Addr) (h0 : Heap) (n0 : Nat) (O0 : Old Z n0 h0) (P1 : Exa Z h0 a1 "com/example/lease/lease/core/InvalidFieldException") (P2 : Fld Z h0 a1 "java/lang/Throwable" "cause" "Ljava/lang/Throwable;" .null) (P3 : n0 ≤ a1) (P4 : Sta Z Z.heap "java/lang/Throwable" "UNASSIGNED_STACK" "[Ljava/lang/StackTraceElement;" (.ref a3)) (P5 : Fld Z h0 a1 "java/lang/Throwable" "stackTrace" "[Ljava/lang/StackTraceElement;" .null) (P6 : Sta Z Z.heap "java/lang/Throwable" "SUPPRESSED_SENTINEL" "Ljava/util/List;" (.ref a4)) (P7 : Fld Z h0 a1 "java/lang/Throwable" "suppressedExceptions" "Ljava/util/List;" .null) (HL : l.stackTraces = true) (P9 : Unt h0 a1) (P10 : Fld Z h0 a1 "java/lang/Throwable" "backtrace" "Ljava/lang/Object;" .null) (P11 : Fld Z h0 a1 "java/lang/Throwable" "detailMessage" "Ljava/lang/String;" .null) (P12 : Fld Z h0 a1 "java/lang/Throwable" "depth" "I" (.int (0 : Int32))) (P13 : Fld Z h0 a1 "com/example/lease/lease/core/InvalidFieldException" "field" "Ljava/lang/String;" .null) (P14 : Fld Z h0 a1 "com/example/lease/lease/core/InvalidFieldException" "reason" "Ljava/lang/String;" .null) :
    MetFree l (⟨"java/lang/IllegalArgumentException", "<init>", "(Ljava/lang/String;)V"⟩ : MethodName) (head1 (Jvm.Cond.code (⟨"java/lang/IllegalArgumentException", "<init>", "(Ljava/lang/String;)V"⟩ : MethodName) jdk_57_method_2_code 2 none :: ws) ({ frames := 6, cells := 1, slots := 2752, locals := 81 } : Room)) (fun a U => a = #[(.ref a1), (.ref a2)] ∧ Z.Warmed39 U.vm ∧ U.heap = h0 ∧ CHv Z consts_1 U.vm h0) (fun _ _ bl s _ => s.vm.MethodsKnown ∧ s.vm.FramesKnown bl) (fun _ U o U' => ∃ v L, o = .returned v ∧ (Q_rm32_1 Z a1 a2 a3 a4 h0 n0 v U'.heap L ∧ CHr Z consts_1 U.vm U.heap U'.vm U'.heap) ∧ ReturnedEndW U o U' L ({ frames := 6, cells := 1, slots := 2752, locals := 81 } : Room).cells ({ frames := 6, cells := 1, slots := 2752, locals := 81 } : Room).slots) := by
  refine MetFree.of_bodySF (plainFor_of_name pn_8) hisR ?_
  intro p e s m args below meth c s₁ Bd hml0 hP hK
  obtain ⟨rfl, hZ, hh, HV0⟩ := hP
  have hx := Bd.exec
  have hby := Bd.bytes
  have hml : c.maxLocals = 2 := hml0
  have hown : s.vm.findClass "java/lang/IllegalArgumentException" = some m.cls := findClass_of_methodNamed Bd.named
  have hnm := (name_of_methodNamed Bd.named Bd.method).1
  have X0 : Stand p l e ({ frames := 6, cells := 1, slots := 2752, locals := 81 } : Room) s m #[(.ref a1), (.ref a2)] below meth c s₁ [] 0 0 := Stand.of_body Bd
  have e0 : s₁.heap = h0 := by rw [← hh, Bd.state]; rfl
  have N0 := Fr.nil n0
  obtain ⟨hTK, hBl⟩ := hK
  have CR0 := CHr.refl HV0
  refine Go.start (P := (fun o U' => ∃ v L, o = .returned v ∧ (Q_rm32_1 Z a1 a2 a3 a4 h0 n0 v U'.heap L ∧ CHr Z consts_1 s.vm s.heap U'.vm U'.heap) ∧ ReturnedEndW s o U' L ({ frames := 6, cells := 1, slots := 2752, locals := 81 } : Room).cells ({ frames := 6, cells := 1, slots := 2752, locals := 81 } : Room).slots)) (castTop (g' := (mkF m 0 #[.val (.ref a1), .val (.ref a2)] [])) (by first | rfl | simp [entryFrame, mkF, argsToLocals, Value.category]) (T := s₁)) ?_
  refine Go.st (fun t k => XS.aloadN X0.here hx rfl (hb hby d32_0) rfl rfl k) ?_
  show Go p e below _ (s₁.setTop (mkF m 1 #[.val (.ref a1), .val (.ref a2)] [(.ref a1)]))
  refine Go.st (fun t k => XS.aloadN X0.here hx rfl (hb hby d32_1) rfl rfl k) ?_
  show Go p e below _ (s₁.setTop (mkF m 2 #[.val (.ref a1), .val (.ref a2)] [(.ref a2), (.ref a1)]))
  obtain ⟨_, _, ⟨T1, L1, k1, n1⟩, -, X1, hS1, hg1, ⟨Lc1, hQ1, l1, y1, z1⟩, st1⟩ := X0.specialBackS hx (y := (⟨"java/lang/RuntimeException", "<init>", "(Ljava/lang/String;)V"⟩ : MethodName)) rfl hown (mvT hZ (w165 hw)) (mvT hZ (w166 hw)) (mvT hZ (w170 hw)) (by decide) (own_backH (VP := fun vm => CHv Z consts_1 vm h0) (Q := Q_rm33_1 Z a1 a2 a3 a4 h0 n0) (rm := ({ frames := 5, cells := 1, slots := 2752, locals := 68 } : Room)) (W := 0) (rm33_1 l Z a0 hw [] a1 a2 a3 a4 h0 n0 O0 P1 P2 P3 P4 P5 P6 P7 HL P9 P10 P11 P12 P13 P14) hZ (w170 hw) (w169 hw) (by decide) (by decide) (own_EW hw) CR0.1 hTK hBl) (g := (mkF m 2 #[.val (.ref a1), .val (.ref a2)] [(.ref a2), (.ref a1)])) rfl (by rw [hml]; rfl) (Steps.refl _) (a := a1) (argsL := [(.ref a2)]) (rest := []) (lenOf pd_9 rfl) rfl (by show 2 * 0 + _ ≤ _; exact Nat.le_of_eq rfl) (hb hby d32_2) (fun vm₁ hw₁ => ⟨rfl, e0, ((own_chW hZ (own_EW hw) hw₁ CR0.1).1), (by decide : 0 + 1 ≤ _), (by decide : 0 + 2752 ≤ _)⟩)
  dsimp only [Pt.U, Pt.locs, Pt.cells, Pt.slots] at X1 l1 y1 z1 st1 hQ1 hS1 hg1
  subst l1 y1 z1
  have hZ : Z.Warmed39 (s.setVm T1.vm).vm := State.Warmed39.trans (t := s) hZ hS1.1
  have hown : (s.setVm T1.vm).vm.findClass "java/lang/IllegalArgumentException" = some m.cls := by rw [show (s.setVm T1.vm).vm = T1.vm from rfl, hS1.1.alike.findClass]; exact hown
  have hS10 := hS1.1
  obtain ⟨hQ1, HC1⟩ := hQ1
  obtain ⟨rfl, M1, K1c, r1_0, r1_1, r1_2, r1_3, r1_4⟩ := hQ1
  have N1 := Fr.app N0 M1
  have C1 : CHr Z consts_1 s.vm h0 T1.vm T1.heap := CR0.trans HC1
  have O1 : Old Z n0 T1.heap := O0.keep K1c (allS P3 all0)
  have K1 : Keep h0 T1.heap [a1] := (Keep.refl h0 [a1]).trans K1c (allS (Or.inl (List.mem_of_getElem? (i := 0) rfl)) all0)
  refine Go.tr st1 ?_
  show Go p e below _ (T1.setTop (mkF m 5 #[.val (.ref a1), .val (.ref a2)] []))
  obtain ⟨fs, hr, hrun, hended, hEnd⟩ := X1.leaveW hS1 (Nat.le_refl _) (v := none) (fun _ => rfl)
  refine ⟨_, _, ?_, hrun, hended, _, _, rfl, ?_, ⟨hEnd.1, hEnd.2.1, hEnd.2.2.1, hEnd.2.2.2.mono (by decide) (by decide)⟩⟩
  · exact X1.returnOut hx Bd.returns (hb hby d32_5) hr
  · show Q_rm32_1 Z a1 a2 a3 a4 h0 n0 _ T1.heap _ ∧ CHr Z consts_1 s.vm s.heap T1.vm T1.heap
    rw [hh]
    exact ⟨⟨rfl, N1, K1, r1_0, r1_1, r1_2, r1_3, r1_4⟩, C1.trans (own_chX (s := (s.setVm T1.vm)) X1 hZ (own_EW hw) C1.1)⟩
def Q_rm38_1 (Z : State) (a1 : Addr) (a2 : Addr) (h0 : Heap) (n0 : Nat) (v : Option Value) (h : Heap) (L : List Loc) : Prop := v = some (.ref a1) ∧ Fr n0 L ∧ h = h0
set_option maxRecDepth 65536 in
set_option maxHeartbeats 40000000 in
theorem rm38_1 (l : Launch) (Z : State) (a0 : Array Value) (hw : ∀ d ∈ tables_1, d.before a0 Z = true) (ws : List Jvm.Cond) (a1 : Addr) (a2 : Addr) (h0 : Heap) (n0 : Nat) (O0 : Old Z n0 h0) :
    MetFree l (⟨"java/util/Objects", "requireNonNull", "(Ljava/lang/Object;Ljava/lang/String;)Ljava/lang/Object;"⟩ : MethodName) (head1 (Jvm.Cond.code (⟨"java/util/Objects", "requireNonNull", "(Ljava/lang/Object;Ljava/lang/String;)Ljava/lang/Object;"⟩ : MethodName) jdk_31_method_11_code 2 (some (.object "java/lang/Object")) :: ws) ({ frames := 0, cells := 0, slots := 0, locals := 0 } : Room)) (fun a U => a = #[(.ref a1), (.ref a2)] ∧ Z.Warmed39 U.vm ∧ U.heap = h0) (fun _ _ _ _ _ => True) (fun _ U o U' => ∃ v L, o = .returned v ∧ Q_rm38_1 Z a1 a2 h0 n0 v U'.heap L ∧ FrameEnd U o U' L ({ frames := 0, cells := 0, slots := 0, locals := 0 } : Room).cells ({ frames := 0, cells := 0, slots := 0, locals := 0 } : Room).slots) := by
  refine MetFree.of_bodySF (plainFor_of_name pn_9) hisR ?_
  intro p e s m args below meth c s₁ Bd hml0 hP hK
  obtain ⟨rfl, hZ, hh⟩ := hP
  have hx := Bd.exec
  have hby := Bd.bytes
  have hml : c.maxLocals = 2 := hml0
  have hown : s.vm.findClass "java/util/Objects" = some m.cls := findClass_of_methodNamed Bd.named
  have hnm := (name_of_methodNamed Bd.named Bd.method).1
  have X0 : Stand p l e ({ frames := 0, cells := 0, slots := 0, locals := 0 } : Room) s m #[(.ref a1), (.ref a2)] below meth c s₁ [] 0 0 := Stand.of_body Bd
  have e0 : s₁.heap = h0 := by rw [← hh, Bd.state]; rfl
  have N0 := Fr.nil n0
  refine Go.start (P := (fun o U' => ∃ v L, o = .returned v ∧ Q_rm38_1 Z a1 a2 h0 n0 v U'.heap L ∧ FrameEnd s o U' L ({ frames := 0, cells := 0, slots := 0, locals := 0 } : Room).cells ({ frames := 0, cells := 0, slots := 0, locals := 0 } : Room).slots)) (castTop (g' := (mkF m 0 #[.val (.ref a1), .val (.ref a2)] [])) (by first | rfl | simp [entryFrame, mkF, argsToLocals, Value.category]) (T := s₁)) ?_
  refine Go.st (fun t k => XS.aloadN X0.here hx rfl (hb hby d38_0) rfl rfl k) ?_
  show Go p e below _ (s₁.setTop (mkF m 1 #[.val (.ref a1), .val (.ref a2)] [(.ref a1)]))
  refine Go.st (fun t k => XS.ifnonnullYes X0.here hx rfl (pc0 := 1) (pc' := 13) rfl (hb hby d38_1) rfl (by decide) (by decide) k) ?_
  show Go p e below _ (s₁.setTop (mkF m 13 #[.val (.ref a1), .val (.ref a2)] []))
  refine Go.st (fun t k => XS.aloadN X0.here hx rfl (hb hby d38_13) rfl rfl k) ?_
  show Go p e below _ (s₁.setTop (mkF m 14 #[.val (.ref a1), .val (.ref a2)] [(.ref a1)]))
  obtain ⟨fs, hr, hrun, hended, hWd, hsame⟩ := X0.leave (v := some (.ref a1)) (fun h => by rw [Bd.returns] at h; cases h)
  refine ⟨_, _, ?_, hrun, hended, _, _, rfl, ?_, ⟨⟨_, rfl⟩, hWd, hsame.mono (by decide) (by decide)⟩⟩
  · exact own_retA X0 hx Bd.returns rfl rfl (hb hby d38_14) hr
  · show Q_rm38_1 Z a1 a2 h0 n0 _ s₁.heap _
    rw [e0]
    exact ⟨rfl, N0, rfl⟩
def Q_rm10_1 (Z : State) (a1 : Addr) (a2 : Addr) (a3 : Addr) (p4 : Int32) (a5 : Addr) (kz6 : ClassId) (zs7 : List Int32) (p8 : Int32) (a9 : Addr) (kz10 : ClassId) (zs11 : List Int32) (p12 : Int32) (a13 : Addr) (a14 : Addr) (h0 : Heap) (n0 : Nat) (v : Option Value) (h : Heap) (L : List Loc) : Prop := ∃ (b1_18 : Addr) (b2_2_6_1_2_18 : Addr) (k2_2_6_1_2_18 : ClassId), v = none ∧ Fr n0 L ∧ Keep h0 h [a1] ∧ h0.size ≤ b1_18 ∧ h0.size ≤ b2_2_6_1_2_18 ∧ b1_18 ≠ b2_2_6_1_2_18 ∧ Fld Z h a1 "java/lang/Throwable" "cause" "Ljava/lang/Throwable;" (.ref a1) ∧ Fld Z h a1 "java/lang/Throwable" "suppressedExceptions" "Ljava/util/List;" (.ref a14) ∧ Fld Z h a1 "java/lang/Throwable" "detailMessage" "Ljava/lang/String;" (.ref b1_18) ∧ Fld Z h a1 "com/example/lease/lease/core/InvalidFieldException" "field" "Ljava/lang/String;" (.ref a2) ∧ Fld Z h a1 "com/example/lease/lease/core/InvalidFieldException" "reason" "Ljava/lang/String;" (.ref a3) ∧ Exa Z h b1_18 "java/lang/String" ∧ Fld Z h b1_18 "java/lang/String" "coder" "B" (.int (0 : Int32)) ∧ Fld Z h b1_18 "java/lang/String" "value" "[B" (.ref b2_2_6_1_2_18) ∧ Arv Z h b2_2_6_1_2_18 k2_2_6_1_2_18 .byte (((((0 : Int32) + p8) + (2 : Int32)) + p12) - (0 : Int32)) ((own_put (List.replicate ((((((0 : Int32) + p8) + (2 : Int32)) + p12) - (0 : Int32))).toNatClampNeg (0 : Int32)) (own_put (own_put (own_put (List.replicate 16 (0 : Int32)) zs7 0 (p8).toNatClampNeg) [(58 : Int32), (32 : Int32)] (((0 : Int32) + p8)).toNatClampNeg 2) zs11 ((((0 : Int32) + p8) + (2 : Int32))).toNatClampNeg (p12).toNatClampNeg) 0 ((((((0 : Int32) + p8) + (2 : Int32)) + p12) - (0 : Int32))).toNatClampNeg).map Value.int) (.int (0 : Int32)) ∧ (own_put (List.replicate ((((((0 : Int32) + p8) + (2 : Int32)) + p12) - (0 : Int32))).toNatClampNeg (0 : Int32)) (own_put (own_put (own_put (List.replicate 16 (0 : Int32)) zs7 0 (p8).toNatClampNeg) [(58 : Int32), (32 : Int32)] (((0 : Int32) + p8)).toNatClampNeg 2) zs11 ((((0 : Int32) + p8) + (2 : Int32))).toNatClampNeg (p12).toNatClampNeg) 0 ((((((0 : Int32) + p8) + (2 : Int32)) + p12) - (0 : Int32))).toNatClampNeg).length = ((((((0 : Int32) + p8) + (2 : Int32)) + p12) - (0 : Int32))).toNatClampNeg
set_option maxRecDepth 65536 in
set_option maxHeartbeats 40000000 in
theorem rm10_1 (l : Launch) (Z : State) (a0 : Array Value) (hw : ∀ d ∈ tables_1, d.before a0 Z = true) (ws : List Jvm.Cond) (a1 : Addr) (a2 : Addr) (a3 : Addr) (p4 : Int32) (a5 : Addr) (kz6 : ClassId) (zs7 : List Int32) (p8 : Int32) (a9 : Addr) (kz10 : ClassId) (zs11 : List Int32) (p12 : Int32) (a13 : Addr) (a14 : Addr) (h0 : Heap) (n0 : Nat) (O0 : Old Z n0 h0) (P1 : Sta Z Z.heap "java/lang/String" "COMPACT_STRINGS" "Z" (.int p4)) (P2 : ¬ (p4 = (0 : Int32))) (P3 : Exa Z h0 a2 "java/lang/String") (P4 : Fld Z h0 a2 "java/lang/String" "value" "[B" (.ref a5)) (P5 : Arv Z h0 a5 kz6 .byte p8 (zs7.map Value.int) (.int (0 : Int32))) (P6 : Fld Z h0 a2 "java/lang/String" "coder" "B" (.int (0 : Int32))) (P7 : ¬ ((0 : Int32) < (((0 : Int32) + p8) - (16 : Int32)))) (P8 : ¬ (p8 < (0 : Int32))) (P9 : ¬ ((16 : Int32) < p8)) (P10 : Exa Z h0 a1 "com/example/lease/lease/core/InvalidFieldException") (P11 : Exa Z h0 a3 "java/lang/String") (P12 : Fld Z h0 a3 "java/lang/String" "value" "[B" (.ref a9)) (P13 : ¬ ((0 : Int32) < ((((0 : Int32) + p8) + (2 : Int32)) - (16 : Int32)))) (P14 : ¬ (((0 : Int32) + p8) < (0 : Int32))) (P15 : ¬ ((1000000 : Int32) < ((0 : Int32) + p8))) (P16 : ¬ ((16 : Int32) < (((0 : Int32) + p8) + (2 : Int32)))) (P17 : Arv Z h0 a9 kz10 .byte p12 (zs11.map Value.int) (.int (0 : Int32))) (P18 : Fld Z h0 a3 "java/lang/String" "coder" "B" (.int (0 : Int32))) (P19 : ¬ ((0 : Int32) < (((((0 : Int32) + p8) + (2 : Int32)) + p12) - (16 : Int32)))) (P20 : ¬ (p12 < (0 : Int32))) (P21 : ¬ ((((0 : Int32) + p8) + (2 : Int32)) < (0 : Int32))) (P22 : ¬ ((1000000 : Int32) < (((0 : Int32) + p8) + (2 : Int32)))) (P23 : ¬ ((1000000 : Int32) < p12)) (P24 : ¬ ((16 : Int32) < ((((0 : Int32) + p8) + (2 : Int32)) + p12))) (P25 : ¬ (((((0 : Int32) + p8) + (2 : Int32)) + p12) = (16 : Int32))) (P26 : ¬ (((((0 : Int32) + p8) + (2 : Int32)) + p12) < (0 : Int32))) (P27 : ¬ ((12 : Int32) < (((((0 : Int32) + p8) + (2 : Int32)) + p12) - (0 : Int32)))) (P28 : ¬ ((((((0 : Int32) + p8) + (2 : Int32)) + p12) - (0 : Int32)) < (0 : Int32))) (P29 : (((((0 : Int32) + p8) + (2 : Int32)) + p12) - (0 : Int32)) < (16 : Int32)) (P30 : ¬ ((16 : Int32) < (((((0 : Int32) + p8) + (2 : Int32)) + p12) - (0 : Int32)))) (P31 : Fld Z h0 a1 "java/lang/Throwable" "cause" "Ljava/lang/Throwable;" .null) (P32 : n0 ≤ a1) (P33 : Sta Z Z.heap "java/lang/Throwable" "UNASSIGNED_STACK" "[Ljava/lang/StackTraceElement;" (.ref a13)) (P34 : Fld Z h0 a1 "java/lang/Throwable" "stackTrace" "[Ljava/lang/StackTraceElement;" .null) (P35 : Sta Z Z.heap "java/lang/Throwable" "SUPPRESSED_SENTINEL" "Ljava/util/List;" (.ref a14)) (P36 : Fld Z h0 a1 "java/lang/Throwable" "suppressedExceptions" "Ljava/util/List;" .null) (HL : l.stackTraces = true) (P38 : Unt h0 a1) (P39 : Fld Z h0 a1 "java/lang/Throwable" "backtrace" "Ljava/lang/Object;" .null) (P40 : Fld Z h0 a1 "java/lang/Throwable" "detailMessage" "Ljava/lang/String;" .null) (P41 : Fld Z h0 a1 "java/lang/Throwable" "depth" "I" (.int (0 : Int32))) (P42 : Fld Z h0 a1 "com/example/lease/lease/core/InvalidFieldException" "field" "Ljava/lang/String;" .null) (P43 : Fld Z h0 a1 "com/example/lease/lease/core/InvalidFieldException" "reason" "Ljava/lang/String;" .null) (P44 : Exa Z Z.heap a14 "java/util/Collections$EmptyList") :
    MetFree l (⟨"com/example/lease/lease/core/InvalidFieldException", "<init>", "(Ljava/lang/String;Ljava/lang/String;)V"⟩ : MethodName) (head1 (Jvm.Cond.code (⟨"com/example/lease/lease/core/InvalidFieldException", "<init>", "(Ljava/lang/String;Ljava/lang/String;)V"⟩ : MethodName) prog_10_method_1_code 3 none :: ws) ({ frames := 7, cells := 11, slots := 2852, locals := 94 } : Room)) (fun a U => a = #[(.ref a1), (.ref a2), (.ref a3)] ∧ Z.Warmed39 U.vm ∧ U.heap = h0 ∧ CHv Z consts_1 U.vm h0) (fun _ _ bl s _ => s.vm.MethodsKnown ∧ s.vm.FramesKnown bl) (fun _ U o U' => ∃ v L, o = .returned v ∧ (Q_rm10_1 Z a1 a2 a3 p4 a5 kz6 zs7 p8 a9 kz10 zs11 p12 a13 a14 h0 n0 v U'.heap L ∧ CHr Z consts_1 U.vm U.heap U'.vm U'.heap) ∧ ReturnedEndW U o U' L ({ frames := 7, cells := 11, slots := 2852, locals := 94 } : Room).cells ({ frames := 7, cells := 11, slots := 2852, locals := 94 } : Room).slots) := by
  refine MetFree.of_bodySF (plainFor_of_name pn_10) hisR ?_
  intro p e s m args below meth c s₁ Bd hml0 hP hK
  obtain ⟨rfl, hZ, hh, HV0⟩ := hP
  have hx := Bd.exec
  have hby := Bd.bytes
  have hml : c.maxLocals = 3 := hml0
  have hown : s.vm.findClass "com/example/lease/lease/core/InvalidFieldException" = some m.cls := findClass_of_methodNamed Bd.named
  have hnm := (name_of_methodNamed Bd.named Bd.method).1
  have X0 : Stand p l e ({ frames := 7, cells := 11, slots := 2852, locals := 94 } : Room) s m #[(.ref a1), (.ref a2), (.ref a3)] below meth c s₁ [] 0 0 := Stand.of_body Bd
  have e0 : s₁.heap = h0 := by rw [← hh, Bd.state]; rfl
  have N0 := Fr.nil n0
  obtain ⟨hTK, hBl⟩ := hK
  have CR0 := CHr.refl HV0
  refine Go.start (P := (fun o U' => ∃ v L, o = .returned v ∧ (Q_rm10_1 Z a1 a2 a3 p4 a5 kz6 zs7 p8 a9 kz10 zs11 p12 a13 a14 h0 n0 v U'.heap L ∧ CHr Z consts_1 s.vm s.heap U'.vm U'.heap) ∧ ReturnedEndW s o U' L ({ frames := 7, cells := 11, slots := 2852, locals := 94 } : Room).cells ({ frames := 7, cells := 11, slots := 2852, locals := 94 } : Room).slots)) (castTop (g' := (mkF m 0 #[.val (.ref a1), .val (.ref a2), .val (.ref a3)] [])) (by first | rfl | simp [entryFrame, mkF, argsToLocals, Value.category]) (T := s₁)) ?_
  refine Go.st (fun t k => XS.aloadN X0.here hx rfl (hb hby d10_0) rfl rfl k) ?_
  show Go p e below _ (s₁.setTop (mkF m 1 #[.val (.ref a1), .val (.ref a2), .val (.ref a3)] [(.ref a1)]))
  obtain ⟨T1, h1, X1, e1, E1, A1, D1, -, st1⟩ := newO X0 hx hZ hown (w49 hw) (w50 hw) (w51 hw) e0 (g := (mkF m 1 #[.val (.ref a1), .val (.ref a2), .val (.ref a3)] [(.ref a1)])) rfl (hb hby d10_1) (by decide) (by decide)
  obtain ⟨b1, z1⟩ : ∃ z, z = h0.size := ⟨_, rfl⟩
  rw [← z1] at A1 D1 st1
  have g_b1 : n0 ≤ b1 := Nat.le_trans (own_n0 O0) (Nat.le_of_eq z1.symm)
  have s_b1 : h0.size ≤ b1 := Nat.le_trans (Keep.refl h0 [a1]).1 (Nat.le_of_eq z1.symm)
  have C1 : CHr Z consts_1 s.vm h0 s.vm h1 := CR0.trans (CHr.ext E1 CR0.1)
  have O1 : Old Z n0 h1 := O0.ext E1
  have K1 : Keep h0 h1 [a1] := (Keep.refl h0 [a1]).ext E1
  have f1_64 : Fld Z h1 b1 "java/lang/AbstractStringBuilder" "value" "[B" .null := D1 (Or.inl (w64 hw)) (ty := (.array .byte)) (by decide)
  have f1_66 : Fld Z h1 b1 "java/lang/AbstractStringBuilder" "coder" "B" (.int (0 : Int32)) := D1 (Or.inl (w66 hw)) (ty := .byte) (by decide)
  have f1_88 : Fld Z h1 b1 "java/lang/AbstractStringBuilder" "count" "I" (.int (0 : Int32)) := D1 (Or.inl (w88 hw)) (ty := .int) (by decide)
  refine Go.st st1 ?_
  show Go p e below _ (T1.setTop (mkF m 4 #[.val (.ref a1), .val (.ref a2), .val (.ref a3)] [(.ref b1), (.ref a1)]))
  refine Go.st (fun t k => XS.dup X1.here hx rfl (hb hby d10_4) rfl rfl k) ?_
  show Go p e below _ (T1.setTop (mkF m 5 #[.val (.ref a1), .val (.ref a2), .val (.ref a3)] [(.ref b1), (.ref b1), (.ref a1)]))
  obtain ⟨_, _, ⟨T2, L2, k2, n2⟩, -, X2, ⟨Lc2, hQ2, l2, y2, z2⟩, st2⟩ := X1.specialBack hx (y := (⟨"java/lang/StringBuilder", "<init>", "()V"⟩ : MethodName)) rfl hown (mvT hZ (w52 hw)) (mvT hZ (w53 hw)) (mvT hZ (w54 hw)) (by decide) (backOf (W := 2) (rm11_1 l Z a0 hw [] b1 p4 h1 n0 O1 P1 P2 A1 f1_64 g_b1 f1_66 f1_88) hZ (w54 hw) (w51 hw) (by decide) (by decide)) (g := (mkF m 5 #[.val (.ref a1), .val (.ref a2), .val (.ref a3)] [(.ref b1), (.ref b1), (.ref a1)])) rfl (by rw [hml]; rfl) (Steps.refl _) (a := b1) (argsL := []) (rest := [(.ref b1), (.ref a1)]) (lenOf pd_6 rfl) rfl (by show 2 * 0 + _ ≤ _; exact Nat.le_of_eq rfl) (hb hby d10_5) (fun vm₁ hw₁ => ⟨rfl, e1, (by decide : 1 + 1 ≤ _), (by decide : 4 + 16 ≤ _)⟩)
  dsimp only [Pt.U, Pt.locs, Pt.cells, Pt.slots] at X2 l2 y2 z2 st2 hQ2
  subst l2 y2 z2
  obtain ⟨b3_1_2, k3_1_2, rfl, M2, K2c, r2_0, r2_1, r2_2, r2_3, r2_4, r2_5⟩ := hQ2
  have N2 := Fr.app N0 M2
  have g_b3_1_2 : n0 ≤ b3_1_2 := Nat.le_trans (own_n0 O1) r2_0
  have s_b3_1_2 : h0.size ≤ b3_1_2 := Nat.le_trans K1.1 r2_0
  have SK2 : ∀ y ∈ ([b1] : List Addr), Safe Z consts_1 s.vm h1 y := (sfS (Safe.exa hZ.alike A1 (by decide) (by decide)) sf0)
  have C2 : CHr Z consts_1 s.vm h0 s.vm T2.heap := C1.trans (CHr.keep K2c SK2 C1.1)
  have O2 : Old Z n0 T2.heap := O1.keep K2c (allS g_b1 all0)
  have K2 : Keep h0 T2.heap [a1] := K1.trans K2c (allS (Or.inr s_b1) all0)
  refine Go.tr st2 ?_
  show Go p e below _ (T2.setTop (mkF m 8 #[.val (.ref a1), .val (.ref a2), .val (.ref a3)] [(.ref b1), (.ref a1)]))
  refine Go.st (fun t k => XS.aloadN X2.here hx rfl (hb hby d10_8) rfl rfl k) ?_
  show Go p e below _ (T2.setTop (mkF m 9 #[.val (.ref a1), .val (.ref a2), .val (.ref a3)] [(.ref a2), (.ref b1), (.ref a1)]))
  have c3 := ((P4.ext E1).keep K2c (ninS (Nat.ne_of_lt (Nat.lt_of_lt_of_le P3.lt (Nat.le_of_eq z1.symm))) nin0))
  have c4 := ((P5.ext E1).keep K2c (ninS (Nat.ne_of_lt (Nat.lt_of_lt_of_le P5.lt (Nat.le_of_eq z1.symm))) nin0))
  have c5 := ((P6.ext E1).keep K2c (ninS (Nat.ne_of_lt (Nat.lt_of_lt_of_le P3.lt (Nat.le_of_eq z1.symm))) nin0))
  obtain ⟨cq6, kq6, q6a, q6b, q6c⟩ := isOf hZ rfl (A1.keep K2c)
  obtain ⟨_, _, ⟨T6, L6, k6, n6⟩, -, X6, ⟨Lc6, hQ6, l6, y6, z6⟩, st6⟩ := X2.virtualBack hx (y := (⟨"java/lang/StringBuilder", "append", "(Ljava/lang/String;)Ljava/lang/StringBuilder;"⟩ : MethodName)) (z := (⟨"java/lang/StringBuilder", "append", "(Ljava/lang/String;)Ljava/lang/StringBuilder;"⟩ : MethodName)) hown (mvT hZ (w67 hw)) (mvT hZ (w68 hw)) (notFace_of_selects (args := #[]) (mvT hZ (w70 hw))) (mvT hZ (w70 hw)) (mvT hZ (w69 hw)) (by decide) (backOf (W := 1) (rm13_1 l Z a0 hw [] b1 a2 a5 kz6 zs7 p8 p4 b3_1_2 k3_1_2 (List.replicate 16 (0 : Int32)) T2.heap n0 O2 ((P3.ext E1).keep K2c) c3 c4 P1 P2 c5 r2_3 (A1.keep K2c) r2_1 r2_4 r2_2 P7 g_b3_1_2 r2_5 P8 P9 (Nat.ne_of_lt (Nat.lt_of_lt_of_le A1.lt r2_0)) g_b1) hZ (w71 hw) (w51 hw) (by decide) (by decide)) q6a q6c (g := (mkF m 9 #[.val (.ref a1), .val (.ref a2), .val (.ref a3)] [(.ref a2), (.ref b1), (.ref a1)])) rfl (by rw [hml]; rfl) (Steps.refl _) (argsL := [(.ref a2)]) (rest := [(.ref a1)]) (lenOf pd_13 rfl) rfl (by show 2 * 0 + _ ≤ _; exact Nat.le_of_eq rfl) (hb hby d10_9) (fun vm₁ hw₁ => ⟨rfl, rfl, (by decide : 2 + 0 ≤ _), (by decide : 20 + 0 ≤ _)⟩)
  dsimp only [Pt.U, Pt.locs, Pt.cells, Pt.slots] at X6 l6 y6 z6 st6 hQ6
  subst l6 y6 z6
  obtain ⟨rfl, M6, K6c, r6_0, r6_1, r6_2, r6_3, r6_4⟩ := hQ6
  have N6 := Fr.app N2 M6
  have S7 := (Safe.keep K2c SK2 C1.1 (Safe.new r2_0))
  have SK6 : ∀ y ∈ ([b1, b3_1_2] : List Addr), Safe Z consts_1 s.vm T2.heap y := (sfS (Safe.exa hZ.alike (A1.keep K2c) (by decide) (by decide)) (sfS S7 sf0))
  have C6 : CHr Z consts_1 s.vm h0 s.vm T6.heap := C2.trans (CHr.keep K6c SK6 C2.1)
  have O6 : Old Z n0 T6.heap := O2.keep K6c (allS g_b1 (allS g_b3_1_2 all0))
  have K6 : Keep h0 T6.heap [a1] := K2.trans K6c (allS (Or.inr s_b1) (allS (Or.inr s_b3_1_2) all0))
  refine Go.tr st6 ?_
  show Go p e below _ (T6.setTop (mkF m 12 #[.val (.ref a1), .val (.ref a2), .val (.ref a3)] [(.ref b1), (.ref a1)]))
  obtain ⟨b8, T8, h8, k8, t8, kk8, X8, e8, E8, hS8, hk8, hZ8, hown8, A8, Fc8, Fv8, V8, -, -, HC8, -, NE8, st8⟩ := ldcCH (s := s) (vm0 := s.vm) X6 hx hZ hown (w114 hw) (own_wS hw) rfl (State.WarmedH.since (State.WarmedH.refl s) 0) (Nat.zero_le _) (own_EW hw) (List.mem_of_getElem? (i := 0) rfl) C6.1 (vs := [(.int (58 : Int32)), (.int (32 : Int32))]) (z := (2 : Int32)) ⟨by decide, rfl⟩ (by decide) (by decide) (g := (mkF m 12 #[.val (.ref a1), .val (.ref a2), .val (.ref a3)] [(.ref b1), (.ref a1)])) rfl (hb hby d10_12) (n := 8) (by decide) (by decide) (by decide) (by decide)
  have hZ := hZ8
  have hown := hown8
  have C8 : CHr Z consts_1 s.vm h0 T8.vm h8 := C6.trans HC8
  have O8 : Old Z n0 h8 := O6.ext E8
  have K8 : Keep h0 h8 [a1] := K6.ext E8
  have S9 := (CHr.safe HC8 (Nat.lt_of_lt_of_le r2_4.lt K6c.1) (Safe.keep K6c SK6 C2.1 S7))
  have ne8_b3_1_2 := NE8 b3_1_2 S9
  refine Go.st st8 ?_
  show Go p e below _ (T8.setTop (mkF m 14 #[.val (.ref a1), .val (.ref a2), .val (.ref a3)] [(.ref b8), (.ref b1), (.ref a1)]))
  obtain ⟨cq10, kq10, q10a, q10b, q10c⟩ := isOf hZ e8 (((A1.keep K2c).keep K6c).ext E8)
  obtain ⟨_, _, ⟨T10, L10, k10, n10⟩, -, X10, ⟨Lc10, hQ10, l10, y10, z10⟩, st10⟩ := X8.virtualBack hx (y := (⟨"java/lang/StringBuilder", "append", "(Ljava/lang/String;)Ljava/lang/StringBuilder;"⟩ : MethodName)) (z := (⟨"java/lang/StringBuilder", "append", "(Ljava/lang/String;)Ljava/lang/StringBuilder;"⟩ : MethodName)) hown (mvT hZ (w67 hw)) (mvT hZ (w68 hw)) (notFace_of_selects (args := #[]) (mvT hZ (w70 hw))) (mvT hZ (w70 hw)) (mvT hZ (w69 hw)) (by decide) (backOf (W := 1) (rm13_2 l Z a0 hw [] b1 b8 t8 kk8 p4 ((0 : Int32) + p8) b3_1_2 k3_1_2 (own_put (List.replicate 16 (0 : Int32)) zs7 0 (p8).toNatClampNeg) h8 n0 O8 A8 Fv8 V8 P1 P2 Fc8 (r6_0.ext E8) (((A1.keep K2c).keep K6c).ext E8) (r6_1.ext E8) (r6_3.ext E8) (r6_2.ext E8) P13 g_b3_1_2 r6_4 P14 P15 P16 (Nat.ne_of_lt (Nat.lt_of_lt_of_le A1.lt r2_0)) g_b1) hZ (w71 hw) (w51 hw) (by decide) (by decide)) q10a q10c (g := (mkF m 14 #[.val (.ref a1), .val (.ref a2), .val (.ref a3)] [(.ref b8), (.ref b1), (.ref a1)])) rfl (by rw [hml]; rfl) (Steps.refl _) (argsL := [(.ref b8)]) (rest := [(.ref a1)]) (lenOf pd_13 rfl) rfl (by show 2 * 0 + _ ≤ _; exact Nat.le_of_eq rfl) (hb hby d10_14) (fun vm₁ hw₁ => ⟨rfl, e8, (by decide : 4 + 0 ≤ _), (by decide : 32 + 0 ≤ _)⟩)
  dsimp only [Pt.U, Pt.locs, Pt.cells, Pt.slots] at X10 l10 y10 z10 st10 hQ10
  subst l10 y10 z10
  obtain ⟨rfl, M10, K10c, r10_0, r10_1, r10_2, r10_3, r10_4⟩ := hQ10
  have N10 := Fr.app N6 M10
  have SK10 : ∀ y ∈ ([b1, b3_1_2] : List Addr), Safe Z consts_1 T8.vm h8 y := (sfS (Safe.exa hZ.alike (((A1.keep K2c).keep K6c).ext E8) (by decide) (by decide)) (sfS S9 sf0))
  have C10 : CHr Z consts_1 s.vm h0 T8.vm T10.heap := C8.trans (CHr.keep K10c SK10 C8.1)
  have O10 : Old Z n0 T10.heap := O8.keep K10c (allS g_b1 (allS g_b3_1_2 all0))
  have K10 : Keep h0 T10.heap [a1] := K8.trans K10c (allS (Or.inr s_b1) (allS (Or.inr s_b3_1_2) all0))
  refine Go.tr st10 ?_
  show Go p e below _ (T10.setTop (mkF m 17 #[.val (.ref a1), .val (.ref a2), .val (.ref a3)] [(.ref b1), (.ref a1)]))
  refine Go.st (fun t k => XS.aloadN X10.here hx rfl (hb hby d10_17) rfl rfl k) ?_
  show Go p e below _ (T10.setTop (mkF m 18 #[.val (.ref a1), .val (.ref a2), .val (.ref a3)] [(.ref a3), (.ref b1), (.ref a1)]))
  have c11 := (((((P11.ext E1).keep K2c).keep K6c).ext E8).keep K10c)
  have c12 := (((((P12.ext E1).keep K2c (ninS (Nat.ne_of_lt (Nat.lt_of_lt_of_le P11.lt (Nat.le_of_eq z1.symm))) nin0)).keep K6c (ninS (Nat.ne_of_lt (Nat.lt_of_lt_of_le P11.lt (Nat.le_of_eq z1.symm))) (ninS (Nat.ne_of_lt (Nat.lt_of_lt_of_le (Nat.lt_of_lt_of_le P11.lt E1.1) r2_0)) nin0))).ext E8).keep K10c (ninS (Nat.ne_of_lt (Nat.lt_of_lt_of_le P11.lt (Nat.le_of_eq z1.symm))) (ninS (Nat.ne_of_lt (Nat.lt_of_lt_of_le (Nat.lt_of_lt_of_le P11.lt E1.1) r2_0)) nin0)))
  have c13 := (((((P17.ext E1).keep K2c (ninS (Nat.ne_of_lt (Nat.lt_of_lt_of_le P17.lt (Nat.le_of_eq z1.symm))) nin0)).keep K6c (ninS (Nat.ne_of_lt (Nat.lt_of_lt_of_le P17.lt (Nat.le_of_eq z1.symm))) (ninS (Nat.ne_of_lt (Nat.lt_of_lt_of_le (Nat.lt_of_lt_of_le P17.lt E1.1) r2_0)) nin0))).ext E8).keep K10c (ninS (Nat.ne_of_lt (Nat.lt_of_lt_of_le P17.lt (Nat.le_of_eq z1.symm))) (ninS (Nat.ne_of_lt (Nat.lt_of_lt_of_le (Nat.lt_of_lt_of_le P17.lt E1.1) r2_0)) nin0)))
  have c14 := (((((P18.ext E1).keep K2c (ninS (Nat.ne_of_lt (Nat.lt_of_lt_of_le P11.lt (Nat.le_of_eq z1.symm))) nin0)).keep K6c (ninS (Nat.ne_of_lt (Nat.lt_of_lt_of_le P11.lt (Nat.le_of_eq z1.symm))) (ninS (Nat.ne_of_lt (Nat.lt_of_lt_of_le (Nat.lt_of_lt_of_le P11.lt E1.1) r2_0)) nin0))).ext E8).keep K10c (ninS (Nat.ne_of_lt (Nat.lt_of_lt_of_le P11.lt (Nat.le_of_eq z1.symm))) (ninS (Nat.ne_of_lt (Nat.lt_of_lt_of_le (Nat.lt_of_lt_of_le P11.lt E1.1) r2_0)) nin0)))
  have c15 := ((((A1.keep K2c).keep K6c).ext E8).keep K10c)
  obtain ⟨cq16, kq16, q16a, q16b, q16c⟩ := isOf hZ rfl c15
  obtain ⟨_, _, ⟨T16, L16, k16, n16⟩, -, X16, ⟨Lc16, hQ16, l16, y16, z16⟩, st16⟩ := X10.virtualBack hx (y := (⟨"java/lang/StringBuilder", "append", "(Ljava/lang/String;)Ljava/lang/StringBuilder;"⟩ : MethodName)) (z := (⟨"java/lang/StringBuilder", "append", "(Ljava/lang/String;)Ljava/lang/StringBuilder;"⟩ : MethodName)) hown (mvT hZ (w67 hw)) (mvT hZ (w68 hw)) (notFace_of_selects (args := #[]) (mvT hZ (w70 hw))) (mvT hZ (w70 hw)) (mvT hZ (w69 hw)) (by decide) (backOf (W := 1) (rm13_3 l Z a0 hw [] b1 a3 a9 kz10 zs11 p12 p4 (((0 : Int32) + p8) + (2 : Int32)) b3_1_2 k3_1_2 (own_put (own_put (List.replicate 16 (0 : Int32)) zs7 0 (p8).toNatClampNeg) [(58 : Int32), (32 : Int32)] (((0 : Int32) + p8)).toNatClampNeg 2) T10.heap n0 O10 c11 c12 c13 P1 P2 c14 r10_0 c15 r10_1 r10_3 r10_2 P19 g_b3_1_2 r10_4 P20 P21 P22 P23 P24 (Nat.ne_of_lt (Nat.lt_of_lt_of_le A1.lt r2_0)) g_b1) hZ (w71 hw) (w51 hw) (by decide) (by decide)) q16a q16c (g := (mkF m 18 #[.val (.ref a1), .val (.ref a2), .val (.ref a3)] [(.ref a3), (.ref b1), (.ref a1)])) rfl (by rw [hml]; rfl) (Steps.refl _) (argsL := [(.ref a3)]) (rest := [(.ref a1)]) (lenOf pd_13 rfl) rfl (by show 2 * 0 + _ ≤ _; exact Nat.le_of_eq rfl) (hb hby d10_18) (fun vm₁ hw₁ => ⟨rfl, rfl, (by decide : 4 + 0 ≤ _), (by decide : 32 + 0 ≤ _)⟩)
  dsimp only [Pt.U, Pt.locs, Pt.cells, Pt.slots] at X16 l16 y16 z16 st16 hQ16
  subst l16 y16 z16
  obtain ⟨rfl, M16, K16c, r16_0, r16_1, r16_2, r16_3, r16_4⟩ := hQ16
  have N16 := Fr.app N10 M16
  have S17 := (Safe.keep K10c SK10 C8.1 S9)
  have SK16 : ∀ y ∈ ([b1, b3_1_2] : List Addr), Safe Z consts_1 T8.vm T10.heap y := (sfS (Safe.exa hZ.alike c15 (by decide) (by decide)) (sfS S17 sf0))
  have C16 : CHr Z consts_1 s.vm h0 T8.vm T16.heap := C10.trans (CHr.keep K16c SK16 C10.1)
  have O16 : Old Z n0 T16.heap := O10.keep K16c (allS g_b1 (allS g_b3_1_2 all0))
  have K16 : Keep h0 T16.heap [a1] := K10.trans K16c (allS (Or.inr s_b1) (allS (Or.inr s_b3_1_2) all0))
  refine Go.tr st16 ?_
  show Go p e below _ (T16.setTop (mkF m 21 #[.val (.ref a1), .val (.ref a2), .val (.ref a3)] [(.ref b1), (.ref a1)]))
  obtain ⟨cq18, kq18, q18a, q18b, q18c⟩ := isOf hZ rfl (c15.keep K16c)
  obtain ⟨_, _, ⟨T18, L18, k18, n18⟩, -, X18, ⟨Lc18, hQ18, l18, y18, z18⟩, st18⟩ := X16.virtualBack hx (y := (⟨"java/lang/StringBuilder", "toString", "()Ljava/lang/String;"⟩ : MethodName)) (z := (⟨"java/lang/StringBuilder", "toString", "()Ljava/lang/String;"⟩ : MethodName)) hown (mvT hZ (w115 hw)) (mvT hZ (w116 hw)) (notFace_of_selects (args := #[]) (mvT hZ (w118 hw))) (mvT hZ (w118 hw)) (mvT hZ (w117 hw)) (by decide) (backOf (W := 1) (rm21_1 l Z a0 hw [] b1 b3_1_2 ((((0 : Int32) + p8) + (2 : Int32)) + p12) p4 k3_1_2 (own_put (own_put (own_put (List.replicate 16 (0 : Int32)) zs7 0 (p8).toNatClampNeg) [(58 : Int32), (32 : Int32)] (((0 : Int32) + p8)).toNatClampNeg 2) zs11 ((((0 : Int32) + p8) + (2 : Int32))).toNatClampNeg (p12).toNatClampNeg) T16.heap n0 O16 (c15.keep K16c) r16_1 r16_0 P1 P2 r16_2 r16_3 P25 P26 P27 P28 P29 P30) hZ (w119 hw) (w51 hw) (by decide) (by decide)) q18a q18c (g := (mkF m 21 #[.val (.ref a1), .val (.ref a2), .val (.ref a3)] [(.ref b1), (.ref a1)])) rfl (by rw [hml]; rfl) (Steps.refl _) (argsL := []) (rest := [(.ref a1)]) (lenOf pd_21 rfl) rfl (by show 2 * 0 + _ ≤ _; exact Nat.le_of_eq rfl) (hb hby d10_21) (fun vm₁ hw₁ => ⟨rfl, rfl, (by decide : 4 + 2 ≤ _), (by decide : 32 + 16 ≤ _)⟩)
  dsimp only [Pt.U, Pt.locs, Pt.cells, Pt.slots] at X18 l18 y18 z18 st18 hQ18
  subst l18 y18 z18
  obtain ⟨b1_18, b2_2_6_1_2_18, k2_2_6_1_2_18, rfl, M18, K18c, r18_0, r18_1, r18_2, r18_3, r18_4, r18_5, r18_6, r18_7⟩ := hQ18
  have N18 := Fr.app N16 M18
  have g_b1_18 : n0 ≤ b1_18 := Nat.le_trans (own_n0 O16) r18_0
  have s_b1_18 : h0.size ≤ b1_18 := Nat.le_trans K16.1 r18_0
  have g_b2_2_6_1_2_18 : n0 ≤ b2_2_6_1_2_18 := Nat.le_trans (own_n0 O16) r18_1
  have s_b2_2_6_1_2_18 : h0.size ≤ b2_2_6_1_2_18 := Nat.le_trans K16.1 r18_1
  have C18 : CHr Z consts_1 s.vm h0 T8.vm T18.heap := C16.trans (CHr.keep K18c sf0 C16.1)
  have O18 : Old Z n0 T18.heap := O16.keep K18c all0
  have K18 : Keep h0 T18.heap [a1] := K16.trans K18c all0
  refine Go.tr st18 ?_
  show Go p e below _ (T18.setTop (mkF m 24 #[.val (.ref a1), .val (.ref a2), .val (.ref a3)] [(.ref b1_18), (.ref a1)]))
  have c19 := (((((((P10.ext E1).keep K2c).keep K6c).ext E8).keep K10c).keep K16c).keep K18c)
  have c20 := (((((((P31.ext E1).keep K2c (ninS (Nat.ne_of_lt (Nat.lt_of_lt_of_le P10.lt (Nat.le_of_eq z1.symm))) nin0)).keep K6c (ninS (Nat.ne_of_lt (Nat.lt_of_lt_of_le P10.lt (Nat.le_of_eq z1.symm))) (ninS (Nat.ne_of_lt (Nat.lt_of_lt_of_le (Nat.lt_of_lt_of_le P10.lt E1.1) r2_0)) nin0))).ext E8).keep K10c (ninS (Nat.ne_of_lt (Nat.lt_of_lt_of_le P10.lt (Nat.le_of_eq z1.symm))) (ninS (Nat.ne_of_lt (Nat.lt_of_lt_of_le (Nat.lt_of_lt_of_le P10.lt E1.1) r2_0)) nin0))).keep K16c (ninS (Nat.ne_of_lt (Nat.lt_of_lt_of_le P10.lt (Nat.le_of_eq z1.symm))) (ninS (Nat.ne_of_lt (Nat.lt_of_lt_of_le (Nat.lt_of_lt_of_le P10.lt E1.1) r2_0)) nin0))).keep K18c nin0)
  have c21 := (((((((P34.ext E1).keep K2c (ninS (Nat.ne_of_lt (Nat.lt_of_lt_of_le P10.lt (Nat.le_of_eq z1.symm))) nin0)).keep K6c (ninS (Nat.ne_of_lt (Nat.lt_of_lt_of_le P10.lt (Nat.le_of_eq z1.symm))) (ninS (Nat.ne_of_lt (Nat.lt_of_lt_of_le (Nat.lt_of_lt_of_le P10.lt E1.1) r2_0)) nin0))).ext E8).keep K10c (ninS (Nat.ne_of_lt (Nat.lt_of_lt_of_le P10.lt (Nat.le_of_eq z1.symm))) (ninS (Nat.ne_of_lt (Nat.lt_of_lt_of_le (Nat.lt_of_lt_of_le P10.lt E1.1) r2_0)) nin0))).keep K16c (ninS (Nat.ne_of_lt (Nat.lt_of_lt_of_le P10.lt (Nat.le_of_eq z1.symm))) (ninS (Nat.ne_of_lt (Nat.lt_of_lt_of_le (Nat.lt_of_lt_of_le P10.lt E1.1) r2_0)) nin0))).keep K18c nin0)
  have c22 := (((((((P36.ext E1).keep K2c (ninS (Nat.ne_of_lt (Nat.lt_of_lt_of_le P10.lt (Nat.le_of_eq z1.symm))) nin0)).keep K6c (ninS (Nat.ne_of_lt (Nat.lt_of_lt_of_le P10.lt (Nat.le_of_eq z1.symm))) (ninS (Nat.ne_of_lt (Nat.lt_of_lt_of_le (Nat.lt_of_lt_of_le P10.lt E1.1) r2_0)) nin0))).ext E8).keep K10c (ninS (Nat.ne_of_lt (Nat.lt_of_lt_of_le P10.lt (Nat.le_of_eq z1.symm))) (ninS (Nat.ne_of_lt (Nat.lt_of_lt_of_le (Nat.lt_of_lt_of_le P10.lt E1.1) r2_0)) nin0))).keep K16c (ninS (Nat.ne_of_lt (Nat.lt_of_lt_of_le P10.lt (Nat.le_of_eq z1.symm))) (ninS (Nat.ne_of_lt (Nat.lt_of_lt_of_le (Nat.lt_of_lt_of_le P10.lt E1.1) r2_0)) nin0))).keep K18c nin0)
  have c23 := (((((((P38.ext E1).keep K2c (ninS (Nat.ne_of_lt (Nat.lt_of_lt_of_le P10.lt (Nat.le_of_eq z1.symm))) nin0)).keep K6c (ninS (Nat.ne_of_lt (Nat.lt_of_lt_of_le P10.lt (Nat.le_of_eq z1.symm))) (ninS (Nat.ne_of_lt (Nat.lt_of_lt_of_le (Nat.lt_of_lt_of_le P10.lt E1.1) r2_0)) nin0))).ext E8).keep K10c (ninS (Nat.ne_of_lt (Nat.lt_of_lt_of_le P10.lt (Nat.le_of_eq z1.symm))) (ninS (Nat.ne_of_lt (Nat.lt_of_lt_of_le (Nat.lt_of_lt_of_le P10.lt E1.1) r2_0)) nin0))).keep K16c (ninS (Nat.ne_of_lt (Nat.lt_of_lt_of_le P10.lt (Nat.le_of_eq z1.symm))) (ninS (Nat.ne_of_lt (Nat.lt_of_lt_of_le (Nat.lt_of_lt_of_le P10.lt E1.1) r2_0)) nin0))).keep K18c nin0)
  have c24 := (((((((P39.ext E1).keep K2c (ninS (Nat.ne_of_lt (Nat.lt_of_lt_of_le P10.lt (Nat.le_of_eq z1.symm))) nin0)).keep K6c (ninS (Nat.ne_of_lt (Nat.lt_of_lt_of_le P10.lt (Nat.le_of_eq z1.symm))) (ninS (Nat.ne_of_lt (Nat.lt_of_lt_of_le (Nat.lt_of_lt_of_le P10.lt E1.1) r2_0)) nin0))).ext E8).keep K10c (ninS (Nat.ne_of_lt (Nat.lt_of_lt_of_le P10.lt (Nat.le_of_eq z1.symm))) (ninS (Nat.ne_of_lt (Nat.lt_of_lt_of_le (Nat.lt_of_lt_of_le P10.lt E1.1) r2_0)) nin0))).keep K16c (ninS (Nat.ne_of_lt (Nat.lt_of_lt_of_le P10.lt (Nat.le_of_eq z1.symm))) (ninS (Nat.ne_of_lt (Nat.lt_of_lt_of_le (Nat.lt_of_lt_of_le P10.lt E1.1) r2_0)) nin0))).keep K18c nin0)
  have c25 := (((((((P40.ext E1).keep K2c (ninS (Nat.ne_of_lt (Nat.lt_of_lt_of_le P10.lt (Nat.le_of_eq z1.symm))) nin0)).keep K6c (ninS (Nat.ne_of_lt (Nat.lt_of_lt_of_le P10.lt (Nat.le_of_eq z1.symm))) (ninS (Nat.ne_of_lt (Nat.lt_of_lt_of_le (Nat.lt_of_lt_of_le P10.lt E1.1) r2_0)) nin0))).ext E8).keep K10c (ninS (Nat.ne_of_lt (Nat.lt_of_lt_of_le P10.lt (Nat.le_of_eq z1.symm))) (ninS (Nat.ne_of_lt (Nat.lt_of_lt_of_le (Nat.lt_of_lt_of_le P10.lt E1.1) r2_0)) nin0))).keep K16c (ninS (Nat.ne_of_lt (Nat.lt_of_lt_of_le P10.lt (Nat.le_of_eq z1.symm))) (ninS (Nat.ne_of_lt (Nat.lt_of_lt_of_le (Nat.lt_of_lt_of_le P10.lt E1.1) r2_0)) nin0))).keep K18c nin0)
  have c26 := (((((((P41.ext E1).keep K2c (ninS (Nat.ne_of_lt (Nat.lt_of_lt_of_le P10.lt (Nat.le_of_eq z1.symm))) nin0)).keep K6c (ninS (Nat.ne_of_lt (Nat.lt_of_lt_of_le P10.lt (Nat.le_of_eq z1.symm))) (ninS (Nat.ne_of_lt (Nat.lt_of_lt_of_le (Nat.lt_of_lt_of_le P10.lt E1.1) r2_0)) nin0))).ext E8).keep K10c (ninS (Nat.ne_of_lt (Nat.lt_of_lt_of_le P10.lt (Nat.le_of_eq z1.symm))) (ninS (Nat.ne_of_lt (Nat.lt_of_lt_of_le (Nat.lt_of_lt_of_le P10.lt E1.1) r2_0)) nin0))).keep K16c (ninS (Nat.ne_of_lt (Nat.lt_of_lt_of_le P10.lt (Nat.le_of_eq z1.symm))) (ninS (Nat.ne_of_lt (Nat.lt_of_lt_of_le (Nat.lt_of_lt_of_le P10.lt E1.1) r2_0)) nin0))).keep K18c nin0)
  have c27 := (((((((P42.ext E1).keep K2c (ninS (Nat.ne_of_lt (Nat.lt_of_lt_of_le P10.lt (Nat.le_of_eq z1.symm))) nin0)).keep K6c (ninS (Nat.ne_of_lt (Nat.lt_of_lt_of_le P10.lt (Nat.le_of_eq z1.symm))) (ninS (Nat.ne_of_lt (Nat.lt_of_lt_of_le (Nat.lt_of_lt_of_le P10.lt E1.1) r2_0)) nin0))).ext E8).keep K10c (ninS (Nat.ne_of_lt (Nat.lt_of_lt_of_le P10.lt (Nat.le_of_eq z1.symm))) (ninS (Nat.ne_of_lt (Nat.lt_of_lt_of_le (Nat.lt_of_lt_of_le P10.lt E1.1) r2_0)) nin0))).keep K16c (ninS (Nat.ne_of_lt (Nat.lt_of_lt_of_le P10.lt (Nat.le_of_eq z1.symm))) (ninS (Nat.ne_of_lt (Nat.lt_of_lt_of_le (Nat.lt_of_lt_of_le P10.lt E1.1) r2_0)) nin0))).keep K18c nin0)
  have c28 := (((((((P43.ext E1).keep K2c (ninS (Nat.ne_of_lt (Nat.lt_of_lt_of_le P10.lt (Nat.le_of_eq z1.symm))) nin0)).keep K6c (ninS (Nat.ne_of_lt (Nat.lt_of_lt_of_le P10.lt (Nat.le_of_eq z1.symm))) (ninS (Nat.ne_of_lt (Nat.lt_of_lt_of_le (Nat.lt_of_lt_of_le P10.lt E1.1) r2_0)) nin0))).ext E8).keep K10c (ninS (Nat.ne_of_lt (Nat.lt_of_lt_of_le P10.lt (Nat.le_of_eq z1.symm))) (ninS (Nat.ne_of_lt (Nat.lt_of_lt_of_le (Nat.lt_of_lt_of_le P10.lt E1.1) r2_0)) nin0))).keep K16c (ninS (Nat.ne_of_lt (Nat.lt_of_lt_of_le P10.lt (Nat.le_of_eq z1.symm))) (ninS (Nat.ne_of_lt (Nat.lt_of_lt_of_le (Nat.lt_of_lt_of_le P10.lt E1.1) r2_0)) nin0))).keep K18c nin0)
  obtain ⟨_, _, ⟨T29, L29, k29, n29⟩, -, X29, hS29, hg29, ⟨Lc29, hQ29, l29, y29, z29⟩, st29⟩ := X18.specialBackS hx (y := (⟨"java/lang/IllegalArgumentException", "<init>", "(Ljava/lang/String;)V"⟩ : MethodName)) rfl hown (mvT hZ (w160 hw)) (mvT hZ (w161 hw)) (mvT hZ (w164 hw)) (by decide) (own_backH (VP := fun vm => CHv Z consts_1 vm T18.heap) (Q := Q_rm32_1 Z a1 b1_18 a13 a14 T18.heap n0) (rm := ({ frames := 6, cells := 1, slots := 2752, locals := 81 } : Room)) (W := 0) (rm32_1 l Z a0 hw [] a1 b1_18 a13 a14 T18.heap n0 O18 c19 c20 P32 P33 c21 P35 c22 HL c23 c24 c25 c26 c27 c28) hZ (w164 hw) (w163 hw) (by decide) (by decide) (own_EW hw) C18.1 (Vm.MethodsKnown.alikeC hS8.1.alike hTK) (Vm.FramesKnown.alikeC hS8.1.alike hBl)) (g := (mkF m 24 #[.val (.ref a1), .val (.ref a2), .val (.ref a3)] [(.ref b1_18), (.ref a1)])) rfl (by rw [hml]; rfl) (Steps.refl _) (a := a1) (argsL := [(.ref b1_18)]) (rest := []) (lenOf pd_9 rfl) rfl (by show 2 * 0 + _ ≤ _; exact Nat.le_of_eq rfl) (hb hby d10_24) (fun vm₁ hw₁ => ⟨rfl, rfl, ((own_chW hZ (own_EW hw) hw₁ C18.1).1), (by decide : 6 + 1 ≤ _), (by decide : 48 + 2752 ≤ _)⟩)
  dsimp only [Pt.U, Pt.locs, Pt.cells, Pt.slots] at X29 l29 y29 z29 st29 hQ29 hS29 hg29
  subst l29 y29 z29
  have hg29' : T18.heap.size ≤ T29.heap.size := hg29
  have hZ : Z.Warmed39 (s.setVm T29.vm).vm := State.Warmed39.trans (t := (s.setVm T8.vm)) hZ hS29.1
  have hown : (s.setVm T29.vm).vm.findClass "com/example/lease/lease/core/InvalidFieldException" = some m.cls := by rw [show (s.setVm T29.vm).vm = T29.vm from rfl, hS29.1.alike.findClass]; exact hown
  have hS290 := hS29.1
  obtain ⟨X29, hS29⟩ := Jvm.Stand.againW X29 hS8 hS29 (Nat.le_trans (Nat.le_trans (Nat.le_trans (Nat.le_trans hk8 K10c.1) K16c.1) K18c.1) hg29')
  obtain ⟨hQ29, HC29⟩ := hQ29
  obtain ⟨rfl, M29, K29c, r29_0, r29_1, r29_2, r29_3, r29_4⟩ := hQ29
  have N29 := Fr.app N18 M29
  have C29 : CHr Z consts_1 s.vm h0 T29.vm T29.heap := C18.trans HC29
  have O29 : Old Z n0 T29.heap := O18.keep K29c (allS P32 all0)
  have K29 : Keep h0 T29.heap [a1] := K18.trans K29c (allS (Or.inl (List.mem_of_getElem? (i := 0) rfl)) all0)
  refine Go.tr st29 ?_
  show Go p e below _ (T29.setTop (mkF m 27 #[.val (.ref a1), .val (.ref a2), .val (.ref a3)] []))
  refine Go.st (fun t k => XS.aloadN X29.here hx rfl (hb hby d10_27) rfl rfl k) ?_
  show Go p e below _ (T29.setTop (mkF m 28 #[.val (.ref a1), .val (.ref a2), .val (.ref a3)] [(.ref a1)]))
  refine Go.st (fun t k => XS.aloadN X29.here hx rfl (hb hby d10_28) rfl rfl k) ?_
  show Go p e below _ (T29.setTop (mkF m 29 #[.val (.ref a1), .val (.ref a2), .val (.ref a3)] [(.ref a2), (.ref a1)]))
  obtain ⟨b30, T30, h30, k30, t30, kk30, X30, e30, E30, hS30, hk30, hZ30, hown30, A30, Fc30, Fv30, V30, -, -, HC30, -, NE30, st30⟩ := ldcCH (s := s) (vm0 := T29.vm) X29 hx hZ hown (w220 hw) (own_wS hw) rfl hS29 (Nat.le_refl _) (own_EW hw) (List.mem_of_getElem? (i := 1) rfl) C29.1 (vs := [(.int (102 : Int32)), (.int (105 : Int32)), (.int (101 : Int32)), (.int (108 : Int32)), (.int (100 : Int32))]) (z := (5 : Int32)) ⟨by decide, rfl⟩ (by decide) (by decide) (g := (mkF m 29 #[.val (.ref a1), .val (.ref a2), .val (.ref a3)] [(.ref a2), (.ref a1)])) rfl (hb hby d10_29) (n := 20) (by decide) (by decide) (by decide) (by decide)
  have hZ := hZ30
  have hown := hown30
  have C30 : CHr Z consts_1 s.vm h0 T30.vm h30 := C29.trans HC30
  have O30 : Old Z n0 h30 := O29.ext E30
  have K30 : Keep h0 h30 [a1] := K29.ext E30
  have S31 := (CHr.safe HC30 (Nat.lt_of_lt_of_le (Nat.lt_of_lt_of_le (Nat.lt_of_lt_of_le (Nat.lt_of_lt_of_le (Nat.lt_of_lt_of_le (Nat.lt_of_lt_of_le r2_4.lt K6c.1) E8.1) K10c.1) K16c.1) K18c.1) K29c.1) (CHr.safe HC29 (Nat.lt_of_lt_of_le (Nat.lt_of_lt_of_le (Nat.lt_of_lt_of_le (Nat.lt_of_lt_of_le (Nat.lt_of_lt_of_le r2_4.lt K6c.1) E8.1) K10c.1) K16c.1) K18c.1) (Safe.keep K18c sf0 C16.1 (Safe.keep K16c SK16 C10.1 S17))))
  have ne30_b3_1_2 := NE30 b3_1_2 S31
  have S32 := (CHr.safe HC30 (Nat.lt_of_lt_of_le r18_3.lt K29c.1) (CHr.safe HC29 r18_3.lt (Safe.keep K18c sf0 C16.1 (Safe.new r18_0))))
  have ne30_b1_18 := NE30 b1_18 S32
  have S33 := (CHr.safe HC30 (Nat.lt_of_lt_of_le r18_6.lt K29c.1) (CHr.safe HC29 r18_6.lt (Safe.keep K18c sf0 C16.1 (Safe.new r18_1))))
  have ne30_b2_2_6_1_2_18 := NE30 b2_2_6_1_2_18 S33
  refine Go.st st30 ?_
  show Go p e below _ (T30.setTop (mkF m 31 #[.val (.ref a1), .val (.ref a2), .val (.ref a3)] [(.ref b30), (.ref a2), (.ref a1)]))
  obtain ⟨_, _, ⟨T34, L34, k34, n34⟩, -, X34, ⟨Lc34, hQ34, l34, y34, z34⟩, st34⟩ := Jvm.LawKit.callS X30 hx (y := (⟨"java/util/Objects", "requireNonNull", "(Ljava/lang/Object;Ljava/lang/String;)Ljava/lang/Object;"⟩ : MethodName)) hown (mvT hZ (w221 hw)) (mvT hZ (w222 hw)) (mvT hZ (w223 hw)) (mvT hZ (w224 hw)) (by decide) (backOf (W := 1) (rm38_1 l Z a0 hw [] a2 b30 h30 n0 O30 ) hZ (w224 hw) (w223 hw) (by decide) (by decide)) (g := (mkF m 31 #[.val (.ref a1), .val (.ref a2), .val (.ref a3)] [(.ref b30), (.ref a2), (.ref a1)])) rfl (by rw [hml]; rfl) (argsL := [(.ref a2), (.ref b30)]) (rest := [(.ref a1)]) (lenOf pd_22 rfl) rfl (by show 2 * 0 + _ ≤ _; exact Nat.le_of_eq rfl) (hb hby d10_31) (fun vm₁ hw₁ => ⟨rfl, e30, (by decide : 9 + 0 ≤ _), (by decide : 2824 + 0 ≤ _)⟩)
  dsimp only [Pt.U, Pt.locs, Pt.cells, Pt.slots] at X34 l34 y34 z34 st34 hQ34
  subst l34 y34 z34
  obtain ⟨rfl, M34, eh34⟩ := hQ34
  have N34 := Fr.app N29 M34
  refine Go.st st34 ?_
  show Go p e below _ (T34.setTop (mkF m 34 #[.val (.ref a1), .val (.ref a2), .val (.ref a3)] [(.ref a2), (.ref a1)]))
  have c35 := (((((((((P3.ext E1).keep K2c).keep K6c).ext E8).keep K10c).keep K16c).keep K18c).keep K29c).ext E30)
  obtain ⟨T36, X36, e36, st36⟩ := castY X34 hx hZ hown (w225 hw) eh34 (Ins.self c35) (g := (mkF m 34 #[.val (.ref a1), .val (.ref a2), .val (.ref a3)] [(.ref a2), (.ref a1)])) rfl rfl (hb hby d10_34)
  refine Go.st st36 ?_
  show Go p e below _ (T36.setTop (mkF m 37 #[.val (.ref a1), .val (.ref a2), .val (.ref a3)] [(.ref a2), (.ref a1)]))
  obtain ⟨T37, h37, X37, e37, W37, st37⟩ := putF X36 hx hZ hown (host := "") (Or.inl (w226 hw)) Via.refl e36 (r29_3.ext E30) ((c19.keep K29c).ext E30) (Or.inr ⟨(w227 hw), rfl, hnm⟩) (w44 hw) (ty := (.object "java/lang/String")) (by decide) rfl rfl (g := (mkF m 37 #[.val (.ref a1), .val (.ref a2), .val (.ref a3)] [(.ref a2), (.ref a1)])) rfl rfl (hb hby d10_37)
  have F37 : Fld Z h37 a1 "com/example/lease/lease/core/InvalidFieldException" "field" "Ljava/lang/String;" (.ref a2) := (r29_3.ext E30).same W37
  have N37 := Fr.snoc X37 N34 P32
  have SW37 : Safe Z consts_1 T30.vm h30 a1 := (Safe.exa hZ.alike ((c19.keep K29c).ext E30) (by decide) (by decide))
  have C37 : CHr Z consts_1 s.vm h0 T30.vm h37 := C30.trans (CHr.wr W37 SW37 C30.1)
  have O37 : Old Z n0 h37 := O30.wr W37 P32
  have K37 : Keep h0 h37 [a1] := K30.wr W37 (Or.inl (List.mem_of_getElem? (i := 0) rfl))
  refine Go.st st37 ?_
  show Go p e below _ (T37.setTop (mkF m 40 #[.val (.ref a1), .val (.ref a2), .val (.ref a3)] []))
  refine Go.st (fun t k => XS.aloadN X37.here hx rfl (hb hby d10_40) rfl rfl k) ?_
  show Go p e below _ (T37.setTop (mkF m 41 #[.val (.ref a1), .val (.ref a2), .val (.ref a3)] [(.ref a1)]))
  refine Go.st (fun t k => XS.aloadN X37.here hx rfl (hb hby d10_41) rfl rfl k) ?_
  show Go p e below _ (T37.setTop (mkF m 42 #[.val (.ref a1), .val (.ref a2), .val (.ref a3)] [(.ref a3), (.ref a1)]))
  obtain ⟨b38, T38, h38, k38, t38, kk38, X38, e38, E38, hS38, hk38, hZ38, hown38, A38, Fc38, Fv38, V38, -, -, HC38, -, NE38, st38⟩ := ldcCH (s := s) (vm0 := T30.vm) X37 hx hZ hown (w228 hw) (own_wS hw) e37 hS30 (Nat.le_trans hk30 (Nat.le_of_eq W37.size.symm)) (own_EW hw) (List.mem_of_getElem? (i := 2) rfl) C37.1 (vs := [(.int (114 : Int32)), (.int (101 : Int32)), (.int (97 : Int32)), (.int (115 : Int32)), (.int (111 : Int32)), (.int (110 : Int32))]) (z := (6 : Int32)) ⟨by decide, rfl⟩ (by decide) (by decide) (g := (mkF m 42 #[.val (.ref a1), .val (.ref a2), .val (.ref a3)] [(.ref a3), (.ref a1)])) rfl (hb hby d10_42) (n := 24) (by decide) (by decide) (by decide) (by decide)
  have hZ := hZ38
  have hown := hown38
  have C38 : CHr Z consts_1 s.vm h0 T38.vm h38 := C37.trans HC38
  have O38 : Old Z n0 h38 := O37.ext E38
  have K38 : Keep h0 h38 [a1] := K37.ext E38
  have S39 := (CHr.safe HC38 (Nat.lt_of_lt_of_le (Nat.lt_of_lt_of_le (Nat.lt_of_lt_of_le (Nat.lt_of_lt_of_le (Nat.lt_of_lt_of_le (Nat.lt_of_lt_of_le (Nat.lt_of_lt_of_le (Nat.lt_of_lt_of_le r2_4.lt K6c.1) E8.1) K10c.1) K16c.1) K18c.1) K29c.1) E30.1) (Nat.le_of_eq W37.size.symm)) (Safe.wr W37 SW37 C30.1 S31))
  have ne38_b3_1_2 := NE38 b3_1_2 S39
  have S40 := (CHr.safe HC38 (Nat.lt_of_lt_of_le (Nat.lt_of_lt_of_le (Nat.lt_of_lt_of_le r18_3.lt K29c.1) E30.1) (Nat.le_of_eq W37.size.symm)) (Safe.wr W37 SW37 C30.1 S32))
  have ne38_b1_18 := NE38 b1_18 S40
  have S41 := (CHr.safe HC38 (Nat.lt_of_lt_of_le (Nat.lt_of_lt_of_le (Nat.lt_of_lt_of_le r18_6.lt K29c.1) E30.1) (Nat.le_of_eq W37.size.symm)) (Safe.wr W37 SW37 C30.1 S33))
  have ne38_b2_2_6_1_2_18 := NE38 b2_2_6_1_2_18 S41
  refine Go.st st38 ?_
  show Go p e below _ (T38.setTop (mkF m 44 #[.val (.ref a1), .val (.ref a2), .val (.ref a3)] [(.ref b38), (.ref a3), (.ref a1)]))
  obtain ⟨_, _, ⟨T42, L42, k42, n42⟩, -, X42, ⟨Lc42, hQ42, l42, y42, z42⟩, st42⟩ := Jvm.LawKit.callS X38 hx (y := (⟨"java/util/Objects", "requireNonNull", "(Ljava/lang/Object;Ljava/lang/String;)Ljava/lang/Object;"⟩ : MethodName)) hown (mvT hZ (w221 hw)) (mvT hZ (w222 hw)) (mvT hZ (w223 hw)) (mvT hZ (w224 hw)) (by decide) (backOf (W := 1) (rm38_1 l Z a0 hw [] a3 b38 h38 n0 O38 ) hZ (w224 hw) (w223 hw) (by decide) (by decide)) (g := (mkF m 44 #[.val (.ref a1), .val (.ref a2), .val (.ref a3)] [(.ref b38), (.ref a3), (.ref a1)])) rfl (by rw [hml]; rfl) (argsL := [(.ref a3), (.ref b38)]) (rest := [(.ref a1)]) (lenOf pd_22 rfl) rfl (by show 2 * 0 + _ ≤ _; exact Nat.le_of_eq rfl) (hb hby d10_44) (fun vm₁ hw₁ => ⟨rfl, e38, (by decide : 11 + 0 ≤ _), (by decide : 2852 + 0 ≤ _)⟩)
  dsimp only [Pt.U, Pt.locs, Pt.cells, Pt.slots] at X42 l42 y42 z42 st42 hQ42
  subst l42 y42 z42
  obtain ⟨rfl, M42, eh42⟩ := hQ42
  have N42 := Fr.app N37 M42
  refine Go.st st42 ?_
  show Go p e below _ (T42.setTop (mkF m 47 #[.val (.ref a1), .val (.ref a2), .val (.ref a3)] [(.ref a3), (.ref a1)]))
  have c43 := ((((((c11.keep K16c).keep K18c).keep K29c).ext E30).wr W37).ext E38)
  obtain ⟨T44, X44, e44, st44⟩ := castY X42 hx hZ hown (w225 hw) eh42 (Ins.self c43) (g := (mkF m 47 #[.val (.ref a1), .val (.ref a2), .val (.ref a3)] [(.ref a3), (.ref a1)])) rfl rfl (hb hby d10_47)
  refine Go.st st44 ?_
  show Go p e below _ (T44.setTop (mkF m 50 #[.val (.ref a1), .val (.ref a2), .val (.ref a3)] [(.ref a3), (.ref a1)]))
  have c45 := ((((c19.keep K29c).ext E30).wr W37).ext E38)
  have c46 := (((r29_4.ext E30).other W37 (Or.inr (slot_ne (Or.inr (w230 hw)) (Or.inr (w227 hw)) (by decide) (t := (.object "java/lang/String")) (t' := (.object "java/lang/String")) (by decide) (by decide)))).ext E38)
  obtain ⟨T47, h47, X47, e47, W47, st47⟩ := putF X44 hx hZ hown (host := "") (Or.inl (w229 hw)) Via.refl e44 c46 c45 (Or.inr ⟨(w230 hw), rfl, hnm⟩) (w44 hw) (ty := (.object "java/lang/String")) (by decide) rfl rfl (g := (mkF m 50 #[.val (.ref a1), .val (.ref a2), .val (.ref a3)] [(.ref a3), (.ref a1)])) rfl rfl (hb hby d10_50)
  have F47 : Fld Z h47 a1 "com/example/lease/lease/core/InvalidFieldException" "reason" "Ljava/lang/String;" (.ref a3) := c46.same W47
  have N47 := Fr.snoc X47 N42 P32
  have SW47 : Safe Z consts_1 T38.vm h38 a1 := (Safe.exa hZ.alike c45 (by decide) (by decide))
  have C47 : CHr Z consts_1 s.vm h0 T38.vm h47 := C38.trans (CHr.wr W47 SW47 C38.1)
  have O47 : Old Z n0 h47 := O38.wr W47 P32
  have K47 : Keep h0 h47 [a1] := K38.wr W47 (Or.inl (List.mem_of_getElem? (i := 0) rfl))
  refine Go.st st47 ?_
  show Go p e below _ (T47.setTop (mkF m 53 #[.val (.ref a1), .val (.ref a2), .val (.ref a3)] []))
  obtain ⟨fs, hr, hrun, hended, hEnd⟩ := X47.leaveW hS38 (by rw [e47]; exact (Nat.le_trans hk38 (Nat.le_of_eq W47.size.symm))) (v := none) (fun _ => rfl)
  have c48 := ((((r29_0.ext E30).other W37 (Or.inr (slot_ne (Or.inl (w185 hw)) (Or.inr (w227 hw)) (by decide) (t := (.object "java/lang/Throwable")) (t' := (.object "java/lang/String")) (by decide) (by decide)))).ext E38).other W47 (Or.inr (slot_ne (Or.inl (w185 hw)) (Or.inr (w230 hw)) (by decide) (t := (.object "java/lang/Throwable")) (t' := (.object "java/lang/String")) (by decide) (by decide))))
  have c49 := ((((r29_1.ext E30).other W37 (Or.inr (slot_ne (Or.inl (w191 hw)) (Or.inr (w227 hw)) (by decide) (t := (.object "java/util/List")) (t' := (.object "java/lang/String")) (by decide) (by decide)))).ext E38).other W47 (Or.inr (slot_ne (Or.inl (w191 hw)) (Or.inr (w230 hw)) (by decide) (t := (.object "java/util/List")) (t' := (.object "java/lang/String")) (by decide) (by decide))))
  have c50 := ((((r29_2.ext E30).other W37 (Or.inr (slot_ne (Or.inl (w215 hw)) (Or.inr (w227 hw)) (by decide) (t := (.object "java/lang/String")) (t' := (.object "java/lang/String")) (by decide) (by decide)))).ext E38).other W47 (Or.inr (slot_ne (Or.inl (w215 hw)) (Or.inr (w230 hw)) (by decide) (t := (.object "java/lang/String")) (t' := (.object "java/lang/String")) (by decide) (by decide))))
  have c51 := ((F37.ext E38).other W47 (Or.inr (slot_ne (Or.inr (w227 hw)) (Or.inr (w230 hw)) (by decide) (t := (.object "java/lang/String")) (t' := (.object "java/lang/String")) (by decide) (by decide))))
  have c52 := (((((r18_3.keep K29c).ext E30).wr W37).ext E38).wr W47)
  have c53 := (((((r18_4.keep K29c (ninS (Ne.symm (Nat.ne_of_lt (Nat.lt_of_lt_of_le (Nat.lt_of_lt_of_le (Nat.lt_of_lt_of_le (Nat.lt_of_lt_of_le (Nat.lt_of_lt_of_le (Nat.lt_of_lt_of_le (Nat.lt_of_lt_of_le P10.lt E1.1) K2c.1) K6c.1) E8.1) K10c.1) K16c.1) r18_0))) nin0)).ext E30).other W37 (Or.inl (Ne.symm (Nat.ne_of_lt (Nat.lt_of_lt_of_le (Nat.lt_of_lt_of_le (Nat.lt_of_lt_of_le (Nat.lt_of_lt_of_le (Nat.lt_of_lt_of_le (Nat.lt_of_lt_of_le (Nat.lt_of_lt_of_le P10.lt E1.1) K2c.1) K6c.1) E8.1) K10c.1) K16c.1) r18_0))))).ext E38).other W47 (Or.inl (Ne.symm (Nat.ne_of_lt (Nat.lt_of_lt_of_le (Nat.lt_of_lt_of_le (Nat.lt_of_lt_of_le (Nat.lt_of_lt_of_le (Nat.lt_of_lt_of_le (Nat.lt_of_lt_of_le (Nat.lt_of_lt_of_le P10.lt E1.1) K2c.1) K6c.1) E8.1) K10c.1) K16c.1) r18_0)))))
  have c54 := (((((r18_5.keep K29c (ninS (Ne.symm (Nat.ne_of_lt (Nat.lt_of_lt_of_le (Nat.lt_of_lt_of_le (Nat.lt_of_lt_of_le (Nat.lt_of_lt_of_le (Nat.lt_of_lt_of_le (Nat.lt_of_lt_of_le (Nat.lt_of_lt_of_le P10.lt E1.1) K2c.1) K6c.1) E8.1) K10c.1) K16c.1) r18_0))) nin0)).ext E30).other W37 (Or.inl (Ne.symm (Nat.ne_of_lt (Nat.lt_of_lt_of_le (Nat.lt_of_lt_of_le (Nat.lt_of_lt_of_le (Nat.lt_of_lt_of_le (Nat.lt_of_lt_of_le (Nat.lt_of_lt_of_le (Nat.lt_of_lt_of_le P10.lt E1.1) K2c.1) K6c.1) E8.1) K10c.1) K16c.1) r18_0))))).ext E38).other W47 (Or.inl (Ne.symm (Nat.ne_of_lt (Nat.lt_of_lt_of_le (Nat.lt_of_lt_of_le (Nat.lt_of_lt_of_le (Nat.lt_of_lt_of_le (Nat.lt_of_lt_of_le (Nat.lt_of_lt_of_le (Nat.lt_of_lt_of_le P10.lt E1.1) K2c.1) K6c.1) E8.1) K10c.1) K16c.1) r18_0)))))
  have c55 := (((((r18_6.keep K29c (ninS (Ne.symm (Nat.ne_of_lt (Nat.lt_of_lt_of_le (Nat.lt_of_lt_of_le (Nat.lt_of_lt_of_le (Nat.lt_of_lt_of_le (Nat.lt_of_lt_of_le (Nat.lt_of_lt_of_le (Nat.lt_of_lt_of_le P10.lt E1.1) K2c.1) K6c.1) E8.1) K10c.1) K16c.1) r18_1))) nin0)).ext E30).other W37 (Ne.symm (Nat.ne_of_lt (Nat.lt_of_lt_of_le (Nat.lt_of_lt_of_le (Nat.lt_of_lt_of_le (Nat.lt_of_lt_of_le (Nat.lt_of_lt_of_le (Nat.lt_of_lt_of_le (Nat.lt_of_lt_of_le P10.lt E1.1) K2c.1) K6c.1) E8.1) K10c.1) K16c.1) r18_1)))).ext E38).other W47 (Ne.symm (Nat.ne_of_lt (Nat.lt_of_lt_of_le (Nat.lt_of_lt_of_le (Nat.lt_of_lt_of_le (Nat.lt_of_lt_of_le (Nat.lt_of_lt_of_le (Nat.lt_of_lt_of_le (Nat.lt_of_lt_of_le P10.lt E1.1) K2c.1) K6c.1) E8.1) K10c.1) K16c.1) r18_1))))
  refine ⟨_, _, ?_, hrun, hended, _, _, rfl, ?_, ⟨hEnd.1, hEnd.2.1, hEnd.2.2.1, hEnd.2.2.2.mono (by decide) (by decide)⟩⟩
  · exact X47.returnOut hx Bd.returns (hb hby d10_53) hr
  · show Q_rm10_1 Z a1 a2 a3 p4 a5 kz6 zs7 p8 a9 kz10 zs11 p12 a13 a14 h0 n0 _ T47.heap _ ∧ CHr Z consts_1 s.vm s.heap T47.vm T47.heap
    rw [hh, e47]
    exact ⟨⟨b1_18, b2_2_6_1_2_18, k2_2_6_1_2_18, rfl, N47, K47, s_b1_18, s_b2_2_6_1_2_18, r18_2, c48, c49, c50, c51, F47, c52, c53, c54, c55, r18_7⟩, C47.trans (own_chX (s := (s.setVm T38.vm)) X47 hZ (own_EW hw) C47.1)⟩
def Q_rm39_1 (Z : State) (a1 : Addr) (a2 : Addr) (p3 : Int32) (a4 : Addr) (kz5 : ClassId) (zs6 : List Int32) (p7 : Int32) (a8 : Addr) (a9 : Addr) (kz10 : ClassId) (zs11 : List Int32) (p12 : Int32) (a13 : Addr) (a14 : Addr) (kz15 : ClassId) (zs16 : List Int32) (p17 : Int32) (a18 : Addr) (a19 : Addr) (h0 : Heap) (n0 : Nat) (v : Option Value) (h : Heap) (L : List Loc) : Prop := ∃ (b1 : Addr) (b1_21 : Addr) (b2_2_6_1_2_21 : Addr) (b1_18_38 : Addr) (b2_2_6_1_2_18_38 : Addr) (k2_2_6_1_2_18_38 : ClassId) (k2_2_6_1_2_21 : ClassId), v = some (.ref b1) ∧ Fr n0 L ∧ Keep h0 h [] ∧ h0.size ≤ b1 ∧ h0.size ≤ b1_21 ∧ h0.size ≤ b2_2_6_1_2_21 ∧ h0.size ≤ b1_18_38 ∧ h0.size ≤ b2_2_6_1_2_18_38 ∧ b1 ≠ b1_21 ∧ b1 ≠ b2_2_6_1_2_21 ∧ b1 ≠ b1_18_38 ∧ b1 ≠ b2_2_6_1_2_18_38 ∧ b1_21 ≠ b2_2_6_1_2_21 ∧ b1_21 ≠ b1_18_38 ∧ b1_21 ≠ b2_2_6_1_2_18_38 ∧ b2_2_6_1_2_21 ≠ b1_18_38 ∧ b2_2_6_1_2_21 ≠ b2_2_6_1_2_18_38 ∧ b1_18_38 ≠ b2_2_6_1_2_18_38 ∧ Exa Z h b1 "com/example/lease/lease/core/InvalidFieldException" ∧ Fld Z h b1 "java/lang/Throwable" "cause" "Ljava/lang/Throwable;" (.ref b1) ∧ Fld Z h b1 "java/lang/Throwable" "suppressedExceptions" "Ljava/util/List;" (.ref a19) ∧ Fld Z h b1 "java/lang/Throwable" "detailMessage" "Ljava/lang/String;" (.ref b1_18_38) ∧ Fld Z h b1 "com/example/lease/lease/core/InvalidFieldException" "field" "Ljava/lang/String;" (.ref b1_21) ∧ Fld Z h b1 "com/example/lease/lease/core/InvalidFieldException" "reason" "Ljava/lang/String;" (.ref a13) ∧ Exa Z h b1_18_38 "java/lang/String" ∧ Fld Z h b1_18_38 "java/lang/String" "coder" "B" (.int (0 : Int32)) ∧ Fld Z h b1_18_38 "java/lang/String" "value" "[B" (.ref b2_2_6_1_2_18_38) ∧ Exa Z h b1_21 "java/lang/String" ∧ Fld Z h b1_21 "java/lang/String" "coder" "B" (.int (0 : Int32)) ∧ Fld Z h b1_21 "java/lang/String" "value" "[B" (.ref b2_2_6_1_2_21) ∧ Arv Z h b2_2_6_1_2_18_38 k2_2_6_1_2_18_38 .byte (((((0 : Int32) + (((((0 : Int32) + p7) + (1 : Int32)) + p12) - (0 : Int32))) + (2 : Int32)) + p17) - (0 : Int32)) ((own_put (List.replicate ((((((0 : Int32) + (((((0 : Int32) + p7) + (1 : Int32)) + p12) - (0 : Int32))) + (2 : Int32)) + p17) - (0 : Int32))).toNatClampNeg (0 : Int32)) (own_put (own_put (own_put (List.replicate 16 (0 : Int32)) (own_put (List.replicate ((((((0 : Int32) + p7) + (1 : Int32)) + p12) - (0 : Int32))).toNatClampNeg (0 : Int32)) (own_put (own_put (own_put (List.replicate 16 (0 : Int32)) zs6 0 (p7).toNatClampNeg) [(46 : Int32)] (((0 : Int32) + p7)).toNatClampNeg 1) zs11 ((((0 : Int32) + p7) + (1 : Int32))).toNatClampNeg (p12).toNatClampNeg) 0 ((((((0 : Int32) + p7) + (1 : Int32)) + p12) - (0 : Int32))).toNatClampNeg) 0 ((((((0 : Int32) + p7) + (1 : Int32)) + p12) - (0 : Int32))).toNatClampNeg) [(58 : Int32), (32 : Int32)] (((0 : Int32) + (((((0 : Int32) + p7) + (1 : Int32)) + p12) - (0 : Int32)))).toNatClampNeg 2) zs16 ((((0 : Int32) + (((((0 : Int32) + p7) + (1 : Int32)) + p12) - (0 : Int32))) + (2 : Int32))).toNatClampNeg (p17).toNatClampNeg) 0 ((((((0 : Int32) + (((((0 : Int32) + p7) + (1 : Int32)) + p12) - (0 : Int32))) + (2 : Int32)) + p17) - (0 : Int32))).toNatClampNeg).map Value.int) (.int (0 : Int32)) ∧ Arv Z h b2_2_6_1_2_21 k2_2_6_1_2_21 .byte (((((0 : Int32) + p7) + (1 : Int32)) + p12) - (0 : Int32)) ((own_put (List.replicate ((((((0 : Int32) + p7) + (1 : Int32)) + p12) - (0 : Int32))).toNatClampNeg (0 : Int32)) (own_put (own_put (own_put (List.replicate 16 (0 : Int32)) zs6 0 (p7).toNatClampNeg) [(46 : Int32)] (((0 : Int32) + p7)).toNatClampNeg 1) zs11 ((((0 : Int32) + p7) + (1 : Int32))).toNatClampNeg (p12).toNatClampNeg) 0 ((((((0 : Int32) + p7) + (1 : Int32)) + p12) - (0 : Int32))).toNatClampNeg).map Value.int) (.int (0 : Int32)) ∧ (own_put (List.replicate ((((((0 : Int32) + (((((0 : Int32) + p7) + (1 : Int32)) + p12) - (0 : Int32))) + (2 : Int32)) + p17) - (0 : Int32))).toNatClampNeg (0 : Int32)) (own_put (own_put (own_put (List.replicate 16 (0 : Int32)) (own_put (List.replicate ((((((0 : Int32) + p7) + (1 : Int32)) + p12) - (0 : Int32))).toNatClampNeg (0 : Int32)) (own_put (own_put (own_put (List.replicate 16 (0 : Int32)) zs6 0 (p7).toNatClampNeg) [(46 : Int32)] (((0 : Int32) + p7)).toNatClampNeg 1) zs11 ((((0 : Int32) + p7) + (1 : Int32))).toNatClampNeg (p12).toNatClampNeg) 0 ((((((0 : Int32) + p7) + (1 : Int32)) + p12) - (0 : Int32))).toNatClampNeg) 0 ((((((0 : Int32) + p7) + (1 : Int32)) + p12) - (0 : Int32))).toNatClampNeg) [(58 : Int32), (32 : Int32)] (((0 : Int32) + (((((0 : Int32) + p7) + (1 : Int32)) + p12) - (0 : Int32)))).toNatClampNeg 2) zs16 ((((0 : Int32) + (((((0 : Int32) + p7) + (1 : Int32)) + p12) - (0 : Int32))) + (2 : Int32))).toNatClampNeg (p17).toNatClampNeg) 0 ((((((0 : Int32) + (((((0 : Int32) + p7) + (1 : Int32)) + p12) - (0 : Int32))) + (2 : Int32)) + p17) - (0 : Int32))).toNatClampNeg).length = ((((((0 : Int32) + (((((0 : Int32) + p7) + (1 : Int32)) + p12) - (0 : Int32))) + (2 : Int32)) + p17) - (0 : Int32))).toNatClampNeg ∧ (own_put (List.replicate ((((((0 : Int32) + p7) + (1 : Int32)) + p12) - (0 : Int32))).toNatClampNeg (0 : Int32)) (own_put (own_put (own_put (List.replicate 16 (0 : Int32)) zs6 0 (p7).toNatClampNeg) [(46 : Int32)] (((0 : Int32) + p7)).toNatClampNeg 1) zs11 ((((0 : Int32) + p7) + (1 : Int32))).toNatClampNeg (p12).toNatClampNeg) 0 ((((((0 : Int32) + p7) + (1 : Int32)) + p12) - (0 : Int32))).toNatClampNeg).length = ((((((0 : Int32) + p7) + (1 : Int32)) + p12) - (0 : Int32))).toNatClampNeg
set_option maxRecDepth 65536 in
set_option maxHeartbeats 40000000 in
theorem rm39_1 (l : Launch) (Z : State) (a0 : Array Value) (hw : ∀ d ∈ tables_1, d.before a0 Z = true) (ws : List Jvm.Cond) (a1 : Addr) (a2 : Addr) (p3 : Int32) (a4 : Addr) (kz5 : ClassId) (zs6 : List Int32) (p7 : Int32) (a8 : Addr) (a9 : Addr) (kz10 : ClassId) (zs11 : List Int32) (p12 : Int32) (a13 : Addr) (a14 : Addr) (kz15 : ClassId) (zs16 : List Int32) (p17 : Int32) (a18 : Addr) (a19 : Addr) (h0 : Heap) (n0 : Nat) (O0 : Old Z n0 h0) (P1 : Sta Z Z.heap "java/lang/String" "COMPACT_STRINGS" "Z" (.int p3)) (P2 : ¬ (p3 = (0 : Int32))) (P3 : Exa Z h0 a2 "java/lang/String") (P4 : Fld Z h0 a2 "java/lang/String" "value" "[B" (.ref a4)) (P5 : Arv Z h0 a4 kz5 .byte p7 (zs6.map Value.int) (.int (0 : Int32))) (P6 : Fld Z h0 a2 "java/lang/String" "coder" "B" (.int (0 : Int32))) (P7 : ¬ ((0 : Int32) < (((0 : Int32) + p7) - (16 : Int32)))) (P8 : ¬ (p7 < (0 : Int32))) (P9 : ¬ ((16 : Int32) < p7)) (P10 : Exa Z h0 a1 "com/example/lease/lease/core/InvalidFieldException") (P11 : ¬ ((0 : Int32) < ((((0 : Int32) + p7) + (1 : Int32)) - (16 : Int32)))) (P12 : ¬ (((0 : Int32) + p7) < (0 : Int32))) (P13 : ¬ ((1000000 : Int32) < ((0 : Int32) + p7))) (P14 : ¬ ((16 : Int32) < (((0 : Int32) + p7) + (1 : Int32)))) (P15 : Fld Z h0 a1 "com/example/lease/lease/core/InvalidFieldException" "field" "Ljava/lang/String;" (.ref a8)) (P16 : Exa Z h0 a8 "java/lang/String") (P17 : Fld Z h0 a8 "java/lang/String" "value" "[B" (.ref a9)) (P18 : Arv Z h0 a9 kz10 .byte p12 (zs11.map Value.int) (.int (0 : Int32))) (P19 : Fld Z h0 a8 "java/lang/String" "coder" "B" (.int (0 : Int32))) (P20 : ¬ ((0 : Int32) < (((((0 : Int32) + p7) + (1 : Int32)) + p12) - (16 : Int32)))) (P21 : ¬ (p12 < (0 : Int32))) (P22 : ¬ ((((0 : Int32) + p7) + (1 : Int32)) < (0 : Int32))) (P23 : ¬ ((1000000 : Int32) < (((0 : Int32) + p7) + (1 : Int32)))) (P24 : ¬ ((1000000 : Int32) < p12)) (P25 : ¬ ((16 : Int32) < ((((0 : Int32) + p7) + (1 : Int32)) + p12))) (P26 : ¬ (((((0 : Int32) + p7) + (1 : Int32)) + p12) = (16 : Int32))) (P27 : ¬ (((((0 : Int32) + p7) + (1 : Int32)) + p12) < (0 : Int32))) (P28 : ¬ ((12 : Int32) < (((((0 : Int32) + p7) + (1 : Int32)) + p12) - (0 : Int32)))) (P29 : ¬ ((((((0 : Int32) + p7) + (1 : Int32)) + p12) - (0 : Int32)) < (0 : Int32))) (P30 : (((((0 : Int32) + p7) + (1 : Int32)) + p12) - (0 : Int32)) < (16 : Int32)) (P31 : ¬ ((16 : Int32) < (((((0 : Int32) + p7) + (1 : Int32)) + p12) - (0 : Int32)))) (P32 : Fld Z h0 a1 "com/example/lease/lease/core/InvalidFieldException" "reason" "Ljava/lang/String;" (.ref a13)) (P33 : ¬ ((0 : Int32) < (((0 : Int32) + (((((0 : Int32) + p7) + (1 : Int32)) + p12) - (0 : Int32))) - (16 : Int32)))) (P34 : Exa Z h0 a13 "java/lang/String") (P35 : Fld Z h0 a13 "java/lang/String" "value" "[B" (.ref a14)) (P36 : ¬ ((0 : Int32) < ((((0 : Int32) + (((((0 : Int32) + p7) + (1 : Int32)) + p12) - (0 : Int32))) + (2 : Int32)) - (16 : Int32)))) (P37 : ¬ (((0 : Int32) + (((((0 : Int32) + p7) + (1 : Int32)) + p12) - (0 : Int32))) < (0 : Int32))) (P38 : ¬ ((1000000 : Int32) < ((0 : Int32) + (((((0 : Int32) + p7) + (1 : Int32)) + p12) - (0 : Int32))))) (P39 : ¬ ((16 : Int32) < (((0 : Int32) + (((((0 : Int32) + p7) + (1 : Int32)) + p12) - (0 : Int32))) + (2 : Int32)))) (P40 : Arv Z h0 a14 kz15 .byte p17 (zs16.map Value.int) (.int (0 : Int32))) (P41 : Fld Z h0 a13 "java/lang/String" "coder" "B" (.int (0 : Int32))) (P42 : ¬ ((0 : Int32) < (((((0 : Int32) + (((((0 : Int32) + p7) + (1 : Int32)) + p12) - (0 : Int32))) + (2 : Int32)) + p17) - (16 : Int32)))) (P43 : ¬ (p17 < (0 : Int32))) (P44 : ¬ ((((0 : Int32) + (((((0 : Int32) + p7) + (1 : Int32)) + p12) - (0 : Int32))) + (2 : Int32)) < (0 : Int32))) (P45 : ¬ ((1000000 : Int32) < (((0 : Int32) + (((((0 : Int32) + p7) + (1 : Int32)) + p12) - (0 : Int32))) + (2 : Int32)))) (P46 : ¬ ((1000000 : Int32) < p17)) (P47 : ¬ ((16 : Int32) < ((((0 : Int32) + (((((0 : Int32) + p7) + (1 : Int32)) + p12) - (0 : Int32))) + (2 : Int32)) + p17))) (P48 : ¬ (((((0 : Int32) + (((((0 : Int32) + p7) + (1 : Int32)) + p12) - (0 : Int32))) + (2 : Int32)) + p17) = (16 : Int32))) (P49 : ¬ (((((0 : Int32) + (((((0 : Int32) + p7) + (1 : Int32)) + p12) - (0 : Int32))) + (2 : Int32)) + p17) < (0 : Int32))) (P50 : ¬ ((12 : Int32) < (((((0 : Int32) + (((((0 : Int32) + p7) + (1 : Int32)) + p12) - (0 : Int32))) + (2 : Int32)) + p17) - (0 : Int32)))) (P51 : ¬ ((((((0 : Int32) + (((((0 : Int32) + p7) + (1 : Int32)) + p12) - (0 : Int32))) + (2 : Int32)) + p17) - (0 : Int32)) < (0 : Int32))) (P52 : (((((0 : Int32) + (((((0 : Int32) + p7) + (1 : Int32)) + p12) - (0 : Int32))) + (2 : Int32)) + p17) - (0 : Int32)) < (16 : Int32)) (P53 : ¬ ((16 : Int32) < (((((0 : Int32) + (((((0 : Int32) + p7) + (1 : Int32)) + p12) - (0 : Int32))) + (2 : Int32)) + p17) - (0 : Int32)))) (P54 : Sta Z Z.heap "java/lang/Throwable" "UNASSIGNED_STACK" "[Ljava/lang/StackTraceElement;" (.ref a18)) (P55 : Sta Z Z.heap "java/lang/Throwable" "SUPPRESSED_SENTINEL" "Ljava/util/List;" (.ref a19)) (P56 : Exa Z Z.heap a19 "java/util/Collections$EmptyList") (HL : l.stackTraces = true) :
    MetFree l (⟨"com/example/lease/lease/core/InvalidFieldException", "within", "(Ljava/lang/String;)Lcom/example/lease/lease/core/InvalidFieldException;"⟩ : MethodName) (head1 (Jvm.Cond.code (⟨"com/example/lease/lease/core/InvalidFieldException", "within", "(Ljava/lang/String;)Lcom/example/lease/lease/core/InvalidFieldException;"⟩ : MethodName) prog_10_method_4_code 2 (some (.object "com/example/lease/lease/core/InvalidFieldException")) :: ws) ({ frames := 8, cells := 18, slots := 2904, locals := 109 } : Room)) (fun a U => a = #[(.ref a1), (.ref a2)] ∧ Z.Warmed39 U.vm ∧ U.heap = h0 ∧ CHv Z consts_1 U.vm h0) (fun _ _ bl s _ => s.vm.MethodsKnown ∧ s.vm.FramesKnown bl) (fun _ U o U' => ∃ v L, o = .returned v ∧ (Q_rm39_1 Z a1 a2 p3 a4 kz5 zs6 p7 a8 a9 kz10 zs11 p12 a13 a14 kz15 zs16 p17 a18 a19 h0 n0 v U'.heap L ∧ CHr Z consts_1 U.vm U.heap U'.vm U'.heap) ∧ ReturnedEndW U o U' L ({ frames := 8, cells := 18, slots := 2904, locals := 109 } : Room).cells ({ frames := 8, cells := 18, slots := 2904, locals := 109 } : Room).slots) := by
  refine MetFree.of_bodySF (plainFor_of_name pn_10) hisR ?_
  intro p e s m args below meth c s₁ Bd hml0 hP hK
  obtain ⟨rfl, hZ, hh, HV0⟩ := hP
  have hx := Bd.exec
  have hby := Bd.bytes
  have hml : c.maxLocals = 2 := hml0
  have hown : s.vm.findClass "com/example/lease/lease/core/InvalidFieldException" = some m.cls := findClass_of_methodNamed Bd.named
  have hnm := (name_of_methodNamed Bd.named Bd.method).1
  have X0 : Stand p l e ({ frames := 8, cells := 18, slots := 2904, locals := 109 } : Room) s m #[(.ref a1), (.ref a2)] below meth c s₁ [] 0 0 := Stand.of_body Bd
  have e0 : s₁.heap = h0 := by rw [← hh, Bd.state]; rfl
  have N0 := Fr.nil n0
  obtain ⟨hTK, hBl⟩ := hK
  have CR0 := CHr.refl HV0
  refine Go.start (P := (fun o U' => ∃ v L, o = .returned v ∧ (Q_rm39_1 Z a1 a2 p3 a4 kz5 zs6 p7 a8 a9 kz10 zs11 p12 a13 a14 kz15 zs16 p17 a18 a19 h0 n0 v U'.heap L ∧ CHr Z consts_1 s.vm s.heap U'.vm U'.heap) ∧ ReturnedEndW s o U' L ({ frames := 8, cells := 18, slots := 2904, locals := 109 } : Room).cells ({ frames := 8, cells := 18, slots := 2904, locals := 109 } : Room).slots)) (castTop (g' := (mkF m 0 #[.val (.ref a1), .val (.ref a2)] [])) (by first | rfl | simp [entryFrame, mkF, argsToLocals, Value.category]) (T := s₁)) ?_
  obtain ⟨T1, h1, X1, e1, E1, A1, D1, U1, st1⟩ := newO X0 hx hZ hown (w236 hw) (w44 hw) (w45 hw) e0 (g := (mkF m 0 #[.val (.ref a1), .val (.ref a2)] [])) rfl (hb hby d39_0) (by decide) (by decide)
  obtain ⟨b1, z1⟩ : ∃ z, z = h0.size := ⟨_, rfl⟩
  rw [← z1] at A1 D1 U1 st1
  have U1 : Unt h1 b1 := U1
  have g_b1 : n0 ≤ b1 := Nat.le_trans (own_n0 O0) (Nat.le_of_eq z1.symm)
  have s_b1 : h0.size ≤ b1 := Nat.le_trans (Keep.refl h0 []).1 (Nat.le_of_eq z1.symm)
  have C1 : CHr Z consts_1 s.vm h0 s.vm h1 := CR0.trans (CHr.ext E1 CR0.1)
  have O1 : Old Z n0 h1 := O0.ext E1
  have K1 : Keep h0 h1 [] := (Keep.refl h0 []).ext E1
  have f1_185 : Fld Z h1 b1 "java/lang/Throwable" "cause" "Ljava/lang/Throwable;" .null := D1 (Or.inl (w185 hw)) (ty := (.object "java/lang/Throwable")) (by decide)
  have f1_188 : Fld Z h1 b1 "java/lang/Throwable" "stackTrace" "[Ljava/lang/StackTraceElement;" .null := D1 (Or.inl (w188 hw)) (ty := (.array (.object "java/lang/StackTraceElement"))) (by decide)
  have f1_191 : Fld Z h1 b1 "java/lang/Throwable" "suppressedExceptions" "Ljava/util/List;" .null := D1 (Or.inl (w191 hw)) (ty := (.object "java/util/List")) (by decide)
  have f1_215 : Fld Z h1 b1 "java/lang/Throwable" "detailMessage" "Ljava/lang/String;" .null := D1 (Or.inl (w215 hw)) (ty := (.object "java/lang/String")) (by decide)
  have f1_216 : Fld Z h1 b1 "java/lang/Throwable" "backtrace" "Ljava/lang/Object;" .null := D1 (Or.inl (w216 hw)) (ty := (.object "java/lang/Object")) (by decide)
  have f1_217 : Fld Z h1 b1 "java/lang/Throwable" "depth" "I" (.int (0 : Int32)) := D1 (Or.inl (w217 hw)) (ty := .int) (by decide)
  have f1_227 : Fld Z h1 b1 "com/example/lease/lease/core/InvalidFieldException" "field" "Ljava/lang/String;" .null := D1 (Or.inr (w227 hw)) (ty := (.object "java/lang/String")) (by decide)
  have f1_230 : Fld Z h1 b1 "com/example/lease/lease/core/InvalidFieldException" "reason" "Ljava/lang/String;" .null := D1 (Or.inr (w230 hw)) (ty := (.object "java/lang/String")) (by decide)
  refine Go.st st1 ?_
  show Go p e below _ (T1.setTop (mkF m 3 #[.val (.ref a1), .val (.ref a2)] [(.ref b1)]))
  refine Go.st (fun t k => XS.dup X1.here hx rfl (hb hby d39_3) rfl rfl k) ?_
  show Go p e below _ (T1.setTop (mkF m 4 #[.val (.ref a1), .val (.ref a2)] [(.ref b1), (.ref b1)]))
  obtain ⟨T2, h2, X2, e2, E2, A2, D2, -, st2⟩ := newO X1 hx hZ hown (w49 hw) (w50 hw) (w51 hw) e1 (g := (mkF m 4 #[.val (.ref a1), .val (.ref a2)] [(.ref b1), (.ref b1)])) rfl (hb hby d39_4) (by decide) (by decide)
  obtain ⟨b2, z2⟩ : ∃ z, z = h1.size := ⟨_, rfl⟩
  rw [← z2] at A2 D2 st2
  have g_b2 : n0 ≤ b2 := Nat.le_trans (own_n0 O1) (Nat.le_of_eq z2.symm)
  have s_b2 : h0.size ≤ b2 := Nat.le_trans K1.1 (Nat.le_of_eq z2.symm)
  have C2 : CHr Z consts_1 s.vm h0 s.vm h2 := C1.trans (CHr.ext E2 C1.1)
  have O2 : Old Z n0 h2 := O1.ext E2
  have K2 : Keep h0 h2 [] := K1.ext E2
  have f2_64 : Fld Z h2 b2 "java/lang/AbstractStringBuilder" "value" "[B" .null := D2 (Or.inl (w64 hw)) (ty := (.array .byte)) (by decide)
  have f2_66 : Fld Z h2 b2 "java/lang/AbstractStringBuilder" "coder" "B" (.int (0 : Int32)) := D2 (Or.inl (w66 hw)) (ty := .byte) (by decide)
  have f2_88 : Fld Z h2 b2 "java/lang/AbstractStringBuilder" "count" "I" (.int (0 : Int32)) := D2 (Or.inl (w88 hw)) (ty := .int) (by decide)
  refine Go.st st2 ?_
  show Go p e below _ (T2.setTop (mkF m 7 #[.val (.ref a1), .val (.ref a2)] [(.ref b2), (.ref b1), (.ref b1)]))
  refine Go.st (fun t k => XS.dup X2.here hx rfl (hb hby d39_7) rfl rfl k) ?_
  show Go p e below _ (T2.setTop (mkF m 8 #[.val (.ref a1), .val (.ref a2)] [(.ref b2), (.ref b2), (.ref b1), (.ref b1)]))
  obtain ⟨_, _, ⟨T3, L3, k3, n3⟩, -, X3, ⟨Lc3, hQ3, l3, y3, z3⟩, st3⟩ := X2.specialBack hx (y := (⟨"java/lang/StringBuilder", "<init>", "()V"⟩ : MethodName)) rfl hown (mvT hZ (w52 hw)) (mvT hZ (w53 hw)) (mvT hZ (w54 hw)) (by decide) (backOf (W := 3) (rm11_1 l Z a0 hw [] b2 p3 h2 n0 O2 P1 P2 A2 f2_64 g_b2 f2_66 f2_88) hZ (w54 hw) (w51 hw) (by decide) (by decide)) (g := (mkF m 8 #[.val (.ref a1), .val (.ref a2)] [(.ref b2), (.ref b2), (.ref b1), (.ref b1)])) rfl (by rw [hml]; rfl) (Steps.refl _) (a := b2) (argsL := []) (rest := [(.ref b2), (.ref b1), (.ref b1)]) (lenOf pd_6 rfl) rfl (by show 2 * 0 + _ ≤ _; exact Nat.le_of_eq rfl) (hb hby d39_8) (fun vm₁ hw₁ => ⟨rfl, e2, (by decide : 2 + 1 ≤ _), (by decide : 12 + 16 ≤ _)⟩)
  dsimp only [Pt.U, Pt.locs, Pt.cells, Pt.slots] at X3 l3 y3 z3 st3 hQ3
  subst l3 y3 z3
  obtain ⟨b3_1_3, k3_1_3, rfl, M3, K3c, r3_0, r3_1, r3_2, r3_3, r3_4, r3_5⟩ := hQ3
  have N3 := Fr.app N0 M3
  have g_b3_1_3 : n0 ≤ b3_1_3 := Nat.le_trans (own_n0 O2) r3_0
  have s_b3_1_3 : h0.size ≤ b3_1_3 := Nat.le_trans K2.1 r3_0
  have SK3 : ∀ y ∈ ([b2] : List Addr), Safe Z consts_1 s.vm h2 y := (sfS (Safe.exa hZ.alike A2 (by decide) (by decide)) sf0)
  have C3 : CHr Z consts_1 s.vm h0 s.vm T3.heap := C2.trans (CHr.keep K3c SK3 C2.1)
  have O3 : Old Z n0 T3.heap := O2.keep K3c (allS g_b2 all0)
  have K3 : Keep h0 T3.heap [] := K2.trans K3c (allS (Or.inr s_b2) all0)
  refine Go.tr st3 ?_
  show Go p e below _ (T3.setTop (mkF m 11 #[.val (.ref a1), .val (.ref a2)] [(.ref b2), (.ref b1), (.ref b1)]))
  refine Go.st (fun t k => XS.aloadN X3.here hx rfl (hb hby d39_11) rfl rfl k) ?_
  show Go p e below _ (T3.setTop (mkF m 12 #[.val (.ref a1), .val (.ref a2)] [(.ref a2), (.ref b2), (.ref b1), (.ref b1)]))
  have c4 := (((P4.ext E1).ext E2).keep K3c (ninS (Nat.ne_of_lt (Nat.lt_of_lt_of_le (Nat.lt_of_lt_of_le P3.lt E1.1) (Nat.le_of_eq z2.symm))) nin0))
  have c5 := (((P5.ext E1).ext E2).keep K3c (ninS (Nat.ne_of_lt (Nat.lt_of_lt_of_le (Nat.lt_of_lt_of_le P5.lt E1.1) (Nat.le_of_eq z2.symm))) nin0))
  have c6 := (((P6.ext E1).ext E2).keep K3c (ninS (Nat.ne_of_lt (Nat.lt_of_lt_of_le (Nat.lt_of_lt_of_le P3.lt E1.1) (Nat.le_of_eq z2.symm))) nin0))
  obtain ⟨cq7, kq7, q7a, q7b, q7c⟩ := isOf hZ rfl (A2.keep K3c)
  obtain ⟨_, _, ⟨T7, L7, k7, n7⟩, -, X7, ⟨Lc7, hQ7, l7, y7, z7⟩, st7⟩ := X3.virtualBack hx (y := (⟨"java/lang/StringBuilder", "append", "(Ljava/lang/String;)Ljava/lang/StringBuilder;"⟩ : MethodName)) (z := (⟨"java/lang/StringBuilder", "append", "(Ljava/lang/String;)Ljava/lang/StringBuilder;"⟩ : MethodName)) hown (mvT hZ (w67 hw)) (mvT hZ (w68 hw)) (notFace_of_selects (args := #[]) (mvT hZ (w70 hw))) (mvT hZ (w70 hw)) (mvT hZ (w69 hw)) (by decide) (backOf (W := 2) (rm13_1 l Z a0 hw [] b2 a2 a4 kz5 zs6 p7 p3 b3_1_3 k3_1_3 (List.replicate 16 (0 : Int32)) T3.heap n0 O3 (((P3.ext E1).ext E2).keep K3c) c4 c5 P1 P2 c6 r3_3 (A2.keep K3c) r3_1 r3_4 r3_2 P7 g_b3_1_3 r3_5 P8 P9 (Nat.ne_of_lt (Nat.lt_of_lt_of_le A2.lt r3_0)) g_b2) hZ (w71 hw) (w51 hw) (by decide) (by decide)) q7a q7c (g := (mkF m 12 #[.val (.ref a1), .val (.ref a2)] [(.ref a2), (.ref b2), (.ref b1), (.ref b1)])) rfl (by rw [hml]; rfl) (Steps.refl _) (argsL := [(.ref a2)]) (rest := [(.ref b1), (.ref b1)]) (lenOf pd_13 rfl) rfl (by show 2 * 0 + _ ≤ _; exact Nat.le_of_eq rfl) (hb hby d39_12) (fun vm₁ hw₁ => ⟨rfl, rfl, (by decide : 3 + 0 ≤ _), (by decide : 28 + 0 ≤ _)⟩)
  dsimp only [Pt.U, Pt.locs, Pt.cells, Pt.slots] at X7 l7 y7 z7 st7 hQ7
  subst l7 y7 z7
  obtain ⟨rfl, M7, K7c, r7_0, r7_1, r7_2, r7_3, r7_4⟩ := hQ7
  have N7 := Fr.app N3 M7
  have S8 := (Safe.keep K3c SK3 C2.1 (Safe.new r3_0))
  have SK7 : ∀ y ∈ ([b2, b3_1_3] : List Addr), Safe Z consts_1 s.vm T3.heap y := (sfS (Safe.exa hZ.alike (A2.keep K3c) (by decide) (by decide)) (sfS S8 sf0))
  have C7 : CHr Z consts_1 s.vm h0 s.vm T7.heap := C3.trans (CHr.keep K7c SK7 C3.1)
  have O7 : Old Z n0 T7.heap := O3.keep K7c (allS g_b2 (allS g_b3_1_3 all0))
  have K7 : Keep h0 T7.heap [] := K3.trans K7c (allS (Or.inr s_b2) (allS (Or.inr s_b3_1_3) all0))
  refine Go.tr st7 ?_
  show Go p e below _ (T7.setTop (mkF m 15 #[.val (.ref a1), .val (.ref a2)] [(.ref b2), (.ref b1), (.ref b1)]))
  obtain ⟨b9, T9, h9, k9, t9, kk9, X9, e9, E9, hS9, hk9, hZ9, hown9, A9, Fc9, Fv9, V9, -, -, HC9, -, NE9, st9⟩ := ldcCH (s := s) (vm0 := s.vm) X7 hx hZ hown (w237 hw) (own_wS hw) rfl (State.WarmedH.since (State.WarmedH.refl s) 0) (Nat.zero_le _) (own_EW hw) (List.mem_of_getElem? (i := 3) rfl) C7.1 (vs := [(.int (46 : Int32))]) (z := (1 : Int32)) ⟨by decide, rfl⟩ (by decide) (by decide) (g := (mkF m 15 #[.val (.ref a1), .val (.ref a2)] [(.ref b2), (.ref b1), (.ref b1)])) rfl (hb hby d39_15) (n := 4) (by decide) (by decide) (by decide) (by decide)
  have hZ := hZ9
  have hown := hown9
  have C9 : CHr Z consts_1 s.vm h0 T9.vm h9 := C7.trans HC9
  have O9 : Old Z n0 h9 := O7.ext E9
  have K9 : Keep h0 h9 [] := K7.ext E9
  have S10 := (CHr.safe HC9 (Nat.lt_of_lt_of_le r3_4.lt K7c.1) (Safe.keep K7c SK7 C3.1 S8))
  have ne9_b3_1_3 := NE9 b3_1_3 S10
  refine Go.st st9 ?_
  show Go p e below _ (T9.setTop (mkF m 17 #[.val (.ref a1), .val (.ref a2)] [(.ref b9), (.ref b2), (.ref b1), (.ref b1)]))
  obtain ⟨cq11, kq11, q11a, q11b, q11c⟩ := isOf hZ e9 (((A2.keep K3c).keep K7c).ext E9)
  obtain ⟨_, _, ⟨T11, L11, k11, n11⟩, -, X11, ⟨Lc11, hQ11, l11, y11, z11⟩, st11⟩ := X9.virtualBack hx (y := (⟨"java/lang/StringBuilder", "append", "(Ljava/lang/String;)Ljava/lang/StringBuilder;"⟩ : MethodName)) (z := (⟨"java/lang/StringBuilder", "append", "(Ljava/lang/String;)Ljava/lang/StringBuilder;"⟩ : MethodName)) hown (mvT hZ (w67 hw)) (mvT hZ (w68 hw)) (notFace_of_selects (args := #[]) (mvT hZ (w70 hw))) (mvT hZ (w70 hw)) (mvT hZ (w69 hw)) (by decide) (backOf (W := 2) (rm13_3 l Z a0 hw [] b2 b9 t9 kk9 [(46 : Int32)] (1 : Int32) p3 ((0 : Int32) + p7) b3_1_3 k3_1_3 (own_put (List.replicate 16 (0 : Int32)) zs6 0 (p7).toNatClampNeg) h9 n0 O9 A9 Fv9 V9 P1 P2 Fc9 (r7_0.ext E9) (((A2.keep K3c).keep K7c).ext E9) (r7_1.ext E9) (r7_3.ext E9) (r7_2.ext E9) P11 g_b3_1_3 r7_4 (by decide : ¬ ((1 : Int32) < (0 : Int32))) P12 P13 (by decide : ¬ ((1000000 : Int32) < (1 : Int32))) P14 (Nat.ne_of_lt (Nat.lt_of_lt_of_le A2.lt r3_0)) g_b2) hZ (w71 hw) (w51 hw) (by decide) (by decide)) q11a q11c (g := (mkF m 17 #[.val (.ref a1), .val (.ref a2)] [(.ref b9), (.ref b2), (.ref b1), (.ref b1)])) rfl (by rw [hml]; rfl) (Steps.refl _) (argsL := [(.ref b9)]) (rest := [(.ref b1), (.ref b1)]) (lenOf pd_13 rfl) rfl (by show 2 * 0 + _ ≤ _; exact Nat.le_of_eq rfl) (hb hby d39_17) (fun vm₁ hw₁ => ⟨rfl, e9, (by decide : 5 + 0 ≤ _), (by decide : 36 + 0 ≤ _)⟩)
  dsimp only [Pt.U, Pt.locs, Pt.cells, Pt.slots] at X11 l11 y11 z11 st11 hQ11
  subst l11 y11 z11
  obtain ⟨rfl, M11, K11c, r11_0, r11_1, r11_2, r11_3, r11_4⟩ := hQ11
  have N11 := Fr.app N7 M11
  have SK11 : ∀ y ∈ ([b2, b3_1_3] : List Addr), Safe Z consts_1 T9.vm h9 y := (sfS (Safe.exa hZ.alike (((A2.keep K3c).keep K7c).ext E9) (by decide) (by decide)) (sfS S10 sf0))
  have C11 : CHr Z consts_1 s.vm h0 T9.vm T11.heap := C9.trans (CHr.keep K11c SK11 C9.1)
  have O11 : Old Z n0 T11.heap := O9.keep K11c (allS g_b2 (allS g_b3_1_3 all0))
  have K11 : Keep h0 T11.heap [] := K9.trans K11c (allS (Or.inr s_b2) (allS (Or.inr s_b3_1_3) all0))
  refine Go.tr st11 ?_
  show Go p e below _ (T11.setTop (mkF m 20 #[.val (.ref a1), .val (.ref a2)] [(.ref b2), (.ref b1), (.ref b1)]))
  refine Go.st (fun t k => XS.aloadN X11.here hx rfl (hb hby d39_20) rfl rfl k) ?_
  show Go p e below _ (T11.setTop (mkF m 21 #[.val (.ref a1), .val (.ref a2)] [(.ref a1), (.ref b2), (.ref b1), (.ref b1)]))
  have c12 := ((((((P15.ext E1).ext E2).keep K3c (ninS (Nat.ne_of_lt (Nat.lt_of_lt_of_le (Nat.lt_of_lt_of_le P10.lt E1.1) (Nat.le_of_eq z2.symm))) nin0)).keep K7c (ninS (Nat.ne_of_lt (Nat.lt_of_lt_of_le (Nat.lt_of_lt_of_le P10.lt E1.1) (Nat.le_of_eq z2.symm))) (ninS (Nat.ne_of_lt (Nat.lt_of_lt_of_le (Nat.lt_of_lt_of_le (Nat.lt_of_lt_of_le P10.lt E1.1) E2.1) r3_0)) nin0))).ext E9).keep K11c (ninS (Nat.ne_of_lt (Nat.lt_of_lt_of_le (Nat.lt_of_lt_of_le P10.lt E1.1) (Nat.le_of_eq z2.symm))) (ninS (Nat.ne_of_lt (Nat.lt_of_lt_of_le (Nat.lt_of_lt_of_le (Nat.lt_of_lt_of_le P10.lt E1.1) E2.1) r3_0)) nin0)))
  obtain ⟨T13, X13, e13, st13⟩ := getF X11 hx hZ hown (host := "") (Or.inl (w226 hw)) Via.refl rfl c12 (g := (mkF m 21 #[.val (.ref a1), .val (.ref a2)] [(.ref a1), (.ref b2), (.ref b1), (.ref b1)])) rfl rfl (hb hby d39_21)
  refine Go.st st13 ?_
  show Go p e below _ (T13.setTop (mkF m 24 #[.val (.ref a1), .val (.ref a2)] [(.ref a8), (.ref b2), (.ref b1), (.ref b1)]))
  have c14 := ((((((P16.ext E1).ext E2).keep K3c).keep K7c).ext E9).keep K11c)
  have c15 := ((((((P17.ext E1).ext E2).keep K3c (ninS (Nat.ne_of_lt (Nat.lt_of_lt_of_le (Nat.lt_of_lt_of_le P16.lt E1.1) (Nat.le_of_eq z2.symm))) nin0)).keep K7c (ninS (Nat.ne_of_lt (Nat.lt_of_lt_of_le (Nat.lt_of_lt_of_le P16.lt E1.1) (Nat.le_of_eq z2.symm))) (ninS (Nat.ne_of_lt (Nat.lt_of_lt_of_le (Nat.lt_of_lt_of_le (Nat.lt_of_lt_of_le P16.lt E1.1) E2.1) r3_0)) nin0))).ext E9).keep K11c (ninS (Nat.ne_of_lt (Nat.lt_of_lt_of_le (Nat.lt_of_lt_of_le P16.lt E1.1) (Nat.le_of_eq z2.symm))) (ninS (Nat.ne_of_lt (Nat.lt_of_lt_of_le (Nat.lt_of_lt_of_le (Nat.lt_of_lt_of_le P16.lt E1.1) E2.1) r3_0)) nin0)))
  have c16 := ((((((P18.ext E1).ext E2).keep K3c (ninS (Nat.ne_of_lt (Nat.lt_of_lt_of_le (Nat.lt_of_lt_of_le P18.lt E1.1) (Nat.le_of_eq z2.symm))) nin0)).keep K7c (ninS (Nat.ne_of_lt (Nat.lt_of_lt_of_le (Nat.lt_of_lt_of_le P18.lt E1.1) (Nat.le_of_eq z2.symm))) (ninS (Nat.ne_of_lt (Nat.lt_of_lt_of_le (Nat.lt_of_lt_of_le (Nat.lt_of_lt_of_le P18.lt E1.1) E2.1) r3_0)) nin0))).ext E9).keep K11c (ninS (Nat.ne_of_lt (Nat.lt_of_lt_of_le (Nat.lt_of_lt_of_le P18.lt E1.1) (Nat.le_of_eq z2.symm))) (ninS (Nat.ne_of_lt (Nat.lt_of_lt_of_le (Nat.lt_of_lt_of_le (Nat.lt_of_lt_of_le P18.lt E1.1) E2.1) r3_0)) nin0)))
  have c17 := ((((((P19.ext E1).ext E2).keep K3c (ninS (Nat.ne_of_lt (Nat.lt_of_lt_of_le (Nat.lt_of_lt_of_le P16.lt E1.1) (Nat.le_of_eq z2.symm))) nin0)).keep K7c (ninS (Nat.ne_of_lt (Nat.lt_of_lt_of_le (Nat.lt_of_lt_of_le P16.lt E1.1) (Nat.le_of_eq z2.symm))) (ninS (Nat.ne_of_lt (Nat.lt_of_lt_of_le (Nat.lt_of_lt_of_le (Nat.lt_of_lt_of_le P16.lt E1.1) E2.1) r3_0)) nin0))).ext E9).keep K11c (ninS (Nat.ne_of_lt (Nat.lt_of_lt_of_le (Nat.lt_of_lt_of_le P16.lt E1.1) (Nat.le_of_eq z2.symm))) (ninS (Nat.ne_of_lt (Nat.lt_of_lt_of_le (Nat.lt_of_lt_of_le (Nat.lt_of_lt_of_le P16.lt E1.1) E2.1) r3_0)) nin0)))
  have c18 := ((((A2.keep K3c).keep K7c).ext E9).keep K11c)
  obtain ⟨cq19, kq19, q19a, q19b, q19c⟩ := isOf hZ e13 c18
  obtain ⟨_, _, ⟨T19, L19, k19, n19⟩, -, X19, ⟨Lc19, hQ19, l19, y19, z19⟩, st19⟩ := X13.virtualBack hx (y := (⟨"java/lang/StringBuilder", "append", "(Ljava/lang/String;)Ljava/lang/StringBuilder;"⟩ : MethodName)) (z := (⟨"java/lang/StringBuilder", "append", "(Ljava/lang/String;)Ljava/lang/StringBuilder;"⟩ : MethodName)) hown (mvT hZ (w67 hw)) (mvT hZ (w68 hw)) (notFace_of_selects (args := #[]) (mvT hZ (w70 hw))) (mvT hZ (w70 hw)) (mvT hZ (w69 hw)) (by decide) (backOf (W := 2) (rm13_3 l Z a0 hw [] b2 a8 a9 kz10 zs11 p12 p3 (((0 : Int32) + p7) + (1 : Int32)) b3_1_3 k3_1_3 (own_put (own_put (List.replicate 16 (0 : Int32)) zs6 0 (p7).toNatClampNeg) [(46 : Int32)] (((0 : Int32) + p7)).toNatClampNeg 1) T11.heap n0 O11 c14 c15 c16 P1 P2 c17 r11_0 c18 r11_1 r11_3 r11_2 P20 g_b3_1_3 r11_4 P21 P22 P23 P24 P25 (Nat.ne_of_lt (Nat.lt_of_lt_of_le A2.lt r3_0)) g_b2) hZ (w71 hw) (w51 hw) (by decide) (by decide)) q19a q19c (g := (mkF m 24 #[.val (.ref a1), .val (.ref a2)] [(.ref a8), (.ref b2), (.ref b1), (.ref b1)])) rfl (by rw [hml]; rfl) (Steps.refl _) (argsL := [(.ref a8)]) (rest := [(.ref b1), (.ref b1)]) (lenOf pd_13 rfl) rfl (by show 2 * 0 + _ ≤ _; exact Nat.le_of_eq rfl) (hb hby d39_24) (fun vm₁ hw₁ => ⟨rfl, e13, (by decide : 5 + 0 ≤ _), (by decide : 36 + 0 ≤ _)⟩)
  dsimp only [Pt.U, Pt.locs, Pt.cells, Pt.slots] at X19 l19 y19 z19 st19 hQ19
  subst l19 y19 z19
  obtain ⟨rfl, M19, K19c, r19_0, r19_1, r19_2, r19_3, r19_4⟩ := hQ19
  have N19 := Fr.app N11 M19
  have S20 := (Safe.keep K11c SK11 C9.1 S10)
  have SK19 : ∀ y ∈ ([b2, b3_1_3] : List Addr), Safe Z consts_1 T9.vm T11.heap y := (sfS (Safe.exa hZ.alike c18 (by decide) (by decide)) (sfS S20 sf0))
  have C19 : CHr Z consts_1 s.vm h0 T9.vm T19.heap := C11.trans (CHr.keep K19c SK19 C11.1)
  have O19 : Old Z n0 T19.heap := O11.keep K19c (allS g_b2 (allS g_b3_1_3 all0))
  have K19 : Keep h0 T19.heap [] := K11.trans K19c (allS (Or.inr s_b2) (allS (Or.inr s_b3_1_3) all0))
  refine Go.tr st19 ?_
  show Go p e below _ (T19.setTop (mkF m 27 #[.val (.ref a1), .val (.ref a2)] [(.ref b2), (.ref b1), (.ref b1)]))
  obtain ⟨cq21, kq21, q21a, q21b, q21c⟩ := isOf hZ rfl (c18.keep K19c)
  obtain ⟨_, _, ⟨T21, L21, k21, n21⟩, -, X21, ⟨Lc21, hQ21, l21, y21, z21⟩, st21⟩ := X19.virtualBack hx (y := (⟨"java/lang/StringBuilder", "toString", "()Ljava/lang/String;"⟩ : MethodName)) (z := (⟨"java/lang/StringBuilder", "toString", "()Ljava/lang/String;"⟩ : MethodName)) hown (mvT hZ (w115 hw)) (mvT hZ (w116 hw)) (notFace_of_selects (args := #[]) (mvT hZ (w118 hw))) (mvT hZ (w118 hw)) (mvT hZ (w117 hw)) (by decide) (backOf (W := 2) (rm21_1 l Z a0 hw [] b2 b3_1_3 ((((0 : Int32) + p7) + (1 : Int32)) + p12) p3 k3_1_3 (own_put (own_put (own_put (List.replicate 16 (0 : Int32)) zs6 0 (p7).toNatClampNeg) [(46 : Int32)] (((0 : Int32) + p7)).toNatClampNeg 1) zs11 ((((0 : Int32) + p7) + (1 : Int32))).toNatClampNeg (p12).toNatClampNeg) T19.heap n0 O19 (c18.keep K19c) r19_1 r19_0 P1 P2 r19_2 r19_3 P26 P27 P28 P29 P30 P31) hZ (w119 hw) (w51 hw) (by decide) (by decide)) q21a q21c (g := (mkF m 27 #[.val (.ref a1), .val (.ref a2)] [(.ref b2), (.ref b1), (.ref b1)])) rfl (by rw [hml]; rfl) (Steps.refl _) (argsL := []) (rest := [(.ref b1), (.ref b1)]) (lenOf pd_21 rfl) rfl (by show 2 * 0 + _ ≤ _; exact Nat.le_of_eq rfl) (hb hby d39_27) (fun vm₁ hw₁ => ⟨rfl, rfl, (by decide : 5 + 2 ≤ _), (by decide : 36 + 16 ≤ _)⟩)
  dsimp only [Pt.U, Pt.locs, Pt.cells, Pt.slots] at X21 l21 y21 z21 st21 hQ21
  subst l21 y21 z21
  obtain ⟨b1_21, b2_2_6_1_2_21, k2_2_6_1_2_21, rfl, M21, K21c, r21_0, r21_1, r21_2, r21_3, r21_4, r21_5, r21_6, r21_7⟩ := hQ21
  have N21 := Fr.app N19 M21
  have g_b1_21 : n0 ≤ b1_21 := Nat.le_trans (own_n0 O19) r21_0
  have s_b1_21 : h0.size ≤ b1_21 := Nat.le_trans K19.1 r21_0
  have g_b2_2_6_1_2_21 : n0 ≤ b2_2_6_1_2_21 := Nat.le_trans (own_n0 O19) r21_1
  have s_b2_2_6_1_2_21 : h0.size ≤ b2_2_6_1_2_21 := Nat.le_trans K19.1 r21_1
  have C21 : CHr Z consts_1 s.vm h0 T9.vm T21.heap := C19.trans (CHr.keep K21c sf0 C19.1)
  have O21 : Old Z n0 T21.heap := O19.keep K21c all0
  have K21 : Keep h0 T21.heap [] := K19.trans K21c all0
  refine Go.tr st21 ?_
  show Go p e below _ (T21.setTop (mkF m 30 #[.val (.ref a1), .val (.ref a2)] [(.ref b1_21), (.ref b1), (.ref b1)]))
  refine Go.st (fun t k => XS.aloadN X21.here hx rfl (hb hby d39_30) rfl rfl k) ?_
  show Go p e below _ (T21.setTop (mkF m 31 #[.val (.ref a1), .val (.ref a2)] [(.ref a1), (.ref b1_21), (.ref b1), (.ref b1)]))
  have c22 := ((((((((P32.ext E1).ext E2).keep K3c (ninS (Nat.ne_of_lt (Nat.lt_of_lt_of_le (Nat.lt_of_lt_of_le P10.lt E1.1) (Nat.le_of_eq z2.symm))) nin0)).keep K7c (ninS (Nat.ne_of_lt (Nat.lt_of_lt_of_le (Nat.lt_of_lt_of_le P10.lt E1.1) (Nat.le_of_eq z2.symm))) (ninS (Nat.ne_of_lt (Nat.lt_of_lt_of_le (Nat.lt_of_lt_of_le (Nat.lt_of_lt_of_le P10.lt E1.1) E2.1) r3_0)) nin0))).ext E9).keep K11c (ninS (Nat.ne_of_lt (Nat.lt_of_lt_of_le (Nat.lt_of_lt_of_le P10.lt E1.1) (Nat.le_of_eq z2.symm))) (ninS (Nat.ne_of_lt (Nat.lt_of_lt_of_le (Nat.lt_of_lt_of_le (Nat.lt_of_lt_of_le P10.lt E1.1) E2.1) r3_0)) nin0))).keep K19c (ninS (Nat.ne_of_lt (Nat.lt_of_lt_of_le (Nat.lt_of_lt_of_le P10.lt E1.1) (Nat.le_of_eq z2.symm))) (ninS (Nat.ne_of_lt (Nat.lt_of_lt_of_le (Nat.lt_of_lt_of_le (Nat.lt_of_lt_of_le P10.lt E1.1) E2.1) r3_0)) nin0))).keep K21c nin0)
  obtain ⟨T23, X23, e23, st23⟩ := getF X21 hx hZ hown (host := "") (Or.inl (w229 hw)) Via.refl rfl c22 (g := (mkF m 31 #[.val (.ref a1), .val (.ref a2)] [(.ref a1), (.ref b1_21), (.ref b1), (.ref b1)])) rfl rfl (hb hby d39_31)
  refine Go.st st23 ?_
  show Go p e below _ (T23.setTop (mkF m 34 #[.val (.ref a1), .val (.ref a2)] [(.ref a13), (.ref b1_21), (.ref b1), (.ref b1)]))
  have c24 := (((((((A1.ext E2).keep K3c).keep K7c).ext E9).keep K11c).keep K19c).keep K21c)
  have c25 := ((((((((P34.ext E1).ext E2).keep K3c).keep K7c).ext E9).keep K11c).keep K19c).keep K21c)
  have c26 := ((((((((P35.ext E1).ext E2).keep K3c (ninS (Nat.ne_of_lt (Nat.lt_of_lt_of_le (Nat.lt_of_lt_of_le P34.lt E1.1) (Nat.le_of_eq z2.symm))) nin0)).keep K7c (ninS (Nat.ne_of_lt (Nat.lt_of_lt_of_le (Nat.lt_of_lt_of_le P34.lt E1.1) (Nat.le_of_eq z2.symm))) (ninS (Nat.ne_of_lt (Nat.lt_of_lt_of_le (Nat.lt_of_lt_of_le (Nat.lt_of_lt_of_le P34.lt E1.1) E2.1) r3_0)) nin0))).ext E9).keep K11c (ninS (Nat.ne_of_lt (Nat.lt_of_lt_of_le (Nat.lt_of_lt_of_le P34.lt E1.1) (Nat.le_of_eq z2.symm))) (ninS (Nat.ne_of_lt (Nat.lt_of_lt_of_le (Nat.lt_of_lt_of_le (Nat.lt_of_lt_of_le P34.lt E1.1) E2.1) r3_0)) nin0))).keep K19c (ninS (Nat.ne_of_lt (Nat.lt_of_lt_of_le (Nat.lt_of_lt_of_le P34.lt E1.1) (Nat.le_of_eq z2.symm))) (ninS (Nat.ne_of_lt (Nat.lt_of_lt_of_le (Nat.lt_of_lt_of_le (Nat.lt_of_lt_of_le P34.lt E1.1) E2.1) r3_0)) nin0))).keep K21c nin0)
  have c27 := ((((((((P40.ext E1).ext E2).keep K3c (ninS (Nat.ne_of_lt (Nat.lt_of_lt_of_le (Nat.lt_of_lt_of_le P40.lt E1.1) (Nat.le_of_eq z2.symm))) nin0)).keep K7c (ninS (Nat.ne_of_lt (Nat.lt_of_lt_of_le (Nat.lt_of_lt_of_le P40.lt E1.1) (Nat.le_of_eq z2.symm))) (ninS (Nat.ne_of_lt (Nat.lt_of_lt_of_le (Nat.lt_of_lt_of_le (Nat.lt_of_lt_of_le P40.lt E1.1) E2.1) r3_0)) nin0))).ext E9).keep K11c (ninS (Nat.ne_of_lt (Nat.lt_of_lt_of_le (Nat.lt_of_lt_of_le P40.lt E1.1) (Nat.le_of_eq z2.symm))) (ninS (Nat.ne_of_lt (Nat.lt_of_lt_of_le (Nat.lt_of_lt_of_le (Nat.lt_of_lt_of_le P40.lt E1.1) E2.1) r3_0)) nin0))).keep K19c (ninS (Nat.ne_of_lt (Nat.lt_of_lt_of_le (Nat.lt_of_lt_of_le P40.lt E1.1) (Nat.le_of_eq z2.symm))) (ninS (Nat.ne_of_lt (Nat.lt_of_lt_of_le (Nat.lt_of_lt_of_le (Nat.lt_of_lt_of_le P40.lt E1.1) E2.1) r3_0)) nin0))).keep K21c nin0)
  have c28 := ((((((((P41.ext E1).ext E2).keep K3c (ninS (Nat.ne_of_lt (Nat.lt_of_lt_of_le (Nat.lt_of_lt_of_le P34.lt E1.1) (Nat.le_of_eq z2.symm))) nin0)).keep K7c (ninS (Nat.ne_of_lt (Nat.lt_of_lt_of_le (Nat.lt_of_lt_of_le P34.lt E1.1) (Nat.le_of_eq z2.symm))) (ninS (Nat.ne_of_lt (Nat.lt_of_lt_of_le (Nat.lt_of_lt_of_le (Nat.lt_of_lt_of_le P34.lt E1.1) E2.1) r3_0)) nin0))).ext E9).keep K11c (ninS (Nat.ne_of_lt (Nat.lt_of_lt_of_le (Nat.lt_of_lt_of_le P34.lt E1.1) (Nat.le_of_eq z2.symm))) (ninS (Nat.ne_of_lt (Nat.lt_of_lt_of_le (Nat.lt_of_lt_of_le (Nat.lt_of_lt_of_le P34.lt E1.1) E2.1) r3_0)) nin0))).keep K19c (ninS (Nat.ne_of_lt (Nat.lt_of_lt_of_le (Nat.lt_of_lt_of_le P34.lt E1.1) (Nat.le_of_eq z2.symm))) (ninS (Nat.ne_of_lt (Nat.lt_of_lt_of_le (Nat.lt_of_lt_of_le (Nat.lt_of_lt_of_le P34.lt E1.1) E2.1) r3_0)) nin0))).keep K21c nin0)
  have c29 := (((((((f1_185.ext E2).keep K3c (ninS (Nat.ne_of_lt (Nat.lt_of_lt_of_le A1.lt (Nat.le_of_eq z2.symm))) nin0)).keep K7c (ninS (Nat.ne_of_lt (Nat.lt_of_lt_of_le A1.lt (Nat.le_of_eq z2.symm))) (ninS (Nat.ne_of_lt (Nat.lt_of_lt_of_le (Nat.lt_of_lt_of_le A1.lt E2.1) r3_0)) nin0))).ext E9).keep K11c (ninS (Nat.ne_of_lt (Nat.lt_of_lt_of_le A1.lt (Nat.le_of_eq z2.symm))) (ninS (Nat.ne_of_lt (Nat.lt_of_lt_of_le (Nat.lt_of_lt_of_le A1.lt E2.1) r3_0)) nin0))).keep K19c (ninS (Nat.ne_of_lt (Nat.lt_of_lt_of_le A1.lt (Nat.le_of_eq z2.symm))) (ninS (Nat.ne_of_lt (Nat.lt_of_lt_of_le (Nat.lt_of_lt_of_le A1.lt E2.1) r3_0)) nin0))).keep K21c nin0)
  have c30 := (((((((f1_188.ext E2).keep K3c (ninS (Nat.ne_of_lt (Nat.lt_of_lt_of_le A1.lt (Nat.le_of_eq z2.symm))) nin0)).keep K7c (ninS (Nat.ne_of_lt (Nat.lt_of_lt_of_le A1.lt (Nat.le_of_eq z2.symm))) (ninS (Nat.ne_of_lt (Nat.lt_of_lt_of_le (Nat.lt_of_lt_of_le A1.lt E2.1) r3_0)) nin0))).ext E9).keep K11c (ninS (Nat.ne_of_lt (Nat.lt_of_lt_of_le A1.lt (Nat.le_of_eq z2.symm))) (ninS (Nat.ne_of_lt (Nat.lt_of_lt_of_le (Nat.lt_of_lt_of_le A1.lt E2.1) r3_0)) nin0))).keep K19c (ninS (Nat.ne_of_lt (Nat.lt_of_lt_of_le A1.lt (Nat.le_of_eq z2.symm))) (ninS (Nat.ne_of_lt (Nat.lt_of_lt_of_le (Nat.lt_of_lt_of_le A1.lt E2.1) r3_0)) nin0))).keep K21c nin0)
  have c31 := (((((((f1_191.ext E2).keep K3c (ninS (Nat.ne_of_lt (Nat.lt_of_lt_of_le A1.lt (Nat.le_of_eq z2.symm))) nin0)).keep K7c (ninS (Nat.ne_of_lt (Nat.lt_of_lt_of_le A1.lt (Nat.le_of_eq z2.symm))) (ninS (Nat.ne_of_lt (Nat.lt_of_lt_of_le (Nat.lt_of_lt_of_le A1.lt E2.1) r3_0)) nin0))).ext E9).keep K11c (ninS (Nat.ne_of_lt (Nat.lt_of_lt_of_le A1.lt (Nat.le_of_eq z2.symm))) (ninS (Nat.ne_of_lt (Nat.lt_of_lt_of_le (Nat.lt_of_lt_of_le A1.lt E2.1) r3_0)) nin0))).keep K19c (ninS (Nat.ne_of_lt (Nat.lt_of_lt_of_le A1.lt (Nat.le_of_eq z2.symm))) (ninS (Nat.ne_of_lt (Nat.lt_of_lt_of_le (Nat.lt_of_lt_of_le A1.lt E2.1) r3_0)) nin0))).keep K21c nin0)
  have c32 := (((((((U1.ext E2).keep K3c (ninS (Nat.ne_of_lt (Nat.lt_of_lt_of_le A1.lt (Nat.le_of_eq z2.symm))) nin0)).keep K7c (ninS (Nat.ne_of_lt (Nat.lt_of_lt_of_le A1.lt (Nat.le_of_eq z2.symm))) (ninS (Nat.ne_of_lt (Nat.lt_of_lt_of_le (Nat.lt_of_lt_of_le A1.lt E2.1) r3_0)) nin0))).ext E9).keep K11c (ninS (Nat.ne_of_lt (Nat.lt_of_lt_of_le A1.lt (Nat.le_of_eq z2.symm))) (ninS (Nat.ne_of_lt (Nat.lt_of_lt_of_le (Nat.lt_of_lt_of_le A1.lt E2.1) r3_0)) nin0))).keep K19c (ninS (Nat.ne_of_lt (Nat.lt_of_lt_of_le A1.lt (Nat.le_of_eq z2.symm))) (ninS (Nat.ne_of_lt (Nat.lt_of_lt_of_le (Nat.lt_of_lt_of_le A1.lt E2.1) r3_0)) nin0))).keep K21c nin0)
  have c33 := (((((((f1_216.ext E2).keep K3c (ninS (Nat.ne_of_lt (Nat.lt_of_lt_of_le A1.lt (Nat.le_of_eq z2.symm))) nin0)).keep K7c (ninS (Nat.ne_of_lt (Nat.lt_of_lt_of_le A1.lt (Nat.le_of_eq z2.symm))) (ninS (Nat.ne_of_lt (Nat.lt_of_lt_of_le (Nat.lt_of_lt_of_le A1.lt E2.1) r3_0)) nin0))).ext E9).keep K11c (ninS (Nat.ne_of_lt (Nat.lt_of_lt_of_le A1.lt (Nat.le_of_eq z2.symm))) (ninS (Nat.ne_of_lt (Nat.lt_of_lt_of_le (Nat.lt_of_lt_of_le A1.lt E2.1) r3_0)) nin0))).keep K19c (ninS (Nat.ne_of_lt (Nat.lt_of_lt_of_le A1.lt (Nat.le_of_eq z2.symm))) (ninS (Nat.ne_of_lt (Nat.lt_of_lt_of_le (Nat.lt_of_lt_of_le A1.lt E2.1) r3_0)) nin0))).keep K21c nin0)
  have c34 := (((((((f1_215.ext E2).keep K3c (ninS (Nat.ne_of_lt (Nat.lt_of_lt_of_le A1.lt (Nat.le_of_eq z2.symm))) nin0)).keep K7c (ninS (Nat.ne_of_lt (Nat.lt_of_lt_of_le A1.lt (Nat.le_of_eq z2.symm))) (ninS (Nat.ne_of_lt (Nat.lt_of_lt_of_le (Nat.lt_of_lt_of_le A1.lt E2.1) r3_0)) nin0))).ext E9).keep K11c (ninS (Nat.ne_of_lt (Nat.lt_of_lt_of_le A1.lt (Nat.le_of_eq z2.symm))) (ninS (Nat.ne_of_lt (Nat.lt_of_lt_of_le (Nat.lt_of_lt_of_le A1.lt E2.1) r3_0)) nin0))).keep K19c (ninS (Nat.ne_of_lt (Nat.lt_of_lt_of_le A1.lt (Nat.le_of_eq z2.symm))) (ninS (Nat.ne_of_lt (Nat.lt_of_lt_of_le (Nat.lt_of_lt_of_le A1.lt E2.1) r3_0)) nin0))).keep K21c nin0)
  have c35 := (((((((f1_217.ext E2).keep K3c (ninS (Nat.ne_of_lt (Nat.lt_of_lt_of_le A1.lt (Nat.le_of_eq z2.symm))) nin0)).keep K7c (ninS (Nat.ne_of_lt (Nat.lt_of_lt_of_le A1.lt (Nat.le_of_eq z2.symm))) (ninS (Nat.ne_of_lt (Nat.lt_of_lt_of_le (Nat.lt_of_lt_of_le A1.lt E2.1) r3_0)) nin0))).ext E9).keep K11c (ninS (Nat.ne_of_lt (Nat.lt_of_lt_of_le A1.lt (Nat.le_of_eq z2.symm))) (ninS (Nat.ne_of_lt (Nat.lt_of_lt_of_le (Nat.lt_of_lt_of_le A1.lt E2.1) r3_0)) nin0))).keep K19c (ninS (Nat.ne_of_lt (Nat.lt_of_lt_of_le A1.lt (Nat.le_of_eq z2.symm))) (ninS (Nat.ne_of_lt (Nat.lt_of_lt_of_le (Nat.lt_of_lt_of_le A1.lt E2.1) r3_0)) nin0))).keep K21c nin0)
  have c36 := (((((((f1_227.ext E2).keep K3c (ninS (Nat.ne_of_lt (Nat.lt_of_lt_of_le A1.lt (Nat.le_of_eq z2.symm))) nin0)).keep K7c (ninS (Nat.ne_of_lt (Nat.lt_of_lt_of_le A1.lt (Nat.le_of_eq z2.symm))) (ninS (Nat.ne_of_lt (Nat.lt_of_lt_of_le (Nat.lt_of_lt_of_le A1.lt E2.1) r3_0)) nin0))).ext E9).keep K11c (ninS (Nat.ne_of_lt (Nat.lt_of_lt_of_le A1.lt (Nat.le_of_eq z2.symm))) (ninS (Nat.ne_of_lt (Nat.lt_of_lt_of_le (Nat.lt_of_lt_of_le A1.lt E2.1) r3_0)) nin0))).keep K19c (ninS (Nat.ne_of_lt (Nat.lt_of_lt_of_le A1.lt (Nat.le_of_eq z2.symm))) (ninS (Nat.ne_of_lt (Nat.lt_of_lt_of_le (Nat.lt_of_lt_of_le A1.lt E2.1) r3_0)) nin0))).keep K21c nin0)
  have c37 := (((((((f1_230.ext E2).keep K3c (ninS (Nat.ne_of_lt (Nat.lt_of_lt_of_le A1.lt (Nat.le_of_eq z2.symm))) nin0)).keep K7c (ninS (Nat.ne_of_lt (Nat.lt_of_lt_of_le A1.lt (Nat.le_of_eq z2.symm))) (ninS (Nat.ne_of_lt (Nat.lt_of_lt_of_le (Nat.lt_of_lt_of_le A1.lt E2.1) r3_0)) nin0))).ext E9).keep K11c (ninS (Nat.ne_of_lt (Nat.lt_of_lt_of_le A1.lt (Nat.le_of_eq z2.symm))) (ninS (Nat.ne_of_lt (Nat.lt_of_lt_of_le (Nat.lt_of_lt_of_le A1.lt E2.1) r3_0)) nin0))).keep K19c (ninS (Nat.ne_of_lt (Nat.lt_of_lt_of_le A1.lt (Nat.le_of_eq z2.symm))) (ninS (Nat.ne_of_lt (Nat.lt_of_lt_of_le (Nat.lt_of_lt_of_le A1.lt E2.1) r3_0)) nin0))).keep K21c nin0)
  obtain ⟨_, _, ⟨T38, L38, k38, n38⟩, -, X38, hS38, hg38, ⟨Lc38, hQ38, l38, y38, z38⟩, st38⟩ := X23.specialBackS hx (y := (⟨"com/example/lease/lease/core/InvalidFieldException", "<init>", "(Ljava/lang/String;Ljava/lang/String;)V"⟩ : MethodName)) rfl hown (mvT hZ (w238 hw)) (mvT hZ (w47 hw)) (mvT hZ (w48 hw)) (by decide) (own_backH (VP := fun vm => CHv Z consts_1 vm T21.heap) (Q := Q_rm10_1 Z b1 b1_21 a13 p3 b2_2_6_1_2_21 k2_2_6_1_2_21 (own_put (List.replicate ((((((0 : Int32) + p7) + (1 : Int32)) + p12) - (0 : Int32))).toNatClampNeg (0 : Int32)) (own_put (own_put (own_put (List.replicate 16 (0 : Int32)) zs6 0 (p7).toNatClampNeg) [(46 : Int32)] (((0 : Int32) + p7)).toNatClampNeg 1) zs11 ((((0 : Int32) + p7) + (1 : Int32))).toNatClampNeg (p12).toNatClampNeg) 0 ((((((0 : Int32) + p7) + (1 : Int32)) + p12) - (0 : Int32))).toNatClampNeg) (((((0 : Int32) + p7) + (1 : Int32)) + p12) - (0 : Int32)) a14 kz15 zs16 p17 a18 a19 T21.heap n0) (rm := ({ frames := 7, cells := 11, slots := 2852, locals := 94 } : Room)) (W := 1) (rm10_1 l Z a0 hw [] b1 b1_21 a13 p3 b2_2_6_1_2_21 k2_2_6_1_2_21 (own_put (List.replicate ((((((0 : Int32) + p7) + (1 : Int32)) + p12) - (0 : Int32))).toNatClampNeg (0 : Int32)) (own_put (own_put (own_put (List.replicate 16 (0 : Int32)) zs6 0 (p7).toNatClampNeg) [(46 : Int32)] (((0 : Int32) + p7)).toNatClampNeg 1) zs11 ((((0 : Int32) + p7) + (1 : Int32))).toNatClampNeg (p12).toNatClampNeg) 0 ((((((0 : Int32) + p7) + (1 : Int32)) + p12) - (0 : Int32))).toNatClampNeg) (((((0 : Int32) + p7) + (1 : Int32)) + p12) - (0 : Int32)) a14 kz15 zs16 p17 a18 a19 T21.heap n0 O21 P1 P2 r21_3 r21_5 r21_6 r21_4 P33 P29 P31 c24 c25 c26 P36 P37 P38 P39 c27 c28 P42 P43 P44 P45 P46 P47 P48 P49 P50 P51 P52 P53 c29 g_b1 P54 c30 P55 c31 HL c32 c33 c34 c35 c36 c37 P56) hZ (w48 hw) (w45 hw) (by decide) (by decide) (own_EW hw) C21.1 (Vm.MethodsKnown.alikeC hS9.1.alike hTK) (Vm.FramesKnown.alikeC hS9.1.alike hBl)) (g := (mkF m 34 #[.val (.ref a1), .val (.ref a2)] [(.ref a13), (.ref b1_21), (.ref b1), (.ref b1)])) rfl (by rw [hml]; rfl) (Steps.refl _) (a := b1) (argsL := [(.ref b1_21), (.ref a13)]) (rest := [(.ref b1)]) (lenOf pd_23 rfl) rfl (by show 2 * 0 + _ ≤ _; exact Nat.le_of_eq rfl) (hb hby d39_34) (fun vm₁ hw₁ => ⟨rfl, e23, ((own_chW hZ (own_EW hw) hw₁ C21.1).1), (by decide : 7 + 11 ≤ _), (by decide : 52 + 2852 ≤ _)⟩)
  dsimp only [Pt.U, Pt.locs, Pt.cells, Pt.slots] at X38 l38 y38 z38 st38 hQ38 hS38 hg38
  subst l38 y38 z38
  have hg38' : T21.heap.size ≤ T38.heap.size := (by rw [← e23]; exact hg38)
  have hZ : Z.Warmed39 (s.setVm T38.vm).vm := State.Warmed39.trans (t := (s.setVm T9.vm)) hZ hS38.1
  have hown : (s.setVm T38.vm).vm.findClass "com/example/lease/lease/core/InvalidFieldException" = some m.cls := by rw [show (s.setVm T38.vm).vm = T38.vm from rfl, hS38.1.alike.findClass]; exact hown
  have hS380 := hS38.1
  obtain ⟨X38, hS38⟩ := Jvm.Stand.againW X38 hS9 hS38 (Nat.le_trans (Nat.le_trans (Nat.le_trans (Nat.le_trans hk9 K11c.1) K19c.1) K21c.1) hg38')
  obtain ⟨hQ38, HC38⟩ := hQ38
  obtain ⟨b1_18_38, b2_2_6_1_2_18_38, k2_2_6_1_2_18_38, rfl, M38, K38c, r38_0, r38_1, r38_2, r38_3, r38_4, r38_5, r38_6, r38_7, r38_8, r38_9, r38_10, r38_11, r38_12⟩ := hQ38
  have N38 := Fr.app N21 M38
  have g_b1_18_38 : n0 ≤ b1_18_38 := Nat.le_trans (own_n0 O21) r38_0
  have s_b1_18_38 : h0.size ≤ b1_18_38 := Nat.le_trans K21.1 r38_0
  have g_b2_2_6_1_2_18_38 : n0 ≤ b2_2_6_1_2_18_38 := Nat.le_trans (own_n0 O21) r38_1
  have s_b2_2_6_1_2_18_38 : h0.size ≤ b2_2_6_1_2_18_38 := Nat.le_trans K21.1 r38_1
  have C38 : CHr Z consts_1 s.vm h0 T38.vm T38.heap := C21.trans HC38
  have O38 : Old Z n0 T38.heap := O21.keep K38c (allS g_b1 all0)
  have K38 : Keep h0 T38.heap [] := K21.trans K38c (allS (Or.inr s_b1) all0)
  refine Go.tr st38 ?_
  show Go p e below _ (T38.setTop (mkF m 37 #[.val (.ref a1), .val (.ref a2)] [(.ref b1)]))
  obtain ⟨fs, hr, hrun, hended, hEnd⟩ := X38.leaveW hS38 (Nat.le_refl _) (v := some (.ref b1)) (fun h => by rw [Bd.returns] at h; cases h)
  have c39 := (r21_4.keep K38c (ninS (Ne.symm (Nat.ne_of_lt (Nat.lt_of_lt_of_le (Nat.lt_of_lt_of_le (Nat.lt_of_lt_of_le (Nat.lt_of_lt_of_le (Nat.lt_of_lt_of_le (Nat.lt_of_lt_of_le (Nat.lt_of_lt_of_le A1.lt E2.1) K3c.1) K7c.1) E9.1) K11c.1) K19c.1) r21_0))) nin0))
  have c40 := (r21_5.keep K38c (ninS (Ne.symm (Nat.ne_of_lt (Nat.lt_of_lt_of_le (Nat.lt_of_lt_of_le (Nat.lt_of_lt_of_le (Nat.lt_of_lt_of_le (Nat.lt_of_lt_of_le (Nat.lt_of_lt_of_le (Nat.lt_of_lt_of_le A1.lt E2.1) K3c.1) K7c.1) E9.1) K11c.1) K19c.1) r21_0))) nin0))
  have c41 := (r21_6.keep K38c (ninS (Ne.symm (Nat.ne_of_lt (Nat.lt_of_lt_of_le (Nat.lt_of_lt_of_le (Nat.lt_of_lt_of_le (Nat.lt_of_lt_of_le (Nat.lt_of_lt_of_le (Nat.lt_of_lt_of_le (Nat.lt_of_lt_of_le A1.lt E2.1) K3c.1) K7c.1) E9.1) K11c.1) K19c.1) r21_1))) nin0))
  refine ⟨_, _, ?_, hrun, hended, _, _, rfl, ?_, ⟨hEnd.1, hEnd.2.1, hEnd.2.2.1, hEnd.2.2.2.mono (by decide) (by decide)⟩⟩
  · exact own_retA X38 hx Bd.returns rfl rfl (hb hby d39_37) hr
  · show Q_rm39_1 Z a1 a2 p3 a4 kz5 zs6 p7 a8 a9 kz10 zs11 p12 a13 a14 kz15 zs16 p17 a18 a19 h0 n0 _ T38.heap _ ∧ CHr Z consts_1 s.vm s.heap T38.vm T38.heap
    rw [hh]
    exact ⟨⟨b1, b1_21, b2_2_6_1_2_21, b1_18_38, b2_2_6_1_2_18_38, k2_2_6_1_2_18_38, k2_2_6_1_2_21, rfl, N38, K38, s_b1, s_b1_21, s_b2_2_6_1_2_21, s_b1_18_38, s_b2_2_6_1_2_18_38, (Nat.ne_of_lt (Nat.lt_of_lt_of_le (Nat.lt_of_lt_of_le (Nat.lt_of_lt_of_le (Nat.lt_of_lt_of_le (Nat.lt_of_lt_of_le (Nat.lt_of_lt_of_le (Nat.lt_of_lt_of_le A1.lt E2.1) K3c.1) K7c.1) E9.1) K11c.1) K19c.1) r21_0)), (Nat.ne_of_lt (Nat.lt_of_lt_of_le (Nat.lt_of_lt_of_le (Nat.lt_of_lt_of_le (Nat.lt_of_lt_of_le (Nat.lt_of_lt_of_le (Nat.lt_of_lt_of_le (Nat.lt_of_lt_of_le A1.lt E2.1) K3c.1) K7c.1) E9.1) K11c.1) K19c.1) r21_1)), (Nat.ne_of_lt (Nat.lt_of_lt_of_le (Nat.lt_of_lt_of_le (Nat.lt_of_lt_of_le (Nat.lt_of_lt_of_le (Nat.lt_of_lt_of_le (Nat.lt_of_lt_of_le (Nat.lt_of_lt_of_le (Nat.lt_of_lt_of_le A1.lt E2.1) K3c.1) K7c.1) E9.1) K11c.1) K19c.1) K21c.1) r38_0)), (Nat.ne_of_lt (Nat.lt_of_lt_of_le (Nat.lt_of_lt_of_le (Nat.lt_of_lt_of_le (Nat.lt_of_lt_of_le (Nat.lt_of_lt_of_le (Nat.lt_of_lt_of_le (Nat.lt_of_lt_of_le (Nat.lt_of_lt_of_le A1.lt E2.1) K3c.1) K7c.1) E9.1) K11c.1) K19c.1) K21c.1) r38_1)), r21_2, (Nat.ne_of_lt (Nat.lt_of_lt_of_le r21_3.lt r38_0)), (Nat.ne_of_lt (Nat.lt_of_lt_of_le r21_3.lt r38_1)), (Nat.ne_of_lt (Nat.lt_of_lt_of_le r21_6.lt r38_0)), (Nat.ne_of_lt (Nat.lt_of_lt_of_le r21_6.lt r38_1)), r38_2, (c24.keep K38c), r38_3, r38_4, r38_5, r38_6, r38_7, r38_8, r38_9, r38_10, (r21_3.keep K38c), c39, c40, r38_11, c41, r38_12, r21_7⟩, C38.trans (own_chX (s := (s.setVm T38.vm)) X38 hZ (own_EW hw) C38.1)⟩
def Q_rm40_1 (Z : State) (a1 : Addr) (a2 : Addr) (h0 : Heap) (n0 : Nat) (v : Option Value) (h : Heap) (L : List Loc) : Prop := v = some (.ref a2) ∧ Fr n0 L ∧ h = h0
set_option maxRecDepth 65536 in
set_option maxHeartbeats 40000000 in
theorem rm40_1 (l : Launch) (Z : State) (a0 : Array Value) (hw : ∀ d ∈ tables_1, d.before a0 Z = true) (ws : List Jvm.Cond) (a1 : Addr) (a2 : Addr) (h0 : Heap) (n0 : Nat) (O0 : Old Z n0 h0) (P1 : Fld Z h0 a1 "com/example/lease/lease/core/InvalidFieldException" "field" "Ljava/lang/String;" (.ref a2)) :
    MetFree l (⟨"com/example/lease/lease/core/InvalidFieldException", "field", "()Ljava/lang/String;"⟩ : MethodName) (head1 (Jvm.Cond.code (⟨"com/example/lease/lease/core/InvalidFieldException", "field", "()Ljava/lang/String;"⟩ : MethodName) prog_10_method_2_code 1 (some (.object "java/lang/String")) :: ws) ({ frames := 0, cells := 0, slots := 0, locals := 0 } : Room)) (fun a U => a = #[(.ref a1)] ∧ Z.Warmed39 U.vm ∧ U.heap = h0) (fun _ _ _ _ _ => True) (fun _ U o U' => ∃ v L, o = .returned v ∧ Q_rm40_1 Z a1 a2 h0 n0 v U'.heap L ∧ FrameEnd U o U' L ({ frames := 0, cells := 0, slots := 0, locals := 0 } : Room).cells ({ frames := 0, cells := 0, slots := 0, locals := 0 } : Room).slots) := by
  refine MetFree.of_bodySF (plainFor_of_name pn_10) hisR ?_
  intro p e s m args below meth c s₁ Bd hml0 hP hK
  obtain ⟨rfl, hZ, hh⟩ := hP
  have hx := Bd.exec
  have hby := Bd.bytes
  have hml : c.maxLocals = 1 := hml0
  have hown : s.vm.findClass "com/example/lease/lease/core/InvalidFieldException" = some m.cls := findClass_of_methodNamed Bd.named
  have hnm := (name_of_methodNamed Bd.named Bd.method).1
  have X0 : Stand p l e ({ frames := 0, cells := 0, slots := 0, locals := 0 } : Room) s m #[(.ref a1)] below meth c s₁ [] 0 0 := Stand.of_body Bd
  have e0 : s₁.heap = h0 := by rw [← hh, Bd.state]; rfl
  have N0 := Fr.nil n0
  refine Go.start (P := (fun o U' => ∃ v L, o = .returned v ∧ Q_rm40_1 Z a1 a2 h0 n0 v U'.heap L ∧ FrameEnd s o U' L ({ frames := 0, cells := 0, slots := 0, locals := 0 } : Room).cells ({ frames := 0, cells := 0, slots := 0, locals := 0 } : Room).slots)) (castTop (g' := (mkF m 0 #[.val (.ref a1)] [])) (by first | rfl | simp [entryFrame, mkF, argsToLocals, Value.category]) (T := s₁)) ?_
  refine Go.st (fun t k => XS.aloadN X0.here hx rfl (hb hby d40_0) rfl rfl k) ?_
  show Go p e below _ (s₁.setTop (mkF m 1 #[.val (.ref a1)] [(.ref a1)]))
  obtain ⟨T1, X1, e1, st1⟩ := getF X0 hx hZ hown (host := "") (Or.inl (w226 hw)) Via.refl e0 P1 (g := (mkF m 1 #[.val (.ref a1)] [(.ref a1)])) rfl rfl (hb hby d40_1)
  refine Go.st st1 ?_
  show Go p e below _ (T1.setTop (mkF m 4 #[.val (.ref a1)] [(.ref a2)]))
  obtain ⟨fs, hr, hrun, hended, hWd, hsame⟩ := X1.leave (v := some (.ref a2)) (fun h => by rw [Bd.returns] at h; cases h)
  refine ⟨_, _, ?_, hrun, hended, _, _, rfl, ?_, ⟨⟨_, rfl⟩, hWd, hsame.mono (by decide) (by decide)⟩⟩
  · exact own_retA X1 hx Bd.returns rfl rfl (hb hby d40_4) hr
  · show Q_rm40_1 Z a1 a2 h0 n0 _ T1.heap _
    rw [e1]
    exact ⟨rfl, N0, rfl⟩
def Q_rm43_1 (Z : State) (a1 : Addr) (a2 : Addr) (h0 : Heap) (n0 : Nat) (v : Option Value) (h : Heap) (L : List Loc) : Prop := v = some (.ref a2) ∧ Fr n0 L ∧ h = h0
set_option maxRecDepth 65536 in
set_option maxHeartbeats 40000000 in
theorem rm43_1 (l : Launch) (Z : State) (a0 : Array Value) (hw : ∀ d ∈ tables_1, d.before a0 Z = true) (ws : List Jvm.Cond) (a1 : Addr) (a2 : Addr) (h0 : Heap) (n0 : Nat) (O0 : Old Z n0 h0) (P1 : Fld Z h0 a1 "com/example/lease/lease/core/InvalidFieldException" "reason" "Ljava/lang/String;" (.ref a2)) :
    MetFree l (⟨"com/example/lease/lease/core/InvalidFieldException", "reason", "()Ljava/lang/String;"⟩ : MethodName) (head1 (Jvm.Cond.code (⟨"com/example/lease/lease/core/InvalidFieldException", "reason", "()Ljava/lang/String;"⟩ : MethodName) prog_10_method_3_code 1 (some (.object "java/lang/String")) :: ws) ({ frames := 0, cells := 0, slots := 0, locals := 0 } : Room)) (fun a U => a = #[(.ref a1)] ∧ Z.Warmed39 U.vm ∧ U.heap = h0) (fun _ _ _ _ _ => True) (fun _ U o U' => ∃ v L, o = .returned v ∧ Q_rm43_1 Z a1 a2 h0 n0 v U'.heap L ∧ FrameEnd U o U' L ({ frames := 0, cells := 0, slots := 0, locals := 0 } : Room).cells ({ frames := 0, cells := 0, slots := 0, locals := 0 } : Room).slots) := by
  refine MetFree.of_bodySF (plainFor_of_name pn_10) hisR ?_
  intro p e s m args below meth c s₁ Bd hml0 hP hK
  obtain ⟨rfl, hZ, hh⟩ := hP
  have hx := Bd.exec
  have hby := Bd.bytes
  have hml : c.maxLocals = 1 := hml0
  have hown : s.vm.findClass "com/example/lease/lease/core/InvalidFieldException" = some m.cls := findClass_of_methodNamed Bd.named
  have hnm := (name_of_methodNamed Bd.named Bd.method).1
  have X0 : Stand p l e ({ frames := 0, cells := 0, slots := 0, locals := 0 } : Room) s m #[(.ref a1)] below meth c s₁ [] 0 0 := Stand.of_body Bd
  have e0 : s₁.heap = h0 := by rw [← hh, Bd.state]; rfl
  have N0 := Fr.nil n0
  refine Go.start (P := (fun o U' => ∃ v L, o = .returned v ∧ Q_rm43_1 Z a1 a2 h0 n0 v U'.heap L ∧ FrameEnd s o U' L ({ frames := 0, cells := 0, slots := 0, locals := 0 } : Room).cells ({ frames := 0, cells := 0, slots := 0, locals := 0 } : Room).slots)) (castTop (g' := (mkF m 0 #[.val (.ref a1)] [])) (by first | rfl | simp [entryFrame, mkF, argsToLocals, Value.category]) (T := s₁)) ?_
  refine Go.st (fun t k => XS.aloadN X0.here hx rfl (hb hby d43_0) rfl rfl k) ?_
  show Go p e below _ (s₁.setTop (mkF m 1 #[.val (.ref a1)] [(.ref a1)]))
  obtain ⟨T1, X1, e1, st1⟩ := getF X0 hx hZ hown (host := "") (Or.inl (w229 hw)) Via.refl e0 P1 (g := (mkF m 1 #[.val (.ref a1)] [(.ref a1)])) rfl rfl (hb hby d43_1)
  refine Go.st st1 ?_
  show Go p e below _ (T1.setTop (mkF m 4 #[.val (.ref a1)] [(.ref a2)]))
  obtain ⟨fs, hr, hrun, hended, hWd, hsame⟩ := X1.leave (v := some (.ref a2)) (fun h => by rw [Bd.returns] at h; cases h)
  refine ⟨_, _, ?_, hrun, hended, _, _, rfl, ?_, ⟨⟨_, rfl⟩, hWd, hsame.mono (by decide) (by decide)⟩⟩
  · exact own_retA X1 hx Bd.returns rfl rfl (hb hby d43_4) hr
  · show Q_rm43_1 Z a1 a2 h0 n0 _ T1.heap _
    rw [e1]
    exact ⟨rfl, N0, rfl⟩
def Q_rm41_1 (Z : State) (a1 : Addr) (h0 : Heap) (n0 : Nat) (v : Option Value) (h : Heap) (L : List Loc) : Prop := v = some (.int (1 : Int32)) ∧ Fr n0 L ∧ h = h0
set_option maxRecDepth 65536 in
set_option maxHeartbeats 40000000 in
theorem rm41_1 (l : Launch) (Z : State) (a0 : Array Value) (hw : ∀ d ∈ tables_1, d.before a0 Z = true) (ws : List Jvm.Cond) (a1 : Addr) (h0 : Heap) (n0 : Nat) (O0 : Old Z n0 h0) :
    MetFree l (⟨"java/lang/String", "equals", "(Ljava/lang/Object;)Z"⟩ : MethodName) (head1 (Jvm.Cond.code (⟨"java/lang/String", "equals", "(Ljava/lang/Object;)Z"⟩ : MethodName) jdk_42_method_66_code 3 (some .boolean) :: ws) ({ frames := 0, cells := 0, slots := 0, locals := 0 } : Room)) (fun a U => a = #[(.ref a1), (.ref a1)] ∧ Z.Warmed39 U.vm ∧ U.heap = h0) (fun _ _ _ _ _ => True) (fun _ U o U' => ∃ v L, o = .returned v ∧ Q_rm41_1 Z a1 h0 n0 v U'.heap L ∧ FrameEnd U o U' L ({ frames := 0, cells := 0, slots := 0, locals := 0 } : Room).cells ({ frames := 0, cells := 0, slots := 0, locals := 0 } : Room).slots) := by
  refine MetFree.of_bodySF (plainFor_of_name pn_1) hisR ?_
  intro p e s m args below meth c s₁ Bd hml0 hP hK
  obtain ⟨rfl, hZ, hh⟩ := hP
  have hx := Bd.exec
  have hby := Bd.bytes
  have hml : c.maxLocals = 3 := hml0
  have hown : s.vm.findClass "java/lang/String" = some m.cls := findClass_of_methodNamed Bd.named
  have hnm := (name_of_methodNamed Bd.named Bd.method).1
  have X0 : Stand p l e ({ frames := 0, cells := 0, slots := 0, locals := 0 } : Room) s m #[(.ref a1), (.ref a1)] below meth c s₁ [] 0 0 := Stand.of_body Bd
  have e0 : s₁.heap = h0 := by rw [← hh, Bd.state]; rfl
  have N0 := Fr.nil n0
  refine Go.start (P := (fun o U' => ∃ v L, o = .returned v ∧ Q_rm41_1 Z a1 h0 n0 v U'.heap L ∧ FrameEnd s o U' L ({ frames := 0, cells := 0, slots := 0, locals := 0 } : Room).cells ({ frames := 0, cells := 0, slots := 0, locals := 0 } : Room).slots)) (castTop (g' := (mkF m 0 #[.val (.ref a1), .val (.ref a1), .unset] [])) (by first | rfl | simp [entryFrame, mkF, argsToLocals, Value.category]) (T := s₁)) ?_
  refine Go.st (fun t k => XS.aloadN X0.here hx rfl (hb hby d41_0) rfl rfl k) ?_
  show Go p e below _ (s₁.setTop (mkF m 1 #[.val (.ref a1), .val (.ref a1), .unset] [(.ref a1)]))
  refine Go.st (fun t k => XS.aloadN X0.here hx rfl (hb hby d41_1) rfl rfl k) ?_
  show Go p e below _ (s₁.setTop (mkF m 2 #[.val (.ref a1), .val (.ref a1), .unset] [(.ref a1), (.ref a1)]))
  refine Go.st (fun t k => Jvm.RoadKit.acmp (g := (mkF m 2 #[.val (.ref a1), .val (.ref a1), .unset] [(.ref a1), (.ref a1)])) X0 hx rfl rfl rfl (pc0 := 2) (pc' := 5) (same := true) rfl (hb hby d41_2) rfl (decide_eq_true (congrArg Value.ref rfl)) (by decide) (by decide) k) ?_
  show Go p e below _ (s₁.setTop (mkF m 5 #[.val (.ref a1), .val (.ref a1), .unset] []))
  refine Go.st (fun t k => XS.iconst X0.here hx rfl (hb hby d41_5) k) ?_
  show Go p e below _ (s₁.setTop (mkF m 6 #[.val (.ref a1), .val (.ref a1), .unset] [(.int (1 : Int32))]))
  obtain ⟨fs, hr, hrun, hended, hWd, hsame⟩ := X0.leave (v := some (.int (1 : Int32))) (fun h => by rw [Bd.returns] at h; cases h)
  refine ⟨_, _, ?_, hrun, hended, _, _, rfl, ?_, ⟨⟨_, rfl⟩, hWd, hsame.mono (by decide) (by decide)⟩⟩
  · exact retN X0 hx (t := .boolean) Bd.returns (by simp) (hb hby d41_6) hr
  · show Q_rm41_1 Z a1 h0 n0 _ s₁.heap _
    rw [e0]
    exact ⟨rfl, N0, rfl⟩
def Q_rm0 (n0 : Nat) (v : Option Value) (L : List Loc) : Prop := v = some (.int (1 : Int32)) ∧ Fr n0 L
set_option maxRecDepth 65536 in
set_option maxHeartbeats 400000000 in
theorem rm0 (l : Launch) (Z : State) (a0 : Array Value) (hw : ∀ d ∈ tables_1, d.before a0 Z = true) (ws : List Jvm.Cond) (i0 : Int32) (i1 : Int32) (i2 : Int32) (i3 : Int32) (w1i : Int32) (w4a : Addr) (w8a : Addr) (h0 : Heap) (n0 : Nat) (O0 : Old Z n0 h0) (Y3 : Sta Z Z.heap "java/lang/String" "COMPACT_STRINGS" "Z" (.int w1i)) (Y6 : Sta Z Z.heap "java/lang/Throwable" "UNASSIGNED_STACK" "[Ljava/lang/StackTraceElement;" (.ref w4a)) (Y10 : Sta Z Z.heap "java/lang/Throwable" "SUPPRESSED_SENTINEL" "Ljava/util/List;" (.ref w8a)) (Y11 : Exa Z Z.heap w8a "java/util/Collections$EmptyList") (Y17 : ¬ (w1i = (0 : Int32))) (HHs : ∀ q ∈ consts_1, Jvm.Lit.constHeld Z q.1 q.2) (HC : Jvm.Lit.compactW.before a0 Z = true) (HL : l.stackTraces = true) :
    MetFree l x (head1 (Jvm.Cond.code x code maxLocals ret :: ws) room_1) (fun a U => a = #[(.int i0), (.int i1), (.int i2), (.int i3)] ∧ Z.Warmed39 U.vm ∧ U.heap = h0 ∧ U.vm = Z.vm) (fun _ _ bl s _ => s.vm.MethodsKnown ∧ s.vm.FramesKnown bl) (fun _ U o U' => ∃ v L, o = .returned v ∧ Q_rm0 n0 v L ∧ ReturnedEndW U o U' L room_1.cells room_1.slots) := by
  refine MetFree.of_bodySF (plainFor_of_name pn_0) hisR ?_
  intro p e s m args below meth c s₁ Bd hml0 hP hK
  obtain ⟨rfl, hZ, hh, hvm⟩ := hP
  have hx := Bd.exec
  have hby := Bd.bytes
  have hml : c.maxLocals = 14 := hml0
  have hown : s.vm.findClass "com/example/lease/lease/core/InvalidFieldExceptionWithinPinLaw" = some m.cls := findClass_of_methodNamed Bd.named
  have hnm := (name_of_methodNamed Bd.named Bd.method).1
  have X0 : Stand p l e room_1 s m #[(.int i0), (.int i1), (.int i2), (.int i3)] below meth c s₁ [] 0 0 := Stand.of_body Bd
  have e0 : s₁.heap = h0 := by rw [← hh, Bd.state]; rfl
  have N0 := Fr.nil n0
  obtain ⟨hTK, hBl⟩ := hK
  have HV0 : CHv Z consts_1 s.vm h0 := by rw [hvm]; exact (CHv.start (own_EW hw) HHs HC (own_wS hw _ (List.mem_of_getElem? (i := 2) rfl)) (own_wS hw _ (List.mem_of_getElem? (i := 1) rfl))).ext O0.2
  have CR0 := CHr.refl HV0
  refine Go.start (P := (fun o U' => ∃ v L, o = .returned v ∧ Q_rm0 n0 v L ∧ ReturnedEndW s o U' L room_1.cells room_1.slots)) (castTop (g' := (mkF m 0 #[.val (.int i0), .val (.int i1), .val (.int i2), .val (.int i3), .unset, .unset, .unset, .unset, .unset, .unset, .unset, .unset, .unset, .unset] [])) (by first | rfl | simp [entryFrame, mkF, argsToLocals, Value.category, maxLocals]) (T := s₁)) ?_
  refine Go.st (fun t k => XS.iloadN X0.here hx rfl (hb hby at_0) rfl k) ?_
  show Go p e below _ (s₁.setTop (mkF m 1 #[.val (.int i0), .val (.int i1), .val (.int i2), .val (.int i3), .unset, .unset, .unset, .unset, .unset, .unset, .unset, .unset, .unset, .unset] [(.int i3)]))
  refine Go.st (fun t k => XS.iconst X0.here hx rfl (hb hby at_1) k) ?_
  show Go p e below _ (s₁.setTop (mkF m 2 #[.val (.int i0), .val (.int i1), .val (.int i2), .val (.int i3), .unset, .unset, .unset, .unset, .unset, .unset, .unset, .unset, .unset, .unset] [(.int (3 : Int32)), (.int i3)]))
  refine Go.st (fun t k => XS.iand X0.here hx rfl (hb hby at_2) rfl k) ?_
  show Go p e below _ (s₁.setTop (mkF m 3 #[.val (.int i0), .val (.int i1), .val (.int i2), .val (.int i3), .unset, .unset, .unset, .unset, .unset, .unset, .unset, .unset, .unset, .unset] [(.int (i3 &&& (3 : Int32)))]))
  refine Go.st (fun t k => XS.istore X0.here hx rfl (hb hby at_3) rfl (l' := #[.val (.int i0), .val (.int i1), .val (.int i2), .val (.int i3), .val (.int (i3 &&& (3 : Int32))), .unset, .unset, .unset, .unset, .unset, .unset, .unset, .unset, .unset]) rfl k) ?_
  show Go p e below _ (s₁.setTop (mkF m 5 #[.val (.int i0), .val (.int i1), .val (.int i2), .val (.int i3), .val (.int (i3 &&& (3 : Int32))), .unset, .unset, .unset, .unset, .unset, .unset, .unset, .unset, .unset] []))
  refine Go.st (fun t k => XS.iloadN X0.here hx rfl (hb hby at_5) rfl k) ?_
  show Go p e below _ (s₁.setTop (mkF m 6 #[.val (.int i0), .val (.int i1), .val (.int i2), .val (.int i3), .val (.int (i3 &&& (3 : Int32))), .unset, .unset, .unset, .unset, .unset, .unset, .unset, .unset, .unset] [(.int i3)]))
  refine Go.st (fun t k => XS.iconst X0.here hx rfl (hb hby at_6) k) ?_
  show Go p e below _ (s₁.setTop (mkF m 7 #[.val (.int i0), .val (.int i1), .val (.int i2), .val (.int i3), .val (.int (i3 &&& (3 : Int32))), .unset, .unset, .unset, .unset, .unset, .unset, .unset, .unset, .unset] [(.int (2 : Int32)), (.int i3)]))
  refine Go.st (fun t k => XS.iushr X0.here hx rfl (hb hby at_7) rfl k) ?_
  show Go p e below _ (s₁.setTop (mkF m 8 #[.val (.int i0), .val (.int i1), .val (.int i2), .val (.int i3), .val (.int (i3 &&& (3 : Int32))), .unset, .unset, .unset, .unset, .unset, .unset, .unset, .unset, .unset] [(.int ((i3.toUInt32 >>> ((2 : Int32) &&& 31).toUInt32).toInt32))]))
  refine Go.st (fun t k => XS.iconst X0.here hx rfl (hb hby at_8) k) ?_
  show Go p e below _ (s₁.setTop (mkF m 9 #[.val (.int i0), .val (.int i1), .val (.int i2), .val (.int i3), .val (.int (i3 &&& (3 : Int32))), .unset, .unset, .unset, .unset, .unset, .unset, .unset, .unset, .unset] [(.int (3 : Int32)), (.int ((i3.toUInt32 >>> ((2 : Int32) &&& 31).toUInt32).toInt32))]))
  refine Go.st (fun t k => XS.iand X0.here hx rfl (hb hby at_9) rfl k) ?_
  show Go p e below _ (s₁.setTop (mkF m 10 #[.val (.int i0), .val (.int i1), .val (.int i2), .val (.int i3), .val (.int (i3 &&& (3 : Int32))), .unset, .unset, .unset, .unset, .unset, .unset, .unset, .unset, .unset] [(.int (((i3.toUInt32 >>> ((2 : Int32) &&& 31).toUInt32).toInt32) &&& (3 : Int32)))]))
  refine Go.st (fun t k => XS.istore X0.here hx rfl (hb hby at_10) rfl (l' := #[.val (.int i0), .val (.int i1), .val (.int i2), .val (.int i3), .val (.int (i3 &&& (3 : Int32))), .val (.int (((i3.toUInt32 >>> ((2 : Int32) &&& 31).toUInt32).toInt32) &&& (3 : Int32))), .unset, .unset, .unset, .unset, .unset, .unset, .unset, .unset]) rfl k) ?_
  show Go p e below _ (s₁.setTop (mkF m 12 #[.val (.int i0), .val (.int i1), .val (.int i2), .val (.int i3), .val (.int (i3 &&& (3 : Int32))), .val (.int (((i3.toUInt32 >>> ((2 : Int32) &&& 31).toUInt32).toInt32) &&& (3 : Int32))), .unset, .unset, .unset, .unset, .unset, .unset, .unset, .unset] []))
  refine Go.st (fun t k => XS.iloadN X0.here hx rfl (hb hby at_12) rfl k) ?_
  show Go p e below _ (s₁.setTop (mkF m 13 #[.val (.int i0), .val (.int i1), .val (.int i2), .val (.int i3), .val (.int (i3 &&& (3 : Int32))), .val (.int (((i3.toUInt32 >>> ((2 : Int32) &&& 31).toUInt32).toInt32) &&& (3 : Int32))), .unset, .unset, .unset, .unset, .unset, .unset, .unset, .unset] [(.int i3)]))
  refine Go.st (fun t k => XS.iconst X0.here hx rfl (hb hby at_13) k) ?_
  show Go p e below _ (s₁.setTop (mkF m 14 #[.val (.int i0), .val (.int i1), .val (.int i2), .val (.int i3), .val (.int (i3 &&& (3 : Int32))), .val (.int (((i3.toUInt32 >>> ((2 : Int32) &&& 31).toUInt32).toInt32) &&& (3 : Int32))), .unset, .unset, .unset, .unset, .unset, .unset, .unset, .unset] [(.int (4 : Int32)), (.int i3)]))
  refine Go.st (fun t k => XS.iushr X0.here hx rfl (hb hby at_14) rfl k) ?_
  show Go p e below _ (s₁.setTop (mkF m 15 #[.val (.int i0), .val (.int i1), .val (.int i2), .val (.int i3), .val (.int (i3 &&& (3 : Int32))), .val (.int (((i3.toUInt32 >>> ((2 : Int32) &&& 31).toUInt32).toInt32) &&& (3 : Int32))), .unset, .unset, .unset, .unset, .unset, .unset, .unset, .unset] [(.int ((i3.toUInt32 >>> ((4 : Int32) &&& 31).toUInt32).toInt32))]))
  refine Go.st (fun t k => XS.iconst X0.here hx rfl (hb hby at_15) k) ?_
  show Go p e below _ (s₁.setTop (mkF m 16 #[.val (.int i0), .val (.int i1), .val (.int i2), .val (.int i3), .val (.int (i3 &&& (3 : Int32))), .val (.int (((i3.toUInt32 >>> ((2 : Int32) &&& 31).toUInt32).toInt32) &&& (3 : Int32))), .unset, .unset, .unset, .unset, .unset, .unset, .unset, .unset] [(.int (3 : Int32)), (.int ((i3.toUInt32 >>> ((4 : Int32) &&& 31).toUInt32).toInt32))]))
  refine Go.st (fun t k => XS.iand X0.here hx rfl (hb hby at_16) rfl k) ?_
  show Go p e below _ (s₁.setTop (mkF m 17 #[.val (.int i0), .val (.int i1), .val (.int i2), .val (.int i3), .val (.int (i3 &&& (3 : Int32))), .val (.int (((i3.toUInt32 >>> ((2 : Int32) &&& 31).toUInt32).toInt32) &&& (3 : Int32))), .unset, .unset, .unset, .unset, .unset, .unset, .unset, .unset] [(.int (((i3.toUInt32 >>> ((4 : Int32) &&& 31).toUInt32).toInt32) &&& (3 : Int32)))]))
  refine Go.st (fun t k => XS.istore X0.here hx rfl (hb hby at_17) rfl (l' := #[.val (.int i0), .val (.int i1), .val (.int i2), .val (.int i3), .val (.int (i3 &&& (3 : Int32))), .val (.int (((i3.toUInt32 >>> ((2 : Int32) &&& 31).toUInt32).toInt32) &&& (3 : Int32))), .val (.int (((i3.toUInt32 >>> ((4 : Int32) &&& 31).toUInt32).toInt32) &&& (3 : Int32))), .unset, .unset, .unset, .unset, .unset, .unset, .unset]) rfl k) ?_
  show Go p e below _ (s₁.setTop (mkF m 19 #[.val (.int i0), .val (.int i1), .val (.int i2), .val (.int i3), .val (.int (i3 &&& (3 : Int32))), .val (.int (((i3.toUInt32 >>> ((2 : Int32) &&& 31).toUInt32).toInt32) &&& (3 : Int32))), .val (.int (((i3.toUInt32 >>> ((4 : Int32) &&& 31).toUInt32).toInt32) &&& (3 : Int32))), .unset, .unset, .unset, .unset, .unset, .unset, .unset] []))
  obtain ⟨n1, en1, B1⟩ : ∃ n : Int32, (i3 &&& (3 : Int32)) = n ∧ own_3 n := ⟨_, rfl, own_3a _⟩
  obtain ⟨n2, en2, B2⟩ : ∃ n : Int32, (((i3.toUInt32 >>> ((2 : Int32) &&& 31).toUInt32).toInt32) &&& (3 : Int32)) = n ∧ own_3 n := ⟨_, rfl, own_3a _⟩
  obtain ⟨n3, en3, B3⟩ : ∃ n : Int32, (((i3.toUInt32 >>> ((4 : Int32) &&& 31).toUInt32).toInt32) &&& (3 : Int32)) = n ∧ own_3 n := ⟨_, rfl, own_3a _⟩
  refine own_goE (V := s₁.setTop (mkF m 19 #[.val (.int i0), .val (.int i1), .val (.int i2), .val (.int i3), .val (.int n1), .val (.int n2), .val (.int n3), .unset, .unset, .unset, .unset, .unset, .unset, .unset] [])) (by rw [en1, en2, en3]) ?_
  refine Go.st (fun t k => XS.iloadN X0.here hx rfl (hb hby at_19) rfl k) ?_
  show Go p e below _ (s₁.setTop (mkF m 20 #[.val (.int i0), .val (.int i1), .val (.int i2), .val (.int i3), .val (.int n1), .val (.int n2), .val (.int n3), .unset, .unset, .unset, .unset, .unset, .unset, .unset] [(.int i0)]))
  refine Go.st (fun t k => XS.iload X0.here hx rfl (hb hby at_20) rfl k) ?_
  show Go p e below _ (s₁.setTop (mkF m 22 #[.val (.int i0), .val (.int i1), .val (.int i2), .val (.int i3), .val (.int n1), .val (.int n2), .val (.int n3), .unset, .unset, .unset, .unset, .unset, .unset, .unset] [(.int n1), (.int i0)]))
  obtain ⟨_, _, ⟨T1, L1, k1, n1⟩, -, X1, hS1, hg1, ⟨Lc1, hQ1, l1, y1, z1⟩, st1⟩ := Jvm.RoadKit.callSS X0 hx (y := (⟨"com/example/lease/lease/core/InvalidFieldExceptionWithinPinLaw", "str", "(II)Ljava/lang/String;"⟩ : MethodName)) hown (mvT hZ (w0 hw)) (mvT hZ (w1 hw)) (mvT hZ (w2 hw)) (mvT hZ (w3 hw)) (by decide) (own_backH (VP := fun vm => CHv Z consts_1 vm h0) (Q := Q_rmS Z i0 n1 w1i h0 n0) (rm := ({ frames := 4, cells := 6, slots := 15, locals := 66 } : Room)) (W := 0) (rmS l Z a0 hw [] i0 n1 w1i h0 n0 O0 (own_q0 n1 B1) (own_q1 n1 B1) Y3 Y17) hZ (w3 hw) (w2 hw) (by decide) (by decide) (own_EW hw) CR0.1 hTK hBl) (g := (mkF m 22 #[.val (.int i0), .val (.int i1), .val (.int i2), .val (.int i3), .val (.int n1), .val (.int n2), .val (.int n3), .unset, .unset, .unset, .unset, .unset, .unset, .unset] [(.int n1), (.int i0)])) rfl (by rw [hml]; rfl) (argsL := [(.int i0), (.int n1)]) (rest := []) (lenOf pd_4 rfl) rfl (by show 2 * 0 + _ ≤ _; exact Nat.le_of_eq rfl) (hb hby at_22) (fun vm₁ hw₁ => ⟨rfl, e0, ((own_chW hZ (own_EW hw) hw₁ CR0.1).1), (by decide : 0 + 6 ≤ _), (by decide : 0 + 15 ≤ _)⟩)
  dsimp only [Pt.U, Pt.locs, Pt.cells, Pt.slots] at X1 l1 y1 z1 st1 hQ1 hS1 hg1
  subst l1 y1 z1
  have hZ : Z.Warmed39 (s.setVm T1.vm).vm := State.Warmed39.trans (t := s) hZ hS1.1
  have hown : (s.setVm T1.vm).vm.findClass "com/example/lease/lease/core/InvalidFieldExceptionWithinPinLaw" = some m.cls := by rw [show (s.setVm T1.vm).vm = T1.vm from rfl, hS1.1.alike.findClass]; exact hown
  have hS10 := hS1.1
  obtain ⟨hQ1, HC1⟩ := hQ1
  obtain ⟨bs_1, bt_1, bk_1, rfl, M1, K1c, r1_0, r1_1, r1_2, r1_3, r1_4, r1_5⟩ := hQ1
  have N1 := Fr.app N0 M1
  have g_bs_1 : n0 ≤ bs_1 := Nat.le_trans (own_n0 O0) r1_0
  have C1 : CHr Z consts_1 s.vm h0 T1.vm T1.heap := CR0.trans HC1
  have O1 : Old Z n0 T1.heap := O0.keep K1c all0
  refine Go.tr st1 ?_
  show Go p e below _ (T1.setTop (mkF m 25 #[.val (.int i0), .val (.int i1), .val (.int i2), .val (.int i3), .val (.int n1), .val (.int n2), .val (.int n3), .unset, .unset, .unset, .unset, .unset, .unset, .unset] [(.ref bs_1)]))
  refine Go.st (fun t k => XS.astore X1.here hx rfl (hb hby at_25) rfl rfl (l' := #[.val (.int i0), .val (.int i1), .val (.int i2), .val (.int i3), .val (.int n1), .val (.int n2), .val (.int n3), .val (.ref bs_1), .unset, .unset, .unset, .unset, .unset, .unset]) rfl k) ?_
  show Go p e below _ (T1.setTop (mkF m 27 #[.val (.int i0), .val (.int i1), .val (.int i2), .val (.int i3), .val (.int n1), .val (.int n2), .val (.int n3), .val (.ref bs_1), .unset, .unset, .unset, .unset, .unset, .unset] []))
  refine Go.st (fun t k => XS.iloadN X1.here hx rfl (hb hby at_27) rfl k) ?_
  show Go p e below _ (T1.setTop (mkF m 28 #[.val (.int i0), .val (.int i1), .val (.int i2), .val (.int i3), .val (.int n1), .val (.int n2), .val (.int n3), .val (.ref bs_1), .unset, .unset, .unset, .unset, .unset, .unset] [(.int i1)]))
  refine Go.st (fun t k => XS.iload X1.here hx rfl (hb hby at_28) rfl k) ?_
  show Go p e below _ (T1.setTop (mkF m 30 #[.val (.int i0), .val (.int i1), .val (.int i2), .val (.int i3), .val (.int n1), .val (.int n2), .val (.int n3), .val (.ref bs_1), .unset, .unset, .unset, .unset, .unset, .unset] [(.int n2), (.int i1)]))
  obtain ⟨_, _, ⟨T2, L2, k2, n2⟩, -, X2, hS2, hg2, ⟨Lc2, hQ2, l2, y2, z2⟩, st2⟩ := Jvm.RoadKit.callSS X1 hx (y := (⟨"com/example/lease/lease/core/InvalidFieldExceptionWithinPinLaw", "str", "(II)Ljava/lang/String;"⟩ : MethodName)) hown (mvT hZ (w0 hw)) (mvT hZ (w1 hw)) (mvT hZ (w2 hw)) (mvT hZ (w3 hw)) (by decide) (own_backH (VP := fun vm => CHv Z consts_1 vm T1.heap) (Q := Q_rmS Z i1 n2 w1i T1.heap n0) (rm := ({ frames := 4, cells := 6, slots := 15, locals := 66 } : Room)) (W := 0) (rmS l Z a0 hw [] i1 n2 w1i T1.heap n0 O1 (own_q2 n2 B2) (own_q3 n2 B2) Y3 Y17) hZ (w3 hw) (w2 hw) (by decide) (by decide) (own_EW hw) C1.1 (Vm.MethodsKnown.alikeC hS1.1.alike hTK) (Vm.FramesKnown.alikeC hS1.1.alike hBl)) (g := (mkF m 30 #[.val (.int i0), .val (.int i1), .val (.int i2), .val (.int i3), .val (.int n1), .val (.int n2), .val (.int n3), .val (.ref bs_1), .unset, .unset, .unset, .unset, .unset, .unset] [(.int n2), (.int i1)])) rfl (by rw [hml]; rfl) (argsL := [(.int i1), (.int n2)]) (rest := []) (lenOf pd_4 rfl) rfl (by show 2 * 0 + _ ≤ _; exact Nat.le_of_eq rfl) (hb hby at_30) (fun vm₁ hw₁ => ⟨rfl, rfl, ((own_chW hZ (own_EW hw) hw₁ C1.1).1), (by decide : 6 + 6 ≤ _), (by decide : 15 + 15 ≤ _)⟩)
  dsimp only [Pt.U, Pt.locs, Pt.cells, Pt.slots] at X2 l2 y2 z2 st2 hQ2 hS2 hg2
  subst l2 y2 z2
  have hg2' : T1.heap.size ≤ T2.heap.size := hg2
  have hZ : Z.Warmed39 (s.setVm T2.vm).vm := State.Warmed39.trans (t := (s.setVm T1.vm)) hZ hS2.1
  have hown : (s.setVm T2.vm).vm.findClass "com/example/lease/lease/core/InvalidFieldExceptionWithinPinLaw" = some m.cls := by rw [show (s.setVm T2.vm).vm = T2.vm from rfl, hS2.1.alike.findClass]; exact hown
  have hS20 := hS2.1
  obtain ⟨X2, hS2⟩ := Jvm.Stand.againW X2 hS1 hS2 (Nat.le_trans (Nat.le_refl _) hg2')
  obtain ⟨hQ2, HC2⟩ := hQ2
  obtain ⟨bs_2, bt_2, bk_2, rfl, M2, K2c, r2_0, r2_1, r2_2, r2_3, r2_4, r2_5⟩ := hQ2
  have N2 := Fr.app N1 M2
  have g_bs_2 : n0 ≤ bs_2 := Nat.le_trans (own_n0 O1) r2_0
  have C2 : CHr Z consts_1 s.vm h0 T2.vm T2.heap := C1.trans HC2
  have O2 : Old Z n0 T2.heap := O1.keep K2c all0
  refine Go.tr st2 ?_
  show Go p e below _ (T2.setTop (mkF m 33 #[.val (.int i0), .val (.int i1), .val (.int i2), .val (.int i3), .val (.int n1), .val (.int n2), .val (.int n3), .val (.ref bs_1), .unset, .unset, .unset, .unset, .unset, .unset] [(.ref bs_2)]))
  refine Go.st (fun t k => XS.astore X2.here hx rfl (hb hby at_33) rfl rfl (l' := #[.val (.int i0), .val (.int i1), .val (.int i2), .val (.int i3), .val (.int n1), .val (.int n2), .val (.int n3), .val (.ref bs_1), .val (.ref bs_2), .unset, .unset, .unset, .unset, .unset]) rfl k) ?_
  show Go p e below _ (T2.setTop (mkF m 35 #[.val (.int i0), .val (.int i1), .val (.int i2), .val (.int i3), .val (.int n1), .val (.int n2), .val (.int n3), .val (.ref bs_1), .val (.ref bs_2), .unset, .unset, .unset, .unset, .unset] []))
  refine Go.st (fun t k => XS.iloadN X2.here hx rfl (hb hby at_35) rfl k) ?_
  show Go p e below _ (T2.setTop (mkF m 36 #[.val (.int i0), .val (.int i1), .val (.int i2), .val (.int i3), .val (.int n1), .val (.int n2), .val (.int n3), .val (.ref bs_1), .val (.ref bs_2), .unset, .unset, .unset, .unset, .unset] [(.int i2)]))
  refine Go.st (fun t k => XS.iload X2.here hx rfl (hb hby at_36) rfl k) ?_
  show Go p e below _ (T2.setTop (mkF m 38 #[.val (.int i0), .val (.int i1), .val (.int i2), .val (.int i3), .val (.int n1), .val (.int n2), .val (.int n3), .val (.ref bs_1), .val (.ref bs_2), .unset, .unset, .unset, .unset, .unset] [(.int n3), (.int i2)]))
  obtain ⟨_, _, ⟨T3, L3, k3, n3⟩, -, X3, hS3, hg3, ⟨Lc3, hQ3, l3, y3, z3⟩, st3⟩ := Jvm.RoadKit.callSS X2 hx (y := (⟨"com/example/lease/lease/core/InvalidFieldExceptionWithinPinLaw", "str", "(II)Ljava/lang/String;"⟩ : MethodName)) hown (mvT hZ (w0 hw)) (mvT hZ (w1 hw)) (mvT hZ (w2 hw)) (mvT hZ (w3 hw)) (by decide) (own_backH (VP := fun vm => CHv Z consts_1 vm T2.heap) (Q := Q_rmS Z i2 n3 w1i T2.heap n0) (rm := ({ frames := 4, cells := 6, slots := 15, locals := 66 } : Room)) (W := 0) (rmS l Z a0 hw [] i2 n3 w1i T2.heap n0 O2 (own_q4 n3 B3) (own_q5 n3 B3) Y3 Y17) hZ (w3 hw) (w2 hw) (by decide) (by decide) (own_EW hw) C2.1 (Vm.MethodsKnown.alikeC hS2.1.alike hTK) (Vm.FramesKnown.alikeC hS2.1.alike hBl)) (g := (mkF m 38 #[.val (.int i0), .val (.int i1), .val (.int i2), .val (.int i3), .val (.int n1), .val (.int n2), .val (.int n3), .val (.ref bs_1), .val (.ref bs_2), .unset, .unset, .unset, .unset, .unset] [(.int n3), (.int i2)])) rfl (by rw [hml]; rfl) (argsL := [(.int i2), (.int n3)]) (rest := []) (lenOf pd_4 rfl) rfl (by show 2 * 0 + _ ≤ _; exact Nat.le_of_eq rfl) (hb hby at_38) (fun vm₁ hw₁ => ⟨rfl, rfl, ((own_chW hZ (own_EW hw) hw₁ C2.1).1), (by decide : 12 + 6 ≤ _), (by decide : 30 + 15 ≤ _)⟩)
  dsimp only [Pt.U, Pt.locs, Pt.cells, Pt.slots] at X3 l3 y3 z3 st3 hQ3 hS3 hg3
  subst l3 y3 z3
  have hg3' : T2.heap.size ≤ T3.heap.size := hg3
  have hZ : Z.Warmed39 (s.setVm T3.vm).vm := State.Warmed39.trans (t := (s.setVm T2.vm)) hZ hS3.1
  have hown : (s.setVm T3.vm).vm.findClass "com/example/lease/lease/core/InvalidFieldExceptionWithinPinLaw" = some m.cls := by rw [show (s.setVm T3.vm).vm = T3.vm from rfl, hS3.1.alike.findClass]; exact hown
  have hS30 := hS3.1
  obtain ⟨X3, hS3⟩ := Jvm.Stand.againW X3 hS2 hS3 (Nat.le_trans (Nat.le_refl _) hg3')
  obtain ⟨hQ3, HC3⟩ := hQ3
  obtain ⟨bs_3, bt_3, bk_3, rfl, M3, K3c, r3_0, r3_1, r3_2, r3_3, r3_4, r3_5⟩ := hQ3
  have N3 := Fr.app N2 M3
  have g_bs_3 : n0 ≤ bs_3 := Nat.le_trans (own_n0 O2) r3_0
  have C3 : CHr Z consts_1 s.vm h0 T3.vm T3.heap := C2.trans HC3
  have O3 : Old Z n0 T3.heap := O2.keep K3c all0
  refine Go.tr st3 ?_
  show Go p e below _ (T3.setTop (mkF m 41 #[.val (.int i0), .val (.int i1), .val (.int i2), .val (.int i3), .val (.int n1), .val (.int n2), .val (.int n3), .val (.ref bs_1), .val (.ref bs_2), .unset, .unset, .unset, .unset, .unset] [(.ref bs_3)]))
  refine Go.st (fun t k => XS.astore X3.here hx rfl (hb hby at_41) rfl rfl (l' := #[.val (.int i0), .val (.int i1), .val (.int i2), .val (.int i3), .val (.int n1), .val (.int n2), .val (.int n3), .val (.ref bs_1), .val (.ref bs_2), .val (.ref bs_3), .unset, .unset, .unset, .unset]) rfl k) ?_
  show Go p e below _ (T3.setTop (mkF m 43 #[.val (.int i0), .val (.int i1), .val (.int i2), .val (.int i3), .val (.int n1), .val (.int n2), .val (.int n3), .val (.ref bs_1), .val (.ref bs_2), .val (.ref bs_3), .unset, .unset, .unset, .unset] []))
  refine Go.st (fun t k => XS.iload X3.here hx rfl (hb hby at_43) rfl k) ?_
  show Go p e below _ (T3.setTop (mkF m 45 #[.val (.int i0), .val (.int i1), .val (.int i2), .val (.int i3), .val (.int n1), .val (.int n2), .val (.int n3), .val (.ref bs_1), .val (.ref bs_2), .val (.ref bs_3), .unset, .unset, .unset, .unset] [(.int n1)]))
  refine Go.st (fun t k => XS.iconst X3.here hx rfl (hb hby at_45) k) ?_
  show Go p e below _ (T3.setTop (mkF m 46 #[.val (.int i0), .val (.int i1), .val (.int i2), .val (.int i3), .val (.int n1), .val (.int n2), .val (.int n3), .val (.ref bs_1), .val (.ref bs_2), .val (.ref bs_3), .unset, .unset, .unset, .unset] [(.int (1 : Int32)), (.int n1)]))
  refine Go.st (fun t k => XS.iadd X3.here hx rfl (hb hby at_46) rfl k) ?_
  show Go p e below _ (T3.setTop (mkF m 47 #[.val (.int i0), .val (.int i1), .val (.int i2), .val (.int i3), .val (.int n1), .val (.int n2), .val (.int n3), .val (.ref bs_1), .val (.ref bs_2), .val (.ref bs_3), .unset, .unset, .unset, .unset] [(.int (n1 + (1 : Int32)))]))
  refine Go.st (fun t k => XS.iload X3.here hx rfl (hb hby at_47) rfl k) ?_
  show Go p e below _ (T3.setTop (mkF m 49 #[.val (.int i0), .val (.int i1), .val (.int i2), .val (.int i3), .val (.int n1), .val (.int n2), .val (.int n3), .val (.ref bs_1), .val (.ref bs_2), .val (.ref bs_3), .unset, .unset, .unset, .unset] [(.int n2), (.int (n1 + (1 : Int32)))]))
  refine Go.st (fun t k => XS.iadd X3.here hx rfl (hb hby at_49) rfl k) ?_
  show Go p e below _ (T3.setTop (mkF m 50 #[.val (.int i0), .val (.int i1), .val (.int i2), .val (.int i3), .val (.int n1), .val (.int n2), .val (.int n3), .val (.ref bs_1), .val (.ref bs_2), .val (.ref bs_3), .unset, .unset, .unset, .unset] [(.int ((n1 + (1 : Int32)) + n2))]))
  obtain ⟨T4, h4, k4, X4, e4, E4, A4, st4⟩ := newP X3 hx hZ (aty := .char) (w4 hw) rfl (g := (mkF m 50 #[.val (.int i0), .val (.int i1), .val (.int i2), .val (.int i3), .val (.int n1), .val (.int n2), .val (.int n3), .val (.ref bs_1), .val (.ref bs_2), .val (.ref bs_3), .unset, .unset, .unset, .unset] [(.int ((n1 + (1 : Int32)) + n2))])) rfl (hb hby at_50) rfl (own_q7 n1 n2 B1 B2) (cap := 7) (own_cap 7 (7 : Int32) rfl (own_q7 n1 n2 B1 B2) (own_q6 n1 n2 B1 B2)) (by decide) (by decide) (by decide)
  obtain ⟨b4, z4⟩ : ∃ z, z = T3.heap.size := ⟨_, rfl⟩
  rw [← z4] at A4 st4
  have g_b4 : n0 ≤ b4 := Nat.le_trans (own_n0 O3) (Nat.le_of_eq z4.symm)
  have V4 : Arv Z h4 b4 k4 .char ((n1 + (1 : Int32)) + n2) ((List.replicate (((n1 + (1 : Int32)) + n2)).toNatClampNeg (0 : Int32)).map Value.int) (.int (0 : Int32)) := (Arv.new A4 (own_q7 n1 n2 B1 B2)).pad (own_rp _)
  have LN4 : (List.replicate (((n1 + (1 : Int32)) + n2)).toNatClampNeg (0 : Int32)).length = (((n1 + (1 : Int32)) + n2)).toNatClampNeg := List.length_replicate
  have C4 : CHr Z consts_1 s.vm h0 T3.vm h4 := C3.trans (CHr.ext E4 C3.1)
  have O4 : Old Z n0 h4 := O3.ext E4
  refine Go.st st4 ?_
  show Go p e below _ (T4.setTop (mkF m 52 #[.val (.int i0), .val (.int i1), .val (.int i2), .val (.int i3), .val (.int n1), .val (.int n2), .val (.int n3), .val (.ref bs_1), .val (.ref bs_2), .val (.ref bs_3), .unset, .unset, .unset, .unset] [(.ref b4)]))
  refine Go.st (fun t k => XS.astore X4.here hx rfl (hb hby at_52) rfl rfl (l' := #[.val (.int i0), .val (.int i1), .val (.int i2), .val (.int i3), .val (.int n1), .val (.int n2), .val (.int n3), .val (.ref bs_1), .val (.ref bs_2), .val (.ref bs_3), .val (.ref b4), .unset, .unset, .unset]) rfl k) ?_
  show Go p e below _ (T4.setTop (mkF m 54 #[.val (.int i0), .val (.int i1), .val (.int i2), .val (.int i3), .val (.int n1), .val (.int n2), .val (.int n3), .val (.ref bs_1), .val (.ref bs_2), .val (.ref bs_3), .val (.ref b4), .unset, .unset, .unset] []))
  refine Go.st (fun t k => XS.aload X4.here hx rfl (hb hby at_54) rfl rfl k) ?_
  show Go p e below _ (T4.setTop (mkF m 56 #[.val (.int i0), .val (.int i1), .val (.int i2), .val (.int i3), .val (.int n1), .val (.int n2), .val (.int n3), .val (.ref bs_1), .val (.ref bs_2), .val (.ref bs_3), .val (.ref b4), .unset, .unset, .unset] [(.ref b4)]))
  refine Go.st (fun t k => XS.iconst X4.here hx rfl (hb hby at_56) k) ?_
  show Go p e below _ (T4.setTop (mkF m 57 #[.val (.int i0), .val (.int i1), .val (.int i2), .val (.int i3), .val (.int n1), .val (.int n2), .val (.int n3), .val (.ref bs_1), .val (.ref bs_2), .val (.ref bs_3), .val (.ref b4), .unset, .unset, .unset] [(.int (0 : Int32)), (.ref b4)]))
  refine Go.st (fun t k => XS.iloadN X4.here hx rfl (hb hby at_57) rfl k) ?_
  show Go p e below _ (T4.setTop (mkF m 58 #[.val (.int i0), .val (.int i1), .val (.int i2), .val (.int i3), .val (.int n1), .val (.int n2), .val (.int n3), .val (.ref bs_1), .val (.ref bs_2), .val (.ref bs_3), .val (.ref b4), .unset, .unset, .unset] [(.int i0), (.int (0 : Int32)), (.ref b4)]))
  refine Go.st (fun t k => XS.iload X4.here hx rfl (hb hby at_58) rfl k) ?_
  show Go p e below _ (T4.setTop (mkF m 60 #[.val (.int i0), .val (.int i1), .val (.int i2), .val (.int i3), .val (.int n1), .val (.int n2), .val (.int n3), .val (.ref bs_1), .val (.ref bs_2), .val (.ref bs_3), .val (.ref b4), .unset, .unset, .unset] [(.int n1), (.int i0), (.int (0 : Int32)), (.ref b4)]))
  obtain ⟨_, _, ⟨T5, L5, k5, n5⟩, -, X5, ⟨Lc5, hQ5, l5, y5, z5⟩, st5⟩ := Jvm.LawKit.callS X4 hx (y := (⟨"com/example/lease/lease/core/InvalidFieldExceptionWithinPinLaw", "put", "([CIII)V"⟩ : MethodName)) hown (mvT hZ (w5 hw)) (mvT hZ (w6 hw)) (mvT hZ (w2 hw)) (mvT hZ (w7 hw)) (by decide) (backOf (W := 0) (rmP l Z a0 hw [] b4 (0 : Int32) i0 n1 (List.replicate (((n1 + (1 : Int32)) + n2)).toNatClampNeg (0 : Int32)) k4 ((n1 + (1 : Int32)) + n2) h4 n0 O4 g_b4 V4 (by decide : ¬ ((0 : Int32) < (0 : Int32))) (by decide : ¬ ((1000 : Int32) < (0 : Int32))) (own_q8 n1 n2 B1 B2) (own_q0 n1 B1) (own_q1 n1 B1) LN4) hZ (w7 hw) (w2 hw) (by decide) (by decide)) (g := (mkF m 60 #[.val (.int i0), .val (.int i1), .val (.int i2), .val (.int i3), .val (.int n1), .val (.int n2), .val (.int n3), .val (.ref bs_1), .val (.ref bs_2), .val (.ref bs_3), .val (.ref b4), .unset, .unset, .unset] [(.int n1), (.int i0), (.int (0 : Int32)), (.ref b4)])) rfl (by rw [hml]; rfl) (argsL := [(.ref b4), (.int (0 : Int32)), (.int i0), (.int n1)]) (rest := []) (lenOf pd_1 rfl) rfl (by show 2 * 0 + _ ≤ _; exact Nat.le_of_eq rfl) (hb hby at_60) (fun vm₁ hw₁ => ⟨rfl, e4, (by decide : 19 + 0 ≤ _), (by decide : 52 + 0 ≤ _)⟩)
  dsimp only [Pt.U, Pt.locs, Pt.cells, Pt.slots] at X5 l5 y5 z5 st5 hQ5
  subst l5 y5 z5
  obtain ⟨rfl, M5, K5c, r5_0, r5_1⟩ := hQ5
  have N5 := Fr.app N3 M5
  have SK5 : ∀ y ∈ ([b4] : List Addr), Safe Z consts_1 T3.vm h4 y := (sfS (Safe.arv hZ.alike V4 nofun) sf0)
  have C5 : CHr Z consts_1 s.vm h0 T3.vm T5.heap := C4.trans (CHr.keep K5c SK5 C4.1)
  have O5 : Old Z n0 T5.heap := O4.keep K5c (allS g_b4 all0)
  refine Go.st st5 ?_
  show Go p e below _ (T5.setTop (mkF m 63 #[.val (.int i0), .val (.int i1), .val (.int i2), .val (.int i3), .val (.int n1), .val (.int n2), .val (.int n3), .val (.ref bs_1), .val (.ref bs_2), .val (.ref bs_3), .val (.ref b4), .unset, .unset, .unset] []))
  refine Go.st (fun t k => XS.aload X5.here hx rfl (hb hby at_63) rfl rfl k) ?_
  show Go p e below _ (T5.setTop (mkF m 65 #[.val (.int i0), .val (.int i1), .val (.int i2), .val (.int i3), .val (.int n1), .val (.int n2), .val (.int n3), .val (.ref bs_1), .val (.ref bs_2), .val (.ref bs_3), .val (.ref b4), .unset, .unset, .unset] [(.ref b4)]))
  refine Go.st (fun t k => XS.iload X5.here hx rfl (hb hby at_65) rfl k) ?_
  show Go p e below _ (T5.setTop (mkF m 67 #[.val (.int i0), .val (.int i1), .val (.int i2), .val (.int i3), .val (.int n1), .val (.int n2), .val (.int n3), .val (.ref bs_1), .val (.ref bs_2), .val (.ref bs_3), .val (.ref b4), .unset, .unset, .unset] [(.int n1), (.ref b4)]))
  refine Go.st (fun t k => XS.bipush X5.here hx rfl (hb hby at_67) k) ?_
  show Go p e below _ (T5.setTop (mkF m 69 #[.val (.int i0), .val (.int i1), .val (.int i2), .val (.int i3), .val (.int n1), .val (.int n2), .val (.int n3), .val (.ref bs_1), .val (.ref bs_2), .val (.ref bs_3), .val (.ref b4), .unset, .unset, .unset] [(.int (46 : Int32)), (.int n1), (.ref b4)]))
  obtain ⟨cl6, Ar6, q6, S6, M6, H6, G6⟩ := id r5_0
  have hin6 : ¬ (n1 < 0 ∨ cl6.slots.size ≤ (n1).toNatClampNeg) := inb_of S6 ⟨(own_q0 n1 B1), (own_q9 n1 n2 B1 B2)⟩
  obtain ⟨T6, h6, X6, e6, W6, st6⟩ := stC X5 hx hZ rfl Ar6 (j := n1) hin6 (g := (mkF m 69 #[.val (.int i0), .val (.int i1), .val (.int i2), .val (.int i3), .val (.int n1), .val (.int n2), .val (.int n3), .val (.ref bs_1), .val (.ref bs_2), .val (.ref bs_3), .val (.ref b4), .unset, .unset, .unset] [(.int (46 : Int32)), (.int n1), (.ref b4)])) rfl rfl (hb hby at_69)
  have V6 : Arv Z h6 b4 k4 .char ((n1 + (1 : Int32)) + n2) (((own_putc (List.replicate (((n1 + (1 : Int32)) + n2)).toNatClampNeg (0 : Int32)) (0 : Int32) i0 n1).set (n1).toNatClampNeg (46 : Int32)).map Value.int) (.int (0 : Int32)) := own_setM (own_putc (List.replicate (((n1 + (1 : Int32)) + n2)).toNatClampNeg (0 : Int32)) (0 : Int32) i0 n1) _ _ ▸ Arv.set Ar6 q6 S6 M6 H6 G6 (by decide) W6 _ rfl (own_hi' r5_1 (own_q0 n1 B1) (own_q9 n1 n2 B1 B2))
  have LN6 : ((own_putc (List.replicate (((n1 + (1 : Int32)) + n2)).toNatClampNeg (0 : Int32)) (0 : Int32) i0 n1).set (n1).toNatClampNeg (46 : Int32)).length = (((n1 + (1 : Int32)) + n2)).toNatClampNeg := List.length_set.trans r5_1
  have N6 := Fr.snoc X6 N5 g_b4
  have SW6 : Safe Z consts_1 T3.vm T5.heap b4 := (Safe.arv hZ.alike r5_0 nofun)
  have C6 : CHr Z consts_1 s.vm h0 T3.vm h6 := C5.trans (CHr.wr W6 SW6 C5.1)
  have O6 : Old Z n0 h6 := O5.wr W6 g_b4
  refine Go.st st6 ?_
  show Go p e below _ (T6.setTop (mkF m 70 #[.val (.int i0), .val (.int i1), .val (.int i2), .val (.int i3), .val (.int n1), .val (.int n2), .val (.int n3), .val (.ref bs_1), .val (.ref bs_2), .val (.ref bs_3), .val (.ref b4), .unset, .unset, .unset] []))
  refine Go.st (fun t k => XS.aload X6.here hx rfl (hb hby at_70) rfl rfl k) ?_
  show Go p e below _ (T6.setTop (mkF m 72 #[.val (.int i0), .val (.int i1), .val (.int i2), .val (.int i3), .val (.int n1), .val (.int n2), .val (.int n3), .val (.ref bs_1), .val (.ref bs_2), .val (.ref bs_3), .val (.ref b4), .unset, .unset, .unset] [(.ref b4)]))
  refine Go.st (fun t k => XS.iload X6.here hx rfl (hb hby at_72) rfl k) ?_
  show Go p e below _ (T6.setTop (mkF m 74 #[.val (.int i0), .val (.int i1), .val (.int i2), .val (.int i3), .val (.int n1), .val (.int n2), .val (.int n3), .val (.ref bs_1), .val (.ref bs_2), .val (.ref bs_3), .val (.ref b4), .unset, .unset, .unset] [(.int n1), (.ref b4)]))
  refine Go.st (fun t k => XS.iconst X6.here hx rfl (hb hby at_74) k) ?_
  show Go p e below _ (T6.setTop (mkF m 75 #[.val (.int i0), .val (.int i1), .val (.int i2), .val (.int i3), .val (.int n1), .val (.int n2), .val (.int n3), .val (.ref bs_1), .val (.ref bs_2), .val (.ref bs_3), .val (.ref b4), .unset, .unset, .unset] [(.int (1 : Int32)), (.int n1), (.ref b4)]))
  refine Go.st (fun t k => XS.iadd X6.here hx rfl (hb hby at_75) rfl k) ?_
  show Go p e below _ (T6.setTop (mkF m 76 #[.val (.int i0), .val (.int i1), .val (.int i2), .val (.int i3), .val (.int n1), .val (.int n2), .val (.int n3), .val (.ref bs_1), .val (.ref bs_2), .val (.ref bs_3), .val (.ref b4), .unset, .unset, .unset] [(.int (n1 + (1 : Int32))), (.ref b4)]))
  refine Go.st (fun t k => XS.iloadN X6.here hx rfl (hb hby at_76) rfl k) ?_
  show Go p e below _ (T6.setTop (mkF m 77 #[.val (.int i0), .val (.int i1), .val (.int i2), .val (.int i3), .val (.int n1), .val (.int n2), .val (.int n3), .val (.ref bs_1), .val (.ref bs_2), .val (.ref bs_3), .val (.ref b4), .unset, .unset, .unset] [(.int i1), (.int (n1 + (1 : Int32))), (.ref b4)]))
  refine Go.st (fun t k => XS.iload X6.here hx rfl (hb hby at_77) rfl k) ?_
  show Go p e below _ (T6.setTop (mkF m 79 #[.val (.int i0), .val (.int i1), .val (.int i2), .val (.int i3), .val (.int n1), .val (.int n2), .val (.int n3), .val (.ref bs_1), .val (.ref bs_2), .val (.ref bs_3), .val (.ref b4), .unset, .unset, .unset] [(.int n2), (.int i1), (.int (n1 + (1 : Int32))), (.ref b4)]))
  obtain ⟨_, _, ⟨T7, L7, k7, n7⟩, -, X7, ⟨Lc7, hQ7, l7, y7, z7⟩, st7⟩ := Jvm.LawKit.callS X6 hx (y := (⟨"com/example/lease/lease/core/InvalidFieldExceptionWithinPinLaw", "put", "([CIII)V"⟩ : MethodName)) hown (mvT hZ (w5 hw)) (mvT hZ (w6 hw)) (mvT hZ (w2 hw)) (mvT hZ (w7 hw)) (by decide) (backOf (W := 0) (rmP l Z a0 hw [] b4 (n1 + (1 : Int32)) i1 n2 ((own_putc (List.replicate (((n1 + (1 : Int32)) + n2)).toNatClampNeg (0 : Int32)) (0 : Int32) i0 n1).set (n1).toNatClampNeg (46 : Int32)) k4 ((n1 + (1 : Int32)) + n2) h6 n0 O6 g_b4 V6 (own_q10 n1 B1) (own_q11 n1 B1) (fun q => Int32.lt_irrefl q) (own_q2 n2 B2) (own_q3 n2 B2) LN6) hZ (w7 hw) (w2 hw) (by decide) (by decide)) (g := (mkF m 79 #[.val (.int i0), .val (.int i1), .val (.int i2), .val (.int i3), .val (.int n1), .val (.int n2), .val (.int n3), .val (.ref bs_1), .val (.ref bs_2), .val (.ref bs_3), .val (.ref b4), .unset, .unset, .unset] [(.int n2), (.int i1), (.int (n1 + (1 : Int32))), (.ref b4)])) rfl (by rw [hml]; rfl) (argsL := [(.ref b4), (.int (n1 + (1 : Int32))), (.int i1), (.int n2)]) (rest := []) (lenOf pd_1 rfl) rfl (by show 2 * 0 + _ ≤ _; exact Nat.le_of_eq rfl) (hb hby at_79) (fun vm₁ hw₁ => ⟨rfl, e6, (by decide : 19 + 0 ≤ _), (by decide : 52 + 0 ≤ _)⟩)
  dsimp only [Pt.U, Pt.locs, Pt.cells, Pt.slots] at X7 l7 y7 z7 st7 hQ7
  subst l7 y7 z7
  obtain ⟨rfl, M7, K7c, r7_0, r7_1⟩ := hQ7
  have N7 := Fr.app N6 M7
  have SK7 : ∀ y ∈ ([b4] : List Addr), Safe Z consts_1 T3.vm h6 y := (sfS (Safe.arv hZ.alike V6 nofun) sf0)
  have C7 : CHr Z consts_1 s.vm h0 T3.vm T7.heap := C6.trans (CHr.keep K7c SK7 C6.1)
  have O7 : Old Z n0 T7.heap := O6.keep K7c (allS g_b4 all0)
  refine Go.st st7 ?_
  show Go p e below _ (T7.setTop (mkF m 82 #[.val (.int i0), .val (.int i1), .val (.int i2), .val (.int i3), .val (.int n1), .val (.int n2), .val (.int n3), .val (.ref bs_1), .val (.ref bs_2), .val (.ref bs_3), .val (.ref b4), .unset, .unset, .unset] []))
  obtain ⟨T8, h8, X8, e8, E8, A8, D8, -, st8⟩ := newO X7 hx hZ hown (w11 hw) (w12 hw) (w13 hw) rfl (g := (mkF m 82 #[.val (.int i0), .val (.int i1), .val (.int i2), .val (.int i3), .val (.int n1), .val (.int n2), .val (.int n3), .val (.ref bs_1), .val (.ref bs_2), .val (.ref bs_3), .val (.ref b4), .unset, .unset, .unset] [])) rfl (hb hby at_82) (by decide) (by decide)
  obtain ⟨b8, z8⟩ : ∃ z, z = T7.heap.size := ⟨_, rfl⟩
  rw [← z8] at A8 D8 st8
  have g_b8 : n0 ≤ b8 := Nat.le_trans (own_n0 O7) (Nat.le_of_eq z8.symm)
  have C8 : CHr Z consts_1 s.vm h0 T3.vm h8 := C7.trans (CHr.ext E8 C7.1)
  have O8 : Old Z n0 h8 := O7.ext E8
  have f8_37 : Fld Z h8 b8 "java/lang/String" "coder" "B" (.int (0 : Int32)) := D8 (Or.inr (w37 hw)) (ty := .byte) (by decide)
  have f8_39 : Fld Z h8 b8 "java/lang/String" "value" "[B" .null := D8 (Or.inr (w39 hw)) (ty := (.array .byte)) (by decide)
  refine Go.st st8 ?_
  show Go p e below _ (T8.setTop (mkF m 85 #[.val (.int i0), .val (.int i1), .val (.int i2), .val (.int i3), .val (.int n1), .val (.int n2), .val (.int n3), .val (.ref bs_1), .val (.ref bs_2), .val (.ref bs_3), .val (.ref b4), .unset, .unset, .unset] [(.ref b8)]))
  refine Go.st (fun t k => XS.dup X8.here hx rfl (hb hby at_85) rfl rfl k) ?_
  show Go p e below _ (T8.setTop (mkF m 86 #[.val (.int i0), .val (.int i1), .val (.int i2), .val (.int i3), .val (.int n1), .val (.int n2), .val (.int n3), .val (.ref bs_1), .val (.ref bs_2), .val (.ref bs_3), .val (.ref b4), .unset, .unset, .unset] [(.ref b8), (.ref b8)]))
  refine Go.st (fun t k => XS.aload X8.here hx rfl (hb hby at_86) rfl rfl k) ?_
  show Go p e below _ (T8.setTop (mkF m 88 #[.val (.int i0), .val (.int i1), .val (.int i2), .val (.int i3), .val (.int n1), .val (.int n2), .val (.int n3), .val (.ref bs_1), .val (.ref bs_2), .val (.ref bs_3), .val (.ref b4), .unset, .unset, .unset] [(.ref b4), (.ref b8), (.ref b8)]))
  obtain ⟨_, _, ⟨T9, L9, k9, n9⟩, -, X9, ⟨Lc9, hQ9, l9, y9, z9⟩, st9⟩ := X8.specialBack hx (y := (⟨"java/lang/String", "<init>", "([C)V"⟩ : MethodName)) rfl hown (mvT hZ (w14 hw)) (mvT hZ (w15 hw)) (mvT hZ (w16 hw)) (by decide) (own_backV (W := 1) (n0 := n0) hZ (own_sw hw) (kI := 4) (w12 hw) (x := b8) (b := b4) g_b8 (own_n0 O8) A8 f8_39 f8_37 (r7_0.ext E8) (Y3.ext O8.2) Y17 r7_1 (own_q7 n1 n2 B1 B2) (own_q12 n1 n2 B1 B2) (cap := 7) (own_cap 7 (7 : Int32) rfl (own_q7 n1 n2 B1 B2) (own_q6 n1 n2 B1 B2)) (by decide) (own_latP _ _ _ (own_latS _ (own_latP _ _ _ (own_latR _)) (by decide))) (by decide) (by decide)) (g := (mkF m 88 #[.val (.int i0), .val (.int i1), .val (.int i2), .val (.int i3), .val (.int n1), .val (.int n2), .val (.int n3), .val (.ref bs_1), .val (.ref bs_2), .val (.ref bs_3), .val (.ref b4), .unset, .unset, .unset] [(.ref b4), (.ref b8), (.ref b8)])) rfl (by rw [hml]; rfl) (Steps.refl _) (a := b8) (argsL := [(.ref b4)]) (rest := [(.ref b8)]) (lenOf pd_3 rfl) rfl (by show 2 * 0 + _ ≤ _; exact Nat.le_of_eq rfl) (hb hby at_88) (fun vm₁ hw₁ => ⟨rfl, e8, (by decide : 20 + 1 ≤ _), (by decide : 56 + 7 ≤ _)⟩)
  dsimp only [Pt.U, Pt.locs, Pt.cells, Pt.slots] at X9 l9 y9 z9 st9 hQ9
  subst l9 y9 z9
  obtain ⟨t_9, kb_9, rfl, M9, K9c, r9_0, r9_1, r9_2, r9_3, r9_4, r9_5⟩ := hQ9
  have N9 := Fr.app N7 M9
  have g_t_9 : n0 ≤ t_9 := Nat.le_trans (own_n0 O8) r9_0
  have S10 := (Safe.ext E8 C7.1 (Safe.new (Nat.le_of_eq z8.symm)))
  have SK9 : ∀ y ∈ ([b8] : List Addr), Safe Z consts_1 T3.vm h8 y := (sfS S10 sf0)
  have C9 : CHr Z consts_1 s.vm h0 T3.vm T9.heap := C8.trans (CHr.keep K9c SK9 C8.1)
  have O9 : Old Z n0 T9.heap := O8.keep K9c (allS g_b8 all0)
  refine Go.tr st9 ?_
  show Go p e below _ (T9.setTop (mkF m 91 #[.val (.int i0), .val (.int i1), .val (.int i2), .val (.int i3), .val (.int n1), .val (.int n2), .val (.int n3), .val (.ref bs_1), .val (.ref bs_2), .val (.ref bs_3), .val (.ref b4), .unset, .unset, .unset] [(.ref b8)]))
  refine Go.st (fun t k => XS.astore X9.here hx rfl (hb hby at_91) rfl rfl (l' := #[.val (.int i0), .val (.int i1), .val (.int i2), .val (.int i3), .val (.int n1), .val (.int n2), .val (.int n3), .val (.ref bs_1), .val (.ref bs_2), .val (.ref bs_3), .val (.ref b4), .val (.ref b8), .unset, .unset]) rfl k) ?_
  show Go p e below _ (T9.setTop (mkF m 93 #[.val (.int i0), .val (.int i1), .val (.int i2), .val (.int i3), .val (.int n1), .val (.int n2), .val (.int n3), .val (.ref bs_1), .val (.ref bs_2), .val (.ref bs_3), .val (.ref b4), .val (.ref b8), .unset, .unset] []))
  obtain ⟨T11, h11, X11, e11, E11, A11, D11, U11, st11⟩ := newO X9 hx hZ hown (w43 hw) (w44 hw) (w45 hw) rfl (g := (mkF m 93 #[.val (.int i0), .val (.int i1), .val (.int i2), .val (.int i3), .val (.int n1), .val (.int n2), .val (.int n3), .val (.ref bs_1), .val (.ref bs_2), .val (.ref bs_3), .val (.ref b4), .val (.ref b8), .unset, .unset] [])) rfl (hb hby at_93) (by decide) (by decide)
  obtain ⟨b11, z11⟩ : ∃ z, z = T9.heap.size := ⟨_, rfl⟩
  rw [← z11] at A11 D11 U11 st11
  have U11 : Unt h11 b11 := U11
  have g_b11 : n0 ≤ b11 := Nat.le_trans (own_n0 O9) (Nat.le_of_eq z11.symm)
  have C11 : CHr Z consts_1 s.vm h0 T3.vm h11 := C9.trans (CHr.ext E11 C9.1)
  have O11 : Old Z n0 h11 := O9.ext E11
  have f11_185 : Fld Z h11 b11 "java/lang/Throwable" "cause" "Ljava/lang/Throwable;" .null := D11 (Or.inl (w185 hw)) (ty := (.object "java/lang/Throwable")) (by decide)
  have f11_188 : Fld Z h11 b11 "java/lang/Throwable" "stackTrace" "[Ljava/lang/StackTraceElement;" .null := D11 (Or.inl (w188 hw)) (ty := (.array (.object "java/lang/StackTraceElement"))) (by decide)
  have f11_191 : Fld Z h11 b11 "java/lang/Throwable" "suppressedExceptions" "Ljava/util/List;" .null := D11 (Or.inl (w191 hw)) (ty := (.object "java/util/List")) (by decide)
  have f11_215 : Fld Z h11 b11 "java/lang/Throwable" "detailMessage" "Ljava/lang/String;" .null := D11 (Or.inl (w215 hw)) (ty := (.object "java/lang/String")) (by decide)
  have f11_216 : Fld Z h11 b11 "java/lang/Throwable" "backtrace" "Ljava/lang/Object;" .null := D11 (Or.inl (w216 hw)) (ty := (.object "java/lang/Object")) (by decide)
  have f11_217 : Fld Z h11 b11 "java/lang/Throwable" "depth" "I" (.int (0 : Int32)) := D11 (Or.inl (w217 hw)) (ty := .int) (by decide)
  have f11_227 : Fld Z h11 b11 "com/example/lease/lease/core/InvalidFieldException" "field" "Ljava/lang/String;" .null := D11 (Or.inr (w227 hw)) (ty := (.object "java/lang/String")) (by decide)
  have f11_230 : Fld Z h11 b11 "com/example/lease/lease/core/InvalidFieldException" "reason" "Ljava/lang/String;" .null := D11 (Or.inr (w230 hw)) (ty := (.object "java/lang/String")) (by decide)
  refine Go.st st11 ?_
  show Go p e below _ (T11.setTop (mkF m 96 #[.val (.int i0), .val (.int i1), .val (.int i2), .val (.int i3), .val (.int n1), .val (.int n2), .val (.int n3), .val (.ref bs_1), .val (.ref bs_2), .val (.ref bs_3), .val (.ref b4), .val (.ref b8), .unset, .unset] [(.ref b11)]))
  refine Go.st (fun t k => XS.dup X11.here hx rfl (hb hby at_96) rfl rfl k) ?_
  show Go p e below _ (T11.setTop (mkF m 97 #[.val (.int i0), .val (.int i1), .val (.int i2), .val (.int i3), .val (.int n1), .val (.int n2), .val (.int n3), .val (.ref bs_1), .val (.ref bs_2), .val (.ref bs_3), .val (.ref b4), .val (.ref b8), .unset, .unset] [(.ref b11), (.ref b11)]))
  refine Go.st (fun t k => XS.aload X11.here hx rfl (hb hby at_97) rfl rfl k) ?_
  show Go p e below _ (T11.setTop (mkF m 99 #[.val (.int i0), .val (.int i1), .val (.int i2), .val (.int i3), .val (.int n1), .val (.int n2), .val (.int n3), .val (.ref bs_1), .val (.ref bs_2), .val (.ref bs_3), .val (.ref b4), .val (.ref b8), .unset, .unset] [(.ref bs_2), (.ref b11), (.ref b11)]))
  refine Go.st (fun t k => XS.aload X11.here hx rfl (hb hby at_99) rfl rfl k) ?_
  show Go p e below _ (T11.setTop (mkF m 101 #[.val (.int i0), .val (.int i1), .val (.int i2), .val (.int i3), .val (.int n1), .val (.int n2), .val (.int n3), .val (.ref bs_1), .val (.ref bs_2), .val (.ref bs_3), .val (.ref b4), .val (.ref b8), .unset, .unset] [(.ref bs_3), (.ref bs_2), (.ref b11), (.ref b11)]))
  have c12 := ((((((((r2_1.keep K3c).ext E4).keep K5c).wr W6).keep K7c).ext E8).keep K9c).ext E11)
  have c13 := ((((((((r2_3.keep K3c nin0).ext E4).keep K5c (ninS (Nat.ne_of_lt (Nat.lt_of_lt_of_le (Nat.lt_of_lt_of_le r2_1.lt K3c.1) (Nat.le_of_eq z4.symm))) nin0)).other W6 (Or.inl (Nat.ne_of_lt (Nat.lt_of_lt_of_le (Nat.lt_of_lt_of_le r2_1.lt K3c.1) (Nat.le_of_eq z4.symm))))).keep K7c (ninS (Nat.ne_of_lt (Nat.lt_of_lt_of_le (Nat.lt_of_lt_of_le r2_1.lt K3c.1) (Nat.le_of_eq z4.symm))) nin0)).ext E8).keep K9c (ninS (Nat.ne_of_lt (Nat.lt_of_lt_of_le (Nat.lt_of_lt_of_le (Nat.lt_of_lt_of_le (Nat.lt_of_lt_of_le (Nat.lt_of_lt_of_le (Nat.lt_of_lt_of_le r2_1.lt K3c.1) E4.1) K5c.1) (Nat.le_of_eq W6.size.symm)) K7c.1) (Nat.le_of_eq z8.symm))) nin0)).ext E11)
  have c14 := ((((((((r2_4.keep K3c nin0).ext E4).keep K5c (ninS (Nat.ne_of_lt (Nat.lt_of_lt_of_le (Nat.lt_of_lt_of_le r2_4.lt K3c.1) (Nat.le_of_eq z4.symm))) nin0)).other W6 (Nat.ne_of_lt (Nat.lt_of_lt_of_le (Nat.lt_of_lt_of_le r2_4.lt K3c.1) (Nat.le_of_eq z4.symm)))).keep K7c (ninS (Nat.ne_of_lt (Nat.lt_of_lt_of_le (Nat.lt_of_lt_of_le r2_4.lt K3c.1) (Nat.le_of_eq z4.symm))) nin0)).ext E8).keep K9c (ninS (Nat.ne_of_lt (Nat.lt_of_lt_of_le (Nat.lt_of_lt_of_le (Nat.lt_of_lt_of_le (Nat.lt_of_lt_of_le (Nat.lt_of_lt_of_le (Nat.lt_of_lt_of_le r2_4.lt K3c.1) E4.1) K5c.1) (Nat.le_of_eq W6.size.symm)) K7c.1) (Nat.le_of_eq z8.symm))) nin0)).ext E11)
  have c15 := ((((((((r2_2.keep K3c nin0).ext E4).keep K5c (ninS (Nat.ne_of_lt (Nat.lt_of_lt_of_le (Nat.lt_of_lt_of_le r2_1.lt K3c.1) (Nat.le_of_eq z4.symm))) nin0)).other W6 (Or.inl (Nat.ne_of_lt (Nat.lt_of_lt_of_le (Nat.lt_of_lt_of_le r2_1.lt K3c.1) (Nat.le_of_eq z4.symm))))).keep K7c (ninS (Nat.ne_of_lt (Nat.lt_of_lt_of_le (Nat.lt_of_lt_of_le r2_1.lt K3c.1) (Nat.le_of_eq z4.symm))) nin0)).ext E8).keep K9c (ninS (Nat.ne_of_lt (Nat.lt_of_lt_of_le (Nat.lt_of_lt_of_le (Nat.lt_of_lt_of_le (Nat.lt_of_lt_of_le (Nat.lt_of_lt_of_le (Nat.lt_of_lt_of_le r2_1.lt K3c.1) E4.1) K5c.1) (Nat.le_of_eq W6.size.symm)) K7c.1) (Nat.le_of_eq z8.symm))) nin0)).ext E11)
  have c16 := (((((((r3_1.ext E4).keep K5c).wr W6).keep K7c).ext E8).keep K9c).ext E11)
  have c17 := (((((((r3_3.ext E4).keep K5c (ninS (Nat.ne_of_lt (Nat.lt_of_lt_of_le r3_1.lt (Nat.le_of_eq z4.symm))) nin0)).other W6 (Or.inl (Nat.ne_of_lt (Nat.lt_of_lt_of_le r3_1.lt (Nat.le_of_eq z4.symm))))).keep K7c (ninS (Nat.ne_of_lt (Nat.lt_of_lt_of_le r3_1.lt (Nat.le_of_eq z4.symm))) nin0)).ext E8).keep K9c (ninS (Nat.ne_of_lt (Nat.lt_of_lt_of_le (Nat.lt_of_lt_of_le (Nat.lt_of_lt_of_le (Nat.lt_of_lt_of_le (Nat.lt_of_lt_of_le r3_1.lt E4.1) K5c.1) (Nat.le_of_eq W6.size.symm)) K7c.1) (Nat.le_of_eq z8.symm))) nin0)).ext E11)
  have c18 := (((((((r3_4.ext E4).keep K5c (ninS (Nat.ne_of_lt (Nat.lt_of_lt_of_le r3_4.lt (Nat.le_of_eq z4.symm))) nin0)).other W6 (Nat.ne_of_lt (Nat.lt_of_lt_of_le r3_4.lt (Nat.le_of_eq z4.symm)))).keep K7c (ninS (Nat.ne_of_lt (Nat.lt_of_lt_of_le r3_4.lt (Nat.le_of_eq z4.symm))) nin0)).ext E8).keep K9c (ninS (Nat.ne_of_lt (Nat.lt_of_lt_of_le (Nat.lt_of_lt_of_le (Nat.lt_of_lt_of_le (Nat.lt_of_lt_of_le (Nat.lt_of_lt_of_le r3_4.lt E4.1) K5c.1) (Nat.le_of_eq W6.size.symm)) K7c.1) (Nat.le_of_eq z8.symm))) nin0)).ext E11)
  have c19 := (((((((r3_2.ext E4).keep K5c (ninS (Nat.ne_of_lt (Nat.lt_of_lt_of_le r3_1.lt (Nat.le_of_eq z4.symm))) nin0)).other W6 (Or.inl (Nat.ne_of_lt (Nat.lt_of_lt_of_le r3_1.lt (Nat.le_of_eq z4.symm))))).keep K7c (ninS (Nat.ne_of_lt (Nat.lt_of_lt_of_le r3_1.lt (Nat.le_of_eq z4.symm))) nin0)).ext E8).keep K9c (ninS (Nat.ne_of_lt (Nat.lt_of_lt_of_le (Nat.lt_of_lt_of_le (Nat.lt_of_lt_of_le (Nat.lt_of_lt_of_le (Nat.lt_of_lt_of_le r3_1.lt E4.1) K5c.1) (Nat.le_of_eq W6.size.symm)) K7c.1) (Nat.le_of_eq z8.symm))) nin0)).ext E11)
  obtain ⟨_, _, ⟨T20, L20, k20, n20⟩, -, X20, hS20, hg20, ⟨Lc20, hQ20, l20, y20, z20⟩, st20⟩ := X11.specialBackS hx (y := (⟨"com/example/lease/lease/core/InvalidFieldException", "<init>", "(Ljava/lang/String;Ljava/lang/String;)V"⟩ : MethodName)) rfl hown (mvT hZ (w46 hw)) (mvT hZ (w47 hw)) (mvT hZ (w48 hw)) (by decide) (own_backH (VP := fun vm => CHv Z consts_1 vm h11) (Q := Q_rm10_1 Z b11 bs_2 bs_3 w1i bt_2 bk_2 (own_bs i1 n2) n2 bt_3 bk_3 (own_bs i2 n3) n3 w4a w8a h11 n0) (rm := ({ frames := 7, cells := 11, slots := 2852, locals := 94 } : Room)) (W := 1) (rm10_1 l Z a0 hw [] b11 bs_2 bs_3 w1i bt_2 bk_2 (own_bs i1 n2) n2 bt_3 bk_3 (own_bs i2 n3) n3 w4a w8a h11 n0 O11 Y3 Y17 c12 c13 c14 c15 (own_q13 n2 B2) (own_q2 n2 B2) (own_q14 n2 B2) A11 c16 c17 (own_q15 n2 B2) (own_q16 n2 B2) (own_q17 n2 B2) (own_q18 n2 B2) c18 c19 (own_q19 n2 n3 B2 B3) (own_q4 n3 B3) (own_q20 n2 B2) (own_q21 n2 B2) (own_q22 n3 B3) (own_q23 n2 n3 B2 B3) (own_q24 n2 n3 B2 B3) (own_q25 n2 n3 B2 B3) (own_q26 n2 n3 B2 B3) (own_q27 n2 n3 B2 B3) (own_q28 n2 n3 B2 B3) (own_q29 n2 n3 B2 B3) f11_185 g_b11 Y6 f11_188 Y10 f11_191 HL U11 f11_216 f11_215 f11_217 f11_227 f11_230 Y11) hZ (w48 hw) (w45 hw) (by decide) (by decide) (own_EW hw) C11.1 (Vm.MethodsKnown.alikeC hS3.1.alike hTK) (Vm.FramesKnown.alikeC hS3.1.alike hBl)) (g := (mkF m 101 #[.val (.int i0), .val (.int i1), .val (.int i2), .val (.int i3), .val (.int n1), .val (.int n2), .val (.int n3), .val (.ref bs_1), .val (.ref bs_2), .val (.ref bs_3), .val (.ref b4), .val (.ref b8), .unset, .unset] [(.ref bs_3), (.ref bs_2), (.ref b11), (.ref b11)])) rfl (by rw [hml]; rfl) (Steps.refl _) (a := b11) (argsL := [(.ref bs_2), (.ref bs_3)]) (rest := [(.ref b11)]) (lenOf pd_23 rfl) rfl (by show 2 * 0 + _ ≤ _; exact Nat.le_of_eq rfl) (hb hby at_101) (fun vm₁ hw₁ => ⟨rfl, e11, ((own_chW hZ (own_EW hw) hw₁ C11.1).1), (by decide : 22 + 11 ≤ _), (by decide : 71 + 2852 ≤ _)⟩)
  dsimp only [Pt.U, Pt.locs, Pt.cells, Pt.slots] at X20 l20 y20 z20 st20 hQ20 hS20 hg20
  subst l20 y20 z20
  have hg20' : h11.size ≤ T20.heap.size := (by rw [← e11]; exact hg20)
  have hZ : Z.Warmed39 (s.setVm T20.vm).vm := State.Warmed39.trans (t := (s.setVm T3.vm)) hZ hS20.1
  have hown : (s.setVm T20.vm).vm.findClass "com/example/lease/lease/core/InvalidFieldExceptionWithinPinLaw" = some m.cls := by rw [show (s.setVm T20.vm).vm = T20.vm from rfl, hS20.1.alike.findClass]; exact hown
  have hS200 := hS20.1
  obtain ⟨X20, hS20⟩ := Jvm.Stand.againW X20 hS3 hS20 (Nat.le_trans (Nat.le_trans (Nat.le_trans (Nat.le_trans (Nat.le_trans (Nat.le_trans (Nat.le_trans (Nat.le_trans (Nat.le_refl _) E4.1) K5c.1) (Nat.le_of_eq W6.size.symm)) K7c.1) E8.1) K9c.1) E11.1) hg20')
  obtain ⟨hQ20, HC20⟩ := hQ20
  obtain ⟨b1_18_20, b2_2_6_1_2_18_20, k2_2_6_1_2_18_20, rfl, M20, K20c, r20_0, r20_1, r20_2, r20_3, r20_4, r20_5, r20_6, r20_7, r20_8, r20_9, r20_10, r20_11, r20_12⟩ := hQ20
  have N20 := Fr.app N9 M20
  have g_b1_18_20 : n0 ≤ b1_18_20 := Nat.le_trans (own_n0 O11) r20_0
  have g_b2_2_6_1_2_18_20 : n0 ≤ b2_2_6_1_2_18_20 := Nat.le_trans (own_n0 O11) r20_1
  have C20 : CHr Z consts_1 s.vm h0 T20.vm T20.heap := C11.trans HC20
  have O20 : Old Z n0 T20.heap := O11.keep K20c (allS g_b11 all0)
  refine Go.tr st20 ?_
  show Go p e below _ (T20.setTop (mkF m 104 #[.val (.int i0), .val (.int i1), .val (.int i2), .val (.int i3), .val (.int n1), .val (.int n2), .val (.int n3), .val (.ref bs_1), .val (.ref bs_2), .val (.ref bs_3), .val (.ref b4), .val (.ref b8), .unset, .unset] [(.ref b11)]))
  refine Go.st (fun t k => XS.astore X20.here hx rfl (hb hby at_104) rfl rfl (l' := #[.val (.int i0), .val (.int i1), .val (.int i2), .val (.int i3), .val (.int n1), .val (.int n2), .val (.int n3), .val (.ref bs_1), .val (.ref bs_2), .val (.ref bs_3), .val (.ref b4), .val (.ref b8), .val (.ref b11), .unset]) rfl k) ?_
  show Go p e below _ (T20.setTop (mkF m 106 #[.val (.int i0), .val (.int i1), .val (.int i2), .val (.int i3), .val (.int n1), .val (.int n2), .val (.int n3), .val (.ref bs_1), .val (.ref bs_2), .val (.ref bs_3), .val (.ref b4), .val (.ref b8), .val (.ref b11), .unset] []))
  refine Go.st (fun t k => XS.aload X20.here hx rfl (hb hby at_106) rfl rfl k) ?_
  show Go p e below _ (T20.setTop (mkF m 108 #[.val (.int i0), .val (.int i1), .val (.int i2), .val (.int i3), .val (.int n1), .val (.int n2), .val (.int n3), .val (.ref bs_1), .val (.ref bs_2), .val (.ref bs_3), .val (.ref b4), .val (.ref b8), .val (.ref b11), .unset] [(.ref b11)]))
  refine Go.st (fun t k => XS.aload X20.here hx rfl (hb hby at_108) rfl rfl k) ?_
  show Go p e below _ (T20.setTop (mkF m 110 #[.val (.int i0), .val (.int i1), .val (.int i2), .val (.int i3), .val (.int n1), .val (.int n2), .val (.int n3), .val (.ref bs_1), .val (.ref bs_2), .val (.ref bs_3), .val (.ref b4), .val (.ref b8), .val (.ref b11), .unset] [(.ref bs_1), (.ref b11)]))
  have c21 := ((((((((((r1_1.keep K2c).keep K3c).ext E4).keep K5c).wr W6).keep K7c).ext E8).keep K9c).ext E11).keep K20c)
  have c22 := ((((((((((r1_3.keep K2c nin0).keep K3c nin0).ext E4).keep K5c (ninS (Nat.ne_of_lt (Nat.lt_of_lt_of_le (Nat.lt_of_lt_of_le (Nat.lt_of_lt_of_le r1_1.lt K2c.1) K3c.1) (Nat.le_of_eq z4.symm))) nin0)).other W6 (Or.inl (Nat.ne_of_lt (Nat.lt_of_lt_of_le (Nat.lt_of_lt_of_le (Nat.lt_of_lt_of_le r1_1.lt K2c.1) K3c.1) (Nat.le_of_eq z4.symm))))).keep K7c (ninS (Nat.ne_of_lt (Nat.lt_of_lt_of_le (Nat.lt_of_lt_of_le (Nat.lt_of_lt_of_le r1_1.lt K2c.1) K3c.1) (Nat.le_of_eq z4.symm))) nin0)).ext E8).keep K9c (ninS (Nat.ne_of_lt (Nat.lt_of_lt_of_le (Nat.lt_of_lt_of_le (Nat.lt_of_lt_of_le (Nat.lt_of_lt_of_le (Nat.lt_of_lt_of_le (Nat.lt_of_lt_of_le (Nat.lt_of_lt_of_le r1_1.lt K2c.1) K3c.1) E4.1) K5c.1) (Nat.le_of_eq W6.size.symm)) K7c.1) (Nat.le_of_eq z8.symm))) nin0)).ext E11).keep K20c (ninS (Nat.ne_of_lt (Nat.lt_of_lt_of_le (Nat.lt_of_lt_of_le (Nat.lt_of_lt_of_le (Nat.lt_of_lt_of_le (Nat.lt_of_lt_of_le (Nat.lt_of_lt_of_le (Nat.lt_of_lt_of_le (Nat.lt_of_lt_of_le (Nat.lt_of_lt_of_le r1_1.lt K2c.1) K3c.1) E4.1) K5c.1) (Nat.le_of_eq W6.size.symm)) K7c.1) E8.1) K9c.1) (Nat.le_of_eq z11.symm))) nin0))
  have c23 := ((((((((((r1_4.keep K2c nin0).keep K3c nin0).ext E4).keep K5c (ninS (Nat.ne_of_lt (Nat.lt_of_lt_of_le (Nat.lt_of_lt_of_le (Nat.lt_of_lt_of_le r1_4.lt K2c.1) K3c.1) (Nat.le_of_eq z4.symm))) nin0)).other W6 (Nat.ne_of_lt (Nat.lt_of_lt_of_le (Nat.lt_of_lt_of_le (Nat.lt_of_lt_of_le r1_4.lt K2c.1) K3c.1) (Nat.le_of_eq z4.symm)))).keep K7c (ninS (Nat.ne_of_lt (Nat.lt_of_lt_of_le (Nat.lt_of_lt_of_le (Nat.lt_of_lt_of_le r1_4.lt K2c.1) K3c.1) (Nat.le_of_eq z4.symm))) nin0)).ext E8).keep K9c (ninS (Nat.ne_of_lt (Nat.lt_of_lt_of_le (Nat.lt_of_lt_of_le (Nat.lt_of_lt_of_le (Nat.lt_of_lt_of_le (Nat.lt_of_lt_of_le (Nat.lt_of_lt_of_le (Nat.lt_of_lt_of_le r1_4.lt K2c.1) K3c.1) E4.1) K5c.1) (Nat.le_of_eq W6.size.symm)) K7c.1) (Nat.le_of_eq z8.symm))) nin0)).ext E11).keep K20c (ninS (Nat.ne_of_lt (Nat.lt_of_lt_of_le (Nat.lt_of_lt_of_le (Nat.lt_of_lt_of_le (Nat.lt_of_lt_of_le (Nat.lt_of_lt_of_le (Nat.lt_of_lt_of_le (Nat.lt_of_lt_of_le (Nat.lt_of_lt_of_le (Nat.lt_of_lt_of_le r1_4.lt K2c.1) K3c.1) E4.1) K5c.1) (Nat.le_of_eq W6.size.symm)) K7c.1) E8.1) K9c.1) (Nat.le_of_eq z11.symm))) nin0))
  have c24 := ((((((((((r1_2.keep K2c nin0).keep K3c nin0).ext E4).keep K5c (ninS (Nat.ne_of_lt (Nat.lt_of_lt_of_le (Nat.lt_of_lt_of_le (Nat.lt_of_lt_of_le r1_1.lt K2c.1) K3c.1) (Nat.le_of_eq z4.symm))) nin0)).other W6 (Or.inl (Nat.ne_of_lt (Nat.lt_of_lt_of_le (Nat.lt_of_lt_of_le (Nat.lt_of_lt_of_le r1_1.lt K2c.1) K3c.1) (Nat.le_of_eq z4.symm))))).keep K7c (ninS (Nat.ne_of_lt (Nat.lt_of_lt_of_le (Nat.lt_of_lt_of_le (Nat.lt_of_lt_of_le r1_1.lt K2c.1) K3c.1) (Nat.le_of_eq z4.symm))) nin0)).ext E8).keep K9c (ninS (Nat.ne_of_lt (Nat.lt_of_lt_of_le (Nat.lt_of_lt_of_le (Nat.lt_of_lt_of_le (Nat.lt_of_lt_of_le (Nat.lt_of_lt_of_le (Nat.lt_of_lt_of_le (Nat.lt_of_lt_of_le r1_1.lt K2c.1) K3c.1) E4.1) K5c.1) (Nat.le_of_eq W6.size.symm)) K7c.1) (Nat.le_of_eq z8.symm))) nin0)).ext E11).keep K20c (ninS (Nat.ne_of_lt (Nat.lt_of_lt_of_le (Nat.lt_of_lt_of_le (Nat.lt_of_lt_of_le (Nat.lt_of_lt_of_le (Nat.lt_of_lt_of_le (Nat.lt_of_lt_of_le (Nat.lt_of_lt_of_le (Nat.lt_of_lt_of_le (Nat.lt_of_lt_of_le r1_1.lt K2c.1) K3c.1) E4.1) K5c.1) (Nat.le_of_eq W6.size.symm)) K7c.1) E8.1) K9c.1) (Nat.le_of_eq z11.symm))) nin0))
  have c25 := (c13.keep K20c (ninS (Nat.ne_of_lt (Nat.lt_of_lt_of_le (Nat.lt_of_lt_of_le (Nat.lt_of_lt_of_le (Nat.lt_of_lt_of_le (Nat.lt_of_lt_of_le (Nat.lt_of_lt_of_le (Nat.lt_of_lt_of_le (Nat.lt_of_lt_of_le r2_1.lt K3c.1) E4.1) K5c.1) (Nat.le_of_eq W6.size.symm)) K7c.1) E8.1) K9c.1) (Nat.le_of_eq z11.symm))) nin0))
  have c26 := (c14.keep K20c (ninS (Nat.ne_of_lt (Nat.lt_of_lt_of_le (Nat.lt_of_lt_of_le (Nat.lt_of_lt_of_le (Nat.lt_of_lt_of_le (Nat.lt_of_lt_of_le (Nat.lt_of_lt_of_le (Nat.lt_of_lt_of_le (Nat.lt_of_lt_of_le r2_4.lt K3c.1) E4.1) K5c.1) (Nat.le_of_eq W6.size.symm)) K7c.1) E8.1) K9c.1) (Nat.le_of_eq z11.symm))) nin0))
  have c27 := (c15.keep K20c (ninS (Nat.ne_of_lt (Nat.lt_of_lt_of_le (Nat.lt_of_lt_of_le (Nat.lt_of_lt_of_le (Nat.lt_of_lt_of_le (Nat.lt_of_lt_of_le (Nat.lt_of_lt_of_le (Nat.lt_of_lt_of_le (Nat.lt_of_lt_of_le r2_1.lt K3c.1) E4.1) K5c.1) (Nat.le_of_eq W6.size.symm)) K7c.1) E8.1) K9c.1) (Nat.le_of_eq z11.symm))) nin0))
  have c28 := (c17.keep K20c (ninS (Nat.ne_of_lt (Nat.lt_of_lt_of_le (Nat.lt_of_lt_of_le (Nat.lt_of_lt_of_le (Nat.lt_of_lt_of_le (Nat.lt_of_lt_of_le (Nat.lt_of_lt_of_le (Nat.lt_of_lt_of_le r3_1.lt E4.1) K5c.1) (Nat.le_of_eq W6.size.symm)) K7c.1) E8.1) K9c.1) (Nat.le_of_eq z11.symm))) nin0))
  have c29 := (c18.keep K20c (ninS (Nat.ne_of_lt (Nat.lt_of_lt_of_le (Nat.lt_of_lt_of_le (Nat.lt_of_lt_of_le (Nat.lt_of_lt_of_le (Nat.lt_of_lt_of_le (Nat.lt_of_lt_of_le (Nat.lt_of_lt_of_le r3_4.lt E4.1) K5c.1) (Nat.le_of_eq W6.size.symm)) K7c.1) E8.1) K9c.1) (Nat.le_of_eq z11.symm))) nin0))
  have c30 := (c19.keep K20c (ninS (Nat.ne_of_lt (Nat.lt_of_lt_of_le (Nat.lt_of_lt_of_le (Nat.lt_of_lt_of_le (Nat.lt_of_lt_of_le (Nat.lt_of_lt_of_le (Nat.lt_of_lt_of_le (Nat.lt_of_lt_of_le r3_1.lt E4.1) K5c.1) (Nat.le_of_eq W6.size.symm)) K7c.1) E8.1) K9c.1) (Nat.le_of_eq z11.symm))) nin0))
  obtain ⟨cq31, kq31, q31a, q31b, q31c⟩ := isOf hZ rfl (A11.keep K20c)
  obtain ⟨_, _, ⟨T31, L31, k31, n31⟩, -, X31, hS31, hg31, ⟨Lc31, hQ31, l31, y31, z31⟩, st31⟩ := X20.virtualBackS hx (y := (⟨"com/example/lease/lease/core/InvalidFieldException", "within", "(Ljava/lang/String;)Lcom/example/lease/lease/core/InvalidFieldException;"⟩ : MethodName)) (z := (⟨"com/example/lease/lease/core/InvalidFieldException", "within", "(Ljava/lang/String;)Lcom/example/lease/lease/core/InvalidFieldException;"⟩ : MethodName)) hown (mvT hZ (w231 hw)) (mvT hZ (w232 hw)) (notFace_of_selects (args := #[]) (mvT hZ (w234 hw))) (mvT hZ (w234 hw)) (mvT hZ (w233 hw)) (by decide) (own_backH (VP := fun vm => CHv Z consts_1 vm T20.heap) (Q := Q_rm39_1 Z b11 bs_1 w1i bt_1 bk_1 (own_bs i0 n1) n1 bs_2 bt_2 bk_2 (own_bs i1 n2) n2 bs_3 bt_3 bk_3 (own_bs i2 n3) n3 w4a w8a T20.heap n0) (rm := ({ frames := 8, cells := 18, slots := 2904, locals := 109 } : Room)) (W := 0) (rm39_1 l Z a0 hw [] b11 bs_1 w1i bt_1 bk_1 (own_bs i0 n1) n1 bs_2 bt_2 bk_2 (own_bs i1 n2) n2 bs_3 bt_3 bk_3 (own_bs i2 n3) n3 w4a w8a T20.heap n0 O20 Y3 Y17 c21 c22 c23 c24 (own_q30 n1 B1) (own_q0 n1 B1) (own_q31 n1 B1) (A11.keep K20c) (own_q32 n1 B1) (own_q33 n1 B1) (own_q34 n1 B1) (own_q35 n1 B1) r20_6 (c12.keep K20c) c25 c26 c27 (own_q36 n1 n2 B1 B2) (own_q2 n2 B2) (own_q37 n1 B1) (own_q38 n1 B1) (own_q39 n2 B2) (own_q40 n1 n2 B1 B2) (own_q41 n1 n2 B1 B2) (own_q42 n1 n2 B1 B2) (own_q43 n1 n2 B1 B2) (own_q44 n1 n2 B1 B2) (own_q45 n1 n2 B1 B2) (own_q46 n1 n2 B1 B2) r20_7 (own_q47 n1 n2 B1 B2) (c16.keep K20c) c28 (own_q48 n1 n2 B1 B2) (own_q49 n1 n2 B1 B2) (own_q50 n1 n2 B1 B2) (own_q51 n1 n2 B1 B2) c29 c30 (own_q52 n1 n2 n3 B1 B2 B3) (own_q4 n3 B3) (own_q53 n1 n2 B1 B2) (own_q54 n1 n2 B1 B2) (own_q22 n3 B3) (own_q55 n1 n2 n3 B1 B2 B3) (own_q56 n1 n2 n3 B1 B2 B3) (own_q57 n1 n2 n3 B1 B2 B3) (own_q58 n1 n2 n3 B1 B2 B3) (own_q59 n1 n2 n3 B1 B2 B3) (own_q60 n1 n2 n3 B1 B2 B3) (own_q61 n1 n2 n3 B1 B2 B3) Y6 Y10 Y11 HL) hZ (w235 hw) (w45 hw) (by decide) (by decide) (own_EW hw) C20.1 (Vm.MethodsKnown.alikeC hS20.1.alike hTK) (Vm.FramesKnown.alikeC hS20.1.alike hBl)) q31a q31c (g := (mkF m 110 #[.val (.int i0), .val (.int i1), .val (.int i2), .val (.int i3), .val (.int n1), .val (.int n2), .val (.int n3), .val (.ref bs_1), .val (.ref bs_2), .val (.ref bs_3), .val (.ref b4), .val (.ref b8), .val (.ref b11), .unset] [(.ref bs_1), (.ref b11)])) rfl (by rw [hml]; rfl) (Steps.refl _) (argsL := [(.ref bs_1)]) (rest := []) (lenOf pd_24 rfl) rfl (by show 2 * 0 + _ ≤ _; exact Nat.le_of_eq rfl) (hb hby at_110) (fun vm₁ hw₁ => ⟨rfl, rfl, ((own_chW hZ (own_EW hw) hw₁ C20.1).1), (by decide : 33 + 18 ≤ _), (by decide : 2923 + 2904 ≤ _)⟩)
  dsimp only [Pt.U, Pt.locs, Pt.cells, Pt.slots] at X31 l31 y31 z31 st31 hQ31 hS31 hg31
  subst l31 y31 z31
  have hg31' : T20.heap.size ≤ T31.heap.size := hg31
  have hZ : Z.Warmed39 (s.setVm T31.vm).vm := State.Warmed39.trans (t := (s.setVm T20.vm)) hZ hS31.1
  have hown : (s.setVm T31.vm).vm.findClass "com/example/lease/lease/core/InvalidFieldExceptionWithinPinLaw" = some m.cls := by rw [show (s.setVm T31.vm).vm = T31.vm from rfl, hS31.1.alike.findClass]; exact hown
  have hS310 := hS31.1
  obtain ⟨X31, hS31⟩ := Jvm.Stand.againW X31 hS20 hS31 (Nat.le_trans (Nat.le_refl _) hg31')
  obtain ⟨hQ31, HC31⟩ := hQ31
  obtain ⟨b1_31, b1_21_31, b2_2_6_1_2_21_31, b1_18_38_31, b2_2_6_1_2_18_38_31, k2_2_6_1_2_18_38_31, k2_2_6_1_2_21_31, rfl, M31, K31c, r31_0, r31_1, r31_2, r31_3, r31_4, r31_5, r31_6, r31_7, r31_8, r31_9, r31_10, r31_11, r31_12, r31_13, r31_14, r31_15, r31_16, r31_17, r31_18, r31_19, r31_20, r31_21, r31_22, r31_23, r31_24, r31_25, r31_26, r31_27, r31_28, r31_29, r31_30⟩ := hQ31
  have N31 := Fr.app N20 M31
  have g_b1_31 : n0 ≤ b1_31 := Nat.le_trans (own_n0 O20) r31_0
  have g_b1_21_31 : n0 ≤ b1_21_31 := Nat.le_trans (own_n0 O20) r31_1
  have g_b2_2_6_1_2_21_31 : n0 ≤ b2_2_6_1_2_21_31 := Nat.le_trans (own_n0 O20) r31_2
  have g_b1_18_38_31 : n0 ≤ b1_18_38_31 := Nat.le_trans (own_n0 O20) r31_3
  have g_b2_2_6_1_2_18_38_31 : n0 ≤ b2_2_6_1_2_18_38_31 := Nat.le_trans (own_n0 O20) r31_4
  have C31 : CHr Z consts_1 s.vm h0 T31.vm T31.heap := C20.trans HC31
  have O31 : Old Z n0 T31.heap := O20.keep K31c all0
  refine Go.tr st31 ?_
  show Go p e below _ (T31.setTop (mkF m 113 #[.val (.int i0), .val (.int i1), .val (.int i2), .val (.int i3), .val (.int n1), .val (.int n2), .val (.int n3), .val (.ref bs_1), .val (.ref bs_2), .val (.ref bs_3), .val (.ref b4), .val (.ref b8), .val (.ref b11), .unset] [(.ref b1_31)]))
  refine Go.st (fun t k => XS.astore X31.here hx rfl (hb hby at_113) rfl rfl (l' := #[.val (.int i0), .val (.int i1), .val (.int i2), .val (.int i3), .val (.int n1), .val (.int n2), .val (.int n3), .val (.ref bs_1), .val (.ref bs_2), .val (.ref bs_3), .val (.ref b4), .val (.ref b8), .val (.ref b11), .val (.ref b1_31)]) rfl k) ?_
  show Go p e below _ (T31.setTop (mkF m 115 #[.val (.int i0), .val (.int i1), .val (.int i2), .val (.int i3), .val (.int n1), .val (.int n2), .val (.int n3), .val (.ref bs_1), .val (.ref bs_2), .val (.ref bs_3), .val (.ref b4), .val (.ref b8), .val (.ref b11), .val (.ref b1_31)] []))
  refine Go.st (fun t k => XS.aload X31.here hx rfl (hb hby at_115) rfl rfl k) ?_
  show Go p e below _ (T31.setTop (mkF m 117 #[.val (.int i0), .val (.int i1), .val (.int i2), .val (.int i3), .val (.int n1), .val (.int n2), .val (.int n3), .val (.ref bs_1), .val (.ref bs_2), .val (.ref bs_3), .val (.ref b4), .val (.ref b8), .val (.ref b11), .val (.ref b1_31)] [(.ref b1_31)]))
  refine Go.st (fun t k => XS.ifnullNo X31.here hx rfl (hb hby at_117) rfl k) ?_
  show Go p e below _ (T31.setTop (mkF m 120 #[.val (.int i0), .val (.int i1), .val (.int i2), .val (.int i3), .val (.int n1), .val (.int n2), .val (.int n3), .val (.ref bs_1), .val (.ref bs_2), .val (.ref bs_3), .val (.ref b4), .val (.ref b8), .val (.ref b11), .val (.ref b1_31)] []))
  refine Go.st (fun t k => XS.aload X31.here hx rfl (hb hby at_120) rfl rfl k) ?_
  show Go p e below _ (T31.setTop (mkF m 122 #[.val (.int i0), .val (.int i1), .val (.int i2), .val (.int i3), .val (.int n1), .val (.int n2), .val (.int n3), .val (.ref bs_1), .val (.ref bs_2), .val (.ref bs_3), .val (.ref b4), .val (.ref b8), .val (.ref b11), .val (.ref b1_31)] [(.ref b1_31)]))
  refine Go.st (fun t k => XS.aload X31.here hx rfl (hb hby at_122) rfl rfl k) ?_
  show Go p e below _ (T31.setTop (mkF m 124 #[.val (.int i0), .val (.int i1), .val (.int i2), .val (.int i3), .val (.int n1), .val (.int n2), .val (.int n3), .val (.ref bs_1), .val (.ref bs_2), .val (.ref bs_3), .val (.ref b4), .val (.ref b8), .val (.ref b11), .val (.ref b1_31)] [(.ref b11), (.ref b1_31)]))
  refine Go.st (fun t k => Jvm.RoadKit.acmp (g := (mkF m 124 #[.val (.int i0), .val (.int i1), .val (.int i2), .val (.int i3), .val (.int n1), .val (.int n2), .val (.int n3), .val (.ref bs_1), .val (.ref bs_2), .val (.ref bs_3), .val (.ref b4), .val (.ref b8), .val (.ref b11), .val (.ref b1_31)] [(.ref b11), (.ref b1_31)])) X31 hx rfl rfl rfl (pc0 := 124) (pc' := 127) (same := false) rfl (hb hby at_124) rfl (decide_eq_false fun q => (Ne.symm (Nat.ne_of_lt (Nat.lt_of_lt_of_le (Nat.lt_of_lt_of_le A11.lt K20c.1) r31_0))) (Value.ref.inj q)) (by decide) (by decide) k) ?_
  show Go p e below _ (T31.setTop (mkF m 127 #[.val (.int i0), .val (.int i1), .val (.int i2), .val (.int i3), .val (.int n1), .val (.int n2), .val (.int n3), .val (.ref bs_1), .val (.ref bs_2), .val (.ref bs_3), .val (.ref b4), .val (.ref b8), .val (.ref b11), .val (.ref b1_31)] []))
  refine Go.st (fun t k => XS.aload X31.here hx rfl (hb hby at_127) rfl rfl k) ?_
  show Go p e below _ (T31.setTop (mkF m 129 #[.val (.int i0), .val (.int i1), .val (.int i2), .val (.int i3), .val (.int n1), .val (.int n2), .val (.int n3), .val (.ref bs_1), .val (.ref bs_2), .val (.ref bs_3), .val (.ref b4), .val (.ref b8), .val (.ref b11), .val (.ref b1_31)] [(.ref b1_31)]))
  obtain ⟨cq32, kq32, q32a, q32b, q32c⟩ := isOf hZ rfl r31_15
  obtain ⟨_, _, ⟨T32, L32, k32, n32⟩, -, X32, ⟨Lc32, hQ32, l32, y32, z32⟩, st32⟩ := X31.virtualBack hx (y := (⟨"com/example/lease/lease/core/InvalidFieldException", "field", "()Ljava/lang/String;"⟩ : MethodName)) (z := (⟨"com/example/lease/lease/core/InvalidFieldException", "field", "()Ljava/lang/String;"⟩ : MethodName)) hown (mvT hZ (w239 hw)) (mvT hZ (w240 hw)) (notFace_of_selects (args := #[]) (mvT hZ (w242 hw))) (mvT hZ (w242 hw)) (mvT hZ (w241 hw)) (by decide) (backOf (W := 0) (rm40_1 l Z a0 hw [] b1_31 b1_21_31 T31.heap n0 O31 r31_19) hZ (w243 hw) (w45 hw) (by decide) (by decide)) q32a q32c (g := (mkF m 129 #[.val (.int i0), .val (.int i1), .val (.int i2), .val (.int i3), .val (.int n1), .val (.int n2), .val (.int n3), .val (.ref bs_1), .val (.ref bs_2), .val (.ref bs_3), .val (.ref b4), .val (.ref b8), .val (.ref b11), .val (.ref b1_31)] [(.ref b1_31)])) rfl (by rw [hml]; rfl) (Steps.refl _) (argsL := []) (rest := []) (lenOf pd_21 rfl) rfl (by show 2 * 0 + _ ≤ _; exact Nat.le_of_eq rfl) (hb hby at_129) (fun vm₁ hw₁ => ⟨rfl, rfl, (by decide : 51 + 0 ≤ _), (by decide : 5827 + 0 ≤ _)⟩)
  dsimp only [Pt.U, Pt.locs, Pt.cells, Pt.slots] at X32 l32 y32 z32 st32 hQ32
  subst l32 y32 z32
  obtain ⟨rfl, M32, eh32⟩ := hQ32
  have N32 := Fr.app N31 M32
  refine Go.tr st32 ?_
  show Go p e below _ (T32.setTop (mkF m 132 #[.val (.int i0), .val (.int i1), .val (.int i2), .val (.int i3), .val (.int n1), .val (.int n2), .val (.int n3), .val (.ref bs_1), .val (.ref bs_2), .val (.ref bs_3), .val (.ref b4), .val (.ref b8), .val (.ref b11), .val (.ref b1_31)] [(.ref b1_21_31)]))
  refine Go.st (fun t k => XS.aload X32.here hx rfl (hb hby at_132) rfl rfl k) ?_
  show Go p e below _ (T32.setTop (mkF m 134 #[.val (.int i0), .val (.int i1), .val (.int i2), .val (.int i3), .val (.int n1), .val (.int n2), .val (.int n3), .val (.ref bs_1), .val (.ref bs_2), .val (.ref bs_3), .val (.ref b4), .val (.ref b8), .val (.ref b11), .val (.ref b1_31)] [(.ref b8), (.ref b1_21_31)]))
  have c33 := (((r9_3.ext E11).keep K20c (ninS (Nat.ne_of_lt (Nat.lt_of_lt_of_le (Nat.lt_of_lt_of_le A8.lt K9c.1) (Nat.le_of_eq z11.symm))) nin0)).keep K31c nin0)
  have c34 := (((r9_2.ext E11).keep K20c (ninS (Nat.ne_of_lt (Nat.lt_of_lt_of_le (Nat.lt_of_lt_of_le A8.lt K9c.1) (Nat.le_of_eq z11.symm))) nin0)).keep K31c nin0)
  have c35 := (((r9_4.ext E11).keep K20c (ninS (Nat.ne_of_lt (Nat.lt_of_lt_of_le r9_4.lt (Nat.le_of_eq z11.symm))) nin0)).keep K31c nin0)
  obtain ⟨cq36, kq36, q36a, q36b, q36c⟩ := isOf hZ eh32 r31_24
  obtain ⟨_, _, ⟨T36, L36, k36, n36⟩, -, X36, ⟨Lc36, hQ36, l36, y36, z36⟩, st36⟩ := X32.virtualBack hx (y := (⟨"java/lang/String", "equals", "(Ljava/lang/Object;)Z"⟩ : MethodName)) (z := (⟨"java/lang/String", "equals", "(Ljava/lang/Object;)Z"⟩ : MethodName)) hown (mvT hZ (w244 hw)) (mvT hZ (w245 hw)) (notFace_of_selects (args := #[]) (mvT hZ (w247 hw))) (mvT hZ (w247 hw)) (mvT hZ (w246 hw)) (by decide) (own_eqW (W := 0) (n0 := n0) hZ (own_se hw) (kI := 4) (w12 hw) r31_24 r31_26 r31_25 r31_28 (((r9_1.ext E11).keep K20c).keep K31c) c33 c34 c35 (own_law i0 i1 n1 n2 B1 B2) (own_q62 n1 n2 B1 B2) r9_5 (own_q7 n1 n2 B1 B2) (Nat.le_trans (own_cap 7 (7 : Int32) rfl (own_q7 n1 n2 B1 B2) (own_q6 n1 n2 B1 B2)) (by decide)) (own_latP _ _ _ (own_latS _ (own_latP _ _ _ (own_latR _)) (by decide))) (Y3.ext O31.2) Y17 (by decide) (by decide)) q36a q36c (g := (mkF m 134 #[.val (.int i0), .val (.int i1), .val (.int i2), .val (.int i3), .val (.int n1), .val (.int n2), .val (.int n3), .val (.ref bs_1), .val (.ref bs_2), .val (.ref bs_3), .val (.ref b4), .val (.ref b8), .val (.ref b11), .val (.ref b1_31)] [(.ref b8), (.ref b1_21_31)])) rfl (by rw [hml]; rfl) (Steps.refl _) (argsL := [(.ref b8)]) (rest := []) (lenOf pd_25 rfl) rfl (by show 2 * 0 + _ ≤ _; exact Nat.le_of_eq rfl) (hb hby at_134) (fun vm₁ hw₁ => ⟨rfl, eh32, (by decide : 51 + 0 ≤ _), (by decide : 5827 + 0 ≤ _)⟩)
  dsimp only [Pt.U, Pt.locs, Pt.cells, Pt.slots] at X36 l36 y36 z36 st36 hQ36
  subst l36 y36 z36
  obtain ⟨rfl, M36, eh36⟩ := hQ36
  have N36 := Fr.app N32 M36
  refine Go.tr st36 ?_
  show Go p e below _ (T36.setTop (mkF m 137 #[.val (.int i0), .val (.int i1), .val (.int i2), .val (.int i3), .val (.int n1), .val (.int n2), .val (.int n3), .val (.ref bs_1), .val (.ref bs_2), .val (.ref bs_3), .val (.ref b4), .val (.ref b8), .val (.ref b11), .val (.ref b1_31)] [(.int (1 : Int32))]))
  refine Go.st (fun t k => XS.ifNo X36.here hx rfl (hb hby at_137) rfl (Jvm.Free.XT.i0_eq_f (by decide : ¬ ((1 : Int32) = (0 : Int32)))) k) ?_
  show Go p e below _ (T36.setTop (mkF m 140 #[.val (.int i0), .val (.int i1), .val (.int i2), .val (.int i3), .val (.int n1), .val (.int n2), .val (.int n3), .val (.ref bs_1), .val (.ref bs_2), .val (.ref bs_3), .val (.ref b4), .val (.ref b8), .val (.ref b11), .val (.ref b1_31)] []))
  refine Go.st (fun t k => XS.aload X36.here hx rfl (hb hby at_140) rfl rfl k) ?_
  show Go p e below _ (T36.setTop (mkF m 142 #[.val (.int i0), .val (.int i1), .val (.int i2), .val (.int i3), .val (.int n1), .val (.int n2), .val (.int n3), .val (.ref bs_1), .val (.ref bs_2), .val (.ref bs_3), .val (.ref b4), .val (.ref b8), .val (.ref b11), .val (.ref b1_31)] [(.ref b1_31)]))
  obtain ⟨cq37, kq37, q37a, q37b, q37c⟩ := isOf hZ eh36 r31_15
  obtain ⟨_, _, ⟨T37, L37, k37, n37⟩, -, X37, ⟨Lc37, hQ37, l37, y37, z37⟩, st37⟩ := X36.virtualBack hx (y := (⟨"com/example/lease/lease/core/InvalidFieldException", "reason", "()Ljava/lang/String;"⟩ : MethodName)) (z := (⟨"com/example/lease/lease/core/InvalidFieldException", "reason", "()Ljava/lang/String;"⟩ : MethodName)) hown (mvT hZ (w254 hw)) (mvT hZ (w255 hw)) (notFace_of_selects (args := #[]) (mvT hZ (w257 hw))) (mvT hZ (w257 hw)) (mvT hZ (w256 hw)) (by decide) (backOf (W := 0) (rm43_1 l Z a0 hw [] b1_31 bs_3 T31.heap n0 O31 r31_20) hZ (w258 hw) (w45 hw) (by decide) (by decide)) q37a q37c (g := (mkF m 142 #[.val (.int i0), .val (.int i1), .val (.int i2), .val (.int i3), .val (.int n1), .val (.int n2), .val (.int n3), .val (.ref bs_1), .val (.ref bs_2), .val (.ref bs_3), .val (.ref b4), .val (.ref b8), .val (.ref b11), .val (.ref b1_31)] [(.ref b1_31)])) rfl (by rw [hml]; rfl) (Steps.refl _) (argsL := []) (rest := []) (lenOf pd_21 rfl) rfl (by show 2 * 0 + _ ≤ _; exact Nat.le_of_eq rfl) (hb hby at_142) (fun vm₁ hw₁ => ⟨rfl, eh36, (by decide : 51 + 0 ≤ _), (by decide : 5827 + 0 ≤ _)⟩)
  dsimp only [Pt.U, Pt.locs, Pt.cells, Pt.slots] at X37 l37 y37 z37 st37 hQ37
  subst l37 y37 z37
  obtain ⟨rfl, M37, eh37⟩ := hQ37
  have N37 := Fr.app N36 M37
  refine Go.tr st37 ?_
  show Go p e below _ (T37.setTop (mkF m 145 #[.val (.int i0), .val (.int i1), .val (.int i2), .val (.int i3), .val (.int n1), .val (.int n2), .val (.int n3), .val (.ref bs_1), .val (.ref bs_2), .val (.ref bs_3), .val (.ref b4), .val (.ref b8), .val (.ref b11), .val (.ref b1_31)] [(.ref bs_3)]))
  refine Go.st (fun t k => XS.aload X37.here hx rfl (hb hby at_145) rfl rfl k) ?_
  show Go p e below _ (T37.setTop (mkF m 147 #[.val (.int i0), .val (.int i1), .val (.int i2), .val (.int i3), .val (.int n1), .val (.int n2), .val (.int n3), .val (.ref bs_1), .val (.ref bs_2), .val (.ref bs_3), .val (.ref b4), .val (.ref b8), .val (.ref b11), .val (.ref b1_31)] [(.ref bs_3), (.ref bs_3)]))
  obtain ⟨cq38, kq38, q38a, q38b, q38c⟩ := isOf hZ eh37 ((c16.keep K20c).keep K31c)
  obtain ⟨_, _, ⟨T38, L38, k38, n38⟩, -, X38, ⟨Lc38, hQ38, l38, y38, z38⟩, st38⟩ := X37.virtualBack hx (y := (⟨"java/lang/String", "equals", "(Ljava/lang/Object;)Z"⟩ : MethodName)) (z := (⟨"java/lang/String", "equals", "(Ljava/lang/Object;)Z"⟩ : MethodName)) hown (mvT hZ (w244 hw)) (mvT hZ (w245 hw)) (notFace_of_selects (args := #[]) (mvT hZ (w247 hw))) (mvT hZ (w247 hw)) (mvT hZ (w246 hw)) (by decide) (backOf (W := 0) (rm41_1 l Z a0 hw [] bs_3 T31.heap n0 O31 ) hZ (w248 hw) (w13 hw) (by decide) (by decide)) q38a q38c (g := (mkF m 147 #[.val (.int i0), .val (.int i1), .val (.int i2), .val (.int i3), .val (.int n1), .val (.int n2), .val (.int n3), .val (.ref bs_1), .val (.ref bs_2), .val (.ref bs_3), .val (.ref b4), .val (.ref b8), .val (.ref b11), .val (.ref b1_31)] [(.ref bs_3), (.ref bs_3)])) rfl (by rw [hml]; rfl) (Steps.refl _) (argsL := [(.ref bs_3)]) (rest := []) (lenOf pd_25 rfl) rfl (by show 2 * 0 + _ ≤ _; exact Nat.le_of_eq rfl) (hb hby at_147) (fun vm₁ hw₁ => ⟨rfl, eh37, (by decide : 51 + 0 ≤ _), (by decide : 5827 + 0 ≤ _)⟩)
  dsimp only [Pt.U, Pt.locs, Pt.cells, Pt.slots] at X38 l38 y38 z38 st38 hQ38
  subst l38 y38 z38
  obtain ⟨rfl, M38, eh38⟩ := hQ38
  have N38 := Fr.app N37 M38
  refine Go.tr st38 ?_
  show Go p e below _ (T38.setTop (mkF m 150 #[.val (.int i0), .val (.int i1), .val (.int i2), .val (.int i3), .val (.int n1), .val (.int n2), .val (.int n3), .val (.ref bs_1), .val (.ref bs_2), .val (.ref bs_3), .val (.ref b4), .val (.ref b8), .val (.ref b11), .val (.ref b1_31)] [(.int (1 : Int32))]))
  refine Go.st (fun t k => XS.ifNo X38.here hx rfl (hb hby at_150) rfl (Jvm.Free.XT.i0_eq_f (by decide : ¬ ((1 : Int32) = (0 : Int32)))) k) ?_
  show Go p e below _ (T38.setTop (mkF m 153 #[.val (.int i0), .val (.int i1), .val (.int i2), .val (.int i3), .val (.int n1), .val (.int n2), .val (.int n3), .val (.ref bs_1), .val (.ref bs_2), .val (.ref bs_3), .val (.ref b4), .val (.ref b8), .val (.ref b11), .val (.ref b1_31)] []))
  refine Go.st (fun t k => XS.aload X38.here hx rfl (hb hby at_153) rfl rfl k) ?_
  show Go p e below _ (T38.setTop (mkF m 155 #[.val (.int i0), .val (.int i1), .val (.int i2), .val (.int i3), .val (.int n1), .val (.int n2), .val (.int n3), .val (.ref bs_1), .val (.ref bs_2), .val (.ref bs_3), .val (.ref b4), .val (.ref b8), .val (.ref b11), .val (.ref b1_31)] [(.ref b11)]))
  obtain ⟨cq39, kq39, q39a, q39b, q39c⟩ := isOf hZ eh38 ((A11.keep K20c).keep K31c)
  obtain ⟨_, _, ⟨T39, L39, k39, n39⟩, -, X39, ⟨Lc39, hQ39, l39, y39, z39⟩, st39⟩ := X38.virtualBack hx (y := (⟨"com/example/lease/lease/core/InvalidFieldException", "field", "()Ljava/lang/String;"⟩ : MethodName)) (z := (⟨"com/example/lease/lease/core/InvalidFieldException", "field", "()Ljava/lang/String;"⟩ : MethodName)) hown (mvT hZ (w239 hw)) (mvT hZ (w240 hw)) (notFace_of_selects (args := #[]) (mvT hZ (w242 hw))) (mvT hZ (w242 hw)) (mvT hZ (w241 hw)) (by decide) (backOf (W := 0) (rm40_1 l Z a0 hw [] b11 bs_2 T31.heap n0 O31 (r20_6.keep K31c nin0)) hZ (w243 hw) (w45 hw) (by decide) (by decide)) q39a q39c (g := (mkF m 155 #[.val (.int i0), .val (.int i1), .val (.int i2), .val (.int i3), .val (.int n1), .val (.int n2), .val (.int n3), .val (.ref bs_1), .val (.ref bs_2), .val (.ref bs_3), .val (.ref b4), .val (.ref b8), .val (.ref b11), .val (.ref b1_31)] [(.ref b11)])) rfl (by rw [hml]; rfl) (Steps.refl _) (argsL := []) (rest := []) (lenOf pd_21 rfl) rfl (by show 2 * 0 + _ ≤ _; exact Nat.le_of_eq rfl) (hb hby at_155) (fun vm₁ hw₁ => ⟨rfl, eh38, (by decide : 51 + 0 ≤ _), (by decide : 5827 + 0 ≤ _)⟩)
  dsimp only [Pt.U, Pt.locs, Pt.cells, Pt.slots] at X39 l39 y39 z39 st39 hQ39
  subst l39 y39 z39
  obtain ⟨rfl, M39, eh39⟩ := hQ39
  have N39 := Fr.app N38 M39
  refine Go.tr st39 ?_
  show Go p e below _ (T39.setTop (mkF m 158 #[.val (.int i0), .val (.int i1), .val (.int i2), .val (.int i3), .val (.int n1), .val (.int n2), .val (.int n3), .val (.ref bs_1), .val (.ref bs_2), .val (.ref bs_3), .val (.ref b4), .val (.ref b8), .val (.ref b11), .val (.ref b1_31)] [(.ref bs_2)]))
  refine Go.st (fun t k => XS.aload X39.here hx rfl (hb hby at_158) rfl rfl k) ?_
  show Go p e below _ (T39.setTop (mkF m 160 #[.val (.int i0), .val (.int i1), .val (.int i2), .val (.int i3), .val (.int n1), .val (.int n2), .val (.int n3), .val (.ref bs_1), .val (.ref bs_2), .val (.ref bs_3), .val (.ref b4), .val (.ref b8), .val (.ref b11), .val (.ref b1_31)] [(.ref bs_2), (.ref bs_2)]))
  obtain ⟨cq40, kq40, q40a, q40b, q40c⟩ := isOf hZ eh39 ((c12.keep K20c).keep K31c)
  obtain ⟨_, _, ⟨T40, L40, k40, n40⟩, -, X40, ⟨Lc40, hQ40, l40, y40, z40⟩, st40⟩ := X39.virtualBack hx (y := (⟨"java/lang/String", "equals", "(Ljava/lang/Object;)Z"⟩ : MethodName)) (z := (⟨"java/lang/String", "equals", "(Ljava/lang/Object;)Z"⟩ : MethodName)) hown (mvT hZ (w244 hw)) (mvT hZ (w245 hw)) (notFace_of_selects (args := #[]) (mvT hZ (w247 hw))) (mvT hZ (w247 hw)) (mvT hZ (w246 hw)) (by decide) (backOf (W := 0) (rm41_1 l Z a0 hw [] bs_2 T31.heap n0 O31 ) hZ (w248 hw) (w13 hw) (by decide) (by decide)) q40a q40c (g := (mkF m 160 #[.val (.int i0), .val (.int i1), .val (.int i2), .val (.int i3), .val (.int n1), .val (.int n2), .val (.int n3), .val (.ref bs_1), .val (.ref bs_2), .val (.ref bs_3), .val (.ref b4), .val (.ref b8), .val (.ref b11), .val (.ref b1_31)] [(.ref bs_2), (.ref bs_2)])) rfl (by rw [hml]; rfl) (Steps.refl _) (argsL := [(.ref bs_2)]) (rest := []) (lenOf pd_25 rfl) rfl (by show 2 * 0 + _ ≤ _; exact Nat.le_of_eq rfl) (hb hby at_160) (fun vm₁ hw₁ => ⟨rfl, eh39, (by decide : 51 + 0 ≤ _), (by decide : 5827 + 0 ≤ _)⟩)
  dsimp only [Pt.U, Pt.locs, Pt.cells, Pt.slots] at X40 l40 y40 z40 st40 hQ40
  subst l40 y40 z40
  obtain ⟨rfl, M40, eh40⟩ := hQ40
  have N40 := Fr.app N39 M40
  refine Go.tr st40 ?_
  show Go p e below _ (T40.setTop (mkF m 163 #[.val (.int i0), .val (.int i1), .val (.int i2), .val (.int i3), .val (.int n1), .val (.int n2), .val (.int n3), .val (.ref bs_1), .val (.ref bs_2), .val (.ref bs_3), .val (.ref b4), .val (.ref b8), .val (.ref b11), .val (.ref b1_31)] [(.int (1 : Int32))]))
  refine Go.st (fun t k => XS.ifNo X40.here hx rfl (hb hby at_163) rfl (Jvm.Free.XT.i0_eq_f (by decide : ¬ ((1 : Int32) = (0 : Int32)))) k) ?_
  show Go p e below _ (T40.setTop (mkF m 166 #[.val (.int i0), .val (.int i1), .val (.int i2), .val (.int i3), .val (.int n1), .val (.int n2), .val (.int n3), .val (.ref bs_1), .val (.ref bs_2), .val (.ref bs_3), .val (.ref b4), .val (.ref b8), .val (.ref b11), .val (.ref b1_31)] []))
  refine Go.st (fun t k => XS.aload X40.here hx rfl (hb hby at_166) rfl rfl k) ?_
  show Go p e below _ (T40.setTop (mkF m 168 #[.val (.int i0), .val (.int i1), .val (.int i2), .val (.int i3), .val (.int n1), .val (.int n2), .val (.int n3), .val (.ref bs_1), .val (.ref bs_2), .val (.ref bs_3), .val (.ref b4), .val (.ref b8), .val (.ref b11), .val (.ref b1_31)] [(.ref b11)]))
  obtain ⟨cq41, kq41, q41a, q41b, q41c⟩ := isOf hZ eh40 ((A11.keep K20c).keep K31c)
  obtain ⟨_, _, ⟨T41, L41, k41, n41⟩, -, X41, ⟨Lc41, hQ41, l41, y41, z41⟩, st41⟩ := X40.virtualBack hx (y := (⟨"com/example/lease/lease/core/InvalidFieldException", "reason", "()Ljava/lang/String;"⟩ : MethodName)) (z := (⟨"com/example/lease/lease/core/InvalidFieldException", "reason", "()Ljava/lang/String;"⟩ : MethodName)) hown (mvT hZ (w254 hw)) (mvT hZ (w255 hw)) (notFace_of_selects (args := #[]) (mvT hZ (w257 hw))) (mvT hZ (w257 hw)) (mvT hZ (w256 hw)) (by decide) (backOf (W := 0) (rm43_1 l Z a0 hw [] b11 bs_3 T31.heap n0 O31 (r20_7.keep K31c nin0)) hZ (w258 hw) (w45 hw) (by decide) (by decide)) q41a q41c (g := (mkF m 168 #[.val (.int i0), .val (.int i1), .val (.int i2), .val (.int i3), .val (.int n1), .val (.int n2), .val (.int n3), .val (.ref bs_1), .val (.ref bs_2), .val (.ref bs_3), .val (.ref b4), .val (.ref b8), .val (.ref b11), .val (.ref b1_31)] [(.ref b11)])) rfl (by rw [hml]; rfl) (Steps.refl _) (argsL := []) (rest := []) (lenOf pd_21 rfl) rfl (by show 2 * 0 + _ ≤ _; exact Nat.le_of_eq rfl) (hb hby at_168) (fun vm₁ hw₁ => ⟨rfl, eh40, (by decide : 51 + 0 ≤ _), (by decide : 5827 + 0 ≤ _)⟩)
  dsimp only [Pt.U, Pt.locs, Pt.cells, Pt.slots] at X41 l41 y41 z41 st41 hQ41
  subst l41 y41 z41
  obtain ⟨rfl, M41, eh41⟩ := hQ41
  have N41 := Fr.app N40 M41
  refine Go.tr st41 ?_
  show Go p e below _ (T41.setTop (mkF m 171 #[.val (.int i0), .val (.int i1), .val (.int i2), .val (.int i3), .val (.int n1), .val (.int n2), .val (.int n3), .val (.ref bs_1), .val (.ref bs_2), .val (.ref bs_3), .val (.ref b4), .val (.ref b8), .val (.ref b11), .val (.ref b1_31)] [(.ref bs_3)]))
  refine Go.st (fun t k => XS.aload X41.here hx rfl (hb hby at_171) rfl rfl k) ?_
  show Go p e below _ (T41.setTop (mkF m 173 #[.val (.int i0), .val (.int i1), .val (.int i2), .val (.int i3), .val (.int n1), .val (.int n2), .val (.int n3), .val (.ref bs_1), .val (.ref bs_2), .val (.ref bs_3), .val (.ref b4), .val (.ref b8), .val (.ref b11), .val (.ref b1_31)] [(.ref bs_3), (.ref bs_3)]))
  obtain ⟨cq42, kq42, q42a, q42b, q42c⟩ := isOf hZ eh41 ((c16.keep K20c).keep K31c)
  obtain ⟨_, _, ⟨T42, L42, k42, n42⟩, -, X42, ⟨Lc42, hQ42, l42, y42, z42⟩, st42⟩ := X41.virtualBack hx (y := (⟨"java/lang/String", "equals", "(Ljava/lang/Object;)Z"⟩ : MethodName)) (z := (⟨"java/lang/String", "equals", "(Ljava/lang/Object;)Z"⟩ : MethodName)) hown (mvT hZ (w244 hw)) (mvT hZ (w245 hw)) (notFace_of_selects (args := #[]) (mvT hZ (w247 hw))) (mvT hZ (w247 hw)) (mvT hZ (w246 hw)) (by decide) (backOf (W := 0) (rm41_1 l Z a0 hw [] bs_3 T31.heap n0 O31 ) hZ (w248 hw) (w13 hw) (by decide) (by decide)) q42a q42c (g := (mkF m 173 #[.val (.int i0), .val (.int i1), .val (.int i2), .val (.int i3), .val (.int n1), .val (.int n2), .val (.int n3), .val (.ref bs_1), .val (.ref bs_2), .val (.ref bs_3), .val (.ref b4), .val (.ref b8), .val (.ref b11), .val (.ref b1_31)] [(.ref bs_3), (.ref bs_3)])) rfl (by rw [hml]; rfl) (Steps.refl _) (argsL := [(.ref bs_3)]) (rest := []) (lenOf pd_25 rfl) rfl (by show 2 * 0 + _ ≤ _; exact Nat.le_of_eq rfl) (hb hby at_173) (fun vm₁ hw₁ => ⟨rfl, eh41, (by decide : 51 + 0 ≤ _), (by decide : 5827 + 0 ≤ _)⟩)
  dsimp only [Pt.U, Pt.locs, Pt.cells, Pt.slots] at X42 l42 y42 z42 st42 hQ42
  subst l42 y42 z42
  obtain ⟨rfl, M42, eh42⟩ := hQ42
  have N42 := Fr.app N41 M42
  refine Go.tr st42 ?_
  show Go p e below _ (T42.setTop (mkF m 176 #[.val (.int i0), .val (.int i1), .val (.int i2), .val (.int i3), .val (.int n1), .val (.int n2), .val (.int n3), .val (.ref bs_1), .val (.ref bs_2), .val (.ref bs_3), .val (.ref b4), .val (.ref b8), .val (.ref b11), .val (.ref b1_31)] [(.int (1 : Int32))]))
  refine Go.st (fun t k => XS.ifNo X42.here hx rfl (hb hby at_176) rfl (Jvm.Free.XT.i0_eq_f (by decide : ¬ ((1 : Int32) = (0 : Int32)))) k) ?_
  show Go p e below _ (T42.setTop (mkF m 179 #[.val (.int i0), .val (.int i1), .val (.int i2), .val (.int i3), .val (.int n1), .val (.int n2), .val (.int n3), .val (.ref bs_1), .val (.ref bs_2), .val (.ref bs_3), .val (.ref b4), .val (.ref b8), .val (.ref b11), .val (.ref b1_31)] []))
  refine Go.st (fun t k => XS.iconst X42.here hx rfl (hb hby at_179) k) ?_
  show Go p e below _ (T42.setTop (mkF m 180 #[.val (.int i0), .val (.int i1), .val (.int i2), .val (.int i3), .val (.int n1), .val (.int n2), .val (.int n3), .val (.ref bs_1), .val (.ref bs_2), .val (.ref bs_3), .val (.ref b4), .val (.ref b8), .val (.ref b11), .val (.ref b1_31)] [(.int (1 : Int32))]))
  refine Go.st (fun t k => XS.goto X42.here hx rfl (pc0 := 180) (pc' := 184) rfl (hb hby at_180) (by decide) (by decide) k) ?_
  show Go p e below _ (T42.setTop (mkF m 184 #[.val (.int i0), .val (.int i1), .val (.int i2), .val (.int i3), .val (.int n1), .val (.int n2), .val (.int n3), .val (.ref bs_1), .val (.ref bs_2), .val (.ref bs_3), .val (.ref b4), .val (.ref b8), .val (.ref b11), .val (.ref b1_31)] [(.int (1 : Int32))]))
  obtain ⟨fs, hr, hrun, hended, hEnd⟩ := X42.leaveW hS31 (by rw [eh42]; exact (Nat.le_refl _)) (v := some (.int (1 : Int32))) (fun h => by rw [Bd.returns] at h; cases h)
  refine ⟨_, _, ?_, hrun, hended, _, _, rfl, ?_, ⟨hEnd.1, hEnd.2.1, hEnd.2.2.1, hEnd.2.2.2.mono (by decide) (by decide)⟩⟩
  · exact retN X42 hx (t := .boolean) Bd.returns (by simp) (hb hby at_184) hr
  · exact ⟨rfl, N42⟩
set_option maxRecDepth 65536 in
set_option maxHeartbeats 40000000 in
theorem comes_1 {Post : Tables → Env → Array Value → State → Outcome → State → Prop} (hpost : ∀ tb e args s v u, (limb_1_1.after args s (.returned v) u = true ∧ limb_1_2.after args s (.returned v) u = true ∧ True) → ReturnedEndW s (.returned v) u (Jvm.fieldLocs frame_1_writes args s ++ Jvm.arrayLocs frame_1_arrays args s ++ Jvm.staticLocs frame_1_statics s) 80 16576 → Post tb e args s (.returned v) u) :
    ArmFor flags0 classFile x code maxLocals ret World_1 tables_1 room_1 Calls_1 rest_1 Pre_1 Post := by
  intro l hfl _ _ p e ha hc hk s m args below hf hA hF happ hP
  obtain ⟨hcalls, hrest, hpre⟩ := hP
  obtain ⟨-, -, -, hnamed, -, -, -, hat⟩ := (Spec.applies_iff hf).mp happ
  obtain ⟨hg, hn⟩ := and_e (Cond.before_iff.mp (show (Jvm.Cond.and given_1 narrow_1).before args s = true from hpre))
  obtain ⟨hcnt, hg⟩ := and_e hg
  obtain ⟨hv0, hg⟩ := and_e hg
  obtain ⟨hv1, hg⟩ := and_e hg
  obtain ⟨hv2, hg⟩ := and_e hg
  have hv3 := hg
  obtain ⟨w0, w1, w2, w3, rfl⟩ : ∃ w0 w1 w2 w3 : Value, args = #[w0, w1, w2, w3] := by
    have hs : args.size = 4 := by simpa [Cond.value, given_1] using hcnt
    obtain ⟨L⟩ := args
    match L, hs with
    | [w0, w1, w2, w3], _ => exact ⟨w0, w1, w2, w3, rfl⟩
  have hw := fun d (hd : d ∈ tables_1) => atoms_spec (ws := Jvm.Cond.code x code maxLocals ret :: tables_1) hat d (List.mem_cons_of_mem _ hd)
  have hfit : Fit s := fun {y c} hc i hi => by
    obtain ⟨ha, rfl⟩ := Array.getElem?_eq_some_iff.mp hc
    have q := List.all_eq_true.mp ((Array.all_eq_true_iff_forall_mem.mp hF) _ (Array.getElem_mem ha)) i (List.mem_range.mpr hi)
    simpa [Array.getElem?_eq_getElem hi] using q
  obtain ⟨hsets, hown0⟩ := atoms_of _ (rest_1_c_eq ▸ (show rest_1_c.before _ s = true from hrest))
  have hr0 := Cond.before_iff.mp hown0
  obtain ⟨i0, ei0⟩ := is_v hv0
  obtain rfl : w0 = (.int i0) := Option.some.inj ei0
  obtain ⟨i1, ei1⟩ := is_v hv1
  obtain rfl : w1 = (.int i1) := Option.some.inj ei1
  obtain ⟨i2, ei2⟩ := is_v hv2
  obtain rfl : w2 = (.int i2) := Option.some.inj ei2
  obtain ⟨i3, ei3⟩ := is_v hv3
  obtain rfl : w3 = (.int i3) := Option.some.inj ei3
  obtain ⟨w1i, ev2⟩ := is_v (Cond.before_iff.mp (hsets _ (List.mem_of_getElem? (i := 1) rfl)))
  have Y3 : Sta s s.heap "java/lang/String" "COMPACT_STRINGS" "Z" (.int w1i) := Sta.start ev2 (Or.inl (hsets _ (List.mem_of_getElem? (i := 0) rfl)))
  obtain ⟨w4a, ev5⟩ := arr_v (Cond.before_iff.mp (hsets _ (List.mem_of_getElem? (i := 17) rfl)))
  have Y6 : Sta s s.heap "java/lang/Throwable" "UNASSIGNED_STACK" "[Ljava/lang/StackTraceElement;" (.ref w4a) := Sta.start ev5 (Or.inl (hsets _ (List.mem_of_getElem? (i := 15) rfl)))
  obtain ⟨w8a, ev9⟩ := exa_v (Cond.before_iff.mp (hsets _ (List.mem_of_getElem? (i := 22) rfl)))
  have Y10 : Sta s s.heap "java/lang/Throwable" "SUPPRESSED_SENTINEL" "Ljava/util/List;" (.ref w8a) := Sta.start ev9 (Or.inl (hsets _ (List.mem_of_getElem? (i := 20) rfl)))
  have Y11 : Exa s s.heap w8a "java/util/Collections$EmptyList" := Exa.start ev9 (Cond.before_iff.mp (hsets _ (List.mem_of_getElem? (i := 22) rfl)))
  have Y17 : ¬ (w1i = (0 : Int32)) := own_neI ev2 (Cond.before_iff.mp (hsets _ (List.mem_of_getElem? (i := 2) rfl)))
  obtain ⟨n, o, h1, h2, h3, _, L, rfl, ⟨rfl, N⟩, hq⟩ := rm0 l s _ hw tables_1 i0 i1 i2 i3 w1i w4a w8a s.heap s.heap.size (Old.start s) Y3 Y6 Y10 Y11 Y17 hcalls.2.2.1 (hsets _ (List.mem_of_getElem? (i := 2) rfl)) (by rw [← show e.platform.stackTraces = l.stackTraces from by rw [ha.platform]]; exact Jvm.D.Launch.traces_on hfl ha) p e ha hc hk s m _ below hf ((Spec.applies_iff_loose hf).mp happ).1 ⟨rfl, State.Warmed39.refl s, rfl, rfl⟩ ⟨MethodsKnown_of_tablesKnown hcalls.2.1, FramesKnown_of_framesKnown hcalls.1 hf⟩
  refine ⟨n, _, h1, h2, h3, hpost _ _ _ _ _ _ ⟨Cond.after_iff.mpr rfl, Cond.after_iff.mpr (eq_i res_at (Term.int_eval (1)) rfl), trivial⟩ ⟨hq.1, hq.2.1, hq.2.2.1, (hq.2.2.2.sift fun y hy => Or.inr (N y hy)).mono (by decide) (by decide)⟩⟩
theorem main_1_1 : Claimed_1_1 := comes_1 fun _ _ _ _ _ _ h hF => ⟨h.1, hF⟩
theorem main_1_2 : Claimed_1_2 := comes_1 fun _ _ _ _ _ _ h hF => ⟨h.2.1, hF⟩
end Jvm.Pilot.@@N@@
namespace Jvm.Pilot.@@N@@
open Jvm Jvm.ClassFile Sem Op Lib Jvm.Free Jvm.Stand Jvm.Pilot.@@N@@.Jvm.D
/-! MADE BY PROGRAM (witnessworld.py) out of the Statement's table words and the real class files: 44 classes; the members and pool entries that the words name. The judged class is class 1, her method 1. -/
namespace start1
open Jvm.ClassFile
def u (s : String) : CpInfo := .utf8 (stringToUtf16 s)
/-- a pool by its gaps: so many unusable entries, then the entry; so many at the end -/
def gap : Nat → List CpInfo → List CpInfo
  | 0, r => r
  | n + 1, r => .unusable :: gap n r
def poolList (es : List (Nat × CpInfo)) (last : Nat) : List CpInfo := es.foldr (fun e r => gap e.1 (e.2 :: r)) (gap last [])
def pool (es : List (Nat × CpInfo)) (last : Nat) : Array CpInfo := ⟨poolList es last⟩
def fileOf (pool : Array CpInfo) (this : Nat) (attrs : Array Attribute := #[]) (ms : Array MethodInfo := #[]) (fl : Nat := 33) (sup : Nat := 0) (ifs : Array Nat := #[]) (fds : Array FieldInfo := #[]) : ClassFile where
  minorVersion := 0
  majorVersion := 65
  constantPool := pool
  accessFlags := fl
  thisClass := this
  superClass := sup
  interfaces := ifs
  fields := fds
  methods := ms
  attributes := attrs
def plain (name : String) (sup : Option ClassId) : Class where
  name := name
  kind := .ordinary
  loader := none
  accessFlags := 33
  super := sup
  interfaces := #[]
  cf := none
  fields := #[]
  methods := #[]
  instanceTypes := #[]
  staticTypes := #[]
  resolved := #[]
  callSites := []
  init := .initialized
  statics := none
  mirror := none

def pool0 : Array CpInfo := pool [(5, u "<init>"), (0, u "()V"), (1, .class_ 10), (1, u "java/lang/Object")] 113

def k0c0 : Code := { maxStack := 0, maxLocals := 1, code := object_method_1_code, exceptionTable := #[], attributes := #[] }
def k0m0 : Method := { name := "<init>", desc := "()V", sig := { parameters := [], returnType := none }, accessFlags := 1, code := some k0c0 }
/-- java/lang/Object -/
def k0 : Class := { plain "java/lang/Object" none with
  accessFlags := 33
  interfaces := #[]
  cf := some (fileOf pool0 8 #[] #[{ accessFlags := 1, nameIndex := 5, descriptorIndex := 6, attributes := #[] }] 33 0 #[] #[])
  fields := #[]
  methods := #[k0m0]
  instanceTypes := #[]
  staticTypes := #[]
  resolved := Array.replicate 124 none
  statics := none }

def pool1 : Array CpInfo := pool [(2, .class_ 4), (1, u "java/lang/Object"), (0, u "<init>"), (0, u "()V"), (0, .methodref 8 9), (0, .class_ 10), (0, .nameAndType 11 12), (0, u "com/example/lease/lease/core/InvalidFieldExceptionWithinPinLaw"), (0, u "str"), (0, u "(II)Ljava/lang/String;"), (0, .methodref 8 14), (0, .nameAndType 15 16), (0, u "put"), (0, u "([CIII)V"), (0, .class_ 18), (0, u "java/lang/String"), (0, .methodref 17 20), (0, .nameAndType 5 21), (0, u "([C)V"), (0, .class_ 23), (0, u "com/example/lease/lease/core/InvalidFieldException"), (0, .methodref 22 25), (0, .nameAndType 5 26), (0, u "(Ljava/lang/String;Ljava/lang/String;)V"), (0, .methodref 22 28), (0, .nameAndType 29 30), (0, u "within"), (0, u "(Ljava/lang/String;)Lcom/example/lease/lease/core/InvalidFieldException;"), (0, .methodref 22 32), (0, .nameAndType 33 34), (0, u "field"), (0, u "()Ljava/lang/String;"), (0, .methodref 17 36), (0, .nameAndType 37 38), (0, u "equals"), (0, u "(Ljava/lang/Object;)Z"), (0, .methodref 22 40), (0, .nameAndType 41 34), (0, u "reason"), (0, .methodref 8 43), (0, .nameAndType 44 45), (0, u "ch"), (0, u "(II)C"), (2, u "law"), (0, u "(IIII)Z")] 5

def k1m0 : Method := { name := "<init>", desc := "()V", sig := { parameters := [], returnType := none }, accessFlags := 1, code := none }
def k1c1 : Code := { maxStack := 4, maxLocals := 14, code := code, exceptionTable := #[], attributes := #[] }
def k1m1 : Method := { name := "law", desc := "(IIII)Z", sig := { parameters := [.int, .int, .int, .int], returnType := some .boolean }, accessFlags := 9, code := some k1c1 }
def k1c2 : Code := { maxStack := 3, maxLocals := 2, code := method_3_code, exceptionTable := #[], attributes := #[] }
def k1m2 : Method := { name := "ch", desc := "(II)C", sig := { parameters := [.int, .int], returnType := some .char }, accessFlags := 10, code := some k1c2 }
def k1c3 : Code := { maxStack := 4, maxLocals := 3, code := method_4_code, exceptionTable := #[], attributes := #[] }
def k1m3 : Method := { name := "str", desc := "(II)Ljava/lang/String;", sig := { parameters := [.int, .int], returnType := some (.object "java/lang/String") }, accessFlags := 10, code := some k1c3 }
def k1c4 : Code := { maxStack := 4, maxLocals := 4, code := method_5_code, exceptionTable := #[], attributes := #[] }
def k1m4 : Method := { name := "put", desc := "([CIII)V", sig := { parameters := [(.array .char), .int, .int, .int], returnType := none }, accessFlags := 10, code := some k1c4 }
/-- com/example/lease/lease/core/InvalidFieldExceptionWithinPinLaw -/
def k1 : Class := { plain "com/example/lease/lease/core/InvalidFieldExceptionWithinPinLaw" (some 0) with
  accessFlags := 49
  interfaces := #[]
  cf := some (fileOf pool1 8 #[] #[{ accessFlags := 1, nameIndex := 5, descriptorIndex := 6, attributes := #[] }, { accessFlags := 9, nameIndex := 48, descriptorIndex := 49, attributes := #[] }, { accessFlags := 10, nameIndex := 44, descriptorIndex := 45, attributes := #[] }, { accessFlags := 10, nameIndex := 11, descriptorIndex := 12, attributes := #[] }, { accessFlags := 10, nameIndex := 15, descriptorIndex := 16, attributes := #[] }] 49 2 #[] #[])
  fields := #[]
  methods := #[k1m0, k1m1, k1m2, k1m3, k1m4]
  instanceTypes := #[]
  staticTypes := #[]
  resolved := Array.replicate 55 none
  statics := none }

def pool2 : Array CpInfo := pool [(1, .class_ 2), (0, u "java/io/Serializable"), (0, .class_ 4), (0, u "java/lang/Object")] 2

/-- java/io/Serializable -/
def k2 : Class := { plain "java/io/Serializable" (some 0) with
  accessFlags := 1537
  interfaces := #[]
  cf := some (fileOf pool2 1 #[] #[] 1537 3 #[] #[])
  fields := #[]
  methods := #[]
  instanceTypes := #[]
  staticTypes := #[]
  resolved := Array.replicate 7 none
  statics := none }

def pool3 : Array CpInfo := pool [(1, .class_ 2), (0, u "java/lang/Comparable"), (0, .class_ 4), (0, u "java/lang/Object")] 7

/-- java/lang/Comparable -/
def k3 : Class := { plain "java/lang/Comparable" (some 0) with
  accessFlags := 1537
  interfaces := #[]
  cf := some (fileOf pool3 1 #[] #[] 1537 3 #[] #[])
  fields := #[]
  methods := #[]
  instanceTypes := #[]
  staticTypes := #[]
  resolved := Array.replicate 12 none
  statics := none }

def pool4 : Array CpInfo := pool [(2, .class_ 4), (1, u "java/lang/CharSequence"), (42, .class_ 48), (0, u "java/lang/CharSequence$1CodePointIterator"), (10, .class_ 60), (0, u "java/lang/CharSequence$1CharIterator"), (5, .class_ 67), (0, u "java/lang/Object")] 63

/-- java/lang/CharSequence -/
def k4 : Class := { plain "java/lang/CharSequence" (some 0) with
  accessFlags := 1537
  interfaces := #[]
  cf := some (fileOf pool4 2 #[.nestMembers #[47, 59]] #[] 1537 66 #[] #[])
  fields := #[]
  methods := #[]
  instanceTypes := #[]
  staticTypes := #[]
  resolved := Array.replicate 131 none
  statics := none }

def pool5 : Array CpInfo := pool [(1, .class_ 2), (0, u "java/lang/constant/Constable"), (0, .class_ 4), (0, u "java/lang/Object")] 6

/-- java/lang/constant/Constable -/
def k5 : Class := { plain "java/lang/constant/Constable" (some 0) with
  accessFlags := 1537
  interfaces := #[]
  cf := some (fileOf pool5 1 #[] #[] 1537 3 #[] #[])
  fields := #[]
  methods := #[]
  instanceTypes := #[]
  staticTypes := #[]
  resolved := Array.replicate 11 none
  statics := none }

def pool6 : Array CpInfo := pool [(1, .class_ 2), (0, u "java/lang/constant/ConstantDesc"), (0, .class_ 4), (0, u "java/lang/Object")] 32

/-- java/lang/constant/ConstantDesc -/
def k6 : Class := { plain "java/lang/constant/ConstantDesc" (some 0) with
  accessFlags := 1537
  interfaces := #[]
  cf := some (fileOf pool6 1 #[] #[] 1537 3 #[] #[])
  fields := #[]
  methods := #[]
  instanceTypes := #[]
  staticTypes := #[]
  resolved := Array.replicate 37 none
  statics := none }

def pool7 : Array CpInfo := pool [(1, .methodref 2 3), (0, .class_ 4), (0, .nameAndType 5 6), (0, u "java/lang/Object"), (0, u "<init>"), (0, u "()V"), (0, .string 8), (0, u ""), (0, .fieldref 10 11), (0, .class_ 12), (0, .nameAndType 13 14), (0, u "java/lang/String"), (0, u "value"), (0, u "[B"), (0, .fieldref 10 16), (0, .nameAndType 17 18), (0, u "coder"), (0, u "B"), (2, u "hash"), (0, u "I"), (2, u "hashIsZero"), (0, u "Z"), (0, .methodref 10 28), (0, .nameAndType 5 29), (0, u "([CIILjava/lang/Void;)V"), (8, .fieldref 10 39), (0, .nameAndType 40 26), (0, u "COMPACT_STRINGS"), (1, .class_ 44), (1, u "java/lang/StringUTF16"), (0, u "compress"), (1, .methodref 42 48), (0, .nameAndType 49 50), (0, u "coderFromArrayLen"), (0, u "([BI)B"), (3, .methodref 55 56), (0, .class_ 57), (0, .nameAndType 58 59), (0, u "java/util/Arrays"), (0, u "copyOfRange"), (0, u "([BII)[B"), (47, .class_ 109), (1, u "java/lang/StringLatin1"), (32, u "()Z"), (34, .methodref 42 178), (0, .nameAndType 45 179), (0, u "([CII)[B"), (13, .class_ 195), (1, u "java/lang/System"), (16, .methodref 193 213), (0, .nameAndType 214 215), (0, u "arraycopy"), (0, u "(Ljava/lang/Object;ILjava/lang/Object;II)V"), (118, u "()I"), (0, .methodref 10 336), (0, .nameAndType 17 337), (0, u "()B"), (2, u "()[B"), (148, .methodref 10 490), (0, .nameAndType 5 491), (0, u "(Ljava/lang/AbstractStringBuilder;Ljava/lang/Void;)V"), (1, .nameAndType 494 142), (0, u "isLatin1"), (11, .nameAndType 507 334), (0, u "length"), (24, u "getBytes"), (8, .methodref 107 542), (0, .nameAndType 543 544), (0, u "equals"), (0, u "([B[B)Z"), (4, .methodref 550 506), (0, .class_ 551), (0, u "java/lang/AbstractStringBuilder"), (0, .methodref 550 553), (0, .nameAndType 554 340), (0, u "getValue"), (18, u "(Ljava/lang/Object;)Z"), (1, .class_ 576), (0, u "java/lang/CharSequence"), (22, u "CASE_INSENSITIVE_ORDER"), (0, u "Ljava/util/Comparator;"), (220, u "([BIB)V"), (188, u "([C)V"), (36, .methodref 550 493), (53, u "serialPersistentFields"), (0, u "[Ljava/io/ObjectStreamField;"), (0, .class_ 1104), (0, u "java/lang/String$CaseInsensitiveComparator"), (1, .class_ 1107), (0, u "java/io/Serializable"), (0, .class_ 1109), (0, u "java/lang/Comparable"), (0, .class_ 1111), (0, u "java/lang/constant/Constable"), (0, .class_ 1113), (0, u "java/lang/constant/ConstantDesc"), (2, u "serialVersionUID"), (0, u "J"), (3, u "REPL"), (0, u "C"), (2, u "LATIN1"), (1, u "UTF16"), (105, u "(Ljava/lang/StringBuilder;)V")] 217

def k7m0 : Method := { name := "<init>", desc := "()V", sig := { parameters := [], returnType := none }, accessFlags := 1, code := none }
def k7c1 : Code := { maxStack := 5, maxLocals := 2, code := jdk_42_method_3_code, exceptionTable := #[], attributes := #[] }
def k7m1 : Method := { name := "<init>", desc := "([C)V", sig := { parameters := [(.array .char)], returnType := none }, accessFlags := 1, code := some k7c1 }
def k7c2 : Code := { maxStack := 3, maxLocals := 2, code := jdk_42_method_53_code, exceptionTable := #[], attributes := #[] }
def k7m2 : Method := { name := "<init>", desc := "(Ljava/lang/StringBuilder;)V", sig := { parameters := [(.object "java/lang/StringBuilder")], returnType := none }, accessFlags := 1, code := some k7c2 }
def k7c3 : Code := { maxStack := 2, maxLocals := 1, code := jdk_42_method_54_code, exceptionTable := #[], attributes := #[] }
def k7m3 : Method := { name := "length", desc := "()I", sig := { parameters := [], returnType := some .int }, accessFlags := 1, code := some k7c3 }
def k7c4 : Code := { maxStack := 2, maxLocals := 3, code := jdk_42_method_66_code, exceptionTable := #[], attributes := #[] }
def k7m4 : Method := { name := "equals", desc := "(Ljava/lang/Object;)Z", sig := { parameters := [(.object "java/lang/Object")], returnType := some .boolean }, accessFlags := 1, code := some k7c4 }
def k7c5 : Code := { maxStack := 5, maxLocals := 4, code := jdk_42_method_147_code, exceptionTable := #[], attributes := #[] }
def k7m5 : Method := { name := "getBytes", desc := "([BIB)V", sig := { parameters := [(.array .byte), .int, .byte], returnType := none }, accessFlags := 0, code := some k7c5 }
def k7c6 : Code := { maxStack := 4, maxLocals := 6, code := jdk_42_method_149_code, exceptionTable := #[], attributes := #[] }
def k7m6 : Method := { name := "<init>", desc := "([CIILjava/lang/Void;)V", sig := { parameters := [(.array .char), .int, .int, (.object "java/lang/Void")], returnType := none }, accessFlags := 2, code := some k7c6 }
def k7c7 : Code := { maxStack := 5, maxLocals := 5, code := jdk_42_method_150_code, exceptionTable := #[], attributes := #[] }
def k7m7 : Method := { name := "<init>", desc := "(Ljava/lang/AbstractStringBuilder;Ljava/lang/Void;)V", sig := { parameters := [(.object "java/lang/AbstractStringBuilder"), (.object "java/lang/Void")], returnType := none }, accessFlags := 0, code := some k7c7 }
def k7c8 : Code := { maxStack := 1, maxLocals := 1, code := jdk_42_method_152_code, exceptionTable := #[], attributes := #[] }
def k7m8 : Method := { name := "coder", desc := "()B", sig := { parameters := [], returnType := some .byte }, accessFlags := 0, code := some k7c8 }
/-- java/lang/String -/
def k7 : Class := { plain "java/lang/String" (some 0) with
  accessFlags := 49
  interfaces := #[2, 3, 4, 5, 6]
  cf := some (fileOf pool7 10 #[.nestMembers #[1103]] #[{ accessFlags := 1, nameIndex := 5, descriptorIndex := 6, attributes := #[] }, { accessFlags := 1, nameIndex := 5, descriptorIndex := 1010, attributes := #[] }, { accessFlags := 1, nameIndex := 5, descriptorIndex := 1233, attributes := #[] }, { accessFlags := 1, nameIndex := 507, descriptorIndex := 334, attributes := #[] }, { accessFlags := 1, nameIndex := 543, descriptorIndex := 573, attributes := #[] }, { accessFlags := 0, nameIndex := 532, descriptorIndex := 821, attributes := #[] }, { accessFlags := 2, nameIndex := 5, descriptorIndex := 29, attributes := #[] }, { accessFlags := 0, nameIndex := 5, descriptorIndex := 491, attributes := #[] }, { accessFlags := 0, nameIndex := 17, descriptorIndex := 337, attributes := #[] }] 49 2 #[1106, 1108, 575, 1110, 1112] #[{ accessFlags := 18, nameIndex := 13, descriptorIndex := 14, attributes := #[] }, { accessFlags := 18, nameIndex := 17, descriptorIndex := 18, attributes := #[] }, { accessFlags := 2, nameIndex := 21, descriptorIndex := 22, attributes := #[] }, { accessFlags := 2, nameIndex := 25, descriptorIndex := 26, attributes := #[] }, { accessFlags := 26, nameIndex := 1116, descriptorIndex := 1117, attributes := #[] }, { accessFlags := 24, nameIndex := 40, descriptorIndex := 26, attributes := #[] }, { accessFlags := 26, nameIndex := 1101, descriptorIndex := 1102, attributes := #[] }, { accessFlags := 26, nameIndex := 1121, descriptorIndex := 1122, attributes := #[] }, { accessFlags := 25, nameIndex := 599, descriptorIndex := 600, attributes := #[] }, { accessFlags := 24, nameIndex := 1125, descriptorIndex := 18, attributes := #[] }, { accessFlags := 24, nameIndex := 1127, descriptorIndex := 18, attributes := #[] }])
  fields := #[{ name := "value", type := (.array .byte), accessFlags := 18, slot := 0, constantValue := 0 }, { name := "coder", type := .byte, accessFlags := 18, slot := 1, constantValue := 0 }, { name := "hash", type := .int, accessFlags := 2, slot := 2, constantValue := 0 }, { name := "hashIsZero", type := .boolean, accessFlags := 2, slot := 3, constantValue := 0 }, { name := "serialVersionUID", type := .long, accessFlags := 26, slot := 0, constantValue := 0 }, { name := "COMPACT_STRINGS", type := .boolean, accessFlags := 24, slot := 1, constantValue := 0 }, { name := "serialPersistentFields", type := (.array (.object "java/io/ObjectStreamField")), accessFlags := 26, slot := 2, constantValue := 0 }, { name := "REPL", type := .char, accessFlags := 26, slot := 3, constantValue := 0 }, { name := "CASE_INSENSITIVE_ORDER", type := (.object "java/util/Comparator"), accessFlags := 25, slot := 4, constantValue := 0 }, { name := "LATIN1", type := .byte, accessFlags := 24, slot := 5, constantValue := 0 }, { name := "UTF16", type := .byte, accessFlags := 24, slot := 6, constantValue := 0 }]
  methods := #[k7m0, k7m1, k7m2, k7m3, k7m4, k7m5, k7m6, k7m7, k7m8]
  instanceTypes := #[(.array .byte), .byte, .int, .boolean]
  staticTypes := #[.long, .boolean, (.array (.object "java/io/ObjectStreamField")), .char, (.object "java/util/Comparator"), .byte, .byte]
  resolved := Array.replicate 1451 none
  statics := some 0 }

def pool8 : Array CpInfo := pool [(6, .class_ 8), (1, u "java/lang/Object"), (0, u "<init>"), (0, u "()V"), (1, .class_ 14), (1, u "java/lang/StringUTF16"), (31, u "$assertionsDisabled"), (0, u "Z"), (13, u "HI_BYTE_SHIFT"), (0, u "I"), (2, u "LO_BYTE_SHIFT"), (49, .methodref 12 116), (0, .nameAndType 117 118), (0, u "compress"), (0, u "([CI[BII)I"), (3, u "([CII)[B"), (138, u "coderFromArrayLen"), (0, u "([BI)B"), (106, .class_ 371), (1, u "java/lang/StringUTF16$LinesSpliterator"), (58, u "MAX_LENGTH"), (196, .class_ 628), (0, u "java/lang/StringUTF16$CodePointsSpliterator"), (0, .class_ 630), (0, u "java/lang/StringUTF16$CharsSpliterator")] 4

def k8m0 : Method := { name := "<init>", desc := "()V", sig := { parameters := [], returnType := none }, accessFlags := 0, code := none }
def k8c1 : Code := { maxStack := 2, maxLocals := 2, code := jdk_52_method_15_code, exceptionTable := #[], attributes := #[] }
def k8m1 : Method := { name := "coderFromArrayLen", desc := "([BI)B", sig := { parameters := [(.array .byte), .int], returnType := some .byte }, accessFlags := 8, code := some k8c1 }
def k8c2 : Code := { maxStack := 5, maxLocals := 6, code := jdk_52_method_16_code, exceptionTable := #[], attributes := #[] }
def k8m2 : Method := { name := "compress", desc := "([CII)[B", sig := { parameters := [(.array .char), .int, .int], returnType := some (.array .byte) }, accessFlags := 9, code := some k8c2 }
def k8c3 : Code := { maxStack := 3, maxLocals := 7, code := jdk_52_method_21_code, exceptionTable := #[], attributes := #[] }
def k8m3 : Method := { name := "compress", desc := "([CI[BII)I", sig := { parameters := [(.array .char), .int, (.array .byte), .int, .int], returnType := some .int }, accessFlags := 9, code := some k8c3 }
/-- java/lang/StringUTF16 -/
def k8 : Class := { plain "java/lang/StringUTF16" (some 0) with
  accessFlags := 48
  interfaces := #[]
  cf := some (fileOf pool8 12 #[.nestMembers #[627, 629, 369]] #[{ accessFlags := 0, nameIndex := 9, descriptorIndex := 10, attributes := #[] }, { accessFlags := 8, nameIndex := 261, descriptorIndex := 262, attributes := #[] }, { accessFlags := 9, nameIndex := 117, descriptorIndex := 122, attributes := #[] }, { accessFlags := 9, nameIndex := 117, descriptorIndex := 118, attributes := #[] }] 48 6 #[] #[{ accessFlags := 26, nameIndex := 61, descriptorIndex := 62, attributes := #[] }, { accessFlags := 26, nameIndex := 65, descriptorIndex := 62, attributes := #[] }, { accessFlags := 24, nameIndex := 430, descriptorIndex := 62, attributes := #[] }, { accessFlags := 4120, nameIndex := 46, descriptorIndex := 47, attributes := #[] }])
  fields := #[{ name := "HI_BYTE_SHIFT", type := .int, accessFlags := 26, slot := 0, constantValue := 0 }, { name := "LO_BYTE_SHIFT", type := .int, accessFlags := 26, slot := 1, constantValue := 0 }, { name := "MAX_LENGTH", type := .int, accessFlags := 24, slot := 2, constantValue := 0 }, { name := "$assertionsDisabled", type := .boolean, accessFlags := 4120, slot := 3, constantValue := 0 }]
  methods := #[k8m0, k8m1, k8m2, k8m3]
  instanceTypes := #[]
  staticTypes := #[.int, .int, .int, .boolean]
  resolved := Array.replicate 635 none
  statics := none }

def pool9 : Array CpInfo := pool [(1, .methodref 2 3), (0, .class_ 4), (0, .nameAndType 5 6), (0, u "java/lang/Object"), (0, u "<init>"), (0, u "()V"), (0, .fieldref 8 9), (0, .class_ 10), (0, .nameAndType 11 12), (0, u "java/lang/Throwable"), (0, u "cause"), (0, u "Ljava/lang/Throwable;"), (0, .fieldref 8 14), (0, .nameAndType 15 16), (0, u "UNASSIGNED_STACK"), (0, u "[Ljava/lang/StackTraceElement;"), (0, .fieldref 8 18), (0, .nameAndType 19 16), (0, u "stackTrace"), (0, .fieldref 8 21), (0, .nameAndType 22 23), (0, u "SUPPRESSED_SENTINEL"), (0, u "Ljava/util/List;"), (0, .fieldref 8 25), (0, .nameAndType 26 23), (0, u "suppressedExceptions"), (0, .methodref 8 28), (0, .nameAndType 29 30), (0, u "fillInStackTrace"), (0, u "()Ljava/lang/Throwable;"), (0, .fieldref 8 32), (0, .nameAndType 33 34), (0, u "detailMessage"), (0, u "Ljava/lang/String;"), (58, .class_ 94), (0, u "java/lang/Throwable$WrappedPrintStream"), (6, .class_ 103), (1, u "java/lang/Throwable$PrintStreamOrWriter"), (61, u "$assertionsDisabled"), (0, u "Z"), (26, .class_ 194), (0, u "java/lang/Throwable$WrappedPrintWriter"), (3, .fieldref 8 199), (0, .nameAndType 200 201), (0, u "backtrace"), (0, u "Ljava/lang/Object;"), (0, .methodref 8 203), (0, .nameAndType 29 204), (0, u "(I)Ljava/lang/Throwable;"), (6, u "depth"), (0, u "I"), (10, u "(Ljava/lang/String;)V"), (45, .class_ 271), (1, u "java/lang/Throwable$SentinelHolder"), (32, u "EMPTY_THROWABLE_ARRAY"), (0, u "[Ljava/lang/Throwable;"), (12, .class_ 319), (0, u "java/io/Serializable"), (0, u "serialVersionUID"), (0, u "J"), (5, u "NULL_CAUSE_MESSAGE"), (0, u "SELF_SUPPRESSION_MESSAGE"), (0, u "CAUSE_CAPTION"), (0, u "SUPPRESSED_CAPTION")] 73

def k9c0 : Code := { maxStack := 2, maxLocals := 1, code := jdk_78_method_1_code, exceptionTable := #[], attributes := #[] }
def k9m0 : Method := { name := "<init>", desc := "()V", sig := { parameters := [], returnType := none }, accessFlags := 1, code := some k9c0 }
def k9c1 : Code := { maxStack := 2, maxLocals := 2, code := jdk_78_method_2_code, exceptionTable := #[], attributes := #[] }
def k9m1 : Method := { name := "<init>", desc := "(Ljava/lang/String;)V", sig := { parameters := [(.object "java/lang/String")], returnType := none }, accessFlags := 1, code := some k9c1 }
def k9c2 : Code := { maxStack := 2, maxLocals := 1, code := jdk_78_method_18_code, exceptionTable := #[], attributes := #[] }
def k9m2 : Method := { name := "fillInStackTrace", desc := "()Ljava/lang/Throwable;", sig := { parameters := [], returnType := some (.object "java/lang/Throwable") }, accessFlags := 33, code := some k9c2 }
def k9m3 : Method := { name := "fillInStackTrace", desc := "(I)Ljava/lang/Throwable;", sig := { parameters := [.int], returnType := some (.object "java/lang/Throwable") }, accessFlags := 258, code := none }
/-- java/lang/Throwable -/
def k9 : Class := { plain "java/lang/Throwable" (some 0) with
  accessFlags := 33
  interfaces := #[2]
  cf := some (fileOf pool9 8 #[.nestMembers #[193, 93, 101, 269]] #[{ accessFlags := 1, nameIndex := 5, descriptorIndex := 6, attributes := #[] }, { accessFlags := 1, nameIndex := 5, descriptorIndex := 223, attributes := #[] }, { accessFlags := 33, nameIndex := 29, descriptorIndex := 30, attributes := #[] }, { accessFlags := 258, nameIndex := 29, descriptorIndex := 204, attributes := #[] }] 33 2 #[318] #[{ accessFlags := 26, nameIndex := 320, descriptorIndex := 321, attributes := #[] }, { accessFlags := 130, nameIndex := 200, descriptorIndex := 201, attributes := #[] }, { accessFlags := 2, nameIndex := 33, descriptorIndex := 34, attributes := #[] }, { accessFlags := 26, nameIndex := 15, descriptorIndex := 16, attributes := #[] }, { accessFlags := 2, nameIndex := 11, descriptorIndex := 12, attributes := #[] }, { accessFlags := 2, nameIndex := 19, descriptorIndex := 16, attributes := #[] }, { accessFlags := 130, nameIndex := 211, descriptorIndex := 212, attributes := #[] }, { accessFlags := 26, nameIndex := 22, descriptorIndex := 23, attributes := #[] }, { accessFlags := 2, nameIndex := 26, descriptorIndex := 23, attributes := #[] }, { accessFlags := 26, nameIndex := 327, descriptorIndex := 34, attributes := #[] }, { accessFlags := 26, nameIndex := 328, descriptorIndex := 34, attributes := #[] }, { accessFlags := 26, nameIndex := 329, descriptorIndex := 34, attributes := #[] }, { accessFlags := 26, nameIndex := 330, descriptorIndex := 34, attributes := #[] }, { accessFlags := 26, nameIndex := 304, descriptorIndex := 305, attributes := #[] }, { accessFlags := 4120, nameIndex := 165, descriptorIndex := 166, attributes := #[] }])
  fields := #[{ name := "serialVersionUID", type := .long, accessFlags := 26, slot := 0, constantValue := 0 }, { name := "backtrace", type := (.object "java/lang/Object"), accessFlags := 130, slot := 0, constantValue := 0 }, { name := "detailMessage", type := (.object "java/lang/String"), accessFlags := 2, slot := 1, constantValue := 0 }, { name := "UNASSIGNED_STACK", type := (.array (.object "java/lang/StackTraceElement")), accessFlags := 26, slot := 1, constantValue := 0 }, { name := "cause", type := (.object "java/lang/Throwable"), accessFlags := 2, slot := 2, constantValue := 0 }, { name := "stackTrace", type := (.array (.object "java/lang/StackTraceElement")), accessFlags := 2, slot := 3, constantValue := 0 }, { name := "depth", type := .int, accessFlags := 130, slot := 4, constantValue := 0 }, { name := "SUPPRESSED_SENTINEL", type := (.object "java/util/List"), accessFlags := 26, slot := 2, constantValue := 0 }, { name := "suppressedExceptions", type := (.object "java/util/List"), accessFlags := 2, slot := 5, constantValue := 0 }, { name := "NULL_CAUSE_MESSAGE", type := (.object "java/lang/String"), accessFlags := 26, slot := 3, constantValue := 0 }, { name := "SELF_SUPPRESSION_MESSAGE", type := (.object "java/lang/String"), accessFlags := 26, slot := 4, constantValue := 0 }, { name := "CAUSE_CAPTION", type := (.object "java/lang/String"), accessFlags := 26, slot := 5, constantValue := 0 }, { name := "SUPPRESSED_CAPTION", type := (.object "java/lang/String"), accessFlags := 26, slot := 6, constantValue := 0 }, { name := "EMPTY_THROWABLE_ARRAY", type := (.array (.object "java/lang/Throwable")), accessFlags := 26, slot := 7, constantValue := 0 }, { name := "$assertionsDisabled", type := .boolean, accessFlags := 4120, slot := 8, constantValue := 0 }]
  methods := #[k9m0, k9m1, k9m2, k9m3]
  instanceTypes := #[(.object "java/lang/Object"), (.object "java/lang/String"), (.object "java/lang/Throwable"), (.array (.object "java/lang/StackTraceElement")), .int, (.object "java/util/List")]
  staticTypes := #[.long, (.array (.object "java/lang/StackTraceElement")), (.object "java/util/List"), (.object "java/lang/String"), (.object "java/lang/String"), (.object "java/lang/String"), (.object "java/lang/String"), (.array (.object "java/lang/Throwable")), .boolean]
  resolved := Array.replicate 404 none
  statics := some 1 }

def pool10 : Array CpInfo := pool [(2, .class_ 4), (1, u "java/lang/Throwable"), (0, u "<init>"), (0, u "()V"), (0, .methodref 2 8), (0, .nameAndType 5 9), (0, u "(Ljava/lang/String;)V"), (9, .class_ 20), (0, u "java/lang/Exception"), (0, u "serialVersionUID"), (0, u "J")] 17

def k10m0 : Method := { name := "<init>", desc := "()V", sig := { parameters := [], returnType := none }, accessFlags := 1, code := none }
def k10c1 : Code := { maxStack := 2, maxLocals := 2, code := jdk_59_method_2_code, exceptionTable := #[], attributes := #[] }
def k10m1 : Method := { name := "<init>", desc := "(Ljava/lang/String;)V", sig := { parameters := [(.object "java/lang/String")], returnType := none }, accessFlags := 1, code := some k10c1 }
/-- java/lang/Exception -/
def k10 : Class := { plain "java/lang/Exception" (some 9) with
  accessFlags := 33
  interfaces := #[]
  cf := some (fileOf pool10 19 #[] #[{ accessFlags := 1, nameIndex := 5, descriptorIndex := 6, attributes := #[] }, { accessFlags := 1, nameIndex := 5, descriptorIndex := 9, attributes := #[] }] 33 2 #[] #[{ accessFlags := 24, nameIndex := 21, descriptorIndex := 22, attributes := #[] }])
  fields := #[{ name := "serialVersionUID", type := .long, accessFlags := 24, slot := 0, constantValue := 0 }]
  methods := #[k10m0, k10m1]
  instanceTypes := #[(.object "java/lang/Object"), (.object "java/lang/String"), (.object "java/lang/Throwable"), (.array (.object "java/lang/StackTraceElement")), .int, (.object "java/util/List")]
  staticTypes := #[.long]
  resolved := Array.replicate 40 none
  statics := none }

def pool11 : Array CpInfo := pool [(2, .class_ 4), (1, u "java/lang/Exception"), (0, u "<init>"), (0, u "()V"), (0, .methodref 2 8), (0, .nameAndType 5 9), (0, u "(Ljava/lang/String;)V"), (9, .class_ 20), (0, u "java/lang/RuntimeException"), (0, u "serialVersionUID"), (0, u "J")] 17

def k11m0 : Method := { name := "<init>", desc := "()V", sig := { parameters := [], returnType := none }, accessFlags := 1, code := none }
def k11c1 : Code := { maxStack := 2, maxLocals := 2, code := jdk_58_method_2_code, exceptionTable := #[], attributes := #[] }
def k11m1 : Method := { name := "<init>", desc := "(Ljava/lang/String;)V", sig := { parameters := [(.object "java/lang/String")], returnType := none }, accessFlags := 1, code := some k11c1 }
/-- java/lang/RuntimeException -/
def k11 : Class := { plain "java/lang/RuntimeException" (some 10) with
  accessFlags := 33
  interfaces := #[]
  cf := some (fileOf pool11 19 #[] #[{ accessFlags := 1, nameIndex := 5, descriptorIndex := 6, attributes := #[] }, { accessFlags := 1, nameIndex := 5, descriptorIndex := 9, attributes := #[] }] 33 2 #[] #[{ accessFlags := 24, nameIndex := 21, descriptorIndex := 22, attributes := #[] }])
  fields := #[{ name := "serialVersionUID", type := .long, accessFlags := 24, slot := 0, constantValue := 0 }]
  methods := #[k11m0, k11m1]
  instanceTypes := #[(.object "java/lang/Object"), (.object "java/lang/String"), (.object "java/lang/Throwable"), (.array (.object "java/lang/StackTraceElement")), .int, (.object "java/util/List")]
  staticTypes := #[.long]
  resolved := Array.replicate 40 none
  statics := none }

def pool12 : Array CpInfo := pool [(2, .class_ 4), (1, u "java/lang/RuntimeException"), (0, u "<init>"), (0, u "()V"), (0, .methodref 2 8), (0, .nameAndType 5 9), (0, u "(Ljava/lang/String;)V"), (6, .class_ 17), (0, u "java/lang/IllegalArgumentException"), (0, u "serialVersionUID"), (0, u "J")] 15

def k12m0 : Method := { name := "<init>", desc := "()V", sig := { parameters := [], returnType := none }, accessFlags := 1, code := none }
def k12c1 : Code := { maxStack := 2, maxLocals := 2, code := jdk_57_method_2_code, exceptionTable := #[], attributes := #[] }
def k12m1 : Method := { name := "<init>", desc := "(Ljava/lang/String;)V", sig := { parameters := [(.object "java/lang/String")], returnType := none }, accessFlags := 1, code := some k12c1 }
/-- java/lang/IllegalArgumentException -/
def k12 : Class := { plain "java/lang/IllegalArgumentException" (some 11) with
  accessFlags := 33
  interfaces := #[]
  cf := some (fileOf pool12 16 #[] #[{ accessFlags := 1, nameIndex := 5, descriptorIndex := 6, attributes := #[] }, { accessFlags := 1, nameIndex := 5, descriptorIndex := 9, attributes := #[] }] 33 2 #[] #[{ accessFlags := 26, nameIndex := 18, descriptorIndex := 19, attributes := #[] }])
  fields := #[{ name := "serialVersionUID", type := .long, accessFlags := 26, slot := 0, constantValue := 0 }]
  methods := #[k12m0, k12m1]
  instanceTypes := #[(.object "java/lang/Object"), (.object "java/lang/String"), (.object "java/lang/Throwable"), (.array (.object "java/lang/StackTraceElement")), .int, (.object "java/util/List")]
  staticTypes := #[.long]
  resolved := Array.replicate 35 none
  statics := none }

def pool13 : Array CpInfo := pool [(1, .class_ 2), (0, u "java/lang/StringBuilder"), (0, .methodref 1 4), (0, .nameAndType 5 6), (0, u "<init>"), (0, u "()V"), (0, .methodref 1 8), (0, .nameAndType 9 10), (0, u "append"), (0, u "(Ljava/lang/String;)Ljava/lang/StringBuilder;"), (0, .string 12), (0, u ": "), (0, .methodref 1 14), (0, .nameAndType 15 16), (0, u "toString"), (0, u "()Ljava/lang/String;"), (0, .methodref 18 19), (0, .class_ 20), (0, .nameAndType 5 21), (0, u "java/lang/IllegalArgumentException"), (0, u "(Ljava/lang/String;)V"), (0, .string 23), (0, u "field"), (0, .methodref 25 26), (0, .class_ 27), (0, .nameAndType 28 29), (0, u "java/util/Objects"), (0, u "requireNonNull"), (0, u "(Ljava/lang/Object;Ljava/lang/String;)Ljava/lang/Object;"), (0, .class_ 31), (0, u "java/lang/String"), (0, .fieldref 33 34), (0, .class_ 35), (0, .nameAndType 23 36), (0, u "com/example/lease/lease/core/InvalidFieldException"), (0, u "Ljava/lang/String;"), (0, .string 38), (0, u "reason"), (0, .fieldref 33 40), (0, .nameAndType 38 36), (0, .string 42), (0, u "."), (0, .methodref 33 44), (0, .nameAndType 5 45), (0, u "(Ljava/lang/String;Ljava/lang/String;)V"), (0, u "serialVersionUID"), (0, u "J"), (5, u "within"), (0, u "(Ljava/lang/String;)Lcom/example/lease/lease/core/InvalidFieldException;")] 2

def k13c0 : Code := { maxStack := 3, maxLocals := 3, code := prog_10_method_1_code, exceptionTable := #[], attributes := #[] }
def k13m0 : Method := { name := "<init>", desc := "(Ljava/lang/String;Ljava/lang/String;)V", sig := { parameters := [(.object "java/lang/String"), (.object "java/lang/String")], returnType := none }, accessFlags := 1, code := some k13c0 }
def k13c1 : Code := { maxStack := 1, maxLocals := 1, code := prog_10_method_2_code, exceptionTable := #[], attributes := #[] }
def k13m1 : Method := { name := "field", desc := "()Ljava/lang/String;", sig := { parameters := [], returnType := some (.object "java/lang/String") }, accessFlags := 1, code := some k13c1 }
def k13c2 : Code := { maxStack := 1, maxLocals := 1, code := prog_10_method_3_code, exceptionTable := #[], attributes := #[] }
def k13m2 : Method := { name := "reason", desc := "()Ljava/lang/String;", sig := { parameters := [], returnType := some (.object "java/lang/String") }, accessFlags := 1, code := some k13c2 }
def k13c3 : Code := { maxStack := 4, maxLocals := 2, code := prog_10_method_4_code, exceptionTable := #[], attributes := #[] }
def k13m3 : Method := { name := "within", desc := "(Ljava/lang/String;)Lcom/example/lease/lease/core/InvalidFieldException;", sig := { parameters := [(.object "java/lang/String")], returnType := some (.object "com/example/lease/lease/core/InvalidFieldException") }, accessFlags := 1, code := some k13c3 }
/-- com/example/lease/lease/core/InvalidFieldException -/
def k13 : Class := { plain "com/example/lease/lease/core/InvalidFieldException" (some 12) with
  accessFlags := 33
  interfaces := #[]
  cf := some (fileOf pool13 33 #[] #[{ accessFlags := 1, nameIndex := 5, descriptorIndex := 45, attributes := #[] }, { accessFlags := 1, nameIndex := 23, descriptorIndex := 16, attributes := #[] }, { accessFlags := 1, nameIndex := 38, descriptorIndex := 16, attributes := #[] }, { accessFlags := 1, nameIndex := 53, descriptorIndex := 54, attributes := #[] }] 33 18 #[] #[{ accessFlags := 26, nameIndex := 46, descriptorIndex := 47, attributes := #[] }, { accessFlags := 18, nameIndex := 23, descriptorIndex := 36, attributes := #[] }, { accessFlags := 18, nameIndex := 38, descriptorIndex := 36, attributes := #[] }])
  fields := #[{ name := "serialVersionUID", type := .long, accessFlags := 26, slot := 0, constantValue := 0 }, { name := "field", type := (.object "java/lang/String"), accessFlags := 18, slot := 6, constantValue := 0 }, { name := "reason", type := (.object "java/lang/String"), accessFlags := 18, slot := 7, constantValue := 0 }]
  methods := #[k13m0, k13m1, k13m2, k13m3]
  instanceTypes := #[(.object "java/lang/Object"), (.object "java/lang/String"), (.object "java/lang/Throwable"), (.array (.object "java/lang/StackTraceElement")), .int, (.object "java/util/List"), (.object "java/lang/String"), (.object "java/lang/String")]
  staticTypes := #[.long]
  resolved := Array.replicate 57 none
  statics := none }

def pool14 : Array CpInfo := pool [(1, .class_ 2), (0, u "java/lang/Appendable"), (0, .class_ 4), (0, u "java/lang/Object")] 9

/-- java/lang/Appendable -/
def k14 : Class := { plain "java/lang/Appendable" (some 0) with
  accessFlags := 1537
  interfaces := #[]
  cf := some (fileOf pool14 1 #[] #[] 1537 3 #[] #[])
  fields := #[]
  methods := #[]
  instanceTypes := #[]
  staticTypes := #[]
  resolved := Array.replicate 14 none
  statics := none }

def pool15 : Array CpInfo := pool [(1, .class_ 2), (0, u "java/lang/String"), (0, .methodref 4 5), (0, .class_ 6), (0, .nameAndType 7 8), (0, u "java/lang/Object"), (0, u "<init>"), (0, u "()V"), (1, .class_ 12), (1, u "java/lang/AbstractStringBuilder"), (0, u "EMPTYVALUE"), (0, u "[B"), (0, .fieldref 10 16), (0, .nameAndType 17 14), (0, u "value"), (0, .fieldref 1 19), (0, .nameAndType 20 21), (0, u "COMPACT_STRINGS"), (0, u "Z"), (0, .fieldref 10 23), (0, .nameAndType 24 25), (0, u "coder"), (0, u "B"), (6, .methodref 1 33), (0, .nameAndType 34 35), (0, u "length"), (0, u "()I"), (4, .methodref 1 41), (0, .nameAndType 24 42), (0, u "()B"), (2, u "append"), (0, u "(Ljava/lang/String;)Ljava/lang/AbstractStringBuilder;"), (1, .class_ 49), (0, u "java/lang/CharSequence"), (19, u "(Ljava/lang/String;)V"), (5, u "maybeLatin1"), (3, .fieldref 10 80), (0, .nameAndType 81 82), (0, u "count"), (0, u "I"), (2, u "isLatin1"), (0, u "()Z"), (13, .methodref 10 101), (0, .nameAndType 102 103), (0, u "ensureCapacityInternal"), (0, u "(I)V"), (104, .methodref 10 209), (0, .nameAndType 210 211), (0, u "putStringAt"), (0, u "(ILjava/lang/String;)V"), (5, u "inflateIfNeededFor"), (2, .nameAndType 221 222), (0, u "getBytes"), (0, u "([BIB)V"), (174, .methodref 10 398), (0, .nameAndType 217 69), (0, .methodref 1 220), (3, u "()[B"), (40, .class_ 445), (0, u "java/lang/Appendable"), (106, u "getValue")] 56

def k15m0 : Method := { name := "<init>", desc := "()V", sig := { parameters := [], returnType := none }, accessFlags := 0, code := none }
def k15c1 : Code := { maxStack := 2, maxLocals := 2, code := jdk_68_method_2_code, exceptionTable := #[], attributes := #[] }
def k15m1 : Method := { name := "<init>", desc := "(I)V", sig := { parameters := [.int], returnType := none }, accessFlags := 0, code := some k15c1 }
def k15c2 : Code := { maxStack := 1, maxLocals := 1, code := jdk_68_method_6_code, exceptionTable := #[], attributes := #[] }
def k15m2 : Method := { name := "length", desc := "()I", sig := { parameters := [], returnType := some .int }, accessFlags := 1, code := some k15c2 }
def k15c3 : Code := { maxStack := 4, maxLocals := 3, code := jdk_68_method_9_code, exceptionTable := #[], attributes := #[] }
def k15m3 : Method := { name := "ensureCapacityInternal", desc := "(I)V", sig := { parameters := [.int], returnType := none }, accessFlags := 2, code := some k15c3 }
def k15c4 : Code := { maxStack := 3, maxLocals := 3, code := jdk_68_method_22_code, exceptionTable := #[], attributes := #[] }
def k15m4 : Method := { name := "append", desc := "(Ljava/lang/String;)Ljava/lang/AbstractStringBuilder;", sig := { parameters := [(.object "java/lang/String")], returnType := some (.object "java/lang/AbstractStringBuilder") }, accessFlags := 1, code := some k15c4 }
def k15c5 : Code := { maxStack := 1, maxLocals := 1, code := jdk_68_method_64_code, exceptionTable := #[], attributes := #[] }
def k15m5 : Method := { name := "getValue", desc := "()[B", sig := { parameters := [], returnType := some (.array .byte) }, accessFlags := 16, code := some k15c5 }
def k15c6 : Code := { maxStack := 1, maxLocals := 1, code := jdk_68_method_68_code, exceptionTable := #[], attributes := #[] }
def k15m6 : Method := { name := "isLatin1", desc := "()Z", sig := { parameters := [], returnType := some .boolean }, accessFlags := 16, code := some k15c6 }
def k15c7 : Code := { maxStack := 2, maxLocals := 2, code := jdk_68_method_71_code, exceptionTable := #[], attributes := #[] }
def k15m7 : Method := { name := "inflateIfNeededFor", desc := "(Ljava/lang/String;)V", sig := { parameters := [(.object "java/lang/String")], returnType := none }, accessFlags := 2, code := some k15c7 }
def k15c8 : Code := { maxStack := 4, maxLocals := 3, code := jdk_68_method_73_code, exceptionTable := #[], attributes := #[] }
def k15m8 : Method := { name := "putStringAt", desc := "(ILjava/lang/String;)V", sig := { parameters := [.int, (.object "java/lang/String")], returnType := none }, accessFlags := 2, code := some k15c8 }
/-- java/lang/AbstractStringBuilder -/
def k15 : Class := { plain "java/lang/AbstractStringBuilder" (some 0) with
  accessFlags := 1056
  interfaces := #[14, 4]
  cf := some (fileOf pool15 10 #[] #[{ accessFlags := 0, nameIndex := 7, descriptorIndex := 8, attributes := #[] }, { accessFlags := 0, nameIndex := 7, descriptorIndex := 103, attributes := #[] }, { accessFlags := 1, nameIndex := 34, descriptorIndex := 35, attributes := #[] }, { accessFlags := 2, nameIndex := 102, descriptorIndex := 103, attributes := #[] }, { accessFlags := 1, nameIndex := 45, descriptorIndex := 46, attributes := #[] }, { accessFlags := 16, nameIndex := 552, descriptorIndex := 403, attributes := #[] }, { accessFlags := 16, nameIndex := 85, descriptorIndex := 86, attributes := #[] }, { accessFlags := 2, nameIndex := 217, descriptorIndex := 69, attributes := #[] }, { accessFlags := 2, nameIndex := 210, descriptorIndex := 211, attributes := #[] }] 1056 4 #[444, 48] #[{ accessFlags := 0, nameIndex := 17, descriptorIndex := 14, attributes := #[] }, { accessFlags := 0, nameIndex := 24, descriptorIndex := 25, attributes := #[] }, { accessFlags := 0, nameIndex := 75, descriptorIndex := 21, attributes := #[] }, { accessFlags := 0, nameIndex := 81, descriptorIndex := 82, attributes := #[] }, { accessFlags := 26, nameIndex := 13, descriptorIndex := 14, attributes := #[] }])
  fields := #[{ name := "value", type := (.array .byte), accessFlags := 0, slot := 0, constantValue := 0 }, { name := "coder", type := .byte, accessFlags := 0, slot := 1, constantValue := 0 }, { name := "maybeLatin1", type := .boolean, accessFlags := 0, slot := 2, constantValue := 0 }, { name := "count", type := .int, accessFlags := 0, slot := 3, constantValue := 0 }, { name := "EMPTYVALUE", type := (.array .byte), accessFlags := 26, slot := 0, constantValue := 0 }]
  methods := #[k15m0, k15m1, k15m2, k15m3, k15m4, k15m5, k15m6, k15m7, k15m8]
  instanceTypes := #[(.array .byte), .byte, .boolean, .int]
  staticTypes := #[(.array .byte)]
  resolved := Array.replicate 609 none
  statics := none }

def pool16 : Array CpInfo := pool [(1, .methodref 2 3), (0, .class_ 4), (0, .nameAndType 5 6), (0, u "java/lang/AbstractStringBuilder"), (0, u "<init>"), (0, u "(I)V"), (11, .class_ 20), (1, u "java/lang/String"), (3, .class_ 26), (1, u "java/lang/StringBuilder"), (0, u "append"), (0, u "(Ljava/lang/String;)Ljava/lang/StringBuilder;"), (0, .methodref 2 30), (0, .nameAndType 27 31), (0, u "(Ljava/lang/String;)Ljava/lang/AbstractStringBuilder;"), (105, .methodref 18 138), (0, .nameAndType 5 139), (0, u "(Ljava/lang/StringBuilder;)V"), (5, u "()V"), (10, u "()I"), (186, .methodref 2 344), (0, .nameAndType 345 156), (0, u "length"), (3, .class_ 350), (0, u "java/lang/Appendable"), (0, .class_ 352), (0, u "java/io/Serializable"), (0, .class_ 354), (0, u "java/lang/Comparable"), (0, .class_ 356), (0, u "java/lang/CharSequence"), (0, u "serialVersionUID"), (0, u "J"), (40, u "toString"), (0, u "()Ljava/lang/String;")] 21

def k16c0 : Code := { maxStack := 2, maxLocals := 1, code := jdk_67_method_1_code, exceptionTable := #[], attributes := #[] }
def k16m0 : Method := { name := "<init>", desc := "()V", sig := { parameters := [], returnType := none }, accessFlags := 1, code := some k16c0 }
def k16c1 : Code := { maxStack := 2, maxLocals := 2, code := jdk_67_method_7_code, exceptionTable := #[], attributes := #[] }
def k16m1 : Method := { name := "append", desc := "(Ljava/lang/String;)Ljava/lang/StringBuilder;", sig := { parameters := [(.object "java/lang/String")], returnType := some (.object "java/lang/StringBuilder") }, accessFlags := 1, code := some k16c1 }
def k16c2 : Code := { maxStack := 3, maxLocals := 1, code := jdk_67_method_42_code, exceptionTable := #[], attributes := #[] }
def k16m2 : Method := { name := "toString", desc := "()Ljava/lang/String;", sig := { parameters := [], returnType := some (.object "java/lang/String") }, accessFlags := 1, code := some k16c2 }
def k16c3 : Code := { maxStack := 1, maxLocals := 1, code := jdk_67_method_93_code, exceptionTable := #[], attributes := #[] }
def k16m3 : Method := { name := "length", desc := "()I", sig := { parameters := [], returnType := some .int }, accessFlags := 4161, code := some k16c3 }
/-- java/lang/StringBuilder -/
def k16 : Class := { plain "java/lang/StringBuilder" (some 15) with
  accessFlags := 49
  interfaces := #[14, 2, 3, 4]
  cf := some (fileOf pool16 24 #[] #[{ accessFlags := 1, nameIndex := 5, descriptorIndex := 145, attributes := #[] }, { accessFlags := 1, nameIndex := 27, descriptorIndex := 28, attributes := #[] }, { accessFlags := 1, nameIndex := 399, descriptorIndex := 400, attributes := #[] }, { accessFlags := 4161, nameIndex := 345, descriptorIndex := 156, attributes := #[] }] 49 2 #[349, 351, 353, 355] #[{ accessFlags := 24, nameIndex := 357, descriptorIndex := 358, attributes := #[] }])
  fields := #[{ name := "serialVersionUID", type := .long, accessFlags := 24, slot := 0, constantValue := 0 }]
  methods := #[k16m0, k16m1, k16m2, k16m3]
  instanceTypes := #[(.array .byte), .byte, .boolean, .int]
  staticTypes := #[.long]
  resolved := Array.replicate 422 none
  statics := none }

def pool17 : Array CpInfo := pool [(2, .class_ 4), (1, u "java/lang/Object"), (0, u "<init>"), (0, u "()V"), (1, .class_ 10), (1, u "java/lang/System"), (0, u "allowSecurityManager"), (0, u "I"), (16, u "cons"), (0, u "Ljava/io/Console;"), (77, .class_ 110), (1, u "java/lang/System$CallersHolder"), (43, u "initialErrStream"), (0, u "Ljava/io/PrintStream;"), (19, u "security"), (0, u "Ljava/lang/SecurityManager;"), (31, .class_ 209), (0, u "java/lang/System$1"), (7, u "props"), (0, u "Ljava/util/Properties;"), (2, u "lineSeparator"), (0, u "Ljava/lang/String;"), (96, .class_ 321), (1, u "java/lang/System$LoggerFinder"), (5, .class_ 328), (0, u "java/lang/System$Logger"), (67, u "err"), (2, u "out"), (91, u "notSupportedJnuEncoding"), (15, u "in"), (17, u "initialIn"), (0, u "Ljava/io/InputStream;"), (35, u "bootLayer"), (0, u "Ljava/lang/ModuleLayer;"), (99, .class_ 664), (0, u "java/lang/System$2"), (9, u "NEVER"), (2, u "MAYBE"), (49, u "arraycopy"), (0, u "(Ljava/lang/Object;ILjava/lang/Object;II)V"), (72, .class_ 802), (0, u "java/lang/System$Logger$Level")] 31

def k17m0 : Method := { name := "<init>", desc := "()V", sig := { parameters := [], returnType := none }, accessFlags := 2, code := none }
def k17m1 : Method := { name := "arraycopy", desc := "(Ljava/lang/Object;ILjava/lang/Object;II)V", sig := { parameters := [(.object "java/lang/Object"), .int, (.object "java/lang/Object"), .int, .int], returnType := none }, accessFlags := 265, code := none }
/-- java/lang/System -/
def k17 : Class := { plain "java/lang/System" (some 0) with
  accessFlags := 49
  interfaces := #[]
  cf := some (fileOf pool17 8 #[.nestMembers #[319, 327, 801, 108, 663, 208]] #[{ accessFlags := 2, nameIndex := 5, descriptorIndex := 6, attributes := #[] }, { accessFlags := 265, nameIndex := 727, descriptorIndex := 728, attributes := #[] }] 49 2 #[] #[{ accessFlags := 25, nameIndex := 507, descriptorIndex := 526, attributes := #[] }, { accessFlags := 25, nameIndex := 399, descriptorIndex := 155, attributes := #[] }, { accessFlags := 25, nameIndex := 396, descriptorIndex := 155, attributes := #[] }, { accessFlags := 10, nameIndex := 525, descriptorIndex := 526, attributes := #[] }, { accessFlags := 26, nameIndex := 674, descriptorIndex := 12, attributes := #[] }, { accessFlags := 26, nameIndex := 677, descriptorIndex := 12, attributes := #[] }, { accessFlags := 10, nameIndex := 11, descriptorIndex := 12, attributes := #[] }, { accessFlags := 74, nameIndex := 175, descriptorIndex := 176, attributes := #[] }, { accessFlags := 10, nameIndex := 491, descriptorIndex := 222, attributes := #[] }, { accessFlags := 74, nameIndex := 29, descriptorIndex := 30, attributes := #[] }, { accessFlags := 74, nameIndex := 154, descriptorIndex := 155, attributes := #[] }, { accessFlags := 10, nameIndex := 217, descriptorIndex := 218, attributes := #[] }, { accessFlags := 10, nameIndex := 221, descriptorIndex := 222, attributes := #[] }, { accessFlags := 8, nameIndex := 562, descriptorIndex := 563, attributes := #[] }])
  fields := #[{ name := "in", type := (.object "java/io/InputStream"), accessFlags := 25, slot := 0, constantValue := 0 }, { name := "out", type := (.object "java/io/PrintStream"), accessFlags := 25, slot := 1, constantValue := 0 }, { name := "err", type := (.object "java/io/PrintStream"), accessFlags := 25, slot := 2, constantValue := 0 }, { name := "initialIn", type := (.object "java/io/InputStream"), accessFlags := 10, slot := 3, constantValue := 0 }, { name := "NEVER", type := .int, accessFlags := 26, slot := 4, constantValue := 0 }, { name := "MAYBE", type := .int, accessFlags := 26, slot := 5, constantValue := 0 }, { name := "allowSecurityManager", type := .int, accessFlags := 10, slot := 6, constantValue := 0 }, { name := "security", type := (.object "java/lang/SecurityManager"), accessFlags := 74, slot := 7, constantValue := 0 }, { name := "notSupportedJnuEncoding", type := (.object "java/lang/String"), accessFlags := 10, slot := 8, constantValue := 0 }, { name := "cons", type := (.object "java/io/Console"), accessFlags := 74, slot := 9, constantValue := 0 }, { name := "initialErrStream", type := (.object "java/io/PrintStream"), accessFlags := 74, slot := 10, constantValue := 0 }, { name := "props", type := (.object "java/util/Properties"), accessFlags := 10, slot := 11, constantValue := 0 }, { name := "lineSeparator", type := (.object "java/lang/String"), accessFlags := 10, slot := 12, constantValue := 0 }, { name := "bootLayer", type := (.object "java/lang/ModuleLayer"), accessFlags := 8, slot := 13, constantValue := 0 }]
  methods := #[k17m0, k17m1]
  instanceTypes := #[]
  staticTypes := #[(.object "java/io/InputStream"), (.object "java/io/PrintStream"), (.object "java/io/PrintStream"), (.object "java/io/InputStream"), .int, .int, .int, (.object "java/lang/SecurityManager"), (.object "java/lang/String"), (.object "java/io/Console"), (.object "java/io/PrintStream"), (.object "java/util/Properties"), (.object "java/lang/String"), (.object "java/lang/ModuleLayer")]
  resolved := Array.replicate 834 none
  statics := none }

def pool18 : Array CpInfo := pool [(2, .class_ 4), (1, u "java/lang/Object"), (0, u "<init>"), (0, u "()V"), (7, .class_ 16), (1, u "java/util/Arrays"), (57, .class_ 76), (1, u "java/util/Arrays$NaturalOrder"), (36, .class_ 115), (1, u "java/util/Arrays$LegacyMergeSort"), (1, u "Z"), (21, u "copyOfRange"), (10, .methodref 151 152), (0, .class_ 153), (0, .nameAndType 154 155), (0, u "java/lang/System"), (0, u "arraycopy"), (0, u "(Ljava/lang/Object;ILjava/lang/Object;II)V"), (148, .methodref 305 306), (0, .class_ 307), (0, .nameAndType 308 309), (0, u "java/lang/Math"), (0, u "min"), (0, u "(II)I"), (29, .methodref 14 340), (0, .nameAndType 341 342), (0, u "copyOfRangeByte"), (0, u "([BII)[B"), (0, .methodref 14 344), (0, .nameAndType 345 346), (0, u "checkLength"), (0, u "(II)V"), (28, .class_ 376), (0, u "java/util/Arrays$ArrayList"), (68, u "$assertionsDisabled"), (269, u "MIN_ARRAY_SORT_GRAN"), (0, u "I"), (2, u "INSERTIONSORT_THRESHOLD"), (255, .class_ 976), (0, u "java/util/Arrays$ArrayItr")] 52

def k18m0 : Method := { name := "<init>", desc := "()V", sig := { parameters := [], returnType := none }, accessFlags := 2, code := none }
def k18c1 : Code := { maxStack := 4, maxLocals := 2, code := jdk_65_method_131_code, exceptionTable := #[], attributes := #[] }
def k18m1 : Method := { name := "checkLength", desc := "(II)V", sig := { parameters := [.int, .int], returnType := none }, accessFlags := 10, code := some k18c1 }
def k18c2 : Code := { maxStack := 3, maxLocals := 3, code := jdk_65_method_132_code, exceptionTable := #[], attributes := #[] }
def k18m2 : Method := { name := "copyOfRange", desc := "([BII)[B", sig := { parameters := [(.array .byte), .int, .int], returnType := some (.array .byte) }, accessFlags := 9, code := some k18c2 }
def k18c3 : Code := { maxStack := 6, maxLocals := 5, code := jdk_65_method_133_code, exceptionTable := #[], attributes := #[] }
def k18m3 : Method := { name := "copyOfRangeByte", desc := "([BII)[B", sig := { parameters := [(.array .byte), .int, .int], returnType := some (.array .byte) }, accessFlags := 10, code := some k18c3 }
/-- java/util/Arrays -/
def k18 : Class := { plain "java/util/Arrays" (some 0) with
  accessFlags := 49
  interfaces := #[]
  cf := some (fileOf pool18 14 #[.nestMembers #[975, 375, 113, 74]] #[{ accessFlags := 2, nameIndex := 5, descriptorIndex := 6, attributes := #[] }, { accessFlags := 10, nameIndex := 345, descriptorIndex := 346, attributes := #[] }, { accessFlags := 9, nameIndex := 139, descriptorIndex := 342, attributes := #[] }, { accessFlags := 10, nameIndex := 341, descriptorIndex := 342, attributes := #[] }] 49 2 #[] #[{ accessFlags := 26, nameIndex := 715, descriptorIndex := 716, attributes := #[] }, { accessFlags := 26, nameIndex := 719, descriptorIndex := 716, attributes := #[] }, { accessFlags := 4120, nameIndex := 445, descriptorIndex := 117, attributes := #[] }])
  fields := #[{ name := "MIN_ARRAY_SORT_GRAN", type := .int, accessFlags := 26, slot := 0, constantValue := 0 }, { name := "INSERTIONSORT_THRESHOLD", type := .int, accessFlags := 26, slot := 1, constantValue := 0 }, { name := "$assertionsDisabled", type := .boolean, accessFlags := 4120, slot := 2, constantValue := 0 }]
  methods := #[k18m0, k18m1, k18m2, k18m3]
  instanceTypes := #[]
  staticTypes := #[.int, .int, .boolean]
  resolved := Array.replicate 1029 none
  statics := none }

def pool19 : Array CpInfo := pool [(1, .class_ 2), (0, u "java/lang/Math"), (1, .class_ 6), (1, u "java/lang/Object"), (0, u "<init>"), (0, u "()V"), (89, .class_ 100), (1, u "java/lang/Math$RandomNumberGeneratorHolder"), (71, u "negativeZeroFloatBits"), (0, u "J"), (2, u "negativeZeroDoubleBits"), (24, u "min"), (43, u "$assertionsDisabled"), (0, u "Z"), (88, u "(II)I"), (2, u "twoToTheDoubleScaleDown"), (0, u "D"), (4, u "twoToTheDoubleScaleUp"), (9, u "E"), (3, u "PI"), (2, u "TAU"), (2, u "DEGREES_TO_RADIANS"), (0, u "RADIANS_TO_DEGREES")] 94

def k19m0 : Method := { name := "<init>", desc := "()V", sig := { parameters := [], returnType := none }, accessFlags := 2, code := none }
def k19c1 : Code := { maxStack := 2, maxLocals := 2, code := jdk_29_method_69_code, exceptionTable := #[], attributes := #[] }
def k19m1 : Method := { name := "min", desc := "(II)I", sig := { parameters := [.int, .int], returnType := some .int }, accessFlags := 9, code := some k19c1 }
/-- java/lang/Math -/
def k19 : Class := { plain "java/lang/Math" (some 0) with
  accessFlags := 49
  interfaces := #[]
  cf := some (fileOf pool19 1 #[.nestMembers #[98]] #[{ accessFlags := 2, nameIndex := 7, descriptorIndex := 8, attributes := #[] }, { accessFlags := 9, nameIndex := 201, descriptorIndex := 335, attributes := #[] }] 49 4 #[] #[{ accessFlags := 25, nameIndex := 354, descriptorIndex := 339, attributes := #[] }, { accessFlags := 25, nameIndex := 358, descriptorIndex := 339, attributes := #[] }, { accessFlags := 25, nameIndex := 361, descriptorIndex := 339, attributes := #[] }, { accessFlags := 26, nameIndex := 364, descriptorIndex := 339, attributes := #[] }, { accessFlags := 26, nameIndex := 365, descriptorIndex := 339, attributes := #[] }, { accessFlags := 26, nameIndex := 172, descriptorIndex := 173, attributes := #[] }, { accessFlags := 26, nameIndex := 176, descriptorIndex := 173, attributes := #[] }, { accessFlags := 8, nameIndex := 344, descriptorIndex := 339, attributes := #[] }, { accessFlags := 8, nameIndex := 338, descriptorIndex := 339, attributes := #[] }, { accessFlags := 4120, nameIndex := 245, descriptorIndex := 246, attributes := #[] }])
  fields := #[{ name := "E", type := .double, accessFlags := 25, slot := 0, constantValue := 0 }, { name := "PI", type := .double, accessFlags := 25, slot := 1, constantValue := 0 }, { name := "TAU", type := .double, accessFlags := 25, slot := 2, constantValue := 0 }, { name := "DEGREES_TO_RADIANS", type := .double, accessFlags := 26, slot := 3, constantValue := 0 }, { name := "RADIANS_TO_DEGREES", type := .double, accessFlags := 26, slot := 4, constantValue := 0 }, { name := "negativeZeroFloatBits", type := .long, accessFlags := 26, slot := 5, constantValue := 0 }, { name := "negativeZeroDoubleBits", type := .long, accessFlags := 26, slot := 6, constantValue := 0 }, { name := "twoToTheDoubleScaleUp", type := .double, accessFlags := 8, slot := 7, constantValue := 0 }, { name := "twoToTheDoubleScaleDown", type := .double, accessFlags := 8, slot := 8, constantValue := 0 }, { name := "$assertionsDisabled", type := .boolean, accessFlags := 4120, slot := 9, constantValue := 0 }]
  methods := #[k19m0, k19m1]
  instanceTypes := #[]
  staticTypes := #[.double, .double, .double, .double, .double, .long, .long, .double, .double, .boolean]
  resolved := Array.replicate 460 none
  statics := none }

def pool20 : Array CpInfo := pool [(2, .class_ 4), (1, u "java/lang/Object"), (0, u "<init>"), (0, u "()V"), (35, .class_ 44), (1, u "java/util/Objects"), (0, u "requireNonNull"), (48, u "(Ljava/lang/Object;Ljava/lang/String;)Ljava/lang/Object;")] 89

def k20m0 : Method := { name := "<init>", desc := "()V", sig := { parameters := [], returnType := none }, accessFlags := 2, code := none }
def k20c1 : Code := { maxStack := 3, maxLocals := 2, code := jdk_31_method_11_code, exceptionTable := #[], attributes := #[] }
def k20m1 : Method := { name := "requireNonNull", desc := "(Ljava/lang/Object;Ljava/lang/String;)Ljava/lang/Object;", sig := { parameters := [(.object "java/lang/Object"), (.object "java/lang/String")], returnType := some (.object "java/lang/Object") }, accessFlags := 9, code := some k20c1 }
/-- java/util/Objects -/
def k20 : Class := { plain "java/util/Objects" (some 0) with
  accessFlags := 49
  interfaces := #[]
  cf := some (fileOf pool20 42 #[] #[{ accessFlags := 2, nameIndex := 5, descriptorIndex := 6, attributes := #[] }, { accessFlags := 9, nameIndex := 45, descriptorIndex := 94, attributes := #[] }] 49 2 #[] #[])
  fields := #[]
  methods := #[k20m0, k20m1]
  instanceTypes := #[]
  staticTypes := #[]
  resolved := Array.replicate 184 none
  statics := none }

def pool21 : Array CpInfo := pool [(4, .class_ 6), (1, u "java/lang/Object"), (0, u "<init>"), (0, u "()V"), (5, .class_ 16), (1, u "java/lang/StringLatin1"), (104, u "$assertionsDisabled"), (0, u "Z"), (98, .class_ 223), (1, u "java/lang/StringLatin1$LinesSpliterator"), (57, u "equals"), (0, u "([B[B)Z"), (107, .class_ 391), (0, u "java/lang/StringLatin1$CharsSpliterator")] 3

def k21m0 : Method := { name := "<init>", desc := "()V", sig := { parameters := [], returnType := none }, accessFlags := 0, code := none }
def k21c1 : Code := { maxStack := 3, maxLocals := 3, code := jdk_43_method_13_code, exceptionTable := #[], attributes := #[] }
def k21m1 : Method := { name := "equals", desc := "([B[B)Z", sig := { parameters := [(.array .byte), (.array .byte)], returnType := some .boolean }, accessFlags := 9, code := some k21c1 }
/-- java/lang/StringLatin1 -/
def k21 : Class := { plain "java/lang/StringLatin1" (some 0) with
  accessFlags := 48
  interfaces := #[]
  cf := some (fileOf pool21 14 #[.nestMembers #[390, 221]] #[{ accessFlags := 0, nameIndex := 7, descriptorIndex := 8, attributes := #[] }, { accessFlags := 9, nameIndex := 281, descriptorIndex := 282, attributes := #[] }] 48 4 #[] #[{ accessFlags := 4120, nameIndex := 121, descriptorIndex := 122, attributes := #[] }])
  fields := #[{ name := "$assertionsDisabled", type := .boolean, accessFlags := 4120, slot := 0, constantValue := 0 }]
  methods := #[k21m0, k21m1]
  instanceTypes := #[]
  staticTypes := #[.boolean]
  resolved := Array.replicate 395 none
  statics := none }

def pool22 : Array CpInfo := pool [(2, .class_ 4), (1, u "java/lang/Object"), (0, u "<init>"), (0, u "()V"), (17, .class_ 26), (1, u "jdk/internal/util/Preconditions"), (28, .class_ 56), (0, u "jdk/internal/util/Preconditions$4"), (57, .class_ 115), (0, u "jdk/internal/util/Preconditions$1"), (7, u "SIOOBE_FORMATTER"), (0, u "Ljava/util/function/BiFunction;"), (0, .class_ 126), (0, u "jdk/internal/util/Preconditions$2"), (3, u "AIOOBE_FORMATTER"), (0, .class_ 132), (0, u "jdk/internal/util/Preconditions$3"), (3, u "IOOBE_FORMATTER")] 57

def k22m0 : Method := { name := "<init>", desc := "()V", sig := { parameters := [], returnType := none }, accessFlags := 1, code := none }
/-- jdk/internal/util/Preconditions -/
def k22 : Class := { plain "jdk/internal/util/Preconditions" (some 0) with
  accessFlags := 33
  interfaces := #[]
  cf := some (fileOf pool22 24 #[.nestMembers #[55, 131, 125, 114]] #[{ accessFlags := 1, nameIndex := 5, descriptorIndex := 6, attributes := #[] }] 33 2 #[] #[{ accessFlags := 25, nameIndex := 123, descriptorIndex := 124, attributes := #[] }, { accessFlags := 25, nameIndex := 130, descriptorIndex := 124, attributes := #[] }, { accessFlags := 25, nameIndex := 136, descriptorIndex := 124, attributes := #[] }])
  fields := #[{ name := "SIOOBE_FORMATTER", type := (.object "java/util/function/BiFunction"), accessFlags := 25, slot := 0, constantValue := 0 }, { name := "AIOOBE_FORMATTER", type := (.object "java/util/function/BiFunction"), accessFlags := 25, slot := 1, constantValue := 0 }, { name := "IOOBE_FORMATTER", type := (.object "java/util/function/BiFunction"), accessFlags := 25, slot := 2, constantValue := 0 }]
  methods := #[k22m0]
  instanceTypes := #[]
  staticTypes := #[(.object "java/util/function/BiFunction"), (.object "java/util/function/BiFunction"), (.object "java/util/function/BiFunction")]
  resolved := Array.replicate 194 none
  statics := some 2 }

def pool23 : Array CpInfo := pool [(9, u "<init>"), (6, .class_ 18), (1, u "java/lang/Object"), (0, u "()V"), (1, .class_ 23), (1, u "jdk/internal/util/ArraysSupport"), (0, u "LOG2_ARRAY_LONG_INDEX_SCALE"), (0, u "I"), (2, u "U"), (0, u "Ljdk/internal/misc/Unsafe;"), (8, u "BIG_ENDIAN"), (0, u "Z"), (8, u "LOG2_BYTE_BIT_SIZE"), (4, u "LOG2_ARRAY_INT_INDEX_SCALE"), (54, u "JLA"), (0, u "Ljdk/internal/access/JavaLangAccess;"), (11, u "LOG2_ARRAY_BOOLEAN_INDEX_SCALE"), (9, u "LOG2_ARRAY_BYTE_INDEX_SCALE"), (5, u "LOG2_ARRAY_CHAR_INDEX_SCALE"), (5, u "LOG2_ARRAY_SHORT_INDEX_SCALE"), (18, u "LOG2_ARRAY_FLOAT_INDEX_SCALE"), (24, u "LOG2_ARRAY_DOUBLE_INDEX_SCALE"), (89, u "T_BOOLEAN"), (2, u "T_CHAR"), (1, u "T_FLOAT"), (1, u "T_DOUBLE"), (1, u "T_BYTE"), (1, u "T_SHORT"), (1, u "T_INT"), (1, u "T_LONG"), (1, u "SOFT_MAX_ARRAY_LENGTH")] 83

def k23m0 : Method := { name := "<init>", desc := "()V", sig := { parameters := [], returnType := none }, accessFlags := 2, code := none }
/-- jdk/internal/util/ArraysSupport -/
def k23 : Class := { plain "jdk/internal/util/ArraysSupport" (some 0) with
  accessFlags := 33
  interfaces := #[]
  cf := some (fileOf pool23 21 #[] #[{ accessFlags := 2, nameIndex := 9, descriptorIndex := 19, attributes := #[] }] 33 16 #[] #[{ accessFlags := 24, nameIndex := 28, descriptorIndex := 29, attributes := #[] }, { accessFlags := 26, nameIndex := 38, descriptorIndex := 39, attributes := #[] }, { accessFlags := 25, nameIndex := 121, descriptorIndex := 25, attributes := #[] }, { accessFlags := 25, nameIndex := 131, descriptorIndex := 25, attributes := #[] }, { accessFlags := 25, nameIndex := 137, descriptorIndex := 25, attributes := #[] }, { accessFlags := 25, nameIndex := 143, descriptorIndex := 25, attributes := #[] }, { accessFlags := 25, nameIndex := 53, descriptorIndex := 25, attributes := #[] }, { accessFlags := 25, nameIndex := 24, descriptorIndex := 25, attributes := #[] }, { accessFlags := 25, nameIndex := 162, descriptorIndex := 25, attributes := #[] }, { accessFlags := 25, nameIndex := 187, descriptorIndex := 25, attributes := #[] }, { accessFlags := 26, nameIndex := 48, descriptorIndex := 25, attributes := #[] }, { accessFlags := 25, nameIndex := 277, descriptorIndex := 25, attributes := #[] }, { accessFlags := 25, nameIndex := 280, descriptorIndex := 25, attributes := #[] }, { accessFlags := 25, nameIndex := 282, descriptorIndex := 25, attributes := #[] }, { accessFlags := 25, nameIndex := 284, descriptorIndex := 25, attributes := #[] }, { accessFlags := 25, nameIndex := 286, descriptorIndex := 25, attributes := #[] }, { accessFlags := 25, nameIndex := 288, descriptorIndex := 25, attributes := #[] }, { accessFlags := 25, nameIndex := 290, descriptorIndex := 25, attributes := #[] }, { accessFlags := 25, nameIndex := 292, descriptorIndex := 25, attributes := #[] }, { accessFlags := 26, nameIndex := 108, descriptorIndex := 109, attributes := #[] }, { accessFlags := 25, nameIndex := 294, descriptorIndex := 25, attributes := #[] }])
  fields := #[{ name := "U", type := (.object "jdk/internal/misc/Unsafe"), accessFlags := 24, slot := 0, constantValue := 0 }, { name := "BIG_ENDIAN", type := .boolean, accessFlags := 26, slot := 1, constantValue := 0 }, { name := "LOG2_ARRAY_BOOLEAN_INDEX_SCALE", type := .int, accessFlags := 25, slot := 2, constantValue := 0 }, { name := "LOG2_ARRAY_BYTE_INDEX_SCALE", type := .int, accessFlags := 25, slot := 3, constantValue := 0 }, { name := "LOG2_ARRAY_CHAR_INDEX_SCALE", type := .int, accessFlags := 25, slot := 4, constantValue := 0 }, { name := "LOG2_ARRAY_SHORT_INDEX_SCALE", type := .int, accessFlags := 25, slot := 5, constantValue := 0 }, { name := "LOG2_ARRAY_INT_INDEX_SCALE", type := .int, accessFlags := 25, slot := 6, constantValue := 0 }, { name := "LOG2_ARRAY_LONG_INDEX_SCALE", type := .int, accessFlags := 25, slot := 7, constantValue := 0 }, { name := "LOG2_ARRAY_FLOAT_INDEX_SCALE", type := .int, accessFlags := 25, slot := 8, constantValue := 0 }, { name := "LOG2_ARRAY_DOUBLE_INDEX_SCALE", type := .int, accessFlags := 25, slot := 9, constantValue := 0 }, { name := "LOG2_BYTE_BIT_SIZE", type := .int, accessFlags := 26, slot := 10, constantValue := 0 }, { name := "T_BOOLEAN", type := .int, accessFlags := 25, slot := 11, constantValue := 0 }, { name := "T_CHAR", type := .int, accessFlags := 25, slot := 12, constantValue := 0 }, { name := "T_FLOAT", type := .int, accessFlags := 25, slot := 13, constantValue := 0 }, { name := "T_DOUBLE", type := .int, accessFlags := 25, slot := 14, constantValue := 0 }, { name := "T_BYTE", type := .int, accessFlags := 25, slot := 15, constantValue := 0 }, { name := "T_SHORT", type := .int, accessFlags := 25, slot := 16, constantValue := 0 }, { name := "T_INT", type := .int, accessFlags := 25, slot := 17, constantValue := 0 }, { name := "T_LONG", type := .int, accessFlags := 25, slot := 18, constantValue := 0 }, { name := "JLA", type := (.object "jdk/internal/access/JavaLangAccess"), accessFlags := 26, slot := 19, constantValue := 0 }, { name := "SOFT_MAX_ARRAY_LENGTH", type := .int, accessFlags := 25, slot := 20, constantValue := 0 }]
  methods := #[k23m0]
  instanceTypes := #[]
  staticTypes := #[(.object "jdk/internal/misc/Unsafe"), .boolean, .int, .int, .int, .int, .int, .int, .int, .int, .int, .int, .int, .int, .int, .int, .int, .int, .int, (.object "jdk/internal/access/JavaLangAccess"), .int]
  resolved := Array.replicate 378 none
  statics := none }

def pool24 : Array CpInfo := pool [(2, .class_ 4), (1, u "java/lang/Object"), (0, u "<init>"), (0, u "()V"), (12, .class_ 20), (0, u "java/util/Collections"), (63, u "r"), (0, u "Ljava/util/Random;"), (80, .class_ 167), (0, u "java/util/Collections$UnmodifiableCollection"), (6, .class_ 175), (0, u "java/util/Collections$UnmodifiableSequencedCollection"), (6, .class_ 183), (0, u "java/util/Collections$UnmodifiableSet"), (6, .class_ 191), (0, u "java/util/Collections$UnmodifiableSequencedSet"), (6, .class_ 199), (0, u "java/util/Collections$UnmodifiableSortedSet"), (6, .class_ 207), (0, u "java/util/Collections$UnmodifiableNavigableSet"), (4, .class_ 213), (0, u "java/util/Collections$UnmodifiableList"), (1, .class_ 216), (0, u "java/util/Collections$UnmodifiableRandomAccessList"), (6, .class_ 224), (0, u "java/util/Collections$UnmodifiableMap"), (6, .class_ 232), (0, u "java/util/Collections$UnmodifiableSequencedMap"), (4, .class_ 238), (0, u "java/util/Collections$UnmodifiableSortedMap"), (6, .class_ 246), (0, u "java/util/Collections$UnmodifiableNavigableMap"), (3, .class_ 251), (0, u "java/util/Collections$SynchronizedCollection"), (4, .class_ 257), (0, u "java/util/Collections$SynchronizedSet"), (4, .class_ 263), (0, u "java/util/Collections$SynchronizedSortedSet"), (1, .class_ 266), (0, u "java/util/Collections$SynchronizedNavigableSet"), (1, .class_ 269), (0, u "java/util/Collections$SynchronizedRandomAccessList"), (1, .class_ 272), (0, u "java/util/Collections$SynchronizedList"), (5, .class_ 279), (0, u "java/util/Collections$SynchronizedMap"), (1, .class_ 282), (0, u "java/util/Collections$SynchronizedSortedMap"), (1, .class_ 285), (0, u "java/util/Collections$SynchronizedNavigableMap"), (1, .class_ 288), (0, u "java/util/Collections$CheckedCollection"), (11, .class_ 301), (0, u "java/util/Collections$CheckedQueue"), (3, .class_ 306), (0, u "java/util/Collections$CheckedSet"), (3, .class_ 311), (0, u "java/util/Collections$CheckedSortedSet"), (3, .class_ 316), (0, u "java/util/Collections$CheckedNavigableSet"), (3, .class_ 321), (0, u "java/util/Collections$CheckedRandomAccessList"), (3, .class_ 326), (0, u "java/util/Collections$CheckedList"), (1, .class_ 329), (0, u "java/util/Collections$CheckedMap"), (3, .class_ 334), (0, u "java/util/Collections$CheckedSortedMap"), (3, .class_ 339), (0, u "java/util/Collections$CheckedNavigableMap"), (4, .class_ 346), (1, u "java/util/Collections$EmptyIterator"), (3, .class_ 352), (1, u "java/util/Collections$EmptyListIterator"), (2, .class_ 357), (1, u "java/util/Collections$EmptyEnumeration"), (4, u "EMPTY_SET"), (0, u "Ljava/util/Set;"), (6, u "EMPTY_LIST"), (0, u "Ljava/util/List;"), (2, u "EMPTY_MAP"), (0, u "Ljava/util/Map;"), (4, .class_ 381), (0, u "java/util/Collections$SingletonSet"), (2, .class_ 385), (0, u "java/util/Collections$1"), (1, .class_ 388), (0, u "java/util/Collections$2"), (1, .class_ 391), (0, u "java/util/Collections$SingletonList"), (1, .class_ 394), (0, u "java/util/Collections$SingletonMap"), (22, .class_ 418), (0, u "java/util/Collections$CopiesList"), (4, .class_ 425), (1, u "java/util/Collections$ReverseComparator"), (8, .class_ 435), (0, u "java/util/Collections$ReverseComparator2"), (6, .class_ 443), (0, u "java/util/Collections$3"), (25, .class_ 470), (0, u "java/util/Collections$SetFromMap"), (2, .class_ 474), (0, u "java/util/Collections$SequencedSetFromMap"), (3, .class_ 479), (0, u "java/util/Collections$AsLIFOQueue"), (11, .class_ 492), (0, u "java/util/Collections$EmptySet"), (1, .class_ 495), (0, u "java/util/Collections$EmptyList"), (1, .class_ 498), (0, u "java/util/Collections$EmptyMap"), (1, u "BINARYSEARCH_THRESHOLD"), (0, u "I"), (2, u "REVERSE_THRESHOLD"), (1, u "SHUFFLE_THRESHOLD"), (1, u "FILL_THRESHOLD"), (1, u "ROTATE_THRESHOLD"), (1, u "COPY_THRESHOLD"), (1, u "REPLACEALL_THRESHOLD"), (1, u "INDEXOFSUBLIST_THRESHOLD"), (333, .class_ 851), (0, u "java/util/Collections$CheckedMap$CheckedEntrySet"), (0, .class_ 853), (0, u "java/util/Collections$CheckedMap$CheckedEntrySet$CheckedEntry"), (0, .class_ 855), (0, u "java/util/Collections$CheckedMap$CheckedEntrySet$1"), (0, .class_ 857), (0, u "java/util/Collections$CheckedList$1"), (0, .class_ 859), (0, u "java/util/Collections$CheckedCollection$1"), (0, .class_ 861), (0, u "java/util/Collections$UnmodifiableNavigableMap$EmptyNavigableMap"), (0, .class_ 863), (0, u "java/util/Collections$UnmodifiableMap$UnmodifiableEntrySet"), (0, .class_ 865), (0, u "java/util/Collections$UnmodifiableMap$UnmodifiableEntrySet$UnmodifiableEntry"), (0, .class_ 867), (0, u "java/util/Collections$UnmodifiableMap$UnmodifiableEntrySet$UnmodifiableEntrySetSpliterator"), (0, .class_ 869), (0, u "java/util/Collections$UnmodifiableMap$UnmodifiableEntrySet$1"), (0, .class_ 871), (0, u "java/util/Collections$UnmodifiableList$1"), (0, .class_ 873), (0, u "java/util/Collections$UnmodifiableNavigableSet$EmptyNavigableSet"), (0, .class_ 875), (0, u "java/util/Collections$UnmodifiableCollection$1")] 57

def k24m0 : Method := { name := "<init>", desc := "()V", sig := { parameters := [], returnType := none }, accessFlags := 2, code := none }
/-- java/util/Collections -/
def k24 : Class := { plain "java/util/Collections" (some 0) with
  accessFlags := 33
  interfaces := #[]
  cf := some (fileOf pool24 19 #[.nestMembers #[478, 473, 469, 434, 423, 417, 393, 390, 380, 497, 494, 491, 355, 350, 344, 338, 333, 328, 850, 852, 854, 320, 325, 856, 315, 310, 305, 300, 287, 858, 284, 281, 278, 268, 271, 265, 262, 256, 250, 245, 860, 237, 231, 223, 862, 864, 866, 868, 215, 212, 870, 206, 872, 198, 190, 182, 174, 166, 874, 442, 387, 384]] #[{ accessFlags := 2, nameIndex := 5, descriptorIndex := 6, attributes := #[] }] 33 2 #[] #[{ accessFlags := 26, nameIndex := 500, descriptorIndex := 501, attributes := #[] }, { accessFlags := 26, nameIndex := 504, descriptorIndex := 501, attributes := #[] }, { accessFlags := 26, nameIndex := 506, descriptorIndex := 501, attributes := #[] }, { accessFlags := 26, nameIndex := 508, descriptorIndex := 501, attributes := #[] }, { accessFlags := 26, nameIndex := 510, descriptorIndex := 501, attributes := #[] }, { accessFlags := 26, nameIndex := 512, descriptorIndex := 501, attributes := #[] }, { accessFlags := 26, nameIndex := 514, descriptorIndex := 501, attributes := #[] }, { accessFlags := 26, nameIndex := 516, descriptorIndex := 501, attributes := #[] }, { accessFlags := 10, nameIndex := 84, descriptorIndex := 85, attributes := #[] }, { accessFlags := 25, nameIndex := 362, descriptorIndex := 363, attributes := #[] }, { accessFlags := 25, nameIndex := 370, descriptorIndex := 371, attributes := #[] }, { accessFlags := 25, nameIndex := 374, descriptorIndex := 375, attributes := #[] }])
  fields := #[{ name := "BINARYSEARCH_THRESHOLD", type := .int, accessFlags := 26, slot := 0, constantValue := 0 }, { name := "REVERSE_THRESHOLD", type := .int, accessFlags := 26, slot := 1, constantValue := 0 }, { name := "SHUFFLE_THRESHOLD", type := .int, accessFlags := 26, slot := 2, constantValue := 0 }, { name := "FILL_THRESHOLD", type := .int, accessFlags := 26, slot := 3, constantValue := 0 }, { name := "ROTATE_THRESHOLD", type := .int, accessFlags := 26, slot := 4, constantValue := 0 }, { name := "COPY_THRESHOLD", type := .int, accessFlags := 26, slot := 5, constantValue := 0 }, { name := "REPLACEALL_THRESHOLD", type := .int, accessFlags := 26, slot := 6, constantValue := 0 }, { name := "INDEXOFSUBLIST_THRESHOLD", type := .int, accessFlags := 26, slot := 7, constantValue := 0 }, { name := "r", type := (.object "java/util/Random"), accessFlags := 10, slot := 8, constantValue := 0 }, { name := "EMPTY_SET", type := (.object "java/util/Set"), accessFlags := 25, slot := 9, constantValue := 0 }, { name := "EMPTY_LIST", type := (.object "java/util/List"), accessFlags := 25, slot := 10, constantValue := 0 }, { name := "EMPTY_MAP", type := (.object "java/util/Map"), accessFlags := 25, slot := 11, constantValue := 0 }]
  methods := #[k24m0]
  instanceTypes := #[]
  staticTypes := #[.int, .int, .int, .int, .int, .int, .int, .int, (.object "java/util/Random"), (.object "java/util/Set"), (.object "java/util/List"), (.object "java/util/Map")]
  resolved := Array.replicate 933 none
  statics := some 3 }

def pool25 : Array CpInfo := pool [(8, .class_ 10), (1, u "java/lang/Iterable"), (24, .class_ 36), (0, u "java/lang/Object")] 25

/-- java/lang/Iterable -/
def k25 : Class := { plain "java/lang/Iterable" (some 0) with
  accessFlags := 1537
  interfaces := #[]
  cf := some (fileOf pool25 8 #[] #[] 1537 35 #[] #[])
  fields := #[]
  methods := #[]
  instanceTypes := #[]
  staticTypes := #[]
  resolved := Array.replicate 62 none
  statics := none }

def pool26 : Array CpInfo := pool [(10, .class_ 12), (1, u "java/util/Collection"), (47, .class_ 61), (0, u "java/lang/Object"), (0, .class_ 63), (0, u "java/lang/Iterable")] 51

/-- java/util/Collection -/
def k26 : Class := { plain "java/util/Collection" (some 0) with
  accessFlags := 1537
  interfaces := #[25]
  cf := some (fileOf pool26 10 #[] #[] 1537 60 #[62] #[])
  fields := #[]
  methods := #[]
  instanceTypes := #[]
  staticTypes := #[]
  resolved := Array.replicate 115 none
  statics := none }

def pool27 : Array CpInfo := pool [(2, .class_ 4), (1, u "java/lang/Object"), (0, u "<init>"), (0, u "()V"), (1, .class_ 10), (1, u "java/util/AbstractCollection"), (66, .class_ 78), (0, u "java/util/Collection")] 81

def k27m0 : Method := { name := "<init>", desc := "()V", sig := { parameters := [], returnType := none }, accessFlags := 4, code := none }
/-- java/util/AbstractCollection -/
def k27 : Class := { plain "java/util/AbstractCollection" (some 0) with
  accessFlags := 1057
  interfaces := #[26]
  cf := some (fileOf pool27 8 #[] #[{ accessFlags := 4, nameIndex := 5, descriptorIndex := 6, attributes := #[] }] 1057 2 #[77] #[])
  fields := #[]
  methods := #[k27m0]
  instanceTypes := #[]
  staticTypes := #[]
  resolved := Array.replicate 160 none
  statics := none }

def pool28 : Array CpInfo := pool [(8, .class_ 10), (1, u "java/util/SequencedCollection"), (15, .class_ 27), (0, u "java/lang/Object"), (0, .class_ 29), (0, u "java/util/Collection")] 27

/-- java/util/SequencedCollection -/
def k28 : Class := { plain "java/util/SequencedCollection" (some 0) with
  accessFlags := 1537
  interfaces := #[26]
  cf := some (fileOf pool28 8 #[] #[] 1537 26 #[28] #[])
  fields := #[]
  methods := #[]
  instanceTypes := #[]
  staticTypes := #[]
  resolved := Array.replicate 57 none
  statics := none }

def pool29 : Array CpInfo := pool [(8, .class_ 10), (1, u "java/util/List"), (92, .class_ 104), (0, u "java/lang/Object"), (15, .class_ 121), (0, u "java/util/SequencedCollection")] 129

/-- java/util/List -/
def k29 : Class := { plain "java/util/List" (some 0) with
  accessFlags := 1537
  interfaces := #[28]
  cf := some (fileOf pool29 8 #[] #[] 1537 103 #[120] #[])
  fields := #[]
  methods := #[]
  instanceTypes := #[]
  staticTypes := #[]
  resolved := Array.replicate 251 none
  statics := none }

def pool30 : Array CpInfo := pool [(2, .class_ 4), (1, u "java/util/AbstractCollection"), (0, u "<init>"), (0, u "()V"), (1, .class_ 10), (1, u "java/util/AbstractList"), (0, u "modCount"), (0, u "I"), (64, .class_ 78), (0, u "java/util/AbstractList$Itr"), (3, .class_ 83), (0, u "java/util/AbstractList$ListItr"), (9, .class_ 94), (0, u "java/util/AbstractList$RandomAccessSubList"), (3, .class_ 99), (0, u "java/util/AbstractList$SubList"), (33, .class_ 134), (0, u "java/util/List"), (73, .class_ 209), (0, u "java/util/AbstractList$SubList$1"), (0, .class_ 211), (0, u "java/util/AbstractList$RandomAccessSpliterator")] 6

def k30m0 : Method := { name := "<init>", desc := "()V", sig := { parameters := [], returnType := none }, accessFlags := 4, code := none }
/-- java/util/AbstractList -/
def k30 : Class := { plain "java/util/AbstractList" (some 27) with
  accessFlags := 1057
  interfaces := #[29]
  cf := some (fileOf pool30 8 #[.nestMembers #[93, 98, 208, 210, 82, 77]] #[{ accessFlags := 4, nameIndex := 5, descriptorIndex := 6, attributes := #[] }] 1057 2 #[133] #[{ accessFlags := 132, nameIndex := 11, descriptorIndex := 12, attributes := #[] }])
  fields := #[{ name := "modCount", type := .int, accessFlags := 132, slot := 0, constantValue := 0 }]
  methods := #[k30m0]
  instanceTypes := #[.int]
  staticTypes := #[]
  resolved := Array.replicate 218 none
  statics := none }

def pool31 : Array CpInfo := pool [(1, .class_ 2), (0, u "java/util/RandomAccess"), (0, .class_ 4), (0, u "java/lang/Object")] 2

/-- java/util/RandomAccess -/
def k31 : Class := { plain "java/util/RandomAccess" (some 0) with
  accessFlags := 1537
  interfaces := #[]
  cf := some (fileOf pool31 1 #[] #[] 1537 3 #[] #[])
  fields := #[]
  methods := #[]
  instanceTypes := #[]
  staticTypes := #[]
  resolved := Array.replicate 7 none
  statics := none }

def pool32 : Array CpInfo := pool [(2, .class_ 4), (1, u "java/util/AbstractList"), (0, u "<init>"), (0, u "()V"), (1, .class_ 10), (1, u "java/util/Collections"), (54, .class_ 66), (0, u "java/util/Collections$EmptyList"), (0, .class_ 68), (0, u "java/util/RandomAccess"), (0, .class_ 70), (0, u "java/io/Serializable"), (0, u "serialVersionUID"), (0, u "J")] 77

def k32m0 : Method := { name := "<init>", desc := "()V", sig := { parameters := [], returnType := none }, accessFlags := 2, code := none }
/-- java/util/Collections$EmptyList -/
def k32 : Class := { plain "java/util/Collections$EmptyList" (some 30) with
  accessFlags := 32
  interfaces := #[31, 2]
  cf := some (fileOf pool32 65 #[.nestHost 8] #[{ accessFlags := 2, nameIndex := 5, descriptorIndex := 6, attributes := #[] }] 32 2 #[67, 69] #[{ accessFlags := 26, nameIndex := 71, descriptorIndex := 72, attributes := #[] }])
  fields := #[{ name := "serialVersionUID", type := .long, accessFlags := 26, slot := 0, constantValue := 0 }]
  methods := #[k32m0]
  instanceTypes := #[.int]
  staticTypes := #[.long]
  resolved := Array.replicate 150 none
  statics := none }

def pool33 : Array CpInfo := pool [(2, .class_ 4), (1, u "java/lang/StackTraceElement"), (0, u "<init>"), (2, .class_ 10), (1, u "java/lang/Object"), (0, u "()V"), (2, u "format"), (0, u "B"), (2, u "classLoaderName"), (0, u "Ljava/lang/String;"), (2, u "moduleName"), (2, u "moduleVersion"), (12, u "declaringClass"), (4, u "methodName"), (2, u "fileName"), (2, u "lineNumber"), (0, u "I"), (65, u "declaringClassObject"), (0, u "Ljava/lang/Class;"), (33, .class_ 153), (1, u "java/lang/StackTraceElement$HashedModules"), (17, .class_ 172), (0, u "java/io/Serializable"), (0, u "NATIVE_METHOD"), (1, u "UNKNOWN_SOURCE"), (2, u "BUILTIN_CLASS_LOADER"), (1, u "JDK_NON_UPGRADEABLE_MODULE"), (1, u "serialVersionUID"), (0, u "J")] 51

def k33m0 : Method := { name := "<init>", desc := "()V", sig := { parameters := [], returnType := none }, accessFlags := 2, code := none }
/-- java/lang/StackTraceElement -/
def k33 : Class := { plain "java/lang/StackTraceElement" (some 0) with
  accessFlags := 49
  interfaces := #[2]
  cf := some (fileOf pool33 2 #[.nestMembers #[151]] #[{ accessFlags := 2, nameIndex := 5, descriptorIndex := 11, attributes := #[] }] 49 8 #[171] #[{ accessFlags := 26, nameIndex := 173, descriptorIndex := 19, attributes := #[] }, { accessFlags := 26, nameIndex := 175, descriptorIndex := 19, attributes := #[] }, { accessFlags := 130, nameIndex := 116, descriptorIndex := 117, attributes := #[] }, { accessFlags := 2, nameIndex := 18, descriptorIndex := 19, attributes := #[] }, { accessFlags := 2, nameIndex := 22, descriptorIndex := 19, attributes := #[] }, { accessFlags := 2, nameIndex := 25, descriptorIndex := 19, attributes := #[] }, { accessFlags := 2, nameIndex := 38, descriptorIndex := 19, attributes := #[] }, { accessFlags := 2, nameIndex := 43, descriptorIndex := 19, attributes := #[] }, { accessFlags := 2, nameIndex := 46, descriptorIndex := 19, attributes := #[] }, { accessFlags := 2, nameIndex := 49, descriptorIndex := 50, attributes := #[] }, { accessFlags := 2, nameIndex := 14, descriptorIndex := 15, attributes := #[] }, { accessFlags := 26, nameIndex := 178, descriptorIndex := 15, attributes := #[] }, { accessFlags := 26, nameIndex := 180, descriptorIndex := 15, attributes := #[] }, { accessFlags := 26, nameIndex := 182, descriptorIndex := 183, attributes := #[] }])
  fields := #[{ name := "NATIVE_METHOD", type := (.object "java/lang/String"), accessFlags := 26, slot := 0, constantValue := 0 }, { name := "UNKNOWN_SOURCE", type := (.object "java/lang/String"), accessFlags := 26, slot := 1, constantValue := 0 }, { name := "declaringClassObject", type := (.object "java/lang/Class"), accessFlags := 130, slot := 0, constantValue := 0 }, { name := "classLoaderName", type := (.object "java/lang/String"), accessFlags := 2, slot := 1, constantValue := 0 }, { name := "moduleName", type := (.object "java/lang/String"), accessFlags := 2, slot := 2, constantValue := 0 }, { name := "moduleVersion", type := (.object "java/lang/String"), accessFlags := 2, slot := 3, constantValue := 0 }, { name := "declaringClass", type := (.object "java/lang/String"), accessFlags := 2, slot := 4, constantValue := 0 }, { name := "methodName", type := (.object "java/lang/String"), accessFlags := 2, slot := 5, constantValue := 0 }, { name := "fileName", type := (.object "java/lang/String"), accessFlags := 2, slot := 6, constantValue := 0 }, { name := "lineNumber", type := .int, accessFlags := 2, slot := 7, constantValue := 0 }, { name := "format", type := .byte, accessFlags := 2, slot := 8, constantValue := 0 }, { name := "BUILTIN_CLASS_LOADER", type := .byte, accessFlags := 26, slot := 2, constantValue := 0 }, { name := "JDK_NON_UPGRADEABLE_MODULE", type := .byte, accessFlags := 26, slot := 3, constantValue := 0 }, { name := "serialVersionUID", type := .long, accessFlags := 26, slot := 4, constantValue := 0 }]
  methods := #[k33m0]
  instanceTypes := #[(.object "java/lang/Class"), (.object "java/lang/String"), (.object "java/lang/String"), (.object "java/lang/String"), (.object "java/lang/String"), (.object "java/lang/String"), (.object "java/lang/String"), .int, .byte]
  staticTypes := #[(.object "java/lang/String"), (.object "java/lang/String"), .byte, .byte, .long]
  resolved := Array.replicate 235 none
  statics := none }

def pool34 : Array CpInfo := pool [(1, u "java/lang/Cloneable"), (0, .class_ 1), (0, u "java/lang/Object"), (0, .class_ 3)] 3

/-- java/lang/Cloneable -/
def k34 : Class := { plain "java/lang/Cloneable" (some 0) with
  accessFlags := 1537
  interfaces := #[]
  cf := some (fileOf pool34 2 #[] #[] 1537 4 #[] #[])
  fields := #[]
  methods := #[]
  instanceTypes := #[]
  staticTypes := #[]
  resolved := Array.replicate 8 none
  statics := none }

/-- the primitive byte -/
def k35 : Class := { plain "byte" none with kind := .primitive 'B', accessFlags := 0x411 }
/-- [B -/
def k36 : Class := { plain "[B" (some 0) with kind := .array 35 .byte, interfaces := #[34, 2], accessFlags := 1041 }

/-- the primitive char -/
def k37 : Class := { plain "char" none with kind := .primitive 'C', accessFlags := 0x411 }
/-- [C -/
def k38 : Class := { plain "[C" (some 0) with kind := .array 37 .char, interfaces := #[34, 2], accessFlags := 1041 }

/-- the primitive int -/
def k39 : Class := { plain "int" none with kind := .primitive 'I', accessFlags := 0x411 }
/-- [I -/
def k40 : Class := { plain "[I" (some 0) with kind := .array 39 .int, interfaces := #[34, 2], accessFlags := 1041 }

/-- [Ljava/lang/Object; -/
def k41 : Class := { plain "[Ljava/lang/Object;" (some 0) with kind := .array 0 (.object "java/lang/Object"), interfaces := #[34, 2], accessFlags := 1041 }

/-- [Ljava/lang/StackTraceElement; -/
def k42 : Class := { plain "[Ljava/lang/StackTraceElement;" (some 0) with kind := .array 33 (.object "java/lang/StackTraceElement"), interfaces := #[34, 2], accessFlags := 1041 }

/-- [Ljava/lang/Throwable; -/
def k43 : Class := { plain "[Ljava/lang/Throwable;" (some 0) with kind := .array 9 (.object "java/lang/Throwable"), interfaces := #[34, 2], accessFlags := 1041 }

def heap : Heap := #[{ cls := 7, slots := #[.long 0, .int 1, .null, .int 0, .null, .int 0, .int 0], vm := .statics 7 },
  { cls := 9, slots := #[.long 0, .ref 4, .ref 6, .null, .null, .null, .null, .ref 5, .int 1], vm := .statics 9 },
  { cls := 22, slots := #[.null, .null, .null], vm := .statics 22 },
  { cls := 24, slots := #[.int 0, .int 0, .int 0, .int 0, .int 0, .int 0, .int 0, .int 0, .null, .null, .ref 6, .null], vm := .statics 24 },
  { cls := 42, slots := #[], vm := .none },
  { cls := 43, slots := #[], vm := .none },
  { cls := 32, slots := #[.int 0], vm := .none }]
def classes : Array Class := #[k0, k1, k2, k3, k4, k5, k6, k7, k8, k9, k10, k11, k12, k13, k14, k15, k16, k17, k18, k19, k20, k21, k22, k23, k24, k25, k26, k27, k28, k29, k30, k31, k32, k33, k34, k35, k36, k37, k38, k39, k40, k41, k42, k43]
def interned : List (Array UInt16 × Addr) := []
def slotsUsed : Nat := 32
def theMethod : MethodId := ⟨1, 1⟩
def args0 : Array Value := #[.int 1, .int 2, .int 3, .int 1]
def aboutOver (below : List Frame) : State where
  vm := { classes := classes, interned := interned.toArray }
  heap := heap
  slotsUsed := slotsUsed
  threads := #[{ frames := .invoking theMethod args0 :: below }]
def below0 : List Frame := [.native { method := ⟨0, 0⟩, args := #[] }]
def about1 : State := aboutOver below0
def p0 : Program := .bare "" "" ""
def e0 : Env := launch0.env 0 0 0
theorem w_frames : about1.frames = Frame.invoking theMethod args0 :: below0 := rfl
set_option maxRecDepth 65536 in
theorem w_args : argsFit about1.vm theMethod args0 = true := by decide +kernel
set_option maxRecDepth 65536 in
theorem w_heap : heapFits about1 = true := by decide +kernel
set_option maxRecDepth 65536 in
theorem w_runnable : about1.curStatus? = some .runnable := by decide +kernel
set_option maxRecDepth 65536 in
theorem w_alone : about1.alone = true := by decide +kernel
set_option maxRecDepth 65536 in
theorem w_named : about1.methodNamed? x = some theMethod := by decide +kernel
set_option maxRecDepth 65536 in
theorem w_hears : about1.hears theMethod below0 = true := by decide +kernel
set_option maxRecDepth 65536 in
theorem w_ripe : about1.ripe theMethod args0 below0 = true := by decide +kernel
theorem w_running : about1.status = .running := rfl
set_option maxRecDepth 65536 in
theorem w_room : about1.hasRoom e0.platform room_1 = true :=
  launch0.hasRoom_least _ room_1 (by decide +kernel) (by decide +kernel) (by decide +kernel) (by decide +kernel) (by decide +kernel) (by decide +kernel)
theorem allAtoms_all (ts : List Jvm.Cond) (a : Array Jvm.Value) (st : Jvm.State) : (allAtoms ts).before a st = ts.all (fun c => c.before a st) := by
  induction ts with
  | nil => rfl
  | cons c t ih =>
    show (Jvm.Cond.and c (allAtoms t)).before a st = _
    rw [Jvm.Cond.before_and, ih, List.all_cons]
def words1 : List Jvm.Cond := Jvm.Cond.code x code maxLocals ret :: tables_1
/-- a 'code' word, met by the world's own term for the bytes: nothing is compared byte by byte -/
theorem code_word {y : MethodName} {bytes : ByteArray} {mx : Nat} {rt : Option FieldType} {a : Array Value} {s : State} {m : MethodId} {meth : Method} {c : Code} (h1 : s.methodNamed? y = some m) (h2 : s.vm.method? m = some meth) (h3 : meth.code = some c) (h4 : c.code = bytes)
    (h5 : (c.maxLocals == mx && c.exceptionTable.isEmpty && decide (c.maxStack ≤ mostOperands) && decide (meth.sig.returnType = rt) && !meth.locks && decide (parseMethodDescriptor y.desc = some meth.sig)) = true) : (Jvm.Cond.code y bytes mx rt).before a s = true := by
  simp only [Bool.and_eq_true, beq_iff_eq, Bool.not_eq_true', decide_eq_true_eq] at h5
  obtain ⟨⟨⟨⟨⟨g1, g2⟩, g3⟩, g4⟩, g5⟩, g6⟩ := h5
  simp [Cond.before, Cond.holds, Cond.value, h1, h2, h3, h4, g1, g2, g3, g4, g5, g6]
def isCode : Jvm.Cond → Bool
  | .code _ _ _ _ => true
  | _ => false
theorem all_split {L : List Jvm.Cond} {P : Jvm.Cond → Bool} (h1 : L.all (fun c => isCode c || P c) = true) (h2 : ∀ c ∈ L.filter isCode, P c = true) : L.all P = true := by
  refine List.all_eq_true.mpr fun c hc => ?_
  have h := List.all_eq_true.mp h1 c hc
  rcases Bool.eq_false_or_eq_true (isCode c) with hi | hi
  · exact h2 c (List.mem_filter.mpr ⟨hc, hi⟩)
  · simpa [hi] using h
set_option maxRecDepth 65536 in
theorem w_c0 : (Jvm.Cond.code x code maxLocals ret).before args0 about1 = true := code_word (m := ⟨1, 1⟩) (meth := k1m1) (c := k1c1) (by decide +kernel) rfl rfl rfl (by decide +kernel)
set_option maxRecDepth 65536 in
theorem w_c1 : (Jvm.Cond.code ({ cls := "com/example/lease/lease/core/InvalidFieldExceptionWithinPinLaw", name := "str", desc := "(II)Ljava/lang/String;" } : Jvm.MethodName) method_4_code (3 : Nat) (Option.some (Jvm.ClassFile.FieldType.object "java/lang/String"))).before args0 about1 = true := code_word (m := ⟨1, 3⟩) (meth := k1m3) (c := k1c3) (by decide +kernel) rfl rfl rfl (by decide +kernel)
set_option maxRecDepth 65536 in
theorem w_c2 : (Jvm.Cond.code ({ cls := "com/example/lease/lease/core/InvalidFieldExceptionWithinPinLaw", name := "put", desc := "([CIII)V" } : Jvm.MethodName) method_5_code (4 : Nat) (Option.none : Option Jvm.ClassFile.FieldType)).before args0 about1 = true := code_word (m := ⟨1, 4⟩) (meth := k1m4) (c := k1c4) (by decide +kernel) rfl rfl rfl (by decide +kernel)
set_option maxRecDepth 65536 in
theorem w_c3 : (Jvm.Cond.code ({ cls := "com/example/lease/lease/core/InvalidFieldExceptionWithinPinLaw", name := "ch", desc := "(II)C" } : Jvm.MethodName) method_3_code (2 : Nat) (Option.some Jvm.ClassFile.FieldType.char)).before args0 about1 = true := code_word (m := ⟨1, 2⟩) (meth := k1m2) (c := k1c2) (by decide +kernel) rfl rfl rfl (by decide +kernel)
set_option maxRecDepth 65536 in
theorem w_c4 : (Jvm.Cond.code ({ cls := "java/lang/String", name := "<init>", desc := "([C)V" } : Jvm.MethodName) jdk_42_method_3_code (2 : Nat) (Option.none : Option Jvm.ClassFile.FieldType)).before args0 about1 = true := code_word (m := ⟨7, 1⟩) (meth := k7m1) (c := k7c1) (by decide +kernel) rfl rfl rfl (by decide +kernel)
set_option maxRecDepth 65536 in
theorem w_c5 : (Jvm.Cond.code ({ cls := "java/lang/String", name := "<init>", desc := "([CIILjava/lang/Void;)V" } : Jvm.MethodName) jdk_42_method_149_code (6 : Nat) (Option.none : Option Jvm.ClassFile.FieldType)).before args0 about1 = true := code_word (m := ⟨7, 6⟩) (meth := k7m6) (c := k7c6) (by decide +kernel) rfl rfl rfl (by decide +kernel)
set_option maxRecDepth 65536 in
theorem w_c6 : (Jvm.Cond.code ({ cls := "java/lang/Object", name := "<init>", desc := "()V" } : Jvm.MethodName) object_method_1_code (1 : Nat) (Option.none : Option Jvm.ClassFile.FieldType)).before args0 about1 = true := code_word (m := ⟨0, 0⟩) (meth := k0m0) (c := k0c0) (by decide +kernel) rfl rfl rfl (by decide +kernel)
set_option maxRecDepth 65536 in
theorem w_c7 : (Jvm.Cond.code ({ cls := "java/lang/StringUTF16", name := "compress", desc := "([CII)[B" } : Jvm.MethodName) jdk_52_method_16_code (6 : Nat) (Option.some (Jvm.ClassFile.FieldType.array Jvm.ClassFile.FieldType.byte))).before args0 about1 = true := code_word (m := ⟨8, 2⟩) (meth := k8m2) (c := k8c2) (by decide +kernel) rfl rfl rfl (by decide +kernel)
set_option maxRecDepth 65536 in
theorem w_c8 : (Jvm.Cond.code ({ cls := "java/lang/StringUTF16", name := "compress", desc := "([CI[BII)I" } : Jvm.MethodName) jdk_52_method_21_code (7 : Nat) (Option.some Jvm.ClassFile.FieldType.int)).before args0 about1 = true := code_word (m := ⟨8, 3⟩) (meth := k8m3) (c := k8c3) (by decide +kernel) rfl rfl rfl (by decide +kernel)
set_option maxRecDepth 65536 in
theorem w_c9 : (Jvm.Cond.code ({ cls := "java/lang/StringUTF16", name := "coderFromArrayLen", desc := "([BI)B" } : Jvm.MethodName) jdk_52_method_15_code (2 : Nat) (Option.some Jvm.ClassFile.FieldType.byte)).before args0 about1 = true := code_word (m := ⟨8, 1⟩) (meth := k8m1) (c := k8c1) (by decide +kernel) rfl rfl rfl (by decide +kernel)
set_option maxRecDepth 65536 in
theorem w_c10 : (Jvm.Cond.code ({ cls := "com/example/lease/lease/core/InvalidFieldException", name := "<init>", desc := "(Ljava/lang/String;Ljava/lang/String;)V" } : Jvm.MethodName) prog_10_method_1_code (3 : Nat) (Option.none : Option Jvm.ClassFile.FieldType)).before args0 about1 = true := code_word (m := ⟨13, 0⟩) (meth := k13m0) (c := k13c0) (by decide +kernel) rfl rfl rfl (by decide +kernel)
set_option maxRecDepth 65536 in
theorem w_c11 : (Jvm.Cond.code ({ cls := "java/lang/StringBuilder", name := "<init>", desc := "()V" } : Jvm.MethodName) jdk_67_method_1_code (1 : Nat) (Option.none : Option Jvm.ClassFile.FieldType)).before args0 about1 = true := code_word (m := ⟨16, 0⟩) (meth := k16m0) (c := k16c0) (by decide +kernel) rfl rfl rfl (by decide +kernel)
set_option maxRecDepth 65536 in
theorem w_c12 : (Jvm.Cond.code ({ cls := "java/lang/AbstractStringBuilder", name := "<init>", desc := "(I)V" } : Jvm.MethodName) jdk_68_method_2_code (2 : Nat) (Option.none : Option Jvm.ClassFile.FieldType)).before args0 about1 = true := code_word (m := ⟨15, 1⟩) (meth := k15m1) (c := k15c1) (by decide +kernel) rfl rfl rfl (by decide +kernel)
set_option maxRecDepth 65536 in
theorem w_c13 : (Jvm.Cond.code ({ cls := "java/lang/StringBuilder", name := "append", desc := "(Ljava/lang/String;)Ljava/lang/StringBuilder;" } : Jvm.MethodName) jdk_67_method_7_code (2 : Nat) (Option.some (Jvm.ClassFile.FieldType.object "java/lang/StringBuilder"))).before args0 about1 = true := code_word (m := ⟨16, 1⟩) (meth := k16m1) (c := k16c1) (by decide +kernel) rfl rfl rfl (by decide +kernel)
set_option maxRecDepth 65536 in
theorem w_c14 : (Jvm.Cond.code ({ cls := "java/lang/AbstractStringBuilder", name := "append", desc := "(Ljava/lang/String;)Ljava/lang/AbstractStringBuilder;" } : Jvm.MethodName) jdk_68_method_22_code (3 : Nat) (Option.some (Jvm.ClassFile.FieldType.object "java/lang/AbstractStringBuilder"))).before args0 about1 = true := code_word (m := ⟨15, 4⟩) (meth := k15m4) (c := k15c4) (by decide +kernel) rfl rfl rfl (by decide +kernel)
set_option maxRecDepth 65536 in
theorem w_c15 : (Jvm.Cond.code ({ cls := "java/lang/String", name := "length", desc := "()I" } : Jvm.MethodName) jdk_42_method_54_code (1 : Nat) (Option.some Jvm.ClassFile.FieldType.int)).before args0 about1 = true := code_word (m := ⟨7, 3⟩) (meth := k7m3) (c := k7c3) (by decide +kernel) rfl rfl rfl (by decide +kernel)
set_option maxRecDepth 65536 in
theorem w_c16 : (Jvm.Cond.code ({ cls := "java/lang/String", name := "coder", desc := "()B" } : Jvm.MethodName) jdk_42_method_152_code (1 : Nat) (Option.some Jvm.ClassFile.FieldType.byte)).before args0 about1 = true := code_word (m := ⟨7, 8⟩) (meth := k7m8) (c := k7c8) (by decide +kernel) rfl rfl rfl (by decide +kernel)
set_option maxRecDepth 65536 in
theorem w_c17 : (Jvm.Cond.code ({ cls := "java/lang/AbstractStringBuilder", name := "ensureCapacityInternal", desc := "(I)V" } : Jvm.MethodName) jdk_68_method_9_code (3 : Nat) (Option.none : Option Jvm.ClassFile.FieldType)).before args0 about1 = true := code_word (m := ⟨15, 3⟩) (meth := k15m3) (c := k15c3) (by decide +kernel) rfl rfl rfl (by decide +kernel)
set_option maxRecDepth 65536 in
theorem w_c18 : (Jvm.Cond.code ({ cls := "java/lang/AbstractStringBuilder", name := "putStringAt", desc := "(ILjava/lang/String;)V" } : Jvm.MethodName) jdk_68_method_73_code (3 : Nat) (Option.none : Option Jvm.ClassFile.FieldType)).before args0 about1 = true := code_word (m := ⟨15, 8⟩) (meth := k15m8) (c := k15c8) (by decide +kernel) rfl rfl rfl (by decide +kernel)
set_option maxRecDepth 65536 in
theorem w_c19 : (Jvm.Cond.code ({ cls := "java/lang/AbstractStringBuilder", name := "inflateIfNeededFor", desc := "(Ljava/lang/String;)V" } : Jvm.MethodName) jdk_68_method_71_code (2 : Nat) (Option.none : Option Jvm.ClassFile.FieldType)).before args0 about1 = true := code_word (m := ⟨15, 7⟩) (meth := k15m7) (c := k15c7) (by decide +kernel) rfl rfl rfl (by decide +kernel)
set_option maxRecDepth 65536 in
theorem w_c20 : (Jvm.Cond.code ({ cls := "java/lang/String", name := "getBytes", desc := "([BIB)V" } : Jvm.MethodName) jdk_42_method_147_code (4 : Nat) (Option.none : Option Jvm.ClassFile.FieldType)).before args0 about1 = true := code_word (m := ⟨7, 5⟩) (meth := k7m5) (c := k7c5) (by decide +kernel) rfl rfl rfl (by decide +kernel)
set_option maxRecDepth 65536 in
theorem w_c21 : (Jvm.Cond.code ({ cls := "java/lang/StringBuilder", name := "toString", desc := "()Ljava/lang/String;" } : Jvm.MethodName) jdk_67_method_42_code (1 : Nat) (Option.some (Jvm.ClassFile.FieldType.object "java/lang/String"))).before args0 about1 = true := code_word (m := ⟨16, 2⟩) (meth := k16m2) (c := k16c2) (by decide +kernel) rfl rfl rfl (by decide +kernel)
set_option maxRecDepth 65536 in
theorem w_c22 : (Jvm.Cond.code ({ cls := "java/lang/String", name := "<init>", desc := "(Ljava/lang/StringBuilder;)V" } : Jvm.MethodName) jdk_42_method_53_code (2 : Nat) (Option.none : Option Jvm.ClassFile.FieldType)).before args0 about1 = true := code_word (m := ⟨7, 2⟩) (meth := k7m2) (c := k7c2) (by decide +kernel) rfl rfl rfl (by decide +kernel)
set_option maxRecDepth 65536 in
theorem w_c23 : (Jvm.Cond.code ({ cls := "java/lang/String", name := "<init>", desc := "(Ljava/lang/AbstractStringBuilder;Ljava/lang/Void;)V" } : Jvm.MethodName) jdk_42_method_150_code (5 : Nat) (Option.none : Option Jvm.ClassFile.FieldType)).before args0 about1 = true := code_word (m := ⟨7, 7⟩) (meth := k7m7) (c := k7c7) (by decide +kernel) rfl rfl rfl (by decide +kernel)
set_option maxRecDepth 65536 in
theorem w_c24 : (Jvm.Cond.code ({ cls := "java/lang/AbstractStringBuilder", name := "getValue", desc := "()[B" } : Jvm.MethodName) jdk_68_method_64_code (1 : Nat) (Option.some (Jvm.ClassFile.FieldType.array Jvm.ClassFile.FieldType.byte))).before args0 about1 = true := code_word (m := ⟨15, 5⟩) (meth := k15m5) (c := k15c5) (by decide +kernel) rfl rfl rfl (by decide +kernel)
set_option maxRecDepth 65536 in
theorem w_c25 : (Jvm.Cond.code ({ cls := "java/lang/StringBuilder", name := "length", desc := "()I" } : Jvm.MethodName) jdk_67_method_93_code (1 : Nat) (Option.some Jvm.ClassFile.FieldType.int)).before args0 about1 = true := code_word (m := ⟨16, 3⟩) (meth := k16m3) (c := k16c3) (by decide +kernel) rfl rfl rfl (by decide +kernel)
set_option maxRecDepth 65536 in
theorem w_c26 : (Jvm.Cond.code ({ cls := "java/lang/AbstractStringBuilder", name := "length", desc := "()I" } : Jvm.MethodName) jdk_68_method_6_code (1 : Nat) (Option.some Jvm.ClassFile.FieldType.int)).before args0 about1 = true := code_word (m := ⟨15, 2⟩) (meth := k15m2) (c := k15c2) (by decide +kernel) rfl rfl rfl (by decide +kernel)
set_option maxRecDepth 65536 in
theorem w_c27 : (Jvm.Cond.code ({ cls := "java/lang/AbstractStringBuilder", name := "isLatin1", desc := "()Z" } : Jvm.MethodName) jdk_68_method_68_code (1 : Nat) (Option.some Jvm.ClassFile.FieldType.boolean)).before args0 about1 = true := code_word (m := ⟨15, 6⟩) (meth := k15m6) (c := k15c6) (by decide +kernel) rfl rfl rfl (by decide +kernel)
set_option maxRecDepth 65536 in
theorem w_c28 : (Jvm.Cond.code ({ cls := "java/util/Arrays", name := "copyOfRange", desc := "([BII)[B" } : Jvm.MethodName) jdk_65_method_132_code (3 : Nat) (Option.some (Jvm.ClassFile.FieldType.array Jvm.ClassFile.FieldType.byte))).before args0 about1 = true := code_word (m := ⟨18, 2⟩) (meth := k18m2) (c := k18c2) (by decide +kernel) rfl rfl rfl (by decide +kernel)
set_option maxRecDepth 65536 in
theorem w_c29 : (Jvm.Cond.code ({ cls := "java/util/Arrays", name := "copyOfRangeByte", desc := "([BII)[B" } : Jvm.MethodName) jdk_65_method_133_code (5 : Nat) (Option.some (Jvm.ClassFile.FieldType.array Jvm.ClassFile.FieldType.byte))).before args0 about1 = true := code_word (m := ⟨18, 3⟩) (meth := k18m3) (c := k18c3) (by decide +kernel) rfl rfl rfl (by decide +kernel)
set_option maxRecDepth 65536 in
theorem w_c30 : (Jvm.Cond.code ({ cls := "java/util/Arrays", name := "checkLength", desc := "(II)V" } : Jvm.MethodName) jdk_65_method_131_code (2 : Nat) (Option.none : Option Jvm.ClassFile.FieldType)).before args0 about1 = true := code_word (m := ⟨18, 1⟩) (meth := k18m1) (c := k18c1) (by decide +kernel) rfl rfl rfl (by decide +kernel)
set_option maxRecDepth 65536 in
theorem w_c31 : (Jvm.Cond.code ({ cls := "java/lang/Math", name := "min", desc := "(II)I" } : Jvm.MethodName) jdk_29_method_69_code (2 : Nat) (Option.some Jvm.ClassFile.FieldType.int)).before args0 about1 = true := code_word (m := ⟨19, 1⟩) (meth := k19m1) (c := k19c1) (by decide +kernel) rfl rfl rfl (by decide +kernel)
set_option maxRecDepth 65536 in
theorem w_c32 : (Jvm.Cond.code ({ cls := "java/lang/IllegalArgumentException", name := "<init>", desc := "(Ljava/lang/String;)V" } : Jvm.MethodName) jdk_57_method_2_code (2 : Nat) (Option.none : Option Jvm.ClassFile.FieldType)).before args0 about1 = true := code_word (m := ⟨12, 1⟩) (meth := k12m1) (c := k12c1) (by decide +kernel) rfl rfl rfl (by decide +kernel)
set_option maxRecDepth 65536 in
theorem w_c33 : (Jvm.Cond.code ({ cls := "java/lang/RuntimeException", name := "<init>", desc := "(Ljava/lang/String;)V" } : Jvm.MethodName) jdk_58_method_2_code (2 : Nat) (Option.none : Option Jvm.ClassFile.FieldType)).before args0 about1 = true := code_word (m := ⟨11, 1⟩) (meth := k11m1) (c := k11c1) (by decide +kernel) rfl rfl rfl (by decide +kernel)
set_option maxRecDepth 65536 in
theorem w_c34 : (Jvm.Cond.code ({ cls := "java/lang/Exception", name := "<init>", desc := "(Ljava/lang/String;)V" } : Jvm.MethodName) jdk_59_method_2_code (2 : Nat) (Option.none : Option Jvm.ClassFile.FieldType)).before args0 about1 = true := code_word (m := ⟨10, 1⟩) (meth := k10m1) (c := k10c1) (by decide +kernel) rfl rfl rfl (by decide +kernel)
set_option maxRecDepth 65536 in
theorem w_c35 : (Jvm.Cond.code ({ cls := "java/lang/Throwable", name := "<init>", desc := "(Ljava/lang/String;)V" } : Jvm.MethodName) jdk_78_method_2_code (2 : Nat) (Option.none : Option Jvm.ClassFile.FieldType)).before args0 about1 = true := code_word (m := ⟨9, 1⟩) (meth := k9m1) (c := k9c1) (by decide +kernel) rfl rfl rfl (by decide +kernel)
set_option maxRecDepth 65536 in
theorem w_c36 : (Jvm.Cond.code ({ cls := "java/lang/Throwable", name := "<init>", desc := "()V" } : Jvm.MethodName) jdk_78_method_1_code (1 : Nat) (Option.none : Option Jvm.ClassFile.FieldType)).before args0 about1 = true := code_word (m := ⟨9, 0⟩) (meth := k9m0) (c := k9c0) (by decide +kernel) rfl rfl rfl (by decide +kernel)
set_option maxRecDepth 65536 in
theorem w_c37 : (Jvm.Cond.code ({ cls := "java/util/Objects", name := "requireNonNull", desc := "(Ljava/lang/Object;Ljava/lang/String;)Ljava/lang/Object;" } : Jvm.MethodName) jdk_31_method_11_code (2 : Nat) (Option.some (Jvm.ClassFile.FieldType.object "java/lang/Object"))).before args0 about1 = true := code_word (m := ⟨20, 1⟩) (meth := k20m1) (c := k20c1) (by decide +kernel) rfl rfl rfl (by decide +kernel)
set_option maxRecDepth 65536 in
theorem w_c38 : (Jvm.Cond.code ({ cls := "com/example/lease/lease/core/InvalidFieldException", name := "within", desc := "(Ljava/lang/String;)Lcom/example/lease/lease/core/InvalidFieldException;" } : Jvm.MethodName) prog_10_method_4_code (2 : Nat) (Option.some (Jvm.ClassFile.FieldType.object "com/example/lease/lease/core/InvalidFieldException"))).before args0 about1 = true := code_word (m := ⟨13, 3⟩) (meth := k13m3) (c := k13c3) (by decide +kernel) rfl rfl rfl (by decide +kernel)
set_option maxRecDepth 65536 in
theorem w_c39 : (Jvm.Cond.code ({ cls := "com/example/lease/lease/core/InvalidFieldException", name := "field", desc := "()Ljava/lang/String;" } : Jvm.MethodName) prog_10_method_2_code (1 : Nat) (Option.some (Jvm.ClassFile.FieldType.object "java/lang/String"))).before args0 about1 = true := code_word (m := ⟨13, 1⟩) (meth := k13m1) (c := k13c1) (by decide +kernel) rfl rfl rfl (by decide +kernel)
set_option maxRecDepth 65536 in
theorem w_c40 : (Jvm.Cond.code ({ cls := "java/lang/String", name := "equals", desc := "(Ljava/lang/Object;)Z" } : Jvm.MethodName) jdk_42_method_66_code (3 : Nat) (Option.some Jvm.ClassFile.FieldType.boolean)).before args0 about1 = true := code_word (m := ⟨7, 4⟩) (meth := k7m4) (c := k7c4) (by decide +kernel) rfl rfl rfl (by decide +kernel)
set_option maxRecDepth 65536 in
theorem w_c41 : (Jvm.Cond.code ({ cls := "java/lang/StringLatin1", name := "equals", desc := "([B[B)Z" } : Jvm.MethodName) jdk_43_method_13_code (3 : Nat) (Option.some Jvm.ClassFile.FieldType.boolean)).before args0 about1 = true := code_word (m := ⟨21, 1⟩) (meth := k21m1) (c := k21c1) (by decide +kernel) rfl rfl rfl (by decide +kernel)
set_option maxRecDepth 65536 in
theorem w_c42 : (Jvm.Cond.code ({ cls := "com/example/lease/lease/core/InvalidFieldException", name := "reason", desc := "()Ljava/lang/String;" } : Jvm.MethodName) prog_10_method_3_code (1 : Nat) (Option.some (Jvm.ClassFile.FieldType.object "java/lang/String"))).before args0 about1 = true := code_word (m := ⟨13, 2⟩) (meth := k13m2) (c := k13c2) (by decide +kernel) rfl rfl rfl (by decide +kernel)
def codes1 : List Jvm.Cond := [Jvm.Cond.code x code maxLocals ret, Jvm.Cond.code ({ cls := "com/example/lease/lease/core/InvalidFieldExceptionWithinPinLaw", name := "str", desc := "(II)Ljava/lang/String;" } : Jvm.MethodName) method_4_code (3 : Nat) (Option.some (Jvm.ClassFile.FieldType.object "java/lang/String")), Jvm.Cond.code ({ cls := "com/example/lease/lease/core/InvalidFieldExceptionWithinPinLaw", name := "put", desc := "([CIII)V" } : Jvm.MethodName) method_5_code (4 : Nat) (Option.none : Option Jvm.ClassFile.FieldType), Jvm.Cond.code ({ cls := "com/example/lease/lease/core/InvalidFieldExceptionWithinPinLaw", name := "ch", desc := "(II)C" } : Jvm.MethodName) method_3_code (2 : Nat) (Option.some Jvm.ClassFile.FieldType.char), Jvm.Cond.code ({ cls := "java/lang/String", name := "<init>", desc := "([C)V" } : Jvm.MethodName) jdk_42_method_3_code (2 : Nat) (Option.none : Option Jvm.ClassFile.FieldType), Jvm.Cond.code ({ cls := "java/lang/String", name := "<init>", desc := "([CIILjava/lang/Void;)V" } : Jvm.MethodName) jdk_42_method_149_code (6 : Nat) (Option.none : Option Jvm.ClassFile.FieldType), Jvm.Cond.code ({ cls := "java/lang/Object", name := "<init>", desc := "()V" } : Jvm.MethodName) object_method_1_code (1 : Nat) (Option.none : Option Jvm.ClassFile.FieldType), Jvm.Cond.code ({ cls := "java/lang/StringUTF16", name := "compress", desc := "([CII)[B" } : Jvm.MethodName) jdk_52_method_16_code (6 : Nat) (Option.some (Jvm.ClassFile.FieldType.array Jvm.ClassFile.FieldType.byte)), Jvm.Cond.code ({ cls := "java/lang/StringUTF16", name := "compress", desc := "([CI[BII)I" } : Jvm.MethodName) jdk_52_method_21_code (7 : Nat) (Option.some Jvm.ClassFile.FieldType.int), Jvm.Cond.code ({ cls := "java/lang/StringUTF16", name := "coderFromArrayLen", desc := "([BI)B" } : Jvm.MethodName) jdk_52_method_15_code (2 : Nat) (Option.some Jvm.ClassFile.FieldType.byte), Jvm.Cond.code ({ cls := "com/example/lease/lease/core/InvalidFieldException", name := "<init>", desc := "(Ljava/lang/String;Ljava/lang/String;)V" } : Jvm.MethodName) prog_10_method_1_code (3 : Nat) (Option.none : Option Jvm.ClassFile.FieldType), Jvm.Cond.code ({ cls := "java/lang/StringBuilder", name := "<init>", desc := "()V" } : Jvm.MethodName) jdk_67_method_1_code (1 : Nat) (Option.none : Option Jvm.ClassFile.FieldType), Jvm.Cond.code ({ cls := "java/lang/AbstractStringBuilder", name := "<init>", desc := "(I)V" } : Jvm.MethodName) jdk_68_method_2_code (2 : Nat) (Option.none : Option Jvm.ClassFile.FieldType), Jvm.Cond.code ({ cls := "java/lang/StringBuilder", name := "append", desc := "(Ljava/lang/String;)Ljava/lang/StringBuilder;" } : Jvm.MethodName) jdk_67_method_7_code (2 : Nat) (Option.some (Jvm.ClassFile.FieldType.object "java/lang/StringBuilder")), Jvm.Cond.code ({ cls := "java/lang/AbstractStringBuilder", name := "append", desc := "(Ljava/lang/String;)Ljava/lang/AbstractStringBuilder;" } : Jvm.MethodName) jdk_68_method_22_code (3 : Nat) (Option.some (Jvm.ClassFile.FieldType.object "java/lang/AbstractStringBuilder")), Jvm.Cond.code ({ cls := "java/lang/String", name := "length", desc := "()I" } : Jvm.MethodName) jdk_42_method_54_code (1 : Nat) (Option.some Jvm.ClassFile.FieldType.int), Jvm.Cond.code ({ cls := "java/lang/String", name := "coder", desc := "()B" } : Jvm.MethodName) jdk_42_method_152_code (1 : Nat) (Option.some Jvm.ClassFile.FieldType.byte), Jvm.Cond.code ({ cls := "java/lang/AbstractStringBuilder", name := "ensureCapacityInternal", desc := "(I)V" } : Jvm.MethodName) jdk_68_method_9_code (3 : Nat) (Option.none : Option Jvm.ClassFile.FieldType), Jvm.Cond.code ({ cls := "java/lang/AbstractStringBuilder", name := "putStringAt", desc := "(ILjava/lang/String;)V" } : Jvm.MethodName) jdk_68_method_73_code (3 : Nat) (Option.none : Option Jvm.ClassFile.FieldType), Jvm.Cond.code ({ cls := "java/lang/AbstractStringBuilder", name := "inflateIfNeededFor", desc := "(Ljava/lang/String;)V" } : Jvm.MethodName) jdk_68_method_71_code (2 : Nat) (Option.none : Option Jvm.ClassFile.FieldType), Jvm.Cond.code ({ cls := "java/lang/String", name := "getBytes", desc := "([BIB)V" } : Jvm.MethodName) jdk_42_method_147_code (4 : Nat) (Option.none : Option Jvm.ClassFile.FieldType), Jvm.Cond.code ({ cls := "java/lang/StringBuilder", name := "toString", desc := "()Ljava/lang/String;" } : Jvm.MethodName) jdk_67_method_42_code (1 : Nat) (Option.some (Jvm.ClassFile.FieldType.object "java/lang/String")), Jvm.Cond.code ({ cls := "java/lang/String", name := "<init>", desc := "(Ljava/lang/StringBuilder;)V" } : Jvm.MethodName) jdk_42_method_53_code (2 : Nat) (Option.none : Option Jvm.ClassFile.FieldType), Jvm.Cond.code ({ cls := "java/lang/String", name := "<init>", desc := "(Ljava/lang/AbstractStringBuilder;Ljava/lang/Void;)V" } : Jvm.MethodName) jdk_42_method_150_code (5 : Nat) (Option.none : Option Jvm.ClassFile.FieldType), Jvm.Cond.code ({ cls := "java/lang/AbstractStringBuilder", name := "getValue", desc := "()[B" } : Jvm.MethodName) jdk_68_method_64_code (1 : Nat) (Option.some (Jvm.ClassFile.FieldType.array Jvm.ClassFile.FieldType.byte)), Jvm.Cond.code ({ cls := "java/lang/StringBuilder", name := "length", desc := "()I" } : Jvm.MethodName) jdk_67_method_93_code (1 : Nat) (Option.some Jvm.ClassFile.FieldType.int), Jvm.Cond.code ({ cls := "java/lang/AbstractStringBuilder", name := "length", desc := "()I" } : Jvm.MethodName) jdk_68_method_6_code (1 : Nat) (Option.some Jvm.ClassFile.FieldType.int), Jvm.Cond.code ({ cls := "java/lang/AbstractStringBuilder", name := "isLatin1", desc := "()Z" } : Jvm.MethodName) jdk_68_method_68_code (1 : Nat) (Option.some Jvm.ClassFile.FieldType.boolean), Jvm.Cond.code ({ cls := "java/util/Arrays", name := "copyOfRange", desc := "([BII)[B" } : Jvm.MethodName) jdk_65_method_132_code (3 : Nat) (Option.some (Jvm.ClassFile.FieldType.array Jvm.ClassFile.FieldType.byte)), Jvm.Cond.code ({ cls := "java/util/Arrays", name := "copyOfRangeByte", desc := "([BII)[B" } : Jvm.MethodName) jdk_65_method_133_code (5 : Nat) (Option.some (Jvm.ClassFile.FieldType.array Jvm.ClassFile.FieldType.byte)), Jvm.Cond.code ({ cls := "java/util/Arrays", name := "checkLength", desc := "(II)V" } : Jvm.MethodName) jdk_65_method_131_code (2 : Nat) (Option.none : Option Jvm.ClassFile.FieldType), Jvm.Cond.code ({ cls := "java/lang/Math", name := "min", desc := "(II)I" } : Jvm.MethodName) jdk_29_method_69_code (2 : Nat) (Option.some Jvm.ClassFile.FieldType.int), Jvm.Cond.code ({ cls := "java/lang/IllegalArgumentException", name := "<init>", desc := "(Ljava/lang/String;)V" } : Jvm.MethodName) jdk_57_method_2_code (2 : Nat) (Option.none : Option Jvm.ClassFile.FieldType), Jvm.Cond.code ({ cls := "java/lang/RuntimeException", name := "<init>", desc := "(Ljava/lang/String;)V" } : Jvm.MethodName) jdk_58_method_2_code (2 : Nat) (Option.none : Option Jvm.ClassFile.FieldType), Jvm.Cond.code ({ cls := "java/lang/Exception", name := "<init>", desc := "(Ljava/lang/String;)V" } : Jvm.MethodName) jdk_59_method_2_code (2 : Nat) (Option.none : Option Jvm.ClassFile.FieldType), Jvm.Cond.code ({ cls := "java/lang/Throwable", name := "<init>", desc := "(Ljava/lang/String;)V" } : Jvm.MethodName) jdk_78_method_2_code (2 : Nat) (Option.none : Option Jvm.ClassFile.FieldType), Jvm.Cond.code ({ cls := "java/lang/Throwable", name := "<init>", desc := "()V" } : Jvm.MethodName) jdk_78_method_1_code (1 : Nat) (Option.none : Option Jvm.ClassFile.FieldType), Jvm.Cond.code ({ cls := "java/util/Objects", name := "requireNonNull", desc := "(Ljava/lang/Object;Ljava/lang/String;)Ljava/lang/Object;" } : Jvm.MethodName) jdk_31_method_11_code (2 : Nat) (Option.some (Jvm.ClassFile.FieldType.object "java/lang/Object")), Jvm.Cond.code ({ cls := "com/example/lease/lease/core/InvalidFieldException", name := "within", desc := "(Ljava/lang/String;)Lcom/example/lease/lease/core/InvalidFieldException;" } : Jvm.MethodName) prog_10_method_4_code (2 : Nat) (Option.some (Jvm.ClassFile.FieldType.object "com/example/lease/lease/core/InvalidFieldException")), Jvm.Cond.code ({ cls := "com/example/lease/lease/core/InvalidFieldException", name := "field", desc := "()Ljava/lang/String;" } : Jvm.MethodName) prog_10_method_2_code (1 : Nat) (Option.some (Jvm.ClassFile.FieldType.object "java/lang/String")), Jvm.Cond.code ({ cls := "java/lang/String", name := "equals", desc := "(Ljava/lang/Object;)Z" } : Jvm.MethodName) jdk_42_method_66_code (3 : Nat) (Option.some Jvm.ClassFile.FieldType.boolean), Jvm.Cond.code ({ cls := "java/lang/StringLatin1", name := "equals", desc := "([B[B)Z" } : Jvm.MethodName) jdk_43_method_13_code (3 : Nat) (Option.some Jvm.ClassFile.FieldType.boolean), Jvm.Cond.code ({ cls := "com/example/lease/lease/core/InvalidFieldException", name := "reason", desc := "()Ljava/lang/String;" } : Jvm.MethodName) prog_10_method_3_code (1 : Nat) (Option.some (Jvm.ClassFile.FieldType.object "java/lang/String"))]
set_option maxRecDepth 65536 in
theorem codes_eq : words1.filter isCode = codes1 := rfl
theorem w_codes : ∀ c ∈ words1.filter isCode, c.before args0 about1 = true := by
  rw [codes_eq]
  intro c hc
  simp only [codes1, List.mem_cons, List.not_mem_nil, or_false] at hc
  rcases hc with rfl | rfl | rfl | rfl | rfl | rfl | rfl | rfl | rfl | rfl | rfl | rfl | rfl | rfl | rfl | rfl | rfl | rfl | rfl | rfl | rfl | rfl | rfl | rfl | rfl | rfl | rfl | rfl | rfl | rfl | rfl | rfl | rfl | rfl | rfl | rfl | rfl | rfl | rfl | rfl | rfl | rfl | rfl
  · exact w_c0
  · exact w_c1
  · exact w_c2
  · exact w_c3
  · exact w_c4
  · exact w_c5
  · exact w_c6
  · exact w_c7
  · exact w_c8
  · exact w_c9
  · exact w_c10
  · exact w_c11
  · exact w_c12
  · exact w_c13
  · exact w_c14
  · exact w_c15
  · exact w_c16
  · exact w_c17
  · exact w_c18
  · exact w_c19
  · exact w_c20
  · exact w_c21
  · exact w_c22
  · exact w_c23
  · exact w_c24
  · exact w_c25
  · exact w_c26
  · exact w_c27
  · exact w_c28
  · exact w_c29
  · exact w_c30
  · exact w_c31
  · exact w_c32
  · exact w_c33
  · exact w_c34
  · exact w_c35
  · exact w_c36
  · exact w_c37
  · exact w_c38
  · exact w_c39
  · exact w_c40
  · exact w_c41
  · exact w_c42
set_option maxRecDepth 65536 in
theorem w_t1 : (words1.take 24).all (fun c => isCode c || c.before args0 about1) = true := by decide +kernel
set_option maxRecDepth 65536 in
theorem w_t2 : ((words1.drop 24).take 24).all (fun c => isCode c || c.before args0 about1) = true := by decide +kernel
set_option maxRecDepth 65536 in
theorem w_t3 : (((words1.drop 24).drop 24).take 24).all (fun c => isCode c || c.before args0 about1) = true := by decide +kernel
set_option maxRecDepth 65536 in
theorem w_t4 : ((((words1.drop 24).drop 24).drop 24).take 24).all (fun c => isCode c || c.before args0 about1) = true := by decide +kernel
set_option maxRecDepth 65536 in
theorem w_t5 : (((((words1.drop 24).drop 24).drop 24).drop 24).take 24).all (fun c => isCode c || c.before args0 about1) = true := by decide +kernel
set_option maxRecDepth 65536 in
theorem w_t6 : ((((((words1.drop 24).drop 24).drop 24).drop 24).drop 24).take 24).all (fun c => isCode c || c.before args0 about1) = true := by decide +kernel
set_option maxRecDepth 65536 in
theorem w_t7 : (((((((words1.drop 24).drop 24).drop 24).drop 24).drop 24).drop 24).take 24).all (fun c => isCode c || c.before args0 about1) = true := by decide +kernel
set_option maxRecDepth 65536 in
theorem w_t8 : ((((((((words1.drop 24).drop 24).drop 24).drop 24).drop 24).drop 24).drop 24).take 24).all (fun c => isCode c || c.before args0 about1) = true := by decide +kernel
set_option maxRecDepth 65536 in
theorem w_t9 : (((((((((words1.drop 24).drop 24).drop 24).drop 24).drop 24).drop 24).drop 24).drop 24).take 24).all (fun c => isCode c || c.before args0 about1) = true := by decide +kernel
set_option maxRecDepth 65536 in
theorem w_t10 : ((((((((((words1.drop 24).drop 24).drop 24).drop 24).drop 24).drop 24).drop 24).drop 24).drop 24).take 24).all (fun c => isCode c || c.before args0 about1) = true := by decide +kernel
set_option maxRecDepth 65536 in
theorem w_t11 : ((((((((((words1.drop 24).drop 24).drop 24).drop 24).drop 24).drop 24).drop 24).drop 24).drop 24).drop 24).all (fun c => isCode c || c.before args0 about1) = true := by decide +kernel
theorem w_tables : (allAtoms (Jvm.Cond.code x code maxLocals ret :: tables_1)).before args0 about1 = true := by
  rw [allAtoms_all]
  show words1.all (fun c => c.before args0 about1) = true
  refine all_split ?_ w_codes
  rw [← List.take_append_drop 24 words1, List.all_append, w_t1, ← List.take_append_drop 24 (words1.drop 24), List.all_append, w_t2, ← List.take_append_drop 24 ((words1.drop 24).drop 24), List.all_append, w_t3, ← List.take_append_drop 24 (((words1.drop 24).drop 24).drop 24), List.all_append, w_t4, ← List.take_append_drop 24 ((((words1.drop 24).drop 24).drop 24).drop 24), List.all_append, w_t5, ← List.take_append_drop 24 (((((words1.drop 24).drop 24).drop 24).drop 24).drop 24), List.all_append, w_t6, ← List.take_append_drop 24 ((((((words1.drop 24).drop 24).drop 24).drop 24).drop 24).drop 24), List.all_append, w_t7, ← List.take_append_drop 24 (((((((words1.drop 24).drop 24).drop 24).drop 24).drop 24).drop 24).drop 24), List.all_append, w_t8, ← List.take_append_drop 24 ((((((((words1.drop 24).drop 24).drop 24).drop 24).drop 24).drop 24).drop 24).drop 24), List.all_append, w_t9, ← List.take_append_drop 24 (((((((((words1.drop 24).drop 24).drop 24).drop 24).drop 24).drop 24).drop 24).drop 24).drop 24), List.all_append, w_t10, w_t11]
  rfl
set_option maxRecDepth 65536 in
theorem w_rest : rest_1_c.before args0 about1 = true := by decide +kernel
set_option maxRecDepth 65536 in
theorem w_case : (Jvm.Cond.and given_1 narrow_1).before args0 about1 = true := by decide +kernel
set_option maxRecDepth 65536 in
theorem w_consts : constsHeld consts_1 about1 := Jvm.Lit.constsHeldB_iff.mp (by decide +kernel)
theorem w_applies : (headSpec (Jvm.Cond.code x code maxLocals ret :: tables_1) room_1).applies x e0.platform about1 = true :=
  (Spec.applies_iff w_frames).mpr ⟨w_running, w_runnable, w_alone, w_named, w_hears, w_ripe, w_room, w_tables⟩
theorem atStart : AtStart classFile x code maxLocals ret World_1 tables_1 room_1 Calls_1 rest_1 Pre_1 launch0 p0 e0 about1 theMethod args0 below0 :=
  ⟨lists_1, trivial, launch0.admits_env _ _ _, launch0.least_env, fairChoices_fair.cas, fairChoices_fair.clock, w_frames, w_args, w_heap, w_applies, ⟨(by decide +kernel : framesKnown about1 = true), ⟨(by decide +kernel : tablesKnown about1 = true), ⟨w_consts, trivial⟩⟩⟩, w_rest, w_case⟩
end start1
theorem witness_1 : WitnessClaimed_1 := ⟨start1.p0, start1.e0, start1.about1, start1.theMethod, start1.args0, start1.below0, start1.atStart⟩
end Jvm.Pilot.@@N@@
