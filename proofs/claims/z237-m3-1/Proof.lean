import JvmDerived
import JvmDerived.Pilot.@@N@@Statement
import JvmDerived.Pilot.@@N@@Code
set_option linter.unusedVariables false
set_option linter.unusedSimpArgs false
namespace Jvm.RoadKit
open Sem ClassFile Op Lib Jvm.Stand Jvm.Free Jvm.LawKit
section New
variable {p : Program} {l : Launch} {e : Env} {R : Room} {s : State} {m : MethodId} {args : Array Value} {below : List Frame} {meth : Method} {c : Code} {T : State} {locs : List Loc} {cells slots : Nat}
theorem retI (X : Stand p l e R s m args below meth c T locs cells slots) (hx : p.tables.exec = Jvm.exec) {pc : Nat} {Ls : Array Slot} {z : Int32} {rest : List Value} (hret : meth.sig.returnType = some .int) (hd : decode c.code pc = .ok (.ireturn, 1)) {fs : List Frame}
    (hl : ∀ (f : JFrame) (acts : List Action), f.method = m → f.locked = none → f.entered = [] → (doReturn e (T.setTop f) acts (some (.int z))).1 = T.setFrames fs) : Steps p.tables e below (T.setTop (mkF m pc Ls (.int z :: rest))) (T.setFrames fs) := by
  have hm' : T.vm.method? m = some meth := X.method'
  have hn : narrow .int (.int z) = .int z := rfl
  show Steps p.tables e below (T.setTop { method := m, pc := pc, locals := Ls, stack := _ :: rest, locked := none }) _
  jvm_step X.here [X.here.top, hx, hd, hm', hret, hn]
  first | (intro acts; rw [hl _ acts rfl rfl rfl]) | rw [hl _ _ rfl rfl rfl]
  exact Steps.refl _
theorem retR (X : Stand p l e R s m args below meth c T locs cells slots) (hx : p.tables.exec = Jvm.exec) {pc : Nat} {Ls : Array Slot} {w : Value} {t : FieldType} {rest : List Value} (hret : meth.sig.returnType = some t) (hn : narrow t w = w) (ht : t.isReference = true) (hw : w.isRef = true) (hd : decode c.code pc = .ok (.areturn, 1)) {fs : List Frame}
    (hl : ∀ (f : JFrame) (acts : List Action), f.method = m → f.locked = none → f.entered = [] → (doReturn e (T.setTop f) acts (some w)).1 = T.setFrames fs) : Steps p.tables e below (T.setTop (mkF m pc Ls (w :: rest))) (T.setFrames fs) := by
  have hm' : T.vm.method? m = some meth := X.method'
  show Steps p.tables e below (T.setTop { method := m, pc := pc, locals := Ls, stack := _ :: rest, locked := none }) _
  jvm_step X.here [X.here.top, hx, hd, hm', hret, hn, hw]
  try (refine ⟨ht, ?_⟩)
  first | (intro acts; rw [hl _ acts rfl rfl rfl]) | rw [hl _ _ rfl rfl rfl]
  exact Steps.refl _
/-- from here the body ends as Q says, with at most k new cells of n slots in all -/
def Go (p : Program) (e : Env) (below : List Frame) (s : State) (Q : Option Value → Heap → List Loc → Prop) (k n : Nat) (T : State) (g : JFrame) : Prop := ∃ s₂ o, Steps p.tables e below (T.setTop g) s₂ ∧ s₂.status = .running ∧ Ended s₂ below o ∧ ∃ v L, o = .returned v ∧ Q v s₂.heap L ∧ FrameEnd s o s₂ L k n
theorem Go.by {Q : Option Value → Heap → List Loc → Prop} {k n : Nat} {T T' : State} {g g' : JFrame} (st : ∀ t, Steps p.tables e below (T'.setTop g') t → Steps p.tables e below (T.setTop g) t) (h : Go p e below s Q k n T' g') : Go p e below s Q k n T g := by
  obtain ⟨s2, o, h1, h2⟩ := h
  exact ⟨s2, o, st _ h1, h2⟩
theorem Go.fin {Q : Option Value → Heap → List Loc → Prop} {k n : Nat} {g : JFrame} (X : Stand p l e R s m args below meth c T locs cells slots) {v : Option Value} (hv : meth.sig.returnType = none → v = none) (hlk : meth.locks = false) (hk : cells ≤ k) (hn : slots ≤ n) (hq : Q v T.heap locs)
    (hret : ∀ fs : List Frame, (∀ (f : JFrame) (acts : List Action), f.method = m → f.locked = none → f.entered = [] → (doReturn e (T.setTop f) acts v).1 = T.setFrames fs) → Steps p.tables e below (T.setTop g) (T.setFrames fs)) : Go p e below s Q k n T g := by
  obtain ⟨fs, hr, hrun, hended, hW, hsame⟩ := X.leave (v := v) hv hlk
  exact ⟨_, _, hret fs hr, hrun, hended, _, _, rfl, hq, ⟨_, rfl⟩, hW, hsame.mono hk hn⟩
/-- .. where it may have interned String constants -/
def GoW (p : Program) (e : Env) (below : List Frame) (s : State) (Q : Option Value → Heap → List Loc → Prop) (k n : Nat) (T : State) (g : JFrame) : Prop := ∃ s₂ o, Steps p.tables e below (T.setTop g) s₂ ∧ s₂.status = .running ∧ Ended s₂ below o ∧ ∃ v L, o = .returned v ∧ Q v s₂.heap L ∧ ReturnedEndW s o s₂ L k n
theorem GoW.by {Q : Option Value → Heap → List Loc → Prop} {k n : Nat} {T T' : State} {g g' : JFrame} (st : ∀ t, Steps p.tables e below (T'.setTop g') t → Steps p.tables e below (T.setTop g) t) (h : GoW p e below s Q k n T' g') : GoW p e below s Q k n T g := by
  obtain ⟨s2, o, h1, h2⟩ := h
  exact ⟨s2, o, st _ h1, h2⟩
theorem GoW.fin {Q : Option Value → Heap → List Loc → Prop} {k n n1 : Nat} {g : JFrame} {vm₁ : Vm} (hS : s.Since vm₁ n1) (X : Stand p l e R (s.setVm vm₁) m args below meth c T locs cells slots) (hn1 : n1 ≤ T.heap.size) {v : Option Value} (hv : meth.sig.returnType = none → v = none) (hlk : meth.locks = false) (hk : cells ≤ k) (hn : slots ≤ n) (hq : Q v T.heap locs)
    (hret : ∀ fs : List Frame, (∀ (f : JFrame) (acts : List Action), f.method = m → f.locked = none → f.entered = [] → (doReturn e (T.setTop f) acts v).1 = T.setFrames fs) → Steps p.tables e below (T.setTop g) (T.setFrames fs)) : GoW p e below s Q k n T g := by
  obtain ⟨fs, hr, hrun, hended, hE⟩ := X.leaveW hS hn1 (v := v) hv hlk
  exact ⟨_, _, hret fs hr, hrun, hended, _, _, rfl, hq, hE.1, hE.2.1, hE.2.2.1, hE.2.2.2.mono hk hn⟩
theorem backOfI {Z : State} {a0 : Array Value} {h : Heap} {y : MethodName} {bytes : ByteArray} {maxL : Nat} {ret : Option FieldType} {rm : Room} {len W : Nat} {as' : Array Value} {Q : Option Value → Heap → List Loc → Prop} {Ts : List String}
    (hM : MetFree l y (head1 [Cond.code y bytes maxL ret] rm) (fun a U => a = as' ∧ Z.Warmed39 U.vm ∧ U.heap = h ∧ IB Z U.vm Ts) (fun _ _ _ _ _ => True) (fun _ U o U' => ∃ v L, o = .returned v ∧ Q v U'.heap L ∧ ReturnedEndW U o U' L rm.cells rm.slots))
    (hZ : Z.Warmed39 s.vm) (hI : IB Z s.vm Ts) (wc : (Cond.code y bytes maxL ret).before a0 Z = true) (wz : (Cond.initialized y.cls).before a0 Z = true) (hf : rm.frames + 1 ≤ R.frames) (hl : W + (maxL + 11) + rm.locals ≤ R.locals) :
    BackS l R p e below s args y len W (fun A a => a = as' ∧ A.U.heap = h ∧ A.cells + rm.cells ≤ R.cells ∧ A.slots + rm.slots ≤ R.slots)
      (fun A _ v B => ∃ L, Q v B.U.heap L ∧ B.locs = A.locs ++ L ∧ B.cells = A.cells + rm.cells ∧ B.slots = A.slots + rm.slots) :=
  BackS.of_freeW (bytes := bytes) (maxL := maxL) (ret := ret) (E := fun _ _ o t L k n => k = rm.cells ∧ n = rm.slots ∧ ∃ v, o = .returned v ∧ Q v t.heap L) hM hf hl
    (fun m meth c A a Y hp => have hU : Z.Warmed39 A.U.vm := wtrans hZ Y.warmed
      ⟨by show (Cond.and _ .tt).before a A.U = true; rw [Cond.before_and, mv hU wc]; rfl, mv hU wc, mv hU wz, hp.2.2.1, hp.2.2.2⟩)
    (fun m meth c A a g mk Y hp => ⟨hp.1, wtrans hZ Y.warmed, hp.2.1, by obtain ⟨more, q1, q2⟩ := hI; exact ⟨more, Y.warmed.interned_eq.trans q1, q2⟩⟩) (fun _ _ _ _ _ _ _ _ _ => trivial)
    (fun _ _ _ _ ⟨v, L, h1, h2, h3⟩ => ⟨L, _, _, h3, rfl, rfl, v, h1, h2⟩)
    (fun m meth c A a g mk v t L k n Y hp _ _ ⟨e1, e2, v', e3, e4⟩ => by cases e3; subst e1 e2; exact ⟨L, e4, rfl, rfl, rfl⟩)
theorem Old.sz {Z : State} {n0 : Nat} {h : Heap} (X : Old Z n0 h) : n0 ≤ h.size := X.1 ▸ X.2.1
theorem nev {a b : Addr} (h : ¬ a = b) : ¬ Value.ref a = Value.ref b := fun q => h (Value.ref.inj q)
end New
end Jvm.RoadKit

/- laws to paste: Road.backV (cut by pick.py; bodies as the Statement names them) -/
namespace Jvm.Pilot.@@N@@
namespace StrChars
open Jvm Sem ClassFile Op Lib Jvm.Stand Jvm.Free.XT Jvm.Free.ALB Jvm.Free.JM Jvm.Free
open Jvm.Lib.Cold (StaticIs)
/-- a char array whose places are chars -/
def Ch (a : Addr) (A : Cell) (U : State) : Prop := Arr .char a A U ∧ Typed .char A
theorem Ch.mv {a : Addr} {A : Cell} {U U' : State} (h : Ch a A U) (hal : U.vm.Alike U'.vm) (hh : U'.heap = U.heap) : Ch a A U' := ⟨h.1.mv hal hh, h.2⟩
theorem Ch.keep {a : Addr} {A : Cell} {U U' : State} (h : Ch a A U) (hal : U.vm.Alike U'.vm) (hk : U'.heap[a]? = some A) : Ch a A U' := ⟨h.1.keep hal hk, h.2⟩
/-- what place i of a char[]'s cell holds -/
def cv (A : Cell) (i : Nat) : Int32 := match A.slots[i]? with | some (.int x) => x | _ => 0
theorem Ch.get {a : Addr} {A : Cell} {U : State} (h : Ch a A U) {i : Nat} (hi : i < A.slots.size) : A.slots[i]? = some (.int (cv A i)) := by
  have e := Array.getElem?_eq_getElem hi
  have f := h.2 i _ e
  unfold cv; rw [e]
  generalize A.slots[i] = v at f
  cases v <;> simp [fits] at f ⊢
/-- the byte that i2b leaves of a char -/
def lo8 (x : Int32) : Int32 := x.toInt8.toInt32
theorem fits_lo8 (y : Int32) : fits .byte (.int (lo8 y)) = true := by
  have h1 := y.toInt8.le_toInt
  have h2 := y.toInt8.toInt_lt
  simp only [lo8, fits, Bool.and_eq_true, decide_eq_true_eq, Int32.le_iff_toInt_le, Int8.toInt_toInt32, show (-128 : Int32).toInt = -128 from by decide, show (127 : Int32).toInt = 127 from by decide]
  omega
/-- A' is A but that each place j of lo .. hi - 1 holds f j -/
def Laid (A A' : Cell) (lo hi : Nat) (f : Nat → Value) : Prop := A'.cls = A.cls ∧ A'.vm = A.vm ∧ A'.slots.size = A.slots.size ∧ ∀ i, A'.slots[i]? = if lo ≤ i ∧ i < hi then some (f i) else A.slots[i]?
theorem Laid.zero (A : Cell) (lo : Nat) (f : Nat → Value) : Laid A A lo (lo + 0) f := ⟨rfl, rfl, rfl, fun i => by rw [if_neg (by omega)]⟩
theorem Laid.step {A Ak : Cell} {lo k : Nat} {f : Nat → Value} {v : Value} (h : Laid A Ak lo k f) (hlo : lo ≤ k) (hk : k < Ak.slots.size) (hv : v = f k) : Laid A (Ak.setSlot k v) lo (k + 1) f := by
  refine ⟨h.1, h.2.1, by simpa [Cell.setSlot] using h.2.2.1, fun i => ?_⟩
  by_cases e : k = i
  · subst e; rw [Cell.slots_setSlot_self v hk, if_pos (by omega), hv]
  · rw [Cell.slots_setSlot_ne v e, h.2.2.2 i]
    by_cases q : lo ≤ i ∧ i < k
    · rw [if_pos q, if_pos (by omega)]
    · rw [if_neg q, if_neg (by omega)]
def U16 : String := "java/lang/StringUTF16"
namespace Cmp5
def yN : MethodName := ⟨"java/lang/StringUTF16", "compress", "([CI[BII)I"⟩
abbrev yB : ByteArray := jdk_52_method_21_code
theorem d0 : decode yB 0 = .ok (.iconst 0, 1) := by decide +kernel
theorem d1 : decode yB 1 = .ok (.istore 5, 2) := by decide +kernel
theorem d3 : decode yB 3 = .ok (.iload 5, 2) := by decide +kernel
theorem d5 : decode yB 5 = .ok (.iload 4, 2) := by decide +kernel
theorem d7 : decode yB 7 = .ok (.if_icmp (.ge) 37, 3) := by decide +kernel
theorem d10 : decode yB 10 = .ok (.aload_n 0, 1) := by decide +kernel
theorem d11 : decode yB 11 = .ok (.iload_n 1, 1) := by decide +kernel
theorem d12 : decode yB 12 = .ok (.caload, 1) := by decide +kernel
theorem d13 : decode yB 13 = .ok (.istore 6, 2) := by decide +kernel
theorem d15 : decode yB 15 = .ok (.iload 6, 2) := by decide +kernel
theorem d17 : decode yB 17 = .ok (.sipush 255, 3) := by decide +kernel
theorem d20 : decode yB 20 = .ok (.if_icmp (.le) 6, 3) := by decide +kernel
theorem d26 : decode yB 26 = .ok (.aload_n 2, 1) := by decide +kernel
theorem d27 : decode yB 27 = .ok (.iload_n 3, 1) := by decide +kernel
theorem d28 : decode yB 28 = .ok (.iload 6, 2) := by decide +kernel
theorem d30 : decode yB 30 = .ok (.i2b, 1) := by decide +kernel
theorem d31 : decode yB 31 = .ok (.bastore, 1) := by decide +kernel
theorem d32 : decode yB 32 = .ok (.iinc 1 1, 3) := by decide +kernel
theorem d35 : decode yB 35 = .ok (.iinc 3 1, 3) := by decide +kernel
theorem d38 : decode yB 38 = .ok (.iinc 5 1, 3) := by decide +kernel
theorem d41 : decode yB 41 = .ok (.goto (-38), 3) := by decide +kernel
theorem d44 : decode yB 44 = .ok (.iload 4, 2) := by decide +kernel
theorem d46 : decode yB 46 = .ok (.ireturn, 1) := by decide +kernel
def site : List Cond := []
def tab : Cond := tabOf yN yB 7 (some .int) site
def P (b : Addr) (A : Cell) (d : Addr) (B : Cell) (o q len : Nat) (args : Array Value) (s : State) : Prop := args = #[.ref b, .int (Int32.ofNat o), .ref d, .int (Int32.ofNat q), .int (Int32.ofNat len)] ∧ Ch b A s ∧ Arr .byte d B s ∧ b ≠ d ∧ o + len ≤ A.slots.size ∧ q + len ≤ B.slots.size ∧ ∀ i, i < len → ¬ 255 < cv A (o + i)
def E (b : Addr) (A : Cell) (d : Addr) (B : Cell) (o q len : Nat) (r : Option Value) (s u : State) : Prop := r = some (.int (Int32.ofNat len)) ∧ ∃ B', Put d B' s u ∧ Laid B B' q (q + len) (fun j => Value.int (lo8 (cv A (o + (j - q)))))
/-- no char of the range above 255: len; the places written hold each char's low byte -/
theorem law (l : Launch) (b : Addr) (A : Cell) (d : Addr) (B : Cell) (o q len : Nat) : Law l yN 5 5 0 0 yB 7 (some .int) site (P b A d B o q len) (E b A d B o q len) (copyLocs d q len) 0 0 := by
  refine Law.of_walk (plainFor_of_name (by decide +kernel)) (by decide +kernel) (by decide +kernel) (by decide) (fun _ _ h => by rw [h.1]; rfl) (fun _ U U' hal hh h => ⟨h.1, h.2.1.mv hal hh, h.2.2.1.mv hal hh, h.2.2.2⟩) (fun r U U' V V' h1 hal h2 h => ⟨h.1, h.2.elim fun B' q => ⟨B', q.1.mv h1 h2, q.2⟩⟩) ?_
  intro p e s m args below meth c s₁ X0 hexec hbytes hml hret hlk hnm hown hh0 W hP
  obtain ⟨rfl, hA, hB, hne, l1, l2, hp⟩ := hP
  have c1 : Steps p.tables e below (s₁.setTop (entryFrame m #[.ref b, .int (Int32.ofNat o), .ref d, .int (Int32.ofNat q), .int (Int32.ofNat len)] 7)) (s₁.setTop (mkF m 0 #[.val (.ref b), .val (.int (Int32.ofNat o)), .val (.ref d), .val (.int (Int32.ofNat q)), .val (.int (Int32.ofNat len)), .unset, .unset] [])) := entry rfl
  have hA0 := hA.1.mv X0.warmed.alike hh0
  have hB0 := hB.mv X0.warmed.alike hh0
  have a31 := hA.1.2.2.2
  have c2 : Steps p.tables e below (s₁.setTop (entryFrame m #[.ref b, .int (Int32.ofNat o), .ref d, .int (Int32.ofNat q), .int (Int32.ofNat len)] 7)) (s₁.setTop (mkF m 3 #[.val (.ref b), .val (.int (Int32.ofNat o)), .val (.ref d), .val (.int (Int32.ofNat q)), .val (.int (Int32.ofNat len)), .val (.int 0), .unset] [])) := c1.trans (by
    refine iconstV X0.here hexec rfl 0 (hb hbytes d0) (by decide) ?_
    refine XS.istore X0.here hexec rfl (hb hbytes d1) rfl rfl ?_
    exact Steps.refl _)
  have loop : ∀ (r i : Nat), i + r = len → ∀ (z : Slot), (z = .unset ∨ ∃ w, z = .val w ∧ w.category = 1) → ∀ (Tl : State) (Bk : Cell), Stand p l e { frames := 0, locals := 0, cells := 0, slots := 0 } s m #[.ref b, .int (Int32.ofNat o), .ref d, .int (Int32.ofNat q), .int (Int32.ofNat len)] below meth c Tl ([] ++ copyLocs d q i) 0 0 → Put d Bk s₁ Tl → Laid B Bk q (q + i) (fun j => Value.int (lo8 (cv A (o + (j - q))))) →
      Steps p.tables e below (s₁.setTop (entryFrame m #[.ref b, .int (Int32.ofNat o), .ref d, .int (Int32.ofNat q), .int (Int32.ofNat len)] 7)) (Tl.setTop (mkF m 3 #[.val (.ref b), .val (.int (Int32.ofNat (o + i))), .val (.ref d), .val (.int (Int32.ofNat (q + i))), .val (.int (Int32.ofNat len)), .val (.int (Int32.ofNat i)), z] [])) → ∃ (T' : State) (B' : Cell) (z' : Slot), Stand p l e { frames := 0, locals := 0, cells := 0, slots := 0 } s m #[.ref b, .int (Int32.ofNat o), .ref d, .int (Int32.ofNat q), .int (Int32.ofNat len)] below meth c T' ([] ++ copyLocs d q len) 0 0 ∧ Put d B' s₁ T' ∧ Laid B B' q (q + len) (fun j => Value.int (lo8 (cv A (o + (j - q))))) ∧
      Steps p.tables e below (s₁.setTop (entryFrame m #[.ref b, .int (Int32.ofNat o), .ref d, .int (Int32.ofNat q), .int (Int32.ofNat len)] 7)) (T'.setTop (mkF m 3 #[.val (.ref b), .val (.int (Int32.ofNat (o + len))), .val (.ref d), .val (.int (Int32.ofNat (q + len))), .val (.int (Int32.ofNat len)), .val (.int (Int32.ofNat len)), z'] [])) := by
    intro r
    induction r with
    | zero =>
      intro i hi z hz Tl Bk Xl pl fl cl
      have hil : i = len := by omega
      rw [hil] at Xl fl cl
      exact ⟨Tl, Bk, z, Xl, pl, fl, cl⟩
    | succ r ih =>
      intro i hi z hz Tl Bk Xl pl fl cl
      have all := X0.warmed.alike.symm.trans Xl.warmed.alike
      have hAl := hA0.keep all (pl.other hne hA0.1)
      have hBk := hB0.like all pl.1 fl.1 fl.2.1 fl.2.2.1
      have hlt : q + i < Bk.slots.size := by rw [fl.2.2.1]; omega
      have c3 : Steps p.tables e below (s₁.setTop (entryFrame m #[.ref b, .int (Int32.ofNat o), .ref d, .int (Int32.ofNat q), .int (Int32.ofNat len)] 7)) (Tl.setTop (mkF m 12 #[.val (.ref b), .val (.int (Int32.ofNat (o + i))), .val (.ref d), .val (.int (Int32.ofNat (q + i))), .val (.int (Int32.ofNat len)), .val (.int (Int32.ofNat i)), z] [.int (Int32.ofNat (o + i)), .ref b])) := cl.trans (by
        refine XS.iload Xl.here hexec rfl (hb hbytes d3) rfl ?_
        refine XS.iload Xl.here hexec rfl (hb hbytes d5) rfl ?_
        refine XS.icmpNo Xl.here hexec rfl (hb hbytes d7) rfl (ii_ge_f (lt32 (by omega) (by omega))) ?_
        refine XS.aloadN Xl.here hexec rfl (hb hbytes d10) rfl rfl ?_
        refine XS.iloadN Xl.here hexec rfl (hb hbytes d11) rfl ?_
        exact Steps.refl _)
      have c4 : Steps p.tables e below (s₁.setTop (entryFrame m #[.ref b, .int (Int32.ofNat o), .ref d, .int (Int32.ofNat q), .int (Int32.ofNat len)] 7)) (Tl.setTop (mkF m 13 #[.val (.ref b), .val (.int (Int32.ofNat (o + i))), .val (.ref d), .val (.int (Int32.ofNat (q + i))), .val (.int (Int32.ofNat len)), .val (.int (Int32.ofNat i)), z] [.int (cv A (o + i))])) := c3.trans (by
        refine Xl.aget hexec hAl rfl (hA.get (i := o + i) (by omega)) rfl rfl (hb hbytes d12) ?_
        exact Steps.refl _)
      have c5 : Steps p.tables e below (s₁.setTop (entryFrame m #[.ref b, .int (Int32.ofNat o), .ref d, .int (Int32.ofNat q), .int (Int32.ofNat len)] 7)) (Tl.setTop (mkF m 15 #[.val (.ref b), .val (.int (Int32.ofNat (o + i))), .val (.ref d), .val (.int (Int32.ofNat (q + i))), .val (.int (Int32.ofNat len)), .val (.int (Int32.ofNat i)), .val (.int (cv A (o + i)))] [])) := c4.trans (by
        refine XS.istoreS Xl.here hexec rfl (hb hbytes d13) rfl rfl hz ?_
        exact Steps.refl _)
      have c6 : Steps p.tables e below (s₁.setTop (entryFrame m #[.ref b, .int (Int32.ofNat o), .ref d, .int (Int32.ofNat q), .int (Int32.ofNat len)] 7)) (Tl.setTop (mkF m 31 #[.val (.ref b), .val (.int (Int32.ofNat (o + i))), .val (.ref d), .val (.int (Int32.ofNat (q + i))), .val (.int (Int32.ofNat len)), .val (.int (Int32.ofNat i)), .val (.int (cv A (o + i)))] [.int (lo8 (cv A (o + i))), .int (Int32.ofNat (q + i)), .ref d])) := c5.trans (by
        refine XS.iload Xl.here hexec rfl (hb hbytes d15) rfl ?_
        refine sipushV Xl.here hexec rfl 255 (hb hbytes d17) (by decide) ?_
        refine XS.icmpYes Xl.here hexec rfl (pc0 := 20) rfl (hb hbytes d20) rfl (ii_le_t (hp i (by omega))) (by decide) rfl ?_
        refine XS.aloadN Xl.here hexec rfl (hb hbytes d26) rfl rfl ?_
        refine XS.iloadN Xl.here hexec rfl (hb hbytes d27) rfl ?_
        refine XS.iload Xl.here hexec rfl (hb hbytes d28) rfl ?_
        refine i2b Xl.here hexec rfl (hb hbytes d30) rfl ?_
        exact Steps.refl _)
      obtain ⟨T7, X7, p7, st7⟩ := Xl.aput hexec hBk rfl hlt rfl (fits_lo8 (cv A (o + i))) (g := (mkF m 31 #[.val (.ref b), .val (.int (Int32.ofNat (o + i))), .val (.ref d), .val (.int (Int32.ofNat (q + i))), .val (.int (Int32.ofNat len)), .val (.int (Int32.ofNat i)), .val (.int (cv A (o + i)))] [.int (lo8 (cv A (o + i))), .int (Int32.ofNat (q + i)), .ref d])) rfl (rest := []) rfl (hb hbytes d31)
      have c8 : Steps p.tables e below (s₁.setTop (entryFrame m #[.ref b, .int (Int32.ofNat o), .ref d, .int (Int32.ofNat q), .int (Int32.ofNat len)] 7)) (T7.setTop (mkF m 32 #[.val (.ref b), .val (.int (Int32.ofNat (o + i))), .val (.ref d), .val (.int (Int32.ofNat (q + i))), .val (.int (Int32.ofNat len)), .val (.int (Int32.ofNat i)), .val (.int (cv A (o + i)))] [])) := c6.trans (st7 _ (Steps.refl _))
      have c9 : Steps p.tables e below (s₁.setTop (entryFrame m #[.ref b, .int (Int32.ofNat o), .ref d, .int (Int32.ofNat q), .int (Int32.ofNat len)] 7)) (T7.setTop (mkF m 3 #[.val (.ref b), .val (.int (Int32.ofNat (o + i) + 1)), .val (.ref d), .val (.int (Int32.ofNat (q + i) + 1)), .val (.int (Int32.ofNat len)), .val (.int (Int32.ofNat i + 1)), .val (.int (cv A (o + i)))] [])) := c8.trans (by
        refine iincV X7.here hexec rfl 1 (hb hbytes d32) (by decide) rfl rfl ?_
        refine iincV X7.here hexec rfl 1 (hb hbytes d35) (by decide) rfl rfl ?_
        refine iincV X7.here hexec rfl 1 (hb hbytes d38) (by decide) rfl rfl ?_
        refine XS.goto X7.here hexec rfl (pc0 := 41) rfl (hb hbytes d41) (by decide) rfl ?_
        exact Steps.refl _)
      have c10 : Steps p.tables e below (s₁.setTop (entryFrame m #[.ref b, .int (Int32.ofNat o), .ref d, .int (Int32.ofNat q), .int (Int32.ofNat len)] 7)) (T7.setTop (mkF m 3 #[.val (.ref b), .val (.int (Int32.ofNat (o + (i + 1)))), .val (.ref d), .val (.int (Int32.ofNat (q + (i + 1)))), .val (.int (Int32.ofNat len)), .val (.int (Int32.ofNat (i + 1))), .val (.int (cv A (o + i)))] [])) := by
        have := c9
        rw [succ32, succ32, succ32] at this
        exact this
      exact ih (i + 1) (by omega) _ (Or.inr ⟨_, rfl, rfl⟩) T7 _ (by rw [copyLocs_step, ← List.append_assoc]; exact X7) (pl.trans p7) (fl.step (by omega) hlt (by simp)) c10
  obtain ⟨T9, B9, z9, X9, p9, f9, g9⟩ := loop len 0 (by omega) .unset (Or.inl rfl) s₁ B (by simpa [copyLocs] using X0) ⟨hB0.1, fun _ _ => rfl, rfl⟩ (Laid.zero _ _ _) c2
  have c11 : Steps p.tables e below (s₁.setTop (entryFrame m #[.ref b, .int (Int32.ofNat o), .ref d, .int (Int32.ofNat q), .int (Int32.ofNat len)] 7)) (T9.setTop (mkF m 46 #[.val (.ref b), .val (.int (Int32.ofNat (o + len))), .val (.ref d), .val (.int (Int32.ofNat (q + len))), .val (.int (Int32.ofNat len)), .val (.int (Int32.ofNat len)), z9] [.int (Int32.ofNat len)])) := g9.trans (by
    refine XS.iload X9.here hexec rfl (hb hbytes d3) rfl ?_
    refine XS.iload X9.here hexec rfl (hb hbytes d5) rfl ?_
    refine XS.icmpYes X9.here hexec rfl (pc0 := 7) rfl (hb hbytes d7) rfl (ii_ge_t (nlt32 (by omega) (Nat.le_refl _))) (by decide) rfl ?_
    refine XS.iload X9.here hexec rfl (hb hbytes d44) rfl ?_
    exact Steps.refl _)
  exact ⟨T9, some (.int (Int32.ofNat len)), _, _, _, X9, by simp, rfl, rfl, (fun h => by cases h), ⟨rfl, B9, p9.from hh0, f9⟩, fun fs hl => c11.trans (X9.ireturnOut hexec hret rfl (Or.inl rfl) (hb hbytes d46) hl)⟩
end Cmp5
namespace Cmp3
def yN : MethodName := ⟨"java/lang/StringUTF16", "compress", "([CII)[B"⟩
abbrev yB : ByteArray := jdk_52_method_16_code
theorem d0 : decode yB 0 = .ok (.iload_n 2, 1) := by decide +kernel
theorem d1 : decode yB 1 = .ok (.newarray .byte, 2) := by decide +kernel
theorem d3 : decode yB 3 = .ok (.astore_n 3, 1) := by decide +kernel
theorem d4 : decode yB 4 = .ok (.aload_n 0, 1) := by decide +kernel
theorem d5 : decode yB 5 = .ok (.iload_n 1, 1) := by decide +kernel
theorem d6 : decode yB 6 = .ok (.aload_n 3, 1) := by decide +kernel
theorem d7 : decode yB 7 = .ok (.iconst 0, 1) := by decide +kernel
theorem d8 : decode yB 8 = .ok (.iload_n 2, 1) := by decide +kernel
theorem d9 : decode yB 9 = .ok (.invokestatic 115, 3) := by decide +kernel
theorem d12 : decode yB 12 = .ok (.istore 4, 2) := by decide +kernel
theorem d14 : decode yB 14 = .ok (.iload 4, 2) := by decide +kernel
theorem d16 : decode yB 16 = .ok (.iload_n 2, 1) := by decide +kernel
theorem d17 : decode yB 17 = .ok (.if_icmp (.eq) 40, 3) := by decide +kernel
theorem d57 : decode yB 57 = .ok (.aload_n 3, 1) := by decide +kernel
theorem d58 : decode yB 58 = .ok (.areturn, 1) := by decide +kernel
def site : List Cond := [.arrayClass .byte, Cmp5.tab] ++ staticW U16 115 Cmp5.yN
def tab : Cond := tabOf yN yB 6 (some (.array .byte)) site
def P (b : Addr) (A : Cell) (o len : Nat) (args : Array Value) (s : State) : Prop := args = #[.ref b, .int (Int32.ofNat o), .int (Int32.ofNat len)] ∧ Ch b A s ∧ o + len ≤ A.slots.size ∧ len ≤ 536870912 ∧ ∀ i, i < len → ¬ 255 < cv A (o + i)
def E (b : Addr) (A : Cell) (o len : Nat) (r : Option Value) (s u : State) : Prop := NewArr .byte "[B" len (fun j => .int (lo8 (cv A (o + j)))) r s u ∧ u.heap.size = s.heap.size + 1
/-- no char of the range above 255: a new byte[] of their low bytes -/
theorem law (l : Launch) (b : Addr) (A : Cell) (o len : Nat) : Law l yN 3 3 1 18 yB 6 (some (.array .byte)) site (P b A o len) (E b A o len) [] 1 len := by
  refine Law.of_walk (plainFor_of_name (by decide +kernel)) (by decide +kernel) (by decide +kernel) (by decide) (fun _ _ h => by rw [h.1]; rfl) (fun _ U U' hal hh h => ⟨h.1, h.2.1.mv hal hh, h.2.2⟩) (fun r U U' V V' h1 hal h2 h => ⟨NewArr.mv r U U' V V' h1 hal h2 h.1, by rw [h1, h2]; exact h.2⟩) ?_
  intro p e s m args below meth c s₁ X0 hexec hbytes hml hret hlk hnm hown hh0 W hP
  obtain ⟨rfl, hA, l1, l2, hp⟩ := hP
  have a31 := hA.1.2.2.2
  have c1 : Steps p.tables e below (s₁.setTop (entryFrame m #[.ref b, .int (Int32.ofNat o), .int (Int32.ofNat len)] 6)) (s₁.setTop (mkF m 0 #[.val (.ref b), .val (.int (Int32.ofNat o)), .val (.int (Int32.ofNat len)), .unset, .unset, .unset] [])) := entry rfl
  have c2 : Steps p.tables e below (s₁.setTop (entryFrame m #[.ref b, .int (Int32.ofNat o), .int (Int32.ofNat len)] 6)) (s₁.setTop (mkF m 1 #[.val (.ref b), .val (.int (Int32.ofNat o)), .val (.int (Int32.ofNat len)), .unset, .unset, .unset] [.int (Int32.ofNat len)])) := c1.trans (by
    refine XS.iloadN X0.here hexec rfl (hb hbytes d0) rfl ?_
    exact Steps.refl _)
  obtain ⟨T3, B3, X3, ba3, bs3, bv3, bh3, bf3, st3⟩ := X0.anew hexec (atype := .byte) (wk W (.arrayClass .byte)) rfl (by show len * 1 ≤ _; omega) (by omega) (g := (mkF m 1 #[.val (.ref b), .val (.int (Int32.ofNat o)), .val (.int (Int32.ofNat len)), .unset, .unset, .unset] [.int (Int32.ofNat len)])) rfl (hb hbytes d1) (rest := []) rfl (Nat.le_refl _) (by show 0 + len ≤ len; omega)
  rw [hh0] at ba3 st3
  have kp3 : XT.Kept s T3 := (XT.Kept.of_eq hh0).push bh3
  have hA3 := hA.keep X3.warmed.alike (kp3 _ _ hA.1.1)
  have hne : b ≠ s.heap.size := hA.1.ne
  have c4 : Steps p.tables e below (s₁.setTop (entryFrame m #[.ref b, .int (Int32.ofNat o), .int (Int32.ofNat len)] 6)) (T3.setTop (mkF m 3 #[.val (.ref b), .val (.int (Int32.ofNat o)), .val (.int (Int32.ofNat len)), .unset, .unset, .unset] [.ref s.heap.size])) := c2.trans (st3 _ (Steps.refl _))
  have c5 : Steps p.tables e below (s₁.setTop (entryFrame m #[.ref b, .int (Int32.ofNat o), .int (Int32.ofNat len)] 6)) (T3.setTop (mkF m 9 #[.val (.ref b), .val (.int (Int32.ofNat o)), .val (.int (Int32.ofNat len)), .val (.ref s.heap.size), .unset, .unset] [.int (Int32.ofNat len), .int 0, .ref s.heap.size, .int (Int32.ofNat o), .ref b])) := c4.trans (by
    refine XS.astoreN X3.here hexec rfl (hb hbytes d3) rfl rfl rfl ?_
    refine XS.aloadN X3.here hexec rfl (hb hbytes d4) rfl rfl ?_
    refine XS.iloadN X3.here hexec rfl (hb hbytes d5) rfl ?_
    refine XS.aloadN X3.here hexec rfl (hb hbytes d6) rfl rfl ?_
    refine iconstV X3.here hexec rfl 0 (hb hbytes d7) (by decide) ?_
    refine XS.iloadN X3.here hexec rfl (hb hbytes d8) rfl ?_
    exact Steps.refl _)
  obtain ⟨v6, T6, X6, E6, g6⟩ := X3.callS hexec (Cmp5.law l b A s.heap.size B3 o 0 len) hown (wks W (staticW U16 115 Cmp5.yN)) (wk W Cmp5.tab) (W := 0) (Nat.le_of_ble_eq_true rfl) (Nat.le_of_ble_eq_true rfl) (Nat.le_refl _) (by show 0 + len + 0 ≤ len; omega) (g := (mkF m 9 #[.val (.ref b), .val (.int (Int32.ofNat o)), .val (.int (Int32.ofNat len)), .val (.ref s.heap.size), .unset, .unset] [.int (Int32.ofNat len), .int (Int32.ofNat 0), .ref s.heap.size, .int (Int32.ofNat o), .ref b])) rfl (by rw [hml]; rfl) c5 (argsL := [.ref b, .int (Int32.ofNat o), .ref s.heap.size, .int (Int32.ofNat 0), .int (Int32.ofNat len)]) (rest := []) rfl rfl (by show 2 * 0 + 0 ≤ _; decide) (hb hbytes d9) (⟨rfl, hA3, ba3, hne, l1, by rw [bs3]; simp, hp⟩)
  obtain ⟨rfl, B6, p6, f6⟩ := E6
  have c7 : Steps p.tables e below (s₁.setTop (entryFrame m #[.ref b, .int (Int32.ofNat o), .int (Int32.ofNat len)] 6)) (T6.setTop (mkF m 12 #[.val (.ref b), .val (.int (Int32.ofNat o)), .val (.int (Int32.ofNat len)), .val (.ref s.heap.size), .unset, .unset] [.int (Int32.ofNat len)])) := g6
  have c8 : Steps p.tables e below (s₁.setTop (entryFrame m #[.ref b, .int (Int32.ofNat o), .int (Int32.ofNat len)] 6)) (T6.setTop (mkF m 58 #[.val (.ref b), .val (.int (Int32.ofNat o)), .val (.int (Int32.ofNat len)), .val (.ref s.heap.size), .val (.int (Int32.ofNat len)), .unset] [.ref s.heap.size])) := c7.trans (by
    refine XS.istore X6.here hexec rfl (hb hbytes d12) rfl rfl ?_
    refine XS.iload X6.here hexec rfl (hb hbytes d14) rfl ?_
    refine XS.iloadN X6.here hexec rfl (hb hbytes d16) rfl ?_
    refine XS.icmpYes X6.here hexec rfl (pc0 := 17) rfl (hb hbytes d17) rfl (ii_eq_t rfl) (by decide) rfl ?_
    refine XS.aloadN X6.here hexec rfl (hb hbytes d57) rfl rfl ?_
    exact Steps.refl _)
  have X8 := X6.wide (L' := []) (cells' := 1) (slots' := len) (fun x hx hlt => by
    simp only [List.nil_append, copyLocs, List.mem_map, List.mem_range] at hx
    obtain ⟨i, -, rfl⟩ := hx
    exact absurd hlt (Nat.lt_irrefl _)) (Nat.le_refl _) (by omega)
  exact ⟨T6, some (.ref s.heap.size), _, _, _, X8, rfl, rfl, rfl, (fun h => by cases h), ⟨⟨rfl, B6, ba3.like (X3.warmed.alike.symm.trans X6.warmed.alike) p6.1 f6.1 f6.2.1 f6.2.2.1, f6.2.1.trans bv3, by rw [X6.warmed.alike.findClass, f6.1]; exact bf3, by rw [f6.2.2.1, bs3]; simp, fun j hj => by rw [f6.2.2.2 j, if_pos (by omega)]; rfl, kp3.put p6 (Nat.le_refl _)⟩, by rw [p6.2.2, bh3, hh0]; simp⟩, fun fs hl => c8.trans (X8.areturnOut hexec rfl hret rfl (hb hbytes d58) hl)⟩
end Cmp3
namespace CodL
def yN : MethodName := ⟨"java/lang/StringUTF16", "coderFromArrayLen", "([BI)B"⟩
abbrev yB : ByteArray := jdk_52_method_15_code
theorem d0 : decode yB 0 = .ok (.iload_n 1, 1) := by decide +kernel
theorem d1 : decode yB 1 = .ok (.aload_n 0, 1) := by decide +kernel
theorem d2 : decode yB 2 = .ok (.arraylength, 1) := by decide +kernel
theorem d3 : decode yB 3 = .ok (.isub, 1) := by decide +kernel
theorem d4 : decode yB 4 = .ok (.bipush 31, 2) := by decide +kernel
theorem d6 : decode yB 6 = .ok (.iushr, 1) := by decide +kernel
theorem d7 : decode yB 7 = .ok (.i2b, 1) := by decide +kernel
theorem d8 : decode yB 8 = .ok (.ireturn, 1) := by decide +kernel
def site : List Cond := []
def tab : Cond := tabOf yN yB 2 (some .byte) site
def P (d : Addr) (B : Cell) (args : Array Value) (s : State) : Prop := args = #[.ref d, .int (Int32.ofNat B.slots.size)] ∧ Arr .byte d B s
def E (r : Option Value) (s u : State) : Prop := XT.PureE (some (.int 0)) r s u
/-- an array as long as the number of chars: LATIN1 -/
theorem law (l : Launch) (d : Addr) (B : Cell) : Law l yN 2 2 0 0 yB 2 (some .byte) site (P d B) E [] 0 0 := by
  refine Law.of_walk (plainFor_of_name (by decide +kernel)) (by decide +kernel) (by decide +kernel) (by decide) (fun _ _ h => by rw [h.1]; rfl) (fun _ U U' hal hh h => ⟨h.1, h.2.mv hal hh⟩) (fun r U U' V V' h1 hal h2 h => XT.PureE.mv r U U' V V' h1 hal h2 h) ?_
  intro p e s m args below meth c s₁ X0 hexec hbytes hml hret hlk hnm hown hh0 W hP
  obtain ⟨rfl, hB⟩ := hP
  have hB0 := hB.mv X0.warmed.alike hh0
  have c1 : Steps p.tables e below (s₁.setTop (entryFrame m #[.ref d, .int (Int32.ofNat B.slots.size)] 2)) (s₁.setTop (mkF m 0 #[.val (.ref d), .val (.int (Int32.ofNat B.slots.size))] [])) := entry rfl
  have c2 : Steps p.tables e below (s₁.setTop (entryFrame m #[.ref d, .int (Int32.ofNat B.slots.size)] 2)) (s₁.setTop (mkF m 2 #[.val (.ref d), .val (.int (Int32.ofNat B.slots.size))] [.ref d, .int (Int32.ofNat B.slots.size)])) := c1.trans (by
    refine XS.iloadN X0.here hexec rfl (hb hbytes d0) rfl ?_
    refine XS.aloadN X0.here hexec rfl (hb hbytes d1) rfl rfl ?_
    exact Steps.refl _)
  have c3 : Steps p.tables e below (s₁.setTop (entryFrame m #[.ref d, .int (Int32.ofNat B.slots.size)] 2)) (s₁.setTop (mkF m 8 #[.val (.ref d), .val (.int (Int32.ofNat B.slots.size))] [.int (lo8 (ushr (Int32.ofNat B.slots.size - Int32.ofNat B.slots.size) 31))])) := c2.trans (by
    refine X0.alen hexec hB0 rfl rfl (hb hbytes d2) ?_
    refine XS.isub X0.here hexec rfl (hb hbytes d3) rfl ?_
    refine bipushV X0.here hexec rfl 31 (hb hbytes d4) (by decide) ?_
    refine iushr X0.here hexec rfl (hb hbytes d6) rfl ?_
    refine i2b X0.here hexec rfl (hb hbytes d7) rfl ?_
    exact Steps.refl _)
  have e0 : lo8 (ushr (Int32.ofNat B.slots.size - Int32.ofNat B.slots.size) 31) = 0 := by rw [Int32.sub_self]; decide
  rw [e0] at c3
  exact ⟨s₁, some (.int 0), _, _, _, X0, rfl, rfl, rfl, (fun h => by cases h), ⟨rfl, hh0⟩, fun fs hl => c3.trans (X0.ireturnOut hexec hret rfl (Or.inr (Or.inr (Or.inl rfl))) (hb hbytes d8) hl)⟩
end CodL
/-- the String at a is Latin-1 over a new byte[] (the heap's one new cell): the low bytes of the len chars of A from o on; every cell but a is kept -/
def Got (a : Addr) (D : Cell) (fV fC : Field) (A : Cell) (o len : Nat) (r : Option Value) (s u : State) : Prop := r = none ∧ ∃ D' V : Cell, Blank "java/lang/String" a D' u ∧ Same D D' [fV.slot, fC.slot] ∧ D'.slots[fV.slot]? = some (.ref s.heap.size) ∧ D'.slots[fC.slot]? = some (.int 0) ∧ Arr .byte s.heap.size V u ∧ V.vm = .none ∧ u.vm.findClass "[B" = some V.cls ∧ V.slots.size = len ∧ (∀ j, j < len → V.slots[j]? = some (.int (lo8 (cv A (o + j))))) ∧ (∀ (y : Addr) (c : Cell), y ≠ a → s.heap[y]? = some c → u.heap[y]? = some c) ∧ u.heap.size = s.heap.size + 1
theorem Got.mv {a : Addr} {D A : Cell} {fV fC : Field} {o len : Nat} : ∀ r (U U' V V' : State), U'.heap = U.heap → V.vm.Alike V'.vm → V'.heap = V.heap → Got a D fV fC A o len r U V → Got a D fV fC A o len r U' V' :=
  fun r U U' V V' h1 hal h2 ⟨e0, D', X, a1, a2, a3, a4, a5, a6, a7, a8, a9, a10, a11⟩ => ⟨e0, D', X, a1.mv hal h2, a2, by rw [h1]; exact a3, a4, by rw [h1]; exact a5.mv hal h2, a6, by rw [hal.findClass]; exact a7, a8, a9, by rw [h1, h2]; exact a10, by rw [h1, h2]; exact a11⟩
namespace New4
def yN : MethodName := ⟨"java/lang/String", "<init>", "([CIILjava/lang/Void;)V"⟩
abbrev yB : ByteArray := jdk_42_method_149_code
theorem d0 : decode yB 0 = .ok (.aload_n 0, 1) := by decide +kernel
theorem d1 : decode yB 1 = .ok (.invokespecial 1, 3) := by decide +kernel
theorem d4 : decode yB 4 = .ok (.iload_n 3, 1) := by decide +kernel
theorem d5 : decode yB 5 = .ok (.ifCond (.ne) 22, 3) := by decide +kernel
theorem d27 : decode yB 27 = .ok (.getstatic 38, 3) := by decide +kernel
theorem d30 : decode yB 30 = .ok (.ifCond (.eq) 28, 3) := by decide +kernel
theorem d33 : decode yB 33 = .ok (.aload_n 1, 1) := by decide +kernel
theorem d34 : decode yB 34 = .ok (.iload_n 2, 1) := by decide +kernel
theorem d35 : decode yB 35 = .ok (.iload_n 3, 1) := by decide +kernel
theorem d36 : decode yB 36 = .ok (.invokestatic 177, 3) := by decide +kernel
theorem d39 : decode yB 39 = .ok (.astore 5, 2) := by decide +kernel
theorem d41 : decode yB 41 = .ok (.aload_n 0, 1) := by decide +kernel
theorem d42 : decode yB 42 = .ok (.aload 5, 2) := by decide +kernel
theorem d44 : decode yB 44 = .ok (.iload_n 3, 1) := by decide +kernel
theorem d45 : decode yB 45 = .ok (.invokestatic 47, 3) := by decide +kernel
theorem d48 : decode yB 48 = .ok (.putfield 15, 3) := by decide +kernel
theorem d51 : decode yB 51 = .ok (.aload_n 0, 1) := by decide +kernel
theorem d52 : decode yB 52 = .ok (.aload 5, 2) := by decide +kernel
theorem d54 : decode yB 54 = .ok (.putfield 9, 3) := by decide +kernel
theorem d57 : decode yB 57 = .ok (.return_, 1) := by decide +kernel
def site : List Cond := [.fieldLink "java/lang/String" 38 "java/lang/String" "COMPACT_STRINGS" "Z", Cmp3.tab, CodL.tab, .laysFinal "java/lang/String" "java/lang/String" "value" "[B", .fieldLink "java/lang/String" 9 "java/lang/String" "value" "[B", .laysFinal "java/lang/String" "java/lang/String" "coder" "B", .fieldLink "java/lang/String" 15 "java/lang/String" "coder" "B"] ++ objW "java/lang/String" 1 ++ staticW "java/lang/String" 177 Cmp3.yN ++ staticW "java/lang/String" 47 CodL.yN
def tab : Cond := tabOf yN yB 6 none site
def P (a : Addr) (D : Cell) (fV fC : Field) (b : Addr) (A : Cell) (z : Int32) (o len : Nat) (args : Array Value) (s : State) : Prop := args = #[.ref a, .ref b, .int (Int32.ofNat o), .int (Int32.ofNat len), .null] ∧ Blank "java/lang/String" a D s ∧ Found "java/lang/String" "value" "[B" fV s ∧ Found "java/lang/String" "coder" "B" fC s ∧ Ch b A s ∧ StaticIs s "java/lang/String" "COMPACT_STRINGS" "Z" (.int z) ∧ ¬ z = 0 ∧ 0 < len ∧ o + len ≤ A.slots.size ∧ len ≤ 536870912 ∧ ∀ i, i < len → ¬ 255 < cv A (o + i)
def E (a : Addr) (D : Cell) (fV fC : Field) (A : Cell) (o len : Nat) (r : Option Value) (s u : State) : Prop := Got a D fV fC A o len r s u
/-- len > 0, no char of the range above 255: a Latin-1 String of their low bytes -/
theorem law (l : Launch) (a : Addr) (D : Cell) (fV fC : Field) (b : Addr) (A : Cell) (z : Int32) (o len : Nat) : Law l yN 5 4 2 35 yB 6 none site (P a D fV fC b A z o len) (E a D fV fC A o len) [⟨a, fC.slot⟩, ⟨a, fV.slot⟩] 1 len := by
  refine Law.of_walk (plainFor_of_name (by decide +kernel)) (by decide +kernel) (by decide +kernel) (by decide) (fun _ _ h => by rw [h.1]; rfl) (fun _ U U' hal hh h => ⟨h.1, h.2.1.mv hal hh, h.2.2.1.al hal, h.2.2.2.1.al hal, h.2.2.2.2.1.mv hal hh, h.2.2.2.2.2.1.there hal hh, h.2.2.2.2.2.2⟩) (fun r U U' V V' h1 hal h2 h => Got.mv r U U' V V' h1 hal h2 h) ?_
  intro p e s m args below meth c s₁ X0 hexec hbytes hml hret hlk hnm hown hh0 W hP
  obtain ⟨rfl, hB, f1, f2, hA, s1, hz, l0, l1, l2, hp⟩ := hP
  have a31 := hA.1.2.2.2
  have c1 : Steps p.tables e below (s₁.setTop (entryFrame m #[.ref a, .ref b, .int (Int32.ofNat o), .int (Int32.ofNat len), .null] 6)) (s₁.setTop (mkF m 0 #[.val (.ref a), .val (.ref b), .val (.int (Int32.ofNat o)), .val (.int (Int32.ofNat len)), .val .null, .unset] [])) := entry rfl
  have c2 : Steps p.tables e below (s₁.setTop (entryFrame m #[.ref a, .ref b, .int (Int32.ofNat o), .int (Int32.ofNat len), .null] 6)) (s₁.setTop (mkF m 1 #[.val (.ref a), .val (.ref b), .val (.int (Int32.ofNat o)), .val (.int (Int32.ofNat len)), .val .null, .unset] [.ref a])) := c1.trans (by
    refine XS.aloadN X0.here hexec rfl (hb hbytes d0) rfl rfl ?_
    exact Steps.refl _)
  obtain ⟨T3, X3, q3, st3⟩ := X0.oinit hexec hown (wks W (objW "java/lang/String" 1)) (g := (mkF m 1 #[.val (.ref a), .val (.ref b), .val (.int (Int32.ofNat o)), .val (.int (Int32.ofNat len)), .val .null, .unset] [.ref a])) rfl (by rw [hml]; rfl) (rest := []) rfl (hb hbytes d1) (W := 0) (by show 2 * 0 + 0 ≤ _; decide) (Nat.le_of_ble_eq_true rfl) (Nat.le_of_ble_eq_true rfl)
  have hh3 := q3.trans hh0
  have c4 : Steps p.tables e below (s₁.setTop (entryFrame m #[.ref a, .ref b, .int (Int32.ofNat o), .int (Int32.ofNat len), .null] 6)) (T3.setTop (mkF m 27 #[.val (.ref a), .val (.ref b), .val (.int (Int32.ofNat o)), .val (.int (Int32.ofNat len)), .val .null, .unset] [])) := (c2.trans (st3 _ (Steps.refl _))).trans (by
    refine XS.iloadN X3.here hexec rfl (hb hbytes d4) rfl ?_
    refine XS.ifYes X3.here hexec rfl (pc0 := 5) rfl (hb hbytes d5) rfl (i0_ne_t (nz32 (by omega) l0)) (by decide) rfl ?_
    exact Steps.refl _)
  obtain ⟨T5, X5, q5, st5⟩ := X3.sget hexec hown (wk W (.fieldLink "java/lang/String" 38 "java/lang/String" "COMPACT_STRINGS" "Z")) s1 (fun _ _ h => by rw [hh3]; exact h) (g := (mkF m 27 #[.val (.ref a), .val (.ref b), .val (.int (Int32.ofNat o)), .val (.int (Int32.ofNat len)), .val .null, .unset] [])) rfl (hb hbytes d27)
  have hh5 := q5.trans hh3
  have c6 : Steps p.tables e below (s₁.setTop (entryFrame m #[.ref a, .ref b, .int (Int32.ofNat o), .int (Int32.ofNat len), .null] 6)) (T5.setTop (mkF m 30 #[.val (.ref a), .val (.ref b), .val (.int (Int32.ofNat o)), .val (.int (Int32.ofNat len)), .val .null, .unset] [.int z])) := c4.trans (st5 _ (Steps.refl _))
  have c7 : Steps p.tables e below (s₁.setTop (entryFrame m #[.ref a, .ref b, .int (Int32.ofNat o), .int (Int32.ofNat len), .null] 6)) (T5.setTop (mkF m 36 #[.val (.ref a), .val (.ref b), .val (.int (Int32.ofNat o)), .val (.int (Int32.ofNat len)), .val .null, .unset] [.int (Int32.ofNat len), .int (Int32.ofNat o), .ref b])) := c6.trans (by
    refine XS.ifNo X5.here hexec rfl (hb hbytes d30) rfl (i0_eq_f hz) ?_
    refine XS.aloadN X5.here hexec rfl (hb hbytes d33) rfl rfl ?_
    refine XS.iloadN X5.here hexec rfl (hb hbytes d34) rfl ?_
    refine XS.iloadN X5.here hexec rfl (hb hbytes d35) rfl ?_
    exact Steps.refl _)
  obtain ⟨v8, T8, X8, E8, g8⟩ := X5.callS hexec (Cmp3.law l b A o len) hown (wks W (staticW "java/lang/String" 177 Cmp3.yN)) (wk W Cmp3.tab) (W := 0) (Nat.le_of_ble_eq_true rfl) (Nat.le_of_ble_eq_true rfl) (Nat.le_refl _) (by show 0 + len ≤ len; omega) (g := (mkF m 36 #[.val (.ref a), .val (.ref b), .val (.int (Int32.ofNat o)), .val (.int (Int32.ofNat len)), .val .null, .unset] [.int (Int32.ofNat len), .int (Int32.ofNat o), .ref b])) rfl (by rw [hml]; rfl) c7 (argsL := [.ref b, .int (Int32.ofNat o), .int (Int32.ofNat len)]) (rest := []) rfl rfl (by show 2 * 0 + 0 ≤ _; decide) (hb hbytes d36) (⟨rfl, hA.mv X5.warmed.alike hh5, l1, l2, hp⟩)
  obtain ⟨e8, z8⟩ := E8
  obtain ⟨rfl, N, n1, n2, n3, n4, n5, n6⟩ := NewArr.mv _ T5 s _ _ hh5.symm (Vm.Alike.refl _) rfl e8
  rw [hh5] at z8
  have hB1 := hB.keep X8.warmed.alike (n6 _ _ hB.1)
  have hne : s.heap.size ≠ a := (Nat.ne_of_lt (Array.getElem?_eq_some_iff.mp hB.1).1).symm
  have c9 : Steps p.tables e below (s₁.setTop (entryFrame m #[.ref a, .ref b, .int (Int32.ofNat o), .int (Int32.ofNat len), .null] 6)) (T8.setTop (mkF m 39 #[.val (.ref a), .val (.ref b), .val (.int (Int32.ofNat o)), .val (.int (Int32.ofNat len)), .val .null, .unset] [.ref s.heap.size])) := g8
  have c10 : Steps p.tables e below (s₁.setTop (entryFrame m #[.ref a, .ref b, .int (Int32.ofNat o), .int (Int32.ofNat len), .null] 6)) (T8.setTop (mkF m 45 #[.val (.ref a), .val (.ref b), .val (.int (Int32.ofNat o)), .val (.int (Int32.ofNat len)), .val .null, .val (.ref s.heap.size)] [.int (Int32.ofNat N.slots.size), .ref s.heap.size, .ref a])) := by
    have hc : Steps p.tables e below (s₁.setTop (entryFrame m #[.ref a, .ref b, .int (Int32.ofNat o), .int (Int32.ofNat len), .null] 6)) (T8.setTop (mkF m 45 #[.val (.ref a), .val (.ref b), .val (.int (Int32.ofNat o)), .val (.int (Int32.ofNat len)), .val .null, .val (.ref s.heap.size)] [.int (Int32.ofNat len), .ref s.heap.size, .ref a])) := c9.trans (by
      refine XS.astore X8.here hexec rfl (hb hbytes d39) rfl rfl rfl ?_
      refine XS.aloadN X8.here hexec rfl (hb hbytes d41) rfl rfl ?_
      refine XS.aload X8.here hexec rfl (hb hbytes d42) rfl rfl ?_
      refine XS.iloadN X8.here hexec rfl (hb hbytes d44) rfl ?_
      exact Steps.refl _)
    rw [n4]; exact hc
  obtain ⟨v11, T11, X11, E11, g11⟩ := X8.callS hexec (CodL.law l s.heap.size N) hown (wks W (staticW "java/lang/String" 47 CodL.yN)) (wk W CodL.tab) (W := 1) (Nat.le_of_ble_eq_true rfl) (Nat.le_of_ble_eq_true rfl) (Nat.le_refl _) (by show 0 + len + 0 ≤ len; omega) (g := (mkF m 45 #[.val (.ref a), .val (.ref b), .val (.int (Int32.ofNat o)), .val (.int (Int32.ofNat len)), .val .null, .val (.ref s.heap.size)] [.int (Int32.ofNat N.slots.size), .ref s.heap.size, .ref a])) rfl (by rw [hml]; rfl) c10 (argsL := [.ref s.heap.size, .int (Int32.ofNat N.slots.size)]) (rest := [.ref a]) rfl rfl (by show 2 * 0 + (1 + 0) ≤ _; decide) (hb hbytes d45) (⟨rfl, n1⟩)
  obtain ⟨rfl, q11⟩ := E11
  have hB11 := hB1.mv (X8.warmed.alike.symm.trans X11.warmed.alike) q11
  have c12 : Steps p.tables e below (s₁.setTop (entryFrame m #[.ref a, .ref b, .int (Int32.ofNat o), .int (Int32.ofNat len), .null] 6)) (T11.setTop (mkF m 48 #[.val (.ref a), .val (.ref b), .val (.int (Int32.ofNat o)), .val (.int (Int32.ofNat len)), .val .null, .val (.ref s.heap.size)] [.int 0, .ref a])) := g11
  obtain ⟨T13, X13, p13, bl13, sl13, st13⟩ := X11.finit hexec hown (wk W (.fieldLink "java/lang/String" 15 "java/lang/String" "coder" "B")) (Or.inr ⟨_, (wk W (.laysFinal "java/lang/String" "java/lang/String" "coder" "B"))⟩) (Or.inl ⟨rfl, hnm⟩) f2 (Or.inl rfl) hB11 (t := .byte) (by decide +kernel) rfl (g := (mkF m 48 #[.val (.ref a), .val (.ref b), .val (.int (Int32.ofNat o)), .val (.int (Int32.ofNat len)), .val .null, .val (.ref s.heap.size)] [.int 0, .ref a])) rfl (rest := []) rfl (hb hbytes d48)
  have c14 : Steps p.tables e below (s₁.setTop (entryFrame m #[.ref a, .ref b, .int (Int32.ofNat o), .int (Int32.ofNat len), .null] 6)) (T13.setTop (mkF m 54 #[.val (.ref a), .val (.ref b), .val (.int (Int32.ofNat o)), .val (.int (Int32.ofNat len)), .val .null, .val (.ref s.heap.size)] [.ref s.heap.size, .ref a])) := (c12.trans (st13 _ (Steps.refl _))).trans (by
    refine XS.aloadN X13.here hexec rfl (hb hbytes d51) rfl rfl ?_
    refine XS.aload X13.here hexec rfl (hb hbytes d52) rfl rfl ?_
    exact Steps.refl _)
  obtain ⟨T15, X15, p15, bl15, sl15, st15⟩ := X13.finit hexec hown (wk W (.fieldLink "java/lang/String" 9 "java/lang/String" "value" "[B")) (Or.inr ⟨_, (wk W (.laysFinal "java/lang/String" "java/lang/String" "value" "[B"))⟩) (Or.inl ⟨rfl, hnm⟩) f1 (Or.inl rfl) bl13 (t := (.array .byte)) (by decide +kernel) rfl (g := (mkF m 54 #[.val (.ref a), .val (.ref b), .val (.int (Int32.ofNat o)), .val (.int (Int32.ofNat len)), .val .null, .val (.ref s.heap.size)] [.ref s.heap.size, .ref a])) rfl (rest := []) rfl (hb hbytes d54)
  have c16 : Steps p.tables e below (s₁.setTop (entryFrame m #[.ref a, .ref b, .int (Int32.ofNat o), .int (Int32.ofNat len), .null] 6)) (T15.setTop (mkF m 57 #[.val (.ref a), .val (.ref b), .val (.int (Int32.ofNat o)), .val (.int (Int32.ofNat len)), .val .null, .val (.ref s.heap.size)] [])) := c14.trans (st15 _ (Steps.refl _))
  have ap := apart (Or.inr ⟨_, (wk W (.laysFinal "java/lang/String" "java/lang/String" "value" "[B"))⟩) (Or.inr ⟨_, (wk W (.laysFinal "java/lang/String" "java/lang/String" "coder" "B"))⟩) f1 f2 (t₁ := .array .byte) (t₂ := .byte) (by decide +kernel) (by decide +kernel) (by decide)
  have al := X8.warmed.alike.symm.trans X15.warmed.alike
  have n7 : T11.heap[s.heap.size]? = some N := by rw [q11]; exact n1.1
  exact ⟨T15, none, _, _, _, X15, by simp, rfl, by omega, (fun _ => rfl), ⟨rfl, _, N, bl15, ((Same.refl D _).set _ (by simp)).set _ (by simp), sl15, (Cell.slots_setSlot_ne _ ap).trans sl13, n1.keep al (p15.other hne (p13.other hne n7)), n2, by rw [al.findClass]; exact n3, n4, n5, fun y c h1 h2 => p15.other h1 (p13.other h1 (by rw [q11]; exact n6 y c h2)), by rw [p15.2.2, p13.2.2, q11]; exact z8⟩, fun fs hl => c16.trans (X15.returnOut hexec hret (hb hbytes d57) hl)⟩
end New4
namespace New1
def yN : MethodName := ⟨"java/lang/String", "<init>", "([C)V"⟩
abbrev yB : ByteArray := jdk_42_method_3_code
theorem d0 : decode yB 0 = .ok (.aload_n 0, 1) := by decide +kernel
theorem d1 : decode yB 1 = .ok (.aload_n 1, 1) := by decide +kernel
theorem d2 : decode yB 2 = .ok (.iconst 0, 1) := by decide +kernel
theorem d3 : decode yB 3 = .ok (.aload_n 1, 1) := by decide +kernel
theorem d4 : decode yB 4 = .ok (.arraylength, 1) := by decide +kernel
theorem d5 : decode yB 5 = .ok (.aconst_null, 1) := by decide +kernel
theorem d6 : decode yB 6 = .ok (.invokespecial 27, 3) := by decide +kernel
theorem d9 : decode yB 9 = .ok (.return_, 1) := by decide +kernel
def site : List Cond := [New4.tab] ++ initW "java/lang/String" 27 New4.yN
def tab : Cond := tabOf yN yB 2 none site
def P (a : Addr) (D : Cell) (fV fC : Field) (b : Addr) (A : Cell) (z : Int32) (args : Array Value) (s : State) : Prop := args = #[.ref a, .ref b] ∧ Blank "java/lang/String" a D s ∧ Found "java/lang/String" "value" "[B" fV s ∧ Found "java/lang/String" "coder" "B" fC s ∧ Ch b A s ∧ StaticIs s "java/lang/String" "COMPACT_STRINGS" "Z" (.int z) ∧ ¬ z = 0 ∧ 0 < A.slots.size ∧ A.slots.size ≤ 536870912 ∧ ∀ i, i < A.slots.size → ¬ 255 < cv A i
def E (a : Addr) (D : Cell) (fV fC : Field) (A : Cell) (r : Option Value) (s u : State) : Prop := Got a D fV fC A 0 A.slots.size r s u
/-- new String(chars), not empty, no char above 255: a Latin-1 String of their low bytes -/
theorem law (l : Launch) (a : Addr) (D : Cell) (fV fC : Field) (b : Addr) (A : Cell) (z : Int32) : Law l yN 2 1 3 52 yB 2 none site (P a D fV fC b A z) (E a D fV fC A) [⟨a, fC.slot⟩, ⟨a, fV.slot⟩] 1 A.slots.size := by
  refine Law.of_walk (plainFor_of_name (by decide +kernel)) (by decide +kernel) (by decide +kernel) (by decide) (fun _ _ h => by rw [h.1]; rfl) (fun _ U U' hal hh h => ⟨h.1, h.2.1.mv hal hh, h.2.2.1.al hal, h.2.2.2.1.al hal, h.2.2.2.2.1.mv hal hh, h.2.2.2.2.2.1.there hal hh, h.2.2.2.2.2.2⟩) (fun r U U' V V' h1 hal h2 h => Got.mv r U U' V V' h1 hal h2 h) ?_
  intro p e s m args below meth c s₁ X0 hexec hbytes hml hret hlk hnm hown hh0 W hP
  obtain ⟨rfl, hB, f1, f2, hA, s1, hz, l0, l2, hp⟩ := hP
  have c1 : Steps p.tables e below (s₁.setTop (entryFrame m #[.ref a, .ref b] 2)) (s₁.setTop (mkF m 0 #[.val (.ref a), .val (.ref b)] [])) := entry rfl
  have c2 : Steps p.tables e below (s₁.setTop (entryFrame m #[.ref a, .ref b] 2)) (s₁.setTop (mkF m 6 #[.val (.ref a), .val (.ref b)] [.null, .int (Int32.ofNat A.slots.size), .int 0, .ref b, .ref a])) := c1.trans (by
    refine XS.aloadN X0.here hexec rfl (hb hbytes d0) rfl rfl ?_
    refine XS.aloadN X0.here hexec rfl (hb hbytes d1) rfl rfl ?_
    refine iconstV X0.here hexec rfl 0 (hb hbytes d2) (by decide) ?_
    refine XS.aloadN X0.here hexec rfl (hb hbytes d3) rfl rfl ?_
    refine X0.alen hexec (hA.1.mv X0.warmed.alike hh0) rfl rfl (hb hbytes d4) ?_
    refine XS.aconstNull X0.here hexec rfl (hb hbytes d5) ?_
    exact Steps.refl _)
  obtain ⟨v3, T3, X3, E3, g3⟩ := X0.callN hexec (New4.law l a D fV fC b A z 0 A.slots.size) rfl hown (wks W (initW "java/lang/String" 27 New4.yN)) (W New4.tab (by simp only [site, List.mem_cons, List.mem_append, true_or, or_true])) (W := 0) (Nat.le_of_ble_eq_true rfl) (Nat.le_of_ble_eq_true rfl) (Nat.le_refl _) (by show 0 + A.slots.size ≤ A.slots.size; omega) (g := (mkF m 6 #[.val (.ref a), .val (.ref b)] [.null, .int (Int32.ofNat A.slots.size), .int (Int32.ofNat 0), .ref b, .ref a])) rfl (by rw [hml]; rfl) c2 (argsL := [.ref b, .int (Int32.ofNat 0), .int (Int32.ofNat A.slots.size), .null]) (rest := []) rfl rfl (by show 2 * 0 + 0 ≤ _; decide) (hb hbytes d6) (⟨rfl, hB.mv X0.warmed.alike hh0, f1.al X0.warmed.alike, f2.al X0.warmed.alike, hA.mv X0.warmed.alike hh0, s1.there X0.warmed.alike hh0, hz, l0, by omega, l2, fun i hi => by rw [Nat.zero_add]; exact hp i hi⟩)
  have e0 := Got.mv _ s₁ s _ _ hh0.symm (Vm.Alike.refl _) rfl E3
  obtain rfl := e0.1
  have c4 : Steps p.tables e below (s₁.setTop (entryFrame m #[.ref a, .ref b] 2)) (T3.setTop (mkF m 9 #[.val (.ref a), .val (.ref b)] [])) := g3
  exact ⟨T3, none, _, _, _, X3, by simp, rfl, by omega, (fun _ => rfl), e0, fun fs hl => c4.trans (X3.returnOut hexec hret (hb hbytes d9) hl)⟩
theorem pays {l : Launch} {R : Room} {p : Program} {e : Env} {below : List Frame} {s : State} {sargs : Array Value} {len W : Nat} (a : Addr) (D : Cell) (fV fC : Field) (b : Addr) (A : Cell) (z : Int32) (htab : tab.before sargs s = true) (hfr : 4 ≤ R.frames) (hlo : W + 65 ≤ R.locals) :
    Back l R p e below s sargs yN len W (fun A₁ a₁ => A₁.cells + 1 ≤ R.cells ∧ A₁.slots + A.slots.size ≤ R.slots ∧ P a D fV fC b A z a₁ A₁.U) (fun A₁ _ v₁ B₁ => E a D fV fC A v₁ A₁.U B₁.U ∧ B₁.locs = A₁.locs ++ [⟨a, fC.slot⟩, ⟨a, fV.slot⟩] ∧ B₁.cells = A₁.cells + 1 ∧ B₁.slots = A₁.slots + A.slots.size) :=
  (law l a D fV fC b A z).pays htab hfr (by omega)
end New1
end StrChars
namespace StrChars.Road
open Jvm Sem ClassFile Op Lib Jvm.Stand Jvm.Free Jvm.Free.XT
open Jvm.Lib.Cold (StaticIs)
abbrev ST : String := "java/lang/String"
/-- every table word that New1's law asks, flat -/
abbrev words : List Jvm.Cond := [.code New1.yN New1.yB 2 none, .initialized ST, .methodLink ST 27 New4.yN, .instanceMethod New4.yN,
  .code New4.yN New4.yB 6 none, .fieldLink ST 38 ST "COMPACT_STRINGS" "Z", .laysFinal ST ST "value" "[B", .fieldLink ST 9 ST "value" "[B", .laysFinal ST ST "coder" "B", .fieldLink ST 15 ST "coder" "B",
  .methodLink ST 1 Lib.objectInit, .instanceMethod Lib.objectInit, .code Lib.objectInit ⟨#[0xb1]⟩ 1 none, .methodLink ST 177 Cmp3.yN, .static Cmp3.yN, .methodLink ST 47 CodL.yN, .static CodL.yN,
  .code Cmp3.yN Cmp3.yB 6 (some (.array .byte)), .initialized U16, .arrayClass .byte, .methodLink U16 115 Cmp5.yN, .static Cmp5.yN, .code Cmp5.yN Cmp5.yB 7 (some .int), .code CodL.yN CodL.yB 2 (some .byte)]
theorem tab_of {a : Array Value} {s : State} (h : ∀ w ∈ words, w.before a s = true) : New1.tab.before a s = true := by
  have h5 : Cmp5.tab.before a s = true := unparts (wk h (.code Cmp5.yN Cmp5.yB 7 (some .int))) (wks h (.initialized Cmp5.yN.cls :: Cmp5.site))
  have hc : CodL.tab.before a s = true := unparts (wk h (.code CodL.yN CodL.yB 2 (some .byte))) (wks h (.initialized CodL.yN.cls :: CodL.site))
  have q5 : ∀ w ∈ Cmp5.tab :: words, w.before a s = true := fun w hw => (List.mem_cons.mp hw).elim (fun e => e ▸ h5) (h w)
  have h3 : Cmp3.tab.before a s = true := unparts (wk q5 (.code Cmp3.yN Cmp3.yB 6 (some (.array .byte)))) (wks q5 (.initialized Cmp3.yN.cls :: Cmp3.site))
  have q3 : ∀ w ∈ Cmp3.tab :: CodL.tab :: words, w.before a s = true := fun w hw => (List.mem_cons.mp hw).elim (fun e => e ▸ h3) fun hw => (List.mem_cons.mp hw).elim (fun e => e ▸ hc) (h w)
  have h4 : New4.tab.before a s = true := unparts (wk q3 (.code New4.yN New4.yB 6 none)) (wks q3 (.initialized New4.yN.cls :: New4.site))
  have q4 : ∀ w ∈ New4.tab :: words, w.before a s = true := fun w hw => (List.mem_cons.mp hw).elim (fun e => e ▸ h4) (h w)
  exact unparts (wk q4 (.code New1.yN New1.yB 2 none)) (wks q4 (.initialized New1.yN.cls :: New1.site))
/-- the words ride from the start Z to the walk's own state -/
theorem moved {Z s : State} {a0 args : Array Value} (hZ : Z.Warmed39 s.vm) (hw : ∀ d ∈ words, d.before a0 Z = true) : ∀ d ∈ words, d.before args s = true := fun d hd => by
  have q := hw d hd
  have t : ∀ d ∈ words, d = .arrayClass .byte ∨ (d.onTables && d.keepsFace) = true := by decide +kernel
  rcases t d hd with rfl | t
  · exact RoadKit.mvA hZ q
  · exact RoadKit.mv hZ q t
/-- WHAT COMES BACK, over the tables of the start Z: h the heap at the call, h' behind it -/
def Q (Z : State) (x : Addr) (A : Cell) (h : Heap) (v : Option Value) (h' : Heap) (L : List Loc) : Prop := v = none ∧ (∀ y ∈ L, y.base = x) ∧ RoadKit.Keep h h' [x] ∧ h'.size = h.size + 1 ∧ RoadKit.Exa Z h' x ST ∧ RoadKit.Fld Z h' x ST "value" "[B" (.ref h.size) ∧ RoadKit.Fld Z h' x ST "coder" "B" (.int 0) ∧
  (∃ V : Cell, RoadKit.Arr Z h' h.size V .byte ∧ V.vm = .none ∧ Z.vm.findClass "[B" = some V.cls ∧ V.slots.size = A.slots.size ∧ ∀ j, j < A.slots.size → V.slots[j]? = some (.int (lo8 (cv A j)))) ∧
  ∀ (O n d : String) (w : Value), RoadKit.Fld Z h x O n d w → RoadKit.slotOf Z O n d ≠ RoadKit.slotOf Z ST "value" "[B" → RoadKit.slotOf Z O n d ≠ RoadKit.slotOf Z ST "coder" "B" → RoadKit.Fld Z h' x O n d w
/-- **new String(chars) AT A CALL, IN THE ROAD'S FORM**: for specialBack behind newO: x the fresh String, b the char[] with the cell A -/
theorem back {p : Program} {l : Launch} {e : Env} {R : Room} {s : State} {args : Array Value} {below : List Frame} {len W : Nat} {Z : State} {a0 : Array Value} {h : Heap} (hZ : Z.Warmed39 s.vm) (hw : ∀ d ∈ words, d.before a0 Z = true) {kI : Nat} (wi : (Jvm.Cond.instantiable ST kI).before a0 Z = true)
    {x b : Addr} {A : Cell} {z : Int32} {v0 c0 : Value} (E : RoadKit.Exa Z h x ST) (V : RoadKit.Fld Z h x ST "value" "[B" v0) (C : RoadKit.Fld Z h x ST "coder" "B" c0) (K : RoadKit.Arr Z h b A .char) (hty : Typed .char A) (S : RoadKit.Sta Z h ST "COMPACT_STRINGS" "Z" (.int z)) (hz : ¬ z = 0)
    (l0 : 0 < A.slots.size) (l2 : A.slots.size ≤ 536870912) (hp : ∀ i, i < A.slots.size → ¬ 255 < cv A i) (hfr : 4 ≤ R.frames) (hlo : W + 65 ≤ R.locals) :
    Back l R p e below s args New1.yN len W (fun P a => a = #[.ref x, .ref b] ∧ P.U.heap = h ∧ P.cells + 1 ≤ R.cells ∧ P.slots + A.slots.size ≤ R.slots)
      (fun P _ v B => ∃ L, Q Z x A h v B.U.heap L ∧ B.locs = P.locs ++ L ∧ B.cells = P.cells + 1 ∧ B.slots = P.slots + A.slots.size) := by
  intro m meth c P g ig mk a X hg hsize hdg hW hn hp'
  obtain ⟨rfl, rfl, r1, r2⟩ := hp'
  have al : Z.vm.Alike P.U.vm := hZ.alike.trans X.warmed.alike
  obtain ⟨D, cfV, kV, iV, fV, hD, gV, stV, knV, obV, asV, slV⟩ := id V
  obtain ⟨D', cfC, kC, iC, fC, hD', gC, stC, -, -, asC, slC⟩ := id C
  cases hD.symm.trans hD'
  obtain ⟨D2, kD, e1, e2, e3, e4, e5⟩ := id E
  cases hD.symm.trans e1
  obtain ⟨c2, k2, i1, i2, i3, -⟩ := Cond.instantiable_spec wi
  cases e2.symm.trans i1
  cases e3.symm.trans i2
  obtain ⟨kU, u1, u2⟩ := al.2.2 _ _ e3
  have hB : Blank ST x D P.U := ⟨hD, ⟨knV, fun q hq => by rw [hq] at obV; cases obV⟩, by rw [al.findClass]; exact e2, kU, u1, by rw [u2]; exact i3, by rw [u2]; exact e5 i3⟩
  have F1 : Found ST "value" "[B" fV P.U := ⟨SBG.found_only al ⟨cfV, kV, iV, gV⟩, stV⟩
  have F2 : Found ST "coder" "B" fC P.U := ⟨SBG.found_only al ⟨cfC, kC, iC, gC⟩, stC⟩
  have hA : Ch b A P.U := ⟨⟨K.1, State.isArrayOf_alike al K.2.1, K.2.2, by omega⟩, hty⟩
  have hS : StaticIs P.U ST "COMPACT_STRINGS" "Z" (.int z) := by
    obtain ⟨cfS, iS, kS, fS, st, cS, t1, t2, t3, t4, t5, t6, t7⟩ := S
    exact StaticIs.there (s := { Z with heap := P.U.heap }) ⟨cfS, iS, kS, fS, st, cS, t1, t2, t3, t4, t5, (fun q => by rw [q] at t6; cases t6), t7⟩ al rfl
  obtain ⟨v, B, X', ⟨⟨hv, E', V', q1, q2, q3, q4, q5, q6, q7, q8, q9, q10, q11⟩, hl, hc, hs⟩, st⟩ := New1.pays x D fV fC b A z (tab_of (moved hZ hw)) hfr hlo m meth c P g ig mk _ X hg hsize hdg hW hn ⟨r1, r2, rfl, hB, F1, F2, hA, hS, hz, l0, l2, hp⟩
  have al' : Z.vm.Alike B.U.vm := hZ.alike.trans X'.warmed.alike
  have hsz : E'.slots.size = D.slots.size := by
    obtain ⟨-, -, -, kB, w1, w2, w3⟩ := q1
    obtain ⟨kB', y1, y2⟩ := al'.2.2 _ _ e3
    rw [q2.2.1] at w1
    cases w1.symm.trans y1
    rw [w3, e5 i3, y2]
  refine ⟨v, B, X', ⟨_, ⟨hv, ?_, ⟨by omega, fun y cy hy hn' => q10 y cy (by simpa using hn') hy, fun y cy hy => ?_⟩, q11, ⟨E', _, q1.1, by rw [q2.2.1]; exact e2, by rw [q2.2.1]; exact e3, by rw [q2.1]; exact obV, fun _ => by rw [hsz]; exact e5 i3⟩,
    ⟨E', cfV, kV, iV, fV, q1.1, gV, stV, by rw [q2.1]; exact knV, by rw [q2.1]; exact obV, by rw [q2.2.1]; exact asV, q3⟩, ⟨E', cfC, kC, iC, fC, q1.1, gC, stC, by rw [q2.1]; exact knV, by rw [q2.1]; exact obV, by rw [q2.2.1]; exact asC, q4⟩,
    ⟨V', ⟨q5.1, State.isArrayOf_alike al'.symm q5.2.1, q5.2.2.1⟩, q6, by rw [← al'.findClass]; exact q7, q8, fun j hj => by have := q9 j hj; rwa [Nat.zero_add] at this⟩, fun O n d w F n1 n2 => ?_⟩, hl, hc, hs⟩, st⟩
  · intro y hy
    simp only [List.mem_cons, List.not_mem_nil, or_false] at hy
    rcases hy with rfl | rfl <;> rfl
  · by_cases q : y = x
    · subst q
      cases hD.symm.trans hy
      exact ⟨E', q1.1, q2.2.1, q2.1, hsz⟩
    · exact ⟨cy, q10 y cy q hy, rfl, rfl, rfl⟩
  · obtain ⟨D3, cf, k, i, f, g1, g2, g3, g4, g5, g6, g7⟩ := F
    cases hD.symm.trans g1
    simp only [RoadKit.slotOf, g2, gV, gC, Option.map_some, Option.getD_some] at n1 n2
    exact ⟨E', cf, k, i, f, q1.1, g2, g3, by rw [q2.1]; exact g4, by rw [q2.1]; exact g5, by rw [q2.2.1]; exact g6, by rw [q2.2.2 f.slot (by simp [n1, n2])]; exact g7⟩
end StrChars.Road
namespace StrChars.Road
open Jvm Sem ClassFile Op Lib Jvm.Stand Jvm.Free Jvm.Free.XT
/-- WHAT COMES BACK, the byte[] as a list of values -/
def QA (Z : State) (x : Addr) (zn : Int32) (cs : List Int32) (h : Heap) (v : Option Value) (h' : Heap) (L : List Loc) : Prop := v = none ∧ (∀ y ∈ L, y.base = x) ∧ RoadKit.Keep h h' [x] ∧ h'.size = h.size + 1 ∧ RoadKit.Exa Z h' x ST ∧ RoadKit.Fld Z h' x ST "value" "[B" (.ref h.size) ∧ RoadKit.Fld Z h' x ST "coder" "B" (.int 0) ∧
  (∃ kb, Z.vm.findClass "[B" = some kb ∧ RoadKit.Arv Z h' h.size kb .byte zn (cs.map fun c => .int (lo8 c)) (.int 0)) ∧
  ∀ (O n d : String) (w : Value), RoadKit.Fld Z h x O n d w → RoadKit.slotOf Z O n d ≠ RoadKit.slotOf Z ST "value" "[B" → RoadKit.slotOf Z O n d ≠ RoadKit.slotOf Z ST "coder" "B" → RoadKit.Fld Z h' x O n d w
/-- **new String(chars) AT A CALL, THE ARRAYS AS LISTS**: the char[] at b holds cs, not empty, no char above 255 -/
theorem backArv {p : Program} {l : Launch} {e : Env} {R : Room} {s : State} {args : Array Value} {below : List Frame} {len W : Nat} {Z : State} {a0 : Array Value} {h : Heap} (hZ : Z.Warmed39 s.vm) (hw : ∀ d ∈ words, d.before a0 Z = true) {kI : Nat} (wi : (Jvm.Cond.instantiable ST kI).before a0 Z = true)
    {x b : Addr} {k : ClassId} {zn z : Int32} {cs : List Int32} {dv v0 c0 : Value} (E : RoadKit.Exa Z h x ST) (V : RoadKit.Fld Z h x ST "value" "[B" v0) (C : RoadKit.Fld Z h x ST "coder" "B" c0) (K : RoadKit.Arv Z h b k .char zn (cs.map Value.int) dv) (S : RoadKit.Sta Z h ST "COMPACT_STRINGS" "Z" (.int z)) (hz : ¬ z = 0)
    (hlen : zn.toNatClampNeg = cs.length) (h0 : 0 < cs.length) (hbig : cs.length ≤ 536870912) (hall : ∀ c ∈ cs, ¬ 255 < c) (hfr : 4 ≤ R.frames) (hlo : W + 65 ≤ R.locals) :
    Back l R p e below s args New1.yN len W (fun P a => a = #[.ref x, .ref b] ∧ P.U.heap = h ∧ P.cells + 1 ≤ R.cells ∧ P.slots + cs.length ≤ R.slots)
      (fun P _ v B => ∃ L, QA Z x zn cs h v B.U.heap L ∧ B.locs = P.locs ++ L ∧ B.cells = P.cells + 1 ∧ B.slots = P.slots + cs.length) := by
  obtain ⟨A, K1, K2, K3, K4, K5, K6⟩ := K
  have e : A.slots.size = cs.length := K3.trans hlen
  have hat : ∀ (i : Nat) (hi : i < cs.length), A.slots[i]? = some (.int cs[i]) := fun i hi => by rw [K5 i (by omega)]; simp [List.getD_eq_getElem?_getD, hi]
  have hcv : ∀ (i : Nat) (hi : i < cs.length), cv A i = cs[i] := fun i hi => by unfold cv; rw [hat i hi]
  have hty : Typed .char A := fun i v hv => by
    have hi : i < A.slots.size := (Array.getElem?_eq_some_iff.mp hv).1
    have q := K5 i hi
    rw [hv] at q
    rw [Option.some.inj q]
    exact K6 i hi
  refine Back.mono (back hZ hw wi E V C K1 hty S hz (by omega) (by omega) (fun i hi => by rw [hcv i (by omega)]; exact hall _ (List.getElem_mem _)) hfr hlo) (fun P a hp => ⟨hp.1, hp.2.1, hp.2.2.1, by rw [e]; exact hp.2.2.2⟩) (fun P a v B hp hq => ?_)
  obtain ⟨L, ⟨q1, q2, q3, q4, q5, q6, q7, ⟨V', v1, v2, v3, v4, v5⟩, q9⟩, hl, hc, hs⟩ := hq
  refine ⟨L, ⟨q1, q2, q3, q4, q5, q6, q7, ⟨V'.cls, v3, V', v1, rfl, by rw [v4, e, hlen], K4, fun i hi => ?_, fun i hi => ?_⟩, q9⟩, hl, hc, by rw [hs, e]⟩
  · have hi' : i < cs.length := by omega
    rw [v5 i (by omega), hcv i hi']; simp [List.getD_eq_getElem?_getD, hi']
  · have hi' : i < cs.length := by omega
    simp only [List.getD_eq_getElem?_getD, List.getElem?_map, List.getElem?_eq_getElem hi', Option.map_some, Option.getD_some]
    exact fits_lo8 _
end StrChars.Road
namespace StrChars.Road
open Jvm Sem ClassFile Op Lib Jvm.Stand Jvm.Free Jvm.Free.XT
/-- WHAT COMES BACK, in the writer's own shape -/
def QV (Z : State) (x : Addr) (N : Int32) (bs : List Int32) (h : Heap) (n0 : Nat) (v : Option Value) (h' : Heap) (L : List Loc) : Prop := v = none ∧ RoadKit.Fr n0 L ∧ RoadKit.Keep h h' [x] ∧ RoadKit.Exa Z h' x ST ∧ RoadKit.Fld Z h' x ST "coder" "B" (.int 0) ∧
  ∃ (t : Addr) (kb : ClassId), n0 ≤ t ∧ h.size ≤ t ∧ ¬ t = x ∧ RoadKit.Fld Z h' x ST "value" "[B" (.ref t) ∧ RoadKit.Arv Z h' t kb .byte N (bs.map Value.int) (.int 0)
/-- **new String(chars) AT A CALL, FOR THE WRITER**: a char[] of n known ints, each 0 to 255 -/
theorem backV {p : Program} {l : Launch} {e : Env} {R : Room} {s : State} {args : Array Value} {below : List Frame} {len W : Nat} {Z : State} {a0 : Array Value} {h : Heap} (hZ : Z.Warmed39 s.vm) (hw : ∀ d ∈ words, d.before a0 Z = true) {kI : Nat} (wi : (Jvm.Cond.instantiable ST kI).before a0 Z = true)
    {x b : Addr} {kC : ClassId} {cs bs : List Int32} {d v0 c0 : Value} {z N : Int32} {n n0 : Nat} (hx0 : n0 ≤ x) (hh0 : n0 ≤ h.size) (E : RoadKit.Exa Z h x ST) (V : RoadKit.Fld Z h x ST "value" "[B" v0) (C : RoadKit.Fld Z h x ST "coder" "B" c0) (K : RoadKit.Arv Z h b kC .char N (cs.map Value.int) d) (S : RoadKit.Sta Z h ST "COMPACT_STRINGS" "Z" (.int z)) (hz : ¬ z = 0)
    (hn : cs.length = n) (hN : N = Int32.ofNat n) (l0 : 0 < n) (l2 : n ≤ 4000) (hp : ∀ c ∈ cs, ¬ c < 0 ∧ ¬ (255 : Int32) < c) (hb : bs = cs.map (fun c => c.toInt8.toInt32)) (hfr : 4 ≤ R.frames) (hlo : W + 65 ≤ R.locals) :
    Back l R p e below s args (⟨"java/lang/String", "<init>", "([C)V"⟩ : MethodName) len W (fun P a => a = #[.ref x, .ref b] ∧ P.U.heap = h ∧ P.cells + 1 ≤ R.cells ∧ P.slots + n ≤ R.slots)
      (fun P _ v B => ∃ L, QV Z x N bs h n0 v B.U.heap L ∧ B.locs = P.locs ++ L ∧ B.cells = P.cells + 1 ∧ B.slots = P.slots + n) := by
  subst hn hN hb
  refine Back.mono (backArv hZ hw wi E V C K S hz (n32 (by omega)) l0 (by omega) (fun c hc => (hp c hc).2) hfr hlo) (fun P a hp => hp) (fun P a v B hp hq => ?_)
  obtain ⟨L, ⟨q1, q2, q3, q4, q5, q6, q7, ⟨kb, v1, v2⟩, q9⟩, hl, hc, hs⟩ := hq
  exact ⟨L, ⟨q1, fun y hy => by rw [q2 y hy]; exact hx0, q3, q5, q7, h.size, kb, hh0, Nat.le_refl _, Nat.ne_of_gt E.lt, q6, by rw [List.map_map]; exact v2⟩, hl, hc, hs⟩
end StrChars.Road
end Jvm.Pilot.@@N@@

namespace Jvm.Pilot.@@N@@
open Jvm Jvm.ClassFile Sem Op Lib Jvm.Free Jvm.Stand Jvm.LawKit Jvm.RoadKit Bundle Jvm.Pilot.@@N@@.Jvm.D
theorem own_nar {t : FieldType} {v : Value} (h : v.isRef = true) (ht : t.isReference = true) : narrow t v = v := by
  rcases ref_cases h with rfl | ⟨a, rfl⟩ <;> cases t <;> first | rfl | cases ht
theorem own_fits {t : FieldType} {v : Value} (h : v.isRef = true) (ht : t.isReference = true) : fits t v = true := by
  rcases ref_cases h with rfl | ⟨a, rfl⟩ <;> cases t <;> first | rfl | cases ht
theorem own_and255 (x : Int32) : ¬ nar .char ((x &&& (255 : Int32)).toUInt32.toUInt16.toUInt32.toInt32) < 0 ∧ ¬ (255 : Int32) < nar .char ((x &&& (255 : Int32)).toUInt32.toUInt16.toUInt32.toInt32) := by
  have t : ∀ k : Fin 256, ¬ nar .char ((Int32.ofNat k.val).toUInt32.toUInt16.toUInt32.toInt32) < 0 ∧ ¬ (255 : Int32) < nar .char ((Int32.ofNat k.val).toUInt32.toUInt16.toUInt32.toInt32) := by decide +kernel
  have h : (x &&& 255).toBitVec.toNat < 256 := by
    simp only [Int32.toBitVec_and, BitVec.toNat_and]
    exact Nat.lt_succ_of_le Nat.and_le_right
  have e : (x &&& 255) = Int32.ofNat (x &&& 255).toBitVec.toNat := by
    apply Int32.toBitVec_inj.mp
    show _ = BitVec.ofNat 32 _
    rw [BitVec.ofNat_toNat]; simp
  rw [e]
  exact t ⟨_, h⟩
theorem own_narb (x : Int32) : nar .byte (x.toInt8.toInt32) = x.toInt8.toInt32 := by simp [nar]
theorem own_c255 (x : Int32) : ¬ ((255 : Int32) < (x &&& (255 : Int32)).toUInt32.toUInt16.toUInt32.toInt32) := by
  rw [i2c_mask]
  have h := c_and x 255 (by decide)
  have e : (255 : Int32).toInt = 255 := rfl
  rw [Int32.lt_iff_toInt_lt]; omega
theorem own_words {a0 : Array Value} {Z : State} (hw : ∀ d ∈ tables_1, d.before a0 Z = true) : ∀ d ∈ StrChars.Road.words, d.before a0 Z = true := fun d hd => hw d ((by decide +kernel : ∀ d ∈ StrChars.Road.words, d ∈ tables_1) d hd)
def Q_rec (Z : State) (a : Addr) (h0 : Heap) (n0 : Nat) (v : Option Value) (h : Heap) (L : List Loc) : Prop := v = none ∧ Fr n0 L ∧ h = h0
theorem pn_0 : plainName "java/lang/Record" = true := by first | (simp [plainName, overriddenIn]; done) | decide +kernel
theorem ef_rec (m : MethodId) (a : Addr) : entryFrame m #[(.ref a)] 1 = mkF m 0 #[.val (.ref a)] [] := by first | (simp [entryFrame, mkF, argsToLocals, Value.category]; done) | rfl
theorem d_jdk_30_method_1_code_0 : decode jdk_30_method_1_code 0 = .ok (.aload_n 0, 1) := by decide +kernel
theorem d_jdk_30_method_1_code_1 : decode jdk_30_method_1_code 1 = .ok (.invokespecial 1, 3) := by decide +kernel
theorem d_jdk_30_method_1_code_4 : decode jdk_30_method_1_code 4 = .ok (.return_, 1) := by decide +kernel
set_option maxRecDepth 65536 in
set_option maxHeartbeats 40000000 in
theorem rm_rec (l : Launch) (Z : State) (a0 : Array Value) (hw : ∀ d ∈ tables_1, d.before a0 Z = true) (ws : List Jvm.Cond) (a : Addr) (h0 : Heap) (n0 : Nat) (X00 : Old Z n0 h0)  :
    MetFree l (⟨"java/lang/Record", "<init>", "()V"⟩ : MethodName) (head1 (Jvm.Cond.code (⟨"java/lang/Record", "<init>", "()V"⟩ : MethodName) jdk_30_method_1_code 1 none :: ws) ({ frames := 1, cells := 0, slots := 0, locals := 12 } : Room)) (fun aa_ U => aa_ = #[(.ref a)] ∧ Z.Warmed39 U.vm ∧ U.heap = h0) (fun _ _ _ _ _ => True) (fun _ U o U' => ∃ v L, o = .returned v ∧ Q_rec Z a h0 n0 v U'.heap L ∧ FrameEnd U o U' L ({ frames := 1, cells := 0, slots := 0, locals := 12 } : Room).cells ({ frames := 1, cells := 0, slots := 0, locals := 12 } : Room).slots) := by
  refine MetFree.of_bodySF (plainFor_of_name pn_0) hisR ?_
  intro p e s m args below meth c s₁ Bd hml0 hP hK
  obtain ⟨rfl, hZ, hh⟩ := hP
  have hx := Bd.exec
  have hby := Bd.bytes
  have hml : c.maxLocals = 1 := hml0
  have hown : s.vm.findClass "java/lang/Record" = some m.cls := findClass_of_methodNamed Bd.named
  have hnm := (name_of_methodNamed Bd.named Bd.method).1
  have hlk : meth.locks = false := BodyLoose.notSynchronized Bd
  have X0 : Stand p l e ({ frames := 1, cells := 0, slots := 0, locals := 12 } : Room) s m #[(.ref a)] below meth c s₁ [] 0 0 := Stand.of_body Bd
  have e0 : s₁.heap = h0 := by rw [← hh, Bd.state]; rfl
  have N0 := Fr.nil n0
  suffices G : Go p e below s (Q_rec Z a h0 n0) 0 0 s₁ (mkF m 0 #[.val (.ref a)] []) by
    obtain ⟨s2, o, h1, h2⟩ := G
    exact ⟨s2, o, castTop (ef_rec m a) h1, h2⟩
  refine Go.by (T' := s₁) (g' := (mkF m 1 #[.val (.ref a)] [(.ref a)])) (fun t_ k_ => XS.aloadN X0.here hx rfl (hb hby d_jdk_30_method_1_code_0) rfl rfl k_) ?_
  obtain ⟨T1, X1, e1, st1⟩ := initO X0 hx hZ hown (hw _ (List.mem_of_getElem? (i := 44) rfl)) (hw _ (List.mem_of_getElem? (i := 12) rfl)) (hw _ (List.mem_of_getElem? (i := 13) rfl)) e0 (g := (mkF m 1 #[.val (.ref a)] [(.ref a)])) rfl (by rw [hml]; rfl) rfl (hb hby d_jdk_30_method_1_code_1) (by decide) (W := 0) (by show 2 * 0 + _ ≤ _; exact Nat.le_of_eq rfl) (by decide)
  refine Go.by (T' := T1) (g' := (mkF m 4 #[.val (.ref a)] [])) (fun t_ k_ => st1 _ k_) ?_
  refine Go.fin X1 (v := none) (fun _ => rfl) hlk (by decide) (by decide) ?_ (fun fs hr => X1.returnOut hx Bd.returns (hb hby d_jdk_30_method_1_code_4) hr)
  show Q_rec Z a h0 n0 _ T1.heap _
  rw [e1]
  exact ⟨rfl, N0, rfl⟩
def Q_canEnc (Z : State) (x : Int32) (h0 : Heap) (n0 : Nat) (v : Option Value) (h : Heap) (L : List Loc) : Prop := v = some (.int 1) ∧ Fr n0 L ∧ h = h0
theorem pn_1 : plainName "java/lang/StringLatin1" = true := by first | (simp [plainName, overriddenIn]; done) | decide +kernel
theorem ef_canEnc (m : MethodId) (x : Int32) : entryFrame m #[(.int x)] 1 = mkF m 0 #[.val (.int x)] [] := by first | (simp [entryFrame, mkF, argsToLocals, Value.category]; done) | rfl
theorem d_jdk_43_method_3_code_0 : decode jdk_43_method_3_code 0 = .ok (.iload_n 0, 1) := by decide +kernel
theorem d_jdk_43_method_3_code_1 : decode jdk_43_method_3_code 1 = .ok (.sipush 255, 3) := by decide +kernel
theorem d_jdk_43_method_3_code_4 : decode jdk_43_method_3_code 4 = .ok (.if_icmp .gt 7, 3) := by decide +kernel
theorem d_jdk_43_method_3_code_7 : decode jdk_43_method_3_code 7 = .ok (.iconst 1, 1) := by decide +kernel
theorem d_jdk_43_method_3_code_8 : decode jdk_43_method_3_code 8 = .ok (.goto 4, 3) := by decide +kernel
theorem d_jdk_43_method_3_code_12 : decode jdk_43_method_3_code 12 = .ok (.ireturn, 1) := by decide +kernel
set_option maxRecDepth 65536 in
set_option maxHeartbeats 40000000 in
theorem rm_canEnc (l : Launch) (Z : State) (a0 : Array Value) (hw : ∀ d ∈ tables_1, d.before a0 Z = true) (ws : List Jvm.Cond) (x : Int32) (h0 : Heap) (n0 : Nat) (X00 : Old Z n0 h0) (hx255 : ¬ ((255 : Int32) < x)) :
    MetFree l (⟨"java/lang/StringLatin1", "canEncode", "(C)Z"⟩ : MethodName) (head1 (Jvm.Cond.code (⟨"java/lang/StringLatin1", "canEncode", "(C)Z"⟩ : MethodName) jdk_43_method_3_code 1 (some .boolean) :: ws) ({ frames := 0, cells := 0, slots := 0, locals := 0 } : Room)) (fun aa_ U => aa_ = #[(.int x)] ∧ Z.Warmed39 U.vm ∧ U.heap = h0) (fun _ _ _ _ _ => True) (fun _ U o U' => ∃ v L, o = .returned v ∧ Q_canEnc Z x h0 n0 v U'.heap L ∧ FrameEnd U o U' L ({ frames := 0, cells := 0, slots := 0, locals := 0 } : Room).cells ({ frames := 0, cells := 0, slots := 0, locals := 0 } : Room).slots) := by
  refine MetFree.of_bodySF (plainFor_of_name pn_1) hisR ?_
  intro p e s m args below meth c s₁ Bd hml0 hP hK
  obtain ⟨rfl, hZ, hh⟩ := hP
  have hx := Bd.exec
  have hby := Bd.bytes
  have hml : c.maxLocals = 1 := hml0
  have hown : s.vm.findClass "java/lang/StringLatin1" = some m.cls := findClass_of_methodNamed Bd.named
  have hnm := (name_of_methodNamed Bd.named Bd.method).1
  have hlk : meth.locks = false := BodyLoose.notSynchronized Bd
  have X0 : Stand p l e ({ frames := 0, cells := 0, slots := 0, locals := 0 } : Room) s m #[(.int x)] below meth c s₁ [] 0 0 := Stand.of_body Bd
  have e0 : s₁.heap = h0 := by rw [← hh, Bd.state]; rfl
  have N0 := Fr.nil n0
  suffices G : Go p e below s (Q_canEnc Z x h0 n0) 0 0 s₁ (mkF m 0 #[.val (.int x)] []) by
    obtain ⟨s2, o, h1, h2⟩ := G
    exact ⟨s2, o, castTop (ef_canEnc m x) h1, h2⟩
  refine Go.by (T' := s₁) (g' := (mkF m 1 #[.val (.int x)] [(.int x)])) (fun t_ k_ => XS.iloadN X0.here hx rfl (hb hby d_jdk_43_method_3_code_0) rfl k_) ?_
  refine Go.by (T' := s₁) (g' := (mkF m 4 #[.val (.int x)] [(.int (255 : Int32)), (.int x)])) (fun t_ k_ => XS.sipush X0.here hx rfl (hb hby d_jdk_43_method_3_code_1) k_) ?_
  refine Go.by (T' := s₁) (g' := (mkF m 7 #[.val (.int x)] [])) (fun t_ k_ => XS.icmpNo X0.here hx rfl (hb hby d_jdk_43_method_3_code_4) rfl (flt hx255).2.2.1 k_) ?_
  refine Go.by (T' := s₁) (g' := (mkF m 8 #[.val (.int x)] [(.int (1 : Int32))])) (fun t_ k_ => XS.iconst X0.here hx rfl (hb hby d_jdk_43_method_3_code_7) k_) ?_
  refine Go.by (T' := s₁) (g' := (mkF m 12 #[.val (.int x)] [(.int (1 : Int32))])) (fun t_ k_ => XS.goto X0.here hx rfl (pc0 := 8) (pc' := 12) rfl (hb hby d_jdk_43_method_3_code_8) (by decide) (by decide) k_) ?_
  refine Go.fin X0 (v := some (.int (nar .boolean (1 : Int32)))) (fun h => by rw [Bd.returns] at h; cases h) hlk (by decide) (by decide) ?_ (fun fs hr => retN X0 hx (t := .boolean) Bd.returns (by simp) (hb hby d_jdk_43_method_3_code_12) hr)
  show Q_canEnc Z x h0 n0 _ s₁.heap _
  rw [e0]
  exact ⟨rfl, N0, rfl⟩
def Q_toBytes (Z : State) (x : Int32) (h0 : Heap) (n0 : Nat) (v : Option Value) (h : Heap) (L : List Loc) : Prop := ∃ (t : Addr) (kb : ClassId), v = some (.ref t) ∧ Fr n0 L ∧ Keep h0 h [] ∧ h0.size ≤ t ∧ Arv Z h t kb .byte (1 : Int32) [(.int (x.toInt8.toInt32))] (.int (0 : Int32))
theorem ef_toBytes (m : MethodId) (x : Int32) : entryFrame m #[(.int x)] 1 = mkF m 0 #[.val (.int x)] [] := by first | (simp [entryFrame, mkF, argsToLocals, Value.category]; done) | rfl
theorem d_jdk_43_method_46_code_0 : decode jdk_43_method_46_code 0 = .ok (.iconst 1, 1) := by decide +kernel
theorem d_jdk_43_method_46_code_1 : decode jdk_43_method_46_code 1 = .ok (.newarray .byte, 2) := by decide +kernel
theorem d_jdk_43_method_46_code_3 : decode jdk_43_method_46_code 3 = .ok (.dup, 1) := by decide +kernel
theorem d_jdk_43_method_46_code_4 : decode jdk_43_method_46_code 4 = .ok (.iconst 0, 1) := by decide +kernel
theorem d_jdk_43_method_46_code_5 : decode jdk_43_method_46_code 5 = .ok (.iload_n 0, 1) := by decide +kernel
theorem d_jdk_43_method_46_code_6 : decode jdk_43_method_46_code 6 = .ok (.i2b, 1) := by decide +kernel
theorem d_jdk_43_method_46_code_7 : decode jdk_43_method_46_code 7 = .ok (.bastore, 1) := by decide +kernel
theorem d_jdk_43_method_46_code_8 : decode jdk_43_method_46_code 8 = .ok (.areturn, 1) := by decide +kernel
set_option maxRecDepth 65536 in
set_option maxHeartbeats 40000000 in
theorem rm_toBytes (l : Launch) (Z : State) (a0 : Array Value) (hw : ∀ d ∈ tables_1, d.before a0 Z = true) (ws : List Jvm.Cond) (x : Int32) (h0 : Heap) (n0 : Nat) (X00 : Old Z n0 h0)  :
    MetFree l (⟨"java/lang/StringLatin1", "toBytes", "(C)[B"⟩ : MethodName) (head1 (Jvm.Cond.code (⟨"java/lang/StringLatin1", "toBytes", "(C)[B"⟩ : MethodName) jdk_43_method_46_code 1 (some (.array .byte)) :: ws) ({ frames := 0, cells := 1, slots := 1, locals := 0 } : Room)) (fun aa_ U => aa_ = #[(.int x)] ∧ Z.Warmed39 U.vm ∧ U.heap = h0) (fun _ _ _ _ _ => True) (fun _ U o U' => ∃ v L, o = .returned v ∧ Q_toBytes Z x h0 n0 v U'.heap L ∧ FrameEnd U o U' L ({ frames := 0, cells := 1, slots := 1, locals := 0 } : Room).cells ({ frames := 0, cells := 1, slots := 1, locals := 0 } : Room).slots) := by
  refine MetFree.of_bodySF (plainFor_of_name pn_1) hisR ?_
  intro p e s m args below meth c s₁ Bd hml0 hP hK
  obtain ⟨rfl, hZ, hh⟩ := hP
  have hx := Bd.exec
  have hby := Bd.bytes
  have hml : c.maxLocals = 1 := hml0
  have hown : s.vm.findClass "java/lang/StringLatin1" = some m.cls := findClass_of_methodNamed Bd.named
  have hnm := (name_of_methodNamed Bd.named Bd.method).1
  have hlk : meth.locks = false := BodyLoose.notSynchronized Bd
  have X0 : Stand p l e ({ frames := 0, cells := 1, slots := 1, locals := 0 } : Room) s m #[(.int x)] below meth c s₁ [] 0 0 := Stand.of_body Bd
  have e0 : s₁.heap = h0 := by rw [← hh, Bd.state]; rfl
  have N0 := Fr.nil n0
  suffices G : Go p e below s (Q_toBytes Z x h0 n0) 1 1 s₁ (mkF m 0 #[.val (.int x)] []) by
    obtain ⟨s2, o, h1, h2⟩ := G
    exact ⟨s2, o, castTop (ef_toBytes m x) h1, h2⟩
  refine Go.by (T' := s₁) (g' := (mkF m 1 #[.val (.int x)] [(.int (1 : Int32))])) (fun t_ k_ => XS.iconst X0.here hx rfl (hb hby d_jdk_43_method_46_code_0) k_) ?_
  obtain ⟨T1, h1, kc1, X1, e1, E1, A1, st1⟩ := newP X0 hx hZ (hw _ (List.mem_of_getElem? (i := 19) rfl)) e0 (g := (mkF m 1 #[.val (.int x)] [(.int (1 : Int32))])) rfl (hb hby d_jdk_43_method_46_code_1) rfl (by decide) (cap := 1) (by decide) (by decide) (by decide) (by decide)
  obtain ⟨b1, g1⟩ : ∃ z, z = h0.size := ⟨_, rfl⟩
  rw [← g1] at A1 st1
  have ge_b1 : n0 ≤ b1 := Nat.le_trans X00.sz (Nat.le_of_eq g1.symm)
  have sz_b1 : h0.size ≤ b1 := Nat.le_trans (Keep.refl h0 []).1 (Nat.le_of_eq g1.symm)
  have V1 : Arv Z h1 b1 kc1 .byte (1 : Int32) [(.int (0 : Int32))] (.int (0 : Int32)) := (Arv.new A1 (by decide)).pad (pad_rep [] (.int (0 : Int32)) 1)
  refine Go.by (T' := T1) (g' := (mkF m 3 #[.val (.int x)] [(.ref b1)])) (fun t_ k_ => st1 _ k_) ?_
  refine Go.by (T' := T1) (g' := (mkF m 4 #[.val (.int x)] [(.ref b1), (.ref b1)])) (fun t_ k_ => XS.dup X1.here hx rfl (hb hby d_jdk_43_method_46_code_3) rfl rfl k_) ?_
  refine Go.by (T' := T1) (g' := (mkF m 5 #[.val (.int x)] [(.int (0 : Int32)), (.ref b1), (.ref b1)])) (fun t_ k_ => XS.iconst X1.here hx rfl (hb hby d_jdk_43_method_46_code_4) k_) ?_
  refine Go.by (T' := T1) (g' := (mkF m 6 #[.val (.int x)] [(.int x), (.int (0 : Int32)), (.ref b1), (.ref b1)])) (fun t_ k_ => XS.iloadN X1.here hx rfl (hb hby d_jdk_43_method_46_code_5) rfl k_) ?_
  refine Go.by (T' := T1) (g' := (mkF m 7 #[.val (.int x)] [(.int (x.toInt8.toInt32)), (.int (0 : Int32)), (.ref b1), (.ref b1)])) (fun t_ k_ => XS.i2b X1.here hx rfl (hb hby d_jdk_43_method_46_code_6) rfl k_) ?_
  have Od3 : Old Z n0 h1 := (X00.ext E1)
  have Kp4 : Keep h0 h1 [] := ((Keep.refl h0 []).ext E1)
  obtain ⟨cl2, Ar2, q2, Sz2, Ng2, Hs2, Gs2⟩ := id V1
  obtain ⟨T5, h5, X5, e5, W5, st5⟩ := stB X1 hx hZ e1 Ar2 (j := (0 : Int32)) (inb_of Sz2 ⟨by decide, by decide⟩) (g := (mkF m 7 #[.val (.int x)] [(.int (x.toInt8.toInt32)), (.int (0 : Int32)), (.ref b1), (.ref b1)])) rfl rfl (hb hby d_jdk_43_method_46_code_7)
  have V5 : Arv Z h5 b1 kc1 .byte (1 : Int32) [(.int (nar .byte (x.toInt8.toInt32)))] (.int (0 : Int32)) := Arv.set Ar2 q2 Sz2 Ng2 Hs2 Gs2 (fits_nar_byte _) W5 0 rfl (Nat.le_of_ble_eq_true rfl)
  have N5 := Fr.snoc X5 N0 ge_b1
  refine Go.by (T' := T5) (g' := (mkF m 8 #[.val (.int x)] [(.ref b1)])) (fun t_ k_ => st5 _ k_) ?_
  have V6 : Arv Z h5 b1 kc1 .byte (1 : Int32) [(.int (x.toInt8.toInt32))] (.int (0 : Int32)) := by have q := V5; rw [own_narb] at q; exact q
  have Kp7 : Keep h0 h5 [] := (Kp4.wr W5 (Or.inr sz_b1))
  refine Go.fin X5 (v := some (.ref b1)) (fun h => by rw [Bd.returns] at h; cases h) hlk (by decide) (by decide) ?_ (fun fs hr => retR X5 hx (w := (.ref b1)) Bd.returns rfl rfl rfl (hb hby d_jdk_43_method_46_code_8) hr)
  show Q_toBytes Z x h0 n0 _ T5.heap _
  rw [e5]
  exact ⟨b1, kc1, rfl, N5, Kp7, sz_b1, V6⟩
def Q_strBB (Z : State) (a : Addr) (t : Addr) (u1 : Value) (u2 : Value) (h0 : Heap) (n0 : Nat) (v : Option Value) (h : Heap) (L : List Loc) : Prop := v = none ∧ Fr n0 L ∧ Keep h0 h [a] ∧ Exa Z h a "java/lang/String" ∧ Fld Z h a "java/lang/String" "value" "[B" (.ref t) ∧ Fld Z h a "java/lang/String" "coder" "B" (.int (0 : Int32))
theorem pn_2 : plainName "java/lang/String" = true := by first | (simp [plainName, overriddenIn]; done) | decide +kernel
theorem ef_strBB (m : MethodId) (a : Addr) (t : Addr) : entryFrame m #[(.ref a), (.ref t), (.int (0 : Int32))] 3 = mkF m 0 #[.val (.ref a), .val (.ref t), .val (.int (0 : Int32))] [] := by first | (simp [entryFrame, mkF, argsToLocals, Value.category]; done) | rfl
theorem d_jdk_42_method_151_code_0 : decode jdk_42_method_151_code 0 = .ok (.aload_n 0, 1) := by decide +kernel
theorem d_jdk_42_method_151_code_1 : decode jdk_42_method_151_code 1 = .ok (.invokespecial 1, 3) := by decide +kernel
theorem d_jdk_42_method_151_code_4 : decode jdk_42_method_151_code 4 = .ok (.aload_n 0, 1) := by decide +kernel
theorem d_jdk_42_method_151_code_5 : decode jdk_42_method_151_code 5 = .ok (.aload_n 1, 1) := by decide +kernel
theorem d_jdk_42_method_151_code_6 : decode jdk_42_method_151_code 6 = .ok (.putfield 9, 3) := by decide +kernel
theorem d_jdk_42_method_151_code_9 : decode jdk_42_method_151_code 9 = .ok (.aload_n 0, 1) := by decide +kernel
theorem d_jdk_42_method_151_code_10 : decode jdk_42_method_151_code 10 = .ok (.iload_n 2, 1) := by decide +kernel
theorem d_jdk_42_method_151_code_11 : decode jdk_42_method_151_code 11 = .ok (.putfield 15, 3) := by decide +kernel
theorem d_jdk_42_method_151_code_14 : decode jdk_42_method_151_code 14 = .ok (.return_, 1) := by decide +kernel
set_option maxRecDepth 65536 in
set_option maxHeartbeats 40000000 in
theorem rm_strBB (l : Launch) (Z : State) (a0 : Array Value) (hw : ∀ d ∈ tables_1, d.before a0 Z = true) (ws : List Jvm.Cond) (a : Addr) (t : Addr) (u1 : Value) (u2 : Value) (h0 : Heap) (n0 : Nat) (X00 : Old Z n0 h0) (P0 : Exa Z h0 a "java/lang/String") (P1 : Fld Z h0 a "java/lang/String" "value" "[B" (u1)) (P2 : Fld Z h0 a "java/lang/String" "coder" "B" (u2)) (P3 : n0 ≤ a) :
    MetFree l (⟨"java/lang/String", "<init>", "([BB)V"⟩ : MethodName) (head1 (Jvm.Cond.code (⟨"java/lang/String", "<init>", "([BB)V"⟩ : MethodName) jdk_42_method_151_code 3 none :: ws) ({ frames := 1, cells := 0, slots := 0, locals := 12 } : Room)) (fun aa_ U => aa_ = #[(.ref a), (.ref t), (.int (0 : Int32))] ∧ Z.Warmed39 U.vm ∧ U.heap = h0) (fun _ _ _ _ _ => True) (fun _ U o U' => ∃ v L, o = .returned v ∧ Q_strBB Z a t u1 u2 h0 n0 v U'.heap L ∧ FrameEnd U o U' L ({ frames := 1, cells := 0, slots := 0, locals := 12 } : Room).cells ({ frames := 1, cells := 0, slots := 0, locals := 12 } : Room).slots) := by
  refine MetFree.of_bodySF (plainFor_of_name pn_2) hisR ?_
  intro p e s m args below meth c s₁ Bd hml0 hP hK
  obtain ⟨rfl, hZ, hh⟩ := hP
  have hx := Bd.exec
  have hby := Bd.bytes
  have hml : c.maxLocals = 3 := hml0
  have hown : s.vm.findClass "java/lang/String" = some m.cls := findClass_of_methodNamed Bd.named
  have hnm := (name_of_methodNamed Bd.named Bd.method).1
  have hlk : meth.locks = false := BodyLoose.notSynchronized Bd
  have X0 : Stand p l e ({ frames := 1, cells := 0, slots := 0, locals := 12 } : Room) s m #[(.ref a), (.ref t), (.int (0 : Int32))] below meth c s₁ [] 0 0 := Stand.of_body Bd
  have e0 : s₁.heap = h0 := by rw [← hh, Bd.state]; rfl
  have N0 := Fr.nil n0
  suffices G : Go p e below s (Q_strBB Z a t u1 u2 h0 n0) 0 0 s₁ (mkF m 0 #[.val (.ref a), .val (.ref t), .val (.int (0 : Int32))] []) by
    obtain ⟨s2, o, h1, h2⟩ := G
    exact ⟨s2, o, castTop (ef_strBB m a t) h1, h2⟩
  refine Go.by (T' := s₁) (g' := (mkF m 1 #[.val (.ref a), .val (.ref t), .val (.int (0 : Int32))] [(.ref a)])) (fun t_ k_ => XS.aloadN X0.here hx rfl (hb hby d_jdk_42_method_151_code_0) rfl rfl k_) ?_
  obtain ⟨T1, X1, e1, st1⟩ := initO X0 hx hZ hown (hw _ (List.mem_of_getElem? (i := 11) rfl)) (hw _ (List.mem_of_getElem? (i := 12) rfl)) (hw _ (List.mem_of_getElem? (i := 13) rfl)) e0 (g := (mkF m 1 #[.val (.ref a), .val (.ref t), .val (.int (0 : Int32))] [(.ref a)])) rfl (by rw [hml]; rfl) rfl (hb hby d_jdk_42_method_151_code_1) (by decide) (W := 0) (by show 2 * 0 + _ ≤ _; exact Nat.le_of_eq rfl) (by decide)
  refine Go.by (T' := T1) (g' := (mkF m 4 #[.val (.ref a), .val (.ref t), .val (.int (0 : Int32))] [])) (fun t_ k_ => st1 _ k_) ?_
  refine Go.by (T' := T1) (g' := (mkF m 5 #[.val (.ref a), .val (.ref t), .val (.int (0 : Int32))] [(.ref a)])) (fun t_ k_ => XS.aloadN X1.here hx rfl (hb hby d_jdk_42_method_151_code_4) rfl rfl k_) ?_
  refine Go.by (T' := T1) (g' := (mkF m 6 #[.val (.ref a), .val (.ref t), .val (.int (0 : Int32))] [(.ref t), (.ref a)])) (fun t_ k_ => XS.aloadN X1.here hx rfl (hb hby d_jdk_42_method_151_code_5) rfl rfl k_) ?_
  obtain ⟨T2, h2, X2, e2, W2, st2⟩ := putF X1 hx hZ hown (host := "") (Or.inl (hw _ (List.mem_of_getElem? (i := 28) rfl))) Via.refl e1 P1 P0 (Or.inr ⟨(hw _ (List.mem_of_getElem? (i := 29) rfl)), rfl, hnm⟩) (hw _ (List.mem_of_getElem? (i := 2) rfl)) (ty := (.array .byte)) (by decide) rfl rfl (g := (mkF m 6 #[.val (.ref a), .val (.ref t), .val (.int (0 : Int32))] [(.ref t), (.ref a)])) rfl rfl (hb hby d_jdk_42_method_151_code_6)
  have Fw2 : Fld Z h2 a "java/lang/String" "value" "[B" (.ref t) := P1.same W2
  have N2 := Fr.snoc X2 N0 P3
  refine Go.by (T' := T2) (g' := (mkF m 9 #[.val (.ref a), .val (.ref t), .val (.int (0 : Int32))] [])) (fun t_ k_ => st2 _ k_) ?_
  refine Go.by (T' := T2) (g' := (mkF m 10 #[.val (.ref a), .val (.ref t), .val (.int (0 : Int32))] [(.ref a)])) (fun t_ k_ => XS.aloadN X2.here hx rfl (hb hby d_jdk_42_method_151_code_9) rfl rfl k_) ?_
  refine Go.by (T' := T2) (g' := (mkF m 11 #[.val (.ref a), .val (.ref t), .val (.int (0 : Int32))] [(.int (0 : Int32)), (.ref a)])) (fun t_ k_ => XS.iloadN X2.here hx rfl (hb hby d_jdk_42_method_151_code_10) rfl k_) ?_
  have F3 : Fld Z h2 a "java/lang/String" "coder" "B" (u2) := (P2.other W2 (Or.inr (slot_ne (Or.inr (hw _ (List.mem_of_getElem? (i := 27) rfl))) (Or.inr (hw _ (List.mem_of_getElem? (i := 29) rfl))) (by decide) (t := .byte) (t' := (.array .byte)) (by decide) (by decide))))
  have F4 : Exa Z h2 a "java/lang/String" := (P0.wr W2)
  have Od5 : Old Z n0 h2 := (X00.wr W2 P3)
  have Kp6 : Keep h0 h2 [a] := ((Keep.refl h0 [a]).wr W2 (Or.inl (List.mem_of_getElem? (i := 0) rfl)))
  obtain ⟨T7, h7, X7, e7, W7, st7⟩ := putFN X2 hx hZ hown (hw _ (List.mem_of_getElem? (i := 26) rfl)) Via.refl e2 F3 F4 (Or.inr ⟨(hw _ (List.mem_of_getElem? (i := 27) rfl)), rfl, hnm⟩) (hw _ (List.mem_of_getElem? (i := 2) rfl)) (ty := .byte) (v' := (.int (0 : Int32))) (by decide) rfl rfl (g := (mkF m 11 #[.val (.ref a), .val (.ref t), .val (.int (0 : Int32))] [(.int (0 : Int32)), (.ref a)])) rfl rfl (hb hby d_jdk_42_method_151_code_11)
  have Fw7 : Fld Z h7 a "java/lang/String" "coder" "B" (.int (0 : Int32)) := F3.same W7
  have N7 := Fr.snoc X7 N2 P3
  refine Go.by (T' := T7) (g' := (mkF m 14 #[.val (.ref a), .val (.ref t), .val (.int (0 : Int32))] [])) (fun t_ k_ => st7 _ k_) ?_
  have F8 : Exa Z h7 a "java/lang/String" := (F4.wr W7)
  have F9 : Fld Z h7 a "java/lang/String" "value" "[B" (.ref t) := (Fw2.other W7 (Or.inr (slot_ne (Or.inr (hw _ (List.mem_of_getElem? (i := 29) rfl))) (Or.inr (hw _ (List.mem_of_getElem? (i := 27) rfl))) (by decide) (t := (.array .byte)) (t' := .byte) (by decide) (by decide))))
  have Kp10 : Keep h0 h7 [a] := (Kp6.wr W7 (Or.inl (List.mem_of_getElem? (i := 0) rfl)))
  refine Go.fin X7 (v := none) (fun _ => rfl) hlk (by decide) (by decide) ?_ (fun fs hr => X7.returnOut hx Bd.returns (hb hby d_jdk_42_method_151_code_14) hr)
  show Q_strBB Z a t u1 u2 h0 n0 _ T7.heap _
  rw [e7]
  exact ⟨rfl, N7, Kp10, F8, F9, Fw7⟩
def Q_valueOf (Z : State) (x : Int32) (G1 : Int32) (h0 : Heap) (n0 : Nat) (v : Option Value) (h : Heap) (L : List Loc) : Prop := ∃ (b : Addr) (t : Addr) (kb : ClassId), v = some (.ref b) ∧ Fr n0 L ∧ Keep h0 h [] ∧ h0.size ≤ b ∧ h0.size ≤ t ∧ ¬ (t = b) ∧ Exa Z h b "java/lang/String" ∧ Fld Z h b "java/lang/String" "value" "[B" (.ref t) ∧ Fld Z h b "java/lang/String" "coder" "B" (.int (0 : Int32)) ∧ Arv Z h t kb .byte (1 : Int32) [(.int (x.toInt8.toInt32))] (.int (0 : Int32))
theorem ef_valueOf (m : MethodId) (x : Int32) : entryFrame m #[(.int x)] 1 = mkF m 0 #[.val (.int x)] [] := by first | (simp [entryFrame, mkF, argsToLocals, Value.category]; done) | rfl
theorem d_jdk_42_method_139_code_0 : decode jdk_42_method_139_code 0 = .ok (.getstatic 38, 3) := by decide +kernel
theorem d_jdk_42_method_139_code_3 : decode jdk_42_method_139_code 3 = .ok (.ifCond .eq 23, 3) := by decide +kernel
theorem d_jdk_42_method_139_code_6 : decode jdk_42_method_139_code 6 = .ok (.iload_n 0, 1) := by decide +kernel
theorem d_jdk_42_method_139_code_7 : decode jdk_42_method_139_code 7 = .ok (.invokestatic 1015, 3) := by decide +kernel
theorem pd_0 : parseMethodDescriptor "(C)Z" = some ⟨[.char], some .boolean⟩ := by decide +kernel
theorem d_jdk_42_method_139_code_10 : decode jdk_42_method_139_code 10 = .ok (.ifCond .eq 16, 3) := by decide +kernel
theorem d_jdk_42_method_139_code_13 : decode jdk_42_method_139_code 13 = .ok (.new 10, 3) := by decide +kernel
theorem d_jdk_42_method_139_code_16 : decode jdk_42_method_139_code 16 = .ok (.dup, 1) := by decide +kernel
theorem d_jdk_42_method_139_code_17 : decode jdk_42_method_139_code 17 = .ok (.iload_n 0, 1) := by decide +kernel
theorem d_jdk_42_method_139_code_18 : decode jdk_42_method_139_code 18 = .ok (.invokestatic 1018, 3) := by decide +kernel
theorem pd_1 : parseMethodDescriptor "(C)[B" = some ⟨[.char], some (.array .byte)⟩ := by decide +kernel
theorem d_jdk_42_method_139_code_21 : decode jdk_42_method_139_code 21 = .ok (.iconst 0, 1) := by decide +kernel
theorem d_jdk_42_method_139_code_22 : decode jdk_42_method_139_code 22 = .ok (.invokespecial 209, 3) := by decide +kernel
theorem pd_2 : parseMethodDescriptor "([BB)V" = some ⟨[(.array .byte), .byte], none⟩ := by decide +kernel
theorem d_jdk_42_method_139_code_25 : decode jdk_42_method_139_code 25 = .ok (.areturn, 1) := by decide +kernel
set_option maxRecDepth 65536 in
set_option maxHeartbeats 40000000 in
theorem rm_valueOf (l : Launch) (Z : State) (a0 : Array Value) (hw : ∀ d ∈ tables_1, d.before a0 Z = true) (ws : List Jvm.Cond) (x : Int32) (G1 : Int32) (h0 : Heap) (n0 : Nat) (X00 : Old Z n0 h0) (P0 : Sta Z Z.heap "java/lang/String" "COMPACT_STRINGS" "Z" (.int G1)) (hCS : ¬ (G1 = (0 : Int32))) (hx255 : ¬ ((255 : Int32) < x)) :
    MetFree l (⟨"java/lang/String", "valueOf", "(C)Ljava/lang/String;"⟩ : MethodName) (head1 (Jvm.Cond.code (⟨"java/lang/String", "valueOf", "(C)Ljava/lang/String;"⟩ : MethodName) jdk_42_method_139_code 1 (some (.object "java/lang/String")) :: ws) ({ frames := 2, cells := 2, slots := 5, locals := 40 } : Room)) (fun aa_ U => aa_ = #[(.int x)] ∧ Z.Warmed39 U.vm ∧ U.heap = h0) (fun _ _ _ _ _ => True) (fun _ U o U' => ∃ v L, o = .returned v ∧ Q_valueOf Z x G1 h0 n0 v U'.heap L ∧ FrameEnd U o U' L ({ frames := 2, cells := 2, slots := 5, locals := 40 } : Room).cells ({ frames := 2, cells := 2, slots := 5, locals := 40 } : Room).slots) := by
  refine MetFree.of_bodySF (plainFor_of_name pn_2) hisR ?_
  intro p e s m args below meth c s₁ Bd hml0 hP hK
  obtain ⟨rfl, hZ, hh⟩ := hP
  have hx := Bd.exec
  have hby := Bd.bytes
  have hml : c.maxLocals = 1 := hml0
  have hown : s.vm.findClass "java/lang/String" = some m.cls := findClass_of_methodNamed Bd.named
  have hnm := (name_of_methodNamed Bd.named Bd.method).1
  have hlk : meth.locks = false := BodyLoose.notSynchronized Bd
  have X0 : Stand p l e ({ frames := 2, cells := 2, slots := 5, locals := 40 } : Room) s m #[(.int x)] below meth c s₁ [] 0 0 := Stand.of_body Bd
  have e0 : s₁.heap = h0 := by rw [← hh, Bd.state]; rfl
  have N0 := Fr.nil n0
  suffices G : Go p e below s (Q_valueOf Z x G1 h0 n0) 2 5 s₁ (mkF m 0 #[.val (.int x)] []) by
    obtain ⟨s2, o, h1, h2⟩ := G
    exact ⟨s2, o, castTop (ef_valueOf m x) h1, h2⟩
  obtain ⟨T1, X1, e1, st1⟩ := getS2 X0 hx hZ hown (host := "") (Or.inl (hw _ (List.mem_of_getElem? (i := 14) rfl))) Via.refl e0 (P0.ext X00.2) (g := (mkF m 0 #[.val (.int x)] [])) rfl (hb hby d_jdk_42_method_139_code_0)
  refine Go.by (T' := T1) (g' := (mkF m 3 #[.val (.int x)] [(.int G1)])) (fun t_ k_ => st1 _ k_) ?_
  refine Go.by (T' := T1) (g' := (mkF m 6 #[.val (.int x)] [])) (fun t_ k_ => XS.ifNo X1.here hx rfl (hb hby d_jdk_42_method_139_code_3) rfl ((if0 _ _).trans (feq hCS).1) k_) ?_
  refine Go.by (T' := T1) (g' := (mkF m 7 #[.val (.int x)] [(.int x)])) (fun t_ k_ => XS.iloadN X1.here hx rfl (hb hby d_jdk_42_method_139_code_6) rfl k_) ?_
  obtain ⟨_, _, ⟨T2, L2, k2, n2⟩, -, X2, ⟨Lc2, hQ2, l2, y2, z2⟩, st2⟩ := Jvm.LawKit.callS X1 hx (y := (⟨"java/lang/StringLatin1", "canEncode", "(C)Z"⟩ : MethodName)) hown (mvT hZ (hw _ (List.mem_of_getElem? (i := 106) rfl))) (mvT hZ (hw _ (List.mem_of_getElem? (i := 107) rfl))) (mvT hZ (hw _ (List.mem_of_getElem? (i := 108) rfl))) (mvT hZ (hw _ (List.mem_of_getElem? (i := 109) rfl))) (by decide) (backOf (W := 0) (rm_canEnc l Z a0 hw [] x h0 n0 X00 hx255) hZ (hw _ (List.mem_of_getElem? (i := 109) rfl)) (hw _ (List.mem_of_getElem? (i := 108) rfl)) (by decide) (by decide)) (g := (mkF m 7 #[.val (.int x)] [(.int x)])) rfl (by rw [hml]; rfl) (argsL := [(.int x)]) (rest := []) (lenOf pd_0 rfl) rfl (by show 2 * 0 + _ ≤ _; exact Nat.le_of_eq rfl) (hb hby d_jdk_42_method_139_code_7) (fun _ _ => ⟨rfl, e1, (by decide : 0 + 0 ≤ _), (by decide : 0 + 0 ≤ _)⟩)
  dsimp only [Pt.U, Pt.locs, Pt.cells, Pt.slots] at X2 l2 y2 z2 st2 hQ2
  subst l2 y2 z2
  obtain ⟨rfl, N2q, e2⟩ := hQ2
  have N2 := Fr.app N0 N2q
  refine Go.by (T' := T2) (g' := (mkF m 10 #[.val (.int x)] [(.int 1)])) (fun t_ k_ => st2 _ k_) ?_
  refine Go.by (T' := T2) (g' := (mkF m 13 #[.val (.int x)] [])) (fun t_ k_ => XS.ifNo X2.here hx rfl (hb hby d_jdk_42_method_139_code_10) rfl ((if0 _ _).trans (feq (by decide)).1) k_) ?_
  obtain ⟨T3, h3, X3, e3, E3, A3, Df3, -, st3⟩ := newO X2 hx hZ hown (hw _ (List.mem_of_getElem? (i := 110) rfl)) (hw _ (List.mem_of_getElem? (i := 2) rfl)) (hw _ (List.mem_of_getElem? (i := 3) rfl)) e2 (g := (mkF m 13 #[.val (.int x)] [])) rfl (hb hby d_jdk_42_method_139_code_13) (by decide) (by decide)
  obtain ⟨b3, g3⟩ : ∃ z, z = h0.size := ⟨_, rfl⟩
  rw [← g3] at A3 Df3 st3
  have ge_b3 : n0 ≤ b3 := Nat.le_trans X00.sz (Nat.le_of_eq g3.symm)
  have sz_b3 : h0.size ≤ b3 := Nat.le_trans (Keep.refl h0 []).1 (Nat.le_of_eq g3.symm)
  have F4 : Fld Z h3 b3 "java/lang/String" "coder" "B" (.int (0 : Int32)) := Df3 (Or.inr (hw _ (List.mem_of_getElem? (i := 27) rfl))) (ty := .byte) (by decide)
  have F5 : Fld Z h3 b3 "java/lang/String" "value" "[B" .null := Df3 (Or.inr (hw _ (List.mem_of_getElem? (i := 29) rfl))) (ty := (.array .byte)) (by decide)
  refine Go.by (T' := T3) (g' := (mkF m 16 #[.val (.int x)] [(.ref b3)])) (fun t_ k_ => st3 _ k_) ?_
  refine Go.by (T' := T3) (g' := (mkF m 17 #[.val (.int x)] [(.ref b3), (.ref b3)])) (fun t_ k_ => XS.dup X3.here hx rfl (hb hby d_jdk_42_method_139_code_16) rfl rfl k_) ?_
  refine Go.by (T' := T3) (g' := (mkF m 18 #[.val (.int x)] [(.int x), (.ref b3), (.ref b3)])) (fun t_ k_ => XS.iloadN X3.here hx rfl (hb hby d_jdk_42_method_139_code_17) rfl k_) ?_
  have Od6 : Old Z n0 h3 := (X00.ext E3)
  obtain ⟨_, _, ⟨T7, L7, k7, n7⟩, -, X7, ⟨Lc7, hQ7, l7, y7, z7⟩, st7⟩ := Jvm.LawKit.callS X3 hx (y := (⟨"java/lang/StringLatin1", "toBytes", "(C)[B"⟩ : MethodName)) hown (mvT hZ (hw _ (List.mem_of_getElem? (i := 111) rfl))) (mvT hZ (hw _ (List.mem_of_getElem? (i := 112) rfl))) (mvT hZ (hw _ (List.mem_of_getElem? (i := 108) rfl))) (mvT hZ (hw _ (List.mem_of_getElem? (i := 113) rfl))) (by decide) (backOf (W := 2) (rm_toBytes l Z a0 hw [] x h3 n0 Od6 ) hZ (hw _ (List.mem_of_getElem? (i := 113) rfl)) (hw _ (List.mem_of_getElem? (i := 108) rfl)) (by decide) (by decide)) (g := (mkF m 18 #[.val (.int x)] [(.int x), (.ref b3), (.ref b3)])) rfl (by rw [hml]; rfl) (argsL := [(.int x)]) (rest := [(.ref b3), (.ref b3)]) (lenOf pd_1 rfl) rfl (by show 2 * 0 + _ ≤ _; exact Nat.le_of_eq rfl) (hb hby d_jdk_42_method_139_code_18) (fun _ _ => ⟨rfl, e3, (by decide : 1 + 1 ≤ _), (by decide : 4 + 1 ≤ _)⟩)
  dsimp only [Pt.U, Pt.locs, Pt.cells, Pt.slots] at X7 l7 y7 z7 st7 hQ7
  subst l7 y7 z7
  obtain ⟨t_7, kb_7, rfl, N7q, K7, G7_0, G7_1⟩ := hQ7
  have N7 := Fr.app N2 N7q
  have ge_t_7 : n0 ≤ t_7 := Nat.le_trans Od6.sz G7_0
  have Kp8 : Keep h0 h3 [] := ((Keep.refl h0 []).ext E3)
  have sz_t_7 : h0.size ≤ t_7 := Nat.le_trans Kp8.1 G7_0
  have ne_b3_t_7 : ¬ (b3 = t_7) := Nat.ne_of_lt (Nat.lt_of_lt_of_le A3.lt G7_0)
  refine Go.by (T' := T7) (g' := (mkF m 21 #[.val (.int x)] [(.ref t_7), (.ref b3), (.ref b3)])) (fun t_ k_ => st7 _ k_) ?_
  refine Go.by (T' := T7) (g' := (mkF m 22 #[.val (.int x)] [(.int (0 : Int32)), (.ref t_7), (.ref b3), (.ref b3)])) (fun t_ k_ => XS.iconst X7.here hx rfl (hb hby d_jdk_42_method_139_code_21) k_) ?_
  have F9 : Exa Z T7.heap b3 "java/lang/String" := (A3.keep K7)
  have F10 : Fld Z T7.heap b3 "java/lang/String" "value" "[B" .null := (F5.keep K7 nin0)
  have F11 : Fld Z T7.heap b3 "java/lang/String" "coder" "B" (.int (0 : Int32)) := (F4.keep K7 nin0)
  have Od12 : Old Z n0 T7.heap := (Od6.keep K7 all0)
  have Kp13 : Keep h0 T7.heap [] := (Kp8.trans K7 all0)
  obtain ⟨_, _, ⟨T14, L14, k14, n14⟩, -, X14, ⟨Lc14, hQ14, l14, y14, z14⟩, st14⟩ := X7.specialBack hx (y := (⟨"java/lang/String", "<init>", "([BB)V"⟩ : MethodName)) rfl hown (mvT hZ (hw _ (List.mem_of_getElem? (i := 114) rfl))) (mvT hZ (hw _ (List.mem_of_getElem? (i := 115) rfl))) (mvT hZ (hw _ (List.mem_of_getElem? (i := 116) rfl))) (by decide) (backOf (W := 1) (rm_strBB l Z a0 hw [] b3 t_7 .null (.int (0 : Int32)) T7.heap n0 Od12 F9 F10 F11 ge_b3) hZ (hw _ (List.mem_of_getElem? (i := 116) rfl)) (hw _ (List.mem_of_getElem? (i := 3) rfl)) (by decide) (by decide)) (g := (mkF m 22 #[.val (.int x)] [(.int (0 : Int32)), (.ref t_7), (.ref b3), (.ref b3)])) rfl (by rw [hml]; rfl) (Steps.refl _) (a := b3) (argsL := [(.ref t_7), (.int (0 : Int32))]) (rest := [(.ref b3)]) (lenOf pd_2 rfl) rfl (by show 2 * 0 + _ ≤ _; exact Nat.le_of_eq rfl) (hb hby d_jdk_42_method_139_code_22) (fun _ _ => ⟨rfl, rfl, (by decide : 2 + 0 ≤ _), (by decide : 5 + 0 ≤ _)⟩)
  dsimp only [Pt.U, Pt.locs, Pt.cells, Pt.slots] at X14 l14 y14 z14 st14 hQ14
  subst l14 y14 z14
  obtain ⟨rfl, N14q, K14, G14_0, G14_1, G14_2⟩ := hQ14
  have N14 := Fr.app N7 N14q
  refine Go.by (T' := T14) (g' := (mkF m 25 #[.val (.int x)] [(.ref b3)])) (fun t_ k_ => st14.trans k_) ?_
  have F15 : Arv Z T14.heap t_7 kb_7 .byte (1 : Int32) [(.int (x.toInt8.toInt32))] (.int (0 : Int32)) := (G7_1.keep K14 (ninS (Ne.symm ne_b3_t_7) nin0))
  have Kp16 : Keep h0 T14.heap [] := (Kp13.trans K14 (allS (Or.inr sz_b3) all0))
  refine Go.fin X14 (v := some (.ref b3)) (fun h => by rw [Bd.returns] at h; cases h) hlk (by decide) (by decide) ?_ (fun fs hr => retR X14 hx (w := (.ref b3)) Bd.returns rfl rfl rfl (hb hby d_jdk_42_method_139_code_25) hr)
  show Q_valueOf Z x G1 h0 n0 _ T14.heap _
  exact ⟨b3, t_7, kb_7, rfl, N14, Kp16, sz_b3, sz_t_7, (Ne.symm ne_b3_t_7), G14_0, G14_1, G14_2, F15⟩
def Q_opt (Z : State) (a : Addr) (nm : Addr) (al : Value) (ds : Addr) (u0 : Value) (u1 : Value) (u2 : Value) (u3 : Value) (u4 : Value) (u5 : Value) (h0 : Heap) (n0 : Nat) (v : Option Value) (h : Heap) (L : List Loc) : Prop := v = none ∧ Fr n0 L ∧ Keep h0 h [a] ∧ Exa Z h a "com/example/fellwise/fellwise/Syntax$Option" ∧ Fld Z h a "com/example/fellwise/fellwise/Syntax$Option" "name" "Ljava/lang/String;" (.ref nm) ∧ Fld Z h a "com/example/fellwise/fellwise/Syntax$Option" "alias" "Ljava/lang/String;" al ∧ Fld Z h a "com/example/fellwise/fellwise/Syntax$Option" "label" "Ljava/lang/String;" .null ∧ Fld Z h a "com/example/fellwise/fellwise/Syntax$Option" "required" "Z" (.int (0 : Int32)) ∧ Fld Z h a "com/example/fellwise/fellwise/Syntax$Option" "defaultValue" "Ljava/lang/String;" .null ∧ Fld Z h a "com/example/fellwise/fellwise/Syntax$Option" "description" "Ljava/lang/String;" (.ref ds)
theorem pn_3 : plainName "com/example/fellwise/fellwise/Syntax$Option" = true := by first | (simp [plainName, overriddenIn]; done) | decide +kernel
theorem ef_opt (m : MethodId) (a : Addr) (nm : Addr) (al : Value) (ds : Addr) (hal : al.isRef = true) : entryFrame m #[(.ref a), (.ref nm), al, .null, (.int (0 : Int32)), .null, (.ref ds)] 7 = mkF m 0 #[.val (.ref a), .val (.ref nm), .val al, .val .null, .val (.int (0 : Int32)), .val .null, .val (.ref ds)] [] := by (rcases ref_cases hal with rfl | ⟨_, rfl⟩) <;> first | (simp [entryFrame, mkF, argsToLocals, Value.category]; done) | rfl
theorem d_prog_40_method_1_code_0 : decode prog_40_method_1_code 0 = .ok (.aload_n 0, 1) := by decide +kernel
theorem d_prog_40_method_1_code_1 : decode prog_40_method_1_code 1 = .ok (.invokespecial 1, 3) := by decide +kernel
theorem pd_3 : parseMethodDescriptor "()V" = some ⟨[], none⟩ := by decide +kernel
theorem d_prog_40_method_1_code_4 : decode prog_40_method_1_code 4 = .ok (.aload_n 0, 1) := by decide +kernel
theorem d_prog_40_method_1_code_5 : decode prog_40_method_1_code 5 = .ok (.aload_n 1, 1) := by decide +kernel
theorem d_prog_40_method_1_code_6 : decode prog_40_method_1_code 6 = .ok (.putfield 7, 3) := by decide +kernel
theorem d_prog_40_method_1_code_9 : decode prog_40_method_1_code 9 = .ok (.aload_n 0, 1) := by decide +kernel
theorem d_prog_40_method_1_code_10 : decode prog_40_method_1_code 10 = .ok (.aload_n 2, 1) := by decide +kernel
theorem d_prog_40_method_1_code_11 : decode prog_40_method_1_code 11 = .ok (.putfield 13, 3) := by decide +kernel
theorem d_prog_40_method_1_code_14 : decode prog_40_method_1_code 14 = .ok (.aload_n 0, 1) := by decide +kernel
theorem d_prog_40_method_1_code_15 : decode prog_40_method_1_code 15 = .ok (.aload_n 3, 1) := by decide +kernel
theorem d_prog_40_method_1_code_16 : decode prog_40_method_1_code 16 = .ok (.putfield 16, 3) := by decide +kernel
theorem d_prog_40_method_1_code_19 : decode prog_40_method_1_code 19 = .ok (.aload_n 0, 1) := by decide +kernel
theorem d_prog_40_method_1_code_20 : decode prog_40_method_1_code 20 = .ok (.iload 4, 2) := by decide +kernel
theorem d_prog_40_method_1_code_22 : decode prog_40_method_1_code 22 = .ok (.putfield 19, 3) := by decide +kernel
theorem d_prog_40_method_1_code_25 : decode prog_40_method_1_code 25 = .ok (.aload_n 0, 1) := by decide +kernel
theorem d_prog_40_method_1_code_26 : decode prog_40_method_1_code 26 = .ok (.aload 5, 2) := by decide +kernel
theorem d_prog_40_method_1_code_28 : decode prog_40_method_1_code 28 = .ok (.putfield 23, 3) := by decide +kernel
theorem d_prog_40_method_1_code_31 : decode prog_40_method_1_code 31 = .ok (.aload_n 0, 1) := by decide +kernel
theorem d_prog_40_method_1_code_32 : decode prog_40_method_1_code 32 = .ok (.aload 6, 2) := by decide +kernel
theorem d_prog_40_method_1_code_34 : decode prog_40_method_1_code 34 = .ok (.putfield 26, 3) := by decide +kernel
theorem d_prog_40_method_1_code_37 : decode prog_40_method_1_code 37 = .ok (.return_, 1) := by decide +kernel
set_option maxRecDepth 65536 in
set_option maxHeartbeats 40000000 in
theorem rm_opt (l : Launch) (Z : State) (a0 : Array Value) (hw : ∀ d ∈ tables_1, d.before a0 Z = true) (ws : List Jvm.Cond) (a : Addr) (nm : Addr) (al : Value) (ds : Addr) (u0 : Value) (u1 : Value) (u2 : Value) (u3 : Value) (u4 : Value) (u5 : Value) (h0 : Heap) (n0 : Nat) (X00 : Old Z n0 h0) (P0 : Exa Z h0 a "com/example/fellwise/fellwise/Syntax$Option") (P1 : Fld Z h0 a "com/example/fellwise/fellwise/Syntax$Option" "name" "Ljava/lang/String;" u0) (P2 : Fld Z h0 a "com/example/fellwise/fellwise/Syntax$Option" "alias" "Ljava/lang/String;" u1) (P3 : Fld Z h0 a "com/example/fellwise/fellwise/Syntax$Option" "label" "Ljava/lang/String;" u2) (P4 : Fld Z h0 a "com/example/fellwise/fellwise/Syntax$Option" "required" "Z" u3) (P5 : Fld Z h0 a "com/example/fellwise/fellwise/Syntax$Option" "defaultValue" "Ljava/lang/String;" u4) (P6 : Fld Z h0 a "com/example/fellwise/fellwise/Syntax$Option" "description" "Ljava/lang/String;" u5) (P7 : n0 ≤ a) (hal : al.isRef = true) :
    MetFree l (⟨"com/example/fellwise/fellwise/Syntax$Option", "<init>", "(Ljava/lang/String;Ljava/lang/String;Ljava/lang/String;ZLjava/lang/String;Ljava/lang/String;)V"⟩ : MethodName) (head1 (Jvm.Cond.code (⟨"com/example/fellwise/fellwise/Syntax$Option", "<init>", "(Ljava/lang/String;Ljava/lang/String;Ljava/lang/String;ZLjava/lang/String;Ljava/lang/String;)V"⟩ : MethodName) prog_40_method_1_code 7 none :: ws) ({ frames := 2, cells := 0, slots := 0, locals := 24 } : Room)) (fun aa_ U => aa_ = #[(.ref a), (.ref nm), al, .null, (.int (0 : Int32)), .null, (.ref ds)] ∧ Z.Warmed39 U.vm ∧ U.heap = h0) (fun _ _ _ _ _ => True) (fun _ U o U' => ∃ v L, o = .returned v ∧ Q_opt Z a nm al ds u0 u1 u2 u3 u4 u5 h0 n0 v U'.heap L ∧ FrameEnd U o U' L ({ frames := 2, cells := 0, slots := 0, locals := 24 } : Room).cells ({ frames := 2, cells := 0, slots := 0, locals := 24 } : Room).slots) := by
  refine MetFree.of_bodySF (plainFor_of_name pn_3) hisR ?_
  intro p e s m args below meth c s₁ Bd hml0 hP hK
  obtain ⟨rfl, hZ, hh⟩ := hP
  have hx := Bd.exec
  have hby := Bd.bytes
  have hml : c.maxLocals = 7 := hml0
  have hown : s.vm.findClass "com/example/fellwise/fellwise/Syntax$Option" = some m.cls := findClass_of_methodNamed Bd.named
  have hnm := (name_of_methodNamed Bd.named Bd.method).1
  have hlk : meth.locks = false := BodyLoose.notSynchronized Bd
  have X0 : Stand p l e ({ frames := 2, cells := 0, slots := 0, locals := 24 } : Room) s m #[(.ref a), (.ref nm), al, .null, (.int (0 : Int32)), .null, (.ref ds)] below meth c s₁ [] 0 0 := Stand.of_body Bd
  have e0 : s₁.heap = h0 := by rw [← hh, Bd.state]; rfl
  have N0 := Fr.nil n0
  suffices G : Go p e below s (Q_opt Z a nm al ds u0 u1 u2 u3 u4 u5 h0 n0) 0 0 s₁ (mkF m 0 #[.val (.ref a), .val (.ref nm), .val al, .val .null, .val (.int (0 : Int32)), .val .null, .val (.ref ds)] []) by
    obtain ⟨s2, o, h1, h2⟩ := G
    exact ⟨s2, o, castTop (ef_opt m a nm al ds hal) h1, h2⟩
  refine Go.by (T' := s₁) (g' := (mkF m 1 #[.val (.ref a), .val (.ref nm), .val al, .val .null, .val (.int (0 : Int32)), .val .null, .val (.ref ds)] [(.ref a)])) (fun t_ k_ => XS.aloadN X0.here hx rfl (hb hby d_prog_40_method_1_code_0) rfl rfl k_) ?_
  obtain ⟨_, _, ⟨T1, L1, k1, n1⟩, -, X1, ⟨Lc1, hQ1, l1, y1, z1⟩, st1⟩ := X0.specialBack hx (y := (⟨"java/lang/Record", "<init>", "()V"⟩ : MethodName)) rfl hown (mvT hZ (hw _ (List.mem_of_getElem? (i := 39) rfl))) (mvT hZ (hw _ (List.mem_of_getElem? (i := 40) rfl))) (mvT hZ (hw _ (List.mem_of_getElem? (i := 43) rfl))) (by decide) (backOf (W := 0) (rm_rec l Z a0 hw [] a h0 n0 X00 ) hZ (hw _ (List.mem_of_getElem? (i := 43) rfl)) (hw _ (List.mem_of_getElem? (i := 42) rfl)) (by decide) (by decide)) (g := (mkF m 1 #[.val (.ref a), .val (.ref nm), .val al, .val .null, .val (.int (0 : Int32)), .val .null, .val (.ref ds)] [(.ref a)])) rfl (by rw [hml]; rfl) (Steps.refl _) (a := a) (argsL := []) (rest := []) (lenOf pd_3 rfl) rfl (by show 2 * 0 + _ ≤ _; exact Nat.le_of_eq rfl) (hb hby d_prog_40_method_1_code_1) (fun _ _ => ⟨rfl, e0, (by decide : 0 + 0 ≤ _), (by decide : 0 + 0 ≤ _)⟩)
  dsimp only [Pt.U, Pt.locs, Pt.cells, Pt.slots] at X1 l1 y1 z1 st1 hQ1
  subst l1 y1 z1
  obtain ⟨rfl, N1q, e1⟩ := hQ1
  have N1 := Fr.app N0 N1q
  refine Go.by (T' := T1) (g' := (mkF m 4 #[.val (.ref a), .val (.ref nm), .val al, .val .null, .val (.int (0 : Int32)), .val .null, .val (.ref ds)] [])) (fun t_ k_ => st1.trans k_) ?_
  refine Go.by (T' := T1) (g' := (mkF m 5 #[.val (.ref a), .val (.ref nm), .val al, .val .null, .val (.int (0 : Int32)), .val .null, .val (.ref ds)] [(.ref a)])) (fun t_ k_ => XS.aloadN X1.here hx rfl (hb hby d_prog_40_method_1_code_4) rfl rfl k_) ?_
  refine Go.by (T' := T1) (g' := (mkF m 6 #[.val (.ref a), .val (.ref nm), .val al, .val .null, .val (.int (0 : Int32)), .val .null, .val (.ref ds)] [(.ref nm), (.ref a)])) (fun t_ k_ => XS.aloadN X1.here hx rfl (hb hby d_prog_40_method_1_code_5) rfl rfl k_) ?_
  obtain ⟨T2, h2, X2, e2, W2, st2⟩ := putF X1 hx hZ hown (host := "") (Or.inl (hw _ (List.mem_of_getElem? (i := 45) rfl))) Via.refl e1 P1 P0 (Or.inr ⟨(hw _ (List.mem_of_getElem? (i := 46) rfl)), rfl, hnm⟩) (hw _ (List.mem_of_getElem? (i := 35) rfl)) (ty := (.object "java/lang/String")) (by decide) rfl rfl (g := (mkF m 6 #[.val (.ref a), .val (.ref nm), .val al, .val .null, .val (.int (0 : Int32)), .val .null, .val (.ref ds)] [(.ref nm), (.ref a)])) rfl rfl (hb hby d_prog_40_method_1_code_6)
  have Fw2 : Fld Z h2 a "com/example/fellwise/fellwise/Syntax$Option" "name" "Ljava/lang/String;" (.ref nm) := P1.same W2
  have N2 := Fr.snoc X2 N1 P7
  refine Go.by (T' := T2) (g' := (mkF m 9 #[.val (.ref a), .val (.ref nm), .val al, .val .null, .val (.int (0 : Int32)), .val .null, .val (.ref ds)] [])) (fun t_ k_ => st2 _ k_) ?_
  refine Go.by (T' := T2) (g' := (mkF m 10 #[.val (.ref a), .val (.ref nm), .val al, .val .null, .val (.int (0 : Int32)), .val .null, .val (.ref ds)] [(.ref a)])) (fun t_ k_ => XS.aloadN X2.here hx rfl (hb hby d_prog_40_method_1_code_9) rfl rfl k_) ?_
  refine Go.by (T' := T2) (g' := (mkF m 11 #[.val (.ref a), .val (.ref nm), .val al, .val .null, .val (.int (0 : Int32)), .val .null, .val (.ref ds)] [al, (.ref a)])) (fun t_ k_ => XS.aloadN X2.here hx rfl (hb hby d_prog_40_method_1_code_10) rfl hal k_) ?_
  have F3 : Fld Z h2 a "com/example/fellwise/fellwise/Syntax$Option" "alias" "Ljava/lang/String;" u1 := (P2.other W2 (Or.inr (slot_ne (Or.inr (hw _ (List.mem_of_getElem? (i := 48) rfl))) (Or.inr (hw _ (List.mem_of_getElem? (i := 46) rfl))) (by decide) (t := (.object "java/lang/String")) (t' := (.object "java/lang/String")) (by decide) (by decide))))
  have F4 : Exa Z h2 a "com/example/fellwise/fellwise/Syntax$Option" := (P0.wr W2)
  have Od5 : Old Z n0 h2 := (X00.wr W2 P7)
  have Kp6 : Keep h0 h2 [a] := ((Keep.refl h0 [a]).wr W2 (Or.inl (List.mem_of_getElem? (i := 0) rfl)))
  obtain ⟨T7, h7, X7, e7, W7, st7⟩ := putF X2 hx hZ hown (host := "") (Or.inl (hw _ (List.mem_of_getElem? (i := 47) rfl))) Via.refl e2 F3 F4 (Or.inr ⟨(hw _ (List.mem_of_getElem? (i := 48) rfl)), rfl, hnm⟩) (hw _ (List.mem_of_getElem? (i := 35) rfl)) (ty := (.object "java/lang/String")) (by decide) (own_nar hal rfl) (own_fits hal rfl) (g := (mkF m 11 #[.val (.ref a), .val (.ref nm), .val al, .val .null, .val (.int (0 : Int32)), .val .null, .val (.ref ds)] [al, (.ref a)])) rfl rfl (hb hby d_prog_40_method_1_code_11)
  have Fw7 : Fld Z h7 a "com/example/fellwise/fellwise/Syntax$Option" "alias" "Ljava/lang/String;" al := F3.same W7
  have N7 := Fr.snoc X7 N2 P7
  refine Go.by (T' := T7) (g' := (mkF m 14 #[.val (.ref a), .val (.ref nm), .val al, .val .null, .val (.int (0 : Int32)), .val .null, .val (.ref ds)] [])) (fun t_ k_ => st7 _ k_) ?_
  refine Go.by (T' := T7) (g' := (mkF m 15 #[.val (.ref a), .val (.ref nm), .val al, .val .null, .val (.int (0 : Int32)), .val .null, .val (.ref ds)] [(.ref a)])) (fun t_ k_ => XS.aloadN X7.here hx rfl (hb hby d_prog_40_method_1_code_14) rfl rfl k_) ?_
  refine Go.by (T' := T7) (g' := (mkF m 16 #[.val (.ref a), .val (.ref nm), .val al, .val .null, .val (.int (0 : Int32)), .val .null, .val (.ref ds)] [.null, (.ref a)])) (fun t_ k_ => XS.aloadN X7.here hx rfl (hb hby d_prog_40_method_1_code_15) rfl rfl k_) ?_
  have F8 : Fld Z h7 a "com/example/fellwise/fellwise/Syntax$Option" "label" "Ljava/lang/String;" u2 := ((P3.other W2 (Or.inr (slot_ne (Or.inr (hw _ (List.mem_of_getElem? (i := 50) rfl))) (Or.inr (hw _ (List.mem_of_getElem? (i := 46) rfl))) (by decide) (t := (.object "java/lang/String")) (t' := (.object "java/lang/String")) (by decide) (by decide)))).other W7 (Or.inr (slot_ne (Or.inr (hw _ (List.mem_of_getElem? (i := 50) rfl))) (Or.inr (hw _ (List.mem_of_getElem? (i := 48) rfl))) (by decide) (t := (.object "java/lang/String")) (t' := (.object "java/lang/String")) (by decide) (by decide))))
  have F9 : Exa Z h7 a "com/example/fellwise/fellwise/Syntax$Option" := (F4.wr W7)
  have Od10 : Old Z n0 h7 := (Od5.wr W7 P7)
  have Kp11 : Keep h0 h7 [a] := (Kp6.wr W7 (Or.inl (List.mem_of_getElem? (i := 0) rfl)))
  obtain ⟨T12, h12, X12, e12, W12, st12⟩ := putF X7 hx hZ hown (host := "") (Or.inl (hw _ (List.mem_of_getElem? (i := 49) rfl))) Via.refl e7 F8 F9 (Or.inr ⟨(hw _ (List.mem_of_getElem? (i := 50) rfl)), rfl, hnm⟩) (hw _ (List.mem_of_getElem? (i := 35) rfl)) (ty := (.object "java/lang/String")) (by decide) rfl rfl (g := (mkF m 16 #[.val (.ref a), .val (.ref nm), .val al, .val .null, .val (.int (0 : Int32)), .val .null, .val (.ref ds)] [.null, (.ref a)])) rfl rfl (hb hby d_prog_40_method_1_code_16)
  have Fw12 : Fld Z h12 a "com/example/fellwise/fellwise/Syntax$Option" "label" "Ljava/lang/String;" .null := F8.same W12
  have N12 := Fr.snoc X12 N7 P7
  refine Go.by (T' := T12) (g' := (mkF m 19 #[.val (.ref a), .val (.ref nm), .val al, .val .null, .val (.int (0 : Int32)), .val .null, .val (.ref ds)] [])) (fun t_ k_ => st12 _ k_) ?_
  refine Go.by (T' := T12) (g' := (mkF m 20 #[.val (.ref a), .val (.ref nm), .val al, .val .null, .val (.int (0 : Int32)), .val .null, .val (.ref ds)] [(.ref a)])) (fun t_ k_ => XS.aloadN X12.here hx rfl (hb hby d_prog_40_method_1_code_19) rfl rfl k_) ?_
  refine Go.by (T' := T12) (g' := (mkF m 22 #[.val (.ref a), .val (.ref nm), .val al, .val .null, .val (.int (0 : Int32)), .val .null, .val (.ref ds)] [(.int (0 : Int32)), (.ref a)])) (fun t_ k_ => XS.iload X12.here hx rfl (hb hby d_prog_40_method_1_code_20) rfl k_) ?_
  have F13 : Fld Z h12 a "com/example/fellwise/fellwise/Syntax$Option" "required" "Z" u3 := (((P4.other W2 (Or.inr (slot_ne (Or.inr (hw _ (List.mem_of_getElem? (i := 52) rfl))) (Or.inr (hw _ (List.mem_of_getElem? (i := 46) rfl))) (by decide) (t := .boolean) (t' := (.object "java/lang/String")) (by decide) (by decide)))).other W7 (Or.inr (slot_ne (Or.inr (hw _ (List.mem_of_getElem? (i := 52) rfl))) (Or.inr (hw _ (List.mem_of_getElem? (i := 48) rfl))) (by decide) (t := .boolean) (t' := (.object "java/lang/String")) (by decide) (by decide)))).other W12 (Or.inr (slot_ne (Or.inr (hw _ (List.mem_of_getElem? (i := 52) rfl))) (Or.inr (hw _ (List.mem_of_getElem? (i := 50) rfl))) (by decide) (t := .boolean) (t' := (.object "java/lang/String")) (by decide) (by decide))))
  have F14 : Exa Z h12 a "com/example/fellwise/fellwise/Syntax$Option" := (F9.wr W12)
  have Od15 : Old Z n0 h12 := (Od10.wr W12 P7)
  have Kp16 : Keep h0 h12 [a] := (Kp11.wr W12 (Or.inl (List.mem_of_getElem? (i := 0) rfl)))
  obtain ⟨T17, h17, X17, e17, W17, st17⟩ := putFN X12 hx hZ hown (hw _ (List.mem_of_getElem? (i := 51) rfl)) Via.refl e12 F13 F14 (Or.inr ⟨(hw _ (List.mem_of_getElem? (i := 52) rfl)), rfl, hnm⟩) (hw _ (List.mem_of_getElem? (i := 35) rfl)) (ty := .boolean) (v' := (.int (0 : Int32))) (by decide) rfl rfl (g := (mkF m 22 #[.val (.ref a), .val (.ref nm), .val al, .val .null, .val (.int (0 : Int32)), .val .null, .val (.ref ds)] [(.int (0 : Int32)), (.ref a)])) rfl rfl (hb hby d_prog_40_method_1_code_22)
  have Fw17 : Fld Z h17 a "com/example/fellwise/fellwise/Syntax$Option" "required" "Z" (.int (0 : Int32)) := F13.same W17
  have N17 := Fr.snoc X17 N12 P7
  refine Go.by (T' := T17) (g' := (mkF m 25 #[.val (.ref a), .val (.ref nm), .val al, .val .null, .val (.int (0 : Int32)), .val .null, .val (.ref ds)] [])) (fun t_ k_ => st17 _ k_) ?_
  refine Go.by (T' := T17) (g' := (mkF m 26 #[.val (.ref a), .val (.ref nm), .val al, .val .null, .val (.int (0 : Int32)), .val .null, .val (.ref ds)] [(.ref a)])) (fun t_ k_ => XS.aloadN X17.here hx rfl (hb hby d_prog_40_method_1_code_25) rfl rfl k_) ?_
  refine Go.by (T' := T17) (g' := (mkF m 28 #[.val (.ref a), .val (.ref nm), .val al, .val .null, .val (.int (0 : Int32)), .val .null, .val (.ref ds)] [.null, (.ref a)])) (fun t_ k_ => XS.aload X17.here hx rfl (hb hby d_prog_40_method_1_code_26) rfl rfl k_) ?_
  have F18 : Fld Z h17 a "com/example/fellwise/fellwise/Syntax$Option" "defaultValue" "Ljava/lang/String;" u4 := ((((P5.other W2 (Or.inr (slot_ne (Or.inr (hw _ (List.mem_of_getElem? (i := 54) rfl))) (Or.inr (hw _ (List.mem_of_getElem? (i := 46) rfl))) (by decide) (t := (.object "java/lang/String")) (t' := (.object "java/lang/String")) (by decide) (by decide)))).other W7 (Or.inr (slot_ne (Or.inr (hw _ (List.mem_of_getElem? (i := 54) rfl))) (Or.inr (hw _ (List.mem_of_getElem? (i := 48) rfl))) (by decide) (t := (.object "java/lang/String")) (t' := (.object "java/lang/String")) (by decide) (by decide)))).other W12 (Or.inr (slot_ne (Or.inr (hw _ (List.mem_of_getElem? (i := 54) rfl))) (Or.inr (hw _ (List.mem_of_getElem? (i := 50) rfl))) (by decide) (t := (.object "java/lang/String")) (t' := (.object "java/lang/String")) (by decide) (by decide)))).other W17 (Or.inr (slot_ne (Or.inr (hw _ (List.mem_of_getElem? (i := 54) rfl))) (Or.inr (hw _ (List.mem_of_getElem? (i := 52) rfl))) (by decide) (t := (.object "java/lang/String")) (t' := .boolean) (by decide) (by decide))))
  have F19 : Exa Z h17 a "com/example/fellwise/fellwise/Syntax$Option" := (F14.wr W17)
  have Od20 : Old Z n0 h17 := (Od15.wr W17 P7)
  have Kp21 : Keep h0 h17 [a] := (Kp16.wr W17 (Or.inl (List.mem_of_getElem? (i := 0) rfl)))
  obtain ⟨T22, h22, X22, e22, W22, st22⟩ := putF X17 hx hZ hown (host := "") (Or.inl (hw _ (List.mem_of_getElem? (i := 53) rfl))) Via.refl e17 F18 F19 (Or.inr ⟨(hw _ (List.mem_of_getElem? (i := 54) rfl)), rfl, hnm⟩) (hw _ (List.mem_of_getElem? (i := 35) rfl)) (ty := (.object "java/lang/String")) (by decide) rfl rfl (g := (mkF m 28 #[.val (.ref a), .val (.ref nm), .val al, .val .null, .val (.int (0 : Int32)), .val .null, .val (.ref ds)] [.null, (.ref a)])) rfl rfl (hb hby d_prog_40_method_1_code_28)
  have Fw22 : Fld Z h22 a "com/example/fellwise/fellwise/Syntax$Option" "defaultValue" "Ljava/lang/String;" .null := F18.same W22
  have N22 := Fr.snoc X22 N17 P7
  refine Go.by (T' := T22) (g' := (mkF m 31 #[.val (.ref a), .val (.ref nm), .val al, .val .null, .val (.int (0 : Int32)), .val .null, .val (.ref ds)] [])) (fun t_ k_ => st22 _ k_) ?_
  refine Go.by (T' := T22) (g' := (mkF m 32 #[.val (.ref a), .val (.ref nm), .val al, .val .null, .val (.int (0 : Int32)), .val .null, .val (.ref ds)] [(.ref a)])) (fun t_ k_ => XS.aloadN X22.here hx rfl (hb hby d_prog_40_method_1_code_31) rfl rfl k_) ?_
  refine Go.by (T' := T22) (g' := (mkF m 34 #[.val (.ref a), .val (.ref nm), .val al, .val .null, .val (.int (0 : Int32)), .val .null, .val (.ref ds)] [(.ref ds), (.ref a)])) (fun t_ k_ => XS.aload X22.here hx rfl (hb hby d_prog_40_method_1_code_32) rfl rfl k_) ?_
  have F23 : Fld Z h22 a "com/example/fellwise/fellwise/Syntax$Option" "description" "Ljava/lang/String;" u5 := (((((P6.other W2 (Or.inr (slot_ne (Or.inr (hw _ (List.mem_of_getElem? (i := 56) rfl))) (Or.inr (hw _ (List.mem_of_getElem? (i := 46) rfl))) (by decide) (t := (.object "java/lang/String")) (t' := (.object "java/lang/String")) (by decide) (by decide)))).other W7 (Or.inr (slot_ne (Or.inr (hw _ (List.mem_of_getElem? (i := 56) rfl))) (Or.inr (hw _ (List.mem_of_getElem? (i := 48) rfl))) (by decide) (t := (.object "java/lang/String")) (t' := (.object "java/lang/String")) (by decide) (by decide)))).other W12 (Or.inr (slot_ne (Or.inr (hw _ (List.mem_of_getElem? (i := 56) rfl))) (Or.inr (hw _ (List.mem_of_getElem? (i := 50) rfl))) (by decide) (t := (.object "java/lang/String")) (t' := (.object "java/lang/String")) (by decide) (by decide)))).other W17 (Or.inr (slot_ne (Or.inr (hw _ (List.mem_of_getElem? (i := 56) rfl))) (Or.inr (hw _ (List.mem_of_getElem? (i := 52) rfl))) (by decide) (t := (.object "java/lang/String")) (t' := .boolean) (by decide) (by decide)))).other W22 (Or.inr (slot_ne (Or.inr (hw _ (List.mem_of_getElem? (i := 56) rfl))) (Or.inr (hw _ (List.mem_of_getElem? (i := 54) rfl))) (by decide) (t := (.object "java/lang/String")) (t' := (.object "java/lang/String")) (by decide) (by decide))))
  have F24 : Exa Z h22 a "com/example/fellwise/fellwise/Syntax$Option" := (F19.wr W22)
  have Od25 : Old Z n0 h22 := (Od20.wr W22 P7)
  have Kp26 : Keep h0 h22 [a] := (Kp21.wr W22 (Or.inl (List.mem_of_getElem? (i := 0) rfl)))
  obtain ⟨T27, h27, X27, e27, W27, st27⟩ := putF X22 hx hZ hown (host := "") (Or.inl (hw _ (List.mem_of_getElem? (i := 55) rfl))) Via.refl e22 F23 F24 (Or.inr ⟨(hw _ (List.mem_of_getElem? (i := 56) rfl)), rfl, hnm⟩) (hw _ (List.mem_of_getElem? (i := 35) rfl)) (ty := (.object "java/lang/String")) (by decide) rfl rfl (g := (mkF m 34 #[.val (.ref a), .val (.ref nm), .val al, .val .null, .val (.int (0 : Int32)), .val .null, .val (.ref ds)] [(.ref ds), (.ref a)])) rfl rfl (hb hby d_prog_40_method_1_code_34)
  have Fw27 : Fld Z h27 a "com/example/fellwise/fellwise/Syntax$Option" "description" "Ljava/lang/String;" (.ref ds) := F23.same W27
  have N27 := Fr.snoc X27 N22 P7
  refine Go.by (T' := T27) (g' := (mkF m 37 #[.val (.ref a), .val (.ref nm), .val al, .val .null, .val (.int (0 : Int32)), .val .null, .val (.ref ds)] [])) (fun t_ k_ => st27 _ k_) ?_
  have F28 : Exa Z h27 a "com/example/fellwise/fellwise/Syntax$Option" := (F24.wr W27)
  have F29 : Fld Z h27 a "com/example/fellwise/fellwise/Syntax$Option" "name" "Ljava/lang/String;" (.ref nm) := (((((Fw2.other W7 (Or.inr (slot_ne (Or.inr (hw _ (List.mem_of_getElem? (i := 46) rfl))) (Or.inr (hw _ (List.mem_of_getElem? (i := 48) rfl))) (by decide) (t := (.object "java/lang/String")) (t' := (.object "java/lang/String")) (by decide) (by decide)))).other W12 (Or.inr (slot_ne (Or.inr (hw _ (List.mem_of_getElem? (i := 46) rfl))) (Or.inr (hw _ (List.mem_of_getElem? (i := 50) rfl))) (by decide) (t := (.object "java/lang/String")) (t' := (.object "java/lang/String")) (by decide) (by decide)))).other W17 (Or.inr (slot_ne (Or.inr (hw _ (List.mem_of_getElem? (i := 46) rfl))) (Or.inr (hw _ (List.mem_of_getElem? (i := 52) rfl))) (by decide) (t := (.object "java/lang/String")) (t' := .boolean) (by decide) (by decide)))).other W22 (Or.inr (slot_ne (Or.inr (hw _ (List.mem_of_getElem? (i := 46) rfl))) (Or.inr (hw _ (List.mem_of_getElem? (i := 54) rfl))) (by decide) (t := (.object "java/lang/String")) (t' := (.object "java/lang/String")) (by decide) (by decide)))).other W27 (Or.inr (slot_ne (Or.inr (hw _ (List.mem_of_getElem? (i := 46) rfl))) (Or.inr (hw _ (List.mem_of_getElem? (i := 56) rfl))) (by decide) (t := (.object "java/lang/String")) (t' := (.object "java/lang/String")) (by decide) (by decide))))
  have F30 : Fld Z h27 a "com/example/fellwise/fellwise/Syntax$Option" "alias" "Ljava/lang/String;" al := ((((Fw7.other W12 (Or.inr (slot_ne (Or.inr (hw _ (List.mem_of_getElem? (i := 48) rfl))) (Or.inr (hw _ (List.mem_of_getElem? (i := 50) rfl))) (by decide) (t := (.object "java/lang/String")) (t' := (.object "java/lang/String")) (by decide) (by decide)))).other W17 (Or.inr (slot_ne (Or.inr (hw _ (List.mem_of_getElem? (i := 48) rfl))) (Or.inr (hw _ (List.mem_of_getElem? (i := 52) rfl))) (by decide) (t := (.object "java/lang/String")) (t' := .boolean) (by decide) (by decide)))).other W22 (Or.inr (slot_ne (Or.inr (hw _ (List.mem_of_getElem? (i := 48) rfl))) (Or.inr (hw _ (List.mem_of_getElem? (i := 54) rfl))) (by decide) (t := (.object "java/lang/String")) (t' := (.object "java/lang/String")) (by decide) (by decide)))).other W27 (Or.inr (slot_ne (Or.inr (hw _ (List.mem_of_getElem? (i := 48) rfl))) (Or.inr (hw _ (List.mem_of_getElem? (i := 56) rfl))) (by decide) (t := (.object "java/lang/String")) (t' := (.object "java/lang/String")) (by decide) (by decide))))
  have F31 : Fld Z h27 a "com/example/fellwise/fellwise/Syntax$Option" "label" "Ljava/lang/String;" .null := (((Fw12.other W17 (Or.inr (slot_ne (Or.inr (hw _ (List.mem_of_getElem? (i := 50) rfl))) (Or.inr (hw _ (List.mem_of_getElem? (i := 52) rfl))) (by decide) (t := (.object "java/lang/String")) (t' := .boolean) (by decide) (by decide)))).other W22 (Or.inr (slot_ne (Or.inr (hw _ (List.mem_of_getElem? (i := 50) rfl))) (Or.inr (hw _ (List.mem_of_getElem? (i := 54) rfl))) (by decide) (t := (.object "java/lang/String")) (t' := (.object "java/lang/String")) (by decide) (by decide)))).other W27 (Or.inr (slot_ne (Or.inr (hw _ (List.mem_of_getElem? (i := 50) rfl))) (Or.inr (hw _ (List.mem_of_getElem? (i := 56) rfl))) (by decide) (t := (.object "java/lang/String")) (t' := (.object "java/lang/String")) (by decide) (by decide))))
  have F32 : Fld Z h27 a "com/example/fellwise/fellwise/Syntax$Option" "required" "Z" (.int (0 : Int32)) := ((Fw17.other W22 (Or.inr (slot_ne (Or.inr (hw _ (List.mem_of_getElem? (i := 52) rfl))) (Or.inr (hw _ (List.mem_of_getElem? (i := 54) rfl))) (by decide) (t := .boolean) (t' := (.object "java/lang/String")) (by decide) (by decide)))).other W27 (Or.inr (slot_ne (Or.inr (hw _ (List.mem_of_getElem? (i := 52) rfl))) (Or.inr (hw _ (List.mem_of_getElem? (i := 56) rfl))) (by decide) (t := .boolean) (t' := (.object "java/lang/String")) (by decide) (by decide))))
  have F33 : Fld Z h27 a "com/example/fellwise/fellwise/Syntax$Option" "defaultValue" "Ljava/lang/String;" .null := (Fw22.other W27 (Or.inr (slot_ne (Or.inr (hw _ (List.mem_of_getElem? (i := 54) rfl))) (Or.inr (hw _ (List.mem_of_getElem? (i := 56) rfl))) (by decide) (t := (.object "java/lang/String")) (t' := (.object "java/lang/String")) (by decide) (by decide))))
  have Kp34 : Keep h0 h27 [a] := (Kp26.wr W27 (Or.inl (List.mem_of_getElem? (i := 0) rfl)))
  refine Go.fin X27 (v := none) (fun _ => rfl) hlk (by decide) (by decide) ?_ (fun fs hr => X27.returnOut hx Bd.returns (hb hby d_prog_40_method_1_code_37) hr)
  show Q_opt Z a nm al ds u0 u1 u2 u3 u4 u5 h0 n0 _ T27.heap _
  rw [e27]
  exact ⟨rfl, N27, Kp34, F28, F29, F30, F31, F32, F33, Fw27⟩
def Q_flag (Z : State) (nm : Addr) (al : Value) (ds : Addr) (h0 : Heap) (n0 : Nat) (v : Option Value) (h : Heap) (L : List Loc) : Prop := ∃ (b : Addr), v = some (.ref b) ∧ Fr n0 L ∧ Keep h0 h [] ∧ h0.size ≤ b ∧ Exa Z h b "com/example/fellwise/fellwise/Syntax$Option" ∧ Fld Z h b "com/example/fellwise/fellwise/Syntax$Option" "name" "Ljava/lang/String;" (.ref nm) ∧ Fld Z h b "com/example/fellwise/fellwise/Syntax$Option" "alias" "Ljava/lang/String;" al ∧ Fld Z h b "com/example/fellwise/fellwise/Syntax$Option" "label" "Ljava/lang/String;" .null ∧ Fld Z h b "com/example/fellwise/fellwise/Syntax$Option" "required" "Z" (.int (0 : Int32)) ∧ Fld Z h b "com/example/fellwise/fellwise/Syntax$Option" "defaultValue" "Ljava/lang/String;" .null ∧ Fld Z h b "com/example/fellwise/fellwise/Syntax$Option" "description" "Ljava/lang/String;" (.ref ds)
theorem ef_flag (m : MethodId) (nm : Addr) (al : Value) (ds : Addr) (hal : al.isRef = true) : entryFrame m #[(.ref nm), al, (.ref ds)] 3 = mkF m 0 #[.val (.ref nm), .val al, .val (.ref ds)] [] := by (rcases ref_cases hal with rfl | ⟨_, rfl⟩) <;> first | (simp [entryFrame, mkF, argsToLocals, Value.category]; done) | rfl
theorem d_prog_40_method_2_code_0 : decode prog_40_method_2_code 0 = .ok (.new 8, 3) := by decide +kernel
theorem d_prog_40_method_2_code_3 : decode prog_40_method_2_code 3 = .ok (.dup, 1) := by decide +kernel
theorem d_prog_40_method_2_code_4 : decode prog_40_method_2_code 4 = .ok (.aload_n 0, 1) := by decide +kernel
theorem d_prog_40_method_2_code_5 : decode prog_40_method_2_code 5 = .ok (.aload_n 1, 1) := by decide +kernel
theorem d_prog_40_method_2_code_6 : decode prog_40_method_2_code 6 = .ok (.aconst_null, 1) := by decide +kernel
theorem d_prog_40_method_2_code_7 : decode prog_40_method_2_code 7 = .ok (.iconst 0, 1) := by decide +kernel
theorem d_prog_40_method_2_code_8 : decode prog_40_method_2_code 8 = .ok (.aconst_null, 1) := by decide +kernel
theorem d_prog_40_method_2_code_9 : decode prog_40_method_2_code 9 = .ok (.aload_n 2, 1) := by decide +kernel
theorem d_prog_40_method_2_code_10 : decode prog_40_method_2_code 10 = .ok (.invokespecial 29, 3) := by decide +kernel
theorem pd_4 : parseMethodDescriptor "(Ljava/lang/String;Ljava/lang/String;Ljava/lang/String;ZLjava/lang/String;Ljava/lang/String;)V" = some ⟨[(.object "java/lang/String"), (.object "java/lang/String"), (.object "java/lang/String"), .boolean, (.object "java/lang/String"), (.object "java/lang/String")], none⟩ := by decide +kernel
theorem d_prog_40_method_2_code_13 : decode prog_40_method_2_code 13 = .ok (.areturn, 1) := by decide +kernel
set_option maxRecDepth 65536 in
set_option maxHeartbeats 40000000 in
theorem rm_flag (l : Launch) (Z : State) (a0 : Array Value) (hw : ∀ d ∈ tables_1, d.before a0 Z = true) (ws : List Jvm.Cond) (nm : Addr) (al : Value) (ds : Addr) (h0 : Heap) (n0 : Nat) (X00 : Old Z n0 h0) (hal : al.isRef = true) :
    MetFree l (⟨"com/example/fellwise/fellwise/Syntax$Option", "flag", "(Ljava/lang/String;Ljava/lang/String;Ljava/lang/String;)Lcom/example/fellwise/fellwise/Syntax$Option;"⟩ : MethodName) (head1 (Jvm.Cond.code (⟨"com/example/fellwise/fellwise/Syntax$Option", "flag", "(Ljava/lang/String;Ljava/lang/String;Ljava/lang/String;)Lcom/example/fellwise/fellwise/Syntax$Option;"⟩ : MethodName) prog_40_method_2_code 3 (some (.object "com/example/fellwise/fellwise/Syntax$Option")) :: ws) ({ frames := 3, cells := 1, slots := 6, locals := 48 } : Room)) (fun aa_ U => aa_ = #[(.ref nm), al, (.ref ds)] ∧ Z.Warmed39 U.vm ∧ U.heap = h0) (fun _ _ _ _ _ => True) (fun _ U o U' => ∃ v L, o = .returned v ∧ Q_flag Z nm al ds h0 n0 v U'.heap L ∧ FrameEnd U o U' L ({ frames := 3, cells := 1, slots := 6, locals := 48 } : Room).cells ({ frames := 3, cells := 1, slots := 6, locals := 48 } : Room).slots) := by
  refine MetFree.of_bodySF (plainFor_of_name pn_3) hisR ?_
  intro p e s m args below meth c s₁ Bd hml0 hP hK
  obtain ⟨rfl, hZ, hh⟩ := hP
  have hx := Bd.exec
  have hby := Bd.bytes
  have hml : c.maxLocals = 3 := hml0
  have hown : s.vm.findClass "com/example/fellwise/fellwise/Syntax$Option" = some m.cls := findClass_of_methodNamed Bd.named
  have hnm := (name_of_methodNamed Bd.named Bd.method).1
  have hlk : meth.locks = false := BodyLoose.notSynchronized Bd
  have X0 : Stand p l e ({ frames := 3, cells := 1, slots := 6, locals := 48 } : Room) s m #[(.ref nm), al, (.ref ds)] below meth c s₁ [] 0 0 := Stand.of_body Bd
  have e0 : s₁.heap = h0 := by rw [← hh, Bd.state]; rfl
  have N0 := Fr.nil n0
  suffices G : Go p e below s (Q_flag Z nm al ds h0 n0) 1 6 s₁ (mkF m 0 #[.val (.ref nm), .val al, .val (.ref ds)] []) by
    obtain ⟨s2, o, h1, h2⟩ := G
    exact ⟨s2, o, castTop (ef_flag m nm al ds hal) h1, h2⟩
  obtain ⟨T1, h1, X1, e1, E1, A1, Df1, -, st1⟩ := newO X0 hx hZ hown (hw _ (List.mem_of_getElem? (i := 34) rfl)) (hw _ (List.mem_of_getElem? (i := 35) rfl)) (hw _ (List.mem_of_getElem? (i := 32) rfl)) e0 (g := (mkF m 0 #[.val (.ref nm), .val al, .val (.ref ds)] [])) rfl (hb hby d_prog_40_method_2_code_0) (by decide) (by decide)
  obtain ⟨b1, g1⟩ : ∃ z, z = h0.size := ⟨_, rfl⟩
  rw [← g1] at A1 Df1 st1
  have ge_b1 : n0 ≤ b1 := Nat.le_trans X00.sz (Nat.le_of_eq g1.symm)
  have sz_b1 : h0.size ≤ b1 := Nat.le_trans (Keep.refl h0 []).1 (Nat.le_of_eq g1.symm)
  have F2 : Fld Z h1 b1 "com/example/fellwise/fellwise/Syntax$Option" "name" "Ljava/lang/String;" .null := Df1 (Or.inr (hw _ (List.mem_of_getElem? (i := 46) rfl))) (ty := (.object "java/lang/String")) (by decide)
  have F3 : Fld Z h1 b1 "com/example/fellwise/fellwise/Syntax$Option" "alias" "Ljava/lang/String;" .null := Df1 (Or.inr (hw _ (List.mem_of_getElem? (i := 48) rfl))) (ty := (.object "java/lang/String")) (by decide)
  have F4 : Fld Z h1 b1 "com/example/fellwise/fellwise/Syntax$Option" "label" "Ljava/lang/String;" .null := Df1 (Or.inr (hw _ (List.mem_of_getElem? (i := 50) rfl))) (ty := (.object "java/lang/String")) (by decide)
  have F5 : Fld Z h1 b1 "com/example/fellwise/fellwise/Syntax$Option" "required" "Z" (.int (0 : Int32)) := Df1 (Or.inr (hw _ (List.mem_of_getElem? (i := 52) rfl))) (ty := .boolean) (by decide)
  have F6 : Fld Z h1 b1 "com/example/fellwise/fellwise/Syntax$Option" "defaultValue" "Ljava/lang/String;" .null := Df1 (Or.inr (hw _ (List.mem_of_getElem? (i := 54) rfl))) (ty := (.object "java/lang/String")) (by decide)
  have F7 : Fld Z h1 b1 "com/example/fellwise/fellwise/Syntax$Option" "description" "Ljava/lang/String;" .null := Df1 (Or.inr (hw _ (List.mem_of_getElem? (i := 56) rfl))) (ty := (.object "java/lang/String")) (by decide)
  refine Go.by (T' := T1) (g' := (mkF m 3 #[.val (.ref nm), .val al, .val (.ref ds)] [(.ref b1)])) (fun t_ k_ => st1 _ k_) ?_
  refine Go.by (T' := T1) (g' := (mkF m 4 #[.val (.ref nm), .val al, .val (.ref ds)] [(.ref b1), (.ref b1)])) (fun t_ k_ => XS.dup X1.here hx rfl (hb hby d_prog_40_method_2_code_3) rfl rfl k_) ?_
  refine Go.by (T' := T1) (g' := (mkF m 5 #[.val (.ref nm), .val al, .val (.ref ds)] [(.ref nm), (.ref b1), (.ref b1)])) (fun t_ k_ => XS.aloadN X1.here hx rfl (hb hby d_prog_40_method_2_code_4) rfl rfl k_) ?_
  refine Go.by (T' := T1) (g' := (mkF m 6 #[.val (.ref nm), .val al, .val (.ref ds)] [al, (.ref nm), (.ref b1), (.ref b1)])) (fun t_ k_ => XS.aloadN X1.here hx rfl (hb hby d_prog_40_method_2_code_5) rfl hal k_) ?_
  refine Go.by (T' := T1) (g' := (mkF m 7 #[.val (.ref nm), .val al, .val (.ref ds)] [.null, al, (.ref nm), (.ref b1), (.ref b1)])) (fun t_ k_ => XS.aconstNull X1.here hx rfl (hb hby d_prog_40_method_2_code_6) k_) ?_
  refine Go.by (T' := T1) (g' := (mkF m 8 #[.val (.ref nm), .val al, .val (.ref ds)] [(.int (0 : Int32)), .null, al, (.ref nm), (.ref b1), (.ref b1)])) (fun t_ k_ => XS.iconst X1.here hx rfl (hb hby d_prog_40_method_2_code_7) k_) ?_
  refine Go.by (T' := T1) (g' := (mkF m 9 #[.val (.ref nm), .val al, .val (.ref ds)] [.null, (.int (0 : Int32)), .null, al, (.ref nm), (.ref b1), (.ref b1)])) (fun t_ k_ => XS.aconstNull X1.here hx rfl (hb hby d_prog_40_method_2_code_8) k_) ?_
  refine Go.by (T' := T1) (g' := (mkF m 10 #[.val (.ref nm), .val al, .val (.ref ds)] [(.ref ds), .null, (.int (0 : Int32)), .null, al, (.ref nm), (.ref b1), (.ref b1)])) (fun t_ k_ => XS.aloadN X1.here hx rfl (hb hby d_prog_40_method_2_code_9) rfl rfl k_) ?_
  have Od8 : Old Z n0 h1 := (X00.ext E1)
  have Kp9 : Keep h0 h1 [] := ((Keep.refl h0 []).ext E1)
  obtain ⟨_, _, ⟨T10, L10, k10, n10⟩, -, X10, ⟨Lc10, hQ10, l10, y10, z10⟩, st10⟩ := X1.specialBack hx (y := (⟨"com/example/fellwise/fellwise/Syntax$Option", "<init>", "(Ljava/lang/String;Ljava/lang/String;Ljava/lang/String;ZLjava/lang/String;Ljava/lang/String;)V"⟩ : MethodName)) rfl hown (mvT hZ (hw _ (List.mem_of_getElem? (i := 36) rfl))) (mvT hZ (hw _ (List.mem_of_getElem? (i := 37) rfl))) (mvT hZ (hw _ (List.mem_of_getElem? (i := 38) rfl))) (by decide) (backOf (W := 1) (rm_opt l Z a0 hw [] b1 nm al ds .null .null .null (.int (0 : Int32)) .null .null h1 n0 Od8 A1 F2 F3 F4 F5 F6 F7 ge_b1 hal) hZ (hw _ (List.mem_of_getElem? (i := 38) rfl)) (hw _ (List.mem_of_getElem? (i := 32) rfl)) (by decide) (by decide)) (g := (mkF m 10 #[.val (.ref nm), .val al, .val (.ref ds)] [(.ref ds), .null, (.int (0 : Int32)), .null, al, (.ref nm), (.ref b1), (.ref b1)])) rfl (by rw [hml]; rfl) (Steps.refl _) (a := b1) (argsL := [(.ref nm), al, .null, (.int (0 : Int32)), .null, (.ref ds)]) (rest := [(.ref b1)]) (lenOf pd_4 rfl) rfl (by show 2 * 0 + _ ≤ _; exact Nat.le_of_eq rfl) (hb hby d_prog_40_method_2_code_10) (fun _ _ => ⟨rfl, e1, (by decide : 1 + 0 ≤ _), (by decide : 6 + 0 ≤ _)⟩)
  dsimp only [Pt.U, Pt.locs, Pt.cells, Pt.slots] at X10 l10 y10 z10 st10 hQ10
  subst l10 y10 z10
  obtain ⟨rfl, N10q, K10, G10_0, G10_1, G10_2, G10_3, G10_4, G10_5, G10_6⟩ := hQ10
  have N10 := Fr.app N0 N10q
  refine Go.by (T' := T10) (g' := (mkF m 13 #[.val (.ref nm), .val al, .val (.ref ds)] [(.ref b1)])) (fun t_ k_ => st10.trans k_) ?_
  have Kp11 : Keep h0 T10.heap [] := (Kp9.trans K10 (allS (Or.inr sz_b1) all0))
  refine Go.fin X10 (v := some (.ref b1)) (fun h => by rw [Bd.returns] at h; cases h) hlk (by decide) (by decide) ?_ (fun fs hr => retR X10 hx (w := (.ref b1)) Bd.returns rfl rfl rfl (hb hby d_prog_40_method_2_code_13) hr)
  show Q_flag Z nm al ds h0 n0 _ T10.heap _
  exact ⟨b1, rfl, N10, Kp11, sz_b1, G10_0, G10_1, G10_2, G10_3, G10_4, G10_5, G10_6⟩
def Q_g_name (Z : State) (a : Addr) (nm : Addr) (h0 : Heap) (n0 : Nat) (v : Option Value) (h : Heap) (L : List Loc) : Prop := v = some (.ref nm) ∧ Fr n0 L ∧ h = h0
theorem ef_g_name (m : MethodId) (a : Addr) : entryFrame m #[(.ref a)] 1 = mkF m 0 #[.val (.ref a)] [] := by first | (simp [entryFrame, mkF, argsToLocals, Value.category]; done) | rfl
theorem d_prog_40_method_10_code_0 : decode prog_40_method_10_code 0 = .ok (.aload_n 0, 1) := by decide +kernel
theorem d_prog_40_method_10_code_1 : decode prog_40_method_10_code 1 = .ok (.getfield 7, 3) := by decide +kernel
theorem d_prog_40_method_10_code_4 : decode prog_40_method_10_code 4 = .ok (.areturn, 1) := by decide +kernel
set_option maxRecDepth 65536 in
set_option maxHeartbeats 40000000 in
theorem rm_g_name (l : Launch) (Z : State) (a0 : Array Value) (hw : ∀ d ∈ tables_1, d.before a0 Z = true) (ws : List Jvm.Cond) (a : Addr) (nm : Addr) (h0 : Heap) (n0 : Nat) (X00 : Old Z n0 h0) (P0 : Fld Z h0 a "com/example/fellwise/fellwise/Syntax$Option" "name" "Ljava/lang/String;" (.ref nm)) :
    MetFree l (⟨"com/example/fellwise/fellwise/Syntax$Option", "name", "()Ljava/lang/String;"⟩ : MethodName) (head1 (Jvm.Cond.code (⟨"com/example/fellwise/fellwise/Syntax$Option", "name", "()Ljava/lang/String;"⟩ : MethodName) prog_40_method_10_code 1 (some (.object "java/lang/String")) :: ws) ({ frames := 0, cells := 0, slots := 0, locals := 0 } : Room)) (fun aa_ U => aa_ = #[(.ref a)] ∧ Z.Warmed39 U.vm ∧ U.heap = h0) (fun _ _ _ _ _ => True) (fun _ U o U' => ∃ v L, o = .returned v ∧ Q_g_name Z a nm h0 n0 v U'.heap L ∧ FrameEnd U o U' L ({ frames := 0, cells := 0, slots := 0, locals := 0 } : Room).cells ({ frames := 0, cells := 0, slots := 0, locals := 0 } : Room).slots) := by
  refine MetFree.of_bodySF (plainFor_of_name pn_3) hisR ?_
  intro p e s m args below meth c s₁ Bd hml0 hP hK
  obtain ⟨rfl, hZ, hh⟩ := hP
  have hx := Bd.exec
  have hby := Bd.bytes
  have hml : c.maxLocals = 1 := hml0
  have hown : s.vm.findClass "com/example/fellwise/fellwise/Syntax$Option" = some m.cls := findClass_of_methodNamed Bd.named
  have hnm := (name_of_methodNamed Bd.named Bd.method).1
  have hlk : meth.locks = false := BodyLoose.notSynchronized Bd
  have X0 : Stand p l e ({ frames := 0, cells := 0, slots := 0, locals := 0 } : Room) s m #[(.ref a)] below meth c s₁ [] 0 0 := Stand.of_body Bd
  have e0 : s₁.heap = h0 := by rw [← hh, Bd.state]; rfl
  have N0 := Fr.nil n0
  suffices G : Go p e below s (Q_g_name Z a nm h0 n0) 0 0 s₁ (mkF m 0 #[.val (.ref a)] []) by
    obtain ⟨s2, o, h1, h2⟩ := G
    exact ⟨s2, o, castTop (ef_g_name m a) h1, h2⟩
  refine Go.by (T' := s₁) (g' := (mkF m 1 #[.val (.ref a)] [(.ref a)])) (fun t_ k_ => XS.aloadN X0.here hx rfl (hb hby d_prog_40_method_10_code_0) rfl rfl k_) ?_
  obtain ⟨T1, X1, e1, st1⟩ := getF X0 hx hZ hown (host := "") (Or.inl (hw _ (List.mem_of_getElem? (i := 45) rfl))) Via.refl e0 P0 (g := (mkF m 1 #[.val (.ref a)] [(.ref a)])) rfl rfl (hb hby d_prog_40_method_10_code_1)
  refine Go.by (T' := T1) (g' := (mkF m 4 #[.val (.ref a)] [(.ref nm)])) (fun t_ k_ => st1 _ k_) ?_
  refine Go.fin X1 (v := some (.ref nm)) (fun h => by rw [Bd.returns] at h; cases h) hlk (by decide) (by decide) ?_ (fun fs hr => retR X1 hx (w := (.ref nm)) Bd.returns rfl rfl rfl (hb hby d_prog_40_method_10_code_4) hr)
  show Q_g_name Z a nm h0 n0 _ T1.heap _
  rw [e1]
  exact ⟨rfl, N0, rfl⟩
def Q_g_alias (Z : State) (a : Addr) (al : Value) (h0 : Heap) (n0 : Nat) (v : Option Value) (h : Heap) (L : List Loc) : Prop := v = some al ∧ Fr n0 L ∧ h = h0
theorem ef_g_alias (m : MethodId) (a : Addr) : entryFrame m #[(.ref a)] 1 = mkF m 0 #[.val (.ref a)] [] := by first | (simp [entryFrame, mkF, argsToLocals, Value.category]; done) | rfl
theorem d_prog_40_method_11_code_0 : decode prog_40_method_11_code 0 = .ok (.aload_n 0, 1) := by decide +kernel
theorem d_prog_40_method_11_code_1 : decode prog_40_method_11_code 1 = .ok (.getfield 13, 3) := by decide +kernel
theorem d_prog_40_method_11_code_4 : decode prog_40_method_11_code 4 = .ok (.areturn, 1) := by decide +kernel
set_option maxRecDepth 65536 in
set_option maxHeartbeats 40000000 in
theorem rm_g_alias (l : Launch) (Z : State) (a0 : Array Value) (hw : ∀ d ∈ tables_1, d.before a0 Z = true) (ws : List Jvm.Cond) (a : Addr) (al : Value) (h0 : Heap) (n0 : Nat) (X00 : Old Z n0 h0) (P0 : Fld Z h0 a "com/example/fellwise/fellwise/Syntax$Option" "alias" "Ljava/lang/String;" al) (hal : al.isRef = true) :
    MetFree l (⟨"com/example/fellwise/fellwise/Syntax$Option", "alias", "()Ljava/lang/String;"⟩ : MethodName) (head1 (Jvm.Cond.code (⟨"com/example/fellwise/fellwise/Syntax$Option", "alias", "()Ljava/lang/String;"⟩ : MethodName) prog_40_method_11_code 1 (some (.object "java/lang/String")) :: ws) ({ frames := 0, cells := 0, slots := 0, locals := 0 } : Room)) (fun aa_ U => aa_ = #[(.ref a)] ∧ Z.Warmed39 U.vm ∧ U.heap = h0) (fun _ _ _ _ _ => True) (fun _ U o U' => ∃ v L, o = .returned v ∧ Q_g_alias Z a al h0 n0 v U'.heap L ∧ FrameEnd U o U' L ({ frames := 0, cells := 0, slots := 0, locals := 0 } : Room).cells ({ frames := 0, cells := 0, slots := 0, locals := 0 } : Room).slots) := by
  refine MetFree.of_bodySF (plainFor_of_name pn_3) hisR ?_
  intro p e s m args below meth c s₁ Bd hml0 hP hK
  obtain ⟨rfl, hZ, hh⟩ := hP
  have hx := Bd.exec
  have hby := Bd.bytes
  have hml : c.maxLocals = 1 := hml0
  have hown : s.vm.findClass "com/example/fellwise/fellwise/Syntax$Option" = some m.cls := findClass_of_methodNamed Bd.named
  have hnm := (name_of_methodNamed Bd.named Bd.method).1
  have hlk : meth.locks = false := BodyLoose.notSynchronized Bd
  have X0 : Stand p l e ({ frames := 0, cells := 0, slots := 0, locals := 0 } : Room) s m #[(.ref a)] below meth c s₁ [] 0 0 := Stand.of_body Bd
  have e0 : s₁.heap = h0 := by rw [← hh, Bd.state]; rfl
  have N0 := Fr.nil n0
  suffices G : Go p e below s (Q_g_alias Z a al h0 n0) 0 0 s₁ (mkF m 0 #[.val (.ref a)] []) by
    obtain ⟨s2, o, h1, h2⟩ := G
    exact ⟨s2, o, castTop (ef_g_alias m a) h1, h2⟩
  refine Go.by (T' := s₁) (g' := (mkF m 1 #[.val (.ref a)] [(.ref a)])) (fun t_ k_ => XS.aloadN X0.here hx rfl (hb hby d_prog_40_method_11_code_0) rfl rfl k_) ?_
  obtain ⟨T1, X1, e1, st1⟩ := getF X0 hx hZ hown (host := "") (Or.inl (hw _ (List.mem_of_getElem? (i := 47) rfl))) Via.refl e0 P0 (g := (mkF m 1 #[.val (.ref a)] [(.ref a)])) rfl rfl (hb hby d_prog_40_method_11_code_1)
  refine Go.by (T' := T1) (g' := (mkF m 4 #[.val (.ref a)] [al])) (fun t_ k_ => st1 _ k_) ?_
  refine Go.fin X1 (v := some al) (fun h => by rw [Bd.returns] at h; cases h) hlk (by decide) (by decide) ?_ (fun fs hr => retR X1 hx (w := al) Bd.returns (own_nar hal rfl) rfl hal (hb hby d_prog_40_method_11_code_4) hr)
  show Q_g_alias Z a al h0 n0 _ T1.heap _
  rw [e1]
  exact ⟨rfl, N0, rfl⟩
def Q_g_label (Z : State) (a : Addr) (h0 : Heap) (n0 : Nat) (v : Option Value) (h : Heap) (L : List Loc) : Prop := v = some .null ∧ Fr n0 L ∧ h = h0
theorem ef_g_label (m : MethodId) (a : Addr) : entryFrame m #[(.ref a)] 1 = mkF m 0 #[.val (.ref a)] [] := by first | (simp [entryFrame, mkF, argsToLocals, Value.category]; done) | rfl
theorem d_prog_40_method_12_code_0 : decode prog_40_method_12_code 0 = .ok (.aload_n 0, 1) := by decide +kernel
theorem d_prog_40_method_12_code_1 : decode prog_40_method_12_code 1 = .ok (.getfield 16, 3) := by decide +kernel
theorem d_prog_40_method_12_code_4 : decode prog_40_method_12_code 4 = .ok (.areturn, 1) := by decide +kernel
set_option maxRecDepth 65536 in
set_option maxHeartbeats 40000000 in
theorem rm_g_label (l : Launch) (Z : State) (a0 : Array Value) (hw : ∀ d ∈ tables_1, d.before a0 Z = true) (ws : List Jvm.Cond) (a : Addr) (h0 : Heap) (n0 : Nat) (X00 : Old Z n0 h0) (P0 : Fld Z h0 a "com/example/fellwise/fellwise/Syntax$Option" "label" "Ljava/lang/String;" .null) :
    MetFree l (⟨"com/example/fellwise/fellwise/Syntax$Option", "label", "()Ljava/lang/String;"⟩ : MethodName) (head1 (Jvm.Cond.code (⟨"com/example/fellwise/fellwise/Syntax$Option", "label", "()Ljava/lang/String;"⟩ : MethodName) prog_40_method_12_code 1 (some (.object "java/lang/String")) :: ws) ({ frames := 0, cells := 0, slots := 0, locals := 0 } : Room)) (fun aa_ U => aa_ = #[(.ref a)] ∧ Z.Warmed39 U.vm ∧ U.heap = h0) (fun _ _ _ _ _ => True) (fun _ U o U' => ∃ v L, o = .returned v ∧ Q_g_label Z a h0 n0 v U'.heap L ∧ FrameEnd U o U' L ({ frames := 0, cells := 0, slots := 0, locals := 0 } : Room).cells ({ frames := 0, cells := 0, slots := 0, locals := 0 } : Room).slots) := by
  refine MetFree.of_bodySF (plainFor_of_name pn_3) hisR ?_
  intro p e s m args below meth c s₁ Bd hml0 hP hK
  obtain ⟨rfl, hZ, hh⟩ := hP
  have hx := Bd.exec
  have hby := Bd.bytes
  have hml : c.maxLocals = 1 := hml0
  have hown : s.vm.findClass "com/example/fellwise/fellwise/Syntax$Option" = some m.cls := findClass_of_methodNamed Bd.named
  have hnm := (name_of_methodNamed Bd.named Bd.method).1
  have hlk : meth.locks = false := BodyLoose.notSynchronized Bd
  have X0 : Stand p l e ({ frames := 0, cells := 0, slots := 0, locals := 0 } : Room) s m #[(.ref a)] below meth c s₁ [] 0 0 := Stand.of_body Bd
  have e0 : s₁.heap = h0 := by rw [← hh, Bd.state]; rfl
  have N0 := Fr.nil n0
  suffices G : Go p e below s (Q_g_label Z a h0 n0) 0 0 s₁ (mkF m 0 #[.val (.ref a)] []) by
    obtain ⟨s2, o, h1, h2⟩ := G
    exact ⟨s2, o, castTop (ef_g_label m a) h1, h2⟩
  refine Go.by (T' := s₁) (g' := (mkF m 1 #[.val (.ref a)] [(.ref a)])) (fun t_ k_ => XS.aloadN X0.here hx rfl (hb hby d_prog_40_method_12_code_0) rfl rfl k_) ?_
  obtain ⟨T1, X1, e1, st1⟩ := getF X0 hx hZ hown (host := "") (Or.inl (hw _ (List.mem_of_getElem? (i := 49) rfl))) Via.refl e0 P0 (g := (mkF m 1 #[.val (.ref a)] [(.ref a)])) rfl rfl (hb hby d_prog_40_method_12_code_1)
  refine Go.by (T' := T1) (g' := (mkF m 4 #[.val (.ref a)] [.null])) (fun t_ k_ => st1 _ k_) ?_
  refine Go.fin X1 (v := some .null) (fun h => by rw [Bd.returns] at h; cases h) hlk (by decide) (by decide) ?_ (fun fs hr => retR X1 hx (w := .null) Bd.returns rfl rfl rfl (hb hby d_prog_40_method_12_code_4) hr)
  show Q_g_label Z a h0 n0 _ T1.heap _
  rw [e1]
  exact ⟨rfl, N0, rfl⟩
def Q_g_required (Z : State) (a : Addr) (h0 : Heap) (n0 : Nat) (v : Option Value) (h : Heap) (L : List Loc) : Prop := v = some (.int (0 : Int32)) ∧ Fr n0 L ∧ h = h0
theorem ef_g_required (m : MethodId) (a : Addr) : entryFrame m #[(.ref a)] 1 = mkF m 0 #[.val (.ref a)] [] := by first | (simp [entryFrame, mkF, argsToLocals, Value.category]; done) | rfl
theorem d_prog_40_method_13_code_0 : decode prog_40_method_13_code 0 = .ok (.aload_n 0, 1) := by decide +kernel
theorem d_prog_40_method_13_code_1 : decode prog_40_method_13_code 1 = .ok (.getfield 19, 3) := by decide +kernel
theorem d_prog_40_method_13_code_4 : decode prog_40_method_13_code 4 = .ok (.ireturn, 1) := by decide +kernel
set_option maxRecDepth 65536 in
set_option maxHeartbeats 40000000 in
theorem rm_g_required (l : Launch) (Z : State) (a0 : Array Value) (hw : ∀ d ∈ tables_1, d.before a0 Z = true) (ws : List Jvm.Cond) (a : Addr) (h0 : Heap) (n0 : Nat) (X00 : Old Z n0 h0) (P0 : Fld Z h0 a "com/example/fellwise/fellwise/Syntax$Option" "required" "Z" (.int (0 : Int32))) :
    MetFree l (⟨"com/example/fellwise/fellwise/Syntax$Option", "required", "()Z"⟩ : MethodName) (head1 (Jvm.Cond.code (⟨"com/example/fellwise/fellwise/Syntax$Option", "required", "()Z"⟩ : MethodName) prog_40_method_13_code 1 (some .boolean) :: ws) ({ frames := 0, cells := 0, slots := 0, locals := 0 } : Room)) (fun aa_ U => aa_ = #[(.ref a)] ∧ Z.Warmed39 U.vm ∧ U.heap = h0) (fun _ _ _ _ _ => True) (fun _ U o U' => ∃ v L, o = .returned v ∧ Q_g_required Z a h0 n0 v U'.heap L ∧ FrameEnd U o U' L ({ frames := 0, cells := 0, slots := 0, locals := 0 } : Room).cells ({ frames := 0, cells := 0, slots := 0, locals := 0 } : Room).slots) := by
  refine MetFree.of_bodySF (plainFor_of_name pn_3) hisR ?_
  intro p e s m args below meth c s₁ Bd hml0 hP hK
  obtain ⟨rfl, hZ, hh⟩ := hP
  have hx := Bd.exec
  have hby := Bd.bytes
  have hml : c.maxLocals = 1 := hml0
  have hown : s.vm.findClass "com/example/fellwise/fellwise/Syntax$Option" = some m.cls := findClass_of_methodNamed Bd.named
  have hnm := (name_of_methodNamed Bd.named Bd.method).1
  have hlk : meth.locks = false := BodyLoose.notSynchronized Bd
  have X0 : Stand p l e ({ frames := 0, cells := 0, slots := 0, locals := 0 } : Room) s m #[(.ref a)] below meth c s₁ [] 0 0 := Stand.of_body Bd
  have e0 : s₁.heap = h0 := by rw [← hh, Bd.state]; rfl
  have N0 := Fr.nil n0
  suffices G : Go p e below s (Q_g_required Z a h0 n0) 0 0 s₁ (mkF m 0 #[.val (.ref a)] []) by
    obtain ⟨s2, o, h1, h2⟩ := G
    exact ⟨s2, o, castTop (ef_g_required m a) h1, h2⟩
  refine Go.by (T' := s₁) (g' := (mkF m 1 #[.val (.ref a)] [(.ref a)])) (fun t_ k_ => XS.aloadN X0.here hx rfl (hb hby d_prog_40_method_13_code_0) rfl rfl k_) ?_
  obtain ⟨T1, X1, e1, st1⟩ := getF X0 hx hZ hown (host := "") (Or.inl (hw _ (List.mem_of_getElem? (i := 51) rfl))) Via.refl e0 P0 (g := (mkF m 1 #[.val (.ref a)] [(.ref a)])) rfl rfl (hb hby d_prog_40_method_13_code_1)
  refine Go.by (T' := T1) (g' := (mkF m 4 #[.val (.ref a)] [(.int (0 : Int32))])) (fun t_ k_ => st1 _ k_) ?_
  refine Go.fin X1 (v := some (.int (nar .boolean (0 : Int32)))) (fun h => by rw [Bd.returns] at h; cases h) hlk (by decide) (by decide) ?_ (fun fs hr => retN X1 hx (t := .boolean) Bd.returns (by simp) (hb hby d_prog_40_method_13_code_4) hr)
  show Q_g_required Z a h0 n0 _ T1.heap _
  rw [e1]
  exact ⟨rfl, N0, rfl⟩
def Q_g_defaultValue (Z : State) (a : Addr) (h0 : Heap) (n0 : Nat) (v : Option Value) (h : Heap) (L : List Loc) : Prop := v = some .null ∧ Fr n0 L ∧ h = h0
theorem ef_g_defaultValue (m : MethodId) (a : Addr) : entryFrame m #[(.ref a)] 1 = mkF m 0 #[.val (.ref a)] [] := by first | (simp [entryFrame, mkF, argsToLocals, Value.category]; done) | rfl
theorem d_prog_40_method_14_code_0 : decode prog_40_method_14_code 0 = .ok (.aload_n 0, 1) := by decide +kernel
theorem d_prog_40_method_14_code_1 : decode prog_40_method_14_code 1 = .ok (.getfield 23, 3) := by decide +kernel
theorem d_prog_40_method_14_code_4 : decode prog_40_method_14_code 4 = .ok (.areturn, 1) := by decide +kernel
set_option maxRecDepth 65536 in
set_option maxHeartbeats 40000000 in
theorem rm_g_defaultValue (l : Launch) (Z : State) (a0 : Array Value) (hw : ∀ d ∈ tables_1, d.before a0 Z = true) (ws : List Jvm.Cond) (a : Addr) (h0 : Heap) (n0 : Nat) (X00 : Old Z n0 h0) (P0 : Fld Z h0 a "com/example/fellwise/fellwise/Syntax$Option" "defaultValue" "Ljava/lang/String;" .null) :
    MetFree l (⟨"com/example/fellwise/fellwise/Syntax$Option", "defaultValue", "()Ljava/lang/String;"⟩ : MethodName) (head1 (Jvm.Cond.code (⟨"com/example/fellwise/fellwise/Syntax$Option", "defaultValue", "()Ljava/lang/String;"⟩ : MethodName) prog_40_method_14_code 1 (some (.object "java/lang/String")) :: ws) ({ frames := 0, cells := 0, slots := 0, locals := 0 } : Room)) (fun aa_ U => aa_ = #[(.ref a)] ∧ Z.Warmed39 U.vm ∧ U.heap = h0) (fun _ _ _ _ _ => True) (fun _ U o U' => ∃ v L, o = .returned v ∧ Q_g_defaultValue Z a h0 n0 v U'.heap L ∧ FrameEnd U o U' L ({ frames := 0, cells := 0, slots := 0, locals := 0 } : Room).cells ({ frames := 0, cells := 0, slots := 0, locals := 0 } : Room).slots) := by
  refine MetFree.of_bodySF (plainFor_of_name pn_3) hisR ?_
  intro p e s m args below meth c s₁ Bd hml0 hP hK
  obtain ⟨rfl, hZ, hh⟩ := hP
  have hx := Bd.exec
  have hby := Bd.bytes
  have hml : c.maxLocals = 1 := hml0
  have hown : s.vm.findClass "com/example/fellwise/fellwise/Syntax$Option" = some m.cls := findClass_of_methodNamed Bd.named
  have hnm := (name_of_methodNamed Bd.named Bd.method).1
  have hlk : meth.locks = false := BodyLoose.notSynchronized Bd
  have X0 : Stand p l e ({ frames := 0, cells := 0, slots := 0, locals := 0 } : Room) s m #[(.ref a)] below meth c s₁ [] 0 0 := Stand.of_body Bd
  have e0 : s₁.heap = h0 := by rw [← hh, Bd.state]; rfl
  have N0 := Fr.nil n0
  suffices G : Go p e below s (Q_g_defaultValue Z a h0 n0) 0 0 s₁ (mkF m 0 #[.val (.ref a)] []) by
    obtain ⟨s2, o, h1, h2⟩ := G
    exact ⟨s2, o, castTop (ef_g_defaultValue m a) h1, h2⟩
  refine Go.by (T' := s₁) (g' := (mkF m 1 #[.val (.ref a)] [(.ref a)])) (fun t_ k_ => XS.aloadN X0.here hx rfl (hb hby d_prog_40_method_14_code_0) rfl rfl k_) ?_
  obtain ⟨T1, X1, e1, st1⟩ := getF X0 hx hZ hown (host := "") (Or.inl (hw _ (List.mem_of_getElem? (i := 53) rfl))) Via.refl e0 P0 (g := (mkF m 1 #[.val (.ref a)] [(.ref a)])) rfl rfl (hb hby d_prog_40_method_14_code_1)
  refine Go.by (T' := T1) (g' := (mkF m 4 #[.val (.ref a)] [.null])) (fun t_ k_ => st1 _ k_) ?_
  refine Go.fin X1 (v := some .null) (fun h => by rw [Bd.returns] at h; cases h) hlk (by decide) (by decide) ?_ (fun fs hr => retR X1 hx (w := .null) Bd.returns rfl rfl rfl (hb hby d_prog_40_method_14_code_4) hr)
  show Q_g_defaultValue Z a h0 n0 _ T1.heap _
  rw [e1]
  exact ⟨rfl, N0, rfl⟩
def Q_g_description (Z : State) (a : Addr) (ds : Addr) (h0 : Heap) (n0 : Nat) (v : Option Value) (h : Heap) (L : List Loc) : Prop := v = some (.ref ds) ∧ Fr n0 L ∧ h = h0
theorem ef_g_description (m : MethodId) (a : Addr) : entryFrame m #[(.ref a)] 1 = mkF m 0 #[.val (.ref a)] [] := by first | (simp [entryFrame, mkF, argsToLocals, Value.category]; done) | rfl
theorem d_prog_40_method_15_code_0 : decode prog_40_method_15_code 0 = .ok (.aload_n 0, 1) := by decide +kernel
theorem d_prog_40_method_15_code_1 : decode prog_40_method_15_code 1 = .ok (.getfield 26, 3) := by decide +kernel
theorem d_prog_40_method_15_code_4 : decode prog_40_method_15_code 4 = .ok (.areturn, 1) := by decide +kernel
set_option maxRecDepth 65536 in
set_option maxHeartbeats 40000000 in
theorem rm_g_description (l : Launch) (Z : State) (a0 : Array Value) (hw : ∀ d ∈ tables_1, d.before a0 Z = true) (ws : List Jvm.Cond) (a : Addr) (ds : Addr) (h0 : Heap) (n0 : Nat) (X00 : Old Z n0 h0) (P0 : Fld Z h0 a "com/example/fellwise/fellwise/Syntax$Option" "description" "Ljava/lang/String;" (.ref ds)) :
    MetFree l (⟨"com/example/fellwise/fellwise/Syntax$Option", "description", "()Ljava/lang/String;"⟩ : MethodName) (head1 (Jvm.Cond.code (⟨"com/example/fellwise/fellwise/Syntax$Option", "description", "()Ljava/lang/String;"⟩ : MethodName) prog_40_method_15_code 1 (some (.object "java/lang/String")) :: ws) ({ frames := 0, cells := 0, slots := 0, locals := 0 } : Room)) (fun aa_ U => aa_ = #[(.ref a)] ∧ Z.Warmed39 U.vm ∧ U.heap = h0) (fun _ _ _ _ _ => True) (fun _ U o U' => ∃ v L, o = .returned v ∧ Q_g_description Z a ds h0 n0 v U'.heap L ∧ FrameEnd U o U' L ({ frames := 0, cells := 0, slots := 0, locals := 0 } : Room).cells ({ frames := 0, cells := 0, slots := 0, locals := 0 } : Room).slots) := by
  refine MetFree.of_bodySF (plainFor_of_name pn_3) hisR ?_
  intro p e s m args below meth c s₁ Bd hml0 hP hK
  obtain ⟨rfl, hZ, hh⟩ := hP
  have hx := Bd.exec
  have hby := Bd.bytes
  have hml : c.maxLocals = 1 := hml0
  have hown : s.vm.findClass "com/example/fellwise/fellwise/Syntax$Option" = some m.cls := findClass_of_methodNamed Bd.named
  have hnm := (name_of_methodNamed Bd.named Bd.method).1
  have hlk : meth.locks = false := BodyLoose.notSynchronized Bd
  have X0 : Stand p l e ({ frames := 0, cells := 0, slots := 0, locals := 0 } : Room) s m #[(.ref a)] below meth c s₁ [] 0 0 := Stand.of_body Bd
  have e0 : s₁.heap = h0 := by rw [← hh, Bd.state]; rfl
  have N0 := Fr.nil n0
  suffices G : Go p e below s (Q_g_description Z a ds h0 n0) 0 0 s₁ (mkF m 0 #[.val (.ref a)] []) by
    obtain ⟨s2, o, h1, h2⟩ := G
    exact ⟨s2, o, castTop (ef_g_description m a) h1, h2⟩
  refine Go.by (T' := s₁) (g' := (mkF m 1 #[.val (.ref a)] [(.ref a)])) (fun t_ k_ => XS.aloadN X0.here hx rfl (hb hby d_prog_40_method_15_code_0) rfl rfl k_) ?_
  obtain ⟨T1, X1, e1, st1⟩ := getF X0 hx hZ hown (host := "") (Or.inl (hw _ (List.mem_of_getElem? (i := 55) rfl))) Via.refl e0 P0 (g := (mkF m 1 #[.val (.ref a)] [(.ref a)])) rfl rfl (hb hby d_prog_40_method_15_code_1)
  refine Go.by (T' := T1) (g' := (mkF m 4 #[.val (.ref a)] [(.ref ds)])) (fun t_ k_ => st1 _ k_) ?_
  refine Go.fin X1 (v := some (.ref ds)) (fun h => by rw [Bd.returns] at h; cases h) hlk (by decide) (by decide) ?_ (fun fs hr => retR X1 hx (w := (.ref ds)) Bd.returns rfl rfl rfl (hb hby d_prog_40_method_15_code_4) hr)
  show Q_g_description Z a ds h0 n0 _ T1.heap _
  rw [e1]
  exact ⟨rfl, N0, rfl⟩
def Q_takes (Z : State) (a : Addr) (h0 : Heap) (n0 : Nat) (v : Option Value) (h : Heap) (L : List Loc) : Prop := v = some (.int 0) ∧ Fr n0 L ∧ h = h0
theorem ef_takes (m : MethodId) (a : Addr) : entryFrame m #[(.ref a)] 1 = mkF m 0 #[.val (.ref a)] [] := by first | (simp [entryFrame, mkF, argsToLocals, Value.category]; done) | rfl
theorem d_prog_40_method_5_code_0 : decode prog_40_method_5_code 0 = .ok (.aload_n 0, 1) := by decide +kernel
theorem d_prog_40_method_5_code_1 : decode prog_40_method_5_code 1 = .ok (.getfield 16, 3) := by decide +kernel
theorem d_prog_40_method_5_code_4 : decode prog_40_method_5_code 4 = .ok (.ifnull 7, 3) := by decide +kernel
theorem d_prog_40_method_5_code_11 : decode prog_40_method_5_code 11 = .ok (.iconst 0, 1) := by decide +kernel
theorem d_prog_40_method_5_code_12 : decode prog_40_method_5_code 12 = .ok (.ireturn, 1) := by decide +kernel
set_option maxRecDepth 65536 in
set_option maxHeartbeats 40000000 in
theorem rm_takes (l : Launch) (Z : State) (a0 : Array Value) (hw : ∀ d ∈ tables_1, d.before a0 Z = true) (ws : List Jvm.Cond) (a : Addr) (h0 : Heap) (n0 : Nat) (X00 : Old Z n0 h0) (P0 : Fld Z h0 a "com/example/fellwise/fellwise/Syntax$Option" "label" "Ljava/lang/String;" .null) :
    MetFree l (⟨"com/example/fellwise/fellwise/Syntax$Option", "takesValue", "()Z"⟩ : MethodName) (head1 (Jvm.Cond.code (⟨"com/example/fellwise/fellwise/Syntax$Option", "takesValue", "()Z"⟩ : MethodName) prog_40_method_5_code 1 (some .boolean) :: ws) ({ frames := 0, cells := 0, slots := 0, locals := 0 } : Room)) (fun aa_ U => aa_ = #[(.ref a)] ∧ Z.Warmed39 U.vm ∧ U.heap = h0) (fun _ _ _ _ _ => True) (fun _ U o U' => ∃ v L, o = .returned v ∧ Q_takes Z a h0 n0 v U'.heap L ∧ FrameEnd U o U' L ({ frames := 0, cells := 0, slots := 0, locals := 0 } : Room).cells ({ frames := 0, cells := 0, slots := 0, locals := 0 } : Room).slots) := by
  refine MetFree.of_bodySF (plainFor_of_name pn_3) hisR ?_
  intro p e s m args below meth c s₁ Bd hml0 hP hK
  obtain ⟨rfl, hZ, hh⟩ := hP
  have hx := Bd.exec
  have hby := Bd.bytes
  have hml : c.maxLocals = 1 := hml0
  have hown : s.vm.findClass "com/example/fellwise/fellwise/Syntax$Option" = some m.cls := findClass_of_methodNamed Bd.named
  have hnm := (name_of_methodNamed Bd.named Bd.method).1
  have hlk : meth.locks = false := BodyLoose.notSynchronized Bd
  have X0 : Stand p l e ({ frames := 0, cells := 0, slots := 0, locals := 0 } : Room) s m #[(.ref a)] below meth c s₁ [] 0 0 := Stand.of_body Bd
  have e0 : s₁.heap = h0 := by rw [← hh, Bd.state]; rfl
  have N0 := Fr.nil n0
  suffices G : Go p e below s (Q_takes Z a h0 n0) 0 0 s₁ (mkF m 0 #[.val (.ref a)] []) by
    obtain ⟨s2, o, h1, h2⟩ := G
    exact ⟨s2, o, castTop (ef_takes m a) h1, h2⟩
  refine Go.by (T' := s₁) (g' := (mkF m 1 #[.val (.ref a)] [(.ref a)])) (fun t_ k_ => XS.aloadN X0.here hx rfl (hb hby d_prog_40_method_5_code_0) rfl rfl k_) ?_
  obtain ⟨T1, X1, e1, st1⟩ := getF X0 hx hZ hown (host := "") (Or.inl (hw _ (List.mem_of_getElem? (i := 49) rfl))) Via.refl e0 P0 (g := (mkF m 1 #[.val (.ref a)] [(.ref a)])) rfl rfl (hb hby d_prog_40_method_5_code_1)
  refine Go.by (T' := T1) (g' := (mkF m 4 #[.val (.ref a)] [.null])) (fun t_ k_ => st1 _ k_) ?_
  refine Go.by (T' := T1) (g' := (mkF m 11 #[.val (.ref a)] [])) (fun t_ k_ => XS.ifnullYes X1.here hx rfl (pc0 := 4) (pc' := 11) rfl (hb hby d_prog_40_method_5_code_4) rfl (by decide) (by decide) k_) ?_
  refine Go.by (T' := T1) (g' := (mkF m 12 #[.val (.ref a)] [(.int (0 : Int32))])) (fun t_ k_ => XS.iconst X1.here hx rfl (hb hby d_prog_40_method_5_code_11) k_) ?_
  refine Go.fin X1 (v := some (.int (nar .boolean (0 : Int32)))) (fun h => by rw [Bd.returns] at h; cases h) hlk (by decide) (by decide) ?_ (fun fs hr => retN X1 hx (t := .boolean) Bd.returns (by simp) (hb hby d_prog_40_method_5_code_12) hr)
  show Q_takes Z a h0 n0 _ T1.heap _
  rw [e1]
  exact ⟨rfl, N0, rfl⟩
def Q_usage (Z : State) (a : Addr) (nm : Addr) (h0 : Heap) (n0 : Nat) (v : Option Value) (h : Heap) (L : List Loc) : Prop := v = some (.ref nm) ∧ Fr n0 L ∧ h = h0
theorem ef_usage (m : MethodId) (a : Addr) : entryFrame m #[(.ref a)] 1 = mkF m 0 #[.val (.ref a)] [] := by first | (simp [entryFrame, mkF, argsToLocals, Value.category]; done) | rfl
theorem d_prog_40_method_6_code_0 : decode prog_40_method_6_code 0 = .ok (.aload_n 0, 1) := by decide +kernel
theorem d_prog_40_method_6_code_1 : decode prog_40_method_6_code 1 = .ok (.invokevirtual 32, 3) := by decide +kernel
theorem pd_5 : parseMethodDescriptor "()Z" = some ⟨[], some .boolean⟩ := by decide +kernel
theorem d_prog_40_method_6_code_4 : decode prog_40_method_6_code 4 = .ok (.ifCond .eq 19, 3) := by decide +kernel
theorem d_prog_40_method_6_code_23 : decode prog_40_method_6_code 23 = .ok (.aload_n 0, 1) := by decide +kernel
theorem d_prog_40_method_6_code_24 : decode prog_40_method_6_code 24 = .ok (.getfield 7, 3) := by decide +kernel
theorem d_prog_40_method_6_code_27 : decode prog_40_method_6_code 27 = .ok (.areturn, 1) := by decide +kernel
set_option maxRecDepth 65536 in
set_option maxHeartbeats 40000000 in
theorem rm_usage (l : Launch) (Z : State) (a0 : Array Value) (hw : ∀ d ∈ tables_1, d.before a0 Z = true) (ws : List Jvm.Cond) (a : Addr) (nm : Addr) (h0 : Heap) (n0 : Nat) (X00 : Old Z n0 h0) (P0 : Exa Z h0 a "com/example/fellwise/fellwise/Syntax$Option") (P1 : Fld Z h0 a "com/example/fellwise/fellwise/Syntax$Option" "label" "Ljava/lang/String;" .null) (P2 : Fld Z h0 a "com/example/fellwise/fellwise/Syntax$Option" "name" "Ljava/lang/String;" (.ref nm)) :
    MetFree l (⟨"com/example/fellwise/fellwise/Syntax$Option", "usage", "()Ljava/lang/String;"⟩ : MethodName) (head1 (Jvm.Cond.code (⟨"com/example/fellwise/fellwise/Syntax$Option", "usage", "()Ljava/lang/String;"⟩ : MethodName) prog_40_method_6_code 1 (some (.object "java/lang/String")) :: ws) ({ frames := 1, cells := 0, slots := 0, locals := 12 } : Room)) (fun aa_ U => aa_ = #[(.ref a)] ∧ Z.Warmed39 U.vm ∧ U.heap = h0) (fun _ _ _ _ _ => True) (fun _ U o U' => ∃ v L, o = .returned v ∧ Q_usage Z a nm h0 n0 v U'.heap L ∧ FrameEnd U o U' L ({ frames := 1, cells := 0, slots := 0, locals := 12 } : Room).cells ({ frames := 1, cells := 0, slots := 0, locals := 12 } : Room).slots) := by
  refine MetFree.of_bodySF (plainFor_of_name pn_3) hisR ?_
  intro p e s m args below meth c s₁ Bd hml0 hP hK
  obtain ⟨rfl, hZ, hh⟩ := hP
  have hx := Bd.exec
  have hby := Bd.bytes
  have hml : c.maxLocals = 1 := hml0
  have hown : s.vm.findClass "com/example/fellwise/fellwise/Syntax$Option" = some m.cls := findClass_of_methodNamed Bd.named
  have hnm := (name_of_methodNamed Bd.named Bd.method).1
  have hlk : meth.locks = false := BodyLoose.notSynchronized Bd
  have X0 : Stand p l e ({ frames := 1, cells := 0, slots := 0, locals := 12 } : Room) s m #[(.ref a)] below meth c s₁ [] 0 0 := Stand.of_body Bd
  have e0 : s₁.heap = h0 := by rw [← hh, Bd.state]; rfl
  have N0 := Fr.nil n0
  suffices G : Go p e below s (Q_usage Z a nm h0 n0) 0 0 s₁ (mkF m 0 #[.val (.ref a)] []) by
    obtain ⟨s2, o, h1, h2⟩ := G
    exact ⟨s2, o, castTop (ef_usage m a) h1, h2⟩
  refine Go.by (T' := s₁) (g' := (mkF m 1 #[.val (.ref a)] [(.ref a)])) (fun t_ k_ => XS.aloadN X0.here hx rfl (hb hby d_prog_40_method_6_code_0) rfl rfl k_) ?_
  obtain ⟨cq1, kq1, q1a, q1b, q1c⟩ := isOf hZ e0 P0
  obtain ⟨_, _, ⟨T1, L1, k1, n1⟩, -, X1, ⟨Lc1, hQ1, l1, y1, z1⟩, st1⟩ := X0.virtualBack hx (y := (⟨"com/example/fellwise/fellwise/Syntax$Option", "takesValue", "()Z"⟩ : MethodName)) (z := (⟨"com/example/fellwise/fellwise/Syntax$Option", "takesValue", "()Z"⟩ : MethodName)) hown (mvT hZ (hw _ (List.mem_of_getElem? (i := 97) rfl))) (mvT hZ (hw _ (List.mem_of_getElem? (i := 88) rfl))) (notFace_of_selects (args := #[]) (mvT hZ (hw _ (List.mem_of_getElem? (i := 90) rfl)))) (mvT hZ (hw _ (List.mem_of_getElem? (i := 90) rfl))) (mvT hZ (hw _ (List.mem_of_getElem? (i := 89) rfl))) (by decide) (backOf (W := 0) (rm_takes l Z a0 hw [] a h0 n0 X00 P1) hZ (hw _ (List.mem_of_getElem? (i := 91) rfl)) (hw _ (List.mem_of_getElem? (i := 32) rfl)) (by decide) (by decide)) q1a q1c (g := (mkF m 1 #[.val (.ref a)] [(.ref a)])) rfl (by rw [hml]; rfl) (Steps.refl _) (argsL := []) (rest := []) (lenOf pd_5 rfl) rfl (by show 2 * 0 + _ ≤ _; exact Nat.le_of_eq rfl) (hb hby d_prog_40_method_6_code_1) (fun _ _ => ⟨rfl, e0, (by decide : 0 + 0 ≤ _), (by decide : 0 + 0 ≤ _)⟩)
  dsimp only [Pt.U, Pt.locs, Pt.cells, Pt.slots] at X1 l1 y1 z1 st1 hQ1
  subst l1 y1 z1
  obtain ⟨rfl, N1q, e1⟩ := hQ1
  have N1 := Fr.app N0 N1q
  refine Go.by (T' := T1) (g' := (mkF m 4 #[.val (.ref a)] [(.int 0)])) (fun t_ k_ => st1.trans k_) ?_
  refine Go.by (T' := T1) (g' := (mkF m 23 #[.val (.ref a)] [])) (fun t_ k_ => XS.ifYes X1.here hx rfl (pc0 := 4) (pc' := 23) rfl (hb hby d_prog_40_method_6_code_4) rfl ((if0 _ _).trans (teq rfl).1) (by decide) (by decide) k_) ?_
  refine Go.by (T' := T1) (g' := (mkF m 24 #[.val (.ref a)] [(.ref a)])) (fun t_ k_ => XS.aloadN X1.here hx rfl (hb hby d_prog_40_method_6_code_23) rfl rfl k_) ?_
  obtain ⟨T2, X2, e2, st2⟩ := getF X1 hx hZ hown (host := "") (Or.inl (hw _ (List.mem_of_getElem? (i := 45) rfl))) Via.refl e1 P2 (g := (mkF m 24 #[.val (.ref a)] [(.ref a)])) rfl rfl (hb hby d_prog_40_method_6_code_24)
  refine Go.by (T' := T2) (g' := (mkF m 27 #[.val (.ref a)] [(.ref nm)])) (fun t_ k_ => st2 _ k_) ?_
  refine Go.fin X2 (v := some (.ref nm)) (fun h => by rw [Bd.returns] at h; cases h) hlk (by decide) (by decide) ?_ (fun fs hr => retR X2 hx (w := (.ref nm)) Bd.returns rfl rfl rfl (hb hby d_prog_40_method_6_code_27) hr)
  show Q_usage Z a nm h0 n0 _ T2.heap _
  rw [e2]
  exact ⟨rfl, N1, rfl⟩
def Q_eqs (Z : State) (a : Addr) (h0 : Heap) (n0 : Nat) (v : Option Value) (h : Heap) (L : List Loc) : Prop := v = some (.int 1) ∧ Fr n0 L ∧ h = h0
theorem ef_eqs (m : MethodId) (a : Addr) : entryFrame m #[(.ref a), (.ref a)] 3 = mkF m 0 #[.val (.ref a), .val (.ref a), .unset] [] := by first | (simp [entryFrame, mkF, argsToLocals, Value.category]; done) | rfl
theorem d_jdk_42_method_66_code_0 : decode jdk_42_method_66_code 0 = .ok (.aload_n 0, 1) := by decide +kernel
theorem d_jdk_42_method_66_code_1 : decode jdk_42_method_66_code 1 = .ok (.aload_n 1, 1) := by decide +kernel
theorem d_jdk_42_method_66_code_2 : decode jdk_42_method_66_code 2 = .ok (.if_acmp .ne 5, 3) := by decide +kernel
theorem d_jdk_42_method_66_code_5 : decode jdk_42_method_66_code 5 = .ok (.iconst 1, 1) := by decide +kernel
theorem d_jdk_42_method_66_code_6 : decode jdk_42_method_66_code 6 = .ok (.ireturn, 1) := by decide +kernel
set_option maxRecDepth 65536 in
set_option maxHeartbeats 40000000 in
theorem rm_eqs (l : Launch) (Z : State) (a0 : Array Value) (hw : ∀ d ∈ tables_1, d.before a0 Z = true) (ws : List Jvm.Cond) (a : Addr) (h0 : Heap) (n0 : Nat) (X00 : Old Z n0 h0)  :
    MetFree l (⟨"java/lang/String", "equals", "(Ljava/lang/Object;)Z"⟩ : MethodName) (head1 (Jvm.Cond.code (⟨"java/lang/String", "equals", "(Ljava/lang/Object;)Z"⟩ : MethodName) jdk_42_method_66_code 3 (some .boolean) :: ws) ({ frames := 0, cells := 0, slots := 0, locals := 0 } : Room)) (fun aa_ U => aa_ = #[(.ref a), (.ref a)] ∧ Z.Warmed39 U.vm ∧ U.heap = h0) (fun _ _ _ _ _ => True) (fun _ U o U' => ∃ v L, o = .returned v ∧ Q_eqs Z a h0 n0 v U'.heap L ∧ FrameEnd U o U' L ({ frames := 0, cells := 0, slots := 0, locals := 0 } : Room).cells ({ frames := 0, cells := 0, slots := 0, locals := 0 } : Room).slots) := by
  refine MetFree.of_bodySF (plainFor_of_name pn_2) hisR ?_
  intro p e s m args below meth c s₁ Bd hml0 hP hK
  obtain ⟨rfl, hZ, hh⟩ := hP
  have hx := Bd.exec
  have hby := Bd.bytes
  have hml : c.maxLocals = 3 := hml0
  have hown : s.vm.findClass "java/lang/String" = some m.cls := findClass_of_methodNamed Bd.named
  have hnm := (name_of_methodNamed Bd.named Bd.method).1
  have hlk : meth.locks = false := BodyLoose.notSynchronized Bd
  have X0 : Stand p l e ({ frames := 0, cells := 0, slots := 0, locals := 0 } : Room) s m #[(.ref a), (.ref a)] below meth c s₁ [] 0 0 := Stand.of_body Bd
  have e0 : s₁.heap = h0 := by rw [← hh, Bd.state]; rfl
  have N0 := Fr.nil n0
  suffices G : Go p e below s (Q_eqs Z a h0 n0) 0 0 s₁ (mkF m 0 #[.val (.ref a), .val (.ref a), .unset] []) by
    obtain ⟨s2, o, h1, h2⟩ := G
    exact ⟨s2, o, castTop (ef_eqs m a) h1, h2⟩
  refine Go.by (T' := s₁) (g' := (mkF m 1 #[.val (.ref a), .val (.ref a), .unset] [(.ref a)])) (fun t_ k_ => XS.aloadN X0.here hx rfl (hb hby d_jdk_42_method_66_code_0) rfl rfl k_) ?_
  refine Go.by (T' := s₁) (g' := (mkF m 2 #[.val (.ref a), .val (.ref a), .unset] [(.ref a), (.ref a)])) (fun t_ k_ => XS.aloadN X0.here hx rfl (hb hby d_jdk_42_method_66_code_1) rfl rfl k_) ?_
  refine Go.by (T' := s₁) (g' := (mkF m 5 #[.val (.ref a), .val (.ref a), .unset] [])) (fun t_ k_ => Jvm.RoadKit.acmp (g := (mkF m 2 #[.val (.ref a), .val (.ref a), .unset] [(.ref a), (.ref a)])) X0 hx rfl rfl rfl (pc0 := 2) (pc' := 5) (same := true) rfl (hb hby d_jdk_42_method_66_code_2) rfl (decide_eq_true rfl) (by decide) (by decide) k_) ?_
  refine Go.by (T' := s₁) (g' := (mkF m 6 #[.val (.ref a), .val (.ref a), .unset] [(.int (1 : Int32))])) (fun t_ k_ => XS.iconst X0.here hx rfl (hb hby d_jdk_42_method_66_code_5) k_) ?_
  refine Go.fin X0 (v := some (.int (nar .boolean (1 : Int32)))) (fun h => by rw [Bd.returns] at h; cases h) hlk (by decide) (by decide) ?_ (fun fs hr => retN X0 hx (t := .boolean) Bd.returns (by simp) (hb hby d_jdk_42_method_66_code_6) hr)
  show Q_eqs Z a h0 n0 _ s₁.heap _
  rw [e0]
  exact ⟨rfl, N0, rfl⟩
def Q_law (Z : State) (n : Int32) (a : Int32) (d : Int32) (fl : Int32) (G1 : Int32) (h0 : Heap) (n0 : Nat) (v : Option Value) (h : Heap) (L : List Loc) : Prop := v = some (.int 1) ∧ Fr n0 L
theorem pn_4 : plainName "com/example/fellwise/fellwise/OptionFlagPinLaw" = true := by first | (simp [plainName, overriddenIn]; done) | decide +kernel
theorem ef_law (m : MethodId) (n : Int32) (a : Int32) (d : Int32) (fl : Int32) : entryFrame m #[(.int n), (.int a), (.int d), (.int fl)] maxLocals = mkF m 0 #[.val (.int n), .val (.int a), .val (.int d), .val (.int fl), .unset, .unset, .unset, .unset, .unset, .unset] [] := by first | (simp [entryFrame, mkF, argsToLocals, Value.category, maxLocals]; done) | rfl
theorem pd_6 : parseMethodDescriptor "([C)V" = some ⟨[(.array .char)], none⟩ := by decide +kernel
theorem pd_7 : parseMethodDescriptor "(C)Ljava/lang/String;" = some ⟨[.char], some (.object "java/lang/String")⟩ := by decide +kernel
theorem pd_8 : parseMethodDescriptor "(Ljava/lang/String;Ljava/lang/String;Ljava/lang/String;)Lcom/example/fellwise/fellwise/Syntax$Option;" = some ⟨[(.object "java/lang/String"), (.object "java/lang/String"), (.object "java/lang/String")], some (.object "com/example/fellwise/fellwise/Syntax$Option")⟩ := by decide +kernel
theorem pd_9 : parseMethodDescriptor "()Ljava/lang/String;" = some ⟨[], some (.object "java/lang/String")⟩ := by decide +kernel
theorem pd_10 : parseMethodDescriptor "(Ljava/lang/Object;)Z" = some ⟨[(.object "java/lang/Object")], some .boolean⟩ := by decide +kernel
set_option maxRecDepth 65536 in
set_option maxHeartbeats 40000000 in
theorem rm_law (l : Launch) (Z : State) (a0 : Array Value) (hw : ∀ d ∈ tables_1, d.before a0 Z = true) (ws : List Jvm.Cond) (n : Int32) (a : Int32) (d : Int32) (fl : Int32) (G1 : Int32) (h0 : Heap) (n0 : Nat) (X00 : Old Z n0 h0) (P0 : Sta Z Z.heap "java/lang/String" "COMPACT_STRINGS" "Z" (.int G1)) (hCS : ¬ (G1 = (0 : Int32))) :
    MetFree l x (head1 (Jvm.Cond.code x code maxLocals ret :: ws) room_1) (fun aa_ U => aa_ = #[(.int n), (.int a), (.int d), (.int fl)] ∧ Z.Warmed39 U.vm ∧ U.heap = h0) (fun _ _ _ _ _ => True) (fun _ U o U' => ∃ v L, o = .returned v ∧ Q_law Z n a d fl G1 h0 n0 v U'.heap L ∧ FrameEnd U o U' L 32 128) := by
  refine MetFree.of_bodySF (plainFor_of_name pn_4) hisR ?_
  intro p e s m args below meth c s₁ Bd hml0 hP hK
  obtain ⟨rfl, hZ, hh⟩ := hP
  have hx := Bd.exec
  have hby := Bd.bytes
  have hml : c.maxLocals = 10 := hml0
  have hown : s.vm.findClass "com/example/fellwise/fellwise/OptionFlagPinLaw" = some m.cls := findClass_of_methodNamed Bd.named
  have hnm := (name_of_methodNamed Bd.named Bd.method).1
  have hlk : meth.locks = false := BodyLoose.notSynchronized Bd
  have X0 : Stand p l e room_1 s m #[(.int n), (.int a), (.int d), (.int fl)] below meth c s₁ [] 0 0 := Stand.of_body Bd
  have e0 : s₁.heap = h0 := by rw [← hh, Bd.state]; rfl
  have N0 := Fr.nil n0
  suffices G : Go p e below s (Q_law Z n a d fl G1 h0 n0) 32 128 s₁ (mkF m 0 #[.val (.int n), .val (.int a), .val (.int d), .val (.int fl), .unset, .unset, .unset, .unset, .unset, .unset] []) by
    obtain ⟨s2, o, h1, h2⟩ := G
    exact ⟨s2, o, castTop (ef_law m n a d fl) h1, h2⟩
  refine Go.by (T' := s₁) (g' := (mkF m 1 #[.val (.int n), .val (.int a), .val (.int d), .val (.int fl), .unset, .unset, .unset, .unset, .unset, .unset] [(.int (2 : Int32))])) (fun t_ k_ => XS.iconst X0.here hx rfl (hb hby at_0) k_) ?_
  obtain ⟨T1, h1, kc1, X1, e1, E1, A1, st1⟩ := newP X0 hx hZ (hw _ (List.mem_of_getElem? (i := 0) rfl)) e0 (g := (mkF m 1 #[.val (.int n), .val (.int a), .val (.int d), .val (.int fl), .unset, .unset, .unset, .unset, .unset, .unset] [(.int (2 : Int32))])) rfl (hb hby at_1) rfl (by decide) (cap := 2) (by decide) (by decide) (by decide) (by decide)
  obtain ⟨b1, g1⟩ : ∃ z, z = h0.size := ⟨_, rfl⟩
  rw [← g1] at A1 st1
  have ge_b1 : n0 ≤ b1 := Nat.le_trans X00.sz (Nat.le_of_eq g1.symm)
  have sz_b1 : h0.size ≤ b1 := Nat.le_trans (Keep.refl h0 []).1 (Nat.le_of_eq g1.symm)
  have V1 : Arv Z h1 b1 kc1 .char (2 : Int32) [(.int (0 : Int32)), (.int (0 : Int32))] (.int (0 : Int32)) := (Arv.new A1 (by decide)).pad (pad_rep [] (.int (0 : Int32)) 2)
  refine Go.by (T' := T1) (g' := (mkF m 3 #[.val (.int n), .val (.int a), .val (.int d), .val (.int fl), .unset, .unset, .unset, .unset, .unset, .unset] [(.ref b1)])) (fun t_ k_ => st1 _ k_) ?_
  refine Go.by (T' := T1) (g' := (mkF m 5 #[.val (.int n), .val (.int a), .val (.int d), .val (.int fl), .val (.ref b1), .unset, .unset, .unset, .unset, .unset] [])) (fun t_ k_ => XS.astore X1.here hx rfl (hb hby at_3) rfl rfl (l' := #[.val (.int n), .val (.int a), .val (.int d), .val (.int fl), .val (.ref b1), .unset, .unset, .unset, .unset, .unset]) rfl k_) ?_
  refine Go.by (T' := T1) (g' := (mkF m 7 #[.val (.int n), .val (.int a), .val (.int d), .val (.int fl), .val (.ref b1), .unset, .unset, .unset, .unset, .unset] [(.ref b1)])) (fun t_ k_ => XS.aload X1.here hx rfl (hb hby at_5) rfl rfl k_) ?_
  refine Go.by (T' := T1) (g' := (mkF m 8 #[.val (.int n), .val (.int a), .val (.int d), .val (.int fl), .val (.ref b1), .unset, .unset, .unset, .unset, .unset] [(.int (0 : Int32)), (.ref b1)])) (fun t_ k_ => XS.iconst X1.here hx rfl (hb hby at_7) k_) ?_
  refine Go.by (T' := T1) (g' := (mkF m 9 #[.val (.int n), .val (.int a), .val (.int d), .val (.int fl), .val (.ref b1), .unset, .unset, .unset, .unset, .unset] [(.int n), (.int (0 : Int32)), (.ref b1)])) (fun t_ k_ => XS.iloadN X1.here hx rfl (hb hby at_8) rfl k_) ?_
  refine Go.by (T' := T1) (g' := (mkF m 12 #[.val (.int n), .val (.int a), .val (.int d), .val (.int fl), .val (.ref b1), .unset, .unset, .unset, .unset, .unset] [(.int (255 : Int32)), (.int n), (.int (0 : Int32)), (.ref b1)])) (fun t_ k_ => XS.sipush X1.here hx rfl (hb hby at_9) k_) ?_
  refine Go.by (T' := T1) (g' := (mkF m 13 #[.val (.int n), .val (.int a), .val (.int d), .val (.int fl), .val (.ref b1), .unset, .unset, .unset, .unset, .unset] [(.int (n &&& (255 : Int32))), (.int (0 : Int32)), (.ref b1)])) (fun t_ k_ => XS.iand X1.here hx rfl (hb hby at_12) rfl k_) ?_
  refine Go.by (T' := T1) (g' := (mkF m 14 #[.val (.int n), .val (.int a), .val (.int d), .val (.int fl), .val (.ref b1), .unset, .unset, .unset, .unset, .unset] [(.int ((n &&& (255 : Int32)).toUInt32.toUInt16.toUInt32.toInt32)), (.int (0 : Int32)), (.ref b1)])) (fun t_ k_ => XS.i2c X1.here hx rfl (hb hby at_13) rfl k_) ?_
  have Od3 : Old Z n0 h1 := (X00.ext E1)
  have Kp4 : Keep h0 h1 [] := ((Keep.refl h0 []).ext E1)
  obtain ⟨cl2, Ar2, q2, Sz2, Ng2, Hs2, Gs2⟩ := id V1
  obtain ⟨T5, h5, X5, e5, W5, st5⟩ := stC X1 hx hZ e1 Ar2 (j := (0 : Int32)) (inb_of Sz2 ⟨by decide, by decide⟩) (g := (mkF m 14 #[.val (.int n), .val (.int a), .val (.int d), .val (.int fl), .val (.ref b1), .unset, .unset, .unset, .unset, .unset] [(.int ((n &&& (255 : Int32)).toUInt32.toUInt16.toUInt32.toInt32)), (.int (0 : Int32)), (.ref b1)])) rfl rfl (hb hby at_14)
  have V5 : Arv Z h5 b1 kc1 .char (2 : Int32) [(.int (nar .char ((n &&& (255 : Int32)).toUInt32.toUInt16.toUInt32.toInt32))), (.int (0 : Int32))] (.int (0 : Int32)) := Arv.set Ar2 q2 Sz2 Ng2 Hs2 Gs2 (fits_nar_char _) W5 0 rfl (Nat.le_of_ble_eq_true rfl)
  have N5 := Fr.snoc X5 N0 ge_b1
  refine Go.by (T' := T5) (g' := (mkF m 15 #[.val (.int n), .val (.int a), .val (.int d), .val (.int fl), .val (.ref b1), .unset, .unset, .unset, .unset, .unset] [])) (fun t_ k_ => st5 _ k_) ?_
  refine Go.by (T' := T5) (g' := (mkF m 17 #[.val (.int n), .val (.int a), .val (.int d), .val (.int fl), .val (.ref b1), .unset, .unset, .unset, .unset, .unset] [(.ref b1)])) (fun t_ k_ => XS.aload X5.here hx rfl (hb hby at_15) rfl rfl k_) ?_
  refine Go.by (T' := T5) (g' := (mkF m 18 #[.val (.int n), .val (.int a), .val (.int d), .val (.int fl), .val (.ref b1), .unset, .unset, .unset, .unset, .unset] [(.int (1 : Int32)), (.ref b1)])) (fun t_ k_ => XS.iconst X5.here hx rfl (hb hby at_17) k_) ?_
  refine Go.by (T' := T5) (g' := (mkF m 19 #[.val (.int n), .val (.int a), .val (.int d), .val (.int fl), .val (.ref b1), .unset, .unset, .unset, .unset, .unset] [(.int n), (.int (1 : Int32)), (.ref b1)])) (fun t_ k_ => XS.iloadN X5.here hx rfl (hb hby at_18) rfl k_) ?_
  refine Go.by (T' := T5) (g' := (mkF m 21 #[.val (.int n), .val (.int a), .val (.int d), .val (.int fl), .val (.ref b1), .unset, .unset, .unset, .unset, .unset] [(.int (8 : Int32)), (.int n), (.int (1 : Int32)), (.ref b1)])) (fun t_ k_ => XS.bipush X5.here hx rfl (hb hby at_19) k_) ?_
  refine Go.by (T' := T5) (g' := (mkF m 22 #[.val (.int n), .val (.int a), .val (.int d), .val (.int fl), .val (.ref b1), .unset, .unset, .unset, .unset, .unset] [(.int ((n.toUInt32 >>> ((8 : Int32) &&& 31).toUInt32).toInt32)), (.int (1 : Int32)), (.ref b1)])) (fun t_ k_ => XS.iushr X5.here hx rfl (hb hby at_21) rfl k_) ?_
  refine Go.by (T' := T5) (g' := (mkF m 25 #[.val (.int n), .val (.int a), .val (.int d), .val (.int fl), .val (.ref b1), .unset, .unset, .unset, .unset, .unset] [(.int (255 : Int32)), (.int ((n.toUInt32 >>> ((8 : Int32) &&& 31).toUInt32).toInt32)), (.int (1 : Int32)), (.ref b1)])) (fun t_ k_ => XS.sipush X5.here hx rfl (hb hby at_22) k_) ?_
  refine Go.by (T' := T5) (g' := (mkF m 26 #[.val (.int n), .val (.int a), .val (.int d), .val (.int fl), .val (.ref b1), .unset, .unset, .unset, .unset, .unset] [(.int (((n.toUInt32 >>> ((8 : Int32) &&& 31).toUInt32).toInt32) &&& (255 : Int32))), (.int (1 : Int32)), (.ref b1)])) (fun t_ k_ => XS.iand X5.here hx rfl (hb hby at_25) rfl k_) ?_
  refine Go.by (T' := T5) (g' := (mkF m 27 #[.val (.int n), .val (.int a), .val (.int d), .val (.int fl), .val (.ref b1), .unset, .unset, .unset, .unset, .unset] [(.int ((((n.toUInt32 >>> ((8 : Int32) &&& 31).toUInt32).toInt32) &&& (255 : Int32)).toUInt32.toUInt16.toUInt32.toInt32)), (.int (1 : Int32)), (.ref b1)])) (fun t_ k_ => XS.i2c X5.here hx rfl (hb hby at_26) rfl k_) ?_
  have Od7 : Old Z n0 h5 := (Od3.wr W5 ge_b1)
  have Kp8 : Keep h0 h5 [] := (Kp4.wr W5 (Or.inr sz_b1))
  obtain ⟨cl6, Ar6, q6, Sz6, Ng6, Hs6, Gs6⟩ := id V5
  obtain ⟨T9, h9, X9, e9, W9, st9⟩ := stC X5 hx hZ e5 Ar6 (j := (1 : Int32)) (inb_of Sz6 ⟨by decide, by decide⟩) (g := (mkF m 27 #[.val (.int n), .val (.int a), .val (.int d), .val (.int fl), .val (.ref b1), .unset, .unset, .unset, .unset, .unset] [(.int ((((n.toUInt32 >>> ((8 : Int32) &&& 31).toUInt32).toInt32) &&& (255 : Int32)).toUInt32.toUInt16.toUInt32.toInt32)), (.int (1 : Int32)), (.ref b1)])) rfl rfl (hb hby at_27)
  have V9 : Arv Z h9 b1 kc1 .char (2 : Int32) [(.int (nar .char ((n &&& (255 : Int32)).toUInt32.toUInt16.toUInt32.toInt32))), (.int (nar .char ((((n.toUInt32 >>> ((8 : Int32) &&& 31).toUInt32).toInt32) &&& (255 : Int32)).toUInt32.toUInt16.toUInt32.toInt32)))] (.int (0 : Int32)) := Arv.set Ar6 q6 Sz6 Ng6 Hs6 Gs6 (fits_nar_char _) W9 1 rfl (Nat.le_of_ble_eq_true rfl)
  have N9 := Fr.snoc X9 N5 ge_b1
  refine Go.by (T' := T9) (g' := (mkF m 28 #[.val (.int n), .val (.int a), .val (.int d), .val (.int fl), .val (.ref b1), .unset, .unset, .unset, .unset, .unset] [])) (fun t_ k_ => st9 _ k_) ?_
  obtain ⟨T10, h10, X10, e10, E10, A10, Df10, -, st10⟩ := newO X9 hx hZ hown (hw _ (List.mem_of_getElem? (i := 1) rfl)) (hw _ (List.mem_of_getElem? (i := 2) rfl)) (hw _ (List.mem_of_getElem? (i := 3) rfl)) e9 (g := (mkF m 28 #[.val (.int n), .val (.int a), .val (.int d), .val (.int fl), .val (.ref b1), .unset, .unset, .unset, .unset, .unset] [])) rfl (hb hby at_28) (by decide) (by decide)
  obtain ⟨b10, g10⟩ : ∃ z, z = h9.size := ⟨_, rfl⟩
  rw [← g10] at A10 Df10 st10
  have Od11 : Old Z n0 h9 := (Od7.wr W9 ge_b1)
  have ge_b10 : n0 ≤ b10 := Nat.le_trans Od11.sz (Nat.le_of_eq g10.symm)
  have Kp12 : Keep h0 h9 [] := (Kp8.wr W9 (Or.inr sz_b1))
  have sz_b10 : h0.size ≤ b10 := Nat.le_trans Kp12.1 (Nat.le_of_eq g10.symm)
  have ne_b1_b10 : ¬ (b1 = b10) := Nat.ne_of_lt (Nat.lt_of_lt_of_le V9.lt (Nat.le_of_eq g10.symm))
  have F13 : Fld Z h10 b10 "java/lang/String" "coder" "B" (.int (0 : Int32)) := Df10 (Or.inr (hw _ (List.mem_of_getElem? (i := 27) rfl))) (ty := .byte) (by decide)
  have F14 : Fld Z h10 b10 "java/lang/String" "value" "[B" .null := Df10 (Or.inr (hw _ (List.mem_of_getElem? (i := 29) rfl))) (ty := (.array .byte)) (by decide)
  refine Go.by (T' := T10) (g' := (mkF m 31 #[.val (.int n), .val (.int a), .val (.int d), .val (.int fl), .val (.ref b1), .unset, .unset, .unset, .unset, .unset] [(.ref b10)])) (fun t_ k_ => st10 _ k_) ?_
  refine Go.by (T' := T10) (g' := (mkF m 32 #[.val (.int n), .val (.int a), .val (.int d), .val (.int fl), .val (.ref b1), .unset, .unset, .unset, .unset, .unset] [(.ref b10), (.ref b10)])) (fun t_ k_ => XS.dup X10.here hx rfl (hb hby at_31) rfl rfl k_) ?_
  refine Go.by (T' := T10) (g' := (mkF m 34 #[.val (.int n), .val (.int a), .val (.int d), .val (.int fl), .val (.ref b1), .unset, .unset, .unset, .unset, .unset] [(.ref b1), (.ref b10), (.ref b10)])) (fun t_ k_ => XS.aload X10.here hx rfl (hb hby at_32) rfl rfl k_) ?_
  have F15 : Arv Z h10 b1 kc1 .char (2 : Int32) [(.int (nar .char ((n &&& (255 : Int32)).toUInt32.toUInt16.toUInt32.toInt32))), (.int (nar .char ((((n.toUInt32 >>> ((8 : Int32) &&& 31).toUInt32).toInt32) &&& (255 : Int32)).toUInt32.toUInt16.toUInt32.toInt32)))] (.int (0 : Int32)) := (V9.ext E10)
  have Od16 : Old Z n0 h10 := (Od11.ext E10)
  have Kp17 : Keep h0 h10 [] := (Kp12.ext E10)
  have hp18 : ∀ c ∈ ([(nar .char ((n &&& (255 : Int32)).toUInt32.toUInt16.toUInt32.toInt32)), (nar .char ((((n.toUInt32 >>> ((8 : Int32) &&& 31).toUInt32).toInt32) &&& (255 : Int32)).toUInt32.toUInt16.toUInt32.toInt32))] : List Int32), ¬ c < 0 ∧ ¬ (255 : Int32) < c := by
      intro c hc
      simp only [List.mem_cons, List.not_mem_nil, or_false] at hc
      rcases hc with rfl | rfl
      · exact own_and255 n
      · exact own_and255 _
  obtain ⟨_, _, ⟨T19, L19, k19, n19⟩, -, X19, ⟨Lc19, hQ19, l19, y19, z19⟩, st19⟩ := X10.specialBack hx (y := (⟨"java/lang/String", "<init>", "([C)V"⟩ : MethodName)) rfl hown (mvT hZ (hw _ (List.mem_of_getElem? (i := 4) rfl))) (mvT hZ (hw _ (List.mem_of_getElem? (i := 5) rfl))) (mvT hZ (hw _ (List.mem_of_getElem? (i := 6) rfl))) (by decide) (StrChars.Road.backV (W := 1) hZ (own_words hw) (kI := 4) (hw _ (List.mem_of_getElem? (i := 2) rfl)) (cs := ([(nar .char ((n &&& (255 : Int32)).toUInt32.toUInt16.toUInt32.toInt32)), (nar .char ((((n.toUInt32 >>> ((8 : Int32) &&& 31).toUInt32).toInt32) &&& (255 : Int32)).toUInt32.toUInt16.toUInt32.toInt32))] : List Int32)) (bs := ([(nar .char ((n &&& (255 : Int32)).toUInt32.toUInt16.toUInt32.toInt32)), (nar .char ((((n.toUInt32 >>> ((8 : Int32) &&& 31).toUInt32).toInt32) &&& (255 : Int32)).toUInt32.toUInt16.toUInt32.toInt32))] : List Int32).map (fun c => c.toInt8.toInt32)) (n := 2) ge_b10 Od16.sz A10 F14 F13 F15 (P0.ext Od16.2) hCS rfl rfl (by decide) (by decide) hp18 rfl (by decide) (by decide)) (g := (mkF m 34 #[.val (.int n), .val (.int a), .val (.int d), .val (.int fl), .val (.ref b1), .unset, .unset, .unset, .unset, .unset] [(.ref b1), (.ref b10), (.ref b10)])) rfl (by rw [hml]; rfl) (Steps.refl _) (a := b10) (argsL := [(.ref b1)]) (rest := [(.ref b10)]) (lenOf pd_6 rfl) rfl (by show 2 * 0 + _ ≤ _; exact Nat.le_of_eq rfl) (hb hby at_34) (fun _ _ => ⟨rfl, e10, (by decide : 2 + 1 ≤ _), (by decide : 6 + 2 ≤ _)⟩)
  dsimp only [Pt.U, Pt.locs, Pt.cells, Pt.slots] at X19 l19 y19 z19 st19 hQ19
  subst l19 y19 z19
  obtain ⟨rfl, N19q, K19, Ea19, Fc19, t19, kb19, ge_t19, nw19, nx19, Fv19, Va19⟩ := hQ19
  have N19 := Fr.app N9 N19q
  have sz_t19 : h0.size ≤ t19 := Nat.le_trans Kp17.1 nw19
  have ne_b1_t19 : ¬ (b1 = t19) := Nat.ne_of_lt (Nat.lt_of_lt_of_le F15.lt nw19)
  refine Go.by (T' := T19) (g' := (mkF m 37 #[.val (.int n), .val (.int a), .val (.int d), .val (.int fl), .val (.ref b1), .unset, .unset, .unset, .unset, .unset] [(.ref b10)])) (fun t_ k_ => st19.trans k_) ?_
  refine Go.by (T' := T19) (g' := (mkF m 39 #[.val (.int n), .val (.int a), .val (.int d), .val (.int fl), .val (.ref b1), .val (.ref b10), .unset, .unset, .unset, .unset] [])) (fun t_ k_ => XS.astore X19.here hx rfl (hb hby at_37) rfl rfl (l' := #[.val (.int n), .val (.int a), .val (.int d), .val (.int fl), .val (.ref b1), .val (.ref b10), .unset, .unset, .unset, .unset]) rfl k_) ?_
  refine Go.by (T' := T19) (g' := (mkF m 40 #[.val (.int n), .val (.int a), .val (.int d), .val (.int fl), .val (.ref b1), .val (.ref b10), .unset, .unset, .unset, .unset] [.null])) (fun t_ k_ => XS.aconstNull X19.here hx rfl (hb hby at_39) k_) ?_
  refine Go.by (T' := T19) (g' := (mkF m 42 #[.val (.int n), .val (.int a), .val (.int d), .val (.int fl), .val (.ref b1), .val (.ref b10), .val .null, .unset, .unset, .unset] [])) (fun t_ k_ => XS.astore X19.here hx rfl (hb hby at_40) rfl rfl (l' := #[.val (.int n), .val (.int a), .val (.int d), .val (.int fl), .val (.ref b1), .val (.ref b10), .val .null, .unset, .unset, .unset]) rfl k_) ?_
  refine Go.by (T' := T19) (g' := (mkF m 43 #[.val (.int n), .val (.int a), .val (.int d), .val (.int fl), .val (.ref b1), .val (.ref b10), .val .null, .unset, .unset, .unset] [(.int fl)])) (fun t_ k_ => XS.iloadN X19.here hx rfl (hb hby at_42) rfl k_) ?_
  refine Go.by (T' := T19) (g' := (mkF m 44 #[.val (.int n), .val (.int a), .val (.int d), .val (.int fl), .val (.ref b1), .val (.ref b10), .val .null, .unset, .unset, .unset] [(.int (1 : Int32)), (.int fl)])) (fun t_ k_ => XS.iconst X19.here hx rfl (hb hby at_43) k_) ?_
  refine Go.by (T' := T19) (g' := (mkF m 45 #[.val (.int n), .val (.int a), .val (.int d), .val (.int fl), .val (.ref b1), .val (.ref b10), .val .null, .unset, .unset, .unset] [(.int (fl &&& (1 : Int32)))])) (fun t_ k_ => XS.iand X19.here hx rfl (hb hby at_44) rfl k_) ?_
  obtain ⟨bit20, hbit20⟩ : ∃ z : Int32, z = (fl &&& (1 : Int32)) := ⟨_, rfl⟩
  rw [← hbit20]
  by_cases hc21 : bit20 = (0 : Int32)
  · skip
    refine Go.by (T' := T19) (g' := (mkF m 48 #[.val (.int n), .val (.int a), .val (.int d), .val (.int fl), .val (.ref b1), .val (.ref b10), .val .null, .unset, .unset, .unset] [])) (fun t_ k_ => XS.ifNo X19.here hx rfl (hb hby at_45) rfl ((if0 _ _).trans (teq hc21).2) k_) ?_
    refine Go.by (T' := T19) (g' := (mkF m 49 #[.val (.int n), .val (.int a), .val (.int d), .val (.int fl), .val (.ref b1), .val (.ref b10), .val .null, .unset, .unset, .unset] [(.int a)])) (fun t_ k_ => XS.iloadN X19.here hx rfl (hb hby at_48) rfl k_) ?_
    refine Go.by (T' := T19) (g' := (mkF m 52 #[.val (.int n), .val (.int a), .val (.int d), .val (.int fl), .val (.ref b1), .val (.ref b10), .val .null, .unset, .unset, .unset] [(.int (255 : Int32)), (.int a)])) (fun t_ k_ => XS.sipush X19.here hx rfl (hb hby at_49) k_) ?_
    refine Go.by (T' := T19) (g' := (mkF m 53 #[.val (.int n), .val (.int a), .val (.int d), .val (.int fl), .val (.ref b1), .val (.ref b10), .val .null, .unset, .unset, .unset] [(.int (a &&& (255 : Int32)))])) (fun t_ k_ => XS.iand X19.here hx rfl (hb hby at_52) rfl k_) ?_
    refine Go.by (T' := T19) (g' := (mkF m 54 #[.val (.int n), .val (.int a), .val (.int d), .val (.int fl), .val (.ref b1), .val (.ref b10), .val .null, .unset, .unset, .unset] [(.int ((a &&& (255 : Int32)).toUInt32.toUInt16.toUInt32.toInt32))])) (fun t_ k_ => XS.i2c X19.here hx rfl (hb hby at_53) rfl k_) ?_
    have Od22 : Old Z n0 T19.heap := (Od16.keep K19 (allS ge_b10 all0))
    obtain ⟨_, _, ⟨T23, L23, k23, n23⟩, -, X23, ⟨Lc23, hQ23, l23, y23, z23⟩, st23⟩ := Jvm.LawKit.callS X19 hx (y := (⟨"java/lang/String", "valueOf", "(C)Ljava/lang/String;"⟩ : MethodName)) hown (mvT hZ (hw _ (List.mem_of_getElem? (i := 103) rfl))) (mvT hZ (hw _ (List.mem_of_getElem? (i := 104) rfl))) (mvT hZ (hw _ (List.mem_of_getElem? (i := 3) rfl))) (mvT hZ (hw _ (List.mem_of_getElem? (i := 105) rfl))) (by decide) (backOf (W := 0) (rm_valueOf l Z a0 hw [] ((a &&& (255 : Int32)).toUInt32.toUInt16.toUInt32.toInt32) G1 T19.heap n0 Od22 P0 hCS (own_c255 a)) hZ (hw _ (List.mem_of_getElem? (i := 105) rfl)) (hw _ (List.mem_of_getElem? (i := 3) rfl)) (by decide) (by decide)) (g := (mkF m 54 #[.val (.int n), .val (.int a), .val (.int d), .val (.int fl), .val (.ref b1), .val (.ref b10), .val .null, .unset, .unset, .unset] [(.int ((a &&& (255 : Int32)).toUInt32.toUInt16.toUInt32.toInt32))])) rfl (by rw [hml]; rfl) (argsL := [(.int ((a &&& (255 : Int32)).toUInt32.toUInt16.toUInt32.toInt32))]) (rest := []) (lenOf pd_7 rfl) rfl (by show 2 * 0 + _ ≤ _; exact Nat.le_of_eq rfl) (hb hby at_54) (fun _ _ => ⟨rfl, rfl, (by decide : 3 + 2 ≤ _), (by decide : 8 + 5 ≤ _)⟩)
    dsimp only [Pt.U, Pt.locs, Pt.cells, Pt.slots] at X23 l23 y23 z23 st23 hQ23
    subst l23 y23 z23
    obtain ⟨b_23, t_23, kb_23, rfl, N23q, K23, G23_0, G23_1, G23_2, G23_3, G23_4, G23_5, G23_6⟩ := hQ23
    have N23 := Fr.app N19 N23q
    have ge_b_23 : n0 ≤ b_23 := Nat.le_trans Od22.sz G23_0
    have Kp24 : Keep h0 T19.heap [] := (Kp17.trans K19 (allS (Or.inr sz_b10) all0))
    have sz_b_23 : h0.size ≤ b_23 := Nat.le_trans Kp24.1 G23_0
    have F25 : Arv Z T19.heap b1 kc1 .char (2 : Int32) [(.int (nar .char ((n &&& (255 : Int32)).toUInt32.toUInt16.toUInt32.toInt32))), (.int (nar .char ((((n.toUInt32 >>> ((8 : Int32) &&& 31).toUInt32).toInt32) &&& (255 : Int32)).toUInt32.toUInt16.toUInt32.toInt32)))] (.int (0 : Int32)) := (F15.keep K19 (ninS ne_b1_b10 nin0))
    have ne_b1_b_23 : ¬ (b1 = b_23) := Nat.ne_of_lt (Nat.lt_of_lt_of_le F25.lt G23_0)
    have ne_b10_b_23 : ¬ (b10 = b_23) := Nat.ne_of_lt (Nat.lt_of_lt_of_le Ea19.lt G23_0)
    have ne_t19_b_23 : ¬ (t19 = b_23) := Nat.ne_of_lt (Nat.lt_of_lt_of_le Va19.lt G23_0)
    have ge_t_23 : n0 ≤ t_23 := Nat.le_trans Od22.sz G23_1
    have sz_t_23 : h0.size ≤ t_23 := Nat.le_trans Kp24.1 G23_1
    have ne_b1_t_23 : ¬ (b1 = t_23) := Nat.ne_of_lt (Nat.lt_of_lt_of_le F25.lt G23_1)
    have ne_b10_t_23 : ¬ (b10 = t_23) := Nat.ne_of_lt (Nat.lt_of_lt_of_le Ea19.lt G23_1)
    have ne_t19_t_23 : ¬ (t19 = t_23) := Nat.ne_of_lt (Nat.lt_of_lt_of_le Va19.lt G23_1)
    refine Go.by (T' := T23) (g' := (mkF m 57 #[.val (.int n), .val (.int a), .val (.int d), .val (.int fl), .val (.ref b1), .val (.ref b10), .val .null, .unset, .unset, .unset] [(.ref b_23)])) (fun t_ k_ => st23 _ k_) ?_
    refine Go.by (T' := T23) (g' := (mkF m 59 #[.val (.int n), .val (.int a), .val (.int d), .val (.int fl), .val (.ref b1), .val (.ref b10), .val (.ref b_23), .unset, .unset, .unset] [])) (fun t_ k_ => XS.astore X23.here hx rfl (hb hby at_57) rfl rfl (l' := #[.val (.int n), .val (.int a), .val (.int d), .val (.int fl), .val (.ref b1), .val (.ref b10), .val (.ref b_23), .unset, .unset, .unset]) rfl k_) ?_
    refine Go.by (T' := T23) (g' := (mkF m 60 #[.val (.int n), .val (.int a), .val (.int d), .val (.int fl), .val (.ref b1), .val (.ref b10), .val (.ref b_23), .unset, .unset, .unset] [(.int (2 : Int32))])) (fun t_ k_ => XS.iconst X23.here hx rfl (hb hby at_59) k_) ?_
    obtain ⟨T26, h26, kc26, X26, e26, E26, A26, st26⟩ := newP X23 hx hZ (hw _ (List.mem_of_getElem? (i := 0) rfl)) rfl (g := (mkF m 60 #[.val (.int n), .val (.int a), .val (.int d), .val (.int fl), .val (.ref b1), .val (.ref b10), .val (.ref b_23), .unset, .unset, .unset] [(.int (2 : Int32))])) rfl (hb hby at_60) rfl (by decide) (cap := 2) (by decide) (by decide) (by decide) (by decide)
    obtain ⟨b26, g26⟩ : ∃ z, z = T23.heap.size := ⟨_, rfl⟩
    rw [← g26] at A26 st26
    have Od27 : Old Z n0 T23.heap := (Od22.keep K23 all0)
    have ge_b26 : n0 ≤ b26 := Nat.le_trans Od27.sz (Nat.le_of_eq g26.symm)
    have Kp28 : Keep h0 T23.heap [] := (Kp24.trans K23 all0)
    have sz_b26 : h0.size ≤ b26 := Nat.le_trans Kp28.1 (Nat.le_of_eq g26.symm)
    have F29 : Arv Z T23.heap b1 kc1 .char (2 : Int32) [(.int (nar .char ((n &&& (255 : Int32)).toUInt32.toUInt16.toUInt32.toInt32))), (.int (nar .char ((((n.toUInt32 >>> ((8 : Int32) &&& 31).toUInt32).toInt32) &&& (255 : Int32)).toUInt32.toUInt16.toUInt32.toInt32)))] (.int (0 : Int32)) := (F25.keep K23 nin0)
    have ne_b1_b26 : ¬ (b1 = b26) := Nat.ne_of_lt (Nat.lt_of_lt_of_le F29.lt (Nat.le_of_eq g26.symm))
    have F30 : Exa Z T23.heap b10 "java/lang/String" := (Ea19.keep K23)
    have ne_b10_b26 : ¬ (b10 = b26) := Nat.ne_of_lt (Nat.lt_of_lt_of_le F30.lt (Nat.le_of_eq g26.symm))
    have F31 : Arv Z T23.heap t19 kb19 .byte (2 : Int32) ((([(nar .char ((n &&& (255 : Int32)).toUInt32.toUInt16.toUInt32.toInt32)), (nar .char ((((n.toUInt32 >>> ((8 : Int32) &&& 31).toUInt32).toInt32) &&& (255 : Int32)).toUInt32.toUInt16.toUInt32.toInt32))] : List Int32).map (fun c => c.toInt8.toInt32)).map Value.int) (.int (0 : Int32)) := (Va19.keep K23 nin0)
    have ne_t19_b26 : ¬ (t19 = b26) := Nat.ne_of_lt (Nat.lt_of_lt_of_le F31.lt (Nat.le_of_eq g26.symm))
    have ne_b_23_b26 : ¬ (b_23 = b26) := Nat.ne_of_lt (Nat.lt_of_lt_of_le G23_3.lt (Nat.le_of_eq g26.symm))
    have ne_t_23_b26 : ¬ (t_23 = b26) := Nat.ne_of_lt (Nat.lt_of_lt_of_le G23_6.lt (Nat.le_of_eq g26.symm))
    have V26 : Arv Z h26 b26 kc26 .char (2 : Int32) [(.int (0 : Int32)), (.int (0 : Int32))] (.int (0 : Int32)) := (Arv.new A26 (by decide)).pad (pad_rep [] (.int (0 : Int32)) 2)
    refine Go.by (T' := T26) (g' := (mkF m 62 #[.val (.int n), .val (.int a), .val (.int d), .val (.int fl), .val (.ref b1), .val (.ref b10), .val (.ref b_23), .unset, .unset, .unset] [(.ref b26)])) (fun t_ k_ => st26 _ k_) ?_
    refine Go.by (T' := T26) (g' := (mkF m 64 #[.val (.int n), .val (.int a), .val (.int d), .val (.int fl), .val (.ref b1), .val (.ref b10), .val (.ref b_23), .val (.ref b26), .unset, .unset] [])) (fun t_ k_ => XS.astore X26.here hx rfl (hb hby at_62) rfl rfl (l' := #[.val (.int n), .val (.int a), .val (.int d), .val (.int fl), .val (.ref b1), .val (.ref b10), .val (.ref b_23), .val (.ref b26), .unset, .unset]) rfl k_) ?_
    refine Go.by (T' := T26) (g' := (mkF m 66 #[.val (.int n), .val (.int a), .val (.int d), .val (.int fl), .val (.ref b1), .val (.ref b10), .val (.ref b_23), .val (.ref b26), .unset, .unset] [(.ref b26)])) (fun t_ k_ => XS.aload X26.here hx rfl (hb hby at_64) rfl rfl k_) ?_
    refine Go.by (T' := T26) (g' := (mkF m 67 #[.val (.int n), .val (.int a), .val (.int d), .val (.int fl), .val (.ref b1), .val (.ref b10), .val (.ref b_23), .val (.ref b26), .unset, .unset] [(.int (0 : Int32)), (.ref b26)])) (fun t_ k_ => XS.iconst X26.here hx rfl (hb hby at_66) k_) ?_
    refine Go.by (T' := T26) (g' := (mkF m 68 #[.val (.int n), .val (.int a), .val (.int d), .val (.int fl), .val (.ref b1), .val (.ref b10), .val (.ref b_23), .val (.ref b26), .unset, .unset] [(.int d), (.int (0 : Int32)), (.ref b26)])) (fun t_ k_ => XS.iloadN X26.here hx rfl (hb hby at_67) rfl k_) ?_
    refine Go.by (T' := T26) (g' := (mkF m 71 #[.val (.int n), .val (.int a), .val (.int d), .val (.int fl), .val (.ref b1), .val (.ref b10), .val (.ref b_23), .val (.ref b26), .unset, .unset] [(.int (255 : Int32)), (.int d), (.int (0 : Int32)), (.ref b26)])) (fun t_ k_ => XS.sipush X26.here hx rfl (hb hby at_68) k_) ?_
    refine Go.by (T' := T26) (g' := (mkF m 72 #[.val (.int n), .val (.int a), .val (.int d), .val (.int fl), .val (.ref b1), .val (.ref b10), .val (.ref b_23), .val (.ref b26), .unset, .unset] [(.int (d &&& (255 : Int32))), (.int (0 : Int32)), (.ref b26)])) (fun t_ k_ => XS.iand X26.here hx rfl (hb hby at_71) rfl k_) ?_
    refine Go.by (T' := T26) (g' := (mkF m 73 #[.val (.int n), .val (.int a), .val (.int d), .val (.int fl), .val (.ref b1), .val (.ref b10), .val (.ref b_23), .val (.ref b26), .unset, .unset] [(.int ((d &&& (255 : Int32)).toUInt32.toUInt16.toUInt32.toInt32)), (.int (0 : Int32)), (.ref b26)])) (fun t_ k_ => XS.i2c X26.here hx rfl (hb hby at_72) rfl k_) ?_
    have Od33 : Old Z n0 h26 := (Od27.ext E26)
    have Kp34 : Keep h0 h26 [] := (Kp28.ext E26)
    obtain ⟨cl32, Ar32, q32, Sz32, Ng32, Hs32, Gs32⟩ := id V26
    obtain ⟨T35, h35, X35, e35, W35, st35⟩ := stC X26 hx hZ e26 Ar32 (j := (0 : Int32)) (inb_of Sz32 ⟨by decide, by decide⟩) (g := (mkF m 73 #[.val (.int n), .val (.int a), .val (.int d), .val (.int fl), .val (.ref b1), .val (.ref b10), .val (.ref b_23), .val (.ref b26), .unset, .unset] [(.int ((d &&& (255 : Int32)).toUInt32.toUInt16.toUInt32.toInt32)), (.int (0 : Int32)), (.ref b26)])) rfl rfl (hb hby at_73)
    have V35 : Arv Z h35 b26 kc26 .char (2 : Int32) [(.int (nar .char ((d &&& (255 : Int32)).toUInt32.toUInt16.toUInt32.toInt32))), (.int (0 : Int32))] (.int (0 : Int32)) := Arv.set Ar32 q32 Sz32 Ng32 Hs32 Gs32 (fits_nar_char _) W35 0 rfl (Nat.le_of_ble_eq_true rfl)
    have N35 := Fr.snoc X35 N23 ge_b26
    refine Go.by (T' := T35) (g' := (mkF m 74 #[.val (.int n), .val (.int a), .val (.int d), .val (.int fl), .val (.ref b1), .val (.ref b10), .val (.ref b_23), .val (.ref b26), .unset, .unset] [])) (fun t_ k_ => st35 _ k_) ?_
    refine Go.by (T' := T35) (g' := (mkF m 76 #[.val (.int n), .val (.int a), .val (.int d), .val (.int fl), .val (.ref b1), .val (.ref b10), .val (.ref b_23), .val (.ref b26), .unset, .unset] [(.ref b26)])) (fun t_ k_ => XS.aload X35.here hx rfl (hb hby at_74) rfl rfl k_) ?_
    refine Go.by (T' := T35) (g' := (mkF m 77 #[.val (.int n), .val (.int a), .val (.int d), .val (.int fl), .val (.ref b1), .val (.ref b10), .val (.ref b_23), .val (.ref b26), .unset, .unset] [(.int (1 : Int32)), (.ref b26)])) (fun t_ k_ => XS.iconst X35.here hx rfl (hb hby at_76) k_) ?_
    refine Go.by (T' := T35) (g' := (mkF m 78 #[.val (.int n), .val (.int a), .val (.int d), .val (.int fl), .val (.ref b1), .val (.ref b10), .val (.ref b_23), .val (.ref b26), .unset, .unset] [(.int d), (.int (1 : Int32)), (.ref b26)])) (fun t_ k_ => XS.iloadN X35.here hx rfl (hb hby at_77) rfl k_) ?_
    refine Go.by (T' := T35) (g' := (mkF m 80 #[.val (.int n), .val (.int a), .val (.int d), .val (.int fl), .val (.ref b1), .val (.ref b10), .val (.ref b_23), .val (.ref b26), .unset, .unset] [(.int (8 : Int32)), (.int d), (.int (1 : Int32)), (.ref b26)])) (fun t_ k_ => XS.bipush X35.here hx rfl (hb hby at_78) k_) ?_
    refine Go.by (T' := T35) (g' := (mkF m 81 #[.val (.int n), .val (.int a), .val (.int d), .val (.int fl), .val (.ref b1), .val (.ref b10), .val (.ref b_23), .val (.ref b26), .unset, .unset] [(.int ((d.toUInt32 >>> ((8 : Int32) &&& 31).toUInt32).toInt32)), (.int (1 : Int32)), (.ref b26)])) (fun t_ k_ => XS.iushr X35.here hx rfl (hb hby at_80) rfl k_) ?_
    refine Go.by (T' := T35) (g' := (mkF m 84 #[.val (.int n), .val (.int a), .val (.int d), .val (.int fl), .val (.ref b1), .val (.ref b10), .val (.ref b_23), .val (.ref b26), .unset, .unset] [(.int (255 : Int32)), (.int ((d.toUInt32 >>> ((8 : Int32) &&& 31).toUInt32).toInt32)), (.int (1 : Int32)), (.ref b26)])) (fun t_ k_ => XS.sipush X35.here hx rfl (hb hby at_81) k_) ?_
    refine Go.by (T' := T35) (g' := (mkF m 85 #[.val (.int n), .val (.int a), .val (.int d), .val (.int fl), .val (.ref b1), .val (.ref b10), .val (.ref b_23), .val (.ref b26), .unset, .unset] [(.int (((d.toUInt32 >>> ((8 : Int32) &&& 31).toUInt32).toInt32) &&& (255 : Int32))), (.int (1 : Int32)), (.ref b26)])) (fun t_ k_ => XS.iand X35.here hx rfl (hb hby at_84) rfl k_) ?_
    refine Go.by (T' := T35) (g' := (mkF m 86 #[.val (.int n), .val (.int a), .val (.int d), .val (.int fl), .val (.ref b1), .val (.ref b10), .val (.ref b_23), .val (.ref b26), .unset, .unset] [(.int ((((d.toUInt32 >>> ((8 : Int32) &&& 31).toUInt32).toInt32) &&& (255 : Int32)).toUInt32.toUInt16.toUInt32.toInt32)), (.int (1 : Int32)), (.ref b26)])) (fun t_ k_ => XS.i2c X35.here hx rfl (hb hby at_85) rfl k_) ?_
    have Od37 : Old Z n0 h35 := (Od33.wr W35 ge_b26)
    have Kp38 : Keep h0 h35 [] := (Kp34.wr W35 (Or.inr sz_b26))
    obtain ⟨cl36, Ar36, q36, Sz36, Ng36, Hs36, Gs36⟩ := id V35
    obtain ⟨T39, h39, X39, e39, W39, st39⟩ := stC X35 hx hZ e35 Ar36 (j := (1 : Int32)) (inb_of Sz36 ⟨by decide, by decide⟩) (g := (mkF m 86 #[.val (.int n), .val (.int a), .val (.int d), .val (.int fl), .val (.ref b1), .val (.ref b10), .val (.ref b_23), .val (.ref b26), .unset, .unset] [(.int ((((d.toUInt32 >>> ((8 : Int32) &&& 31).toUInt32).toInt32) &&& (255 : Int32)).toUInt32.toUInt16.toUInt32.toInt32)), (.int (1 : Int32)), (.ref b26)])) rfl rfl (hb hby at_86)
    have V39 : Arv Z h39 b26 kc26 .char (2 : Int32) [(.int (nar .char ((d &&& (255 : Int32)).toUInt32.toUInt16.toUInt32.toInt32))), (.int (nar .char ((((d.toUInt32 >>> ((8 : Int32) &&& 31).toUInt32).toInt32) &&& (255 : Int32)).toUInt32.toUInt16.toUInt32.toInt32)))] (.int (0 : Int32)) := Arv.set Ar36 q36 Sz36 Ng36 Hs36 Gs36 (fits_nar_char _) W39 1 rfl (Nat.le_of_ble_eq_true rfl)
    have N39 := Fr.snoc X39 N35 ge_b26
    refine Go.by (T' := T39) (g' := (mkF m 87 #[.val (.int n), .val (.int a), .val (.int d), .val (.int fl), .val (.ref b1), .val (.ref b10), .val (.ref b_23), .val (.ref b26), .unset, .unset] [])) (fun t_ k_ => st39 _ k_) ?_
    obtain ⟨T40, h40, X40, e40, E40, A40, Df40, -, st40⟩ := newO X39 hx hZ hown (hw _ (List.mem_of_getElem? (i := 1) rfl)) (hw _ (List.mem_of_getElem? (i := 2) rfl)) (hw _ (List.mem_of_getElem? (i := 3) rfl)) e39 (g := (mkF m 87 #[.val (.int n), .val (.int a), .val (.int d), .val (.int fl), .val (.ref b1), .val (.ref b10), .val (.ref b_23), .val (.ref b26), .unset, .unset] [])) rfl (hb hby at_87) (by decide) (by decide)
    obtain ⟨b40, g40⟩ : ∃ z, z = h39.size := ⟨_, rfl⟩
    rw [← g40] at A40 Df40 st40
    have Od41 : Old Z n0 h39 := (Od37.wr W39 ge_b26)
    have ge_b40 : n0 ≤ b40 := Nat.le_trans Od41.sz (Nat.le_of_eq g40.symm)
    have Kp42 : Keep h0 h39 [] := (Kp38.wr W39 (Or.inr sz_b26))
    have sz_b40 : h0.size ≤ b40 := Nat.le_trans Kp42.1 (Nat.le_of_eq g40.symm)
    have F43 : Arv Z h39 b1 kc1 .char (2 : Int32) [(.int (nar .char ((n &&& (255 : Int32)).toUInt32.toUInt16.toUInt32.toInt32))), (.int (nar .char ((((n.toUInt32 >>> ((8 : Int32) &&& 31).toUInt32).toInt32) &&& (255 : Int32)).toUInt32.toUInt16.toUInt32.toInt32)))] (.int (0 : Int32)) := (((F29.ext E26).other W35 ne_b1_b26).other W39 ne_b1_b26)
    have ne_b1_b40 : ¬ (b1 = b40) := Nat.ne_of_lt (Nat.lt_of_lt_of_le F43.lt (Nat.le_of_eq g40.symm))
    have F44 : Exa Z h39 b10 "java/lang/String" := (((F30.ext E26).wr W35).wr W39)
    have ne_b10_b40 : ¬ (b10 = b40) := Nat.ne_of_lt (Nat.lt_of_lt_of_le F44.lt (Nat.le_of_eq g40.symm))
    have F45 : Arv Z h39 t19 kb19 .byte (2 : Int32) ((([(nar .char ((n &&& (255 : Int32)).toUInt32.toUInt16.toUInt32.toInt32)), (nar .char ((((n.toUInt32 >>> ((8 : Int32) &&& 31).toUInt32).toInt32) &&& (255 : Int32)).toUInt32.toUInt16.toUInt32.toInt32))] : List Int32).map (fun c => c.toInt8.toInt32)).map Value.int) (.int (0 : Int32)) := (((F31.ext E26).other W35 ne_t19_b26).other W39 ne_t19_b26)
    have ne_t19_b40 : ¬ (t19 = b40) := Nat.ne_of_lt (Nat.lt_of_lt_of_le F45.lt (Nat.le_of_eq g40.symm))
    have F46 : Exa Z h39 b_23 "java/lang/String" := (((G23_3.ext E26).wr W35).wr W39)
    have ne_b_23_b40 : ¬ (b_23 = b40) := Nat.ne_of_lt (Nat.lt_of_lt_of_le F46.lt (Nat.le_of_eq g40.symm))
    have F47 : Arv Z h39 t_23 kb_23 .byte (1 : Int32) [(.int (((a &&& (255 : Int32)).toUInt32.toUInt16.toUInt32.toInt32).toInt8.toInt32))] (.int (0 : Int32)) := (((G23_6.ext E26).other W35 ne_t_23_b26).other W39 ne_t_23_b26)
    have ne_t_23_b40 : ¬ (t_23 = b40) := Nat.ne_of_lt (Nat.lt_of_lt_of_le F47.lt (Nat.le_of_eq g40.symm))
    have ne_b26_b40 : ¬ (b26 = b40) := Nat.ne_of_lt (Nat.lt_of_lt_of_le V39.lt (Nat.le_of_eq g40.symm))
    have F48 : Fld Z h40 b40 "java/lang/String" "coder" "B" (.int (0 : Int32)) := Df40 (Or.inr (hw _ (List.mem_of_getElem? (i := 27) rfl))) (ty := .byte) (by decide)
    have F49 : Fld Z h40 b40 "java/lang/String" "value" "[B" .null := Df40 (Or.inr (hw _ (List.mem_of_getElem? (i := 29) rfl))) (ty := (.array .byte)) (by decide)
    refine Go.by (T' := T40) (g' := (mkF m 90 #[.val (.int n), .val (.int a), .val (.int d), .val (.int fl), .val (.ref b1), .val (.ref b10), .val (.ref b_23), .val (.ref b26), .unset, .unset] [(.ref b40)])) (fun t_ k_ => st40 _ k_) ?_
    refine Go.by (T' := T40) (g' := (mkF m 91 #[.val (.int n), .val (.int a), .val (.int d), .val (.int fl), .val (.ref b1), .val (.ref b10), .val (.ref b_23), .val (.ref b26), .unset, .unset] [(.ref b40), (.ref b40)])) (fun t_ k_ => XS.dup X40.here hx rfl (hb hby at_90) rfl rfl k_) ?_
    refine Go.by (T' := T40) (g' := (mkF m 93 #[.val (.int n), .val (.int a), .val (.int d), .val (.int fl), .val (.ref b1), .val (.ref b10), .val (.ref b_23), .val (.ref b26), .unset, .unset] [(.ref b26), (.ref b40), (.ref b40)])) (fun t_ k_ => XS.aload X40.here hx rfl (hb hby at_91) rfl rfl k_) ?_
    have F50 : Arv Z h40 b26 kc26 .char (2 : Int32) [(.int (nar .char ((d &&& (255 : Int32)).toUInt32.toUInt16.toUInt32.toInt32))), (.int (nar .char ((((d.toUInt32 >>> ((8 : Int32) &&& 31).toUInt32).toInt32) &&& (255 : Int32)).toUInt32.toUInt16.toUInt32.toInt32)))] (.int (0 : Int32)) := (V39.ext E40)
    have Od51 : Old Z n0 h40 := (Od41.ext E40)
    have Kp52 : Keep h0 h40 [] := (Kp42.ext E40)
    have hp53 : ∀ c ∈ ([(nar .char ((d &&& (255 : Int32)).toUInt32.toUInt16.toUInt32.toInt32)), (nar .char ((((d.toUInt32 >>> ((8 : Int32) &&& 31).toUInt32).toInt32) &&& (255 : Int32)).toUInt32.toUInt16.toUInt32.toInt32))] : List Int32), ¬ c < 0 ∧ ¬ (255 : Int32) < c := by
        intro c hc
        simp only [List.mem_cons, List.not_mem_nil, or_false] at hc
        rcases hc with rfl | rfl
        · exact own_and255 d
        · exact own_and255 _
    obtain ⟨_, _, ⟨T54, L54, k54, n54⟩, -, X54, ⟨Lc54, hQ54, l54, y54, z54⟩, st54⟩ := X40.specialBack hx (y := (⟨"java/lang/String", "<init>", "([C)V"⟩ : MethodName)) rfl hown (mvT hZ (hw _ (List.mem_of_getElem? (i := 4) rfl))) (mvT hZ (hw _ (List.mem_of_getElem? (i := 5) rfl))) (mvT hZ (hw _ (List.mem_of_getElem? (i := 6) rfl))) (by decide) (StrChars.Road.backV (W := 1) hZ (own_words hw) (kI := 4) (hw _ (List.mem_of_getElem? (i := 2) rfl)) (cs := ([(nar .char ((d &&& (255 : Int32)).toUInt32.toUInt16.toUInt32.toInt32)), (nar .char ((((d.toUInt32 >>> ((8 : Int32) &&& 31).toUInt32).toInt32) &&& (255 : Int32)).toUInt32.toUInt16.toUInt32.toInt32))] : List Int32)) (bs := ([(nar .char ((d &&& (255 : Int32)).toUInt32.toUInt16.toUInt32.toInt32)), (nar .char ((((d.toUInt32 >>> ((8 : Int32) &&& 31).toUInt32).toInt32) &&& (255 : Int32)).toUInt32.toUInt16.toUInt32.toInt32))] : List Int32).map (fun c => c.toInt8.toInt32)) (n := 2) ge_b40 Od51.sz A40 F49 F48 F50 (P0.ext Od51.2) hCS rfl rfl (by decide) (by decide) hp53 rfl (by decide) (by decide)) (g := (mkF m 93 #[.val (.int n), .val (.int a), .val (.int d), .val (.int fl), .val (.ref b1), .val (.ref b10), .val (.ref b_23), .val (.ref b26), .unset, .unset] [(.ref b26), (.ref b40), (.ref b40)])) rfl (by rw [hml]; rfl) (Steps.refl _) (a := b40) (argsL := [(.ref b26)]) (rest := [(.ref b40)]) (lenOf pd_6 rfl) rfl (by show 2 * 0 + _ ≤ _; exact Nat.le_of_eq rfl) (hb hby at_93) (fun _ _ => ⟨rfl, e40, (by decide : 7 + 1 ≤ _), (by decide : 19 + 2 ≤ _)⟩)
    dsimp only [Pt.U, Pt.locs, Pt.cells, Pt.slots] at X54 l54 y54 z54 st54 hQ54
    subst l54 y54 z54
    obtain ⟨rfl, N54q, K54, Ea54, Fc54, t54, kb54, ge_t54, nw54, nx54, Fv54, Va54⟩ := hQ54
    have N54 := Fr.app N39 N54q
    have sz_t54 : h0.size ≤ t54 := Nat.le_trans Kp52.1 nw54
    have F55 : Arv Z h40 b1 kc1 .char (2 : Int32) [(.int (nar .char ((n &&& (255 : Int32)).toUInt32.toUInt16.toUInt32.toInt32))), (.int (nar .char ((((n.toUInt32 >>> ((8 : Int32) &&& 31).toUInt32).toInt32) &&& (255 : Int32)).toUInt32.toUInt16.toUInt32.toInt32)))] (.int (0 : Int32)) := (F43.ext E40)
    have ne_b1_t54 : ¬ (b1 = t54) := Nat.ne_of_lt (Nat.lt_of_lt_of_le F55.lt nw54)
    have F56 : Exa Z h40 b10 "java/lang/String" := (F44.ext E40)
    have ne_b10_t54 : ¬ (b10 = t54) := Nat.ne_of_lt (Nat.lt_of_lt_of_le F56.lt nw54)
    have F57 : Arv Z h40 t19 kb19 .byte (2 : Int32) ((([(nar .char ((n &&& (255 : Int32)).toUInt32.toUInt16.toUInt32.toInt32)), (nar .char ((((n.toUInt32 >>> ((8 : Int32) &&& 31).toUInt32).toInt32) &&& (255 : Int32)).toUInt32.toUInt16.toUInt32.toInt32))] : List Int32).map (fun c => c.toInt8.toInt32)).map Value.int) (.int (0 : Int32)) := (F45.ext E40)
    have ne_t19_t54 : ¬ (t19 = t54) := Nat.ne_of_lt (Nat.lt_of_lt_of_le F57.lt nw54)
    have F58 : Exa Z h40 b_23 "java/lang/String" := (F46.ext E40)
    have ne_b_23_t54 : ¬ (b_23 = t54) := Nat.ne_of_lt (Nat.lt_of_lt_of_le F58.lt nw54)
    have F59 : Arv Z h40 t_23 kb_23 .byte (1 : Int32) [(.int (((a &&& (255 : Int32)).toUInt32.toUInt16.toUInt32.toInt32).toInt8.toInt32))] (.int (0 : Int32)) := (F47.ext E40)
    have ne_t_23_t54 : ¬ (t_23 = t54) := Nat.ne_of_lt (Nat.lt_of_lt_of_le F59.lt nw54)
    have ne_b26_t54 : ¬ (b26 = t54) := Nat.ne_of_lt (Nat.lt_of_lt_of_le F50.lt nw54)
    refine Go.by (T' := T54) (g' := (mkF m 96 #[.val (.int n), .val (.int a), .val (.int d), .val (.int fl), .val (.ref b1), .val (.ref b10), .val (.ref b_23), .val (.ref b26), .unset, .unset] [(.ref b40)])) (fun t_ k_ => st54.trans k_) ?_
    refine Go.by (T' := T54) (g' := (mkF m 98 #[.val (.int n), .val (.int a), .val (.int d), .val (.int fl), .val (.ref b1), .val (.ref b10), .val (.ref b_23), .val (.ref b26), .val (.ref b40), .unset] [])) (fun t_ k_ => XS.astore X54.here hx rfl (hb hby at_96) rfl rfl (l' := #[.val (.int n), .val (.int a), .val (.int d), .val (.int fl), .val (.ref b1), .val (.ref b10), .val (.ref b_23), .val (.ref b26), .val (.ref b40), .unset]) rfl k_) ?_
    refine Go.by (T' := T54) (g' := (mkF m 100 #[.val (.int n), .val (.int a), .val (.int d), .val (.int fl), .val (.ref b1), .val (.ref b10), .val (.ref b_23), .val (.ref b26), .val (.ref b40), .unset] [(.ref b10)])) (fun t_ k_ => XS.aload X54.here hx rfl (hb hby at_98) rfl rfl k_) ?_
    refine Go.by (T' := T54) (g' := (mkF m 102 #[.val (.int n), .val (.int a), .val (.int d), .val (.int fl), .val (.ref b1), .val (.ref b10), .val (.ref b_23), .val (.ref b26), .val (.ref b40), .unset] [(.ref b_23), (.ref b10)])) (fun t_ k_ => XS.aload X54.here hx rfl (hb hby at_100) rfl rfl k_) ?_
    refine Go.by (T' := T54) (g' := (mkF m 104 #[.val (.int n), .val (.int a), .val (.int d), .val (.int fl), .val (.ref b1), .val (.ref b10), .val (.ref b_23), .val (.ref b26), .val (.ref b40), .unset] [(.ref b40), (.ref b_23), (.ref b10)])) (fun t_ k_ => XS.aload X54.here hx rfl (hb hby at_102) rfl rfl k_) ?_
    have Od60 : Old Z n0 T54.heap := (Od51.keep K54 (allS ge_b40 all0))
    obtain ⟨_, _, ⟨T61, L61, k61, n61⟩, -, X61, ⟨Lc61, hQ61, l61, y61, z61⟩, st61⟩ := Jvm.LawKit.callS X54 hx (y := (⟨"com/example/fellwise/fellwise/Syntax$Option", "flag", "(Ljava/lang/String;Ljava/lang/String;Ljava/lang/String;)Lcom/example/fellwise/fellwise/Syntax$Option;"⟩ : MethodName)) hown (mvT hZ (hw _ (List.mem_of_getElem? (i := 30) rfl))) (mvT hZ (hw _ (List.mem_of_getElem? (i := 31) rfl))) (mvT hZ (hw _ (List.mem_of_getElem? (i := 32) rfl))) (mvT hZ (hw _ (List.mem_of_getElem? (i := 33) rfl))) (by decide) (backOf (W := 0) (rm_flag l Z a0 hw [] b10 (.ref b_23) b40 T54.heap n0 Od60 rfl) hZ (hw _ (List.mem_of_getElem? (i := 33) rfl)) (hw _ (List.mem_of_getElem? (i := 32) rfl)) (by decide) (by decide)) (g := (mkF m 104 #[.val (.int n), .val (.int a), .val (.int d), .val (.int fl), .val (.ref b1), .val (.ref b10), .val (.ref b_23), .val (.ref b26), .val (.ref b40), .unset] [(.ref b40), (.ref b_23), (.ref b10)])) rfl (by rw [hml]; rfl) (argsL := [(.ref b10), (.ref b_23), (.ref b40)]) (rest := []) (lenOf pd_8 rfl) rfl (by show 2 * 0 + _ ≤ _; exact Nat.le_of_eq rfl) (hb hby at_104) (fun _ _ => ⟨rfl, rfl, (by decide : 8 + 1 ≤ _), (by decide : 21 + 6 ≤ _)⟩)
    dsimp only [Pt.U, Pt.locs, Pt.cells, Pt.slots] at X61 l61 y61 z61 st61 hQ61
    subst l61 y61 z61
    obtain ⟨b_61, rfl, N61q, K61, G61_0, G61_1, G61_2, G61_3, G61_4, G61_5, G61_6, G61_7⟩ := hQ61
    have N61 := Fr.app N54 N61q
    have ge_b_61 : n0 ≤ b_61 := Nat.le_trans Od60.sz G61_0
    have Kp62 : Keep h0 T54.heap [] := (Kp52.trans K54 (allS (Or.inr sz_b40) all0))
    have sz_b_61 : h0.size ≤ b_61 := Nat.le_trans Kp62.1 G61_0
    have F63 : Arv Z T54.heap b1 kc1 .char (2 : Int32) [(.int (nar .char ((n &&& (255 : Int32)).toUInt32.toUInt16.toUInt32.toInt32))), (.int (nar .char ((((n.toUInt32 >>> ((8 : Int32) &&& 31).toUInt32).toInt32) &&& (255 : Int32)).toUInt32.toUInt16.toUInt32.toInt32)))] (.int (0 : Int32)) := (F55.keep K54 (ninS ne_b1_b40 nin0))
    have ne_b1_b_61 : ¬ (b1 = b_61) := Nat.ne_of_lt (Nat.lt_of_lt_of_le F63.lt G61_0)
    have F64 : Exa Z T54.heap b10 "java/lang/String" := (F56.keep K54)
    have ne_b10_b_61 : ¬ (b10 = b_61) := Nat.ne_of_lt (Nat.lt_of_lt_of_le F64.lt G61_0)
    have F65 : Arv Z T54.heap t19 kb19 .byte (2 : Int32) ((([(nar .char ((n &&& (255 : Int32)).toUInt32.toUInt16.toUInt32.toInt32)), (nar .char ((((n.toUInt32 >>> ((8 : Int32) &&& 31).toUInt32).toInt32) &&& (255 : Int32)).toUInt32.toUInt16.toUInt32.toInt32))] : List Int32).map (fun c => c.toInt8.toInt32)).map Value.int) (.int (0 : Int32)) := (F57.keep K54 (ninS ne_t19_b40 nin0))
    have ne_t19_b_61 : ¬ (t19 = b_61) := Nat.ne_of_lt (Nat.lt_of_lt_of_le F65.lt G61_0)
    have F66 : Exa Z T54.heap b_23 "java/lang/String" := (F58.keep K54)
    have ne_b_23_b_61 : ¬ (b_23 = b_61) := Nat.ne_of_lt (Nat.lt_of_lt_of_le F66.lt G61_0)
    have F67 : Arv Z T54.heap t_23 kb_23 .byte (1 : Int32) [(.int (((a &&& (255 : Int32)).toUInt32.toUInt16.toUInt32.toInt32).toInt8.toInt32))] (.int (0 : Int32)) := (F59.keep K54 (ninS ne_t_23_b40 nin0))
    have ne_t_23_b_61 : ¬ (t_23 = b_61) := Nat.ne_of_lt (Nat.lt_of_lt_of_le F67.lt G61_0)
    have F68 : Arv Z T54.heap b26 kc26 .char (2 : Int32) [(.int (nar .char ((d &&& (255 : Int32)).toUInt32.toUInt16.toUInt32.toInt32))), (.int (nar .char ((((d.toUInt32 >>> ((8 : Int32) &&& 31).toUInt32).toInt32) &&& (255 : Int32)).toUInt32.toUInt16.toUInt32.toInt32)))] (.int (0 : Int32)) := (F50.keep K54 (ninS ne_b26_b40 nin0))
    have ne_b26_b_61 : ¬ (b26 = b_61) := Nat.ne_of_lt (Nat.lt_of_lt_of_le F68.lt G61_0)
    have ne_b40_b_61 : ¬ (b40 = b_61) := Nat.ne_of_lt (Nat.lt_of_lt_of_le Ea54.lt G61_0)
    have ne_t54_b_61 : ¬ (t54 = b_61) := Nat.ne_of_lt (Nat.lt_of_lt_of_le Va54.lt G61_0)
    refine Go.by (T' := T61) (g' := (mkF m 107 #[.val (.int n), .val (.int a), .val (.int d), .val (.int fl), .val (.ref b1), .val (.ref b10), .val (.ref b_23), .val (.ref b26), .val (.ref b40), .unset] [(.ref b_61)])) (fun t_ k_ => st61 _ k_) ?_
    refine Go.by (T' := T61) (g' := (mkF m 109 #[.val (.int n), .val (.int a), .val (.int d), .val (.int fl), .val (.ref b1), .val (.ref b10), .val (.ref b_23), .val (.ref b26), .val (.ref b40), .val (.ref b_61)] [])) (fun t_ k_ => XS.astore X61.here hx rfl (hb hby at_107) rfl rfl (l' := #[.val (.int n), .val (.int a), .val (.int d), .val (.int fl), .val (.ref b1), .val (.ref b10), .val (.ref b_23), .val (.ref b26), .val (.ref b40), .val (.ref b_61)]) rfl k_) ?_
    refine Go.by (T' := T61) (g' := (mkF m 111 #[.val (.int n), .val (.int a), .val (.int d), .val (.int fl), .val (.ref b1), .val (.ref b10), .val (.ref b_23), .val (.ref b26), .val (.ref b40), .val (.ref b_61)] [(.ref b_61)])) (fun t_ k_ => XS.aload X61.here hx rfl (hb hby at_109) rfl rfl k_) ?_
    have Od69 : Old Z n0 T61.heap := (Od60.keep K61 all0)
    obtain ⟨cq70, kq70, q70a, q70b, q70c⟩ := isOf hZ rfl G61_1
    obtain ⟨_, _, ⟨T70, L70, k70, n70⟩, -, X70, ⟨Lc70, hQ70, l70, y70, z70⟩, st70⟩ := X61.virtualBack hx (y := (⟨"com/example/fellwise/fellwise/Syntax$Option", "name", "()Ljava/lang/String;"⟩ : MethodName)) (z := (⟨"com/example/fellwise/fellwise/Syntax$Option", "name", "()Ljava/lang/String;"⟩ : MethodName)) hown (mvT hZ (hw _ (List.mem_of_getElem? (i := 57) rfl))) (mvT hZ (hw _ (List.mem_of_getElem? (i := 58) rfl))) (notFace_of_selects (args := #[]) (mvT hZ (hw _ (List.mem_of_getElem? (i := 60) rfl)))) (mvT hZ (hw _ (List.mem_of_getElem? (i := 60) rfl))) (mvT hZ (hw _ (List.mem_of_getElem? (i := 59) rfl))) (by decide) (backOf (W := 0) (rm_g_name l Z a0 hw [] b_61 b10 T61.heap n0 Od69 G61_2) hZ (hw _ (List.mem_of_getElem? (i := 61) rfl)) (hw _ (List.mem_of_getElem? (i := 32) rfl)) (by decide) (by decide)) q70a q70c (g := (mkF m 111 #[.val (.int n), .val (.int a), .val (.int d), .val (.int fl), .val (.ref b1), .val (.ref b10), .val (.ref b_23), .val (.ref b26), .val (.ref b40), .val (.ref b_61)] [(.ref b_61)])) rfl (by rw [hml]; rfl) (Steps.refl _) (argsL := []) (rest := []) (lenOf pd_9 rfl) rfl (by show 2 * 0 + _ ≤ _; exact Nat.le_of_eq rfl) (hb hby at_111) (fun _ _ => ⟨rfl, rfl, (by decide : 9 + 0 ≤ _), (by decide : 27 + 0 ≤ _)⟩)
    dsimp only [Pt.U, Pt.locs, Pt.cells, Pt.slots] at X70 l70 y70 z70 st70 hQ70
    subst l70 y70 z70
    obtain ⟨rfl, N70q, e70⟩ := hQ70
    have N70 := Fr.app N61 N70q
    refine Go.by (T' := T70) (g' := (mkF m 114 #[.val (.int n), .val (.int a), .val (.int d), .val (.int fl), .val (.ref b1), .val (.ref b10), .val (.ref b_23), .val (.ref b26), .val (.ref b40), .val (.ref b_61)] [(.ref b10)])) (fun t_ k_ => st70.trans k_) ?_
    refine Go.by (T' := T70) (g' := (mkF m 116 #[.val (.int n), .val (.int a), .val (.int d), .val (.int fl), .val (.ref b1), .val (.ref b10), .val (.ref b_23), .val (.ref b26), .val (.ref b40), .val (.ref b_61)] [(.ref b10), (.ref b10)])) (fun t_ k_ => XS.aload X70.here hx rfl (hb hby at_114) rfl rfl k_) ?_
    refine Go.by (T' := T70) (g' := (mkF m 119 #[.val (.int n), .val (.int a), .val (.int d), .val (.int fl), .val (.ref b1), .val (.ref b10), .val (.ref b_23), .val (.ref b26), .val (.ref b40), .val (.ref b_61)] [])) (fun t_ k_ => Jvm.RoadKit.acmp (g := (mkF m 116 #[.val (.int n), .val (.int a), .val (.int d), .val (.int fl), .val (.ref b1), .val (.ref b10), .val (.ref b_23), .val (.ref b26), .val (.ref b40), .val (.ref b_61)] [(.ref b10), (.ref b10)])) X70 hx rfl rfl rfl (pc0 := 116) (pc' := 119) (same := true) rfl (hb hby at_116) rfl (decide_eq_true rfl) (by decide) (by decide) k_) ?_
    refine Go.by (T' := T70) (g' := (mkF m 121 #[.val (.int n), .val (.int a), .val (.int d), .val (.int fl), .val (.ref b1), .val (.ref b10), .val (.ref b_23), .val (.ref b26), .val (.ref b40), .val (.ref b_61)] [(.ref b_61)])) (fun t_ k_ => XS.aload X70.here hx rfl (hb hby at_119) rfl rfl k_) ?_
    obtain ⟨cq71, kq71, q71a, q71b, q71c⟩ := isOf hZ e70 G61_1
    obtain ⟨_, _, ⟨T71, L71, k71, n71⟩, -, X71, ⟨Lc71, hQ71, l71, y71, z71⟩, st71⟩ := X70.virtualBack hx (y := (⟨"com/example/fellwise/fellwise/Syntax$Option", "alias", "()Ljava/lang/String;"⟩ : MethodName)) (z := (⟨"com/example/fellwise/fellwise/Syntax$Option", "alias", "()Ljava/lang/String;"⟩ : MethodName)) hown (mvT hZ (hw _ (List.mem_of_getElem? (i := 62) rfl))) (mvT hZ (hw _ (List.mem_of_getElem? (i := 63) rfl))) (notFace_of_selects (args := #[]) (mvT hZ (hw _ (List.mem_of_getElem? (i := 65) rfl)))) (mvT hZ (hw _ (List.mem_of_getElem? (i := 65) rfl))) (mvT hZ (hw _ (List.mem_of_getElem? (i := 64) rfl))) (by decide) (backOf (W := 0) (rm_g_alias l Z a0 hw [] b_61 (.ref b_23) T61.heap n0 Od69 G61_3 rfl) hZ (hw _ (List.mem_of_getElem? (i := 66) rfl)) (hw _ (List.mem_of_getElem? (i := 32) rfl)) (by decide) (by decide)) q71a q71c (g := (mkF m 121 #[.val (.int n), .val (.int a), .val (.int d), .val (.int fl), .val (.ref b1), .val (.ref b10), .val (.ref b_23), .val (.ref b26), .val (.ref b40), .val (.ref b_61)] [(.ref b_61)])) rfl (by rw [hml]; rfl) (Steps.refl _) (argsL := []) (rest := []) (lenOf pd_9 rfl) rfl (by show 2 * 0 + _ ≤ _; exact Nat.le_of_eq rfl) (hb hby at_121) (fun _ _ => ⟨rfl, e70, (by decide : 9 + 0 ≤ _), (by decide : 27 + 0 ≤ _)⟩)
    dsimp only [Pt.U, Pt.locs, Pt.cells, Pt.slots] at X71 l71 y71 z71 st71 hQ71
    subst l71 y71 z71
    obtain ⟨rfl, N71q, e71⟩ := hQ71
    have N71 := Fr.app N70 N71q
    refine Go.by (T' := T71) (g' := (mkF m 124 #[.val (.int n), .val (.int a), .val (.int d), .val (.int fl), .val (.ref b1), .val (.ref b10), .val (.ref b_23), .val (.ref b26), .val (.ref b40), .val (.ref b_61)] [(.ref b_23)])) (fun t_ k_ => st71.trans k_) ?_
    refine Go.by (T' := T71) (g' := (mkF m 126 #[.val (.int n), .val (.int a), .val (.int d), .val (.int fl), .val (.ref b1), .val (.ref b10), .val (.ref b_23), .val (.ref b26), .val (.ref b40), .val (.ref b_61)] [(.ref b_23), (.ref b_23)])) (fun t_ k_ => XS.aload X71.here hx rfl (hb hby at_124) rfl rfl k_) ?_
    refine Go.by (T' := T71) (g' := (mkF m 129 #[.val (.int n), .val (.int a), .val (.int d), .val (.int fl), .val (.ref b1), .val (.ref b10), .val (.ref b_23), .val (.ref b26), .val (.ref b40), .val (.ref b_61)] [])) (fun t_ k_ => Jvm.RoadKit.acmp (g := (mkF m 126 #[.val (.int n), .val (.int a), .val (.int d), .val (.int fl), .val (.ref b1), .val (.ref b10), .val (.ref b_23), .val (.ref b26), .val (.ref b40), .val (.ref b_61)] [(.ref b_23), (.ref b_23)])) X71 hx rfl rfl rfl (pc0 := 126) (pc' := 129) (same := true) rfl (hb hby at_126) rfl (decide_eq_true rfl) (by decide) (by decide) k_) ?_
    refine Go.by (T' := T71) (g' := (mkF m 131 #[.val (.int n), .val (.int a), .val (.int d), .val (.int fl), .val (.ref b1), .val (.ref b10), .val (.ref b_23), .val (.ref b26), .val (.ref b40), .val (.ref b_61)] [(.ref b_61)])) (fun t_ k_ => XS.aload X71.here hx rfl (hb hby at_129) rfl rfl k_) ?_
    obtain ⟨cq72, kq72, q72a, q72b, q72c⟩ := isOf hZ e71 G61_1
    obtain ⟨_, _, ⟨T72, L72, k72, n72⟩, -, X72, ⟨Lc72, hQ72, l72, y72, z72⟩, st72⟩ := X71.virtualBack hx (y := (⟨"com/example/fellwise/fellwise/Syntax$Option", "description", "()Ljava/lang/String;"⟩ : MethodName)) (z := (⟨"com/example/fellwise/fellwise/Syntax$Option", "description", "()Ljava/lang/String;"⟩ : MethodName)) hown (mvT hZ (hw _ (List.mem_of_getElem? (i := 67) rfl))) (mvT hZ (hw _ (List.mem_of_getElem? (i := 68) rfl))) (notFace_of_selects (args := #[]) (mvT hZ (hw _ (List.mem_of_getElem? (i := 70) rfl)))) (mvT hZ (hw _ (List.mem_of_getElem? (i := 70) rfl))) (mvT hZ (hw _ (List.mem_of_getElem? (i := 69) rfl))) (by decide) (backOf (W := 0) (rm_g_description l Z a0 hw [] b_61 b40 T61.heap n0 Od69 G61_7) hZ (hw _ (List.mem_of_getElem? (i := 71) rfl)) (hw _ (List.mem_of_getElem? (i := 32) rfl)) (by decide) (by decide)) q72a q72c (g := (mkF m 131 #[.val (.int n), .val (.int a), .val (.int d), .val (.int fl), .val (.ref b1), .val (.ref b10), .val (.ref b_23), .val (.ref b26), .val (.ref b40), .val (.ref b_61)] [(.ref b_61)])) rfl (by rw [hml]; rfl) (Steps.refl _) (argsL := []) (rest := []) (lenOf pd_9 rfl) rfl (by show 2 * 0 + _ ≤ _; exact Nat.le_of_eq rfl) (hb hby at_131) (fun _ _ => ⟨rfl, e71, (by decide : 9 + 0 ≤ _), (by decide : 27 + 0 ≤ _)⟩)
    dsimp only [Pt.U, Pt.locs, Pt.cells, Pt.slots] at X72 l72 y72 z72 st72 hQ72
    subst l72 y72 z72
    obtain ⟨rfl, N72q, e72⟩ := hQ72
    have N72 := Fr.app N71 N72q
    refine Go.by (T' := T72) (g' := (mkF m 134 #[.val (.int n), .val (.int a), .val (.int d), .val (.int fl), .val (.ref b1), .val (.ref b10), .val (.ref b_23), .val (.ref b26), .val (.ref b40), .val (.ref b_61)] [(.ref b40)])) (fun t_ k_ => st72.trans k_) ?_
    refine Go.by (T' := T72) (g' := (mkF m 136 #[.val (.int n), .val (.int a), .val (.int d), .val (.int fl), .val (.ref b1), .val (.ref b10), .val (.ref b_23), .val (.ref b26), .val (.ref b40), .val (.ref b_61)] [(.ref b40), (.ref b40)])) (fun t_ k_ => XS.aload X72.here hx rfl (hb hby at_134) rfl rfl k_) ?_
    refine Go.by (T' := T72) (g' := (mkF m 139 #[.val (.int n), .val (.int a), .val (.int d), .val (.int fl), .val (.ref b1), .val (.ref b10), .val (.ref b_23), .val (.ref b26), .val (.ref b40), .val (.ref b_61)] [])) (fun t_ k_ => Jvm.RoadKit.acmp (g := (mkF m 136 #[.val (.int n), .val (.int a), .val (.int d), .val (.int fl), .val (.ref b1), .val (.ref b10), .val (.ref b_23), .val (.ref b26), .val (.ref b40), .val (.ref b_61)] [(.ref b40), (.ref b40)])) X72 hx rfl rfl rfl (pc0 := 136) (pc' := 139) (same := true) rfl (hb hby at_136) rfl (decide_eq_true rfl) (by decide) (by decide) k_) ?_
    refine Go.by (T' := T72) (g' := (mkF m 141 #[.val (.int n), .val (.int a), .val (.int d), .val (.int fl), .val (.ref b1), .val (.ref b10), .val (.ref b_23), .val (.ref b26), .val (.ref b40), .val (.ref b_61)] [(.ref b_61)])) (fun t_ k_ => XS.aload X72.here hx rfl (hb hby at_139) rfl rfl k_) ?_
    obtain ⟨cq73, kq73, q73a, q73b, q73c⟩ := isOf hZ e72 G61_1
    obtain ⟨_, _, ⟨T73, L73, k73, n73⟩, -, X73, ⟨Lc73, hQ73, l73, y73, z73⟩, st73⟩ := X72.virtualBack hx (y := (⟨"com/example/fellwise/fellwise/Syntax$Option", "label", "()Ljava/lang/String;"⟩ : MethodName)) (z := (⟨"com/example/fellwise/fellwise/Syntax$Option", "label", "()Ljava/lang/String;"⟩ : MethodName)) hown (mvT hZ (hw _ (List.mem_of_getElem? (i := 72) rfl))) (mvT hZ (hw _ (List.mem_of_getElem? (i := 73) rfl))) (notFace_of_selects (args := #[]) (mvT hZ (hw _ (List.mem_of_getElem? (i := 75) rfl)))) (mvT hZ (hw _ (List.mem_of_getElem? (i := 75) rfl))) (mvT hZ (hw _ (List.mem_of_getElem? (i := 74) rfl))) (by decide) (backOf (W := 0) (rm_g_label l Z a0 hw [] b_61 T61.heap n0 Od69 G61_4) hZ (hw _ (List.mem_of_getElem? (i := 76) rfl)) (hw _ (List.mem_of_getElem? (i := 32) rfl)) (by decide) (by decide)) q73a q73c (g := (mkF m 141 #[.val (.int n), .val (.int a), .val (.int d), .val (.int fl), .val (.ref b1), .val (.ref b10), .val (.ref b_23), .val (.ref b26), .val (.ref b40), .val (.ref b_61)] [(.ref b_61)])) rfl (by rw [hml]; rfl) (Steps.refl _) (argsL := []) (rest := []) (lenOf pd_9 rfl) rfl (by show 2 * 0 + _ ≤ _; exact Nat.le_of_eq rfl) (hb hby at_141) (fun _ _ => ⟨rfl, e72, (by decide : 9 + 0 ≤ _), (by decide : 27 + 0 ≤ _)⟩)
    dsimp only [Pt.U, Pt.locs, Pt.cells, Pt.slots] at X73 l73 y73 z73 st73 hQ73
    subst l73 y73 z73
    obtain ⟨rfl, N73q, e73⟩ := hQ73
    have N73 := Fr.app N72 N73q
    refine Go.by (T' := T73) (g' := (mkF m 144 #[.val (.int n), .val (.int a), .val (.int d), .val (.int fl), .val (.ref b1), .val (.ref b10), .val (.ref b_23), .val (.ref b26), .val (.ref b40), .val (.ref b_61)] [.null])) (fun t_ k_ => st73.trans k_) ?_
    refine Go.by (T' := T73) (g' := (mkF m 147 #[.val (.int n), .val (.int a), .val (.int d), .val (.int fl), .val (.ref b1), .val (.ref b10), .val (.ref b_23), .val (.ref b26), .val (.ref b40), .val (.ref b_61)] [])) (fun t_ k_ => XS.ifnonnullNo X73.here hx rfl (hb hby at_144) rfl k_) ?_
    refine Go.by (T' := T73) (g' := (mkF m 149 #[.val (.int n), .val (.int a), .val (.int d), .val (.int fl), .val (.ref b1), .val (.ref b10), .val (.ref b_23), .val (.ref b26), .val (.ref b40), .val (.ref b_61)] [(.ref b_61)])) (fun t_ k_ => XS.aload X73.here hx rfl (hb hby at_147) rfl rfl k_) ?_
    obtain ⟨cq74, kq74, q74a, q74b, q74c⟩ := isOf hZ e73 G61_1
    obtain ⟨_, _, ⟨T74, L74, k74, n74⟩, -, X74, ⟨Lc74, hQ74, l74, y74, z74⟩, st74⟩ := X73.virtualBack hx (y := (⟨"com/example/fellwise/fellwise/Syntax$Option", "required", "()Z"⟩ : MethodName)) (z := (⟨"com/example/fellwise/fellwise/Syntax$Option", "required", "()Z"⟩ : MethodName)) hown (mvT hZ (hw _ (List.mem_of_getElem? (i := 77) rfl))) (mvT hZ (hw _ (List.mem_of_getElem? (i := 78) rfl))) (notFace_of_selects (args := #[]) (mvT hZ (hw _ (List.mem_of_getElem? (i := 80) rfl)))) (mvT hZ (hw _ (List.mem_of_getElem? (i := 80) rfl))) (mvT hZ (hw _ (List.mem_of_getElem? (i := 79) rfl))) (by decide) (backOf (W := 0) (rm_g_required l Z a0 hw [] b_61 T61.heap n0 Od69 G61_5) hZ (hw _ (List.mem_of_getElem? (i := 81) rfl)) (hw _ (List.mem_of_getElem? (i := 32) rfl)) (by decide) (by decide)) q74a q74c (g := (mkF m 149 #[.val (.int n), .val (.int a), .val (.int d), .val (.int fl), .val (.ref b1), .val (.ref b10), .val (.ref b_23), .val (.ref b26), .val (.ref b40), .val (.ref b_61)] [(.ref b_61)])) rfl (by rw [hml]; rfl) (Steps.refl _) (argsL := []) (rest := []) (lenOf pd_5 rfl) rfl (by show 2 * 0 + _ ≤ _; exact Nat.le_of_eq rfl) (hb hby at_149) (fun _ _ => ⟨rfl, e73, (by decide : 9 + 0 ≤ _), (by decide : 27 + 0 ≤ _)⟩)
    dsimp only [Pt.U, Pt.locs, Pt.cells, Pt.slots] at X74 l74 y74 z74 st74 hQ74
    subst l74 y74 z74
    obtain ⟨rfl, N74q, e74⟩ := hQ74
    have N74 := Fr.app N73 N74q
    refine Go.by (T' := T74) (g' := (mkF m 152 #[.val (.int n), .val (.int a), .val (.int d), .val (.int fl), .val (.ref b1), .val (.ref b10), .val (.ref b_23), .val (.ref b26), .val (.ref b40), .val (.ref b_61)] [(.int (0 : Int32))])) (fun t_ k_ => st74.trans k_) ?_
    refine Go.by (T' := T74) (g' := (mkF m 155 #[.val (.int n), .val (.int a), .val (.int d), .val (.int fl), .val (.ref b1), .val (.ref b10), .val (.ref b_23), .val (.ref b26), .val (.ref b40), .val (.ref b_61)] [])) (fun t_ k_ => XS.ifNo X74.here hx rfl (hb hby at_152) rfl ((if0 _ _).trans (teq rfl).2) k_) ?_
    refine Go.by (T' := T74) (g' := (mkF m 157 #[.val (.int n), .val (.int a), .val (.int d), .val (.int fl), .val (.ref b1), .val (.ref b10), .val (.ref b_23), .val (.ref b26), .val (.ref b40), .val (.ref b_61)] [(.ref b_61)])) (fun t_ k_ => XS.aload X74.here hx rfl (hb hby at_155) rfl rfl k_) ?_
    obtain ⟨cq75, kq75, q75a, q75b, q75c⟩ := isOf hZ e74 G61_1
    obtain ⟨_, _, ⟨T75, L75, k75, n75⟩, -, X75, ⟨Lc75, hQ75, l75, y75, z75⟩, st75⟩ := X74.virtualBack hx (y := (⟨"com/example/fellwise/fellwise/Syntax$Option", "defaultValue", "()Ljava/lang/String;"⟩ : MethodName)) (z := (⟨"com/example/fellwise/fellwise/Syntax$Option", "defaultValue", "()Ljava/lang/String;"⟩ : MethodName)) hown (mvT hZ (hw _ (List.mem_of_getElem? (i := 82) rfl))) (mvT hZ (hw _ (List.mem_of_getElem? (i := 83) rfl))) (notFace_of_selects (args := #[]) (mvT hZ (hw _ (List.mem_of_getElem? (i := 85) rfl)))) (mvT hZ (hw _ (List.mem_of_getElem? (i := 85) rfl))) (mvT hZ (hw _ (List.mem_of_getElem? (i := 84) rfl))) (by decide) (backOf (W := 0) (rm_g_defaultValue l Z a0 hw [] b_61 T61.heap n0 Od69 G61_6) hZ (hw _ (List.mem_of_getElem? (i := 86) rfl)) (hw _ (List.mem_of_getElem? (i := 32) rfl)) (by decide) (by decide)) q75a q75c (g := (mkF m 157 #[.val (.int n), .val (.int a), .val (.int d), .val (.int fl), .val (.ref b1), .val (.ref b10), .val (.ref b_23), .val (.ref b26), .val (.ref b40), .val (.ref b_61)] [(.ref b_61)])) rfl (by rw [hml]; rfl) (Steps.refl _) (argsL := []) (rest := []) (lenOf pd_9 rfl) rfl (by show 2 * 0 + _ ≤ _; exact Nat.le_of_eq rfl) (hb hby at_157) (fun _ _ => ⟨rfl, e74, (by decide : 9 + 0 ≤ _), (by decide : 27 + 0 ≤ _)⟩)
    dsimp only [Pt.U, Pt.locs, Pt.cells, Pt.slots] at X75 l75 y75 z75 st75 hQ75
    subst l75 y75 z75
    obtain ⟨rfl, N75q, e75⟩ := hQ75
    have N75 := Fr.app N74 N75q
    refine Go.by (T' := T75) (g' := (mkF m 160 #[.val (.int n), .val (.int a), .val (.int d), .val (.int fl), .val (.ref b1), .val (.ref b10), .val (.ref b_23), .val (.ref b26), .val (.ref b40), .val (.ref b_61)] [.null])) (fun t_ k_ => st75.trans k_) ?_
    refine Go.by (T' := T75) (g' := (mkF m 163 #[.val (.int n), .val (.int a), .val (.int d), .val (.int fl), .val (.ref b1), .val (.ref b10), .val (.ref b_23), .val (.ref b26), .val (.ref b40), .val (.ref b_61)] [])) (fun t_ k_ => XS.ifnonnullNo X75.here hx rfl (hb hby at_160) rfl k_) ?_
    refine Go.by (T' := T75) (g' := (mkF m 165 #[.val (.int n), .val (.int a), .val (.int d), .val (.int fl), .val (.ref b1), .val (.ref b10), .val (.ref b_23), .val (.ref b26), .val (.ref b40), .val (.ref b_61)] [(.ref b_61)])) (fun t_ k_ => XS.aload X75.here hx rfl (hb hby at_163) rfl rfl k_) ?_
    obtain ⟨cq76, kq76, q76a, q76b, q76c⟩ := isOf hZ e75 G61_1
    obtain ⟨_, _, ⟨T76, L76, k76, n76⟩, -, X76, ⟨Lc76, hQ76, l76, y76, z76⟩, st76⟩ := X75.virtualBack hx (y := (⟨"com/example/fellwise/fellwise/Syntax$Option", "takesValue", "()Z"⟩ : MethodName)) (z := (⟨"com/example/fellwise/fellwise/Syntax$Option", "takesValue", "()Z"⟩ : MethodName)) hown (mvT hZ (hw _ (List.mem_of_getElem? (i := 87) rfl))) (mvT hZ (hw _ (List.mem_of_getElem? (i := 88) rfl))) (notFace_of_selects (args := #[]) (mvT hZ (hw _ (List.mem_of_getElem? (i := 90) rfl)))) (mvT hZ (hw _ (List.mem_of_getElem? (i := 90) rfl))) (mvT hZ (hw _ (List.mem_of_getElem? (i := 89) rfl))) (by decide) (backOf (W := 0) (rm_takes l Z a0 hw [] b_61 T61.heap n0 Od69 G61_4) hZ (hw _ (List.mem_of_getElem? (i := 91) rfl)) (hw _ (List.mem_of_getElem? (i := 32) rfl)) (by decide) (by decide)) q76a q76c (g := (mkF m 165 #[.val (.int n), .val (.int a), .val (.int d), .val (.int fl), .val (.ref b1), .val (.ref b10), .val (.ref b_23), .val (.ref b26), .val (.ref b40), .val (.ref b_61)] [(.ref b_61)])) rfl (by rw [hml]; rfl) (Steps.refl _) (argsL := []) (rest := []) (lenOf pd_5 rfl) rfl (by show 2 * 0 + _ ≤ _; exact Nat.le_of_eq rfl) (hb hby at_165) (fun _ _ => ⟨rfl, e75, (by decide : 9 + 0 ≤ _), (by decide : 27 + 0 ≤ _)⟩)
    dsimp only [Pt.U, Pt.locs, Pt.cells, Pt.slots] at X76 l76 y76 z76 st76 hQ76
    subst l76 y76 z76
    obtain ⟨rfl, N76q, e76⟩ := hQ76
    have N76 := Fr.app N75 N76q
    refine Go.by (T' := T76) (g' := (mkF m 168 #[.val (.int n), .val (.int a), .val (.int d), .val (.int fl), .val (.ref b1), .val (.ref b10), .val (.ref b_23), .val (.ref b26), .val (.ref b40), .val (.ref b_61)] [(.int 0)])) (fun t_ k_ => st76.trans k_) ?_
    refine Go.by (T' := T76) (g' := (mkF m 171 #[.val (.int n), .val (.int a), .val (.int d), .val (.int fl), .val (.ref b1), .val (.ref b10), .val (.ref b_23), .val (.ref b26), .val (.ref b40), .val (.ref b_61)] [])) (fun t_ k_ => XS.ifNo X76.here hx rfl (hb hby at_168) rfl ((if0 _ _).trans (teq rfl).2) k_) ?_
    refine Go.by (T' := T76) (g' := (mkF m 173 #[.val (.int n), .val (.int a), .val (.int d), .val (.int fl), .val (.ref b1), .val (.ref b10), .val (.ref b_23), .val (.ref b26), .val (.ref b40), .val (.ref b_61)] [(.ref b10)])) (fun t_ k_ => XS.aload X76.here hx rfl (hb hby at_171) rfl rfl k_) ?_
    refine Go.by (T' := T76) (g' := (mkF m 175 #[.val (.int n), .val (.int a), .val (.int d), .val (.int fl), .val (.ref b1), .val (.ref b10), .val (.ref b_23), .val (.ref b26), .val (.ref b40), .val (.ref b_61)] [(.ref b_61), (.ref b10)])) (fun t_ k_ => XS.aload X76.here hx rfl (hb hby at_173) rfl rfl k_) ?_
    obtain ⟨cq77, kq77, q77a, q77b, q77c⟩ := isOf hZ e76 G61_1
    obtain ⟨_, _, ⟨T77, L77, k77, n77⟩, -, X77, ⟨Lc77, hQ77, l77, y77, z77⟩, st77⟩ := X76.virtualBack hx (y := (⟨"com/example/fellwise/fellwise/Syntax$Option", "usage", "()Ljava/lang/String;"⟩ : MethodName)) (z := (⟨"com/example/fellwise/fellwise/Syntax$Option", "usage", "()Ljava/lang/String;"⟩ : MethodName)) hown (mvT hZ (hw _ (List.mem_of_getElem? (i := 92) rfl))) (mvT hZ (hw _ (List.mem_of_getElem? (i := 93) rfl))) (notFace_of_selects (args := #[]) (mvT hZ (hw _ (List.mem_of_getElem? (i := 95) rfl)))) (mvT hZ (hw _ (List.mem_of_getElem? (i := 95) rfl))) (mvT hZ (hw _ (List.mem_of_getElem? (i := 94) rfl))) (by decide) (backOf (W := 1) (rm_usage l Z a0 hw [] b_61 b10 T61.heap n0 Od69 G61_1 G61_4 G61_2) hZ (hw _ (List.mem_of_getElem? (i := 96) rfl)) (hw _ (List.mem_of_getElem? (i := 32) rfl)) (by decide) (by decide)) q77a q77c (g := (mkF m 175 #[.val (.int n), .val (.int a), .val (.int d), .val (.int fl), .val (.ref b1), .val (.ref b10), .val (.ref b_23), .val (.ref b26), .val (.ref b40), .val (.ref b_61)] [(.ref b_61), (.ref b10)])) rfl (by rw [hml]; rfl) (Steps.refl _) (argsL := []) (rest := [(.ref b10)]) (lenOf pd_9 rfl) rfl (by show 2 * 0 + _ ≤ _; exact Nat.le_of_eq rfl) (hb hby at_175) (fun _ _ => ⟨rfl, e76, (by decide : 9 + 0 ≤ _), (by decide : 27 + 0 ≤ _)⟩)
    dsimp only [Pt.U, Pt.locs, Pt.cells, Pt.slots] at X77 l77 y77 z77 st77 hQ77
    subst l77 y77 z77
    obtain ⟨rfl, N77q, e77⟩ := hQ77
    have N77 := Fr.app N76 N77q
    refine Go.by (T' := T77) (g' := (mkF m 178 #[.val (.int n), .val (.int a), .val (.int d), .val (.int fl), .val (.ref b1), .val (.ref b10), .val (.ref b_23), .val (.ref b26), .val (.ref b40), .val (.ref b_61)] [(.ref b10), (.ref b10)])) (fun t_ k_ => st77.trans k_) ?_
    have F79 : Exa Z T61.heap b10 "java/lang/String" := (F64.keep K61)
    obtain ⟨cq78, kq78, q78a, q78b, q78c⟩ := isOf hZ e77 F79
    obtain ⟨_, _, ⟨T78, L78, k78, n78⟩, -, X78, ⟨Lc78, hQ78, l78, y78, z78⟩, st78⟩ := X77.virtualBack hx (y := (⟨"java/lang/String", "equals", "(Ljava/lang/Object;)Z"⟩ : MethodName)) (z := (⟨"java/lang/String", "equals", "(Ljava/lang/Object;)Z"⟩ : MethodName)) hown (mvT hZ (hw _ (List.mem_of_getElem? (i := 98) rfl))) (mvT hZ (hw _ (List.mem_of_getElem? (i := 99) rfl))) (notFace_of_selects (args := #[]) (mvT hZ (hw _ (List.mem_of_getElem? (i := 101) rfl)))) (mvT hZ (hw _ (List.mem_of_getElem? (i := 101) rfl))) (mvT hZ (hw _ (List.mem_of_getElem? (i := 100) rfl))) (by decide) (backOf (W := 0) (rm_eqs l Z a0 hw [] b10 T61.heap n0 Od69 ) hZ (hw _ (List.mem_of_getElem? (i := 102) rfl)) (hw _ (List.mem_of_getElem? (i := 3) rfl)) (by decide) (by decide)) q78a q78c (g := (mkF m 178 #[.val (.int n), .val (.int a), .val (.int d), .val (.int fl), .val (.ref b1), .val (.ref b10), .val (.ref b_23), .val (.ref b26), .val (.ref b40), .val (.ref b_61)] [(.ref b10), (.ref b10)])) rfl (by rw [hml]; rfl) (Steps.refl _) (argsL := [(.ref b10)]) (rest := []) (lenOf pd_10 rfl) rfl (by show 2 * 0 + _ ≤ _; exact Nat.le_of_eq rfl) (hb hby at_178) (fun _ _ => ⟨rfl, e77, (by decide : 9 + 0 ≤ _), (by decide : 27 + 0 ≤ _)⟩)
    dsimp only [Pt.U, Pt.locs, Pt.cells, Pt.slots] at X78 l78 y78 z78 st78 hQ78
    subst l78 y78 z78
    obtain ⟨rfl, N78q, e78⟩ := hQ78
    have N78 := Fr.app N77 N78q
    refine Go.by (T' := T78) (g' := (mkF m 181 #[.val (.int n), .val (.int a), .val (.int d), .val (.int fl), .val (.ref b1), .val (.ref b10), .val (.ref b_23), .val (.ref b26), .val (.ref b40), .val (.ref b_61)] [(.int 1)])) (fun t_ k_ => st78.trans k_) ?_
    refine Go.by (T' := T78) (g' := (mkF m 184 #[.val (.int n), .val (.int a), .val (.int d), .val (.int fl), .val (.ref b1), .val (.ref b10), .val (.ref b_23), .val (.ref b26), .val (.ref b40), .val (.ref b_61)] [])) (fun t_ k_ => XS.ifNo X78.here hx rfl (hb hby at_181) rfl ((if0 _ _).trans (feq (by decide)).1) k_) ?_
    refine Go.by (T' := T78) (g' := (mkF m 185 #[.val (.int n), .val (.int a), .val (.int d), .val (.int fl), .val (.ref b1), .val (.ref b10), .val (.ref b_23), .val (.ref b26), .val (.ref b40), .val (.ref b_61)] [(.int (1 : Int32))])) (fun t_ k_ => XS.iconst X78.here hx rfl (hb hby at_184) k_) ?_
    refine Go.by (T' := T78) (g' := (mkF m 189 #[.val (.int n), .val (.int a), .val (.int d), .val (.int fl), .val (.ref b1), .val (.ref b10), .val (.ref b_23), .val (.ref b26), .val (.ref b40), .val (.ref b_61)] [(.int (1 : Int32))])) (fun t_ k_ => XS.goto X78.here hx rfl (pc0 := 185) (pc' := 189) rfl (hb hby at_185) (by decide) (by decide) k_) ?_
    refine Go.fin X78 (v := some (.int (nar .boolean (1 : Int32)))) (fun h => by rw [Bd.returns] at h; cases h) hlk (by decide) (by decide) ?_ (fun fs hr => retN X78 hx (t := .boolean) Bd.returns (by simp) (hb hby at_189) hr)
    show Q_law Z n a d fl G1 h0 n0 _ T78.heap _
    rw [e78]
    exact ⟨rfl, N78⟩
  · skip
    refine Go.by (T' := T19) (g' := (mkF m 59 #[.val (.int n), .val (.int a), .val (.int d), .val (.int fl), .val (.ref b1), .val (.ref b10), .val .null, .unset, .unset, .unset] [])) (fun t_ k_ => XS.ifYes X19.here hx rfl (pc0 := 45) (pc' := 59) rfl (hb hby at_45) rfl ((if0 _ _).trans (feq hc21).2) (by decide) (by decide) k_) ?_
    refine Go.by (T' := T19) (g' := (mkF m 60 #[.val (.int n), .val (.int a), .val (.int d), .val (.int fl), .val (.ref b1), .val (.ref b10), .val .null, .unset, .unset, .unset] [(.int (2 : Int32))])) (fun t_ k_ => XS.iconst X19.here hx rfl (hb hby at_59) k_) ?_
    obtain ⟨T80, h80, kc80, X80, e80, E80, A80, st80⟩ := newP X19 hx hZ (hw _ (List.mem_of_getElem? (i := 0) rfl)) rfl (g := (mkF m 60 #[.val (.int n), .val (.int a), .val (.int d), .val (.int fl), .val (.ref b1), .val (.ref b10), .val .null, .unset, .unset, .unset] [(.int (2 : Int32))])) rfl (hb hby at_60) rfl (by decide) (cap := 2) (by decide) (by decide) (by decide) (by decide)
    obtain ⟨b80, g80⟩ : ∃ z, z = T19.heap.size := ⟨_, rfl⟩
    rw [← g80] at A80 st80
    have Od81 : Old Z n0 T19.heap := (Od16.keep K19 (allS ge_b10 all0))
    have ge_b80 : n0 ≤ b80 := Nat.le_trans Od81.sz (Nat.le_of_eq g80.symm)
    have Kp82 : Keep h0 T19.heap [] := (Kp17.trans K19 (allS (Or.inr sz_b10) all0))
    have sz_b80 : h0.size ≤ b80 := Nat.le_trans Kp82.1 (Nat.le_of_eq g80.symm)
    have F83 : Arv Z T19.heap b1 kc1 .char (2 : Int32) [(.int (nar .char ((n &&& (255 : Int32)).toUInt32.toUInt16.toUInt32.toInt32))), (.int (nar .char ((((n.toUInt32 >>> ((8 : Int32) &&& 31).toUInt32).toInt32) &&& (255 : Int32)).toUInt32.toUInt16.toUInt32.toInt32)))] (.int (0 : Int32)) := (F15.keep K19 (ninS ne_b1_b10 nin0))
    have ne_b1_b80 : ¬ (b1 = b80) := Nat.ne_of_lt (Nat.lt_of_lt_of_le F83.lt (Nat.le_of_eq g80.symm))
    have ne_b10_b80 : ¬ (b10 = b80) := Nat.ne_of_lt (Nat.lt_of_lt_of_le Ea19.lt (Nat.le_of_eq g80.symm))
    have ne_t19_b80 : ¬ (t19 = b80) := Nat.ne_of_lt (Nat.lt_of_lt_of_le Va19.lt (Nat.le_of_eq g80.symm))
    have V80 : Arv Z h80 b80 kc80 .char (2 : Int32) [(.int (0 : Int32)), (.int (0 : Int32))] (.int (0 : Int32)) := (Arv.new A80 (by decide)).pad (pad_rep [] (.int (0 : Int32)) 2)
    refine Go.by (T' := T80) (g' := (mkF m 62 #[.val (.int n), .val (.int a), .val (.int d), .val (.int fl), .val (.ref b1), .val (.ref b10), .val .null, .unset, .unset, .unset] [(.ref b80)])) (fun t_ k_ => st80 _ k_) ?_
    refine Go.by (T' := T80) (g' := (mkF m 64 #[.val (.int n), .val (.int a), .val (.int d), .val (.int fl), .val (.ref b1), .val (.ref b10), .val .null, .val (.ref b80), .unset, .unset] [])) (fun t_ k_ => XS.astore X80.here hx rfl (hb hby at_62) rfl rfl (l' := #[.val (.int n), .val (.int a), .val (.int d), .val (.int fl), .val (.ref b1), .val (.ref b10), .val .null, .val (.ref b80), .unset, .unset]) rfl k_) ?_
    refine Go.by (T' := T80) (g' := (mkF m 66 #[.val (.int n), .val (.int a), .val (.int d), .val (.int fl), .val (.ref b1), .val (.ref b10), .val .null, .val (.ref b80), .unset, .unset] [(.ref b80)])) (fun t_ k_ => XS.aload X80.here hx rfl (hb hby at_64) rfl rfl k_) ?_
    refine Go.by (T' := T80) (g' := (mkF m 67 #[.val (.int n), .val (.int a), .val (.int d), .val (.int fl), .val (.ref b1), .val (.ref b10), .val .null, .val (.ref b80), .unset, .unset] [(.int (0 : Int32)), (.ref b80)])) (fun t_ k_ => XS.iconst X80.here hx rfl (hb hby at_66) k_) ?_
    refine Go.by (T' := T80) (g' := (mkF m 68 #[.val (.int n), .val (.int a), .val (.int d), .val (.int fl), .val (.ref b1), .val (.ref b10), .val .null, .val (.ref b80), .unset, .unset] [(.int d), (.int (0 : Int32)), (.ref b80)])) (fun t_ k_ => XS.iloadN X80.here hx rfl (hb hby at_67) rfl k_) ?_
    refine Go.by (T' := T80) (g' := (mkF m 71 #[.val (.int n), .val (.int a), .val (.int d), .val (.int fl), .val (.ref b1), .val (.ref b10), .val .null, .val (.ref b80), .unset, .unset] [(.int (255 : Int32)), (.int d), (.int (0 : Int32)), (.ref b80)])) (fun t_ k_ => XS.sipush X80.here hx rfl (hb hby at_68) k_) ?_
    refine Go.by (T' := T80) (g' := (mkF m 72 #[.val (.int n), .val (.int a), .val (.int d), .val (.int fl), .val (.ref b1), .val (.ref b10), .val .null, .val (.ref b80), .unset, .unset] [(.int (d &&& (255 : Int32))), (.int (0 : Int32)), (.ref b80)])) (fun t_ k_ => XS.iand X80.here hx rfl (hb hby at_71) rfl k_) ?_
    refine Go.by (T' := T80) (g' := (mkF m 73 #[.val (.int n), .val (.int a), .val (.int d), .val (.int fl), .val (.ref b1), .val (.ref b10), .val .null, .val (.ref b80), .unset, .unset] [(.int ((d &&& (255 : Int32)).toUInt32.toUInt16.toUInt32.toInt32)), (.int (0 : Int32)), (.ref b80)])) (fun t_ k_ => XS.i2c X80.here hx rfl (hb hby at_72) rfl k_) ?_
    have Od85 : Old Z n0 h80 := (Od81.ext E80)
    have Kp86 : Keep h0 h80 [] := (Kp82.ext E80)
    obtain ⟨cl84, Ar84, q84, Sz84, Ng84, Hs84, Gs84⟩ := id V80
    obtain ⟨T87, h87, X87, e87, W87, st87⟩ := stC X80 hx hZ e80 Ar84 (j := (0 : Int32)) (inb_of Sz84 ⟨by decide, by decide⟩) (g := (mkF m 73 #[.val (.int n), .val (.int a), .val (.int d), .val (.int fl), .val (.ref b1), .val (.ref b10), .val .null, .val (.ref b80), .unset, .unset] [(.int ((d &&& (255 : Int32)).toUInt32.toUInt16.toUInt32.toInt32)), (.int (0 : Int32)), (.ref b80)])) rfl rfl (hb hby at_73)
    have V87 : Arv Z h87 b80 kc80 .char (2 : Int32) [(.int (nar .char ((d &&& (255 : Int32)).toUInt32.toUInt16.toUInt32.toInt32))), (.int (0 : Int32))] (.int (0 : Int32)) := Arv.set Ar84 q84 Sz84 Ng84 Hs84 Gs84 (fits_nar_char _) W87 0 rfl (Nat.le_of_ble_eq_true rfl)
    have N87 := Fr.snoc X87 N19 ge_b80
    refine Go.by (T' := T87) (g' := (mkF m 74 #[.val (.int n), .val (.int a), .val (.int d), .val (.int fl), .val (.ref b1), .val (.ref b10), .val .null, .val (.ref b80), .unset, .unset] [])) (fun t_ k_ => st87 _ k_) ?_
    refine Go.by (T' := T87) (g' := (mkF m 76 #[.val (.int n), .val (.int a), .val (.int d), .val (.int fl), .val (.ref b1), .val (.ref b10), .val .null, .val (.ref b80), .unset, .unset] [(.ref b80)])) (fun t_ k_ => XS.aload X87.here hx rfl (hb hby at_74) rfl rfl k_) ?_
    refine Go.by (T' := T87) (g' := (mkF m 77 #[.val (.int n), .val (.int a), .val (.int d), .val (.int fl), .val (.ref b1), .val (.ref b10), .val .null, .val (.ref b80), .unset, .unset] [(.int (1 : Int32)), (.ref b80)])) (fun t_ k_ => XS.iconst X87.here hx rfl (hb hby at_76) k_) ?_
    refine Go.by (T' := T87) (g' := (mkF m 78 #[.val (.int n), .val (.int a), .val (.int d), .val (.int fl), .val (.ref b1), .val (.ref b10), .val .null, .val (.ref b80), .unset, .unset] [(.int d), (.int (1 : Int32)), (.ref b80)])) (fun t_ k_ => XS.iloadN X87.here hx rfl (hb hby at_77) rfl k_) ?_
    refine Go.by (T' := T87) (g' := (mkF m 80 #[.val (.int n), .val (.int a), .val (.int d), .val (.int fl), .val (.ref b1), .val (.ref b10), .val .null, .val (.ref b80), .unset, .unset] [(.int (8 : Int32)), (.int d), (.int (1 : Int32)), (.ref b80)])) (fun t_ k_ => XS.bipush X87.here hx rfl (hb hby at_78) k_) ?_
    refine Go.by (T' := T87) (g' := (mkF m 81 #[.val (.int n), .val (.int a), .val (.int d), .val (.int fl), .val (.ref b1), .val (.ref b10), .val .null, .val (.ref b80), .unset, .unset] [(.int ((d.toUInt32 >>> ((8 : Int32) &&& 31).toUInt32).toInt32)), (.int (1 : Int32)), (.ref b80)])) (fun t_ k_ => XS.iushr X87.here hx rfl (hb hby at_80) rfl k_) ?_
    refine Go.by (T' := T87) (g' := (mkF m 84 #[.val (.int n), .val (.int a), .val (.int d), .val (.int fl), .val (.ref b1), .val (.ref b10), .val .null, .val (.ref b80), .unset, .unset] [(.int (255 : Int32)), (.int ((d.toUInt32 >>> ((8 : Int32) &&& 31).toUInt32).toInt32)), (.int (1 : Int32)), (.ref b80)])) (fun t_ k_ => XS.sipush X87.here hx rfl (hb hby at_81) k_) ?_
    refine Go.by (T' := T87) (g' := (mkF m 85 #[.val (.int n), .val (.int a), .val (.int d), .val (.int fl), .val (.ref b1), .val (.ref b10), .val .null, .val (.ref b80), .unset, .unset] [(.int (((d.toUInt32 >>> ((8 : Int32) &&& 31).toUInt32).toInt32) &&& (255 : Int32))), (.int (1 : Int32)), (.ref b80)])) (fun t_ k_ => XS.iand X87.here hx rfl (hb hby at_84) rfl k_) ?_
    refine Go.by (T' := T87) (g' := (mkF m 86 #[.val (.int n), .val (.int a), .val (.int d), .val (.int fl), .val (.ref b1), .val (.ref b10), .val .null, .val (.ref b80), .unset, .unset] [(.int ((((d.toUInt32 >>> ((8 : Int32) &&& 31).toUInt32).toInt32) &&& (255 : Int32)).toUInt32.toUInt16.toUInt32.toInt32)), (.int (1 : Int32)), (.ref b80)])) (fun t_ k_ => XS.i2c X87.here hx rfl (hb hby at_85) rfl k_) ?_
    have Od89 : Old Z n0 h87 := (Od85.wr W87 ge_b80)
    have Kp90 : Keep h0 h87 [] := (Kp86.wr W87 (Or.inr sz_b80))
    obtain ⟨cl88, Ar88, q88, Sz88, Ng88, Hs88, Gs88⟩ := id V87
    obtain ⟨T91, h91, X91, e91, W91, st91⟩ := stC X87 hx hZ e87 Ar88 (j := (1 : Int32)) (inb_of Sz88 ⟨by decide, by decide⟩) (g := (mkF m 86 #[.val (.int n), .val (.int a), .val (.int d), .val (.int fl), .val (.ref b1), .val (.ref b10), .val .null, .val (.ref b80), .unset, .unset] [(.int ((((d.toUInt32 >>> ((8 : Int32) &&& 31).toUInt32).toInt32) &&& (255 : Int32)).toUInt32.toUInt16.toUInt32.toInt32)), (.int (1 : Int32)), (.ref b80)])) rfl rfl (hb hby at_86)
    have V91 : Arv Z h91 b80 kc80 .char (2 : Int32) [(.int (nar .char ((d &&& (255 : Int32)).toUInt32.toUInt16.toUInt32.toInt32))), (.int (nar .char ((((d.toUInt32 >>> ((8 : Int32) &&& 31).toUInt32).toInt32) &&& (255 : Int32)).toUInt32.toUInt16.toUInt32.toInt32)))] (.int (0 : Int32)) := Arv.set Ar88 q88 Sz88 Ng88 Hs88 Gs88 (fits_nar_char _) W91 1 rfl (Nat.le_of_ble_eq_true rfl)
    have N91 := Fr.snoc X91 N87 ge_b80
    refine Go.by (T' := T91) (g' := (mkF m 87 #[.val (.int n), .val (.int a), .val (.int d), .val (.int fl), .val (.ref b1), .val (.ref b10), .val .null, .val (.ref b80), .unset, .unset] [])) (fun t_ k_ => st91 _ k_) ?_
    obtain ⟨T92, h92, X92, e92, E92, A92, Df92, -, st92⟩ := newO X91 hx hZ hown (hw _ (List.mem_of_getElem? (i := 1) rfl)) (hw _ (List.mem_of_getElem? (i := 2) rfl)) (hw _ (List.mem_of_getElem? (i := 3) rfl)) e91 (g := (mkF m 87 #[.val (.int n), .val (.int a), .val (.int d), .val (.int fl), .val (.ref b1), .val (.ref b10), .val .null, .val (.ref b80), .unset, .unset] [])) rfl (hb hby at_87) (by decide) (by decide)
    obtain ⟨b92, g92⟩ : ∃ z, z = h91.size := ⟨_, rfl⟩
    rw [← g92] at A92 Df92 st92
    have Od93 : Old Z n0 h91 := (Od89.wr W91 ge_b80)
    have ge_b92 : n0 ≤ b92 := Nat.le_trans Od93.sz (Nat.le_of_eq g92.symm)
    have Kp94 : Keep h0 h91 [] := (Kp90.wr W91 (Or.inr sz_b80))
    have sz_b92 : h0.size ≤ b92 := Nat.le_trans Kp94.1 (Nat.le_of_eq g92.symm)
    have F95 : Arv Z h91 b1 kc1 .char (2 : Int32) [(.int (nar .char ((n &&& (255 : Int32)).toUInt32.toUInt16.toUInt32.toInt32))), (.int (nar .char ((((n.toUInt32 >>> ((8 : Int32) &&& 31).toUInt32).toInt32) &&& (255 : Int32)).toUInt32.toUInt16.toUInt32.toInt32)))] (.int (0 : Int32)) := (((F83.ext E80).other W87 ne_b1_b80).other W91 ne_b1_b80)
    have ne_b1_b92 : ¬ (b1 = b92) := Nat.ne_of_lt (Nat.lt_of_lt_of_le F95.lt (Nat.le_of_eq g92.symm))
    have F96 : Exa Z h91 b10 "java/lang/String" := (((Ea19.ext E80).wr W87).wr W91)
    have ne_b10_b92 : ¬ (b10 = b92) := Nat.ne_of_lt (Nat.lt_of_lt_of_le F96.lt (Nat.le_of_eq g92.symm))
    have F97 : Arv Z h91 t19 kb19 .byte (2 : Int32) ((([(nar .char ((n &&& (255 : Int32)).toUInt32.toUInt16.toUInt32.toInt32)), (nar .char ((((n.toUInt32 >>> ((8 : Int32) &&& 31).toUInt32).toInt32) &&& (255 : Int32)).toUInt32.toUInt16.toUInt32.toInt32))] : List Int32).map (fun c => c.toInt8.toInt32)).map Value.int) (.int (0 : Int32)) := (((Va19.ext E80).other W87 ne_t19_b80).other W91 ne_t19_b80)
    have ne_t19_b92 : ¬ (t19 = b92) := Nat.ne_of_lt (Nat.lt_of_lt_of_le F97.lt (Nat.le_of_eq g92.symm))
    have ne_b80_b92 : ¬ (b80 = b92) := Nat.ne_of_lt (Nat.lt_of_lt_of_le V91.lt (Nat.le_of_eq g92.symm))
    have F98 : Fld Z h92 b92 "java/lang/String" "coder" "B" (.int (0 : Int32)) := Df92 (Or.inr (hw _ (List.mem_of_getElem? (i := 27) rfl))) (ty := .byte) (by decide)
    have F99 : Fld Z h92 b92 "java/lang/String" "value" "[B" .null := Df92 (Or.inr (hw _ (List.mem_of_getElem? (i := 29) rfl))) (ty := (.array .byte)) (by decide)
    refine Go.by (T' := T92) (g' := (mkF m 90 #[.val (.int n), .val (.int a), .val (.int d), .val (.int fl), .val (.ref b1), .val (.ref b10), .val .null, .val (.ref b80), .unset, .unset] [(.ref b92)])) (fun t_ k_ => st92 _ k_) ?_
    refine Go.by (T' := T92) (g' := (mkF m 91 #[.val (.int n), .val (.int a), .val (.int d), .val (.int fl), .val (.ref b1), .val (.ref b10), .val .null, .val (.ref b80), .unset, .unset] [(.ref b92), (.ref b92)])) (fun t_ k_ => XS.dup X92.here hx rfl (hb hby at_90) rfl rfl k_) ?_
    refine Go.by (T' := T92) (g' := (mkF m 93 #[.val (.int n), .val (.int a), .val (.int d), .val (.int fl), .val (.ref b1), .val (.ref b10), .val .null, .val (.ref b80), .unset, .unset] [(.ref b80), (.ref b92), (.ref b92)])) (fun t_ k_ => XS.aload X92.here hx rfl (hb hby at_91) rfl rfl k_) ?_
    have F100 : Arv Z h92 b80 kc80 .char (2 : Int32) [(.int (nar .char ((d &&& (255 : Int32)).toUInt32.toUInt16.toUInt32.toInt32))), (.int (nar .char ((((d.toUInt32 >>> ((8 : Int32) &&& 31).toUInt32).toInt32) &&& (255 : Int32)).toUInt32.toUInt16.toUInt32.toInt32)))] (.int (0 : Int32)) := (V91.ext E92)
    have Od101 : Old Z n0 h92 := (Od93.ext E92)
    have Kp102 : Keep h0 h92 [] := (Kp94.ext E92)
    have hp103 : ∀ c ∈ ([(nar .char ((d &&& (255 : Int32)).toUInt32.toUInt16.toUInt32.toInt32)), (nar .char ((((d.toUInt32 >>> ((8 : Int32) &&& 31).toUInt32).toInt32) &&& (255 : Int32)).toUInt32.toUInt16.toUInt32.toInt32))] : List Int32), ¬ c < 0 ∧ ¬ (255 : Int32) < c := by
        intro c hc
        simp only [List.mem_cons, List.not_mem_nil, or_false] at hc
        rcases hc with rfl | rfl
        · exact own_and255 d
        · exact own_and255 _
    obtain ⟨_, _, ⟨T104, L104, k104, n104⟩, -, X104, ⟨Lc104, hQ104, l104, y104, z104⟩, st104⟩ := X92.specialBack hx (y := (⟨"java/lang/String", "<init>", "([C)V"⟩ : MethodName)) rfl hown (mvT hZ (hw _ (List.mem_of_getElem? (i := 4) rfl))) (mvT hZ (hw _ (List.mem_of_getElem? (i := 5) rfl))) (mvT hZ (hw _ (List.mem_of_getElem? (i := 6) rfl))) (by decide) (StrChars.Road.backV (W := 1) hZ (own_words hw) (kI := 4) (hw _ (List.mem_of_getElem? (i := 2) rfl)) (cs := ([(nar .char ((d &&& (255 : Int32)).toUInt32.toUInt16.toUInt32.toInt32)), (nar .char ((((d.toUInt32 >>> ((8 : Int32) &&& 31).toUInt32).toInt32) &&& (255 : Int32)).toUInt32.toUInt16.toUInt32.toInt32))] : List Int32)) (bs := ([(nar .char ((d &&& (255 : Int32)).toUInt32.toUInt16.toUInt32.toInt32)), (nar .char ((((d.toUInt32 >>> ((8 : Int32) &&& 31).toUInt32).toInt32) &&& (255 : Int32)).toUInt32.toUInt16.toUInt32.toInt32))] : List Int32).map (fun c => c.toInt8.toInt32)) (n := 2) ge_b92 Od101.sz A92 F99 F98 F100 (P0.ext Od101.2) hCS rfl rfl (by decide) (by decide) hp103 rfl (by decide) (by decide)) (g := (mkF m 93 #[.val (.int n), .val (.int a), .val (.int d), .val (.int fl), .val (.ref b1), .val (.ref b10), .val .null, .val (.ref b80), .unset, .unset] [(.ref b80), (.ref b92), (.ref b92)])) rfl (by rw [hml]; rfl) (Steps.refl _) (a := b92) (argsL := [(.ref b80)]) (rest := [(.ref b92)]) (lenOf pd_6 rfl) rfl (by show 2 * 0 + _ ≤ _; exact Nat.le_of_eq rfl) (hb hby at_93) (fun _ _ => ⟨rfl, e92, (by decide : 5 + 1 ≤ _), (by decide : 14 + 2 ≤ _)⟩)
    dsimp only [Pt.U, Pt.locs, Pt.cells, Pt.slots] at X104 l104 y104 z104 st104 hQ104
    subst l104 y104 z104
    obtain ⟨rfl, N104q, K104, Ea104, Fc104, t104, kb104, ge_t104, nw104, nx104, Fv104, Va104⟩ := hQ104
    have N104 := Fr.app N91 N104q
    have sz_t104 : h0.size ≤ t104 := Nat.le_trans Kp102.1 nw104
    have F105 : Arv Z h92 b1 kc1 .char (2 : Int32) [(.int (nar .char ((n &&& (255 : Int32)).toUInt32.toUInt16.toUInt32.toInt32))), (.int (nar .char ((((n.toUInt32 >>> ((8 : Int32) &&& 31).toUInt32).toInt32) &&& (255 : Int32)).toUInt32.toUInt16.toUInt32.toInt32)))] (.int (0 : Int32)) := (F95.ext E92)
    have ne_b1_t104 : ¬ (b1 = t104) := Nat.ne_of_lt (Nat.lt_of_lt_of_le F105.lt nw104)
    have F106 : Exa Z h92 b10 "java/lang/String" := (F96.ext E92)
    have ne_b10_t104 : ¬ (b10 = t104) := Nat.ne_of_lt (Nat.lt_of_lt_of_le F106.lt nw104)
    have F107 : Arv Z h92 t19 kb19 .byte (2 : Int32) ((([(nar .char ((n &&& (255 : Int32)).toUInt32.toUInt16.toUInt32.toInt32)), (nar .char ((((n.toUInt32 >>> ((8 : Int32) &&& 31).toUInt32).toInt32) &&& (255 : Int32)).toUInt32.toUInt16.toUInt32.toInt32))] : List Int32).map (fun c => c.toInt8.toInt32)).map Value.int) (.int (0 : Int32)) := (F97.ext E92)
    have ne_t19_t104 : ¬ (t19 = t104) := Nat.ne_of_lt (Nat.lt_of_lt_of_le F107.lt nw104)
    have ne_b80_t104 : ¬ (b80 = t104) := Nat.ne_of_lt (Nat.lt_of_lt_of_le F100.lt nw104)
    refine Go.by (T' := T104) (g' := (mkF m 96 #[.val (.int n), .val (.int a), .val (.int d), .val (.int fl), .val (.ref b1), .val (.ref b10), .val .null, .val (.ref b80), .unset, .unset] [(.ref b92)])) (fun t_ k_ => st104.trans k_) ?_
    refine Go.by (T' := T104) (g' := (mkF m 98 #[.val (.int n), .val (.int a), .val (.int d), .val (.int fl), .val (.ref b1), .val (.ref b10), .val .null, .val (.ref b80), .val (.ref b92), .unset] [])) (fun t_ k_ => XS.astore X104.here hx rfl (hb hby at_96) rfl rfl (l' := #[.val (.int n), .val (.int a), .val (.int d), .val (.int fl), .val (.ref b1), .val (.ref b10), .val .null, .val (.ref b80), .val (.ref b92), .unset]) rfl k_) ?_
    refine Go.by (T' := T104) (g' := (mkF m 100 #[.val (.int n), .val (.int a), .val (.int d), .val (.int fl), .val (.ref b1), .val (.ref b10), .val .null, .val (.ref b80), .val (.ref b92), .unset] [(.ref b10)])) (fun t_ k_ => XS.aload X104.here hx rfl (hb hby at_98) rfl rfl k_) ?_
    refine Go.by (T' := T104) (g' := (mkF m 102 #[.val (.int n), .val (.int a), .val (.int d), .val (.int fl), .val (.ref b1), .val (.ref b10), .val .null, .val (.ref b80), .val (.ref b92), .unset] [.null, (.ref b10)])) (fun t_ k_ => XS.aload X104.here hx rfl (hb hby at_100) rfl rfl k_) ?_
    refine Go.by (T' := T104) (g' := (mkF m 104 #[.val (.int n), .val (.int a), .val (.int d), .val (.int fl), .val (.ref b1), .val (.ref b10), .val .null, .val (.ref b80), .val (.ref b92), .unset] [(.ref b92), .null, (.ref b10)])) (fun t_ k_ => XS.aload X104.here hx rfl (hb hby at_102) rfl rfl k_) ?_
    have Od108 : Old Z n0 T104.heap := (Od101.keep K104 (allS ge_b92 all0))
    obtain ⟨_, _, ⟨T109, L109, k109, n109⟩, -, X109, ⟨Lc109, hQ109, l109, y109, z109⟩, st109⟩ := Jvm.LawKit.callS X104 hx (y := (⟨"com/example/fellwise/fellwise/Syntax$Option", "flag", "(Ljava/lang/String;Ljava/lang/String;Ljava/lang/String;)Lcom/example/fellwise/fellwise/Syntax$Option;"⟩ : MethodName)) hown (mvT hZ (hw _ (List.mem_of_getElem? (i := 30) rfl))) (mvT hZ (hw _ (List.mem_of_getElem? (i := 31) rfl))) (mvT hZ (hw _ (List.mem_of_getElem? (i := 32) rfl))) (mvT hZ (hw _ (List.mem_of_getElem? (i := 33) rfl))) (by decide) (backOf (W := 0) (rm_flag l Z a0 hw [] b10 .null b92 T104.heap n0 Od108 rfl) hZ (hw _ (List.mem_of_getElem? (i := 33) rfl)) (hw _ (List.mem_of_getElem? (i := 32) rfl)) (by decide) (by decide)) (g := (mkF m 104 #[.val (.int n), .val (.int a), .val (.int d), .val (.int fl), .val (.ref b1), .val (.ref b10), .val .null, .val (.ref b80), .val (.ref b92), .unset] [(.ref b92), .null, (.ref b10)])) rfl (by rw [hml]; rfl) (argsL := [(.ref b10), .null, (.ref b92)]) (rest := []) (lenOf pd_8 rfl) rfl (by show 2 * 0 + _ ≤ _; exact Nat.le_of_eq rfl) (hb hby at_104) (fun _ _ => ⟨rfl, rfl, (by decide : 6 + 1 ≤ _), (by decide : 16 + 6 ≤ _)⟩)
    dsimp only [Pt.U, Pt.locs, Pt.cells, Pt.slots] at X109 l109 y109 z109 st109 hQ109
    subst l109 y109 z109
    obtain ⟨b_109, rfl, N109q, K109, G109_0, G109_1, G109_2, G109_3, G109_4, G109_5, G109_6, G109_7⟩ := hQ109
    have N109 := Fr.app N104 N109q
    have ge_b_109 : n0 ≤ b_109 := Nat.le_trans Od108.sz G109_0
    have Kp110 : Keep h0 T104.heap [] := (Kp102.trans K104 (allS (Or.inr sz_b92) all0))
    have sz_b_109 : h0.size ≤ b_109 := Nat.le_trans Kp110.1 G109_0
    have F111 : Arv Z T104.heap b1 kc1 .char (2 : Int32) [(.int (nar .char ((n &&& (255 : Int32)).toUInt32.toUInt16.toUInt32.toInt32))), (.int (nar .char ((((n.toUInt32 >>> ((8 : Int32) &&& 31).toUInt32).toInt32) &&& (255 : Int32)).toUInt32.toUInt16.toUInt32.toInt32)))] (.int (0 : Int32)) := (F105.keep K104 (ninS ne_b1_b92 nin0))
    have ne_b1_b_109 : ¬ (b1 = b_109) := Nat.ne_of_lt (Nat.lt_of_lt_of_le F111.lt G109_0)
    have F112 : Exa Z T104.heap b10 "java/lang/String" := (F106.keep K104)
    have ne_b10_b_109 : ¬ (b10 = b_109) := Nat.ne_of_lt (Nat.lt_of_lt_of_le F112.lt G109_0)
    have F113 : Arv Z T104.heap t19 kb19 .byte (2 : Int32) ((([(nar .char ((n &&& (255 : Int32)).toUInt32.toUInt16.toUInt32.toInt32)), (nar .char ((((n.toUInt32 >>> ((8 : Int32) &&& 31).toUInt32).toInt32) &&& (255 : Int32)).toUInt32.toUInt16.toUInt32.toInt32))] : List Int32).map (fun c => c.toInt8.toInt32)).map Value.int) (.int (0 : Int32)) := (F107.keep K104 (ninS ne_t19_b92 nin0))
    have ne_t19_b_109 : ¬ (t19 = b_109) := Nat.ne_of_lt (Nat.lt_of_lt_of_le F113.lt G109_0)
    have F114 : Arv Z T104.heap b80 kc80 .char (2 : Int32) [(.int (nar .char ((d &&& (255 : Int32)).toUInt32.toUInt16.toUInt32.toInt32))), (.int (nar .char ((((d.toUInt32 >>> ((8 : Int32) &&& 31).toUInt32).toInt32) &&& (255 : Int32)).toUInt32.toUInt16.toUInt32.toInt32)))] (.int (0 : Int32)) := (F100.keep K104 (ninS ne_b80_b92 nin0))
    have ne_b80_b_109 : ¬ (b80 = b_109) := Nat.ne_of_lt (Nat.lt_of_lt_of_le F114.lt G109_0)
    have ne_b92_b_109 : ¬ (b92 = b_109) := Nat.ne_of_lt (Nat.lt_of_lt_of_le Ea104.lt G109_0)
    have ne_t104_b_109 : ¬ (t104 = b_109) := Nat.ne_of_lt (Nat.lt_of_lt_of_le Va104.lt G109_0)
    refine Go.by (T' := T109) (g' := (mkF m 107 #[.val (.int n), .val (.int a), .val (.int d), .val (.int fl), .val (.ref b1), .val (.ref b10), .val .null, .val (.ref b80), .val (.ref b92), .unset] [(.ref b_109)])) (fun t_ k_ => st109 _ k_) ?_
    refine Go.by (T' := T109) (g' := (mkF m 109 #[.val (.int n), .val (.int a), .val (.int d), .val (.int fl), .val (.ref b1), .val (.ref b10), .val .null, .val (.ref b80), .val (.ref b92), .val (.ref b_109)] [])) (fun t_ k_ => XS.astore X109.here hx rfl (hb hby at_107) rfl rfl (l' := #[.val (.int n), .val (.int a), .val (.int d), .val (.int fl), .val (.ref b1), .val (.ref b10), .val .null, .val (.ref b80), .val (.ref b92), .val (.ref b_109)]) rfl k_) ?_
    refine Go.by (T' := T109) (g' := (mkF m 111 #[.val (.int n), .val (.int a), .val (.int d), .val (.int fl), .val (.ref b1), .val (.ref b10), .val .null, .val (.ref b80), .val (.ref b92), .val (.ref b_109)] [(.ref b_109)])) (fun t_ k_ => XS.aload X109.here hx rfl (hb hby at_109) rfl rfl k_) ?_
    have Od115 : Old Z n0 T109.heap := (Od108.keep K109 all0)
    obtain ⟨cq116, kq116, q116a, q116b, q116c⟩ := isOf hZ rfl G109_1
    obtain ⟨_, _, ⟨T116, L116, k116, n116⟩, -, X116, ⟨Lc116, hQ116, l116, y116, z116⟩, st116⟩ := X109.virtualBack hx (y := (⟨"com/example/fellwise/fellwise/Syntax$Option", "name", "()Ljava/lang/String;"⟩ : MethodName)) (z := (⟨"com/example/fellwise/fellwise/Syntax$Option", "name", "()Ljava/lang/String;"⟩ : MethodName)) hown (mvT hZ (hw _ (List.mem_of_getElem? (i := 57) rfl))) (mvT hZ (hw _ (List.mem_of_getElem? (i := 58) rfl))) (notFace_of_selects (args := #[]) (mvT hZ (hw _ (List.mem_of_getElem? (i := 60) rfl)))) (mvT hZ (hw _ (List.mem_of_getElem? (i := 60) rfl))) (mvT hZ (hw _ (List.mem_of_getElem? (i := 59) rfl))) (by decide) (backOf (W := 0) (rm_g_name l Z a0 hw [] b_109 b10 T109.heap n0 Od115 G109_2) hZ (hw _ (List.mem_of_getElem? (i := 61) rfl)) (hw _ (List.mem_of_getElem? (i := 32) rfl)) (by decide) (by decide)) q116a q116c (g := (mkF m 111 #[.val (.int n), .val (.int a), .val (.int d), .val (.int fl), .val (.ref b1), .val (.ref b10), .val .null, .val (.ref b80), .val (.ref b92), .val (.ref b_109)] [(.ref b_109)])) rfl (by rw [hml]; rfl) (Steps.refl _) (argsL := []) (rest := []) (lenOf pd_9 rfl) rfl (by show 2 * 0 + _ ≤ _; exact Nat.le_of_eq rfl) (hb hby at_111) (fun _ _ => ⟨rfl, rfl, (by decide : 7 + 0 ≤ _), (by decide : 22 + 0 ≤ _)⟩)
    dsimp only [Pt.U, Pt.locs, Pt.cells, Pt.slots] at X116 l116 y116 z116 st116 hQ116
    subst l116 y116 z116
    obtain ⟨rfl, N116q, e116⟩ := hQ116
    have N116 := Fr.app N109 N116q
    refine Go.by (T' := T116) (g' := (mkF m 114 #[.val (.int n), .val (.int a), .val (.int d), .val (.int fl), .val (.ref b1), .val (.ref b10), .val .null, .val (.ref b80), .val (.ref b92), .val (.ref b_109)] [(.ref b10)])) (fun t_ k_ => st116.trans k_) ?_
    refine Go.by (T' := T116) (g' := (mkF m 116 #[.val (.int n), .val (.int a), .val (.int d), .val (.int fl), .val (.ref b1), .val (.ref b10), .val .null, .val (.ref b80), .val (.ref b92), .val (.ref b_109)] [(.ref b10), (.ref b10)])) (fun t_ k_ => XS.aload X116.here hx rfl (hb hby at_114) rfl rfl k_) ?_
    refine Go.by (T' := T116) (g' := (mkF m 119 #[.val (.int n), .val (.int a), .val (.int d), .val (.int fl), .val (.ref b1), .val (.ref b10), .val .null, .val (.ref b80), .val (.ref b92), .val (.ref b_109)] [])) (fun t_ k_ => Jvm.RoadKit.acmp (g := (mkF m 116 #[.val (.int n), .val (.int a), .val (.int d), .val (.int fl), .val (.ref b1), .val (.ref b10), .val .null, .val (.ref b80), .val (.ref b92), .val (.ref b_109)] [(.ref b10), (.ref b10)])) X116 hx rfl rfl rfl (pc0 := 116) (pc' := 119) (same := true) rfl (hb hby at_116) rfl (decide_eq_true rfl) (by decide) (by decide) k_) ?_
    refine Go.by (T' := T116) (g' := (mkF m 121 #[.val (.int n), .val (.int a), .val (.int d), .val (.int fl), .val (.ref b1), .val (.ref b10), .val .null, .val (.ref b80), .val (.ref b92), .val (.ref b_109)] [(.ref b_109)])) (fun t_ k_ => XS.aload X116.here hx rfl (hb hby at_119) rfl rfl k_) ?_
    obtain ⟨cq117, kq117, q117a, q117b, q117c⟩ := isOf hZ e116 G109_1
    obtain ⟨_, _, ⟨T117, L117, k117, n117⟩, -, X117, ⟨Lc117, hQ117, l117, y117, z117⟩, st117⟩ := X116.virtualBack hx (y := (⟨"com/example/fellwise/fellwise/Syntax$Option", "alias", "()Ljava/lang/String;"⟩ : MethodName)) (z := (⟨"com/example/fellwise/fellwise/Syntax$Option", "alias", "()Ljava/lang/String;"⟩ : MethodName)) hown (mvT hZ (hw _ (List.mem_of_getElem? (i := 62) rfl))) (mvT hZ (hw _ (List.mem_of_getElem? (i := 63) rfl))) (notFace_of_selects (args := #[]) (mvT hZ (hw _ (List.mem_of_getElem? (i := 65) rfl)))) (mvT hZ (hw _ (List.mem_of_getElem? (i := 65) rfl))) (mvT hZ (hw _ (List.mem_of_getElem? (i := 64) rfl))) (by decide) (backOf (W := 0) (rm_g_alias l Z a0 hw [] b_109 .null T109.heap n0 Od115 G109_3 rfl) hZ (hw _ (List.mem_of_getElem? (i := 66) rfl)) (hw _ (List.mem_of_getElem? (i := 32) rfl)) (by decide) (by decide)) q117a q117c (g := (mkF m 121 #[.val (.int n), .val (.int a), .val (.int d), .val (.int fl), .val (.ref b1), .val (.ref b10), .val .null, .val (.ref b80), .val (.ref b92), .val (.ref b_109)] [(.ref b_109)])) rfl (by rw [hml]; rfl) (Steps.refl _) (argsL := []) (rest := []) (lenOf pd_9 rfl) rfl (by show 2 * 0 + _ ≤ _; exact Nat.le_of_eq rfl) (hb hby at_121) (fun _ _ => ⟨rfl, e116, (by decide : 7 + 0 ≤ _), (by decide : 22 + 0 ≤ _)⟩)
    dsimp only [Pt.U, Pt.locs, Pt.cells, Pt.slots] at X117 l117 y117 z117 st117 hQ117
    subst l117 y117 z117
    obtain ⟨rfl, N117q, e117⟩ := hQ117
    have N117 := Fr.app N116 N117q
    refine Go.by (T' := T117) (g' := (mkF m 124 #[.val (.int n), .val (.int a), .val (.int d), .val (.int fl), .val (.ref b1), .val (.ref b10), .val .null, .val (.ref b80), .val (.ref b92), .val (.ref b_109)] [.null])) (fun t_ k_ => st117.trans k_) ?_
    refine Go.by (T' := T117) (g' := (mkF m 126 #[.val (.int n), .val (.int a), .val (.int d), .val (.int fl), .val (.ref b1), .val (.ref b10), .val .null, .val (.ref b80), .val (.ref b92), .val (.ref b_109)] [.null, .null])) (fun t_ k_ => XS.aload X117.here hx rfl (hb hby at_124) rfl rfl k_) ?_
    refine Go.by (T' := T117) (g' := (mkF m 129 #[.val (.int n), .val (.int a), .val (.int d), .val (.int fl), .val (.ref b1), .val (.ref b10), .val .null, .val (.ref b80), .val (.ref b92), .val (.ref b_109)] [])) (fun t_ k_ => Jvm.RoadKit.acmp (g := (mkF m 126 #[.val (.int n), .val (.int a), .val (.int d), .val (.int fl), .val (.ref b1), .val (.ref b10), .val .null, .val (.ref b80), .val (.ref b92), .val (.ref b_109)] [.null, .null])) X117 hx rfl rfl rfl (pc0 := 126) (pc' := 129) (same := true) rfl (hb hby at_126) rfl (decide_eq_true rfl) (by decide) (by decide) k_) ?_
    refine Go.by (T' := T117) (g' := (mkF m 131 #[.val (.int n), .val (.int a), .val (.int d), .val (.int fl), .val (.ref b1), .val (.ref b10), .val .null, .val (.ref b80), .val (.ref b92), .val (.ref b_109)] [(.ref b_109)])) (fun t_ k_ => XS.aload X117.here hx rfl (hb hby at_129) rfl rfl k_) ?_
    obtain ⟨cq118, kq118, q118a, q118b, q118c⟩ := isOf hZ e117 G109_1
    obtain ⟨_, _, ⟨T118, L118, k118, n118⟩, -, X118, ⟨Lc118, hQ118, l118, y118, z118⟩, st118⟩ := X117.virtualBack hx (y := (⟨"com/example/fellwise/fellwise/Syntax$Option", "description", "()Ljava/lang/String;"⟩ : MethodName)) (z := (⟨"com/example/fellwise/fellwise/Syntax$Option", "description", "()Ljava/lang/String;"⟩ : MethodName)) hown (mvT hZ (hw _ (List.mem_of_getElem? (i := 67) rfl))) (mvT hZ (hw _ (List.mem_of_getElem? (i := 68) rfl))) (notFace_of_selects (args := #[]) (mvT hZ (hw _ (List.mem_of_getElem? (i := 70) rfl)))) (mvT hZ (hw _ (List.mem_of_getElem? (i := 70) rfl))) (mvT hZ (hw _ (List.mem_of_getElem? (i := 69) rfl))) (by decide) (backOf (W := 0) (rm_g_description l Z a0 hw [] b_109 b92 T109.heap n0 Od115 G109_7) hZ (hw _ (List.mem_of_getElem? (i := 71) rfl)) (hw _ (List.mem_of_getElem? (i := 32) rfl)) (by decide) (by decide)) q118a q118c (g := (mkF m 131 #[.val (.int n), .val (.int a), .val (.int d), .val (.int fl), .val (.ref b1), .val (.ref b10), .val .null, .val (.ref b80), .val (.ref b92), .val (.ref b_109)] [(.ref b_109)])) rfl (by rw [hml]; rfl) (Steps.refl _) (argsL := []) (rest := []) (lenOf pd_9 rfl) rfl (by show 2 * 0 + _ ≤ _; exact Nat.le_of_eq rfl) (hb hby at_131) (fun _ _ => ⟨rfl, e117, (by decide : 7 + 0 ≤ _), (by decide : 22 + 0 ≤ _)⟩)
    dsimp only [Pt.U, Pt.locs, Pt.cells, Pt.slots] at X118 l118 y118 z118 st118 hQ118
    subst l118 y118 z118
    obtain ⟨rfl, N118q, e118⟩ := hQ118
    have N118 := Fr.app N117 N118q
    refine Go.by (T' := T118) (g' := (mkF m 134 #[.val (.int n), .val (.int a), .val (.int d), .val (.int fl), .val (.ref b1), .val (.ref b10), .val .null, .val (.ref b80), .val (.ref b92), .val (.ref b_109)] [(.ref b92)])) (fun t_ k_ => st118.trans k_) ?_
    refine Go.by (T' := T118) (g' := (mkF m 136 #[.val (.int n), .val (.int a), .val (.int d), .val (.int fl), .val (.ref b1), .val (.ref b10), .val .null, .val (.ref b80), .val (.ref b92), .val (.ref b_109)] [(.ref b92), (.ref b92)])) (fun t_ k_ => XS.aload X118.here hx rfl (hb hby at_134) rfl rfl k_) ?_
    refine Go.by (T' := T118) (g' := (mkF m 139 #[.val (.int n), .val (.int a), .val (.int d), .val (.int fl), .val (.ref b1), .val (.ref b10), .val .null, .val (.ref b80), .val (.ref b92), .val (.ref b_109)] [])) (fun t_ k_ => Jvm.RoadKit.acmp (g := (mkF m 136 #[.val (.int n), .val (.int a), .val (.int d), .val (.int fl), .val (.ref b1), .val (.ref b10), .val .null, .val (.ref b80), .val (.ref b92), .val (.ref b_109)] [(.ref b92), (.ref b92)])) X118 hx rfl rfl rfl (pc0 := 136) (pc' := 139) (same := true) rfl (hb hby at_136) rfl (decide_eq_true rfl) (by decide) (by decide) k_) ?_
    refine Go.by (T' := T118) (g' := (mkF m 141 #[.val (.int n), .val (.int a), .val (.int d), .val (.int fl), .val (.ref b1), .val (.ref b10), .val .null, .val (.ref b80), .val (.ref b92), .val (.ref b_109)] [(.ref b_109)])) (fun t_ k_ => XS.aload X118.here hx rfl (hb hby at_139) rfl rfl k_) ?_
    obtain ⟨cq119, kq119, q119a, q119b, q119c⟩ := isOf hZ e118 G109_1
    obtain ⟨_, _, ⟨T119, L119, k119, n119⟩, -, X119, ⟨Lc119, hQ119, l119, y119, z119⟩, st119⟩ := X118.virtualBack hx (y := (⟨"com/example/fellwise/fellwise/Syntax$Option", "label", "()Ljava/lang/String;"⟩ : MethodName)) (z := (⟨"com/example/fellwise/fellwise/Syntax$Option", "label", "()Ljava/lang/String;"⟩ : MethodName)) hown (mvT hZ (hw _ (List.mem_of_getElem? (i := 72) rfl))) (mvT hZ (hw _ (List.mem_of_getElem? (i := 73) rfl))) (notFace_of_selects (args := #[]) (mvT hZ (hw _ (List.mem_of_getElem? (i := 75) rfl)))) (mvT hZ (hw _ (List.mem_of_getElem? (i := 75) rfl))) (mvT hZ (hw _ (List.mem_of_getElem? (i := 74) rfl))) (by decide) (backOf (W := 0) (rm_g_label l Z a0 hw [] b_109 T109.heap n0 Od115 G109_4) hZ (hw _ (List.mem_of_getElem? (i := 76) rfl)) (hw _ (List.mem_of_getElem? (i := 32) rfl)) (by decide) (by decide)) q119a q119c (g := (mkF m 141 #[.val (.int n), .val (.int a), .val (.int d), .val (.int fl), .val (.ref b1), .val (.ref b10), .val .null, .val (.ref b80), .val (.ref b92), .val (.ref b_109)] [(.ref b_109)])) rfl (by rw [hml]; rfl) (Steps.refl _) (argsL := []) (rest := []) (lenOf pd_9 rfl) rfl (by show 2 * 0 + _ ≤ _; exact Nat.le_of_eq rfl) (hb hby at_141) (fun _ _ => ⟨rfl, e118, (by decide : 7 + 0 ≤ _), (by decide : 22 + 0 ≤ _)⟩)
    dsimp only [Pt.U, Pt.locs, Pt.cells, Pt.slots] at X119 l119 y119 z119 st119 hQ119
    subst l119 y119 z119
    obtain ⟨rfl, N119q, e119⟩ := hQ119
    have N119 := Fr.app N118 N119q
    refine Go.by (T' := T119) (g' := (mkF m 144 #[.val (.int n), .val (.int a), .val (.int d), .val (.int fl), .val (.ref b1), .val (.ref b10), .val .null, .val (.ref b80), .val (.ref b92), .val (.ref b_109)] [.null])) (fun t_ k_ => st119.trans k_) ?_
    refine Go.by (T' := T119) (g' := (mkF m 147 #[.val (.int n), .val (.int a), .val (.int d), .val (.int fl), .val (.ref b1), .val (.ref b10), .val .null, .val (.ref b80), .val (.ref b92), .val (.ref b_109)] [])) (fun t_ k_ => XS.ifnonnullNo X119.here hx rfl (hb hby at_144) rfl k_) ?_
    refine Go.by (T' := T119) (g' := (mkF m 149 #[.val (.int n), .val (.int a), .val (.int d), .val (.int fl), .val (.ref b1), .val (.ref b10), .val .null, .val (.ref b80), .val (.ref b92), .val (.ref b_109)] [(.ref b_109)])) (fun t_ k_ => XS.aload X119.here hx rfl (hb hby at_147) rfl rfl k_) ?_
    obtain ⟨cq120, kq120, q120a, q120b, q120c⟩ := isOf hZ e119 G109_1
    obtain ⟨_, _, ⟨T120, L120, k120, n120⟩, -, X120, ⟨Lc120, hQ120, l120, y120, z120⟩, st120⟩ := X119.virtualBack hx (y := (⟨"com/example/fellwise/fellwise/Syntax$Option", "required", "()Z"⟩ : MethodName)) (z := (⟨"com/example/fellwise/fellwise/Syntax$Option", "required", "()Z"⟩ : MethodName)) hown (mvT hZ (hw _ (List.mem_of_getElem? (i := 77) rfl))) (mvT hZ (hw _ (List.mem_of_getElem? (i := 78) rfl))) (notFace_of_selects (args := #[]) (mvT hZ (hw _ (List.mem_of_getElem? (i := 80) rfl)))) (mvT hZ (hw _ (List.mem_of_getElem? (i := 80) rfl))) (mvT hZ (hw _ (List.mem_of_getElem? (i := 79) rfl))) (by decide) (backOf (W := 0) (rm_g_required l Z a0 hw [] b_109 T109.heap n0 Od115 G109_5) hZ (hw _ (List.mem_of_getElem? (i := 81) rfl)) (hw _ (List.mem_of_getElem? (i := 32) rfl)) (by decide) (by decide)) q120a q120c (g := (mkF m 149 #[.val (.int n), .val (.int a), .val (.int d), .val (.int fl), .val (.ref b1), .val (.ref b10), .val .null, .val (.ref b80), .val (.ref b92), .val (.ref b_109)] [(.ref b_109)])) rfl (by rw [hml]; rfl) (Steps.refl _) (argsL := []) (rest := []) (lenOf pd_5 rfl) rfl (by show 2 * 0 + _ ≤ _; exact Nat.le_of_eq rfl) (hb hby at_149) (fun _ _ => ⟨rfl, e119, (by decide : 7 + 0 ≤ _), (by decide : 22 + 0 ≤ _)⟩)
    dsimp only [Pt.U, Pt.locs, Pt.cells, Pt.slots] at X120 l120 y120 z120 st120 hQ120
    subst l120 y120 z120
    obtain ⟨rfl, N120q, e120⟩ := hQ120
    have N120 := Fr.app N119 N120q
    refine Go.by (T' := T120) (g' := (mkF m 152 #[.val (.int n), .val (.int a), .val (.int d), .val (.int fl), .val (.ref b1), .val (.ref b10), .val .null, .val (.ref b80), .val (.ref b92), .val (.ref b_109)] [(.int (0 : Int32))])) (fun t_ k_ => st120.trans k_) ?_
    refine Go.by (T' := T120) (g' := (mkF m 155 #[.val (.int n), .val (.int a), .val (.int d), .val (.int fl), .val (.ref b1), .val (.ref b10), .val .null, .val (.ref b80), .val (.ref b92), .val (.ref b_109)] [])) (fun t_ k_ => XS.ifNo X120.here hx rfl (hb hby at_152) rfl ((if0 _ _).trans (teq rfl).2) k_) ?_
    refine Go.by (T' := T120) (g' := (mkF m 157 #[.val (.int n), .val (.int a), .val (.int d), .val (.int fl), .val (.ref b1), .val (.ref b10), .val .null, .val (.ref b80), .val (.ref b92), .val (.ref b_109)] [(.ref b_109)])) (fun t_ k_ => XS.aload X120.here hx rfl (hb hby at_155) rfl rfl k_) ?_
    obtain ⟨cq121, kq121, q121a, q121b, q121c⟩ := isOf hZ e120 G109_1
    obtain ⟨_, _, ⟨T121, L121, k121, n121⟩, -, X121, ⟨Lc121, hQ121, l121, y121, z121⟩, st121⟩ := X120.virtualBack hx (y := (⟨"com/example/fellwise/fellwise/Syntax$Option", "defaultValue", "()Ljava/lang/String;"⟩ : MethodName)) (z := (⟨"com/example/fellwise/fellwise/Syntax$Option", "defaultValue", "()Ljava/lang/String;"⟩ : MethodName)) hown (mvT hZ (hw _ (List.mem_of_getElem? (i := 82) rfl))) (mvT hZ (hw _ (List.mem_of_getElem? (i := 83) rfl))) (notFace_of_selects (args := #[]) (mvT hZ (hw _ (List.mem_of_getElem? (i := 85) rfl)))) (mvT hZ (hw _ (List.mem_of_getElem? (i := 85) rfl))) (mvT hZ (hw _ (List.mem_of_getElem? (i := 84) rfl))) (by decide) (backOf (W := 0) (rm_g_defaultValue l Z a0 hw [] b_109 T109.heap n0 Od115 G109_6) hZ (hw _ (List.mem_of_getElem? (i := 86) rfl)) (hw _ (List.mem_of_getElem? (i := 32) rfl)) (by decide) (by decide)) q121a q121c (g := (mkF m 157 #[.val (.int n), .val (.int a), .val (.int d), .val (.int fl), .val (.ref b1), .val (.ref b10), .val .null, .val (.ref b80), .val (.ref b92), .val (.ref b_109)] [(.ref b_109)])) rfl (by rw [hml]; rfl) (Steps.refl _) (argsL := []) (rest := []) (lenOf pd_9 rfl) rfl (by show 2 * 0 + _ ≤ _; exact Nat.le_of_eq rfl) (hb hby at_157) (fun _ _ => ⟨rfl, e120, (by decide : 7 + 0 ≤ _), (by decide : 22 + 0 ≤ _)⟩)
    dsimp only [Pt.U, Pt.locs, Pt.cells, Pt.slots] at X121 l121 y121 z121 st121 hQ121
    subst l121 y121 z121
    obtain ⟨rfl, N121q, e121⟩ := hQ121
    have N121 := Fr.app N120 N121q
    refine Go.by (T' := T121) (g' := (mkF m 160 #[.val (.int n), .val (.int a), .val (.int d), .val (.int fl), .val (.ref b1), .val (.ref b10), .val .null, .val (.ref b80), .val (.ref b92), .val (.ref b_109)] [.null])) (fun t_ k_ => st121.trans k_) ?_
    refine Go.by (T' := T121) (g' := (mkF m 163 #[.val (.int n), .val (.int a), .val (.int d), .val (.int fl), .val (.ref b1), .val (.ref b10), .val .null, .val (.ref b80), .val (.ref b92), .val (.ref b_109)] [])) (fun t_ k_ => XS.ifnonnullNo X121.here hx rfl (hb hby at_160) rfl k_) ?_
    refine Go.by (T' := T121) (g' := (mkF m 165 #[.val (.int n), .val (.int a), .val (.int d), .val (.int fl), .val (.ref b1), .val (.ref b10), .val .null, .val (.ref b80), .val (.ref b92), .val (.ref b_109)] [(.ref b_109)])) (fun t_ k_ => XS.aload X121.here hx rfl (hb hby at_163) rfl rfl k_) ?_
    obtain ⟨cq122, kq122, q122a, q122b, q122c⟩ := isOf hZ e121 G109_1
    obtain ⟨_, _, ⟨T122, L122, k122, n122⟩, -, X122, ⟨Lc122, hQ122, l122, y122, z122⟩, st122⟩ := X121.virtualBack hx (y := (⟨"com/example/fellwise/fellwise/Syntax$Option", "takesValue", "()Z"⟩ : MethodName)) (z := (⟨"com/example/fellwise/fellwise/Syntax$Option", "takesValue", "()Z"⟩ : MethodName)) hown (mvT hZ (hw _ (List.mem_of_getElem? (i := 87) rfl))) (mvT hZ (hw _ (List.mem_of_getElem? (i := 88) rfl))) (notFace_of_selects (args := #[]) (mvT hZ (hw _ (List.mem_of_getElem? (i := 90) rfl)))) (mvT hZ (hw _ (List.mem_of_getElem? (i := 90) rfl))) (mvT hZ (hw _ (List.mem_of_getElem? (i := 89) rfl))) (by decide) (backOf (W := 0) (rm_takes l Z a0 hw [] b_109 T109.heap n0 Od115 G109_4) hZ (hw _ (List.mem_of_getElem? (i := 91) rfl)) (hw _ (List.mem_of_getElem? (i := 32) rfl)) (by decide) (by decide)) q122a q122c (g := (mkF m 165 #[.val (.int n), .val (.int a), .val (.int d), .val (.int fl), .val (.ref b1), .val (.ref b10), .val .null, .val (.ref b80), .val (.ref b92), .val (.ref b_109)] [(.ref b_109)])) rfl (by rw [hml]; rfl) (Steps.refl _) (argsL := []) (rest := []) (lenOf pd_5 rfl) rfl (by show 2 * 0 + _ ≤ _; exact Nat.le_of_eq rfl) (hb hby at_165) (fun _ _ => ⟨rfl, e121, (by decide : 7 + 0 ≤ _), (by decide : 22 + 0 ≤ _)⟩)
    dsimp only [Pt.U, Pt.locs, Pt.cells, Pt.slots] at X122 l122 y122 z122 st122 hQ122
    subst l122 y122 z122
    obtain ⟨rfl, N122q, e122⟩ := hQ122
    have N122 := Fr.app N121 N122q
    refine Go.by (T' := T122) (g' := (mkF m 168 #[.val (.int n), .val (.int a), .val (.int d), .val (.int fl), .val (.ref b1), .val (.ref b10), .val .null, .val (.ref b80), .val (.ref b92), .val (.ref b_109)] [(.int 0)])) (fun t_ k_ => st122.trans k_) ?_
    refine Go.by (T' := T122) (g' := (mkF m 171 #[.val (.int n), .val (.int a), .val (.int d), .val (.int fl), .val (.ref b1), .val (.ref b10), .val .null, .val (.ref b80), .val (.ref b92), .val (.ref b_109)] [])) (fun t_ k_ => XS.ifNo X122.here hx rfl (hb hby at_168) rfl ((if0 _ _).trans (teq rfl).2) k_) ?_
    refine Go.by (T' := T122) (g' := (mkF m 173 #[.val (.int n), .val (.int a), .val (.int d), .val (.int fl), .val (.ref b1), .val (.ref b10), .val .null, .val (.ref b80), .val (.ref b92), .val (.ref b_109)] [(.ref b10)])) (fun t_ k_ => XS.aload X122.here hx rfl (hb hby at_171) rfl rfl k_) ?_
    refine Go.by (T' := T122) (g' := (mkF m 175 #[.val (.int n), .val (.int a), .val (.int d), .val (.int fl), .val (.ref b1), .val (.ref b10), .val .null, .val (.ref b80), .val (.ref b92), .val (.ref b_109)] [(.ref b_109), (.ref b10)])) (fun t_ k_ => XS.aload X122.here hx rfl (hb hby at_173) rfl rfl k_) ?_
    obtain ⟨cq123, kq123, q123a, q123b, q123c⟩ := isOf hZ e122 G109_1
    obtain ⟨_, _, ⟨T123, L123, k123, n123⟩, -, X123, ⟨Lc123, hQ123, l123, y123, z123⟩, st123⟩ := X122.virtualBack hx (y := (⟨"com/example/fellwise/fellwise/Syntax$Option", "usage", "()Ljava/lang/String;"⟩ : MethodName)) (z := (⟨"com/example/fellwise/fellwise/Syntax$Option", "usage", "()Ljava/lang/String;"⟩ : MethodName)) hown (mvT hZ (hw _ (List.mem_of_getElem? (i := 92) rfl))) (mvT hZ (hw _ (List.mem_of_getElem? (i := 93) rfl))) (notFace_of_selects (args := #[]) (mvT hZ (hw _ (List.mem_of_getElem? (i := 95) rfl)))) (mvT hZ (hw _ (List.mem_of_getElem? (i := 95) rfl))) (mvT hZ (hw _ (List.mem_of_getElem? (i := 94) rfl))) (by decide) (backOf (W := 1) (rm_usage l Z a0 hw [] b_109 b10 T109.heap n0 Od115 G109_1 G109_4 G109_2) hZ (hw _ (List.mem_of_getElem? (i := 96) rfl)) (hw _ (List.mem_of_getElem? (i := 32) rfl)) (by decide) (by decide)) q123a q123c (g := (mkF m 175 #[.val (.int n), .val (.int a), .val (.int d), .val (.int fl), .val (.ref b1), .val (.ref b10), .val .null, .val (.ref b80), .val (.ref b92), .val (.ref b_109)] [(.ref b_109), (.ref b10)])) rfl (by rw [hml]; rfl) (Steps.refl _) (argsL := []) (rest := [(.ref b10)]) (lenOf pd_9 rfl) rfl (by show 2 * 0 + _ ≤ _; exact Nat.le_of_eq rfl) (hb hby at_175) (fun _ _ => ⟨rfl, e122, (by decide : 7 + 0 ≤ _), (by decide : 22 + 0 ≤ _)⟩)
    dsimp only [Pt.U, Pt.locs, Pt.cells, Pt.slots] at X123 l123 y123 z123 st123 hQ123
    subst l123 y123 z123
    obtain ⟨rfl, N123q, e123⟩ := hQ123
    have N123 := Fr.app N122 N123q
    refine Go.by (T' := T123) (g' := (mkF m 178 #[.val (.int n), .val (.int a), .val (.int d), .val (.int fl), .val (.ref b1), .val (.ref b10), .val .null, .val (.ref b80), .val (.ref b92), .val (.ref b_109)] [(.ref b10), (.ref b10)])) (fun t_ k_ => st123.trans k_) ?_
    have F125 : Exa Z T109.heap b10 "java/lang/String" := (F112.keep K109)
    obtain ⟨cq124, kq124, q124a, q124b, q124c⟩ := isOf hZ e123 F125
    obtain ⟨_, _, ⟨T124, L124, k124, n124⟩, -, X124, ⟨Lc124, hQ124, l124, y124, z124⟩, st124⟩ := X123.virtualBack hx (y := (⟨"java/lang/String", "equals", "(Ljava/lang/Object;)Z"⟩ : MethodName)) (z := (⟨"java/lang/String", "equals", "(Ljava/lang/Object;)Z"⟩ : MethodName)) hown (mvT hZ (hw _ (List.mem_of_getElem? (i := 98) rfl))) (mvT hZ (hw _ (List.mem_of_getElem? (i := 99) rfl))) (notFace_of_selects (args := #[]) (mvT hZ (hw _ (List.mem_of_getElem? (i := 101) rfl)))) (mvT hZ (hw _ (List.mem_of_getElem? (i := 101) rfl))) (mvT hZ (hw _ (List.mem_of_getElem? (i := 100) rfl))) (by decide) (backOf (W := 0) (rm_eqs l Z a0 hw [] b10 T109.heap n0 Od115 ) hZ (hw _ (List.mem_of_getElem? (i := 102) rfl)) (hw _ (List.mem_of_getElem? (i := 3) rfl)) (by decide) (by decide)) q124a q124c (g := (mkF m 178 #[.val (.int n), .val (.int a), .val (.int d), .val (.int fl), .val (.ref b1), .val (.ref b10), .val .null, .val (.ref b80), .val (.ref b92), .val (.ref b_109)] [(.ref b10), (.ref b10)])) rfl (by rw [hml]; rfl) (Steps.refl _) (argsL := [(.ref b10)]) (rest := []) (lenOf pd_10 rfl) rfl (by show 2 * 0 + _ ≤ _; exact Nat.le_of_eq rfl) (hb hby at_178) (fun _ _ => ⟨rfl, e123, (by decide : 7 + 0 ≤ _), (by decide : 22 + 0 ≤ _)⟩)
    dsimp only [Pt.U, Pt.locs, Pt.cells, Pt.slots] at X124 l124 y124 z124 st124 hQ124
    subst l124 y124 z124
    obtain ⟨rfl, N124q, e124⟩ := hQ124
    have N124 := Fr.app N123 N124q
    refine Go.by (T' := T124) (g' := (mkF m 181 #[.val (.int n), .val (.int a), .val (.int d), .val (.int fl), .val (.ref b1), .val (.ref b10), .val .null, .val (.ref b80), .val (.ref b92), .val (.ref b_109)] [(.int 1)])) (fun t_ k_ => st124.trans k_) ?_
    refine Go.by (T' := T124) (g' := (mkF m 184 #[.val (.int n), .val (.int a), .val (.int d), .val (.int fl), .val (.ref b1), .val (.ref b10), .val .null, .val (.ref b80), .val (.ref b92), .val (.ref b_109)] [])) (fun t_ k_ => XS.ifNo X124.here hx rfl (hb hby at_181) rfl ((if0 _ _).trans (feq (by decide)).1) k_) ?_
    refine Go.by (T' := T124) (g' := (mkF m 185 #[.val (.int n), .val (.int a), .val (.int d), .val (.int fl), .val (.ref b1), .val (.ref b10), .val .null, .val (.ref b80), .val (.ref b92), .val (.ref b_109)] [(.int (1 : Int32))])) (fun t_ k_ => XS.iconst X124.here hx rfl (hb hby at_184) k_) ?_
    refine Go.by (T' := T124) (g' := (mkF m 189 #[.val (.int n), .val (.int a), .val (.int d), .val (.int fl), .val (.ref b1), .val (.ref b10), .val .null, .val (.ref b80), .val (.ref b92), .val (.ref b_109)] [(.int (1 : Int32))])) (fun t_ k_ => XS.goto X124.here hx rfl (pc0 := 185) (pc' := 189) rfl (hb hby at_185) (by decide) (by decide) k_) ?_
    refine Go.fin X124 (v := some (.int (nar .boolean (1 : Int32)))) (fun h => by rw [Bd.returns] at h; cases h) hlk (by decide) (by decide) ?_ (fun fs hr => retN X124 hx (t := .boolean) Bd.returns (by simp) (hb hby at_189) hr)
    show Q_law Z n a d fl G1 h0 n0 _ T124.heap _
    rw [e124]
    exact ⟨rfl, N124⟩
set_option maxRecDepth 65536 in
set_option maxHeartbeats 40000000 in
theorem comes_1 {Post : Tables → Env → Array Value → State → Outcome → State → Prop} (hpost : ∀ tb e args s v u, (limb_1_1.after args s (.returned v) u = true ∧ limb_1_2.after args s (.returned v) u = true ∧ True) → FrameEnd s (.returned v) u (Jvm.fieldLocs frame_1_writes args s ++ Jvm.arrayLocs frame_1_arrays args s ++ Jvm.staticLocs frame_1_statics s) 32 128 → Post tb e args s (.returned v) u) :
    ArmFor flags0 classFile x code maxLocals ret World_1 tables_1 room_1 Calls_1 rest_1 Pre_1 Post := by
  intro l hfl _ _ p e ha hc hk s m args below hf hA hF happ hP
  obtain ⟨hcalls, hrest, hpre⟩ := hP
  obtain ⟨-, -, -, hnamed, -, -, -, hat⟩ := (Spec.applies_iff hf).mp happ
  obtain ⟨hg, hn⟩ := and_e (Cond.before_iff.mp (show (Jvm.Cond.and given_1 narrow_1).before args s = true from hpre))
  obtain ⟨hcount, g0⟩ := and_e hg
  obtain ⟨a0, g1⟩ := and_e g0
  obtain ⟨a1, g2⟩ := and_e g1
  obtain ⟨a2, g3⟩ := and_e g2
  have a3 := g3
  obtain ⟨w0, w1, w2, w3, rfl⟩ : ∃ w0 w1 w2 w3 : Value, args = #[w0, w1, w2, w3] := by
    have hs : args.size = 4 := by simpa [Cond.value, given_1] using hcount
    obtain ⟨L⟩ := args
    match L, hs with
    | [w0, w1, w2, w3], _ => exact ⟨w0, w1, w2, w3, rfl⟩
  have hw := fun d (hd : d ∈ tables_1) => atoms_spec (ws := Jvm.Cond.code x code maxLocals ret :: tables_1) hat d (List.mem_cons_of_mem _ hd)
  obtain ⟨hsets, hown0⟩ := atoms_of _ (rest_1_c_eq ▸ (show rest_1_c.before _ s = true from hrest))
  have hr0 := Cond.before_iff.mp hown0
  have hfit : Fit s := fun {y c} hc i hi => by
    obtain ⟨ha, rfl⟩ := Array.getElem?_eq_some_iff.mp hc
    have q := List.all_eq_true.mp ((Array.all_eq_true_iff_forall_mem.mp hF) _ (Array.getElem_mem ha)) i (List.mem_range.mpr hi)
    simpa [Array.getElem?_eq_getElem hi] using q
  obtain ⟨i0, ev0⟩ := is_v a0
  obtain rfl : w0 = (.int i0) := Option.some.inj ev0
  obtain ⟨i1, ev1⟩ := is_v a1
  obtain rfl : w1 = (.int i1) := Option.some.inj ev1
  obtain ⟨i2, ev2⟩ := is_v a2
  obtain rfl : w2 = (.int i2) := Option.some.inj ev2
  obtain ⟨i3, ev3⟩ := is_v a3
  obtain rfl : w3 = (.int i3) := Option.some.inj ev3
  obtain ⟨G1, e10⟩ := is_v (Cond.before_iff.mp (hsets _ (List.mem_of_getElem? (i := 1) rfl)))
  have SC : Sta s s.heap "java/lang/String" "COMPACT_STRINGS" "Z" (.int G1) := Sta.start e10 (Or.inl (hsets _ (List.mem_of_getElem? (i := 0) rfl)))
  have hCS : ¬ (G1 = (0 : Int32)) := gotF (Cond.eq_ints e10 (Term.int_eval (0))) (not_v (Cond.before_iff.mp (hsets _ (List.mem_of_getElem? (i := 2) rfl))))
  obtain ⟨n, o, h1, h2, h3, _, L, rfl, ⟨rfl, N⟩, hq⟩ := rm_law l s _ hw tables_1 i0 i1 i2 i3 G1 s.heap s.heap.size (Old.start s) SC hCS p e ha hc hk s m _ below hf ((Spec.applies_iff_loose hf).mp happ).1 ⟨rfl, State.Warmed39.refl s, rfl⟩ trivial
  refine ⟨n, _, h1, h2, h3, hpost _ _ _ _ _ _ ⟨Cond.after_iff.mpr rfl, Cond.after_iff.mpr (eq_i res_at (Term.int_eval (1)) rfl), trivial⟩ ⟨hq.1, hq.2.1, (hq.2.2.sift fun y hy => Or.inr (N y hy)).mono (by decide) (by decide)⟩⟩
theorem main_1_1 : Claimed_1_1 := comes_1 fun _ _ _ _ _ _ h hF => ⟨h.1, hF⟩
theorem main_1_2 : Claimed_1_2 := comes_1 fun _ _ _ _ _ _ h hF => ⟨h.2.1, hF⟩
end Jvm.Pilot.@@N@@
namespace Jvm.Pilot.@@N@@
open Jvm Jvm.ClassFile Sem Op Lib Jvm.Free Jvm.Stand Jvm.Pilot.@@N@@.Jvm.D
/-! MADE BY PROGRAM (witnessworld.py) out of the Statement's table words and the real class files: 21 classes; the members and pool entries that the words name. The judged class is class 1, her method 1. -/
namespace start1
open Jvm.ClassFile
def u (s : String) : CpInfo := .utf8 (stringToUtf16 s)
/-- a pool by its gaps: so many unusable entries, then the entry; so many at the end -/
def gap : Nat → List CpInfo → List CpInfo
  | 0, r => r
  | n + 1, r => .unusable :: gap n r
def poolList (es : List (Nat × CpInfo)) (last : Nat) : List CpInfo := es.foldr (fun e r => gap e.1 (e.2 :: r)) (gap last [])
def pool (es : List (Nat × CpInfo)) (last : Nat) : Array CpInfo := ⟨poolList es last⟩
def fileOf (pool : Array CpInfo) (this : Nat) (attrs : Array Attribute := #[]) (ms : Array MethodInfo := #[]) (fl : Nat := 33) (sup : Nat := 0) (ifs : Array Nat := #[]) (fds : Array FieldInfo := #[]) : ClassFile where
  minorVersion := 0
  majorVersion := 65
  constantPool := pool
  accessFlags := fl
  thisClass := this
  superClass := sup
  interfaces := ifs
  fields := fds
  methods := ms
  attributes := attrs
def plain (name : String) (sup : Option ClassId) : Class where
  name := name
  kind := .ordinary
  loader := none
  accessFlags := 33
  super := sup
  interfaces := #[]
  cf := none
  fields := #[]
  methods := #[]
  instanceTypes := #[]
  staticTypes := #[]
  resolved := #[]
  callSites := []
  init := .initialized
  statics := none
  mirror := none

def pool0 : Array CpInfo := pool [(5, u "<init>"), (0, u "()V"), (1, .class_ 10), (1, u "java/lang/Object")] 113

def k0c0 : Code := { maxStack := 0, maxLocals := 1, code := object_method_1_code, exceptionTable := #[], attributes := #[] }
def k0m0 : Method := { name := "<init>", desc := "()V", sig := { parameters := [], returnType := none }, accessFlags := 1, code := some k0c0 }
/-- java/lang/Object -/
def k0 : Class := { plain "java/lang/Object" none with
  accessFlags := 33
  interfaces := #[]
  cf := some (fileOf pool0 8 #[] #[{ accessFlags := 1, nameIndex := 5, descriptorIndex := 6, attributes := #[] }] 33 0 #[] #[])
  fields := #[]
  methods := #[k0m0]
  instanceTypes := #[]
  staticTypes := #[]
  resolved := Array.replicate 124 none
  statics := none }

def pool1 : Array CpInfo := pool [(2, .class_ 4), (1, u "java/lang/Object"), (0, u "<init>"), (0, u "()V"), (0, .class_ 8), (0, u "java/lang/String"), (0, .methodref 7 10), (0, .nameAndType 5 11), (0, u "([C)V"), (0, .methodref 7 13), (0, .nameAndType 14 15), (0, u "valueOf"), (0, u "(C)Ljava/lang/String;"), (0, .methodref 17 18), (0, .class_ 19), (0, .nameAndType 20 21), (0, u "com/example/fellwise/fellwise/Syntax$Option"), (0, u "flag"), (0, u "(Ljava/lang/String;Ljava/lang/String;Ljava/lang/String;)Lcom/example/fellwise/fellwise/Syntax$Option;"), (0, .methodref 17 23), (0, .nameAndType 24 25), (0, u "name"), (0, u "()Ljava/lang/String;"), (0, .methodref 17 27), (0, .nameAndType 28 25), (0, u "alias"), (0, .methodref 17 30), (0, .nameAndType 31 25), (0, u "description"), (0, .methodref 17 33), (0, .nameAndType 34 25), (0, u "label"), (0, .methodref 17 36), (0, .nameAndType 37 38), (0, u "required"), (0, u "()Z"), (0, .methodref 17 40), (0, .nameAndType 41 25), (0, u "defaultValue"), (0, .methodref 17 43), (0, .nameAndType 44 38), (0, u "takesValue"), (0, .methodref 17 46), (0, .nameAndType 47 25), (0, u "usage"), (0, .methodref 7 49), (0, .nameAndType 50 51), (0, u "equals"), (0, u "(Ljava/lang/Object;)Z"), (0, .class_ 53), (0, u "com/example/fellwise/fellwise/OptionFlagPinLaw"), (2, u "law"), (0, u "(IIII)Z")] 9

def k1m0 : Method := { name := "<init>", desc := "()V", sig := { parameters := [], returnType := none }, accessFlags := 1, code := none }
def k1c1 : Code := { maxStack := 4, maxLocals := 10, code := code, exceptionTable := #[], attributes := #[] }
def k1m1 : Method := { name := "law", desc := "(IIII)Z", sig := { parameters := [.int, .int, .int, .int], returnType := some .boolean }, accessFlags := 9, code := some k1c1 }
/-- com/example/fellwise/fellwise/OptionFlagPinLaw -/
def k1 : Class := { plain "com/example/fellwise/fellwise/OptionFlagPinLaw" (some 0) with
  accessFlags := 49
  interfaces := #[]
  cf := some (fileOf pool1 52 #[] #[{ accessFlags := 1, nameIndex := 5, descriptorIndex := 6, attributes := #[] }, { accessFlags := 9, nameIndex := 56, descriptorIndex := 57, attributes := #[] }] 49 2 #[] #[])
  fields := #[]
  methods := #[k1m0, k1m1]
  instanceTypes := #[]
  staticTypes := #[]
  resolved := Array.replicate 67 none
  statics := none }

def pool2 : Array CpInfo := pool [(1, .class_ 2), (0, u "java/io/Serializable"), (0, .class_ 4), (0, u "java/lang/Object")] 2

/-- java/io/Serializable -/
def k2 : Class := { plain "java/io/Serializable" (some 0) with
  accessFlags := 1537
  interfaces := #[]
  cf := some (fileOf pool2 1 #[] #[] 1537 3 #[] #[])
  fields := #[]
  methods := #[]
  instanceTypes := #[]
  staticTypes := #[]
  resolved := Array.replicate 7 none
  statics := none }

def pool3 : Array CpInfo := pool [(1, .class_ 2), (0, u "java/lang/Comparable"), (0, .class_ 4), (0, u "java/lang/Object")] 7

/-- java/lang/Comparable -/
def k3 : Class := { plain "java/lang/Comparable" (some 0) with
  accessFlags := 1537
  interfaces := #[]
  cf := some (fileOf pool3 1 #[] #[] 1537 3 #[] #[])
  fields := #[]
  methods := #[]
  instanceTypes := #[]
  staticTypes := #[]
  resolved := Array.replicate 12 none
  statics := none }

def pool4 : Array CpInfo := pool [(2, .class_ 4), (1, u "java/lang/CharSequence"), (42, .class_ 48), (0, u "java/lang/CharSequence$1CodePointIterator"), (10, .class_ 60), (0, u "java/lang/CharSequence$1CharIterator"), (5, .class_ 67), (0, u "java/lang/Object")] 63

/-- java/lang/CharSequence -/
def k4 : Class := { plain "java/lang/CharSequence" (some 0) with
  accessFlags := 1537
  interfaces := #[]
  cf := some (fileOf pool4 2 #[.nestMembers #[47, 59]] #[] 1537 66 #[] #[])
  fields := #[]
  methods := #[]
  instanceTypes := #[]
  staticTypes := #[]
  resolved := Array.replicate 131 none
  statics := none }

def pool5 : Array CpInfo := pool [(1, .class_ 2), (0, u "java/lang/constant/Constable"), (0, .class_ 4), (0, u "java/lang/Object")] 6

/-- java/lang/constant/Constable -/
def k5 : Class := { plain "java/lang/constant/Constable" (some 0) with
  accessFlags := 1537
  interfaces := #[]
  cf := some (fileOf pool5 1 #[] #[] 1537 3 #[] #[])
  fields := #[]
  methods := #[]
  instanceTypes := #[]
  staticTypes := #[]
  resolved := Array.replicate 11 none
  statics := none }

def pool6 : Array CpInfo := pool [(1, .class_ 2), (0, u "java/lang/constant/ConstantDesc"), (0, .class_ 4), (0, u "java/lang/Object")] 32

/-- java/lang/constant/ConstantDesc -/
def k6 : Class := { plain "java/lang/constant/ConstantDesc" (some 0) with
  accessFlags := 1537
  interfaces := #[]
  cf := some (fileOf pool6 1 #[] #[] 1537 3 #[] #[])
  fields := #[]
  methods := #[]
  instanceTypes := #[]
  staticTypes := #[]
  resolved := Array.replicate 37 none
  statics := none }

def pool7 : Array CpInfo := pool [(1, .methodref 2 3), (0, .class_ 4), (0, .nameAndType 5 6), (0, u "java/lang/Object"), (0, u "<init>"), (0, u "()V"), (2, .fieldref 10 11), (0, .class_ 12), (0, .nameAndType 13 14), (0, u "java/lang/String"), (0, u "value"), (0, u "[B"), (0, .fieldref 10 16), (0, .nameAndType 17 18), (0, u "coder"), (0, u "B"), (2, u "hash"), (0, u "I"), (2, u "hashIsZero"), (0, u "Z"), (0, .methodref 10 28), (0, .nameAndType 5 29), (0, u "([CIILjava/lang/Void;)V"), (8, .fieldref 10 39), (0, .nameAndType 40 26), (0, u "COMPACT_STRINGS"), (1, .class_ 44), (1, u "java/lang/StringUTF16"), (0, u "compress"), (1, .methodref 42 48), (0, .nameAndType 49 50), (0, u "coderFromArrayLen"), (0, u "([BI)B"), (2, u "toBytes"), (53, .class_ 109), (1, u "java/lang/StringLatin1"), (67, .methodref 42 178), (0, .nameAndType 45 179), (0, u "([CII)[B"), (29, .methodref 10 210), (0, .nameAndType 5 211), (0, u "([BB)V"), (157, u "(C)Z"), (173, u "equals"), (29, u "(Ljava/lang/Object;)Z"), (1, .class_ 576), (0, u "java/lang/CharSequence"), (22, u "CASE_INSENSITIVE_ORDER"), (0, u "Ljava/util/Comparator;"), (181, u "valueOf"), (0, u "(C)Ljava/lang/String;"), (226, u "([C)V"), (4, .methodref 107 1016), (0, .nameAndType 1017 369), (0, u "canEncode"), (0, .methodref 107 1019), (0, .nameAndType 53 1020), (0, u "(C)[B"), (80, u "serialPersistentFields"), (0, u "[Ljava/io/ObjectStreamField;"), (0, .class_ 1104), (0, u "java/lang/String$CaseInsensitiveComparator"), (1, .class_ 1107), (0, u "java/io/Serializable"), (0, .class_ 1109), (0, u "java/lang/Comparable"), (0, .class_ 1111), (0, u "java/lang/constant/Constable"), (0, .class_ 1113), (0, u "java/lang/constant/ConstantDesc"), (2, u "serialVersionUID"), (0, u "J"), (3, u "REPL"), (0, u "C"), (2, u "LATIN1"), (1, u "UTF16")] 323

def k7m0 : Method := { name := "<init>", desc := "()V", sig := { parameters := [], returnType := none }, accessFlags := 1, code := none }
def k7c1 : Code := { maxStack := 5, maxLocals := 2, code := jdk_42_method_3_code, exceptionTable := #[], attributes := #[] }
def k7m1 : Method := { name := "<init>", desc := "([C)V", sig := { parameters := [(.array .char)], returnType := none }, accessFlags := 1, code := some k7c1 }
def k7c2 : Code := { maxStack := 2, maxLocals := 3, code := jdk_42_method_66_code, exceptionTable := #[], attributes := #[] }
def k7m2 : Method := { name := "equals", desc := "(Ljava/lang/Object;)Z", sig := { parameters := [(.object "java/lang/Object")], returnType := some .boolean }, accessFlags := 1, code := some k7c2 }
def k7c3 : Code := { maxStack := 4, maxLocals := 1, code := jdk_42_method_139_code, exceptionTable := #[], attributes := #[] }
def k7m3 : Method := { name := "valueOf", desc := "(C)Ljava/lang/String;", sig := { parameters := [.char], returnType := some (.object "java/lang/String") }, accessFlags := 9, code := some k7c3 }
def k7c4 : Code := { maxStack := 4, maxLocals := 6, code := jdk_42_method_149_code, exceptionTable := #[], attributes := #[] }
def k7m4 : Method := { name := "<init>", desc := "([CIILjava/lang/Void;)V", sig := { parameters := [(.array .char), .int, .int, (.object "java/lang/Void")], returnType := none }, accessFlags := 2, code := some k7c4 }
def k7c5 : Code := { maxStack := 2, maxLocals := 3, code := jdk_42_method_151_code, exceptionTable := #[], attributes := #[] }
def k7m5 : Method := { name := "<init>", desc := "([BB)V", sig := { parameters := [(.array .byte), .byte], returnType := none }, accessFlags := 0, code := some k7c5 }
/-- java/lang/String -/
def k7 : Class := { plain "java/lang/String" (some 0) with
  accessFlags := 49
  interfaces := #[2, 3, 4, 5, 6]
  cf := some (fileOf pool7 10 #[.nestMembers #[1103]] #[{ accessFlags := 1, nameIndex := 5, descriptorIndex := 6, attributes := #[] }, { accessFlags := 1, nameIndex := 5, descriptorIndex := 1010, attributes := #[] }, { accessFlags := 1, nameIndex := 543, descriptorIndex := 573, attributes := #[] }, { accessFlags := 9, nameIndex := 782, descriptorIndex := 783, attributes := #[] }, { accessFlags := 2, nameIndex := 5, descriptorIndex := 29, attributes := #[] }, { accessFlags := 0, nameIndex := 5, descriptorIndex := 211, attributes := #[] }] 49 2 #[1106, 1108, 575, 1110, 1112] #[{ accessFlags := 18, nameIndex := 13, descriptorIndex := 14, attributes := #[] }, { accessFlags := 18, nameIndex := 17, descriptorIndex := 18, attributes := #[] }, { accessFlags := 2, nameIndex := 21, descriptorIndex := 22, attributes := #[] }, { accessFlags := 2, nameIndex := 25, descriptorIndex := 26, attributes := #[] }, { accessFlags := 26, nameIndex := 1116, descriptorIndex := 1117, attributes := #[] }, { accessFlags := 24, nameIndex := 40, descriptorIndex := 26, attributes := #[] }, { accessFlags := 26, nameIndex := 1101, descriptorIndex := 1102, attributes := #[] }, { accessFlags := 26, nameIndex := 1121, descriptorIndex := 1122, attributes := #[] }, { accessFlags := 25, nameIndex := 599, descriptorIndex := 600, attributes := #[] }, { accessFlags := 24, nameIndex := 1125, descriptorIndex := 18, attributes := #[] }, { accessFlags := 24, nameIndex := 1127, descriptorIndex := 18, attributes := #[] }])
  fields := #[{ name := "value", type := (.array .byte), accessFlags := 18, slot := 0, constantValue := 0 }, { name := "coder", type := .byte, accessFlags := 18, slot := 1, constantValue := 0 }, { name := "hash", type := .int, accessFlags := 2, slot := 2, constantValue := 0 }, { name := "hashIsZero", type := .boolean, accessFlags := 2, slot := 3, constantValue := 0 }, { name := "serialVersionUID", type := .long, accessFlags := 26, slot := 0, constantValue := 0 }, { name := "COMPACT_STRINGS", type := .boolean, accessFlags := 24, slot := 1, constantValue := 0 }, { name := "serialPersistentFields", type := (.array (.object "java/io/ObjectStreamField")), accessFlags := 26, slot := 2, constantValue := 0 }, { name := "REPL", type := .char, accessFlags := 26, slot := 3, constantValue := 0 }, { name := "CASE_INSENSITIVE_ORDER", type := (.object "java/util/Comparator"), accessFlags := 25, slot := 4, constantValue := 0 }, { name := "LATIN1", type := .byte, accessFlags := 24, slot := 5, constantValue := 0 }, { name := "UTF16", type := .byte, accessFlags := 24, slot := 6, constantValue := 0 }]
  methods := #[k7m0, k7m1, k7m2, k7m3, k7m4, k7m5]
  instanceTypes := #[(.array .byte), .byte, .int, .boolean]
  staticTypes := #[.long, .boolean, (.array (.object "java/io/ObjectStreamField")), .char, (.object "java/util/Comparator"), .byte, .byte]
  resolved := Array.replicate 1451 none
  statics := some 0 }

def pool8 : Array CpInfo := pool [(6, .class_ 8), (1, u "java/lang/Object"), (0, u "<init>"), (0, u "()V"), (1, .class_ 14), (1, u "java/lang/StringUTF16"), (31, u "$assertionsDisabled"), (0, u "Z"), (13, u "HI_BYTE_SHIFT"), (0, u "I"), (2, u "LO_BYTE_SHIFT"), (49, .methodref 12 116), (0, .nameAndType 117 118), (0, u "compress"), (0, u "([CI[BII)I"), (3, u "([CII)[B"), (138, u "coderFromArrayLen"), (0, u "([BI)B"), (106, .class_ 371), (1, u "java/lang/StringUTF16$LinesSpliterator"), (58, u "MAX_LENGTH"), (196, .class_ 628), (0, u "java/lang/StringUTF16$CodePointsSpliterator"), (0, .class_ 630), (0, u "java/lang/StringUTF16$CharsSpliterator")] 4

def k8m0 : Method := { name := "<init>", desc := "()V", sig := { parameters := [], returnType := none }, accessFlags := 0, code := none }
def k8c1 : Code := { maxStack := 2, maxLocals := 2, code := jdk_52_method_15_code, exceptionTable := #[], attributes := #[] }
def k8m1 : Method := { name := "coderFromArrayLen", desc := "([BI)B", sig := { parameters := [(.array .byte), .int], returnType := some .byte }, accessFlags := 8, code := some k8c1 }
def k8c2 : Code := { maxStack := 5, maxLocals := 6, code := jdk_52_method_16_code, exceptionTable := #[], attributes := #[] }
def k8m2 : Method := { name := "compress", desc := "([CII)[B", sig := { parameters := [(.array .char), .int, .int], returnType := some (.array .byte) }, accessFlags := 9, code := some k8c2 }
def k8c3 : Code := { maxStack := 3, maxLocals := 7, code := jdk_52_method_21_code, exceptionTable := #[], attributes := #[] }
def k8m3 : Method := { name := "compress", desc := "([CI[BII)I", sig := { parameters := [(.array .char), .int, (.array .byte), .int, .int], returnType := some .int }, accessFlags := 9, code := some k8c3 }
/-- java/lang/StringUTF16 -/
def k8 : Class := { plain "java/lang/StringUTF16" (some 0) with
  accessFlags := 48
  interfaces := #[]
  cf := some (fileOf pool8 12 #[.nestMembers #[627, 629, 369]] #[{ accessFlags := 0, nameIndex := 9, descriptorIndex := 10, attributes := #[] }, { accessFlags := 8, nameIndex := 261, descriptorIndex := 262, attributes := #[] }, { accessFlags := 9, nameIndex := 117, descriptorIndex := 122, attributes := #[] }, { accessFlags := 9, nameIndex := 117, descriptorIndex := 118, attributes := #[] }] 48 6 #[] #[{ accessFlags := 26, nameIndex := 61, descriptorIndex := 62, attributes := #[] }, { accessFlags := 26, nameIndex := 65, descriptorIndex := 62, attributes := #[] }, { accessFlags := 24, nameIndex := 430, descriptorIndex := 62, attributes := #[] }, { accessFlags := 4120, nameIndex := 46, descriptorIndex := 47, attributes := #[] }])
  fields := #[{ name := "HI_BYTE_SHIFT", type := .int, accessFlags := 26, slot := 0, constantValue := 0 }, { name := "LO_BYTE_SHIFT", type := .int, accessFlags := 26, slot := 1, constantValue := 0 }, { name := "MAX_LENGTH", type := .int, accessFlags := 24, slot := 2, constantValue := 0 }, { name := "$assertionsDisabled", type := .boolean, accessFlags := 4120, slot := 3, constantValue := 0 }]
  methods := #[k8m0, k8m1, k8m2, k8m3]
  instanceTypes := #[]
  staticTypes := #[.int, .int, .int, .boolean]
  resolved := Array.replicate 635 none
  statics := none }

def pool9 : Array CpInfo := pool [(1, .methodref 2 3), (0, .class_ 4), (0, .nameAndType 5 6), (0, u "java/lang/Object"), (0, u "<init>"), (0, u "()V"), (0, .class_ 8), (0, u "java/lang/Record")] 13

def k9c0 : Code := { maxStack := 1, maxLocals := 1, code := jdk_30_method_1_code, exceptionTable := #[], attributes := #[] }
def k9m0 : Method := { name := "<init>", desc := "()V", sig := { parameters := [], returnType := none }, accessFlags := 4, code := some k9c0 }
/-- java/lang/Record -/
def k9 : Class := { plain "java/lang/Record" (some 0) with
  accessFlags := 1057
  interfaces := #[]
  cf := some (fileOf pool9 7 #[] #[{ accessFlags := 4, nameIndex := 5, descriptorIndex := 6, attributes := #[] }] 1057 2 #[] #[])
  fields := #[]
  methods := #[k9m0]
  instanceTypes := #[]
  staticTypes := #[]
  resolved := Array.replicate 22 none
  statics := none }

def pool10 : Array CpInfo := pool [(1, .methodref 2 3), (0, .class_ 4), (0, .nameAndType 5 6), (0, u "java/lang/Record"), (0, u "<init>"), (0, u "()V"), (0, .fieldref 8 9), (0, .class_ 10), (0, .nameAndType 11 12), (0, u "com/example/fellwise/fellwise/Syntax$Option"), (0, u "name"), (0, u "Ljava/lang/String;"), (0, .fieldref 8 14), (0, .nameAndType 15 12), (0, u "alias"), (0, .fieldref 8 17), (0, .nameAndType 18 12), (0, u "label"), (0, .fieldref 8 20), (0, .nameAndType 21 22), (0, u "required"), (0, u "Z"), (0, .fieldref 8 24), (0, .nameAndType 25 12), (0, u "defaultValue"), (0, .fieldref 8 27), (0, .nameAndType 28 12), (0, u "description"), (0, .methodref 8 30), (0, .nameAndType 5 31), (0, u "(Ljava/lang/String;Ljava/lang/String;Ljava/lang/String;ZLjava/lang/String;Ljava/lang/String;)V"), (0, .methodref 8 33), (0, .nameAndType 34 35), (0, u "takesValue"), (0, u "()Z"), (19, u "flag"), (0, u "(Ljava/lang/String;Ljava/lang/String;Ljava/lang/String;)Lcom/example/fellwise/fellwise/Syntax$Option;"), (3, u "usage"), (0, u "()Ljava/lang/String;"), (7, .class_ 70), (0, u "com/example/fellwise/fellwise/Syntax")] 32

def k10c0 : Code := { maxStack := 2, maxLocals := 7, code := prog_40_method_1_code, exceptionTable := #[], attributes := #[] }
def k10m0 : Method := { name := "<init>", desc := "(Ljava/lang/String;Ljava/lang/String;Ljava/lang/String;ZLjava/lang/String;Ljava/lang/String;)V", sig := { parameters := [(.object "java/lang/String"), (.object "java/lang/String"), (.object "java/lang/String"), .boolean, (.object "java/lang/String"), (.object "java/lang/String")], returnType := none }, accessFlags := 0, code := some k10c0 }
def k10c1 : Code := { maxStack := 8, maxLocals := 3, code := prog_40_method_2_code, exceptionTable := #[], attributes := #[] }
def k10m1 : Method := { name := "flag", desc := "(Ljava/lang/String;Ljava/lang/String;Ljava/lang/String;)Lcom/example/fellwise/fellwise/Syntax$Option;", sig := { parameters := [(.object "java/lang/String"), (.object "java/lang/String"), (.object "java/lang/String")], returnType := some (.object "com/example/fellwise/fellwise/Syntax$Option") }, accessFlags := 8, code := some k10c1 }
def k10c2 : Code := { maxStack := 1, maxLocals := 1, code := prog_40_method_5_code, exceptionTable := #[], attributes := #[] }
def k10m2 : Method := { name := "takesValue", desc := "()Z", sig := { parameters := [], returnType := some .boolean }, accessFlags := 0, code := some k10c2 }
def k10c3 : Code := { maxStack := 2, maxLocals := 1, code := prog_40_method_6_code, exceptionTable := #[], attributes := #[] }
def k10m3 : Method := { name := "usage", desc := "()Ljava/lang/String;", sig := { parameters := [], returnType := some (.object "java/lang/String") }, accessFlags := 0, code := some k10c3 }
def k10c4 : Code := { maxStack := 1, maxLocals := 1, code := prog_40_method_10_code, exceptionTable := #[], attributes := #[] }
def k10m4 : Method := { name := "name", desc := "()Ljava/lang/String;", sig := { parameters := [], returnType := some (.object "java/lang/String") }, accessFlags := 1, code := some k10c4 }
def k10c5 : Code := { maxStack := 1, maxLocals := 1, code := prog_40_method_11_code, exceptionTable := #[], attributes := #[] }
def k10m5 : Method := { name := "alias", desc := "()Ljava/lang/String;", sig := { parameters := [], returnType := some (.object "java/lang/String") }, accessFlags := 1, code := some k10c5 }
def k10c6 : Code := { maxStack := 1, maxLocals := 1, code := prog_40_method_12_code, exceptionTable := #[], attributes := #[] }
def k10m6 : Method := { name := "label", desc := "()Ljava/lang/String;", sig := { parameters := [], returnType := some (.object "java/lang/String") }, accessFlags := 1, code := some k10c6 }
def k10c7 : Code := { maxStack := 1, maxLocals := 1, code := prog_40_method_13_code, exceptionTable := #[], attributes := #[] }
def k10m7 : Method := { name := "required", desc := "()Z", sig := { parameters := [], returnType := some .boolean }, accessFlags := 1, code := some k10c7 }
def k10c8 : Code := { maxStack := 1, maxLocals := 1, code := prog_40_method_14_code, exceptionTable := #[], attributes := #[] }
def k10m8 : Method := { name := "defaultValue", desc := "()Ljava/lang/String;", sig := { parameters := [], returnType := some (.object "java/lang/String") }, accessFlags := 1, code := some k10c8 }
def k10c9 : Code := { maxStack := 1, maxLocals := 1, code := prog_40_method_15_code, exceptionTable := #[], attributes := #[] }
def k10m9 : Method := { name := "description", desc := "()Ljava/lang/String;", sig := { parameters := [], returnType := some (.object "java/lang/String") }, accessFlags := 1, code := some k10c9 }
/-- com/example/fellwise/fellwise/Syntax$Option -/
def k10 : Class := { plain "com/example/fellwise/fellwise/Syntax$Option" (some 9) with
  accessFlags := 48
  interfaces := #[]
  cf := some (fileOf pool10 8 #[.nestHost 69] #[{ accessFlags := 0, nameIndex := 5, descriptorIndex := 31, attributes := #[] }, { accessFlags := 8, nameIndex := 55, descriptorIndex := 56, attributes := #[] }, { accessFlags := 0, nameIndex := 34, descriptorIndex := 35, attributes := #[] }, { accessFlags := 0, nameIndex := 60, descriptorIndex := 61, attributes := #[] }, { accessFlags := 1, nameIndex := 11, descriptorIndex := 61, attributes := #[] }, { accessFlags := 1, nameIndex := 15, descriptorIndex := 61, attributes := #[] }, { accessFlags := 1, nameIndex := 18, descriptorIndex := 61, attributes := #[] }, { accessFlags := 1, nameIndex := 21, descriptorIndex := 35, attributes := #[] }, { accessFlags := 1, nameIndex := 25, descriptorIndex := 61, attributes := #[] }, { accessFlags := 1, nameIndex := 28, descriptorIndex := 61, attributes := #[] }] 48 2 #[] #[{ accessFlags := 18, nameIndex := 11, descriptorIndex := 12, attributes := #[] }, { accessFlags := 18, nameIndex := 15, descriptorIndex := 12, attributes := #[] }, { accessFlags := 18, nameIndex := 18, descriptorIndex := 12, attributes := #[] }, { accessFlags := 18, nameIndex := 21, descriptorIndex := 22, attributes := #[] }, { accessFlags := 18, nameIndex := 25, descriptorIndex := 12, attributes := #[] }, { accessFlags := 18, nameIndex := 28, descriptorIndex := 12, attributes := #[] }])
  fields := #[{ name := "name", type := (.object "java/lang/String"), accessFlags := 18, slot := 0, constantValue := 0 }, { name := "alias", type := (.object "java/lang/String"), accessFlags := 18, slot := 1, constantValue := 0 }, { name := "label", type := (.object "java/lang/String"), accessFlags := 18, slot := 2, constantValue := 0 }, { name := "required", type := .boolean, accessFlags := 18, slot := 3, constantValue := 0 }, { name := "defaultValue", type := (.object "java/lang/String"), accessFlags := 18, slot := 4, constantValue := 0 }, { name := "description", type := (.object "java/lang/String"), accessFlags := 18, slot := 5, constantValue := 0 }]
  methods := #[k10m0, k10m1, k10m2, k10m3, k10m4, k10m5, k10m6, k10m7, k10m8, k10m9]
  instanceTypes := #[(.object "java/lang/String"), (.object "java/lang/String"), (.object "java/lang/String"), .boolean, (.object "java/lang/String"), (.object "java/lang/String")]
  staticTypes := #[]
  resolved := Array.replicate 103 none
  statics := none }

def pool11 : Array CpInfo := pool [(4, .class_ 6), (1, u "java/lang/Object"), (0, u "<init>"), (0, u "()V"), (5, .class_ 16), (1, u "java/lang/StringLatin1"), (73, u "canEncode"), (14, u "(C)Z"), (15, u "$assertionsDisabled"), (0, u "Z"), (98, .class_ 223), (1, u "java/lang/StringLatin1$LinesSpliterator"), (156, u "toBytes"), (1, u "(C)[B"), (7, .class_ 391), (0, u "java/lang/StringLatin1$CharsSpliterator")] 3

def k11m0 : Method := { name := "<init>", desc := "()V", sig := { parameters := [], returnType := none }, accessFlags := 0, code := none }
def k11c1 : Code := { maxStack := 2, maxLocals := 1, code := jdk_43_method_3_code, exceptionTable := #[], attributes := #[] }
def k11m1 : Method := { name := "canEncode", desc := "(C)Z", sig := { parameters := [.char], returnType := some .boolean }, accessFlags := 9, code := some k11c1 }
def k11c2 : Code := { maxStack := 4, maxLocals := 1, code := jdk_43_method_46_code, exceptionTable := #[], attributes := #[] }
def k11m2 : Method := { name := "toBytes", desc := "(C)[B", sig := { parameters := [.char], returnType := some (.array .byte) }, accessFlags := 9, code := some k11c2 }
/-- java/lang/StringLatin1 -/
def k11 : Class := { plain "java/lang/StringLatin1" (some 0) with
  accessFlags := 48
  interfaces := #[]
  cf := some (fileOf pool11 14 #[.nestMembers #[390, 221]] #[{ accessFlags := 0, nameIndex := 7, descriptorIndex := 8, attributes := #[] }, { accessFlags := 9, nameIndex := 90, descriptorIndex := 105, attributes := #[] }, { accessFlags := 9, nameIndex := 380, descriptorIndex := 382, attributes := #[] }] 48 4 #[] #[{ accessFlags := 4120, nameIndex := 121, descriptorIndex := 122, attributes := #[] }])
  fields := #[{ name := "$assertionsDisabled", type := .boolean, accessFlags := 4120, slot := 0, constantValue := 0 }]
  methods := #[k11m0, k11m1, k11m2]
  instanceTypes := #[]
  staticTypes := #[.boolean]
  resolved := Array.replicate 395 none
  statics := none }

def pool12 : Array CpInfo := pool [(2, .class_ 4), (1, u "java/lang/Object"), (0, u "<init>"), (0, u "()V"), (17, .class_ 26), (1, u "jdk/internal/util/Preconditions"), (28, .class_ 56), (0, u "jdk/internal/util/Preconditions$4"), (57, .class_ 115), (0, u "jdk/internal/util/Preconditions$1"), (7, u "SIOOBE_FORMATTER"), (0, u "Ljava/util/function/BiFunction;"), (0, .class_ 126), (0, u "jdk/internal/util/Preconditions$2"), (3, u "AIOOBE_FORMATTER"), (0, .class_ 132), (0, u "jdk/internal/util/Preconditions$3"), (3, u "IOOBE_FORMATTER")] 57

def k12m0 : Method := { name := "<init>", desc := "()V", sig := { parameters := [], returnType := none }, accessFlags := 1, code := none }
/-- jdk/internal/util/Preconditions -/
def k12 : Class := { plain "jdk/internal/util/Preconditions" (some 0) with
  accessFlags := 33
  interfaces := #[]
  cf := some (fileOf pool12 24 #[.nestMembers #[55, 131, 125, 114]] #[{ accessFlags := 1, nameIndex := 5, descriptorIndex := 6, attributes := #[] }] 33 2 #[] #[{ accessFlags := 25, nameIndex := 123, descriptorIndex := 124, attributes := #[] }, { accessFlags := 25, nameIndex := 130, descriptorIndex := 124, attributes := #[] }, { accessFlags := 25, nameIndex := 136, descriptorIndex := 124, attributes := #[] }])
  fields := #[{ name := "SIOOBE_FORMATTER", type := (.object "java/util/function/BiFunction"), accessFlags := 25, slot := 0, constantValue := 0 }, { name := "AIOOBE_FORMATTER", type := (.object "java/util/function/BiFunction"), accessFlags := 25, slot := 1, constantValue := 0 }, { name := "IOOBE_FORMATTER", type := (.object "java/util/function/BiFunction"), accessFlags := 25, slot := 2, constantValue := 0 }]
  methods := #[k12m0]
  instanceTypes := #[]
  staticTypes := #[(.object "java/util/function/BiFunction"), (.object "java/util/function/BiFunction"), (.object "java/util/function/BiFunction")]
  resolved := Array.replicate 194 none
  statics := some 1 }

def pool13 : Array CpInfo := pool [(9, u "<init>"), (6, .class_ 18), (1, u "java/lang/Object"), (0, u "()V"), (1, .class_ 23), (1, u "jdk/internal/util/ArraysSupport"), (0, u "LOG2_ARRAY_LONG_INDEX_SCALE"), (0, u "I"), (2, u "U"), (0, u "Ljdk/internal/misc/Unsafe;"), (8, u "BIG_ENDIAN"), (0, u "Z"), (8, u "LOG2_BYTE_BIT_SIZE"), (4, u "LOG2_ARRAY_INT_INDEX_SCALE"), (54, u "JLA"), (0, u "Ljdk/internal/access/JavaLangAccess;"), (11, u "LOG2_ARRAY_BOOLEAN_INDEX_SCALE"), (9, u "LOG2_ARRAY_BYTE_INDEX_SCALE"), (5, u "LOG2_ARRAY_CHAR_INDEX_SCALE"), (5, u "LOG2_ARRAY_SHORT_INDEX_SCALE"), (18, u "LOG2_ARRAY_FLOAT_INDEX_SCALE"), (24, u "LOG2_ARRAY_DOUBLE_INDEX_SCALE"), (89, u "T_BOOLEAN"), (2, u "T_CHAR"), (1, u "T_FLOAT"), (1, u "T_DOUBLE"), (1, u "T_BYTE"), (1, u "T_SHORT"), (1, u "T_INT"), (1, u "T_LONG"), (1, u "SOFT_MAX_ARRAY_LENGTH")] 83

def k13m0 : Method := { name := "<init>", desc := "()V", sig := { parameters := [], returnType := none }, accessFlags := 2, code := none }
/-- jdk/internal/util/ArraysSupport -/
def k13 : Class := { plain "jdk/internal/util/ArraysSupport" (some 0) with
  accessFlags := 33
  interfaces := #[]
  cf := some (fileOf pool13 21 #[] #[{ accessFlags := 2, nameIndex := 9, descriptorIndex := 19, attributes := #[] }] 33 16 #[] #[{ accessFlags := 24, nameIndex := 28, descriptorIndex := 29, attributes := #[] }, { accessFlags := 26, nameIndex := 38, descriptorIndex := 39, attributes := #[] }, { accessFlags := 25, nameIndex := 121, descriptorIndex := 25, attributes := #[] }, { accessFlags := 25, nameIndex := 131, descriptorIndex := 25, attributes := #[] }, { accessFlags := 25, nameIndex := 137, descriptorIndex := 25, attributes := #[] }, { accessFlags := 25, nameIndex := 143, descriptorIndex := 25, attributes := #[] }, { accessFlags := 25, nameIndex := 53, descriptorIndex := 25, attributes := #[] }, { accessFlags := 25, nameIndex := 24, descriptorIndex := 25, attributes := #[] }, { accessFlags := 25, nameIndex := 162, descriptorIndex := 25, attributes := #[] }, { accessFlags := 25, nameIndex := 187, descriptorIndex := 25, attributes := #[] }, { accessFlags := 26, nameIndex := 48, descriptorIndex := 25, attributes := #[] }, { accessFlags := 25, nameIndex := 277, descriptorIndex := 25, attributes := #[] }, { accessFlags := 25, nameIndex := 280, descriptorIndex := 25, attributes := #[] }, { accessFlags := 25, nameIndex := 282, descriptorIndex := 25, attributes := #[] }, { accessFlags := 25, nameIndex := 284, descriptorIndex := 25, attributes := #[] }, { accessFlags := 25, nameIndex := 286, descriptorIndex := 25, attributes := #[] }, { accessFlags := 25, nameIndex := 288, descriptorIndex := 25, attributes := #[] }, { accessFlags := 25, nameIndex := 290, descriptorIndex := 25, attributes := #[] }, { accessFlags := 25, nameIndex := 292, descriptorIndex := 25, attributes := #[] }, { accessFlags := 26, nameIndex := 108, descriptorIndex := 109, attributes := #[] }, { accessFlags := 25, nameIndex := 294, descriptorIndex := 25, attributes := #[] }])
  fields := #[{ name := "U", type := (.object "jdk/internal/misc/Unsafe"), accessFlags := 24, slot := 0, constantValue := 0 }, { name := "BIG_ENDIAN", type := .boolean, accessFlags := 26, slot := 1, constantValue := 0 }, { name := "LOG2_ARRAY_BOOLEAN_INDEX_SCALE", type := .int, accessFlags := 25, slot := 2, constantValue := 0 }, { name := "LOG2_ARRAY_BYTE_INDEX_SCALE", type := .int, accessFlags := 25, slot := 3, constantValue := 0 }, { name := "LOG2_ARRAY_CHAR_INDEX_SCALE", type := .int, accessFlags := 25, slot := 4, constantValue := 0 }, { name := "LOG2_ARRAY_SHORT_INDEX_SCALE", type := .int, accessFlags := 25, slot := 5, constantValue := 0 }, { name := "LOG2_ARRAY_INT_INDEX_SCALE", type := .int, accessFlags := 25, slot := 6, constantValue := 0 }, { name := "LOG2_ARRAY_LONG_INDEX_SCALE", type := .int, accessFlags := 25, slot := 7, constantValue := 0 }, { name := "LOG2_ARRAY_FLOAT_INDEX_SCALE", type := .int, accessFlags := 25, slot := 8, constantValue := 0 }, { name := "LOG2_ARRAY_DOUBLE_INDEX_SCALE", type := .int, accessFlags := 25, slot := 9, constantValue := 0 }, { name := "LOG2_BYTE_BIT_SIZE", type := .int, accessFlags := 26, slot := 10, constantValue := 0 }, { name := "T_BOOLEAN", type := .int, accessFlags := 25, slot := 11, constantValue := 0 }, { name := "T_CHAR", type := .int, accessFlags := 25, slot := 12, constantValue := 0 }, { name := "T_FLOAT", type := .int, accessFlags := 25, slot := 13, constantValue := 0 }, { name := "T_DOUBLE", type := .int, accessFlags := 25, slot := 14, constantValue := 0 }, { name := "T_BYTE", type := .int, accessFlags := 25, slot := 15, constantValue := 0 }, { name := "T_SHORT", type := .int, accessFlags := 25, slot := 16, constantValue := 0 }, { name := "T_INT", type := .int, accessFlags := 25, slot := 17, constantValue := 0 }, { name := "T_LONG", type := .int, accessFlags := 25, slot := 18, constantValue := 0 }, { name := "JLA", type := (.object "jdk/internal/access/JavaLangAccess"), accessFlags := 26, slot := 19, constantValue := 0 }, { name := "SOFT_MAX_ARRAY_LENGTH", type := .int, accessFlags := 25, slot := 20, constantValue := 0 }]
  methods := #[k13m0]
  instanceTypes := #[]
  staticTypes := #[(.object "jdk/internal/misc/Unsafe"), .boolean, .int, .int, .int, .int, .int, .int, .int, .int, .int, .int, .int, .int, .int, .int, .int, .int, .int, (.object "jdk/internal/access/JavaLangAccess"), .int]
  resolved := Array.replicate 378 none
  statics := none }

def pool14 : Array CpInfo := pool [(1, u "java/lang/Cloneable"), (0, .class_ 1), (0, u "java/lang/Object"), (0, .class_ 3)] 3

/-- java/lang/Cloneable -/
def k14 : Class := { plain "java/lang/Cloneable" (some 0) with
  accessFlags := 1537
  interfaces := #[]
  cf := some (fileOf pool14 2 #[] #[] 1537 4 #[] #[])
  fields := #[]
  methods := #[]
  instanceTypes := #[]
  staticTypes := #[]
  resolved := Array.replicate 8 none
  statics := none }

/-- the primitive byte -/
def k15 : Class := { plain "byte" none with kind := .primitive 'B', accessFlags := 0x411 }
/-- [B -/
def k16 : Class := { plain "[B" (some 0) with kind := .array 15 .byte, interfaces := #[14, 2], accessFlags := 1041 }

/-- the primitive char -/
def k17 : Class := { plain "char" none with kind := .primitive 'C', accessFlags := 0x411 }
/-- [C -/
def k18 : Class := { plain "[C" (some 0) with kind := .array 17 .char, interfaces := #[14, 2], accessFlags := 1041 }

/-- the primitive int -/
def k19 : Class := { plain "int" none with kind := .primitive 'I', accessFlags := 0x411 }
/-- [I -/
def k20 : Class := { plain "[I" (some 0) with kind := .array 19 .int, interfaces := #[14, 2], accessFlags := 1041 }

def heap : Heap := #[{ cls := 7, slots := #[.long 0, .int 1, .null, .int 0, .null, .int 0, .int 0], vm := .statics 7 },
  { cls := 12, slots := #[.null, .null, .null], vm := .statics 12 }]
def classes : Array Class := #[k0, k1, k2, k3, k4, k5, k6, k7, k8, k9, k10, k11, k12, k13, k14, k15, k16, k17, k18, k19, k20]
def interned : List (Array UInt16 × Addr) := []
def slotsUsed : Nat := 10
def theMethod : MethodId := ⟨1, 1⟩
def args0 : Array Value := #[.int 97, .int 98, .int 99, .int 0]
def aboutOver (below : List Frame) : State where
  vm := { classes := classes, interned := interned.toArray }
  heap := heap
  slotsUsed := slotsUsed
  threads := #[{ frames := .invoking theMethod args0 :: below }]
def below0 : List Frame := [.native { method := ⟨0, 0⟩, args := #[] }]
def about1 : State := aboutOver below0
def p0 : Program := .bare "" "" ""
def e0 : Env := launch0.env 0 0 0
theorem w_frames : about1.frames = Frame.invoking theMethod args0 :: below0 := rfl
set_option maxRecDepth 65536 in
theorem w_args : argsFit about1.vm theMethod args0 = true := by decide +kernel
set_option maxRecDepth 65536 in
theorem w_heap : heapFits about1 = true := by decide +kernel
set_option maxRecDepth 65536 in
theorem w_runnable : about1.curStatus? = some .runnable := by decide +kernel
set_option maxRecDepth 65536 in
theorem w_alone : about1.alone = true := by decide +kernel
set_option maxRecDepth 65536 in
theorem w_named : about1.methodNamed? x = some theMethod := by decide +kernel
set_option maxRecDepth 65536 in
theorem w_hears : about1.hears theMethod below0 = true := by decide +kernel
set_option maxRecDepth 65536 in
theorem w_ripe : about1.ripe theMethod args0 below0 = true := by decide +kernel
theorem w_running : about1.status = .running := rfl
set_option maxRecDepth 65536 in
theorem w_room : about1.hasRoom e0.platform room_1 = true :=
  launch0.hasRoom_least _ room_1 (by decide +kernel) (by decide +kernel) (by decide +kernel) (by decide +kernel) (by decide +kernel) (by decide +kernel)
theorem allAtoms_all (ts : List Jvm.Cond) (a : Array Jvm.Value) (st : Jvm.State) : (allAtoms ts).before a st = ts.all (fun c => c.before a st) := by
  induction ts with
  | nil => rfl
  | cons c t ih =>
    show (Jvm.Cond.and c (allAtoms t)).before a st = _
    rw [Jvm.Cond.before_and, ih, List.all_cons]
def words1 : List Jvm.Cond := Jvm.Cond.code x code maxLocals ret :: tables_1
/-- a 'code' word, met by the world's own term for the bytes: nothing is compared byte by byte -/
theorem code_word {y : MethodName} {bytes : ByteArray} {mx : Nat} {rt : Option FieldType} {a : Array Value} {s : State} {m : MethodId} {meth : Method} {c : Code} (h1 : s.methodNamed? y = some m) (h2 : s.vm.method? m = some meth) (h3 : meth.code = some c) (h4 : c.code = bytes)
    (h5 : (c.maxLocals == mx && c.exceptionTable.isEmpty && decide (c.maxStack ≤ mostOperands) && decide (meth.sig.returnType = rt) && !meth.locks && decide (parseMethodDescriptor y.desc = some meth.sig)) = true) : (Jvm.Cond.code y bytes mx rt).before a s = true := by
  simp only [Bool.and_eq_true, beq_iff_eq, Bool.not_eq_true', decide_eq_true_eq] at h5
  obtain ⟨⟨⟨⟨⟨g1, g2⟩, g3⟩, g4⟩, g5⟩, g6⟩ := h5
  simp [Cond.before, Cond.holds, Cond.value, h1, h2, h3, h4, g1, g2, g3, g4, g5, g6]
def isCode : Jvm.Cond → Bool
  | .code _ _ _ _ => true
  | _ => false
theorem all_split {L : List Jvm.Cond} {P : Jvm.Cond → Bool} (h1 : L.all (fun c => isCode c || P c) = true) (h2 : ∀ c ∈ L.filter isCode, P c = true) : L.all P = true := by
  refine List.all_eq_true.mpr fun c hc => ?_
  have h := List.all_eq_true.mp h1 c hc
  rcases Bool.eq_false_or_eq_true (isCode c) with hi | hi
  · exact h2 c (List.mem_filter.mpr ⟨hc, hi⟩)
  · simpa [hi] using h
set_option maxRecDepth 65536 in
theorem w_c0 : (Jvm.Cond.code x code maxLocals ret).before args0 about1 = true := code_word (m := ⟨1, 1⟩) (meth := k1m1) (c := k1c1) (by decide +kernel) rfl rfl rfl (by decide +kernel)
set_option maxRecDepth 65536 in
theorem w_c1 : (Jvm.Cond.code ({ cls := "java/lang/String", name := "<init>", desc := "([C)V" } : Jvm.MethodName) jdk_42_method_3_code (2 : Nat) (Option.none : Option Jvm.ClassFile.FieldType)).before args0 about1 = true := code_word (m := ⟨7, 1⟩) (meth := k7m1) (c := k7c1) (by decide +kernel) rfl rfl rfl (by decide +kernel)
set_option maxRecDepth 65536 in
theorem w_c2 : (Jvm.Cond.code ({ cls := "java/lang/String", name := "<init>", desc := "([CIILjava/lang/Void;)V" } : Jvm.MethodName) jdk_42_method_149_code (6 : Nat) (Option.none : Option Jvm.ClassFile.FieldType)).before args0 about1 = true := code_word (m := ⟨7, 4⟩) (meth := k7m4) (c := k7c4) (by decide +kernel) rfl rfl rfl (by decide +kernel)
set_option maxRecDepth 65536 in
theorem w_c3 : (Jvm.Cond.code ({ cls := "java/lang/Object", name := "<init>", desc := "()V" } : Jvm.MethodName) object_method_1_code (1 : Nat) (Option.none : Option Jvm.ClassFile.FieldType)).before args0 about1 = true := code_word (m := ⟨0, 0⟩) (meth := k0m0) (c := k0c0) (by decide +kernel) rfl rfl rfl (by decide +kernel)
set_option maxRecDepth 65536 in
theorem w_c4 : (Jvm.Cond.code ({ cls := "java/lang/StringUTF16", name := "compress", desc := "([CII)[B" } : Jvm.MethodName) jdk_52_method_16_code (6 : Nat) (Option.some (Jvm.ClassFile.FieldType.array Jvm.ClassFile.FieldType.byte))).before args0 about1 = true := code_word (m := ⟨8, 2⟩) (meth := k8m2) (c := k8c2) (by decide +kernel) rfl rfl rfl (by decide +kernel)
set_option maxRecDepth 65536 in
theorem w_c5 : (Jvm.Cond.code ({ cls := "java/lang/StringUTF16", name := "compress", desc := "([CI[BII)I" } : Jvm.MethodName) jdk_52_method_21_code (7 : Nat) (Option.some Jvm.ClassFile.FieldType.int)).before args0 about1 = true := code_word (m := ⟨8, 3⟩) (meth := k8m3) (c := k8c3) (by decide +kernel) rfl rfl rfl (by decide +kernel)
set_option maxRecDepth 65536 in
theorem w_c6 : (Jvm.Cond.code ({ cls := "java/lang/StringUTF16", name := "coderFromArrayLen", desc := "([BI)B" } : Jvm.MethodName) jdk_52_method_15_code (2 : Nat) (Option.some Jvm.ClassFile.FieldType.byte)).before args0 about1 = true := code_word (m := ⟨8, 1⟩) (meth := k8m1) (c := k8c1) (by decide +kernel) rfl rfl rfl (by decide +kernel)
set_option maxRecDepth 65536 in
theorem w_c7 : (Jvm.Cond.code ({ cls := "com/example/fellwise/fellwise/Syntax$Option", name := "flag", desc := "(Ljava/lang/String;Ljava/lang/String;Ljava/lang/String;)Lcom/example/fellwise/fellwise/Syntax$Option;" } : Jvm.MethodName) prog_40_method_2_code (3 : Nat) (Option.some (Jvm.ClassFile.FieldType.object "com/example/fellwise/fellwise/Syntax$Option"))).before args0 about1 = true := code_word (m := ⟨10, 1⟩) (meth := k10m1) (c := k10c1) (by decide +kernel) rfl rfl rfl (by decide +kernel)
set_option maxRecDepth 65536 in
theorem w_c8 : (Jvm.Cond.code ({ cls := "com/example/fellwise/fellwise/Syntax$Option", name := "<init>", desc := "(Ljava/lang/String;Ljava/lang/String;Ljava/lang/String;ZLjava/lang/String;Ljava/lang/String;)V" } : Jvm.MethodName) prog_40_method_1_code (7 : Nat) (Option.none : Option Jvm.ClassFile.FieldType)).before args0 about1 = true := code_word (m := ⟨10, 0⟩) (meth := k10m0) (c := k10c0) (by decide +kernel) rfl rfl rfl (by decide +kernel)
set_option maxRecDepth 65536 in
theorem w_c9 : (Jvm.Cond.code ({ cls := "java/lang/Record", name := "<init>", desc := "()V" } : Jvm.MethodName) jdk_30_method_1_code (1 : Nat) (Option.none : Option Jvm.ClassFile.FieldType)).before args0 about1 = true := code_word (m := ⟨9, 0⟩) (meth := k9m0) (c := k9c0) (by decide +kernel) rfl rfl rfl (by decide +kernel)
set_option maxRecDepth 65536 in
theorem w_c10 : (Jvm.Cond.code ({ cls := "com/example/fellwise/fellwise/Syntax$Option", name := "name", desc := "()Ljava/lang/String;" } : Jvm.MethodName) prog_40_method_10_code (1 : Nat) (Option.some (Jvm.ClassFile.FieldType.object "java/lang/String"))).before args0 about1 = true := code_word (m := ⟨10, 4⟩) (meth := k10m4) (c := k10c4) (by decide +kernel) rfl rfl rfl (by decide +kernel)
set_option maxRecDepth 65536 in
theorem w_c11 : (Jvm.Cond.code ({ cls := "com/example/fellwise/fellwise/Syntax$Option", name := "alias", desc := "()Ljava/lang/String;" } : Jvm.MethodName) prog_40_method_11_code (1 : Nat) (Option.some (Jvm.ClassFile.FieldType.object "java/lang/String"))).before args0 about1 = true := code_word (m := ⟨10, 5⟩) (meth := k10m5) (c := k10c5) (by decide +kernel) rfl rfl rfl (by decide +kernel)
set_option maxRecDepth 65536 in
theorem w_c12 : (Jvm.Cond.code ({ cls := "com/example/fellwise/fellwise/Syntax$Option", name := "description", desc := "()Ljava/lang/String;" } : Jvm.MethodName) prog_40_method_15_code (1 : Nat) (Option.some (Jvm.ClassFile.FieldType.object "java/lang/String"))).before args0 about1 = true := code_word (m := ⟨10, 9⟩) (meth := k10m9) (c := k10c9) (by decide +kernel) rfl rfl rfl (by decide +kernel)
set_option maxRecDepth 65536 in
theorem w_c13 : (Jvm.Cond.code ({ cls := "com/example/fellwise/fellwise/Syntax$Option", name := "label", desc := "()Ljava/lang/String;" } : Jvm.MethodName) prog_40_method_12_code (1 : Nat) (Option.some (Jvm.ClassFile.FieldType.object "java/lang/String"))).before args0 about1 = true := code_word (m := ⟨10, 6⟩) (meth := k10m6) (c := k10c6) (by decide +kernel) rfl rfl rfl (by decide +kernel)
set_option maxRecDepth 65536 in
theorem w_c14 : (Jvm.Cond.code ({ cls := "com/example/fellwise/fellwise/Syntax$Option", name := "required", desc := "()Z" } : Jvm.MethodName) prog_40_method_13_code (1 : Nat) (Option.some Jvm.ClassFile.FieldType.boolean)).before args0 about1 = true := code_word (m := ⟨10, 7⟩) (meth := k10m7) (c := k10c7) (by decide +kernel) rfl rfl rfl (by decide +kernel)
set_option maxRecDepth 65536 in
theorem w_c15 : (Jvm.Cond.code ({ cls := "com/example/fellwise/fellwise/Syntax$Option", name := "defaultValue", desc := "()Ljava/lang/String;" } : Jvm.MethodName) prog_40_method_14_code (1 : Nat) (Option.some (Jvm.ClassFile.FieldType.object "java/lang/String"))).before args0 about1 = true := code_word (m := ⟨10, 8⟩) (meth := k10m8) (c := k10c8) (by decide +kernel) rfl rfl rfl (by decide +kernel)
set_option maxRecDepth 65536 in
theorem w_c16 : (Jvm.Cond.code ({ cls := "com/example/fellwise/fellwise/Syntax$Option", name := "takesValue", desc := "()Z" } : Jvm.MethodName) prog_40_method_5_code (1 : Nat) (Option.some Jvm.ClassFile.FieldType.boolean)).before args0 about1 = true := code_word (m := ⟨10, 2⟩) (meth := k10m2) (c := k10c2) (by decide +kernel) rfl rfl rfl (by decide +kernel)
set_option maxRecDepth 65536 in
theorem w_c17 : (Jvm.Cond.code ({ cls := "com/example/fellwise/fellwise/Syntax$Option", name := "usage", desc := "()Ljava/lang/String;" } : Jvm.MethodName) prog_40_method_6_code (1 : Nat) (Option.some (Jvm.ClassFile.FieldType.object "java/lang/String"))).before args0 about1 = true := code_word (m := ⟨10, 3⟩) (meth := k10m3) (c := k10c3) (by decide +kernel) rfl rfl rfl (by decide +kernel)
set_option maxRecDepth 65536 in
theorem w_c18 : (Jvm.Cond.code ({ cls := "java/lang/String", name := "equals", desc := "(Ljava/lang/Object;)Z" } : Jvm.MethodName) jdk_42_method_66_code (3 : Nat) (Option.some Jvm.ClassFile.FieldType.boolean)).before args0 about1 = true := code_word (m := ⟨7, 2⟩) (meth := k7m2) (c := k7c2) (by decide +kernel) rfl rfl rfl (by decide +kernel)
set_option maxRecDepth 65536 in
theorem w_c19 : (Jvm.Cond.code ({ cls := "java/lang/String", name := "valueOf", desc := "(C)Ljava/lang/String;" } : Jvm.MethodName) jdk_42_method_139_code (1 : Nat) (Option.some (Jvm.ClassFile.FieldType.object "java/lang/String"))).before args0 about1 = true := code_word (m := ⟨7, 3⟩) (meth := k7m3) (c := k7c3) (by decide +kernel) rfl rfl rfl (by decide +kernel)
set_option maxRecDepth 65536 in
theorem w_c20 : (Jvm.Cond.code ({ cls := "java/lang/StringLatin1", name := "canEncode", desc := "(C)Z" } : Jvm.MethodName) jdk_43_method_3_code (1 : Nat) (Option.some Jvm.ClassFile.FieldType.boolean)).before args0 about1 = true := code_word (m := ⟨11, 1⟩) (meth := k11m1) (c := k11c1) (by decide +kernel) rfl rfl rfl (by decide +kernel)
set_option maxRecDepth 65536 in
theorem w_c21 : (Jvm.Cond.code ({ cls := "java/lang/StringLatin1", name := "toBytes", desc := "(C)[B" } : Jvm.MethodName) jdk_43_method_46_code (1 : Nat) (Option.some (Jvm.ClassFile.FieldType.array Jvm.ClassFile.FieldType.byte))).before args0 about1 = true := code_word (m := ⟨11, 2⟩) (meth := k11m2) (c := k11c2) (by decide +kernel) rfl rfl rfl (by decide +kernel)
set_option maxRecDepth 65536 in
theorem w_c22 : (Jvm.Cond.code ({ cls := "java/lang/String", name := "<init>", desc := "([BB)V" } : Jvm.MethodName) jdk_42_method_151_code (3 : Nat) (Option.none : Option Jvm.ClassFile.FieldType)).before args0 about1 = true := code_word (m := ⟨7, 5⟩) (meth := k7m5) (c := k7c5) (by decide +kernel) rfl rfl rfl (by decide +kernel)
def codes1 : List Jvm.Cond := [Jvm.Cond.code x code maxLocals ret, Jvm.Cond.code ({ cls := "java/lang/String", name := "<init>", desc := "([C)V" } : Jvm.MethodName) jdk_42_method_3_code (2 : Nat) (Option.none : Option Jvm.ClassFile.FieldType), Jvm.Cond.code ({ cls := "java/lang/String", name := "<init>", desc := "([CIILjava/lang/Void;)V" } : Jvm.MethodName) jdk_42_method_149_code (6 : Nat) (Option.none : Option Jvm.ClassFile.FieldType), Jvm.Cond.code ({ cls := "java/lang/Object", name := "<init>", desc := "()V" } : Jvm.MethodName) object_method_1_code (1 : Nat) (Option.none : Option Jvm.ClassFile.FieldType), Jvm.Cond.code ({ cls := "java/lang/StringUTF16", name := "compress", desc := "([CII)[B" } : Jvm.MethodName) jdk_52_method_16_code (6 : Nat) (Option.some (Jvm.ClassFile.FieldType.array Jvm.ClassFile.FieldType.byte)), Jvm.Cond.code ({ cls := "java/lang/StringUTF16", name := "compress", desc := "([CI[BII)I" } : Jvm.MethodName) jdk_52_method_21_code (7 : Nat) (Option.some Jvm.ClassFile.FieldType.int), Jvm.Cond.code ({ cls := "java/lang/StringUTF16", name := "coderFromArrayLen", desc := "([BI)B" } : Jvm.MethodName) jdk_52_method_15_code (2 : Nat) (Option.some Jvm.ClassFile.FieldType.byte), Jvm.Cond.code ({ cls := "com/example/fellwise/fellwise/Syntax$Option", name := "flag", desc := "(Ljava/lang/String;Ljava/lang/String;Ljava/lang/String;)Lcom/example/fellwise/fellwise/Syntax$Option;" } : Jvm.MethodName) prog_40_method_2_code (3 : Nat) (Option.some (Jvm.ClassFile.FieldType.object "com/example/fellwise/fellwise/Syntax$Option")), Jvm.Cond.code ({ cls := "com/example/fellwise/fellwise/Syntax$Option", name := "<init>", desc := "(Ljava/lang/String;Ljava/lang/String;Ljava/lang/String;ZLjava/lang/String;Ljava/lang/String;)V" } : Jvm.MethodName) prog_40_method_1_code (7 : Nat) (Option.none : Option Jvm.ClassFile.FieldType), Jvm.Cond.code ({ cls := "java/lang/Record", name := "<init>", desc := "()V" } : Jvm.MethodName) jdk_30_method_1_code (1 : Nat) (Option.none : Option Jvm.ClassFile.FieldType), Jvm.Cond.code ({ cls := "com/example/fellwise/fellwise/Syntax$Option", name := "name", desc := "()Ljava/lang/String;" } : Jvm.MethodName) prog_40_method_10_code (1 : Nat) (Option.some (Jvm.ClassFile.FieldType.object "java/lang/String")), Jvm.Cond.code ({ cls := "com/example/fellwise/fellwise/Syntax$Option", name := "alias", desc := "()Ljava/lang/String;" } : Jvm.MethodName) prog_40_method_11_code (1 : Nat) (Option.some (Jvm.ClassFile.FieldType.object "java/lang/String")), Jvm.Cond.code ({ cls := "com/example/fellwise/fellwise/Syntax$Option", name := "description", desc := "()Ljava/lang/String;" } : Jvm.MethodName) prog_40_method_15_code (1 : Nat) (Option.some (Jvm.ClassFile.FieldType.object "java/lang/String")), Jvm.Cond.code ({ cls := "com/example/fellwise/fellwise/Syntax$Option", name := "label", desc := "()Ljava/lang/String;" } : Jvm.MethodName) prog_40_method_12_code (1 : Nat) (Option.some (Jvm.ClassFile.FieldType.object "java/lang/String")), Jvm.Cond.code ({ cls := "com/example/fellwise/fellwise/Syntax$Option", name := "required", desc := "()Z" } : Jvm.MethodName) prog_40_method_13_code (1 : Nat) (Option.some Jvm.ClassFile.FieldType.boolean), Jvm.Cond.code ({ cls := "com/example/fellwise/fellwise/Syntax$Option", name := "defaultValue", desc := "()Ljava/lang/String;" } : Jvm.MethodName) prog_40_method_14_code (1 : Nat) (Option.some (Jvm.ClassFile.FieldType.object "java/lang/String")), Jvm.Cond.code ({ cls := "com/example/fellwise/fellwise/Syntax$Option", name := "takesValue", desc := "()Z" } : Jvm.MethodName) prog_40_method_5_code (1 : Nat) (Option.some Jvm.ClassFile.FieldType.boolean), Jvm.Cond.code ({ cls := "com/example/fellwise/fellwise/Syntax$Option", name := "usage", desc := "()Ljava/lang/String;" } : Jvm.MethodName) prog_40_method_6_code (1 : Nat) (Option.some (Jvm.ClassFile.FieldType.object "java/lang/String")), Jvm.Cond.code ({ cls := "java/lang/String", name := "equals", desc := "(Ljava/lang/Object;)Z" } : Jvm.MethodName) jdk_42_method_66_code (3 : Nat) (Option.some Jvm.ClassFile.FieldType.boolean), Jvm.Cond.code ({ cls := "java/lang/String", name := "valueOf", desc := "(C)Ljava/lang/String;" } : Jvm.MethodName) jdk_42_method_139_code (1 : Nat) (Option.some (Jvm.ClassFile.FieldType.object "java/lang/String")), Jvm.Cond.code ({ cls := "java/lang/StringLatin1", name := "canEncode", desc := "(C)Z" } : Jvm.MethodName) jdk_43_method_3_code (1 : Nat) (Option.some Jvm.ClassFile.FieldType.boolean), Jvm.Cond.code ({ cls := "java/lang/StringLatin1", name := "toBytes", desc := "(C)[B" } : Jvm.MethodName) jdk_43_method_46_code (1 : Nat) (Option.some (Jvm.ClassFile.FieldType.array Jvm.ClassFile.FieldType.byte)), Jvm.Cond.code ({ cls := "java/lang/String", name := "<init>", desc := "([BB)V" } : Jvm.MethodName) jdk_42_method_151_code (3 : Nat) (Option.none : Option Jvm.ClassFile.FieldType)]
set_option maxRecDepth 65536 in
theorem codes_eq : words1.filter isCode = codes1 := rfl
theorem w_codes : ∀ c ∈ words1.filter isCode, c.before args0 about1 = true := by
  rw [codes_eq]
  intro c hc
  simp only [codes1, List.mem_cons, List.not_mem_nil, or_false] at hc
  rcases hc with rfl | rfl | rfl | rfl | rfl | rfl | rfl | rfl | rfl | rfl | rfl | rfl | rfl | rfl | rfl | rfl | rfl | rfl | rfl | rfl | rfl | rfl | rfl
  · exact w_c0
  · exact w_c1
  · exact w_c2
  · exact w_c3
  · exact w_c4
  · exact w_c5
  · exact w_c6
  · exact w_c7
  · exact w_c8
  · exact w_c9
  · exact w_c10
  · exact w_c11
  · exact w_c12
  · exact w_c13
  · exact w_c14
  · exact w_c15
  · exact w_c16
  · exact w_c17
  · exact w_c18
  · exact w_c19
  · exact w_c20
  · exact w_c21
  · exact w_c22
set_option maxRecDepth 65536 in
theorem w_t1 : (words1.take 24).all (fun c => isCode c || c.before args0 about1) = true := by decide +kernel
set_option maxRecDepth 65536 in
theorem w_t2 : ((words1.drop 24).take 24).all (fun c => isCode c || c.before args0 about1) = true := by decide +kernel
set_option maxRecDepth 65536 in
theorem w_t3 : (((words1.drop 24).drop 24).take 24).all (fun c => isCode c || c.before args0 about1) = true := by decide +kernel
set_option maxRecDepth 65536 in
theorem w_t4 : ((((words1.drop 24).drop 24).drop 24).take 24).all (fun c => isCode c || c.before args0 about1) = true := by decide +kernel
set_option maxRecDepth 65536 in
theorem w_t5 : ((((words1.drop 24).drop 24).drop 24).drop 24).all (fun c => isCode c || c.before args0 about1) = true := by decide +kernel
theorem w_tables : (allAtoms (Jvm.Cond.code x code maxLocals ret :: tables_1)).before args0 about1 = true := by
  rw [allAtoms_all]
  show words1.all (fun c => c.before args0 about1) = true
  refine all_split ?_ w_codes
  rw [← List.take_append_drop 24 words1, List.all_append, w_t1, ← List.take_append_drop 24 (words1.drop 24), List.all_append, w_t2, ← List.take_append_drop 24 ((words1.drop 24).drop 24), List.all_append, w_t3, ← List.take_append_drop 24 (((words1.drop 24).drop 24).drop 24), List.all_append, w_t4, w_t5]
  rfl
set_option maxRecDepth 65536 in
theorem w_rest : rest_1_c.before args0 about1 = true := by decide +kernel
set_option maxRecDepth 65536 in
theorem w_case : (Jvm.Cond.and given_1 narrow_1).before args0 about1 = true := by decide +kernel
theorem w_applies : (headSpec (Jvm.Cond.code x code maxLocals ret :: tables_1) room_1).applies x e0.platform about1 = true :=
  (Spec.applies_iff w_frames).mpr ⟨w_running, w_runnable, w_alone, w_named, w_hears, w_ripe, w_room, w_tables⟩
theorem atStart : AtStart classFile x code maxLocals ret World_1 tables_1 room_1 Calls_1 rest_1 Pre_1 launch0 p0 e0 about1 theMethod args0 below0 :=
  ⟨lists_1, trivial, launch0.admits_env _ _ _, launch0.least_env, fairChoices_fair.cas, fairChoices_fair.clock, w_frames, w_args, w_heap, w_applies, trivial, w_rest, w_case⟩
end start1
theorem witness_1 : WitnessClaimed_1 := ⟨start1.p0, start1.e0, start1.about1, start1.theMethod, start1.args0, start1.below0, start1.atStart⟩
end Jvm.Pilot.@@N@@

