import JvmDerived
import JvmDerived.Pilot.@@N@@Statement
import JvmDerived.Pilot.@@N@@Code
set_option linter.unusedVariables false
set_option linter.unusedSimpArgs false
namespace Jvm.RoadKit
open Sem ClassFile Op Lib Jvm.Stand Jvm.Free Jvm.LawKit
section New
variable {p : Program} {l : Launch} {e : Env} {R : Room} {s : State} {m : MethodId} {args : Array Value} {below : List Frame} {meth : Method} {c : Code} {T : State} {locs : List Loc} {cells slots : Nat}
theorem retI (X : Stand p l e R s m args below meth c T locs cells slots) (hx : p.tables.exec = Jvm.exec) {pc : Nat} {Ls : Array Slot} {z : Int32} {rest : List Value} (hret : meth.sig.returnType = some .int) (hd : decode c.code pc = .ok (.ireturn, 1)) {fs : List Frame}
    (hl : ∀ (f : JFrame) (acts : List Action), f.method = m → f.locked = none → f.entered = [] → (doReturn e (T.setTop f) acts (some (.int z))).1 = T.setFrames fs) : Steps p.tables e below (T.setTop (mkF m pc Ls (.int z :: rest))) (T.setFrames fs) := by
  have hm' : T.vm.method? m = some meth := X.method'
  have hn : narrow .int (.int z) = .int z := rfl
  show Steps p.tables e below (T.setTop { method := m, pc := pc, locals := Ls, stack := _ :: rest, locked := none }) _
  jvm_step X.here [X.here.top, hx, hd, hm', hret, hn]
  first | (intro acts; rw [hl _ acts rfl rfl rfl]) | rw [hl _ _ rfl rfl rfl]
  exact Steps.refl _
theorem retR (X : Stand p l e R s m args below meth c T locs cells slots) (hx : p.tables.exec = Jvm.exec) {pc : Nat} {Ls : Array Slot} {w : Value} {t : FieldType} {rest : List Value} (hret : meth.sig.returnType = some t) (hn : narrow t w = w) (ht : t.isReference = true) (hw : w.isRef = true) (hd : decode c.code pc = .ok (.areturn, 1)) {fs : List Frame}
    (hl : ∀ (f : JFrame) (acts : List Action), f.method = m → f.locked = none → f.entered = [] → (doReturn e (T.setTop f) acts (some w)).1 = T.setFrames fs) : Steps p.tables e below (T.setTop (mkF m pc Ls (w :: rest))) (T.setFrames fs) := by
  have hm' : T.vm.method? m = some meth := X.method'
  show Steps p.tables e below (T.setTop { method := m, pc := pc, locals := Ls, stack := _ :: rest, locked := none }) _
  jvm_step X.here [X.here.top, hx, hd, hm', hret, hn, hw]
  try (refine ⟨ht, ?_⟩)
  first | (intro acts; rw [hl _ acts rfl rfl rfl]) | rw [hl _ _ rfl rfl rfl]
  exact Steps.refl _
/-- from here the body ends as Q says, with at most k new cells of n slots in all -/
def Go (p : Program) (e : Env) (below : List Frame) (s : State) (Q : Option Value → Heap → List Loc → Prop) (k n : Nat) (T : State) (g : JFrame) : Prop := ∃ s₂ o, Steps p.tables e below (T.setTop g) s₂ ∧ s₂.status = .running ∧ Ended s₂ below o ∧ ∃ v L, o = .returned v ∧ Q v s₂.heap L ∧ FrameEnd s o s₂ L k n
theorem Go.by {Q : Option Value → Heap → List Loc → Prop} {k n : Nat} {T T' : State} {g g' : JFrame} (st : ∀ t, Steps p.tables e below (T'.setTop g') t → Steps p.tables e below (T.setTop g) t) (h : Go p e below s Q k n T' g') : Go p e below s Q k n T g := by
  obtain ⟨s2, o, h1, h2⟩ := h
  exact ⟨s2, o, st _ h1, h2⟩
theorem Go.fin {Q : Option Value → Heap → List Loc → Prop} {k n : Nat} {g : JFrame} (X : Stand p l e R s m args below meth c T locs cells slots) {v : Option Value} (hv : meth.sig.returnType = none → v = none) (hlk : meth.locks = false) (hk : cells ≤ k) (hn : slots ≤ n) (hq : Q v T.heap locs)
    (hret : ∀ fs : List Frame, (∀ (f : JFrame) (acts : List Action), f.method = m → f.locked = none → f.entered = [] → (doReturn e (T.setTop f) acts v).1 = T.setFrames fs) → Steps p.tables e below (T.setTop g) (T.setFrames fs)) : Go p e below s Q k n T g := by
  obtain ⟨fs, hr, hrun, hended, hW, hsame⟩ := X.leave (v := v) hv hlk
  exact ⟨_, _, hret fs hr, hrun, hended, _, _, rfl, hq, ⟨_, rfl⟩, hW, hsame.mono hk hn⟩
/-- .. where it may have interned String constants -/
def GoW (p : Program) (e : Env) (below : List Frame) (s : State) (Q : Option Value → Heap → List Loc → Prop) (k n : Nat) (T : State) (g : JFrame) : Prop := ∃ s₂ o, Steps p.tables e below (T.setTop g) s₂ ∧ s₂.status = .running ∧ Ended s₂ below o ∧ ∃ v L, o = .returned v ∧ Q v s₂.heap L ∧ ReturnedEndW s o s₂ L k n
theorem GoW.by {Q : Option Value → Heap → List Loc → Prop} {k n : Nat} {T T' : State} {g g' : JFrame} (st : ∀ t, Steps p.tables e below (T'.setTop g') t → Steps p.tables e below (T.setTop g) t) (h : GoW p e below s Q k n T' g') : GoW p e below s Q k n T g := by
  obtain ⟨s2, o, h1, h2⟩ := h
  exact ⟨s2, o, st _ h1, h2⟩
theorem GoW.fin {Q : Option Value → Heap → List Loc → Prop} {k n n1 : Nat} {g : JFrame} {vm₁ : Vm} (hS : s.Since vm₁ n1) (X : Stand p l e R (s.setVm vm₁) m args below meth c T locs cells slots) (hn1 : n1 ≤ T.heap.size) {v : Option Value} (hv : meth.sig.returnType = none → v = none) (hlk : meth.locks = false) (hk : cells ≤ k) (hn : slots ≤ n) (hq : Q v T.heap locs)
    (hret : ∀ fs : List Frame, (∀ (f : JFrame) (acts : List Action), f.method = m → f.locked = none → f.entered = [] → (doReturn e (T.setTop f) acts v).1 = T.setFrames fs) → Steps p.tables e below (T.setTop g) (T.setFrames fs)) : GoW p e below s Q k n T g := by
  obtain ⟨fs, hr, hrun, hended, hE⟩ := X.leaveW hS hn1 (v := v) hv hlk
  exact ⟨_, _, hret fs hr, hrun, hended, _, _, rfl, hq, hE.1, hE.2.1, hE.2.2.1, hE.2.2.2.mono hk hn⟩
theorem backOfI {Z : State} {a0 : Array Value} {h : Heap} {y : MethodName} {bytes : ByteArray} {maxL : Nat} {ret : Option FieldType} {rm : Room} {len W : Nat} {as' : Array Value} {Q : Option Value → Heap → List Loc → Prop} {Ts : List String}
    (hM : MetFree l y (head1 [Cond.code y bytes maxL ret] rm) (fun a U => a = as' ∧ Z.Warmed39 U.vm ∧ U.heap = h ∧ IB Z U.vm Ts) (fun _ _ _ _ _ => True) (fun _ U o U' => ∃ v L, o = .returned v ∧ Q v U'.heap L ∧ ReturnedEndW U o U' L rm.cells rm.slots))
    (hZ : Z.Warmed39 s.vm) (hI : IB Z s.vm Ts) (wc : (Cond.code y bytes maxL ret).before a0 Z = true) (wz : (Cond.initialized y.cls).before a0 Z = true) (hf : rm.frames + 1 ≤ R.frames) (hl : W + (maxL + 11) + rm.locals ≤ R.locals) :
    BackS l R p e below s args y len W (fun A a => a = as' ∧ A.U.heap = h ∧ A.cells + rm.cells ≤ R.cells ∧ A.slots + rm.slots ≤ R.slots)
      (fun A _ v B => ∃ L, Q v B.U.heap L ∧ B.locs = A.locs ++ L ∧ B.cells = A.cells + rm.cells ∧ B.slots = A.slots + rm.slots) :=
  BackS.of_freeW (bytes := bytes) (maxL := maxL) (ret := ret) (E := fun _ _ o t L k n => k = rm.cells ∧ n = rm.slots ∧ ∃ v, o = .returned v ∧ Q v t.heap L) hM hf hl
    (fun m meth c A a Y hp => have hU : Z.Warmed39 A.U.vm := wtrans hZ Y.warmed
      ⟨by show (Cond.and _ .tt).before a A.U = true; rw [Cond.before_and, mv hU wc]; rfl, mv hU wc, mv hU wz, hp.2.2.1, hp.2.2.2⟩)
    (fun m meth c A a g mk Y hp => ⟨hp.1, wtrans hZ Y.warmed, hp.2.1, by obtain ⟨more, q1, q2⟩ := hI; exact ⟨more, Y.warmed.interned_eq.trans q1, q2⟩⟩) (fun _ _ _ _ _ _ _ _ _ => trivial)
    (fun _ _ _ _ ⟨v, L, h1, h2, h3⟩ => ⟨L, _, _, h3, rfl, rfl, v, h1, h2⟩)
    (fun m meth c A a g mk v t L k n Y hp _ _ ⟨e1, e2, v', e3, e4⟩ => by cases e3; subst e1 e2; exact ⟨L, e4, rfl, rfl, rfl⟩)
theorem Old.sz {Z : State} {n0 : Nat} {h : Heap} (X : Old Z n0 h) : n0 ≤ h.size := X.1 ▸ X.2.1
theorem nev {a b : Addr} (h : ¬ a = b) : ¬ Value.ref a = Value.ref b := fun q => h (Value.ref.inj q)
end New
end Jvm.RoadKit

/- laws to paste: Road.backV, Road.lenW, Road.chN, Road.codOf (cut by pick.py; bodies as the Statement names them) -/
namespace Jvm.Pilot.@@N@@
namespace StrChars
open Jvm Sem ClassFile Op Lib Jvm.Stand Jvm.Free.XT Jvm.Free.ALB Jvm.Free.JM Jvm.Free
open Jvm.Lib.Cold (StaticIs)
/-- a char array whose places are chars -/
def Ch (a : Addr) (A : Cell) (U : State) : Prop := Arr .char a A U ∧ Typed .char A
theorem Ch.mv {a : Addr} {A : Cell} {U U' : State} (h : Ch a A U) (hal : U.vm.Alike U'.vm) (hh : U'.heap = U.heap) : Ch a A U' := ⟨h.1.mv hal hh, h.2⟩
theorem Ch.keep {a : Addr} {A : Cell} {U U' : State} (h : Ch a A U) (hal : U.vm.Alike U'.vm) (hk : U'.heap[a]? = some A) : Ch a A U' := ⟨h.1.keep hal hk, h.2⟩
/-- what place i of a char[]'s cell holds -/
def cv (A : Cell) (i : Nat) : Int32 := match A.slots[i]? with | some (.int x) => x | _ => 0
theorem Ch.get {a : Addr} {A : Cell} {U : State} (h : Ch a A U) {i : Nat} (hi : i < A.slots.size) : A.slots[i]? = some (.int (cv A i)) := by
  have e := Array.getElem?_eq_getElem hi
  have f := h.2 i _ e
  unfold cv; rw [e]
  generalize A.slots[i] = v at f
  cases v <;> simp [fits] at f ⊢
/-- the byte that i2b leaves of a char -/
def lo8 (x : Int32) : Int32 := x.toInt8.toInt32
theorem fits_lo8 (y : Int32) : fits .byte (.int (lo8 y)) = true := by
  have h1 := y.toInt8.le_toInt
  have h2 := y.toInt8.toInt_lt
  simp only [lo8, fits, Bool.and_eq_true, decide_eq_true_eq, Int32.le_iff_toInt_le, Int8.toInt_toInt32, show (-128 : Int32).toInt = -128 from by decide, show (127 : Int32).toInt = 127 from by decide]
  omega
/-- A' is A but that each place j of lo .. hi - 1 holds f j -/
def Laid (A A' : Cell) (lo hi : Nat) (f : Nat → Value) : Prop := A'.cls = A.cls ∧ A'.vm = A.vm ∧ A'.slots.size = A.slots.size ∧ ∀ i, A'.slots[i]? = if lo ≤ i ∧ i < hi then some (f i) else A.slots[i]?
theorem Laid.zero (A : Cell) (lo : Nat) (f : Nat → Value) : Laid A A lo (lo + 0) f := ⟨rfl, rfl, rfl, fun i => by rw [if_neg (by omega)]⟩
theorem Laid.step {A Ak : Cell} {lo k : Nat} {f : Nat → Value} {v : Value} (h : Laid A Ak lo k f) (hlo : lo ≤ k) (hk : k < Ak.slots.size) (hv : v = f k) : Laid A (Ak.setSlot k v) lo (k + 1) f := by
  refine ⟨h.1, h.2.1, by simpa [Cell.setSlot] using h.2.2.1, fun i => ?_⟩
  by_cases e : k = i
  · subst e; rw [Cell.slots_setSlot_self v hk, if_pos (by omega), hv]
  · rw [Cell.slots_setSlot_ne v e, h.2.2.2 i]
    by_cases q : lo ≤ i ∧ i < k
    · rw [if_pos q, if_pos (by omega)]
    · rw [if_neg q, if_neg (by omega)]
def U16 : String := "java/lang/StringUTF16"
namespace Cmp5
def yN : MethodName := ⟨"java/lang/StringUTF16", "compress", "([CI[BII)I"⟩
abbrev yB : ByteArray := jdk_52_method_21_code
theorem d0 : decode yB 0 = .ok (.iconst 0, 1) := by decide +kernel
theorem d1 : decode yB 1 = .ok (.istore 5, 2) := by decide +kernel
theorem d3 : decode yB 3 = .ok (.iload 5, 2) := by decide +kernel
theorem d5 : decode yB 5 = .ok (.iload 4, 2) := by decide +kernel
theorem d7 : decode yB 7 = .ok (.if_icmp (.ge) 37, 3) := by decide +kernel
theorem d10 : decode yB 10 = .ok (.aload_n 0, 1) := by decide +kernel
theorem d11 : decode yB 11 = .ok (.iload_n 1, 1) := by decide +kernel
theorem d12 : decode yB 12 = .ok (.caload, 1) := by decide +kernel
theorem d13 : decode yB 13 = .ok (.istore 6, 2) := by decide +kernel
theorem d15 : decode yB 15 = .ok (.iload 6, 2) := by decide +kernel
theorem d17 : decode yB 17 = .ok (.sipush 255, 3) := by decide +kernel
theorem d20 : decode yB 20 = .ok (.if_icmp (.le) 6, 3) := by decide +kernel
theorem d26 : decode yB 26 = .ok (.aload_n 2, 1) := by decide +kernel
theorem d27 : decode yB 27 = .ok (.iload_n 3, 1) := by decide +kernel
theorem d28 : decode yB 28 = .ok (.iload 6, 2) := by decide +kernel
theorem d30 : decode yB 30 = .ok (.i2b, 1) := by decide +kernel
theorem d31 : decode yB 31 = .ok (.bastore, 1) := by decide +kernel
theorem d32 : decode yB 32 = .ok (.iinc 1 1, 3) := by decide +kernel
theorem d35 : decode yB 35 = .ok (.iinc 3 1, 3) := by decide +kernel
theorem d38 : decode yB 38 = .ok (.iinc 5 1, 3) := by decide +kernel
theorem d41 : decode yB 41 = .ok (.goto (-38), 3) := by decide +kernel
theorem d44 : decode yB 44 = .ok (.iload 4, 2) := by decide +kernel
theorem d46 : decode yB 46 = .ok (.ireturn, 1) := by decide +kernel
def site : List Cond := []
def tab : Cond := tabOf yN yB 7 (some .int) site
def P (b : Addr) (A : Cell) (d : Addr) (B : Cell) (o q len : Nat) (args : Array Value) (s : State) : Prop := args = #[.ref b, .int (Int32.ofNat o), .ref d, .int (Int32.ofNat q), .int (Int32.ofNat len)] ∧ Ch b A s ∧ Arr .byte d B s ∧ b ≠ d ∧ o + len ≤ A.slots.size ∧ q + len ≤ B.slots.size ∧ ∀ i, i < len → ¬ 255 < cv A (o + i)
def E (b : Addr) (A : Cell) (d : Addr) (B : Cell) (o q len : Nat) (r : Option Value) (s u : State) : Prop := r = some (.int (Int32.ofNat len)) ∧ ∃ B', Put d B' s u ∧ Laid B B' q (q + len) (fun j => Value.int (lo8 (cv A (o + (j - q)))))
/-- no char of the range above 255: len; the places written hold each char's low byte -/
theorem law (l : Launch) (b : Addr) (A : Cell) (d : Addr) (B : Cell) (o q len : Nat) : Law l yN 5 5 0 0 yB 7 (some .int) site (P b A d B o q len) (E b A d B o q len) (copyLocs d q len) 0 0 := by
  refine Law.of_walk (plainFor_of_name (by decide +kernel)) (by decide +kernel) (by decide +kernel) (by decide) (fun _ _ h => by rw [h.1]; rfl) (fun _ U U' hal hh h => ⟨h.1, h.2.1.mv hal hh, h.2.2.1.mv hal hh, h.2.2.2⟩) (fun r U U' V V' h1 hal h2 h => ⟨h.1, h.2.elim fun B' q => ⟨B', q.1.mv h1 h2, q.2⟩⟩) ?_
  intro p e s m args below meth c s₁ X0 hexec hbytes hml hret hlk hnm hown hh0 W hP
  obtain ⟨rfl, hA, hB, hne, l1, l2, hp⟩ := hP
  have c1 : Steps p.tables e below (s₁.setTop (entryFrame m #[.ref b, .int (Int32.ofNat o), .ref d, .int (Int32.ofNat q), .int (Int32.ofNat len)] 7)) (s₁.setTop (mkF m 0 #[.val (.ref b), .val (.int (Int32.ofNat o)), .val (.ref d), .val (.int (Int32.ofNat q)), .val (.int (Int32.ofNat len)), .unset, .unset] [])) := entry rfl
  have hA0 := hA.1.mv X0.warmed.alike hh0
  have hB0 := hB.mv X0.warmed.alike hh0
  have a31 := hA.1.2.2.2
  have c2 : Steps p.tables e below (s₁.setTop (entryFrame m #[.ref b, .int (Int32.ofNat o), .ref d, .int (Int32.ofNat q), .int (Int32.ofNat len)] 7)) (s₁.setTop (mkF m 3 #[.val (.ref b), .val (.int (Int32.ofNat o)), .val (.ref d), .val (.int (Int32.ofNat q)), .val (.int (Int32.ofNat len)), .val (.int 0), .unset] [])) := c1.trans (by
    refine iconstV X0.here hexec rfl 0 (hb hbytes d0) (by decide) ?_
    refine XS.istore X0.here hexec rfl (hb hbytes d1) rfl rfl ?_
    exact Steps.refl _)
  have loop : ∀ (r i : Nat), i + r = len → ∀ (z : Slot), (z = .unset ∨ ∃ w, z = .val w ∧ w.category = 1) → ∀ (Tl : State) (Bk : Cell), Stand p l e { frames := 0, locals := 0, cells := 0, slots := 0 } s m #[.ref b, .int (Int32.ofNat o), .ref d, .int (Int32.ofNat q), .int (Int32.ofNat len)] below meth c Tl ([] ++ copyLocs d q i) 0 0 → Put d Bk s₁ Tl → Laid B Bk q (q + i) (fun j => Value.int (lo8 (cv A (o + (j - q))))) →
      Steps p.tables e below (s₁.setTop (entryFrame m #[.ref b, .int (Int32.ofNat o), .ref d, .int (Int32.ofNat q), .int (Int32.ofNat len)] 7)) (Tl.setTop (mkF m 3 #[.val (.ref b), .val (.int (Int32.ofNat (o + i))), .val (.ref d), .val (.int (Int32.ofNat (q + i))), .val (.int (Int32.ofNat len)), .val (.int (Int32.ofNat i)), z] [])) → ∃ (T' : State) (B' : Cell) (z' : Slot), Stand p l e { frames := 0, locals := 0, cells := 0, slots := 0 } s m #[.ref b, .int (Int32.ofNat o), .ref d, .int (Int32.ofNat q), .int (Int32.ofNat len)] below meth c T' ([] ++ copyLocs d q len) 0 0 ∧ Put d B' s₁ T' ∧ Laid B B' q (q + len) (fun j => Value.int (lo8 (cv A (o + (j - q))))) ∧
      Steps p.tables e below (s₁.setTop (entryFrame m #[.ref b, .int (Int32.ofNat o), .ref d, .int (Int32.ofNat q), .int (Int32.ofNat len)] 7)) (T'.setTop (mkF m 3 #[.val (.ref b), .val (.int (Int32.ofNat (o + len))), .val (.ref d), .val (.int (Int32.ofNat (q + len))), .val (.int (Int32.ofNat len)), .val (.int (Int32.ofNat len)), z'] [])) := by
    intro r
    induction r with
    | zero =>
      intro i hi z hz Tl Bk Xl pl fl cl
      have hil : i = len := by omega
      rw [hil] at Xl fl cl
      exact ⟨Tl, Bk, z, Xl, pl, fl, cl⟩
    | succ r ih =>
      intro i hi z hz Tl Bk Xl pl fl cl
      have all := X0.warmed.alike.symm.trans Xl.warmed.alike
      have hAl := hA0.keep all (pl.other hne hA0.1)
      have hBk := hB0.like all pl.1 fl.1 fl.2.1 fl.2.2.1
      have hlt : q + i < Bk.slots.size := by rw [fl.2.2.1]; omega
      have c3 : Steps p.tables e below (s₁.setTop (entryFrame m #[.ref b, .int (Int32.ofNat o), .ref d, .int (Int32.ofNat q), .int (Int32.ofNat len)] 7)) (Tl.setTop (mkF m 12 #[.val (.ref b), .val (.int (Int32.ofNat (o + i))), .val (.ref d), .val (.int (Int32.ofNat (q + i))), .val (.int (Int32.ofNat len)), .val (.int (Int32.ofNat i)), z] [.int (Int32.ofNat (o + i)), .ref b])) := cl.trans (by
        refine XS.iload Xl.here hexec rfl (hb hbytes d3) rfl ?_
        refine XS.iload Xl.here hexec rfl (hb hbytes d5) rfl ?_
        refine XS.icmpNo Xl.here hexec rfl (hb hbytes d7) rfl (ii_ge_f (lt32 (by omega) (by omega))) ?_
        refine XS.aloadN Xl.here hexec rfl (hb hbytes d10) rfl rfl ?_
        refine XS.iloadN Xl.here hexec rfl (hb hbytes d11) rfl ?_
        exact Steps.refl _)
      have c4 : Steps p.tables e below (s₁.setTop (entryFrame m #[.ref b, .int (Int32.ofNat o), .ref d, .int (Int32.ofNat q), .int (Int32.ofNat len)] 7)) (Tl.setTop (mkF m 13 #[.val (.ref b), .val (.int (Int32.ofNat (o + i))), .val (.ref d), .val (.int (Int32.ofNat (q + i))), .val (.int (Int32.ofNat len)), .val (.int (Int32.ofNat i)), z] [.int (cv A (o + i))])) := c3.trans (by
        refine Xl.aget hexec hAl rfl (hA.get (i := o + i) (by omega)) rfl rfl (hb hbytes d12) ?_
        exact Steps.refl _)
      have c5 : Steps p.tables e below (s₁.setTop (entryFrame m #[.ref b, .int (Int32.ofNat o), .ref d, .int (Int32.ofNat q), .int (Int32.ofNat len)] 7)) (Tl.setTop (mkF m 15 #[.val (.ref b), .val (.int (Int32.ofNat (o + i))), .val (.ref d), .val (.int (Int32.ofNat (q + i))), .val (.int (Int32.ofNat len)), .val (.int (Int32.ofNat i)), .val (.int (cv A (o + i)))] [])) := c4.trans (by
        refine XS.istoreS Xl.here hexec rfl (hb hbytes d13) rfl rfl hz ?_
        exact Steps.refl _)
      have c6 : Steps p.tables e below (s₁.setTop (entryFrame m #[.ref b, .int (Int32.ofNat o), .ref d, .int (Int32.ofNat q), .int (Int32.ofNat len)] 7)) (Tl.setTop (mkF m 31 #[.val (.ref b), .val (.int (Int32.ofNat (o + i))), .val (.ref d), .val (.int (Int32.ofNat (q + i))), .val (.int (Int32.ofNat len)), .val (.int (Int32.ofNat i)), .val (.int (cv A (o + i)))] [.int (lo8 (cv A (o + i))), .int (Int32.ofNat (q + i)), .ref d])) := c5.trans (by
        refine XS.iload Xl.here hexec rfl (hb hbytes d15) rfl ?_
        refine sipushV Xl.here hexec rfl 255 (hb hbytes d17) (by decide) ?_
        refine XS.icmpYes Xl.here hexec rfl (pc0 := 20) rfl (hb hbytes d20) rfl (ii_le_t (hp i (by omega))) (by decide) rfl ?_
        refine XS.aloadN Xl.here hexec rfl (hb hbytes d26) rfl rfl ?_
        refine XS.iloadN Xl.here hexec rfl (hb hbytes d27) rfl ?_
        refine XS.iload Xl.here hexec rfl (hb hbytes d28) rfl ?_
        refine i2b Xl.here hexec rfl (hb hbytes d30) rfl ?_
        exact Steps.refl _)
      obtain ⟨T7, X7, p7, st7⟩ := Xl.aput hexec hBk rfl hlt rfl (fits_lo8 (cv A (o + i))) (g := (mkF m 31 #[.val (.ref b), .val (.int (Int32.ofNat (o + i))), .val (.ref d), .val (.int (Int32.ofNat (q + i))), .val (.int (Int32.ofNat len)), .val (.int (Int32.ofNat i)), .val (.int (cv A (o + i)))] [.int (lo8 (cv A (o + i))), .int (Int32.ofNat (q + i)), .ref d])) rfl (rest := []) rfl (hb hbytes d31)
      have c8 : Steps p.tables e below (s₁.setTop (entryFrame m #[.ref b, .int (Int32.ofNat o), .ref d, .int (Int32.ofNat q), .int (Int32.ofNat len)] 7)) (T7.setTop (mkF m 32 #[.val (.ref b), .val (.int (Int32.ofNat (o + i))), .val (.ref d), .val (.int (Int32.ofNat (q + i))), .val (.int (Int32.ofNat len)), .val (.int (Int32.ofNat i)), .val (.int (cv A (o + i)))] [])) := c6.trans (st7 _ (Steps.refl _))
      have c9 : Steps p.tables e below (s₁.setTop (entryFrame m #[.ref b, .int (Int32.ofNat o), .ref d, .int (Int32.ofNat q), .int (Int32.ofNat len)] 7)) (T7.setTop (mkF m 3 #[.val (.ref b), .val (.int (Int32.ofNat (o + i) + 1)), .val (.ref d), .val (.int (Int32.ofNat (q + i) + 1)), .val (.int (Int32.ofNat len)), .val (.int (Int32.ofNat i + 1)), .val (.int (cv A (o + i)))] [])) := c8.trans (by
        refine iincV X7.here hexec rfl 1 (hb hbytes d32) (by decide) rfl rfl ?_
        refine iincV X7.here hexec rfl 1 (hb hbytes d35) (by decide) rfl rfl ?_
        refine iincV X7.here hexec rfl 1 (hb hbytes d38) (by decide) rfl rfl ?_
        refine XS.goto X7.here hexec rfl (pc0 := 41) rfl (hb hbytes d41) (by decide) rfl ?_
        exact Steps.refl _)
      have c10 : Steps p.tables e below (s₁.setTop (entryFrame m #[.ref b, .int (Int32.ofNat o), .ref d, .int (Int32.ofNat q), .int (Int32.ofNat len)] 7)) (T7.setTop (mkF m 3 #[.val (.ref b), .val (.int (Int32.ofNat (o + (i + 1)))), .val (.ref d), .val (.int (Int32.ofNat (q + (i + 1)))), .val (.int (Int32.ofNat len)), .val (.int (Int32.ofNat (i + 1))), .val (.int (cv A (o + i)))] [])) := by
        have := c9
        rw [succ32, succ32, succ32] at this
        exact this
      exact ih (i + 1) (by omega) _ (Or.inr ⟨_, rfl, rfl⟩) T7 _ (by rw [copyLocs_step, ← List.append_assoc]; exact X7) (pl.trans p7) (fl.step (by omega) hlt (by simp)) c10
  obtain ⟨T9, B9, z9, X9, p9, f9, g9⟩ := loop len 0 (by omega) .unset (Or.inl rfl) s₁ B (by simpa [copyLocs] using X0) ⟨hB0.1, fun _ _ => rfl, rfl⟩ (Laid.zero _ _ _) c2
  have c11 : Steps p.tables e below (s₁.setTop (entryFrame m #[.ref b, .int (Int32.ofNat o), .ref d, .int (Int32.ofNat q), .int (Int32.ofNat len)] 7)) (T9.setTop (mkF m 46 #[.val (.ref b), .val (.int (Int32.ofNat (o + len))), .val (.ref d), .val (.int (Int32.ofNat (q + len))), .val (.int (Int32.ofNat len)), .val (.int (Int32.ofNat len)), z9] [.int (Int32.ofNat len)])) := g9.trans (by
    refine XS.iload X9.here hexec rfl (hb hbytes d3) rfl ?_
    refine XS.iload X9.here hexec rfl (hb hbytes d5) rfl ?_
    refine XS.icmpYes X9.here hexec rfl (pc0 := 7) rfl (hb hbytes d7) rfl (ii_ge_t (nlt32 (by omega) (Nat.le_refl _))) (by decide) rfl ?_
    refine XS.iload X9.here hexec rfl (hb hbytes d44) rfl ?_
    exact Steps.refl _)
  exact ⟨T9, some (.int (Int32.ofNat len)), _, _, _, X9, by simp, rfl, rfl, (fun h => by cases h), ⟨rfl, B9, p9.from hh0, f9⟩, fun fs hl => c11.trans (X9.ireturnOut hexec hret rfl (Or.inl rfl) (hb hbytes d46) hl)⟩
end Cmp5
namespace Cmp3
def yN : MethodName := ⟨"java/lang/StringUTF16", "compress", "([CII)[B"⟩
abbrev yB : ByteArray := jdk_52_method_16_code
theorem d0 : decode yB 0 = .ok (.iload_n 2, 1) := by decide +kernel
theorem d1 : decode yB 1 = .ok (.newarray .byte, 2) := by decide +kernel
theorem d3 : decode yB 3 = .ok (.astore_n 3, 1) := by decide +kernel
theorem d4 : decode yB 4 = .ok (.aload_n 0, 1) := by decide +kernel
theorem d5 : decode yB 5 = .ok (.iload_n 1, 1) := by decide +kernel
theorem d6 : decode yB 6 = .ok (.aload_n 3, 1) := by decide +kernel
theorem d7 : decode yB 7 = .ok (.iconst 0, 1) := by decide +kernel
theorem d8 : decode yB 8 = .ok (.iload_n 2, 1) := by decide +kernel
theorem d9 : decode yB 9 = .ok (.invokestatic 115, 3) := by decide +kernel
theorem d12 : decode yB 12 = .ok (.istore 4, 2) := by decide +kernel
theorem d14 : decode yB 14 = .ok (.iload 4, 2) := by decide +kernel
theorem d16 : decode yB 16 = .ok (.iload_n 2, 1) := by decide +kernel
theorem d17 : decode yB 17 = .ok (.if_icmp (.eq) 40, 3) := by decide +kernel
theorem d57 : decode yB 57 = .ok (.aload_n 3, 1) := by decide +kernel
theorem d58 : decode yB 58 = .ok (.areturn, 1) := by decide +kernel
def site : List Cond := [.arrayClass .byte, Cmp5.tab] ++ staticW U16 115 Cmp5.yN
def tab : Cond := tabOf yN yB 6 (some (.array .byte)) site
def P (b : Addr) (A : Cell) (o len : Nat) (args : Array Value) (s : State) : Prop := args = #[.ref b, .int (Int32.ofNat o), .int (Int32.ofNat len)] ∧ Ch b A s ∧ o + len ≤ A.slots.size ∧ len ≤ 536870912 ∧ ∀ i, i < len → ¬ 255 < cv A (o + i)
def E (b : Addr) (A : Cell) (o len : Nat) (r : Option Value) (s u : State) : Prop := NewArr .byte "[B" len (fun j => .int (lo8 (cv A (o + j)))) r s u ∧ u.heap.size = s.heap.size + 1
/-- no char of the range above 255: a new byte[] of their low bytes -/
theorem law (l : Launch) (b : Addr) (A : Cell) (o len : Nat) : Law l yN 3 3 1 18 yB 6 (some (.array .byte)) site (P b A o len) (E b A o len) [] 1 len := by
  refine Law.of_walk (plainFor_of_name (by decide +kernel)) (by decide +kernel) (by decide +kernel) (by decide) (fun _ _ h => by rw [h.1]; rfl) (fun _ U U' hal hh h => ⟨h.1, h.2.1.mv hal hh, h.2.2⟩) (fun r U U' V V' h1 hal h2 h => ⟨NewArr.mv r U U' V V' h1 hal h2 h.1, by rw [h1, h2]; exact h.2⟩) ?_
  intro p e s m args below meth c s₁ X0 hexec hbytes hml hret hlk hnm hown hh0 W hP
  obtain ⟨rfl, hA, l1, l2, hp⟩ := hP
  have a31 := hA.1.2.2.2
  have c1 : Steps p.tables e below (s₁.setTop (entryFrame m #[.ref b, .int (Int32.ofNat o), .int (Int32.ofNat len)] 6)) (s₁.setTop (mkF m 0 #[.val (.ref b), .val (.int (Int32.ofNat o)), .val (.int (Int32.ofNat len)), .unset, .unset, .unset] [])) := entry rfl
  have c2 : Steps p.tables e below (s₁.setTop (entryFrame m #[.ref b, .int (Int32.ofNat o), .int (Int32.ofNat len)] 6)) (s₁.setTop (mkF m 1 #[.val (.ref b), .val (.int (Int32.ofNat o)), .val (.int (Int32.ofNat len)), .unset, .unset, .unset] [.int (Int32.ofNat len)])) := c1.trans (by
    refine XS.iloadN X0.here hexec rfl (hb hbytes d0) rfl ?_
    exact Steps.refl _)
  obtain ⟨T3, B3, X3, ba3, bs3, bv3, bh3, bf3, st3⟩ := X0.anew hexec (atype := .byte) (wk W (.arrayClass .byte)) rfl (by show len * 1 ≤ _; omega) (by omega) (g := (mkF m 1 #[.val (.ref b), .val (.int (Int32.ofNat o)), .val (.int (Int32.ofNat len)), .unset, .unset, .unset] [.int (Int32.ofNat len)])) rfl (hb hbytes d1) (rest := []) rfl (Nat.le_refl _) (by show 0 + len ≤ len; omega)
  rw [hh0] at ba3 st3
  have kp3 : XT.Kept s T3 := (XT.Kept.of_eq hh0).push bh3
  have hA3 := hA.keep X3.warmed.alike (kp3 _ _ hA.1.1)
  have hne : b ≠ s.heap.size := hA.1.ne
  have c4 : Steps p.tables e below (s₁.setTop (entryFrame m #[.ref b, .int (Int32.ofNat o), .int (Int32.ofNat len)] 6)) (T3.setTop (mkF m 3 #[.val (.ref b), .val (.int (Int32.ofNat o)), .val (.int (Int32.ofNat len)), .unset, .unset, .unset] [.ref s.heap.size])) := c2.trans (st3 _ (Steps.refl _))
  have c5 : Steps p.tables e below (s₁.setTop (entryFrame m #[.ref b, .int (Int32.ofNat o), .int (Int32.ofNat len)] 6)) (T3.setTop (mkF m 9 #[.val (.ref b), .val (.int (Int32.ofNat o)), .val (.int (Int32.ofNat len)), .val (.ref s.heap.size), .unset, .unset] [.int (Int32.ofNat len), .int 0, .ref s.heap.size, .int (Int32.ofNat o), .ref b])) := c4.trans (by
    refine XS.astoreN X3.here hexec rfl (hb hbytes d3) rfl rfl rfl ?_
    refine XS.aloadN X3.here hexec rfl (hb hbytes d4) rfl rfl ?_
    refine XS.iloadN X3.here hexec rfl (hb hbytes d5) rfl ?_
    refine XS.aloadN X3.here hexec rfl (hb hbytes d6) rfl rfl ?_
    refine iconstV X3.here hexec rfl 0 (hb hbytes d7) (by decide) ?_
    refine XS.iloadN X3.here hexec rfl (hb hbytes d8) rfl ?_
    exact Steps.refl _)
  obtain ⟨v6, T6, X6, E6, g6⟩ := X3.callS hexec (Cmp5.law l b A s.heap.size B3 o 0 len) hown (wks W (staticW U16 115 Cmp5.yN)) (wk W Cmp5.tab) (W := 0) (Nat.le_of_ble_eq_true rfl) (Nat.le_of_ble_eq_true rfl) (Nat.le_refl _) (by show 0 + len + 0 ≤ len; omega) (g := (mkF m 9 #[.val (.ref b), .val (.int (Int32.ofNat o)), .val (.int (Int32.ofNat len)), .val (.ref s.heap.size), .unset, .unset] [.int (Int32.ofNat len), .int (Int32.ofNat 0), .ref s.heap.size, .int (Int32.ofNat o), .ref b])) rfl (by rw [hml]; rfl) c5 (argsL := [.ref b, .int (Int32.ofNat o), .ref s.heap.size, .int (Int32.ofNat 0), .int (Int32.ofNat len)]) (rest := []) rfl rfl (by show 2 * 0 + 0 ≤ _; decide) (hb hbytes d9) (⟨rfl, hA3, ba3, hne, l1, by rw [bs3]; simp, hp⟩)
  obtain ⟨rfl, B6, p6, f6⟩ := E6
  have c7 : Steps p.tables e below (s₁.setTop (entryFrame m #[.ref b, .int (Int32.ofNat o), .int (Int32.ofNat len)] 6)) (T6.setTop (mkF m 12 #[.val (.ref b), .val (.int (Int32.ofNat o)), .val (.int (Int32.ofNat len)), .val (.ref s.heap.size), .unset, .unset] [.int (Int32.ofNat len)])) := g6
  have c8 : Steps p.tables e below (s₁.setTop (entryFrame m #[.ref b, .int (Int32.ofNat o), .int (Int32.ofNat len)] 6)) (T6.setTop (mkF m 58 #[.val (.ref b), .val (.int (Int32.ofNat o)), .val (.int (Int32.ofNat len)), .val (.ref s.heap.size), .val (.int (Int32.ofNat len)), .unset] [.ref s.heap.size])) := c7.trans (by
    refine XS.istore X6.here hexec rfl (hb hbytes d12) rfl rfl ?_
    refine XS.iload X6.here hexec rfl (hb hbytes d14) rfl ?_
    refine XS.iloadN X6.here hexec rfl (hb hbytes d16) rfl ?_
    refine XS.icmpYes X6.here hexec rfl (pc0 := 17) rfl (hb hbytes d17) rfl (ii_eq_t rfl) (by decide) rfl ?_
    refine XS.aloadN X6.here hexec rfl (hb hbytes d57) rfl rfl ?_
    exact Steps.refl _)
  have X8 := X6.wide (L' := []) (cells' := 1) (slots' := len) (fun x hx hlt => by
    simp only [List.nil_append, copyLocs, List.mem_map, List.mem_range] at hx
    obtain ⟨i, -, rfl⟩ := hx
    exact absurd hlt (Nat.lt_irrefl _)) (Nat.le_refl _) (by omega)
  exact ⟨T6, some (.ref s.heap.size), _, _, _, X8, rfl, rfl, rfl, (fun h => by cases h), ⟨⟨rfl, B6, ba3.like (X3.warmed.alike.symm.trans X6.warmed.alike) p6.1 f6.1 f6.2.1 f6.2.2.1, f6.2.1.trans bv3, by rw [X6.warmed.alike.findClass, f6.1]; exact bf3, by rw [f6.2.2.1, bs3]; simp, fun j hj => by rw [f6.2.2.2 j, if_pos (by omega)]; rfl, kp3.put p6 (Nat.le_refl _)⟩, by rw [p6.2.2, bh3, hh0]; simp⟩, fun fs hl => c8.trans (X8.areturnOut hexec rfl hret rfl (hb hbytes d58) hl)⟩
end Cmp3
namespace CodL
def yN : MethodName := ⟨"java/lang/StringUTF16", "coderFromArrayLen", "([BI)B"⟩
abbrev yB : ByteArray := jdk_52_method_15_code
theorem d0 : decode yB 0 = .ok (.iload_n 1, 1) := by decide +kernel
theorem d1 : decode yB 1 = .ok (.aload_n 0, 1) := by decide +kernel
theorem d2 : decode yB 2 = .ok (.arraylength, 1) := by decide +kernel
theorem d3 : decode yB 3 = .ok (.isub, 1) := by decide +kernel
theorem d4 : decode yB 4 = .ok (.bipush 31, 2) := by decide +kernel
theorem d6 : decode yB 6 = .ok (.iushr, 1) := by decide +kernel
theorem d7 : decode yB 7 = .ok (.i2b, 1) := by decide +kernel
theorem d8 : decode yB 8 = .ok (.ireturn, 1) := by decide +kernel
def site : List Cond := []
def tab : Cond := tabOf yN yB 2 (some .byte) site
def P (d : Addr) (B : Cell) (args : Array Value) (s : State) : Prop := args = #[.ref d, .int (Int32.ofNat B.slots.size)] ∧ Arr .byte d B s
def E (r : Option Value) (s u : State) : Prop := XT.PureE (some (.int 0)) r s u
/-- an array as long as the number of chars: LATIN1 -/
theorem law (l : Launch) (d : Addr) (B : Cell) : Law l yN 2 2 0 0 yB 2 (some .byte) site (P d B) E [] 0 0 := by
  refine Law.of_walk (plainFor_of_name (by decide +kernel)) (by decide +kernel) (by decide +kernel) (by decide) (fun _ _ h => by rw [h.1]; rfl) (fun _ U U' hal hh h => ⟨h.1, h.2.mv hal hh⟩) (fun r U U' V V' h1 hal h2 h => XT.PureE.mv r U U' V V' h1 hal h2 h) ?_
  intro p e s m args below meth c s₁ X0 hexec hbytes hml hret hlk hnm hown hh0 W hP
  obtain ⟨rfl, hB⟩ := hP
  have hB0 := hB.mv X0.warmed.alike hh0
  have c1 : Steps p.tables e below (s₁.setTop (entryFrame m #[.ref d, .int (Int32.ofNat B.slots.size)] 2)) (s₁.setTop (mkF m 0 #[.val (.ref d), .val (.int (Int32.ofNat B.slots.size))] [])) := entry rfl
  have c2 : Steps p.tables e below (s₁.setTop (entryFrame m #[.ref d, .int (Int32.ofNat B.slots.size)] 2)) (s₁.setTop (mkF m 2 #[.val (.ref d), .val (.int (Int32.ofNat B.slots.size))] [.ref d, .int (Int32.ofNat B.slots.size)])) := c1.trans (by
    refine XS.iloadN X0.here hexec rfl (hb hbytes d0) rfl ?_
    refine XS.aloadN X0.here hexec rfl (hb hbytes d1) rfl rfl ?_
    exact Steps.refl _)
  have c3 : Steps p.tables e below (s₁.setTop (entryFrame m #[.ref d, .int (Int32.ofNat B.slots.size)] 2)) (s₁.setTop (mkF m 8 #[.val (.ref d), .val (.int (Int32.ofNat B.slots.size))] [.int (lo8 (ushr (Int32.ofNat B.slots.size - Int32.ofNat B.slots.size) 31))])) := c2.trans (by
    refine X0.alen hexec hB0 rfl rfl (hb hbytes d2) ?_
    refine XS.isub X0.here hexec rfl (hb hbytes d3) rfl ?_
    refine bipushV X0.here hexec rfl 31 (hb hbytes d4) (by decide) ?_
    refine iushr X0.here hexec rfl (hb hbytes d6) rfl ?_
    refine i2b X0.here hexec rfl (hb hbytes d7) rfl ?_
    exact Steps.refl _)
  have e0 : lo8 (ushr (Int32.ofNat B.slots.size - Int32.ofNat B.slots.size) 31) = 0 := by rw [Int32.sub_self]; decide
  rw [e0] at c3
  exact ⟨s₁, some (.int 0), _, _, _, X0, rfl, rfl, rfl, (fun h => by cases h), ⟨rfl, hh0⟩, fun fs hl => c3.trans (X0.ireturnOut hexec hret rfl (Or.inr (Or.inr (Or.inl rfl))) (hb hbytes d8) hl)⟩
end CodL
/-- the String at a is Latin-1 over a new byte[] (the heap's one new cell): the low bytes of the len chars of A from o on; every cell but a is kept -/
def Got (a : Addr) (D : Cell) (fV fC : Field) (A : Cell) (o len : Nat) (r : Option Value) (s u : State) : Prop := r = none ∧ ∃ D' V : Cell, Blank "java/lang/String" a D' u ∧ Same D D' [fV.slot, fC.slot] ∧ D'.slots[fV.slot]? = some (.ref s.heap.size) ∧ D'.slots[fC.slot]? = some (.int 0) ∧ Arr .byte s.heap.size V u ∧ V.vm = .none ∧ u.vm.findClass "[B" = some V.cls ∧ V.slots.size = len ∧ (∀ j, j < len → V.slots[j]? = some (.int (lo8 (cv A (o + j))))) ∧ (∀ (y : Addr) (c : Cell), y ≠ a → s.heap[y]? = some c → u.heap[y]? = some c) ∧ u.heap.size = s.heap.size + 1
theorem Got.mv {a : Addr} {D A : Cell} {fV fC : Field} {o len : Nat} : ∀ r (U U' V V' : State), U'.heap = U.heap → V.vm.Alike V'.vm → V'.heap = V.heap → Got a D fV fC A o len r U V → Got a D fV fC A o len r U' V' :=
  fun r U U' V V' h1 hal h2 ⟨e0, D', X, a1, a2, a3, a4, a5, a6, a7, a8, a9, a10, a11⟩ => ⟨e0, D', X, a1.mv hal h2, a2, by rw [h1]; exact a3, a4, by rw [h1]; exact a5.mv hal h2, a6, by rw [hal.findClass]; exact a7, a8, a9, by rw [h1, h2]; exact a10, by rw [h1, h2]; exact a11⟩
namespace New4
def yN : MethodName := ⟨"java/lang/String", "<init>", "([CIILjava/lang/Void;)V"⟩
abbrev yB : ByteArray := jdk_42_method_149_code
theorem d0 : decode yB 0 = .ok (.aload_n 0, 1) := by decide +kernel
theorem d1 : decode yB 1 = .ok (.invokespecial 1, 3) := by decide +kernel
theorem d4 : decode yB 4 = .ok (.iload_n 3, 1) := by decide +kernel
theorem d5 : decode yB 5 = .ok (.ifCond (.ne) 22, 3) := by decide +kernel
theorem d27 : decode yB 27 = .ok (.getstatic 38, 3) := by decide +kernel
theorem d30 : decode yB 30 = .ok (.ifCond (.eq) 28, 3) := by decide +kernel
theorem d33 : decode yB 33 = .ok (.aload_n 1, 1) := by decide +kernel
theorem d34 : decode yB 34 = .ok (.iload_n 2, 1) := by decide +kernel
theorem d35 : decode yB 35 = .ok (.iload_n 3, 1) := by decide +kernel
theorem d36 : decode yB 36 = .ok (.invokestatic 177, 3) := by decide +kernel
theorem d39 : decode yB 39 = .ok (.astore 5, 2) := by decide +kernel
theorem d41 : decode yB 41 = .ok (.aload_n 0, 1) := by decide +kernel
theorem d42 : decode yB 42 = .ok (.aload 5, 2) := by decide +kernel
theorem d44 : decode yB 44 = .ok (.iload_n 3, 1) := by decide +kernel
theorem d45 : decode yB 45 = .ok (.invokestatic 47, 3) := by decide +kernel
theorem d48 : decode yB 48 = .ok (.putfield 15, 3) := by decide +kernel
theorem d51 : decode yB 51 = .ok (.aload_n 0, 1) := by decide +kernel
theorem d52 : decode yB 52 = .ok (.aload 5, 2) := by decide +kernel
theorem d54 : decode yB 54 = .ok (.putfield 9, 3) := by decide +kernel
theorem d57 : decode yB 57 = .ok (.return_, 1) := by decide +kernel
def site : List Cond := [.fieldLink "java/lang/String" 38 "java/lang/String" "COMPACT_STRINGS" "Z", Cmp3.tab, CodL.tab, .laysFinal "java/lang/String" "java/lang/String" "value" "[B", .fieldLink "java/lang/String" 9 "java/lang/String" "value" "[B", .laysFinal "java/lang/String" "java/lang/String" "coder" "B", .fieldLink "java/lang/String" 15 "java/lang/String" "coder" "B"] ++ objW "java/lang/String" 1 ++ staticW "java/lang/String" 177 Cmp3.yN ++ staticW "java/lang/String" 47 CodL.yN
def tab : Cond := tabOf yN yB 6 none site
def P (a : Addr) (D : Cell) (fV fC : Field) (b : Addr) (A : Cell) (z : Int32) (o len : Nat) (args : Array Value) (s : State) : Prop := args = #[.ref a, .ref b, .int (Int32.ofNat o), .int (Int32.ofNat len), .null] ∧ Blank "java/lang/String" a D s ∧ Found "java/lang/String" "value" "[B" fV s ∧ Found "java/lang/String" "coder" "B" fC s ∧ Ch b A s ∧ StaticIs s "java/lang/String" "COMPACT_STRINGS" "Z" (.int z) ∧ ¬ z = 0 ∧ 0 < len ∧ o + len ≤ A.slots.size ∧ len ≤ 536870912 ∧ ∀ i, i < len → ¬ 255 < cv A (o + i)
def E (a : Addr) (D : Cell) (fV fC : Field) (A : Cell) (o len : Nat) (r : Option Value) (s u : State) : Prop := Got a D fV fC A o len r s u
/-- len > 0, no char of the range above 255: a Latin-1 String of their low bytes -/
theorem law (l : Launch) (a : Addr) (D : Cell) (fV fC : Field) (b : Addr) (A : Cell) (z : Int32) (o len : Nat) : Law l yN 5 4 2 35 yB 6 none site (P a D fV fC b A z o len) (E a D fV fC A o len) [⟨a, fC.slot⟩, ⟨a, fV.slot⟩] 1 len := by
  refine Law.of_walk (plainFor_of_name (by decide +kernel)) (by decide +kernel) (by decide +kernel) (by decide) (fun _ _ h => by rw [h.1]; rfl) (fun _ U U' hal hh h => ⟨h.1, h.2.1.mv hal hh, h.2.2.1.al hal, h.2.2.2.1.al hal, h.2.2.2.2.1.mv hal hh, h.2.2.2.2.2.1.there hal hh, h.2.2.2.2.2.2⟩) (fun r U U' V V' h1 hal h2 h => Got.mv r U U' V V' h1 hal h2 h) ?_
  intro p e s m args below meth c s₁ X0 hexec hbytes hml hret hlk hnm hown hh0 W hP
  obtain ⟨rfl, hB, f1, f2, hA, s1, hz, l0, l1, l2, hp⟩ := hP
  have a31 := hA.1.2.2.2
  have c1 : Steps p.tables e below (s₁.setTop (entryFrame m #[.ref a, .ref b, .int (Int32.ofNat o), .int (Int32.ofNat len), .null] 6)) (s₁.setTop (mkF m 0 #[.val (.ref a), .val (.ref b), .val (.int (Int32.ofNat o)), .val (.int (Int32.ofNat len)), .val .null, .unset] [])) := entry rfl
  have c2 : Steps p.tables e below (s₁.setTop (entryFrame m #[.ref a, .ref b, .int (Int32.ofNat o), .int (Int32.ofNat len), .null] 6)) (s₁.setTop (mkF m 1 #[.val (.ref a), .val (.ref b), .val (.int (Int32.ofNat o)), .val (.int (Int32.ofNat len)), .val .null, .unset] [.ref a])) := c1.trans (by
    refine XS.aloadN X0.here hexec rfl (hb hbytes d0) rfl rfl ?_
    exact Steps.refl _)
  obtain ⟨T3, X3, q3, st3⟩ := X0.oinit hexec hown (wks W (objW "java/lang/String" 1)) (g := (mkF m 1 #[.val (.ref a), .val (.ref b), .val (.int (Int32.ofNat o)), .val (.int (Int32.ofNat len)), .val .null, .unset] [.ref a])) rfl (by rw [hml]; rfl) (rest := []) rfl (hb hbytes d1) (W := 0) (by show 2 * 0 + 0 ≤ _; decide) (Nat.le_of_ble_eq_true rfl) (Nat.le_of_ble_eq_true rfl)
  have hh3 := q3.trans hh0
  have c4 : Steps p.tables e below (s₁.setTop (entryFrame m #[.ref a, .ref b, .int (Int32.ofNat o), .int (Int32.ofNat len), .null] 6)) (T3.setTop (mkF m 27 #[.val (.ref a), .val (.ref b), .val (.int (Int32.ofNat o)), .val (.int (Int32.ofNat len)), .val .null, .unset] [])) := (c2.trans (st3 _ (Steps.refl _))).trans (by
    refine XS.iloadN X3.here hexec rfl (hb hbytes d4) rfl ?_
    refine XS.ifYes X3.here hexec rfl (pc0 := 5) rfl (hb hbytes d5) rfl (i0_ne_t (nz32 (by omega) l0)) (by decide) rfl ?_
    exact Steps.refl _)
  obtain ⟨T5, X5, q5, st5⟩ := X3.sget hexec hown (wk W (.fieldLink "java/lang/String" 38 "java/lang/String" "COMPACT_STRINGS" "Z")) s1 (fun _ _ h => by rw [hh3]; exact h) (g := (mkF m 27 #[.val (.ref a), .val (.ref b), .val (.int (Int32.ofNat o)), .val (.int (Int32.ofNat len)), .val .null, .unset] [])) rfl (hb hbytes d27)
  have hh5 := q5.trans hh3
  have c6 : Steps p.tables e below (s₁.setTop (entryFrame m #[.ref a, .ref b, .int (Int32.ofNat o), .int (Int32.ofNat len), .null] 6)) (T5.setTop (mkF m 30 #[.val (.ref a), .val (.ref b), .val (.int (Int32.ofNat o)), .val (.int (Int32.ofNat len)), .val .null, .unset] [.int z])) := c4.trans (st5 _ (Steps.refl _))
  have c7 : Steps p.tables e below (s₁.setTop (entryFrame m #[.ref a, .ref b, .int (Int32.ofNat o), .int (Int32.ofNat len), .null] 6)) (T5.setTop (mkF m 36 #[.val (.ref a), .val (.ref b), .val (.int (Int32.ofNat o)), .val (.int (Int32.ofNat len)), .val .null, .unset] [.int (Int32.ofNat len), .int (Int32.ofNat o), .ref b])) := c6.trans (by
    refine XS.ifNo X5.here hexec rfl (hb hbytes d30) rfl (i0_eq_f hz) ?_
    refine XS.aloadN X5.here hexec rfl (hb hbytes d33) rfl rfl ?_
    refine XS.iloadN X5.here hexec rfl (hb hbytes d34) rfl ?_
    refine XS.iloadN X5.here hexec rfl (hb hbytes d35) rfl ?_
    exact Steps.refl _)
  obtain ⟨v8, T8, X8, E8, g8⟩ := X5.callS hexec (Cmp3.law l b A o len) hown (wks W (staticW "java/lang/String" 177 Cmp3.yN)) (wk W Cmp3.tab) (W := 0) (Nat.le_of_ble_eq_true rfl) (Nat.le_of_ble_eq_true rfl) (Nat.le_refl _) (by show 0 + len ≤ len; omega) (g := (mkF m 36 #[.val (.ref a), .val (.ref b), .val (.int (Int32.ofNat o)), .val (.int (Int32.ofNat len)), .val .null, .unset] [.int (Int32.ofNat len), .int (Int32.ofNat o), .ref b])) rfl (by rw [hml]; rfl) c7 (argsL := [.ref b, .int (Int32.ofNat o), .int (Int32.ofNat len)]) (rest := []) rfl rfl (by show 2 * 0 + 0 ≤ _; decide) (hb hbytes d36) (⟨rfl, hA.mv X5.warmed.alike hh5, l1, l2, hp⟩)
  obtain ⟨e8, z8⟩ := E8
  obtain ⟨rfl, N, n1, n2, n3, n4, n5, n6⟩ := NewArr.mv _ T5 s _ _ hh5.symm (Vm.Alike.refl _) rfl e8
  rw [hh5] at z8
  have hB1 := hB.keep X8.warmed.alike (n6 _ _ hB.1)
  have hne : s.heap.size ≠ a := (Nat.ne_of_lt (Array.getElem?_eq_some_iff.mp hB.1).1).symm
  have c9 : Steps p.tables e below (s₁.setTop (entryFrame m #[.ref a, .ref b, .int (Int32.ofNat o), .int (Int32.ofNat len), .null] 6)) (T8.setTop (mkF m 39 #[.val (.ref a), .val (.ref b), .val (.int (Int32.ofNat o)), .val (.int (Int32.ofNat len)), .val .null, .unset] [.ref s.heap.size])) := g8
  have c10 : Steps p.tables e below (s₁.setTop (entryFrame m #[.ref a, .ref b, .int (Int32.ofNat o), .int (Int32.ofNat len), .null] 6)) (T8.setTop (mkF m 45 #[.val (.ref a), .val (.ref b), .val (.int (Int32.ofNat o)), .val (.int (Int32.ofNat len)), .val .null, .val (.ref s.heap.size)] [.int (Int32.ofNat N.slots.size), .ref s.heap.size, .ref a])) := by
    have hc : Steps p.tables e below (s₁.setTop (entryFrame m #[.ref a, .ref b, .int (Int32.ofNat o), .int (Int32.ofNat len), .null] 6)) (T8.setTop (mkF m 45 #[.val (.ref a), .val (.ref b), .val (.int (Int32.ofNat o)), .val (.int (Int32.ofNat len)), .val .null, .val (.ref s.heap.size)] [.int (Int32.ofNat len), .ref s.heap.size, .ref a])) := c9.trans (by
      refine XS.astore X8.here hexec rfl (hb hbytes d39) rfl rfl rfl ?_
      refine XS.aloadN X8.here hexec rfl (hb hbytes d41) rfl rfl ?_
      refine XS.aload X8.here hexec rfl (hb hbytes d42) rfl rfl ?_
      refine XS.iloadN X8.here hexec rfl (hb hbytes d44) rfl ?_
      exact Steps.refl _)
    rw [n4]; exact hc
  obtain ⟨v11, T11, X11, E11, g11⟩ := X8.callS hexec (CodL.law l s.heap.size N) hown (wks W (staticW "java/lang/String" 47 CodL.yN)) (wk W CodL.tab) (W := 1) (Nat.le_of_ble_eq_true rfl) (Nat.le_of_ble_eq_true rfl) (Nat.le_refl _) (by show 0 + len + 0 ≤ len; omega) (g := (mkF m 45 #[.val (.ref a), .val (.ref b), .val (.int (Int32.ofNat o)), .val (.int (Int32.ofNat len)), .val .null, .val (.ref s.heap.size)] [.int (Int32.ofNat N.slots.size), .ref s.heap.size, .ref a])) rfl (by rw [hml]; rfl) c10 (argsL := [.ref s.heap.size, .int (Int32.ofNat N.slots.size)]) (rest := [.ref a]) rfl rfl (by show 2 * 0 + (1 + 0) ≤ _; decide) (hb hbytes d45) (⟨rfl, n1⟩)
  obtain ⟨rfl, q11⟩ := E11
  have hB11 := hB1.mv (X8.warmed.alike.symm.trans X11.warmed.alike) q11
  have c12 : Steps p.tables e below (s₁.setTop (entryFrame m #[.ref a, .ref b, .int (Int32.ofNat o), .int (Int32.ofNat len), .null] 6)) (T11.setTop (mkF m 48 #[.val (.ref a), .val (.ref b), .val (.int (Int32.ofNat o)), .val (.int (Int32.ofNat len)), .val .null, .val (.ref s.heap.size)] [.int 0, .ref a])) := g11
  obtain ⟨T13, X13, p13, bl13, sl13, st13⟩ := X11.finit hexec hown (wk W (.fieldLink "java/lang/String" 15 "java/lang/String" "coder" "B")) (Or.inr ⟨_, (wk W (.laysFinal "java/lang/String" "java/lang/String" "coder" "B"))⟩) (Or.inl ⟨rfl, hnm⟩) f2 (Or.inl rfl) hB11 (t := .byte) (by decide +kernel) rfl (g := (mkF m 48 #[.val (.ref a), .val (.ref b), .val (.int (Int32.ofNat o)), .val (.int (Int32.ofNat len)), .val .null, .val (.ref s.heap.size)] [.int 0, .ref a])) rfl (rest := []) rfl (hb hbytes d48)
  have c14 : Steps p.tables e below (s₁.setTop (entryFrame m #[.ref a, .ref b, .int (Int32.ofNat o), .int (Int32.ofNat len), .null] 6)) (T13.setTop (mkF m 54 #[.val (.ref a), .val (.ref b), .val (.int (Int32.ofNat o)), .val (.int (Int32.ofNat len)), .val .null, .val (.ref s.heap.size)] [.ref s.heap.size, .ref a])) := (c12.trans (st13 _ (Steps.refl _))).trans (by
    refine XS.aloadN X13.here hexec rfl (hb hbytes d51) rfl rfl ?_
    refine XS.aload X13.here hexec rfl (hb hbytes d52) rfl rfl ?_
    exact Steps.refl _)
  obtain ⟨T15, X15, p15, bl15, sl15, st15⟩ := X13.finit hexec hown (wk W (.fieldLink "java/lang/String" 9 "java/lang/String" "value" "[B")) (Or.inr ⟨_, (wk W (.laysFinal "java/lang/String" "java/lang/String" "value" "[B"))⟩) (Or.inl ⟨rfl, hnm⟩) f1 (Or.inl rfl) bl13 (t := (.array .byte)) (by decide +kernel) rfl (g := (mkF m 54 #[.val (.ref a), .val (.ref b), .val (.int (Int32.ofNat o)), .val (.int (Int32.ofNat len)), .val .null, .val (.ref s.heap.size)] [.ref s.heap.size, .ref a])) rfl (rest := []) rfl (hb hbytes d54)
  have c16 : Steps p.tables e below (s₁.setTop (entryFrame m #[.ref a, .ref b, .int (Int32.ofNat o), .int (Int32.ofNat len), .null] 6)) (T15.setTop (mkF m 57 #[.val (.ref a), .val (.ref b), .val (.int (Int32.ofNat o)), .val (.int (Int32.ofNat len)), .val .null, .val (.ref s.heap.size)] [])) := c14.trans (st15 _ (Steps.refl _))
  have ap := apart (Or.inr ⟨_, (wk W (.laysFinal "java/lang/String" "java/lang/String" "value" "[B"))⟩) (Or.inr ⟨_, (wk W (.laysFinal "java/lang/String" "java/lang/String" "coder" "B"))⟩) f1 f2 (t₁ := .array .byte) (t₂ := .byte) (by decide +kernel) (by decide +kernel) (by decide)
  have al := X8.warmed.alike.symm.trans X15.warmed.alike
  have n7 : T11.heap[s.heap.size]? = some N := by rw [q11]; exact n1.1
  exact ⟨T15, none, _, _, _, X15, by simp, rfl, by omega, (fun _ => rfl), ⟨rfl, _, N, bl15, ((Same.refl D _).set _ (by simp)).set _ (by simp), sl15, (Cell.slots_setSlot_ne _ ap).trans sl13, n1.keep al (p15.other hne (p13.other hne n7)), n2, by rw [al.findClass]; exact n3, n4, n5, fun y c h1 h2 => p15.other h1 (p13.other h1 (by rw [q11]; exact n6 y c h2)), by rw [p15.2.2, p13.2.2, q11]; exact z8⟩, fun fs hl => c16.trans (X15.returnOut hexec hret (hb hbytes d57) hl)⟩
end New4
namespace New1
def yN : MethodName := ⟨"java/lang/String", "<init>", "([C)V"⟩
abbrev yB : ByteArray := jdk_42_method_3_code
theorem d0 : decode yB 0 = .ok (.aload_n 0, 1) := by decide +kernel
theorem d1 : decode yB 1 = .ok (.aload_n 1, 1) := by decide +kernel
theorem d2 : decode yB 2 = .ok (.iconst 0, 1) := by decide +kernel
theorem d3 : decode yB 3 = .ok (.aload_n 1, 1) := by decide +kernel
theorem d4 : decode yB 4 = .ok (.arraylength, 1) := by decide +kernel
theorem d5 : decode yB 5 = .ok (.aconst_null, 1) := by decide +kernel
theorem d6 : decode yB 6 = .ok (.invokespecial 27, 3) := by decide +kernel
theorem d9 : decode yB 9 = .ok (.return_, 1) := by decide +kernel
def site : List Cond := [New4.tab] ++ initW "java/lang/String" 27 New4.yN
def tab : Cond := tabOf yN yB 2 none site
def P (a : Addr) (D : Cell) (fV fC : Field) (b : Addr) (A : Cell) (z : Int32) (args : Array Value) (s : State) : Prop := args = #[.ref a, .ref b] ∧ Blank "java/lang/String" a D s ∧ Found "java/lang/String" "value" "[B" fV s ∧ Found "java/lang/String" "coder" "B" fC s ∧ Ch b A s ∧ StaticIs s "java/lang/String" "COMPACT_STRINGS" "Z" (.int z) ∧ ¬ z = 0 ∧ 0 < A.slots.size ∧ A.slots.size ≤ 536870912 ∧ ∀ i, i < A.slots.size → ¬ 255 < cv A i
def E (a : Addr) (D : Cell) (fV fC : Field) (A : Cell) (r : Option Value) (s u : State) : Prop := Got a D fV fC A 0 A.slots.size r s u
/-- new String(chars), not empty, no char above 255: a Latin-1 String of their low bytes -/
theorem law (l : Launch) (a : Addr) (D : Cell) (fV fC : Field) (b : Addr) (A : Cell) (z : Int32) : Law l yN 2 1 3 52 yB 2 none site (P a D fV fC b A z) (E a D fV fC A) [⟨a, fC.slot⟩, ⟨a, fV.slot⟩] 1 A.slots.size := by
  refine Law.of_walk (plainFor_of_name (by decide +kernel)) (by decide +kernel) (by decide +kernel) (by decide) (fun _ _ h => by rw [h.1]; rfl) (fun _ U U' hal hh h => ⟨h.1, h.2.1.mv hal hh, h.2.2.1.al hal, h.2.2.2.1.al hal, h.2.2.2.2.1.mv hal hh, h.2.2.2.2.2.1.there hal hh, h.2.2.2.2.2.2⟩) (fun r U U' V V' h1 hal h2 h => Got.mv r U U' V V' h1 hal h2 h) ?_
  intro p e s m args below meth c s₁ X0 hexec hbytes hml hret hlk hnm hown hh0 W hP
  obtain ⟨rfl, hB, f1, f2, hA, s1, hz, l0, l2, hp⟩ := hP
  have c1 : Steps p.tables e below (s₁.setTop (entryFrame m #[.ref a, .ref b] 2)) (s₁.setTop (mkF m 0 #[.val (.ref a), .val (.ref b)] [])) := entry rfl
  have c2 : Steps p.tables e below (s₁.setTop (entryFrame m #[.ref a, .ref b] 2)) (s₁.setTop (mkF m 6 #[.val (.ref a), .val (.ref b)] [.null, .int (Int32.ofNat A.slots.size), .int 0, .ref b, .ref a])) := c1.trans (by
    refine XS.aloadN X0.here hexec rfl (hb hbytes d0) rfl rfl ?_
    refine XS.aloadN X0.here hexec rfl (hb hbytes d1) rfl rfl ?_
    refine iconstV X0.here hexec rfl 0 (hb hbytes d2) (by decide) ?_
    refine XS.aloadN X0.here hexec rfl (hb hbytes d3) rfl rfl ?_
    refine X0.alen hexec (hA.1.mv X0.warmed.alike hh0) rfl rfl (hb hbytes d4) ?_
    refine XS.aconstNull X0.here hexec rfl (hb hbytes d5) ?_
    exact Steps.refl _)
  obtain ⟨v3, T3, X3, E3, g3⟩ := X0.callN hexec (New4.law l a D fV fC b A z 0 A.slots.size) rfl hown (wks W (initW "java/lang/String" 27 New4.yN)) (W New4.tab (by simp only [site, List.mem_cons, List.mem_append, true_or, or_true])) (W := 0) (Nat.le_of_ble_eq_true rfl) (Nat.le_of_ble_eq_true rfl) (Nat.le_refl _) (by show 0 + A.slots.size ≤ A.slots.size; omega) (g := (mkF m 6 #[.val (.ref a), .val (.ref b)] [.null, .int (Int32.ofNat A.slots.size), .int (Int32.ofNat 0), .ref b, .ref a])) rfl (by rw [hml]; rfl) c2 (argsL := [.ref b, .int (Int32.ofNat 0), .int (Int32.ofNat A.slots.size), .null]) (rest := []) rfl rfl (by show 2 * 0 + 0 ≤ _; decide) (hb hbytes d6) (⟨rfl, hB.mv X0.warmed.alike hh0, f1.al X0.warmed.alike, f2.al X0.warmed.alike, hA.mv X0.warmed.alike hh0, s1.there X0.warmed.alike hh0, hz, l0, by omega, l2, fun i hi => by rw [Nat.zero_add]; exact hp i hi⟩)
  have e0 := Got.mv _ s₁ s _ _ hh0.symm (Vm.Alike.refl _) rfl E3
  obtain rfl := e0.1
  have c4 : Steps p.tables e below (s₁.setTop (entryFrame m #[.ref a, .ref b] 2)) (T3.setTop (mkF m 9 #[.val (.ref a), .val (.ref b)] [])) := g3
  exact ⟨T3, none, _, _, _, X3, by simp, rfl, by omega, (fun _ => rfl), e0, fun fs hl => c4.trans (X3.returnOut hexec hret (hb hbytes d9) hl)⟩
theorem pays {l : Launch} {R : Room} {p : Program} {e : Env} {below : List Frame} {s : State} {sargs : Array Value} {len W : Nat} (a : Addr) (D : Cell) (fV fC : Field) (b : Addr) (A : Cell) (z : Int32) (htab : tab.before sargs s = true) (hfr : 4 ≤ R.frames) (hlo : W + 65 ≤ R.locals) :
    Back l R p e below s sargs yN len W (fun A₁ a₁ => A₁.cells + 1 ≤ R.cells ∧ A₁.slots + A.slots.size ≤ R.slots ∧ P a D fV fC b A z a₁ A₁.U) (fun A₁ _ v₁ B₁ => E a D fV fC A v₁ A₁.U B₁.U ∧ B₁.locs = A₁.locs ++ [⟨a, fC.slot⟩, ⟨a, fV.slot⟩] ∧ B₁.cells = A₁.cells + 1 ∧ B₁.slots = A₁.slots + A.slots.size) :=
  (law l a D fV fC b A z).pays htab hfr (by omega)
end New1
/-- the byte, read back as charAt reads it, is the char -/
theorem lo8_mask {x : Int32} (h0 : ¬ x < 0) (h1 : ¬ 255 < x) : lo8 x &&& 255 = x := by
  have t : ∀ k : Fin 256, lo8 (Int32.ofNat k.val) &&& 255 = Int32.ofNat k.val := by decide +kernel
  rw [Int32.lt_iff_toInt_lt] at h0 h1
  have e0 : (0 : Int32).toInt = 0 := rfl
  have e1 : (255 : Int32).toInt = 255 := rfl
  obtain ⟨k, hk⟩ : ∃ k : Nat, x.toInt = k := ⟨x.toInt.toNat, by omega⟩
  have hx : x = Int32.ofNat k := Int32.toInt_inj.mp (by rw [hk, Int32.toInt_ofNat_small (by omega)])
  rw [hx]
  exact t ⟨k, by omega⟩
end StrChars
namespace StrChars.Road
open Jvm Sem ClassFile Op Lib Jvm.Stand Jvm.Free Jvm.Free.XT
open Jvm.Lib.Cold (StaticIs)
abbrev ST : String := "java/lang/String"
/-- every table word that New1's law asks, flat -/
abbrev words : List Jvm.Cond := [.code New1.yN New1.yB 2 none, .initialized ST, .methodLink ST 27 New4.yN, .instanceMethod New4.yN,
  .code New4.yN New4.yB 6 none, .fieldLink ST 38 ST "COMPACT_STRINGS" "Z", .laysFinal ST ST "value" "[B", .fieldLink ST 9 ST "value" "[B", .laysFinal ST ST "coder" "B", .fieldLink ST 15 ST "coder" "B",
  .methodLink ST 1 Lib.objectInit, .instanceMethod Lib.objectInit, .code Lib.objectInit ⟨#[0xb1]⟩ 1 none, .methodLink ST 177 Cmp3.yN, .static Cmp3.yN, .methodLink ST 47 CodL.yN, .static CodL.yN,
  .code Cmp3.yN Cmp3.yB 6 (some (.array .byte)), .initialized U16, .arrayClass .byte, .methodLink U16 115 Cmp5.yN, .static Cmp5.yN, .code Cmp5.yN Cmp5.yB 7 (some .int), .code CodL.yN CodL.yB 2 (some .byte)]
theorem tab_of {a : Array Value} {s : State} (h : ∀ w ∈ words, w.before a s = true) : New1.tab.before a s = true := by
  have h5 : Cmp5.tab.before a s = true := unparts (wk h (.code Cmp5.yN Cmp5.yB 7 (some .int))) (wks h (.initialized Cmp5.yN.cls :: Cmp5.site))
  have hc : CodL.tab.before a s = true := unparts (wk h (.code CodL.yN CodL.yB 2 (some .byte))) (wks h (.initialized CodL.yN.cls :: CodL.site))
  have q5 : ∀ w ∈ Cmp5.tab :: words, w.before a s = true := fun w hw => (List.mem_cons.mp hw).elim (fun e => e ▸ h5) (h w)
  have h3 : Cmp3.tab.before a s = true := unparts (wk q5 (.code Cmp3.yN Cmp3.yB 6 (some (.array .byte)))) (wks q5 (.initialized Cmp3.yN.cls :: Cmp3.site))
  have q3 : ∀ w ∈ Cmp3.tab :: CodL.tab :: words, w.before a s = true := fun w hw => (List.mem_cons.mp hw).elim (fun e => e ▸ h3) fun hw => (List.mem_cons.mp hw).elim (fun e => e ▸ hc) (h w)
  have h4 : New4.tab.before a s = true := unparts (wk q3 (.code New4.yN New4.yB 6 none)) (wks q3 (.initialized New4.yN.cls :: New4.site))
  have q4 : ∀ w ∈ New4.tab :: words, w.before a s = true := fun w hw => (List.mem_cons.mp hw).elim (fun e => e ▸ h4) (h w)
  exact unparts (wk q4 (.code New1.yN New1.yB 2 none)) (wks q4 (.initialized New1.yN.cls :: New1.site))
/-- the words ride from the start Z to the walk's own state -/
theorem moved {Z s : State} {a0 args : Array Value} (hZ : Z.Warmed39 s.vm) (hw : ∀ d ∈ words, d.before a0 Z = true) : ∀ d ∈ words, d.before args s = true := fun d hd => by
  have q := hw d hd
  have t : ∀ d ∈ words, d = .arrayClass .byte ∨ (d.onTables && d.keepsFace) = true := by decide +kernel
  rcases t d hd with rfl | t
  · exact RoadKit.mvA hZ q
  · exact RoadKit.mv hZ q t
/-- WHAT COMES BACK, over the tables of the start Z: h the heap at the call, h' behind it -/
def Q (Z : State) (x : Addr) (A : Cell) (h : Heap) (v : Option Value) (h' : Heap) (L : List Loc) : Prop := v = none ∧ (∀ y ∈ L, y.base = x) ∧ RoadKit.Keep h h' [x] ∧ h'.size = h.size + 1 ∧ RoadKit.Exa Z h' x ST ∧ RoadKit.Fld Z h' x ST "value" "[B" (.ref h.size) ∧ RoadKit.Fld Z h' x ST "coder" "B" (.int 0) ∧
  (∃ V : Cell, RoadKit.Arr Z h' h.size V .byte ∧ V.vm = .none ∧ Z.vm.findClass "[B" = some V.cls ∧ V.slots.size = A.slots.size ∧ ∀ j, j < A.slots.size → V.slots[j]? = some (.int (lo8 (cv A j)))) ∧
  ∀ (O n d : String) (w : Value), RoadKit.Fld Z h x O n d w → RoadKit.slotOf Z O n d ≠ RoadKit.slotOf Z ST "value" "[B" → RoadKit.slotOf Z O n d ≠ RoadKit.slotOf Z ST "coder" "B" → RoadKit.Fld Z h' x O n d w
/-- **new String(chars) AT A CALL, IN THE ROAD'S FORM**: for specialBack behind newO: x the fresh String, b the char[] with the cell A -/
theorem back {p : Program} {l : Launch} {e : Env} {R : Room} {s : State} {args : Array Value} {below : List Frame} {len W : Nat} {Z : State} {a0 : Array Value} {h : Heap} (hZ : Z.Warmed39 s.vm) (hw : ∀ d ∈ words, d.before a0 Z = true) {kI : Nat} (wi : (Jvm.Cond.instantiable ST kI).before a0 Z = true)
    {x b : Addr} {A : Cell} {z : Int32} {v0 c0 : Value} (E : RoadKit.Exa Z h x ST) (V : RoadKit.Fld Z h x ST "value" "[B" v0) (C : RoadKit.Fld Z h x ST "coder" "B" c0) (K : RoadKit.Arr Z h b A .char) (hty : Typed .char A) (S : RoadKit.Sta Z h ST "COMPACT_STRINGS" "Z" (.int z)) (hz : ¬ z = 0)
    (l0 : 0 < A.slots.size) (l2 : A.slots.size ≤ 536870912) (hp : ∀ i, i < A.slots.size → ¬ 255 < cv A i) (hfr : 4 ≤ R.frames) (hlo : W + 65 ≤ R.locals) :
    Back l R p e below s args New1.yN len W (fun P a => a = #[.ref x, .ref b] ∧ P.U.heap = h ∧ P.cells + 1 ≤ R.cells ∧ P.slots + A.slots.size ≤ R.slots)
      (fun P _ v B => ∃ L, Q Z x A h v B.U.heap L ∧ B.locs = P.locs ++ L ∧ B.cells = P.cells + 1 ∧ B.slots = P.slots + A.slots.size) := by
  intro m meth c P g ig mk a X hg hsize hdg hW hn hp'
  obtain ⟨rfl, rfl, r1, r2⟩ := hp'
  have al : Z.vm.Alike P.U.vm := hZ.alike.trans X.warmed.alike
  obtain ⟨D, cfV, kV, iV, fV, hD, gV, stV, knV, obV, asV, slV⟩ := id V
  obtain ⟨D', cfC, kC, iC, fC, hD', gC, stC, -, -, asC, slC⟩ := id C
  cases hD.symm.trans hD'
  obtain ⟨D2, kD, e1, e2, e3, e4, e5⟩ := id E
  cases hD.symm.trans e1
  obtain ⟨c2, k2, i1, i2, i3, -⟩ := Cond.instantiable_spec wi
  cases e2.symm.trans i1
  cases e3.symm.trans i2
  obtain ⟨kU, u1, u2⟩ := al.2.2 _ _ e3
  have hB : Blank ST x D P.U := ⟨hD, ⟨knV, fun q hq => by rw [hq] at obV; cases obV⟩, by rw [al.findClass]; exact e2, kU, u1, by rw [u2]; exact i3, by rw [u2]; exact e5 i3⟩
  have F1 : Found ST "value" "[B" fV P.U := ⟨SBG.found_only al ⟨cfV, kV, iV, gV⟩, stV⟩
  have F2 : Found ST "coder" "B" fC P.U := ⟨SBG.found_only al ⟨cfC, kC, iC, gC⟩, stC⟩
  have hA : Ch b A P.U := ⟨⟨K.1, State.isArrayOf_alike al K.2.1, K.2.2, by omega⟩, hty⟩
  have hS : StaticIs P.U ST "COMPACT_STRINGS" "Z" (.int z) := by
    obtain ⟨cfS, iS, kS, fS, st, cS, t1, t2, t3, t4, t5, t6, t7⟩ := S
    exact StaticIs.there (s := { Z with heap := P.U.heap }) ⟨cfS, iS, kS, fS, st, cS, t1, t2, t3, t4, t5, (fun q => by rw [q] at t6; cases t6), t7⟩ al rfl
  obtain ⟨v, B, X', ⟨⟨hv, E', V', q1, q2, q3, q4, q5, q6, q7, q8, q9, q10, q11⟩, hl, hc, hs⟩, st⟩ := New1.pays x D fV fC b A z (tab_of (moved hZ hw)) hfr hlo m meth c P g ig mk _ X hg hsize hdg hW hn ⟨r1, r2, rfl, hB, F1, F2, hA, hS, hz, l0, l2, hp⟩
  have al' : Z.vm.Alike B.U.vm := hZ.alike.trans X'.warmed.alike
  have hsz : E'.slots.size = D.slots.size := by
    obtain ⟨-, -, -, kB, w1, w2, w3⟩ := q1
    obtain ⟨kB', y1, y2⟩ := al'.2.2 _ _ e3
    rw [q2.2.1] at w1
    cases w1.symm.trans y1
    rw [w3, e5 i3, y2]
  refine ⟨v, B, X', ⟨_, ⟨hv, ?_, ⟨by omega, fun y cy hy hn' => q10 y cy (by simpa using hn') hy, fun y cy hy => ?_⟩, q11, ⟨E', _, q1.1, by rw [q2.2.1]; exact e2, by rw [q2.2.1]; exact e3, by rw [q2.1]; exact obV, fun _ => by rw [hsz]; exact e5 i3⟩,
    ⟨E', cfV, kV, iV, fV, q1.1, gV, stV, by rw [q2.1]; exact knV, by rw [q2.1]; exact obV, by rw [q2.2.1]; exact asV, q3⟩, ⟨E', cfC, kC, iC, fC, q1.1, gC, stC, by rw [q2.1]; exact knV, by rw [q2.1]; exact obV, by rw [q2.2.1]; exact asC, q4⟩,
    ⟨V', ⟨q5.1, State.isArrayOf_alike al'.symm q5.2.1, q5.2.2.1⟩, q6, by rw [← al'.findClass]; exact q7, q8, fun j hj => by have := q9 j hj; rwa [Nat.zero_add] at this⟩, fun O n d w F n1 n2 => ?_⟩, hl, hc, hs⟩, st⟩
  · intro y hy
    simp only [List.mem_cons, List.not_mem_nil, or_false] at hy
    rcases hy with rfl | rfl <;> rfl
  · by_cases q : y = x
    · subst q
      cases hD.symm.trans hy
      exact ⟨E', q1.1, q2.2.1, q2.1, hsz⟩
    · exact ⟨cy, q10 y cy q hy, rfl, rfl, rfl⟩
  · obtain ⟨D3, cf, k, i, f, g1, g2, g3, g4, g5, g6, g7⟩ := F
    cases hD.symm.trans g1
    simp only [RoadKit.slotOf, g2, gV, gC, Option.map_some, Option.getD_some] at n1 n2
    exact ⟨E', cf, k, i, f, q1.1, g2, g3, by rw [q2.1]; exact g4, by rw [q2.1]; exact g5, by rw [q2.2.1]; exact g6, by rw [q2.2.2 f.slot (by simp [n1, n2])]; exact g7⟩
end StrChars.Road
namespace StrChars.Road
open Jvm Sem ClassFile Op Lib Jvm.Stand Jvm.Free Jvm.Free.XT
/-- WHAT COMES BACK, the byte[] as a list of values -/
def QA (Z : State) (x : Addr) (zn : Int32) (cs : List Int32) (h : Heap) (v : Option Value) (h' : Heap) (L : List Loc) : Prop := v = none ∧ (∀ y ∈ L, y.base = x) ∧ RoadKit.Keep h h' [x] ∧ h'.size = h.size + 1 ∧ RoadKit.Exa Z h' x ST ∧ RoadKit.Fld Z h' x ST "value" "[B" (.ref h.size) ∧ RoadKit.Fld Z h' x ST "coder" "B" (.int 0) ∧
  (∃ kb, Z.vm.findClass "[B" = some kb ∧ RoadKit.Arv Z h' h.size kb .byte zn (cs.map fun c => .int (lo8 c)) (.int 0)) ∧
  ∀ (O n d : String) (w : Value), RoadKit.Fld Z h x O n d w → RoadKit.slotOf Z O n d ≠ RoadKit.slotOf Z ST "value" "[B" → RoadKit.slotOf Z O n d ≠ RoadKit.slotOf Z ST "coder" "B" → RoadKit.Fld Z h' x O n d w
/-- **new String(chars) AT A CALL, THE ARRAYS AS LISTS**: the char[] at b holds cs, not empty, no char above 255 -/
theorem backArv {p : Program} {l : Launch} {e : Env} {R : Room} {s : State} {args : Array Value} {below : List Frame} {len W : Nat} {Z : State} {a0 : Array Value} {h : Heap} (hZ : Z.Warmed39 s.vm) (hw : ∀ d ∈ words, d.before a0 Z = true) {kI : Nat} (wi : (Jvm.Cond.instantiable ST kI).before a0 Z = true)
    {x b : Addr} {k : ClassId} {zn z : Int32} {cs : List Int32} {dv v0 c0 : Value} (E : RoadKit.Exa Z h x ST) (V : RoadKit.Fld Z h x ST "value" "[B" v0) (C : RoadKit.Fld Z h x ST "coder" "B" c0) (K : RoadKit.Arv Z h b k .char zn (cs.map Value.int) dv) (S : RoadKit.Sta Z h ST "COMPACT_STRINGS" "Z" (.int z)) (hz : ¬ z = 0)
    (hlen : zn.toNatClampNeg = cs.length) (h0 : 0 < cs.length) (hbig : cs.length ≤ 536870912) (hall : ∀ c ∈ cs, ¬ 255 < c) (hfr : 4 ≤ R.frames) (hlo : W + 65 ≤ R.locals) :
    Back l R p e below s args New1.yN len W (fun P a => a = #[.ref x, .ref b] ∧ P.U.heap = h ∧ P.cells + 1 ≤ R.cells ∧ P.slots + cs.length ≤ R.slots)
      (fun P _ v B => ∃ L, QA Z x zn cs h v B.U.heap L ∧ B.locs = P.locs ++ L ∧ B.cells = P.cells + 1 ∧ B.slots = P.slots + cs.length) := by
  obtain ⟨A, K1, K2, K3, K4, K5, K6⟩ := K
  have e : A.slots.size = cs.length := K3.trans hlen
  have hat : ∀ (i : Nat) (hi : i < cs.length), A.slots[i]? = some (.int cs[i]) := fun i hi => by rw [K5 i (by omega)]; simp [List.getD_eq_getElem?_getD, hi]
  have hcv : ∀ (i : Nat) (hi : i < cs.length), cv A i = cs[i] := fun i hi => by unfold cv; rw [hat i hi]
  have hty : Typed .char A := fun i v hv => by
    have hi : i < A.slots.size := (Array.getElem?_eq_some_iff.mp hv).1
    have q := K5 i hi
    rw [hv] at q
    rw [Option.some.inj q]
    exact K6 i hi
  refine Back.mono (back hZ hw wi E V C K1 hty S hz (by omega) (by omega) (fun i hi => by rw [hcv i (by omega)]; exact hall _ (List.getElem_mem _)) hfr hlo) (fun P a hp => ⟨hp.1, hp.2.1, hp.2.2.1, by rw [e]; exact hp.2.2.2⟩) (fun P a v B hp hq => ?_)
  obtain ⟨L, ⟨q1, q2, q3, q4, q5, q6, q7, ⟨V', v1, v2, v3, v4, v5⟩, q9⟩, hl, hc, hs⟩ := hq
  refine ⟨L, ⟨q1, q2, q3, q4, q5, q6, q7, ⟨V'.cls, v3, V', v1, rfl, by rw [v4, e, hlen], K4, fun i hi => ?_, fun i hi => ?_⟩, q9⟩, hl, hc, by rw [hs, e]⟩
  · have hi' : i < cs.length := by omega
    rw [v5 i (by omega), hcv i hi']; simp [List.getD_eq_getElem?_getD, hi']
  · have hi' : i < cs.length := by omega
    simp only [List.getD_eq_getElem?_getD, List.getElem?_map, List.getElem?_eq_getElem hi', Option.map_some, Option.getD_some]
    exact fits_lo8 _
end StrChars.Road
namespace StrChars.Road
open Jvm Sem ClassFile Op Lib Jvm.Stand Jvm.Free Jvm.Free.XT
/-- WHAT COMES BACK, in the writer's own shape -/
def QV (Z : State) (x : Addr) (N : Int32) (bs : List Int32) (h : Heap) (n0 : Nat) (v : Option Value) (h' : Heap) (L : List Loc) : Prop := v = none ∧ RoadKit.Fr n0 L ∧ RoadKit.Keep h h' [x] ∧ RoadKit.Exa Z h' x ST ∧ RoadKit.Fld Z h' x ST "coder" "B" (.int 0) ∧
  ∃ (t : Addr) (kb : ClassId), n0 ≤ t ∧ h.size ≤ t ∧ ¬ t = x ∧ RoadKit.Fld Z h' x ST "value" "[B" (.ref t) ∧ RoadKit.Arv Z h' t kb .byte N (bs.map Value.int) (.int 0)
/-- **new String(chars) AT A CALL, FOR THE WRITER**: a char[] of n known ints, each 0 to 255 -/
theorem backV {p : Program} {l : Launch} {e : Env} {R : Room} {s : State} {args : Array Value} {below : List Frame} {len W : Nat} {Z : State} {a0 : Array Value} {h : Heap} (hZ : Z.Warmed39 s.vm) (hw : ∀ d ∈ words, d.before a0 Z = true) {kI : Nat} (wi : (Jvm.Cond.instantiable ST kI).before a0 Z = true)
    {x b : Addr} {kC : ClassId} {cs bs : List Int32} {d v0 c0 : Value} {z N : Int32} {n n0 : Nat} (hx0 : n0 ≤ x) (hh0 : n0 ≤ h.size) (E : RoadKit.Exa Z h x ST) (V : RoadKit.Fld Z h x ST "value" "[B" v0) (C : RoadKit.Fld Z h x ST "coder" "B" c0) (K : RoadKit.Arv Z h b kC .char N (cs.map Value.int) d) (S : RoadKit.Sta Z h ST "COMPACT_STRINGS" "Z" (.int z)) (hz : ¬ z = 0)
    (hn : cs.length = n) (hN : N = Int32.ofNat n) (l0 : 0 < n) (l2 : n ≤ 4000) (hp : ∀ c ∈ cs, ¬ c < 0 ∧ ¬ (255 : Int32) < c) (hb : bs = cs.map (fun c => c.toInt8.toInt32)) (hfr : 4 ≤ R.frames) (hlo : W + 65 ≤ R.locals) :
    Back l R p e below s args (⟨"java/lang/String", "<init>", "([C)V"⟩ : MethodName) len W (fun P a => a = #[.ref x, .ref b] ∧ P.U.heap = h ∧ P.cells + 1 ≤ R.cells ∧ P.slots + n ≤ R.slots)
      (fun P _ v B => ∃ L, QV Z x N bs h n0 v B.U.heap L ∧ B.locs = P.locs ++ L ∧ B.cells = P.cells + 1 ∧ B.slots = P.slots + n) := by
  subst hn hN hb
  refine Back.mono (backArv hZ hw wi E V C K S hz (n32 (by omega)) l0 (by omega) (fun c hc => (hp c hc).2) hfr hlo) (fun P a hp => hp) (fun P a v B hp hq => ?_)
  obtain ⟨L, ⟨q1, q2, q3, q4, q5, q6, q7, ⟨kb, v1, v2⟩, q9⟩, hl, hc, hs⟩ := hq
  exact ⟨L, ⟨q1, fun y hy => by rw [q2 y hy]; exact hx0, q3, q5, q7, h.size, kb, hh0, Nat.le_refl _, Nat.ne_of_gt E.lt, q6, by rw [List.map_map]; exact v2⟩, hl, hc, hs⟩
end StrChars.Road
namespace StrChars
open Jvm Sem ClassFile Op Lib Jvm.Stand Jvm.Free.XT Jvm.Free.ALB Jvm.Free.JM Jvm.Free
open Jvm.Lib.Cold (StaticIs)
def hi8 (x : Int32) : Int32 := lo8 (x >>> ((8 : Int32) &&& 31))
/-- what StringUTF16.getChar makes of two bytes -/
def pairCh (u v : Int32) : Int32 := (((u &&& 255) <<< ((0 : Int32) &&& 31)) ||| ((v &&& 255) <<< ((8 : Int32) &&& 31))).toUInt32.toUInt16.toUInt32.toInt32
theorem shr0 (c : Int32) : c >>> ((0 : Int32) &&& 31) = c := by
  have e : ((0 : Int32) &&& 31) = 0 := by decide
  rw [e]
  apply Int32.toBitVec_inj.mp
  rw [Int32.toBitVec_shiftRight]
  have e1 : ((0 : Int32).toBitVec.smod 32) = 0#32 := by decide
  rw [e1, BitVec.sshiftRight_eq']
  exact BitVec.sshiftRight_zero
theorem lo8_and (x : Int32) : (lo8 x &&& 255).toBitVec.toNat = x.toBitVec.toNat % 256 := by
  have h : (lo8 x).toBitVec = (x.toBitVec.signExtend 8).signExtend 32 := by rw [lo8, Int8.toBitVec_toInt32, Int32.toBitVec_toInt8]
  rw [Int32.toBitVec_and, BitVec.toNat_and, h]
  have e : ((x.toBitVec.signExtend 8).signExtend 32).toNat % 256 = x.toBitVec.toNat % 256 := by
    rw [BitVec.toNat_signExtend]
    have hlt := x.toBitVec.isLt
    simp only [BitVec.toNat_setWidth, BitVec.toNat_signExtend]
    split <;> split <;> omega
  rw [← e]
  exact Nat.and_two_pow_sub_one_eq_mod _ 8
theorem pair_says {c : Int32} (h0 : ¬ c < 0) (h1 : ¬ 65535 < c) : pairCh (lo8 c) (hi8 c) = c := by
  rw [Int32.lt_iff_toInt_lt] at h0 h1
  have e0 : (0 : Int32).toInt = 0 := rfl
  have e1 : (65535 : Int32).toInt = 65535 := rfl
  have hc : c.toInt = c.toBitVec.toNat := by
    have := c.toBitVec.isLt
    have e : c.toInt = c.toBitVec.toInt := rfl
    rw [e] at h0 h1
    rw [e]
    rw [BitVec.toInt_eq_toNat_cond] at h0 h1 ⊢
    split at h0 <;> split <;> omega
  have hn : c.toBitVec.toNat < 65536 := by omega
  have a1 := lo8_and c
  have a2 : (hi8 c &&& 255).toBitVec.toNat = c.toBitVec.toNat / 256 := by
    rw [hi8, lo8_and]
    have e : ((8 : Int32) &&& 31) = 8 := by decide
    rw [e, Int32.toBitVec_shiftRight]
    have e2 : ((8 : Int32).toBitVec.smod 32) = 8#32 := by decide
    rw [e2, BitVec.sshiftRight_eq', BitVec.toNat_sshiftRight_of_msb_false (by rw [BitVec.msb_eq_false_iff_two_mul_lt]; omega)]
    show c.toBitVec.toNat >>> 8 % 256 = _
    rw [Nat.shiftRight_eq_div_pow]
    omega
  unfold pairCh
  apply Int32.toBitVec_inj.mp
  apply BitVec.eq_of_toNat_eq
  have f0 : ((0 : Int32) &&& 31) = 0 := by decide
  have f8 : ((8 : Int32) &&& 31) = 8 := by decide
  rw [f0, f8]
  have g : (((lo8 c &&& 255) <<< (0 : Int32)) ||| ((hi8 c &&& 255) <<< (8 : Int32))).toBitVec.toNat = c.toBitVec.toNat := by
    rw [Int32.toBitVec_or, Int32.toBitVec_shiftLeft, Int32.toBitVec_shiftLeft]
    have s0 : ((0 : Int32).toBitVec.smod 32) = 0#32 := by decide
    have s8 : ((8 : Int32).toBitVec.smod 32) = 8#32 := by decide
    rw [s0, s8, BitVec.toNat_or]
    simp only [BitVec.shiftLeft_eq', BitVec.toNat_shiftLeft, a1, a2]
    show (c.toBitVec.toNat % 256) <<< 0 % 2 ^ 32 ||| (c.toBitVec.toNat / 256) <<< 8 % 2 ^ 32 = _
    rw [Nat.shiftLeft_zero, Nat.mod_eq_of_lt (show c.toBitVec.toNat % 256 < 2 ^ 32 by omega), Nat.mod_eq_of_lt (show (c.toBitVec.toNat / 256) <<< 8 < 2 ^ 32 by rw [Nat.shiftLeft_eq]; omega), Nat.or_comm, ← Nat.shiftLeft_add_eq_or_of_lt (by omega), Nat.shiftLeft_eq]
    omega
  show BitVec.toNat (((((lo8 c &&& 255) <<< (0 : Int32)) ||| ((hi8 c &&& 255) <<< (8 : Int32))).toBitVec.setWidth 16).setWidth 32) = _
  rw [BitVec.toNat_setWidth, BitVec.toNat_setWidth, g]
  omega
end StrChars
namespace StrChars
open Jvm Sem ClassFile Op Lib Jvm.Stand Jvm.Free.XT Jvm.Free.ALB Jvm.Free.JM Jvm.Free
open Jvm.Lib.Cold (StaticIs)
theorem shr1 {n : Nat} (h : 2 * n < 2 ^ 31) : Int32.ofNat (2 * n) >>> ((1 : Int32) &&& 31) = Int32.ofNat n := by
  have e : ((1 : Int32) &&& 31) = 1 := by decide
  rw [e]
  apply Int32.toBitVec_inj.mp
  rw [Int32.toBitVec_shiftRight]
  have e1 : ((1 : Int32).toBitVec.smod 32) = 1#32 := by decide
  have hm : (BitVec.ofNat 32 (2 * n)).toNat = 2 * n := by rw [BitVec.toNat_ofNat, Nat.mod_eq_of_lt (by omega)]
  rw [e1, BitVec.sshiftRight_eq']
  apply BitVec.eq_of_toNat_eq
  show ((BitVec.ofNat 32 (2 * n)).sshiftRight 1).toNat = (BitVec.ofNat 32 n).toNat
  rw [BitVec.toNat_sshiftRight_of_msb_false (by rw [BitVec.msb_eq_false_iff_two_mul_lt, hm]; omega), hm, BitVec.toNat_ofNat, Nat.shiftRight_eq_div_pow]
  omega
/-- charAt's cast of a byte read back -/
def chr8 (u : Int32) : Int32 := (u &&& 255).toUInt32.toUInt16.toUInt32.toInt32
theorem chr8_lo8 {c : Int32} (h0 : ¬ c < 0) (h1 : ¬ 255 < c) : chr8 (lo8 c) = c := by
  have t : ∀ k : Fin 256, (Int32.ofNat k.val).toUInt32.toUInt16.toUInt32.toInt32 = Int32.ofNat k.val := by decide +kernel
  unfold chr8
  rw [lo8_mask h0 h1]
  rw [Int32.lt_iff_toInt_lt] at h0 h1
  have e0 : (0 : Int32).toInt = 0 := rfl
  have e1 : (255 : Int32).toInt = 255 := rfl
  obtain ⟨k, hk⟩ : ∃ k : Nat, c.toInt = k := ⟨c.toInt.toNat, by omega⟩
  have hx : c = Int32.ofNat k := Int32.toInt_inj.mp (by rw [hk, Int32.toInt_ofNat_small (by omega)])
  rw [hx]
  exact t ⟨k, by omega⟩
theorem narrow_ch {c : Int32} (h0 : ¬ c < 0) (h1 : ¬ 65535 < c) : narrow .char (.int c) = .int c := by
  have q : narrow .char (.int (pairCh (lo8 c) (hi8 c))) = .int (pairCh (lo8 c) (hi8 c)) := narrow_c _
  rwa [pair_says h0 h1] at q
/-- the array's cell V codes the n chars f 0 .. f (n - 1) by the coder cd, as the JDK does: coder 1 just where some char is above 255 -/
def Cod (cd : Int32) (n : Nat) (f : Nat → Int32) (V : Cell) : Prop := (cd = 0 ∧ V.slots.size = n ∧ ∀ j, j < n → V.slots[j]? = some (.int (lo8 (f j))) ∧ ¬ 255 < f j) ∨ (cd = 1 ∧ V.slots.size = 2 * n ∧ (∀ j, j < n → V.slots[2 * j]? = some (.int (lo8 (f j))) ∧ V.slots[2 * j + 1]? = some (.int (hi8 (f j)))) ∧ ∃ j, j < n ∧ 255 < f j)
theorem Cod.cd {cd : Int32} {n : Nat} {f : Nat → Int32} {V : Cell} (h : Cod cd n f V) : cd = 0 ∨ cd = 1 := h.imp (fun q => q.1) fun q => q.1
theorem Cod.len {cd : Int32} {n : Nat} {f : Nat → Int32} {V : Cell} (h : Cod cd n f V) (hs : V.slots.size < 2 ^ 31) : Int32.ofNat V.slots.size >>> (cd &&& 31) = Int32.ofNat n := by
  rcases h with ⟨rfl, h, -⟩ | ⟨rfl, h, -⟩
  · rw [shr0, h]
  · rw [h, shr1 (by omega)]
/-- **x is a String of the n chars f 0 .. f (n - 1)**, Latin-1 or UTF-16; its array at t has the cell V -/
def Txt (x t : Addr) (V : Cell) (cd : Int32) (n : Nat) (f : Nat → Int32) (U : State) : Prop := Exact "java/lang/String" x U ∧ Has x "java/lang/String" "value" "[B" (.ref t) U ∧ Has x "java/lang/String" "coder" "B" (.int cd) U ∧ XT.Arr .byte t V U ∧ Cod cd n f V ∧ ∀ j, j < n → ¬ f j < 0 ∧ ¬ 65535 < f j
theorem Txt.mv {x t : Addr} {V : Cell} {cd : Int32} {n : Nat} {f : Nat → Int32} {U U' : State} (h : Txt x t V cd n f U) (hal : U.vm.Alike U'.vm) (hh : U'.heap = U.heap) : Txt x t V cd n f U' := ⟨h.1.mv hal hh, h.2.1.mv hal hh, h.2.2.1.mv hal hh, h.2.2.2.1.mv hal hh, h.2.2.2.2⟩
namespace Cdr
def yN : MethodName := ⟨"java/lang/String", "coder", "()B"⟩
abbrev yB : ByteArray := jdk_42_method_152_code
theorem d0 : decode yB 0 = .ok (.getstatic 38, 3) := by decide +kernel
theorem d3 : decode yB 3 = .ok (.ifCond (.eq) 10, 3) := by decide +kernel
theorem d6 : decode yB 6 = .ok (.aload_n 0, 1) := by decide +kernel
theorem d7 : decode yB 7 = .ok (.getfield 15, 3) := by decide +kernel
theorem d10 : decode yB 10 = .ok (.goto 4, 3) := by decide +kernel
theorem d14 : decode yB 14 = .ok (.ireturn, 1) := by decide +kernel
def site : List Cond := [.fieldLink "java/lang/String" 38 "java/lang/String" "COMPACT_STRINGS" "Z", .fieldLink "java/lang/String" 15 "java/lang/String" "coder" "B"]
def tab : Cond := tabOf yN yB 1 (some .byte) site
def P (x : Addr) (cd z : Int32) (args : Array Value) (s : State) : Prop := args = #[.ref x] ∧ Has x "java/lang/String" "coder" "B" (.int cd) s ∧ (cd = 0 ∨ cd = 1) ∧ StaticIs s "java/lang/String" "COMPACT_STRINGS" "Z" (.int z) ∧ ¬ z = 0
def E (cd : Int32) (r : Option Value) (s u : State) : Prop := XT.PureE (some (.int cd)) r s u
theorem law (l : Launch) (x : Addr) (cd z : Int32) : Law l yN 1 0 0 0 yB 1 (some .byte) site (P x cd z) (E cd) [] 0 0 := by
  refine Law.of_walk (plainFor_of_name (by decide +kernel)) (by decide +kernel) (by decide +kernel) (by decide) (fun _ _ h => by rw [h.1]; rfl) (fun _ U U' hal hh h => ⟨h.1, h.2.1.mv hal hh, h.2.2.1, h.2.2.2.1.there hal hh, h.2.2.2.2⟩) (fun r U U' V V' h1 hal h2 h => XT.PureE.mv r U U' V V' h1 hal h2 h) ?_
  intro p e s m args below meth c s₁ X0 hexec hbytes hml hret hlk hnm hown hh0 W hP
  obtain ⟨rfl, hx, hc, s1, hz⟩ := hP
  have c1 : Steps p.tables e below (s₁.setTop (entryFrame m #[.ref x] 1)) (s₁.setTop (mkF m 0 #[.val (.ref x)] [])) := entry rfl
  obtain ⟨T2, X2, q2, st2⟩ := X0.sget hexec hown (wk W (.fieldLink "java/lang/String" 38 "java/lang/String" "COMPACT_STRINGS" "Z")) s1 (fun _ _ h => by rw [hh0]; exact h) (g := (mkF m 0 #[.val (.ref x)] [])) rfl (hb hbytes d0)
  have hh2 := q2.trans hh0
  have c3 : Steps p.tables e below (s₁.setTop (entryFrame m #[.ref x] 1)) (T2.setTop (mkF m 7 #[.val (.ref x)] [.ref x])) := (c1.trans (st2 _ (Steps.refl _))).trans (by
    refine XS.ifNo X2.here hexec rfl (hb hbytes d3) rfl (i0_eq_f hz) ?_
    refine XS.aloadN X2.here hexec rfl (hb hbytes d6) rfl rfl ?_
    exact Steps.refl _)
  obtain ⟨T4, X4, q4, st4⟩ := X2.hget hexec hown (wk W (.fieldLink "java/lang/String" 15 "java/lang/String" "coder" "B")) (hx.mv X2.warmed.alike hh2) (g := (mkF m 7 #[.val (.ref x)] [.ref x])) rfl (rest := []) rfl (hb hbytes d7)
  have c5 : Steps p.tables e below (s₁.setTop (entryFrame m #[.ref x] 1)) (T4.setTop (mkF m 14 #[.val (.ref x)] [.int cd])) := (c3.trans (st4 _ (Steps.refl _))).trans (by
    refine XS.goto X4.here hexec rfl (pc0 := 10) rfl (hb hbytes d10) (by decide) rfl ?_
    exact Steps.refl _)
  exact ⟨T4, some (.int cd), _, _, _, X4, rfl, rfl, rfl, (fun h => by cases h), ⟨rfl, q4.trans hh2⟩, fun fs hl => c5.trans (X4.ireturnOut hexec hret (by rcases hc with rfl | rfl <;> rfl) (Or.inr (Or.inr (Or.inl rfl))) (hb hbytes d14) hl)⟩
end Cdr
namespace Len
def yN : MethodName := ⟨"java/lang/String", "length", "()I"⟩
abbrev yB : ByteArray := jdk_42_method_54_code
theorem d0 : decode yB 0 = .ok (.aload_n 0, 1) := by decide +kernel
theorem d1 : decode yB 1 = .ok (.getfield 9, 3) := by decide +kernel
theorem d4 : decode yB 4 = .ok (.arraylength, 1) := by decide +kernel
theorem d5 : decode yB 5 = .ok (.aload_n 0, 1) := by decide +kernel
theorem d6 : decode yB 6 = .ok (.invokevirtual 335, 3) := by decide +kernel
theorem d9 : decode yB 9 = .ok (.ishr, 1) := by decide +kernel
theorem d10 : decode yB 10 = .ok (.ireturn, 1) := by decide +kernel
def site : List Cond := [.fieldLink "java/lang/String" 9 "java/lang/String" "value" "[B", Cdr.tab] ++ virtW "java/lang/String" 335 "java/lang/String" Cdr.yN Cdr.yN
def tab : Cond := tabOf yN yB 1 (some .int) site
def P (x t : Addr) (V : Cell) (cd : Int32) (n : Nat) (f : Nat → Int32) (z : Int32) (args : Array Value) (s : State) : Prop := args = #[.ref x] ∧ Txt x t V cd n f s ∧ StaticIs s "java/lang/String" "COMPACT_STRINGS" "Z" (.int z) ∧ ¬ z = 0
def E (n : Nat) (r : Option Value) (s u : State) : Prop := XT.PureE (some (.int (Int32.ofNat n))) r s u
/-- length() of a String of n chars, in either coding -/
theorem law (l : Launch) (x t : Addr) (V : Cell) (cd : Int32) (n : Nat) (f : Nat → Int32) (z : Int32) : Law l yN 1 0 1 13 yB 1 (some .int) site (P x t V cd n f z) (E n) [] 0 0 := by
  refine Law.of_walk (plainFor_of_name (by decide +kernel)) (by decide +kernel) (by decide +kernel) (by decide) (fun _ _ h => by rw [h.1]; rfl) (fun _ U U' hal hh h => ⟨h.1, h.2.1.mv hal hh, h.2.2.1.there hal hh, h.2.2.2⟩) (fun r U U' V V' h1 hal h2 h => XT.PureE.mv r U U' V V' h1 hal h2 h) ?_
  intro p e s m args below meth c s₁ X0 hexec hbytes hml hret hlk hnm hown hh0 W hP
  obtain ⟨rfl, hx, s1, hz⟩ := hP
  have v31 := hx.2.2.2.1.2.2.2
  have c1 : Steps p.tables e below (s₁.setTop (entryFrame m #[.ref x] 1)) (s₁.setTop (mkF m 1 #[.val (.ref x)] [.ref x])) := Steps.trans (entry rfl) (by
    show Steps p.tables e below (s₁.setTop (mkF m 0 #[.val (.ref x)] [])) _
    refine XS.aloadN X0.here hexec rfl (hb hbytes d0) rfl rfl ?_
    exact Steps.refl _)
  obtain ⟨T2, X2, q2, st2⟩ := X0.hget hexec hown (wk W (.fieldLink "java/lang/String" 9 "java/lang/String" "value" "[B")) (hx.mv X0.warmed.alike hh0).2.1 (g := (mkF m 1 #[.val (.ref x)] [.ref x])) rfl (rest := []) rfl (hb hbytes d1)
  have hh2 := q2.trans hh0
  have hx2 := hx.mv X2.warmed.alike hh2
  have c3 : Steps p.tables e below (s₁.setTop (entryFrame m #[.ref x] 1)) (T2.setTop (mkF m 6 #[.val (.ref x)] [.ref x, .int (Int32.ofNat V.slots.size)])) := (c1.trans (st2 _ (Steps.refl _))).trans (by
    refine X2.alen hexec hx2.2.2.2.1 rfl rfl (hb hbytes d4) ?_
    refine XS.aloadN X2.here hexec rfl (hb hbytes d5) rfl rfl ?_
    exact Steps.refl _)
  obtain ⟨v4, T4, X4, E4, g4⟩ := X2.callV hexec (Cdr.law l x cd z) hown (wks W (virtW "java/lang/String" 335 "java/lang/String" Cdr.yN Cdr.yN)) rfl (by decide) (wk W Cdr.tab) (W := 1) (Nat.le_of_ble_eq_true rfl) (Nat.le_of_ble_eq_true rfl) (Nat.le_refl _) (Nat.le_refl _) (hx2.1.fc X2.warmed.alike) hx2.1.is (g := (mkF m 6 #[.val (.ref x)] [.ref x, .int (Int32.ofNat V.slots.size)])) rfl (by rw [hml]; rfl) c3 (argsL := []) (rest := [.int (Int32.ofNat V.slots.size)]) rfl rfl (by show 2 * 0 + (1 + 0) ≤ _; decide) (hb hbytes d6) (⟨rfl, hx2.2.2.1, hx.2.2.2.2.1.cd, s1.there X2.warmed.alike hh2, hz⟩)
  obtain ⟨rfl, q4⟩ := E4
  have c5 : Steps p.tables e below (s₁.setTop (entryFrame m #[.ref x] 1)) (T4.setTop (mkF m 10 #[.val (.ref x)] [.int (Int32.ofNat V.slots.size >>> (cd &&& 31))])) := Steps.trans g4 (by
    refine ishr X4.here hexec rfl (hb hbytes d9) rfl ?_
    exact Steps.refl _)
  rw [hx.2.2.2.2.1.len v31] at c5
  exact ⟨T4, some (.int (Int32.ofNat n)), _, _, _, X4, rfl, rfl, rfl, (fun h => by cases h), ⟨rfl, q4.trans hh2⟩, fun fs hl => c5.trans (X4.ireturnOut hexec hret rfl (Or.inl rfl) (hb hbytes d10) hl)⟩
theorem pays {l : Launch} {R : Room} {p : Program} {e : Env} {below : List Frame} {s : State} {sargs : Array Value} {len W : Nat} (x t : Addr) (V : Cell) (cd : Int32) (n : Nat) (f : Nat → Int32) (z : Int32) (htab : tab.before sargs s = true) (hfr : 2 ≤ R.frames) (hlo : W + 25 ≤ R.locals) :
    Back l R p e below s sargs yN len W (fun A₁ a₁ => A₁.cells + 0 ≤ R.cells ∧ A₁.slots + 0 ≤ R.slots ∧ P x t V cd n f z a₁ A₁.U) (fun A₁ _ v₁ B₁ => E n v₁ A₁.U B₁.U ∧ B₁.locs = A₁.locs ++ [] ∧ B₁.cells = A₁.cells + 0 ∧ B₁.slots = A₁.slots + 0) :=
  (law l x t V cd n f z).pays htab hfr (by omega)
end Len
namespace IsL
def yN : MethodName := ⟨"java/lang/String", "isLatin1", "()Z"⟩
abbrev yB : ByteArray := jdk_42_method_154_code
theorem d0 : decode yB 0 = .ok (.getstatic 38, 3) := by decide +kernel
theorem d3 : decode yB 3 = .ok (.ifCond (.eq) 14, 3) := by decide +kernel
theorem d6 : decode yB 6 = .ok (.aload_n 0, 1) := by decide +kernel
theorem d7 : decode yB 7 = .ok (.getfield 15, 3) := by decide +kernel
theorem d10 : decode yB 10 = .ok (.ifCond (.ne) 7, 3) := by decide +kernel
theorem d13 : decode yB 13 = .ok (.iconst 1, 1) := by decide +kernel
theorem d14 : decode yB 14 = .ok (.goto 4, 3) := by decide +kernel
theorem d17 : decode yB 17 = .ok (.iconst 0, 1) := by decide +kernel
theorem d18 : decode yB 18 = .ok (.ireturn, 1) := by decide +kernel
def site : List Cond := [.fieldLink "java/lang/String" 38 "java/lang/String" "COMPACT_STRINGS" "Z", .fieldLink "java/lang/String" 15 "java/lang/String" "coder" "B"]
def tab : Cond := tabOf yN yB 1 (some .boolean) site
def P (x : Addr) (cd z : Int32) (args : Array Value) (s : State) : Prop := args = #[.ref x] ∧ Has x "java/lang/String" "coder" "B" (.int cd) s ∧ (cd = 0 ∨ cd = 1) ∧ StaticIs s "java/lang/String" "COMPACT_STRINGS" "Z" (.int z) ∧ ¬ z = 0
def E (cd : Int32) (r : Option Value) (s u : State) : Prop := XT.PureE (some (.int (1 - cd))) r s u
theorem law (l : Launch) (x : Addr) (cd z : Int32) : Law l yN 1 0 0 0 yB 1 (some .boolean) site (P x cd z) (E cd) [] 0 0 := by
  refine Law.of_walk (plainFor_of_name (by decide +kernel)) (by decide +kernel) (by decide +kernel) (by decide) (fun _ _ h => by rw [h.1]; rfl) (fun _ U U' hal hh h => ⟨h.1, h.2.1.mv hal hh, h.2.2.1, h.2.2.2.1.there hal hh, h.2.2.2.2⟩) (fun r U U' V V' h1 hal h2 h => XT.PureE.mv r U U' V V' h1 hal h2 h) ?_
  intro p e s m args below meth c s₁ X0 hexec hbytes hml hret hlk hnm hown hh0 W hP
  obtain ⟨rfl, hx, hc, s1, hz⟩ := hP
  have c1 : Steps p.tables e below (s₁.setTop (entryFrame m #[.ref x] 1)) (s₁.setTop (mkF m 0 #[.val (.ref x)] [])) := entry rfl
  obtain ⟨T2, X2, q2, st2⟩ := X0.sget hexec hown (wk W (.fieldLink "java/lang/String" 38 "java/lang/String" "COMPACT_STRINGS" "Z")) s1 (fun _ _ h => by rw [hh0]; exact h) (g := (mkF m 0 #[.val (.ref x)] [])) rfl (hb hbytes d0)
  have hh2 := q2.trans hh0
  have c3 : Steps p.tables e below (s₁.setTop (entryFrame m #[.ref x] 1)) (T2.setTop (mkF m 7 #[.val (.ref x)] [.ref x])) := (c1.trans (st2 _ (Steps.refl _))).trans (by
    refine XS.ifNo X2.here hexec rfl (hb hbytes d3) rfl (i0_eq_f hz) ?_
    refine XS.aloadN X2.here hexec rfl (hb hbytes d6) rfl rfl ?_
    exact Steps.refl _)
  obtain ⟨T4, X4, q4, st4⟩ := X2.hget hexec hown (wk W (.fieldLink "java/lang/String" 15 "java/lang/String" "coder" "B")) (hx.mv X2.warmed.alike hh2) (g := (mkF m 7 #[.val (.ref x)] [.ref x])) rfl (rest := []) rfl (hb hbytes d7)
  have c5 : Steps p.tables e below (s₁.setTop (entryFrame m #[.ref x] 1)) (T4.setTop (mkF m 10 #[.val (.ref x)] [.int cd])) := c3.trans (st4 _ (Steps.refl _))
  have c6 : Steps p.tables e below (s₁.setTop (entryFrame m #[.ref x] 1)) (T4.setTop (mkF m 18 #[.val (.ref x)] [.int (1 - cd)])) := by
    rcases hc with rfl | rfl
    · exact c5.trans (by
        refine XS.ifNo X4.here hexec rfl (hb hbytes d10) rfl (i0_ne_f rfl) ?_
        refine iconstV X4.here hexec rfl 1 (hb hbytes d13) (by decide) ?_
        refine XS.goto X4.here hexec rfl (pc0 := 14) rfl (hb hbytes d14) (by decide) rfl ?_
        exact Steps.refl _)
    · exact c5.trans (by
        refine XS.ifYes X4.here hexec rfl (pc0 := 10) rfl (hb hbytes d10) rfl (i0_ne_t (by decide)) (by decide) rfl ?_
        refine iconstV X4.here hexec rfl 0 (hb hbytes d17) (by decide) ?_
        exact Steps.refl _)
  exact ⟨T4, some (.int (1 - cd)), _, _, _, X4, rfl, rfl, rfl, (fun h => by cases h), ⟨rfl, q4.trans hh2⟩, fun fs hl => c6.trans (X4.ireturnOut hexec hret (by rcases hc with rfl | rfl <;> rfl) (Or.inr (Or.inl rfl)) (hb hbytes d18) hl)⟩
end IsL
namespace LChA
def yN : MethodName := ⟨"java/lang/StringLatin1", "charAt", "([BI)C"⟩
abbrev yB : ByteArray := jdk_43_method_2_code
theorem d0 : decode yB 0 = .ok (.iload_n 1, 1) := by decide +kernel
theorem d1 : decode yB 1 = .ok (.aload_n 0, 1) := by decide +kernel
theorem d2 : decode yB 2 = .ok (.arraylength, 1) := by decide +kernel
theorem d3 : decode yB 3 = .ok (.invokestatic 9, 3) := by decide +kernel
theorem d6 : decode yB 6 = .ok (.aload_n 0, 1) := by decide +kernel
theorem d7 : decode yB 7 = .ok (.iload_n 1, 1) := by decide +kernel
theorem d8 : decode yB 8 = .ok (.baload, 1) := by decide +kernel
theorem d9 : decode yB 9 = .ok (.sipush 255, 3) := by decide +kernel
theorem d12 : decode yB 12 = .ok (.iand, 1) := by decide +kernel
theorem d13 : decode yB 13 = .ok (.i2c, 1) := by decide +kernel
theorem d14 : decode yB 14 = .ok (.ireturn, 1) := by decide +kernel
def site : List Cond := [JO.Str_checkIndex.tab] ++ staticW "java/lang/StringLatin1" 9 JO.Str_checkIndex.yN
def tab : Cond := tabOf yN yB 2 (some .char) site
def P (t : Addr) (V : Cell) (i : Nat) (u : Int32) (fm : Value) (args : Array Value) (s : State) : Prop := args = #[.ref t, .int (Int32.ofNat i)] ∧ XT.Arr .byte t V s ∧ V.slots[i]? = some (.int u) ∧ (StaticIs s "jdk/internal/util/Preconditions" "SIOOBE_FORMATTER" "Ljava/util/function/BiFunction;" fm ∧ fm.isRef = true)
def E (u : Int32) (r : Option Value) (s w : State) : Prop := XT.PureE (some (.int (chr8 u))) r s w
theorem law (l : Launch) (t : Addr) (V : Cell) (i : Nat) (u : Int32) (fm : Value) : Law l yN 2 2 2 27 yB 2 (some .char) site (P t V i u fm) (E u) [] 0 0 := by
  refine Law.of_walk (plainFor_of_name (by decide +kernel)) (by decide +kernel) (by decide +kernel) (by decide) (fun _ _ h => by rw [h.1]; rfl) (fun _ U U' hal hh h => ⟨h.1, h.2.1.mv hal hh, h.2.2.1, h.2.2.2.1.there hal hh, h.2.2.2.2⟩) (fun r U U' V V' h1 hal h2 h => XT.PureE.mv r U U' V V' h1 hal h2 h) ?_
  intro p e s m args below meth c s₁ X0 hexec hbytes hml hret hlk hnm hown hh0 W hP
  obtain ⟨rfl, hV, hu, s1, rf⟩ := hP
  have v31 := hV.2.2.2
  have hi : i < V.slots.size := (Array.getElem?_eq_some_iff.mp hu).1
  have c1 : Steps p.tables e below (s₁.setTop (entryFrame m #[.ref t, .int (Int32.ofNat i)] 2)) (s₁.setTop (mkF m 0 #[.val (.ref t), .val (.int (Int32.ofNat i))] [])) := entry rfl
  have c2 : Steps p.tables e below (s₁.setTop (entryFrame m #[.ref t, .int (Int32.ofNat i)] 2)) (s₁.setTop (mkF m 3 #[.val (.ref t), .val (.int (Int32.ofNat i))] [.int (Int32.ofNat V.slots.size), .int (Int32.ofNat i)])) := c1.trans (by
    refine XS.iloadN X0.here hexec rfl (hb hbytes d0) rfl ?_
    refine XS.aloadN X0.here hexec rfl (hb hbytes d1) rfl rfl ?_
    refine X0.alen hexec (hV.mv X0.warmed.alike hh0) rfl rfl (hb hbytes d2) ?_
    exact Steps.refl _)
  obtain ⟨v3, T3, X3, E3, g3⟩ := X0.callS hexec (JO.Str_checkIndex.law l (Int32.ofNat i) (Int32.ofNat V.slots.size) fm) hown (wks W (staticW "java/lang/StringLatin1" 9 JO.Str_checkIndex.yN)) (wk W JO.Str_checkIndex.tab) (W := 0) (Nat.le_of_ble_eq_true rfl) (Nat.le_of_ble_eq_true rfl) (Nat.le_refl _) (Nat.le_refl _) (g := (mkF m 3 #[.val (.ref t), .val (.int (Int32.ofNat i))] [.int (Int32.ofNat V.slots.size), .int (Int32.ofNat i)])) rfl (by rw [hml]; rfl) c2 (argsL := [.int (Int32.ofNat i), .int (Int32.ofNat V.slots.size)]) (rest := []) rfl rfl (by show 2 * 0 + 0 ≤ _; decide) (hb hbytes d3) (⟨rfl, rf, s1.there X0.warmed.alike hh0, Int32.ofNat_not_neg (by omega), lt32 v31 hi⟩)
  obtain ⟨rfl, q3⟩ := E3
  have hh3 := q3.trans hh0
  have c4 : Steps p.tables e below (s₁.setTop (entryFrame m #[.ref t, .int (Int32.ofNat i)] 2)) (T3.setTop (mkF m 14 #[.val (.ref t), .val (.int (Int32.ofNat i))] [.int (chr8 u)])) := Steps.trans g3 (by
    refine XS.aloadN X3.here hexec rfl (hb hbytes d6) rfl rfl ?_
    refine XS.iloadN X3.here hexec rfl (hb hbytes d7) rfl ?_
    refine X3.aget hexec (hV.mv X3.warmed.alike hh3) rfl hu rfl rfl (hb hbytes d8) ?_
    refine sipushV X3.here hexec rfl 255 (hb hbytes d9) (by decide) ?_
    refine XS.iand X3.here hexec rfl (hb hbytes d12) rfl ?_
    refine i2c X3.here hexec rfl (hb hbytes d13) rfl ?_
    exact Steps.refl _)
  exact ⟨T3, some (.int (chr8 u)), _, _, _, X3, rfl, rfl, rfl, (fun h => by cases h), ⟨rfl, hh3⟩, fun fs hl => c4.trans (X3.ireturnOut hexec hret (narrow_c _) (Or.inr (Or.inr (Or.inr (Or.inl rfl)))) (hb hbytes d14) hl)⟩
end LChA
end StrChars
namespace StrChars.Road
open Jvm Sem ClassFile Op Lib Jvm.Stand Jvm.Free Jvm.Free.XT
open Jvm.Lib.Cold (StaticIs)
theorem consq {a : Array Value} {s : State} {c : Jvm.Cond} {L : List Jvm.Cond} (h0 : c.before a s = true) (h : ∀ w ∈ L, w.before a s = true) : ∀ w ∈ c :: L, w.before a s = true := fun w hw => (List.mem_cons.mp hw).elim (fun e => e ▸ h0) (h w)
/-- the words of String.length(), either coding -/
abbrev wordsLen : List Jvm.Cond := [.code Len.yN Len.yB 1 (some .int), .initialized ST, .fieldLink ST 9 ST "value" "[B", .fieldLink ST 38 ST "COMPACT_STRINGS" "Z", .fieldLink ST 15 ST "coder" "B", .code Cdr.yN Cdr.yB 1 (some .byte), .methodLink ST 335 Cdr.yN, .declares Cdr.yN, .selects ST Cdr.yN Cdr.yN, .instanceMethod Cdr.yN]
theorem tabLen_of {a : Array Value} {s : State} (h : ∀ w ∈ wordsLen, w.before a s = true) : Len.tab.before a s = true := by
  have hc : Cdr.tab.before a s = true := unparts (wk h (.code Cdr.yN Cdr.yB 1 (some .byte))) (wks h (.initialized Cdr.yN.cls :: Cdr.site))
  have q := consq hc h
  exact unparts (wk q (.code Len.yN Len.yB 1 (some .int))) (wks q (.initialized Len.yN.cls :: Len.site))
theorem movedLen {Z s : State} {a0 args : Array Value} (hZ : Z.Warmed39 s.vm) (hw : ∀ d ∈ wordsLen, d.before a0 Z = true) : ∀ d ∈ wordsLen, d.before args s = true := fun d hd => by
  have q := hw d hd
  have t : ∀ d ∈ wordsLen, d = .arrayClass .byte ∨ (d.onTables && d.keepsFace) = true := by decide +kernel
  rcases t d hd with rfl | t
  · exact RoadKit.mvA hZ q
  · exact RoadKit.mv hZ q t
/-- the bytes of the chars cs, low before high -/
def wideBytes : List Int32 → List Value
  | [] => []
  | c :: cs => .int (lo8 c) :: .int (hi8 c) :: wideBytes cs
theorem wide_lo (d : Value) : ∀ (cs : List Int32) (j : Nat), j < cs.length → (wideBytes cs).getD (2 * j) d = .int (lo8 (cs.getD j 0))
  | [], j, h => absurd h (Nat.not_lt_zero j)
  | c :: cs, 0, _ => rfl
  | c :: cs, j + 1, h => by
    have q := wide_lo d cs j (by simpa using h)
    rw [show 2 * (j + 1) = 2 * j + 1 + 1 from by omega]
    simpa [wideBytes] using q
theorem wide_hi (d : Value) : ∀ (cs : List Int32) (j : Nat), j < cs.length → (wideBytes cs).getD (2 * j + 1) d = .int (hi8 (cs.getD j 0))
  | [], j, h => absurd h (Nat.not_lt_zero j)
  | c :: cs, 0, _ => rfl
  | c :: cs, j + 1, h => by
    have q := wide_hi d cs j (by simpa using h)
    rw [show 2 * (j + 1) + 1 = 2 * j + 1 + 1 + 1 from by omega]
    simpa [wideBytes] using q
theorem low_at (d : Value) (cs : List Int32) (j : Nat) (h : j < cs.length) : (cs.map fun c => Value.int (lo8 c)).getD j d = .int (lo8 (cs.getD j 0)) := by
  simp [List.getD_eq_getElem?_getD, h]
/-- an array of N2 bytes vs codes the chars cs by the coder cd -/
def CodA (cs : List Int32) (cd N2 : Int32) (vs : List Value) : Prop := (cd = 0 ∧ N2 = Int32.ofNat cs.length ∧ vs = (cs.map fun c => Value.int (lo8 c)) ∧ ∀ c ∈ cs, ¬ 255 < c) ∨ (cd = 1 ∧ N2 = Int32.ofNat (2 * cs.length) ∧ vs = wideBytes cs ∧ ∃ c ∈ cs, 255 < c)
theorem CodA.cod {cs : List Int32} {cd N2 : Int32} {vs : List Value} {V : Cell} (h : CodA cs cd N2 vs) (hn : 2 * cs.length < 2 ^ 31) (hs : V.slots.size = N2.toNatClampNeg) (hv : RoadKit.Has V vs (.int 0)) : Cod cd cs.length (fun j => cs.getD j 0) V := by
  rcases h with ⟨rfl, rfl, rfl, h⟩ | ⟨rfl, rfl, rfl, c, hc, hw⟩
  · rw [n32 (by omega)] at hs
    exact Or.inl ⟨rfl, hs, fun j hj => ⟨by rw [hv j (by omega), low_at _ _ _ hj], by
      have e : cs.getD j 0 = cs[j] := by simp [List.getD_eq_getElem?_getD, hj]
      show ¬ 255 < cs.getD j 0
      rw [e]; exact h _ (List.getElem_mem _)⟩⟩
  · rw [n32 (by omega)] at hs
    obtain ⟨j, hj, rfl⟩ := List.getElem_of_mem hc
    exact Or.inr ⟨rfl, hs, fun j hj => ⟨by rw [hv _ (by omega), wide_lo _ _ _ hj], by rw [hv _ (by omega), wide_hi _ _ _ hj]⟩, j, hj, by
      have e : cs.getD j 0 = cs[j] := by simp [List.getD_eq_getElem?_getD, hj]
      show 255 < cs.getD j 0
      rw [e]; exact hw⟩
/-- an object of exactly java/lang/String, its two fields found: as the laws ask it -/
theorem strObj {Z U : State} {a0 : Array Value} {kI : Nat} (wi : (Jvm.Cond.instantiable ST kI).before a0 Z = true) (al : Z.vm.Alike U.vm) {x : Addr} {v0 c0 : Value} (E : RoadKit.Exa Z U.heap x ST) (V : RoadKit.Fld Z U.heap x ST "value" "[B" v0) (C : RoadKit.Fld Z U.heap x ST "coder" "B" c0) :
    ∃ (D : Cell) (fV fC : Field), Blank ST x D U ∧ Found ST "value" "[B" fV U ∧ Found ST "coder" "B" fC U ∧ D.slots[fV.slot]? = some v0 ∧ D.slots[fC.slot]? = some c0 ∧ RoadKit.slotOf Z ST "value" "[B" = fV.slot ∧ RoadKit.slotOf Z ST "coder" "B" = fC.slot := by
  obtain ⟨D, cfV, kV, iV, fV, hD, gV, stV, knV, obV, asV, slV⟩ := V
  obtain ⟨D', cfC, kC, iC, fC, hD', gC, stC, -, -, asC, slC⟩ := C
  cases hD.symm.trans hD'
  obtain ⟨D2, kD, e1, e2, e3, e4, e5⟩ := E
  cases hD.symm.trans e1
  obtain ⟨c2, k2, i1, i2, i3, -⟩ := Cond.instantiable_spec wi
  cases e2.symm.trans i1
  cases e3.symm.trans i2
  obtain ⟨kU, u1, u2⟩ := al.2.2 _ _ e3
  exact ⟨D, fV, fC, ⟨hD, ⟨knV, fun q hq => by rw [hq] at obV; cases obV⟩, by rw [al.findClass]; exact e2, kU, u1, by rw [u2]; exact i3, by rw [u2]; exact e5 i3⟩, ⟨SBG.found_only al ⟨cfV, kV, iV, gV⟩, stV⟩, ⟨SBG.found_only al ⟨cfC, kC, iC, gC⟩, stC⟩, slV, slC, by simp [RoadKit.slotOf, gV], by simp [RoadKit.slotOf, gC]⟩
theorem sta_is {Z U : State} (al : Z.vm.Alike U.vm) {C n d : String} {v : Value} (S : RoadKit.Sta Z U.heap C n d v) : StaticIs U C n d v := by
  obtain ⟨cfS, iS, kS, fS, st, cS, t1, t2, t3, t4, t5, t6, t7⟩ := S
  exact StaticIs.there (s := { Z with heap := U.heap }) ⟨cfS, iS, kS, fS, st, cS, t1, t2, t3, t4, t5, (fun q => by rw [q] at t6; cases t6), t7⟩ al rfl
/-- **length() OF SUCH A STRING** -/
theorem lenW {p : Program} {l : Launch} {e : Env} {R : Room} {s : State} {args : Array Value} {below : List Frame} {len W : Nat} {Z : State} {a0 : Array Value} {h : Heap} (hZ : Z.Warmed39 s.vm) (hw : ∀ d ∈ wordsLen, d.before a0 Z = true) {kI : Nat} (wi : (Jvm.Cond.instantiable ST kI).before a0 Z = true)
    {x t : Addr} {kb : ClassId} {cs : List Int32} {cd N2 z : Int32} {vs : List Value} (E : RoadKit.Exa Z h x ST) (V : RoadKit.Fld Z h x ST "value" "[B" (.ref t)) (C : RoadKit.Fld Z h x ST "coder" "B" (.int cd)) (K : RoadKit.Arv Z h t kb .byte N2 vs (.int 0)) (hc : CodA cs cd N2 vs) (hb : ∀ c ∈ cs, ¬ c < 0 ∧ ¬ (65535 : Int32) < c)
    (S : RoadKit.Sta Z h ST "COMPACT_STRINGS" "Z" (.int z)) (hz : ¬ z = 0) (l2 : cs.length ≤ 4000) (hfr : 2 ≤ R.frames) (hlo : W + 25 ≤ R.locals) :
    Back l R p e below s args (⟨"java/lang/String", "length", "()I"⟩ : MethodName) len W (fun P a => a = #[.ref x] ∧ P.U.heap = h ∧ P.cells + 0 ≤ R.cells ∧ P.slots + 0 ≤ R.slots)
      (fun P _ v B => ∃ L, (v = some (.int (Int32.ofNat cs.length)) ∧ L = [] ∧ B.U.heap = h) ∧ B.locs = P.locs ++ L ∧ B.cells = P.cells + 0 ∧ B.slots = P.slots + 0) := by
  obtain ⟨A, K1, K2, K3, K4, K5, K6⟩ := K
  have hcod := hc.cod (by omega) K3 K5
  intro m meth c P g ig mk a X hg hsize hdg hW hn hp'
  obtain ⟨rfl, rfl, r1, r2⟩ := hp'
  have al : Z.vm.Alike P.U.vm := hZ.alike.trans X.warmed.alike
  obtain ⟨D, fV, fC, hB, F1, F2, g1, g2, -, -⟩ := strObj wi al E V C
  have hx : Txt x t A cd cs.length (fun j => cs.getD j 0) P.U := ⟨⟨_, hB.2.2.1, D, hB.1, rfl, by cases q : D.vm <;> first | rfl | exact absurd q (hB.2.1.2 _)⟩, Has.of hB F1 g1, Has.of hB F2 g2, ⟨K1.1, State.isArrayOf_alike al K1.2.1, K1.2.2, by rcases hcod with ⟨-, q, -⟩ | ⟨-, q, -⟩ <;> omega⟩, hcod, fun j hj => by
    have e : cs.getD j 0 = cs[j] := by simp [List.getD_eq_getElem?_getD, hj]
    show ¬ cs.getD j 0 < 0 ∧ ¬ 65535 < cs.getD j 0
    rw [e]; exact hb _ (List.getElem_mem _)⟩
  obtain ⟨v, B, X', ⟨⟨hv, hh⟩, hl, hk, hs⟩, st⟩ := Len.pays x t A cd cs.length (fun j => cs.getD j 0) z (tabLen_of (movedLen hZ hw)) hfr hlo m meth c P g ig mk _ X hg hsize hdg hW hn ⟨r1, r2, rfl, hx, sta_is al S, hz⟩
  exact ⟨v, B, X', ⟨[], ⟨hv, rfl, hh⟩, hl, hk, hs⟩, st⟩
end StrChars.Road
namespace StrChars.Road
open Jvm Sem ClassFile Op Lib Jvm.Stand Jvm.Free Jvm.Free.XT
open Jvm.Lib.Cold (StaticIs)
/-- the road's facts of a String, as the laws ask it -/
theorem txt_of {Z U : State} {a0 : Array Value} {kI : Nat} (wi : (Jvm.Cond.instantiable ST kI).before a0 Z = true) (al : Z.vm.Alike U.vm) {x t : Addr} {kb : ClassId} {cs : List Int32} {cd N2 : Int32} {vs : List Value} (E : RoadKit.Exa Z U.heap x ST) (V : RoadKit.Fld Z U.heap x ST "value" "[B" (.ref t)) (C : RoadKit.Fld Z U.heap x ST "coder" "B" (.int cd)) (K : RoadKit.Arv Z U.heap t kb .byte N2 vs (.int 0)) (hc : CodA cs cd N2 vs) (hb : ∀ c ∈ cs, ¬ c < 0 ∧ ¬ (65535 : Int32) < c) (l2 : cs.length ≤ 4000) :
    ∃ A, Txt x t A cd cs.length (fun j => cs.getD j 0) U := by
  obtain ⟨A, K1, K2, K3, K4, K5, K6⟩ := K
  have hcod := hc.cod (by omega) K3 K5
  obtain ⟨D, fV, fC, hB, F1, F2, g1, g2, -, -⟩ := strObj wi al E V C
  exact ⟨A, ⟨_, hB.2.2.1, D, hB.1, rfl, by cases q : D.vm <;> first | rfl | exact absurd q (hB.2.1.2 _)⟩, Has.of hB F1 g1, Has.of hB F2 g2, ⟨K1.1, State.isArrayOf_alike al K1.2.1, K1.2.2, by rcases hcod with ⟨-, q, -⟩ | ⟨-, q, -⟩ <;> omega⟩, hcod, fun j hj => by
    have e : cs.getD j 0 = cs[j] := by simp [List.getD_eq_getElem?_getD, hj]
    show ¬ cs.getD j 0 < 0 ∧ ¬ 65535 < cs.getD j 0
    rw [e]; exact hb _ (List.getElem_mem _)⟩
end StrChars.Road
namespace StrChars
open Jvm Sem ClassFile Op Lib Jvm.Stand Jvm.Free.XT Jvm.Free.ALB Jvm.Free.JM Jvm.Free
open Jvm.Lib.Cold (StaticIs)
namespace ChN
def yN : MethodName := ⟨"java/lang/String", "charAt", "(I)C"⟩
abbrev yB : ByteArray := jdk_42_method_56_code
theorem d0 : decode yB 0 = .ok (.aload_n 0, 1) := by decide +kernel
theorem d1 : decode yB 1 = .ok (.invokevirtual 492, 3) := by decide +kernel
theorem d4 : decode yB 4 = .ok (.ifCond (.eq) 12, 3) := by decide +kernel
theorem d7 : decode yB 7 = .ok (.aload_n 0, 1) := by decide +kernel
theorem d8 : decode yB 8 = .ok (.getfield 9, 3) := by decide +kernel
theorem d11 : decode yB 11 = .ok (.iload_n 1, 1) := by decide +kernel
theorem d12 : decode yB 12 = .ok (.invokestatic 495, 3) := by decide +kernel
theorem d15 : decode yB 15 = .ok (.ireturn, 1) := by decide +kernel
def site : List Cond := [.fieldLink "java/lang/String" 9 "java/lang/String" "value" "[B", IsL.tab, LChA.tab] ++ virtW "java/lang/String" 492 "java/lang/String" IsL.yN IsL.yN ++ staticW "java/lang/String" 495 LChA.yN
def tab : Cond := tabOf yN yB 2 (some .char) site
def P (x t : Addr) (V : Cell) (n : Nat) (f : Nat → Int32) (z : Int32) (fm : Value) (i : Nat) (args : Array Value) (s : State) : Prop := args = #[.ref x, .int (Int32.ofNat i)] ∧ Txt x t V 0 n f s ∧ i < n ∧ StaticIs s "java/lang/String" "COMPACT_STRINGS" "Z" (.int z) ∧ ¬ z = 0 ∧ StaticIs s "jdk/internal/util/Preconditions" "SIOOBE_FORMATTER" "Ljava/util/function/BiFunction;" fm ∧ fm.isRef = true
def E (f : Nat → Int32) (i : Nat) (r : Option Value) (s u : State) : Prop := XT.PureE (some (.int (f i))) r s u
/-- charAt(i) of a Latin-1 String of n chars, i < n: f i -/
theorem law (l : Launch) (x t : Addr) (V : Cell) (n : Nat) (f : Nat → Int32) (z : Int32) (fm : Value) (i : Nat) : Law l yN 2 1 3 40 yB 2 (some .char) site (P x t V n f z fm i) (E f i) [] 0 0 := by
  refine Law.of_walk (plainFor_of_name (by decide +kernel)) (by decide +kernel) (by decide +kernel) (by decide) (fun _ _ h => by rw [h.1]; rfl) (fun _ U U' hal hh h => ⟨h.1, h.2.1.mv hal hh, h.2.2.1, h.2.2.2.1.there hal hh, h.2.2.2.2.1, h.2.2.2.2.2.1.there hal hh, h.2.2.2.2.2.2⟩) (fun r U U' V V' h1 hal h2 h => XT.PureE.mv r U U' V V' h1 hal h2 h) ?_
  intro p e s m args below meth c s₁ X0 hexec hbytes hml hret hlk hnm hown hh0 W hP
  obtain ⟨rfl, hx, hi, s1, hz, s3, rf⟩ := hP
  have v31 := hx.2.2.2.1.2.2.2
  have hr := hx.2.2.2.2.2 i hi
  have hx0 := hx.mv X0.warmed.alike hh0
  have c1 : Steps p.tables e below (s₁.setTop (entryFrame m #[.ref x, .int (Int32.ofNat i)] 2)) (s₁.setTop (mkF m 1 #[.val (.ref x), .val (.int (Int32.ofNat i))] [.ref x])) := Steps.trans (entry rfl) (by
    show Steps p.tables e below (s₁.setTop (mkF m 0 #[.val (.ref x), .val (.int (Int32.ofNat i))] [])) _
    refine XS.aloadN X0.here hexec rfl (hb hbytes d0) rfl rfl ?_
    exact Steps.refl _)
  obtain ⟨v2, T2, X2, E2, g2⟩ := X0.callV hexec (IsL.law l x 0 z) hown (wks W (virtW "java/lang/String" 492 "java/lang/String" IsL.yN IsL.yN)) rfl (by decide) (wk W IsL.tab) (W := 0) (Nat.le_of_ble_eq_true rfl) (Nat.le_of_ble_eq_true rfl) (Nat.le_refl _) (Nat.le_refl _) (hx0.1.fc X0.warmed.alike) hx0.1.is (g := (mkF m 1 #[.val (.ref x), .val (.int (Int32.ofNat i))] [.ref x])) rfl (by rw [hml]; rfl) c1 (argsL := []) (rest := []) rfl rfl (by show 2 * 0 + 0 ≤ _; decide) (hb hbytes d1) (⟨rfl, hx0.2.2.1, hx.2.2.2.2.1.cd, s1.there X0.warmed.alike hh0, hz⟩)
  obtain ⟨rfl, q2⟩ := E2
  have hh2 := q2.trans hh0
  have hx2 := hx.mv X2.warmed.alike hh2
  obtain ⟨-, k1, k2⟩ | ⟨k0, -⟩ := hx.2.2.2.2.1
  · have c3 : Steps p.tables e below (s₁.setTop (entryFrame m #[.ref x, .int (Int32.ofNat i)] 2)) (T2.setTop (mkF m 8 #[.val (.ref x), .val (.int (Int32.ofNat i))] [.ref x])) := Steps.trans g2 (by
      refine XS.ifNo X2.here hexec rfl (hb hbytes d4) rfl (i0_eq_f (by decide)) ?_
      refine XS.aloadN X2.here hexec rfl (hb hbytes d7) rfl rfl ?_
      exact Steps.refl _)
    obtain ⟨T4, X4, q4, st4⟩ := X2.hget hexec hown (wk W (.fieldLink "java/lang/String" 9 "java/lang/String" "value" "[B")) hx2.2.1 (g := (mkF m 8 #[.val (.ref x), .val (.int (Int32.ofNat i))] [.ref x])) rfl (rest := []) rfl (hb hbytes d8)
    have hh4 := q4.trans hh2
    have c5 : Steps p.tables e below (s₁.setTop (entryFrame m #[.ref x, .int (Int32.ofNat i)] 2)) (T4.setTop (mkF m 12 #[.val (.ref x), .val (.int (Int32.ofNat i))] [.int (Int32.ofNat i), .ref t])) := (c3.trans (st4 _ (Steps.refl _))).trans (by
      refine XS.iloadN X4.here hexec rfl (hb hbytes d11) rfl ?_
      exact Steps.refl _)
    obtain ⟨v6, T6, X6, E6, g6⟩ := X4.callS hexec (LChA.law l t V i (lo8 (f i)) fm) hown (wks W (staticW "java/lang/String" 495 LChA.yN)) (wk W LChA.tab) (W := 0) (Nat.le_of_ble_eq_true rfl) (Nat.le_of_ble_eq_true rfl) (Nat.le_refl _) (Nat.le_refl _) (g := (mkF m 12 #[.val (.ref x), .val (.int (Int32.ofNat i))] [.int (Int32.ofNat i), .ref t])) rfl (by rw [hml]; rfl) c5 (argsL := [.ref t, .int (Int32.ofNat i)]) (rest := []) rfl rfl (by show 2 * 0 + 0 ≤ _; decide) (hb hbytes d12) (⟨rfl, hx.2.2.2.1.mv X4.warmed.alike hh4, (k2 i hi).1, s3.there X4.warmed.alike hh4, rf⟩)
    obtain ⟨rfl, q6⟩ := E6
    rw [chr8_lo8 hr.1 (k2 i hi).2] at g6
    exact ⟨T6, some (.int (f i)), _, _, _, X6, rfl, rfl, rfl, (fun h => by cases h), ⟨rfl, q6.trans hh4⟩, fun fs hl => Steps.trans g6 (X6.ireturnOut hexec hret (narrow_ch hr.1 hr.2) (Or.inr (Or.inr (Or.inr (Or.inl rfl)))) (hb hbytes d15) hl)⟩
  · exact absurd k0 (by decide)
theorem pays {l : Launch} {R : Room} {p : Program} {e : Env} {below : List Frame} {s : State} {sargs : Array Value} {len W : Nat} (x t : Addr) (V : Cell) (n : Nat) (f : Nat → Int32) (z : Int32) (fm : Value) (i : Nat) (htab : tab.before sargs s = true) (hfr : 4 ≤ R.frames) (hlo : W + 53 ≤ R.locals) :
    Back l R p e below s sargs yN len W (fun A₁ a₁ => A₁.cells + 0 ≤ R.cells ∧ A₁.slots + 0 ≤ R.slots ∧ P x t V n f z fm i a₁ A₁.U) (fun A₁ _ v₁ B₁ => E f i v₁ A₁.U B₁.U ∧ B₁.locs = A₁.locs ++ [] ∧ B₁.cells = A₁.cells + 0 ∧ B₁.slots = A₁.slots + 0) :=
  (law l x t V n f z fm i).pays htab hfr (by omega)
end ChN
end StrChars
namespace StrChars.Road
open Jvm Sem ClassFile Op Lib Jvm.Stand Jvm.Free Jvm.Free.XT
open Jvm.Lib.Cold (StaticIs)
/-- the words of String.charAt(int), the Latin-1 road alone -/
abbrev wordsChN : List Jvm.Cond := [.code ChN.yN ChN.yB 2 (some .char), .initialized ST, .fieldLink ST 9 ST "value" "[B", .fieldLink ST 38 ST "COMPACT_STRINGS" "Z", .fieldLink ST 15 ST "coder" "B", .code IsL.yN IsL.yB 1 (some .boolean), .methodLink ST 492 IsL.yN, .declares IsL.yN, .selects ST IsL.yN IsL.yN, .instanceMethod IsL.yN,
  .methodLink ST 495 LChA.yN, .static LChA.yN, .code LChA.yN LChA.yB 2 (some .char), .initialized "java/lang/StringLatin1", .methodLink "java/lang/StringLatin1" 9 JO.Str_checkIndex.yN, .static JO.Str_checkIndex.yN, .code JO.Str_checkIndex.yN JO.Str_checkIndex.yB 2 none,
  .fieldLink ST 1053 "jdk/internal/util/Preconditions" "SIOOBE_FORMATTER" "Ljava/util/function/BiFunction;", .methodLink ST 1059 JC.PreCheck.yN, .static JC.PreCheck.yN, .code JC.PreCheck.yN JC.PreCheck.yB 3 (some .int), .initialized "jdk/internal/util/Preconditions"]
theorem tabChN_of {a : Array Value} {s : State} (h : ∀ w ∈ wordsChN, w.before a s = true) : ChN.tab.before a s = true := by
  have hp : JC.PreCheck.tab.before a s = true := unparts (wk h (.code JC.PreCheck.yN JC.PreCheck.yB 3 (some .int))) (wks h (.initialized JC.PreCheck.yN.cls :: JC.PreCheck.site))
  have qk := consq hp h
  have hk : JO.Str_checkIndex.tab.before a s = true := unparts (wk qk (.code JO.Str_checkIndex.yN JO.Str_checkIndex.yB 2 none)) (wks qk (.initialized JO.Str_checkIndex.yN.cls :: JO.Str_checkIndex.site))
  have ql := consq hk h
  have hl : LChA.tab.before a s = true := unparts (wk ql (.code LChA.yN LChA.yB 2 (some .char))) (wks ql (.initialized LChA.yN.cls :: LChA.site))
  have hi : IsL.tab.before a s = true := unparts (wk h (.code IsL.yN IsL.yB 1 (some .boolean))) (wks h (.initialized IsL.yN.cls :: IsL.site))
  have q := consq hi (consq hl h)
  exact unparts (wk q (.code ChN.yN ChN.yB 2 (some .char))) (wks q (.initialized ChN.yN.cls :: ChN.site))
theorem movedChN {Z s : State} {a0 args : Array Value} (hZ : Z.Warmed39 s.vm) (hw : ∀ d ∈ wordsChN, d.before a0 Z = true) : ∀ d ∈ wordsChN, d.before args s = true := fun d hd => by
  have t : ∀ d ∈ wordsChN, (d.onTables && d.keepsFace) = true := by decide +kernel
  exact RoadKit.mv hZ (hw d hd) (t d hd)
/-- **charAt(i) OF A LATIN-1 STRING**, i < n: the char -/
theorem chN {p : Program} {l : Launch} {e : Env} {R : Room} {s : State} {args : Array Value} {below : List Frame} {len W : Nat} {Z : State} {a0 : Array Value} {h : Heap} (hZ : Z.Warmed39 s.vm) (hw : ∀ d ∈ wordsChN, d.before a0 Z = true) {kI : Nat} (wi : (Jvm.Cond.instantiable ST kI).before a0 Z = true)
    {x t : Addr} {kb : ClassId} {cs : List Int32} {N2 z : Int32} {vs : List Value} {fm : Value} {i : Nat} {j : Int32} (E : RoadKit.Exa Z h x ST) (V : RoadKit.Fld Z h x ST "value" "[B" (.ref t)) (C : RoadKit.Fld Z h x ST "coder" "B" (.int 0)) (K : RoadKit.Arv Z h t kb .byte N2 vs (.int 0)) (hc : CodA cs 0 N2 vs) (hb : ∀ c ∈ cs, ¬ c < 0 ∧ ¬ (65535 : Int32) < c)
    (S : RoadKit.Sta Z h ST "COMPACT_STRINGS" "Z" (.int z)) (hz : ¬ z = 0) (F : RoadKit.Sta Z h "jdk/internal/util/Preconditions" "SIOOBE_FORMATTER" "Ljava/util/function/BiFunction;" fm) (rf : fm.isRef = true) (l2 : cs.length ≤ 4000) (hi : i < cs.length) (hj : j = Int32.ofNat i) (hfr : 4 ≤ R.frames) (hlo : W + 53 ≤ R.locals) :
    Back l R p e below s args (⟨"java/lang/String", "charAt", "(I)C"⟩ : MethodName) len W (fun P a => a = #[.ref x, .int j] ∧ P.U.heap = h ∧ P.cells + 0 ≤ R.cells ∧ P.slots + 0 ≤ R.slots)
      (fun P _ v B => ∃ L, (v = some (.int (cs.getD i 0)) ∧ L = [] ∧ B.U.heap = h) ∧ B.locs = P.locs ++ L ∧ B.cells = P.cells + 0 ∧ B.slots = P.slots + 0) := by
  subst hj
  intro m meth c P g ig mk a X hg hsize hdg hW hn hp'
  obtain ⟨rfl, rfl, r1, r2⟩ := hp'
  have al : Z.vm.Alike P.U.vm := hZ.alike.trans X.warmed.alike
  obtain ⟨A, hx⟩ := txt_of wi al E V C K hc hb l2
  obtain ⟨v, B, X', ⟨⟨hv, hh⟩, hl, hk, hs⟩, st⟩ := ChN.pays x t A cs.length (fun j => cs.getD j 0) z fm i (tabChN_of (movedChN hZ hw)) hfr hlo m meth c P g ig mk _ X hg hsize hdg hW hn ⟨r1, r2, rfl, hx, hi, sta_is al S, hz, sta_is al F, rf⟩
  exact ⟨v, B, X', ⟨[], ⟨hv, rfl, hh⟩, hl, hk, hs⟩, st⟩
/-- what backV says of its String, as the contracts of this text ask it: cs's low bytes, coder 0 -/
theorem codOf {cs : List Int32} {n : Nat} (hn : cs.length = n) (hb : ∀ c ∈ cs, ¬ 255 < c) : CodA cs 0 (Int32.ofNat n) ((cs.map lo8).map Value.int) := Or.inl ⟨rfl, by rw [hn], by simp [List.map_map, Function.comp_def], hb⟩
end StrChars.Road
end Jvm.Pilot.@@N@@

namespace Jvm.Pilot.@@N@@
open Jvm Jvm.ClassFile Sem Op Lib Jvm.Free Jvm.Stand Jvm.LawKit Jvm.RoadKit Bundle Jvm.Pilot.@@N@@.Jvm.D
theorem own_nar {t : FieldType} {v : Value} (h : v.isRef = true) (ht : t.isReference = true) : narrow t v = v := by
  rcases ref_cases h with rfl | ⟨a, rfl⟩ <;> cases t <;> first | rfl | cases ht
theorem own_fits {t : FieldType} {v : Value} (h : v.isRef = true) (ht : t.isReference = true) : fits t v = true := by
  rcases ref_cases h with rfl | ⟨a, rfl⟩ <;> cases t <;> first | rfl | cases ht
theorem own_and255 (x : Int32) : ¬ nar .char ((x &&& (255 : Int32)).toUInt32.toUInt16.toUInt32.toInt32) < 0 ∧ ¬ (255 : Int32) < nar .char ((x &&& (255 : Int32)).toUInt32.toUInt16.toUInt32.toInt32) := by
  have t : ∀ k : Fin 256, ¬ nar .char ((Int32.ofNat k.val).toUInt32.toUInt16.toUInt32.toInt32) < 0 ∧ ¬ (255 : Int32) < nar .char ((Int32.ofNat k.val).toUInt32.toUInt16.toUInt32.toInt32) := by decide +kernel
  have h : (x &&& 255).toBitVec.toNat < 256 := by
    simp only [Int32.toBitVec_and, BitVec.toNat_and]
    exact Nat.lt_succ_of_le Nat.and_le_right
  have e : (x &&& 255) = Int32.ofNat (x &&& 255).toBitVec.toNat := by
    apply Int32.toBitVec_inj.mp
    show _ = BitVec.ofNat 32 _
    rw [BitVec.ofNat_toNat]; simp
  rw [e]
  exact t ⟨_, h⟩
theorem own_narb (x : Int32) : nar .byte (x.toInt8.toInt32) = x.toInt8.toInt32 := by simp [nar]
theorem own_words {a0 : Array Value} {Z : State} (hw : ∀ d ∈ tables_1, d.before a0 Z = true) : ∀ d ∈ StrChars.Road.words, d.before a0 Z = true := fun d hd => hw d ((by decide +kernel : ∀ d ∈ StrChars.Road.words, d ∈ tables_1) d hd)
theorem own_wordsLen {a0 : Array Value} {Z : State} (hw : ∀ d ∈ tables_1, d.before a0 Z = true) : ∀ d ∈ StrChars.Road.wordsLen, d.before a0 Z = true := fun d hd => hw d ((by decide +kernel : ∀ d ∈ StrChars.Road.wordsLen, d ∈ tables_1) d hd)
theorem own_wordsChN {a0 : Array Value} {Z : State} (hw : ∀ d ∈ tables_1, d.before a0 Z = true) : ∀ d ∈ StrChars.Road.wordsChN, d.before a0 Z = true := fun d hd => hw d ((by decide +kernel : ∀ d ∈ StrChars.Road.wordsChN, d ∈ tables_1) d hd)
theorem own_atoms {a0 : Array Value} {Z : State} (hw : ∀ d ∈ tables_1, d.before a0 Z = true) : ∀ d ∈ Bundle.stringAtoms, d.before a0 Z = true := fun d hd => hw d ((by decide +kernel : ∀ d ∈ Bundle.stringAtoms, d ∈ tables_1) d hd)
theorem own_up (cs : List Int32) (h : ∀ c ∈ cs, ¬ c < 0 ∧ ¬ (255 : Int32) < c) : ∀ c ∈ cs, ¬ c < 0 ∧ ¬ (65535 : Int32) < c := fun c hc => ⟨(h c hc).1, fun q => (h c hc).2 (by rw [Int32.lt_iff_toInt_lt] at q ⊢; have e1 : (65535 : Int32).toInt = 65535 := rfl; have e2 : (255 : Int32).toInt = 255 := rfl; omega)⟩
abbrev own_bl (c : Int32) : Prop := c = 32 ∨ c = 9
abbrev own_rm (c : Int32) : Prop := c = 32 ∨ c = 9 ∨ c = 13
theorem own_conv {Z : State} {h : Heap} {a : Addr} {k : ClassId} {ty : FieldType} {z : Int32} {vs vs' : List Value} {dv : Value} (F : Arv Z h a k ty z vs dv) (e : vs = vs') : Arv Z h a k ty z vs' dv := e ▸ F
theorem own_toInt {n : Nat} (h : n ≤ 100) : (Int32.ofNat n).toInt = n := Int32.toInt_ofNat_small (by omega)
theorem own_nat {n : Nat} (h : n ≤ 100) : (Int32.ofNat n).toNatClampNeg = n := by simp [Int32.toNatClampNeg, own_toInt h]
theorem own_lt {n t : Nat} (hn : n ≤ 100) (ht : t ≤ 100) : Int32.ofNat n < Int32.ofNat t ↔ n < t := by
  rw [Int32.lt_iff_toInt_lt, own_toInt hn, own_toInt ht]; omega
theorem own_nn {n : Nat} (hn : n ≤ 100) : ¬ (Int32.ofNat n < 0) := by
  rw [Int32.lt_iff_toInt_lt, own_toInt hn]; show ¬ ((n : Int) < 0); omega
theorem own_inj {n t : Nat} (hn : n ≤ 100) (ht : t ≤ 100) : Int32.ofNat n = Int32.ofNat t ↔ n = t := by
  rw [← Int32.toInt_inj, own_toInt hn, own_toInt ht]; omega
theorem own_add (n k : Nat) : Int32.ofNat n + Int32.ofNat k = Int32.ofNat (n + k) := by
  apply Int32.toBitVec_inj.mp
  show BitVec.ofNat 32 n + BitVec.ofNat 32 k = BitVec.ofNat 32 (n + k)
  rw [BitVec.ofNat_add]
theorem own_sub {n k : Nat} (h : k ≤ n) : Int32.ofNat n - Int32.ofNat k = Int32.ofNat (n - k) := by
  have e := own_add (n - k) k
  rw [Nat.sub_add_cancel h] at e
  rw [← e, Int32.add_sub_cancel]
theorem own_mod3 (x : Int32) : ∃ f : Nat, f ≤ 2 ∧ (x &&& (3 : Int32)) % (3 : Int32) = Int32.ofNat f := by
  have h := c_and x 3 (by decide)
  have g := (c_irem (x &&& 3) 3 3 rfl).1 h.1
  refine ⟨((x &&& 3) % 3 : Int32).toInt.toNat, ?_, ?_⟩
  · omega
  · apply Int32.toInt_inj.mp
    rw [own_toInt (by omega)]; omega
theorem own_narc {c : Int32} (h : ¬ c < 0 ∧ ¬ (255 : Int32) < c) : nar .char c = c := by
  have e : c = c &&& 255 := by
    apply Int32.toInt_inj.mp
    rw [c_mask c 255 8 (by decide) (by decide)]
    have h1 := h.1; have h2 := h.2
    rw [Int32.lt_iff_toInt_lt] at h1 h2
    have e1 : (0 : Int32).toInt = 0 := rfl
    have e2 : (255 : Int32).toInt = 255 := rfl
    omega
  rw [e]; exact i2c_mask c
theorem own_rmr {c : Int32} (h : own_rm c) : ¬ c < 0 ∧ ¬ (255 : Int32) < c := by rcases h with rfl | rfl | rfl <;> decide
theorem own_getD {cs : List Int32} {n : Nat} (hp : ∀ c ∈ cs, ¬ c < 0 ∧ ¬ (255 : Int32) < c) (h : n < cs.length) : ¬ cs.getD n 0 < 0 ∧ ¬ (255 : Int32) < cs.getD n 0 := by
  have e : cs.getD n 0 = cs[n] := by simp [List.getD_eq_getElem?_getD, h]
  rw [e]; exact hp _ (List.getElem_mem h)
theorem own_vals {cs : List Int32} {n : Nat} (h : n < cs.length) : (cs.map Value.int).getD n (.int 0) = .int (cs.getD n 0) := by
  simp [List.getD_eq_getElem?_getD, h]
theorem own_bytes {cs : List Int32} {A k : Nat} (h : A + k ≤ cs.length) : (List.range k).map (fun i => ((cs.map (fun c => c.toInt8.toInt32)).map Value.int).getD (A + i) (.int 0)) = ((((cs.drop A).take k).map (fun c => c.toInt8.toInt32)).map Value.int) := by
  apply List.ext_getElem
  · simp; omega
  · intro i h1 h2
    simp at h1
    have h3 : A + i < cs.length := by omega
    simp [List.getD_eq_getElem?_getD, h3]
theorem own_antisym {u v : Int32} (h1 : ¬ u < v) (h2 : ¬ v < u) : u = v := by
  rw [Int32.lt_iff_toInt_lt] at h1 h2
  exact Int32.toInt_inj.mp (by omega)
theorem own_dec {n : Nat} (h : 1 ≤ n) : Int32.ofNat n + (-1 : Int32) = Int32.ofNat (n - 1) := by
  rw [show Int32.ofNat n = Int32.ofNat (n - 1) + Int32.ofNat 1 by rw [own_add, Nat.sub_add_cancel h], show (-1 : Int32) = - Int32.ofNat 1 from rfl, Int32.add_assoc, Int32.add_right_neg, Int32.add_zero]
theorem own_first (b : Nat → Prop) [DecidablePred b] (n : Nat) : ∃ j, j ≤ n ∧ (∀ i, i < j → b i) ∧ (j = n ∨ ¬ b j) := by
  induction n with
  | zero => exact ⟨0, Nat.le_refl _, fun i hi => absurd hi (Nat.not_lt_zero _), Or.inl rfl⟩
  | succ n ih =>
    obtain ⟨j, h1, h2, h3⟩ := ih
    rcases h3 with rfl | h3
    · by_cases hb : b j
      · exact ⟨j + 1, Nat.le_refl _, fun i hi => (Nat.lt_succ_iff_lt_or_eq.mp hi).elim (h2 i) (fun q => q ▸ hb), Or.inl rfl⟩
      · exact ⟨j, Nat.le_succ _, h2, Or.inr hb⟩
    · exact ⟨j, Nat.le_succ_of_le h1, h2, Or.inr h3⟩
theorem own_sub_at {cs : List Int32} {A k i : Nat} (h : i < k) : ((cs.drop A).take k).getD i 0 = cs.getD (A + i) 0 := by
  simp [List.getD_eq_getElem?_getD, List.getElem?_take, h]
theorem own_set_ne {cs : List Int32} {i j : Nat} {v : Int32} (h : i ≠ j) : (cs.set i v).getD j 0 = cs.getD j 0 := by
  simp [List.getD_eq_getElem?_getD, List.getElem?_set, h]
theorem own_set_eq {cs : List Int32} {i : Nat} {v : Int32} (h : i < cs.length) : (cs.set i v).getD i 0 = v := by
  simp [List.getD_eq_getElem?_getD, h]
theorem own_set_p {cs : List Int32} {i : Nat} {v : Int32} (hp : ∀ c ∈ cs, ¬ c < 0 ∧ ¬ (255 : Int32) < c) (hv : ¬ v < 0 ∧ ¬ (255 : Int32) < v) : ∀ c ∈ cs.set i v, ¬ c < 0 ∧ ¬ (255 : Int32) < c := fun c hc => by
  rcases List.mem_or_eq_of_mem_set hc with q | rfl
  · exact hp c q
  · exact hv
theorem own_set_bl {cs : List Int32} {i j : Nat} {v : Int32} (h : ¬ own_bl (cs.getD j 0)) (hv : ¬ own_bl v) (hi : i < cs.length) : ¬ own_bl ((cs.set i v).getD j 0) := by
  by_cases e : i = j
  · subst e; rw [own_set_eq hi]; exact hv
  · rw [own_set_ne e]; exact h
def Q_rem (Z : State) (q : Int32) (h0 : Heap) (n0 : Nat) (v : Option Value) (h : Heap) (L : List Loc) : Prop := ∃ (cc : Int32), v = some (.int cc) ∧ Fr n0 L ∧ h = h0 ∧ own_rm cc
theorem pn_0 : plainName "com/example/refledger/refledger/PublicKeyTextTrimPinLaw" = true := by first | (simp [plainName, overriddenIn]; done) | decide +kernel
theorem ef_rem (m : MethodId) (q : Int32) : entryFrame m #[(.int q)] 2 = mkF m 0 #[.val (.int q), .unset] [] := by first | (simp [entryFrame, mkF, argsToLocals, Value.category]; done) | rfl
theorem d_method_5_code_0 : decode method_5_code 0 = .ok (.iload_n 0, 1) := by decide +kernel
theorem d_method_5_code_1 : decode method_5_code 1 = .ok (.sipush 255, 3) := by decide +kernel
theorem d_method_5_code_4 : decode method_5_code 4 = .ok (.iand, 1) := by decide +kernel
theorem d_method_5_code_5 : decode method_5_code 5 = .ok (.iconst 3, 1) := by decide +kernel
theorem d_method_5_code_6 : decode method_5_code 6 = .ok (.irem, 1) := by decide +kernel
theorem d_method_5_code_7 : decode method_5_code 7 = .ok (.istore_n 1, 1) := by decide +kernel
theorem d_method_5_code_8 : decode method_5_code 8 = .ok (.iload_n 1, 1) := by decide +kernel
theorem d_method_5_code_9 : decode method_5_code 9 = .ok (.ifCond .ne 6, 3) := by decide +kernel
theorem d_method_5_code_12 : decode method_5_code 12 = .ok (.bipush 32, 2) := by decide +kernel
theorem d_method_5_code_14 : decode method_5_code 14 = .ok (.ireturn, 1) := by decide +kernel
theorem d_method_5_code_15 : decode method_5_code 15 = .ok (.iload_n 1, 1) := by decide +kernel
theorem d_method_5_code_16 : decode method_5_code 16 = .ok (.iconst 1, 1) := by decide +kernel
theorem d_method_5_code_17 : decode method_5_code 17 = .ok (.if_icmp .ne 6, 3) := by decide +kernel
theorem d_method_5_code_20 : decode method_5_code 20 = .ok (.bipush 9, 2) := by decide +kernel
theorem d_method_5_code_22 : decode method_5_code 22 = .ok (.ireturn, 1) := by decide +kernel
theorem d_method_5_code_23 : decode method_5_code 23 = .ok (.bipush 13, 2) := by decide +kernel
theorem d_method_5_code_25 : decode method_5_code 25 = .ok (.ireturn, 1) := by decide +kernel
set_option maxRecDepth 65536 in
set_option maxHeartbeats 40000000 in
theorem rm_rem (l : Launch) (Z : State) (a0 : Array Value) (hw : ∀ d ∈ tables_1, d.before a0 Z = true) (ws : List Jvm.Cond) (q : Int32) (h0 : Heap) (n0 : Nat) (X00 : Old Z n0 h0)  :
    MetFree l (⟨"com/example/refledger/refledger/PublicKeyTextTrimPinLaw", "removable", "(I)C"⟩ : MethodName) (head1 (Jvm.Cond.code (⟨"com/example/refledger/refledger/PublicKeyTextTrimPinLaw", "removable", "(I)C"⟩ : MethodName) method_5_code 2 (some .char) :: ws) ({ frames := 0, cells := 0, slots := 0, locals := 0 } : Room)) (fun aa_ U => aa_ = #[(.int q)] ∧ Z.Warmed39 U.vm ∧ U.heap = h0) (fun _ _ _ _ _ => True) (fun _ U o U' => ∃ v L, o = .returned v ∧ Q_rem Z q h0 n0 v U'.heap L ∧ FrameEnd U o U' L ({ frames := 0, cells := 0, slots := 0, locals := 0 } : Room).cells ({ frames := 0, cells := 0, slots := 0, locals := 0 } : Room).slots) := by
  refine MetFree.of_bodySF (plainFor_of_name pn_0) hisR ?_
  intro p e s m args below meth c s₁ Bd hml0 hP hK
  obtain ⟨rfl, hZ, hh⟩ := hP
  have hx := Bd.exec
  have hby := Bd.bytes
  have hml : c.maxLocals = 2 := hml0
  have hown : s.vm.findClass "com/example/refledger/refledger/PublicKeyTextTrimPinLaw" = some m.cls := findClass_of_methodNamed Bd.named
  have hnm := (name_of_methodNamed Bd.named Bd.method).1
  have hlk : meth.locks = false := BodyLoose.notSynchronized Bd
  have X0 : Stand p l e ({ frames := 0, cells := 0, slots := 0, locals := 0 } : Room) s m #[(.int q)] below meth c s₁ [] 0 0 := Stand.of_body Bd
  have e0 : s₁.heap = h0 := by rw [← hh, Bd.state]; rfl
  have N0 := Fr.nil n0
  suffices G : Go p e below s (Q_rem Z q h0 n0) 0 0 s₁ (mkF m 0 #[.val (.int q), .unset] []) by
    obtain ⟨s2, o, h1, h2⟩ := G
    exact ⟨s2, o, castTop (ef_rem m q) h1, h2⟩
  refine Go.by (T' := s₁) (g' := (mkF m 1 #[.val (.int q), .unset] [(.int q)])) (fun t_ k_ => XS.iloadN X0.here hx rfl (hb hby d_method_5_code_0) rfl k_) ?_
  refine Go.by (T' := s₁) (g' := (mkF m 4 #[.val (.int q), .unset] [(.int (255 : Int32)), (.int q)])) (fun t_ k_ => XS.sipush X0.here hx rfl (hb hby d_method_5_code_1) k_) ?_
  refine Go.by (T' := s₁) (g' := (mkF m 5 #[.val (.int q), .unset] [(.int (q &&& (255 : Int32)))])) (fun t_ k_ => XS.iand X0.here hx rfl (hb hby d_method_5_code_4) rfl k_) ?_
  refine Go.by (T' := s₁) (g' := (mkF m 6 #[.val (.int q), .unset] [(.int (3 : Int32)), (.int (q &&& (255 : Int32)))])) (fun t_ k_ => XS.iconst X0.here hx rfl (hb hby d_method_5_code_5) k_) ?_
  refine Go.by (T' := s₁) (g' := (mkF m 7 #[.val (.int q), .unset] [(.int ((q &&& (255 : Int32)) % (3 : Int32)))])) (fun t_ k_ => iremM X0 hx rfl (hb hby d_method_5_code_6) rfl (by decide) k_) ?_
  obtain ⟨tq1, htq1⟩ : ∃ z : Int32, z = ((q &&& (255 : Int32)) % (3 : Int32)) := ⟨_, rfl⟩
  rw [← htq1]
  refine Go.by (T' := s₁) (g' := (mkF m 8 #[.val (.int q), .val (.int tq1)] [])) (fun t_ k_ => XS.istoreN X0.here hx rfl (hb hby d_method_5_code_7) rfl (l' := #[.val (.int q), .val (.int tq1)]) rfl k_) ?_
  refine Go.by (T' := s₁) (g' := (mkF m 9 #[.val (.int q), .val (.int tq1)] [(.int tq1)])) (fun t_ k_ => XS.iloadN X0.here hx rfl (hb hby d_method_5_code_8) rfl k_) ?_
  by_cases hc2 : tq1 = (0 : Int32)
  · skip
    refine Go.by (T' := s₁) (g' := (mkF m 12 #[.val (.int q), .val (.int tq1)] [])) (fun t_ k_ => XS.ifNo X0.here hx rfl (hb hby d_method_5_code_9) rfl ((if0 _ _).trans (teq hc2).2) k_) ?_
    refine Go.by (T' := s₁) (g' := (mkF m 14 #[.val (.int q), .val (.int tq1)] [(.int (32 : Int32))])) (fun t_ k_ => XS.bipush X0.here hx rfl (hb hby d_method_5_code_12) k_) ?_
    refine Go.fin X0 (v := some (.int (nar .char (32 : Int32)))) (fun h => by rw [Bd.returns] at h; cases h) hlk (by decide) (by decide) ?_ (fun fs hr => retN X0 hx (t := .char) Bd.returns (by simp) (hb hby d_method_5_code_14) hr)
    show Q_rem Z q h0 n0 _ s₁.heap _
    rw [e0]
    exact ⟨(32 : Int32), rfl, N0, rfl, (by decide)⟩
  · skip
    refine Go.by (T' := s₁) (g' := (mkF m 15 #[.val (.int q), .val (.int tq1)] [])) (fun t_ k_ => XS.ifYes X0.here hx rfl (pc0 := 9) (pc' := 15) rfl (hb hby d_method_5_code_9) rfl ((if0 _ _).trans (feq hc2).2) (by decide) (by decide) k_) ?_
    refine Go.by (T' := s₁) (g' := (mkF m 16 #[.val (.int q), .val (.int tq1)] [(.int tq1)])) (fun t_ k_ => XS.iloadN X0.here hx rfl (hb hby d_method_5_code_15) rfl k_) ?_
    refine Go.by (T' := s₁) (g' := (mkF m 17 #[.val (.int q), .val (.int tq1)] [(.int (1 : Int32)), (.int tq1)])) (fun t_ k_ => XS.iconst X0.here hx rfl (hb hby d_method_5_code_16) k_) ?_
    by_cases hc3 : tq1 = (1 : Int32)
    · skip
      refine Go.by (T' := s₁) (g' := (mkF m 20 #[.val (.int q), .val (.int tq1)] [])) (fun t_ k_ => XS.icmpNo X0.here hx rfl (hb hby d_method_5_code_17) rfl (teq hc3).2 k_) ?_
      refine Go.by (T' := s₁) (g' := (mkF m 22 #[.val (.int q), .val (.int tq1)] [(.int (9 : Int32))])) (fun t_ k_ => XS.bipush X0.here hx rfl (hb hby d_method_5_code_20) k_) ?_
      refine Go.fin X0 (v := some (.int (nar .char (9 : Int32)))) (fun h => by rw [Bd.returns] at h; cases h) hlk (by decide) (by decide) ?_ (fun fs hr => retN X0 hx (t := .char) Bd.returns (by simp) (hb hby d_method_5_code_22) hr)
      show Q_rem Z q h0 n0 _ s₁.heap _
      rw [e0]
      exact ⟨(9 : Int32), rfl, N0, rfl, (by decide)⟩
    · skip
      refine Go.by (T' := s₁) (g' := (mkF m 23 #[.val (.int q), .val (.int tq1)] [])) (fun t_ k_ => XS.icmpYes X0.here hx rfl (pc0 := 17) (pc' := 23) rfl (hb hby d_method_5_code_17) rfl (feq hc3).2 (by decide) (by decide) k_) ?_
      refine Go.by (T' := s₁) (g' := (mkF m 25 #[.val (.int q), .val (.int tq1)] [(.int (13 : Int32))])) (fun t_ k_ => XS.bipush X0.here hx rfl (hb hby d_method_5_code_23) k_) ?_
      refine Go.fin X0 (v := some (.int (nar .char (13 : Int32)))) (fun h => by rw [Bd.returns] at h; cases h) hlk (by decide) (by decide) ?_ (fun fs hr => retN X0 hx (t := .char) Bd.returns (by simp) (hb hby d_method_5_code_25) hr)
      show Q_rem Z q h0 n0 _ s₁.heap _
      rw [e0]
      exact ⟨(13 : Int32), rfl, N0, rfl, (by decide)⟩
def Q_blL (Z : State) (q : Int32) (h0 : Heap) (n0 : Nat) (v : Option Value) (h : Heap) (L : List Loc) : Prop := v = some (.int (if own_bl q then 1 else 0)) ∧ Fr n0 L ∧ h = h0
theorem ef_blL (m : MethodId) (q : Int32) : entryFrame m #[(.int q)] 1 = mkF m 0 #[.val (.int q)] [] := by first | (simp [entryFrame, mkF, argsToLocals, Value.category]; done) | rfl
theorem d_method_4_code_0 : decode method_4_code 0 = .ok (.iload_n 0, 1) := by decide +kernel
theorem d_method_4_code_1 : decode method_4_code 1 = .ok (.bipush 32, 2) := by decide +kernel
theorem d_method_4_code_3 : decode method_4_code 3 = .ok (.if_icmp .eq 9, 3) := by decide +kernel
theorem d_method_4_code_12 : decode method_4_code 12 = .ok (.iconst 1, 1) := by decide +kernel
theorem d_method_4_code_13 : decode method_4_code 13 = .ok (.goto 4, 3) := by decide +kernel
theorem d_method_4_code_17 : decode method_4_code 17 = .ok (.ireturn, 1) := by decide +kernel
theorem d_method_4_code_6 : decode method_4_code 6 = .ok (.iload_n 0, 1) := by decide +kernel
theorem d_method_4_code_7 : decode method_4_code 7 = .ok (.bipush 9, 2) := by decide +kernel
theorem d_method_4_code_9 : decode method_4_code 9 = .ok (.if_icmp .ne 7, 3) := by decide +kernel
theorem d_method_4_code_16 : decode method_4_code 16 = .ok (.iconst 0, 1) := by decide +kernel
set_option maxRecDepth 65536 in
set_option maxHeartbeats 40000000 in
theorem rm_blL (l : Launch) (Z : State) (a0 : Array Value) (hw : ∀ d ∈ tables_1, d.before a0 Z = true) (ws : List Jvm.Cond) (q : Int32) (h0 : Heap) (n0 : Nat) (X00 : Old Z n0 h0)  :
    MetFree l (⟨"com/example/refledger/refledger/PublicKeyTextTrimPinLaw", "isBlank", "(C)Z"⟩ : MethodName) (head1 (Jvm.Cond.code (⟨"com/example/refledger/refledger/PublicKeyTextTrimPinLaw", "isBlank", "(C)Z"⟩ : MethodName) method_4_code 1 (some .boolean) :: ws) ({ frames := 0, cells := 0, slots := 0, locals := 0 } : Room)) (fun aa_ U => aa_ = #[(.int q)] ∧ Z.Warmed39 U.vm ∧ U.heap = h0) (fun _ _ _ _ _ => True) (fun _ U o U' => ∃ v L, o = .returned v ∧ Q_blL Z q h0 n0 v U'.heap L ∧ FrameEnd U o U' L ({ frames := 0, cells := 0, slots := 0, locals := 0 } : Room).cells ({ frames := 0, cells := 0, slots := 0, locals := 0 } : Room).slots) := by
  refine MetFree.of_bodySF (plainFor_of_name pn_0) hisR ?_
  intro p e s m args below meth c s₁ Bd hml0 hP hK
  obtain ⟨rfl, hZ, hh⟩ := hP
  have hx := Bd.exec
  have hby := Bd.bytes
  have hml : c.maxLocals = 1 := hml0
  have hown : s.vm.findClass "com/example/refledger/refledger/PublicKeyTextTrimPinLaw" = some m.cls := findClass_of_methodNamed Bd.named
  have hnm := (name_of_methodNamed Bd.named Bd.method).1
  have hlk : meth.locks = false := BodyLoose.notSynchronized Bd
  have X0 : Stand p l e ({ frames := 0, cells := 0, slots := 0, locals := 0 } : Room) s m #[(.int q)] below meth c s₁ [] 0 0 := Stand.of_body Bd
  have e0 : s₁.heap = h0 := by rw [← hh, Bd.state]; rfl
  have N0 := Fr.nil n0
  suffices G : Go p e below s (Q_blL Z q h0 n0) 0 0 s₁ (mkF m 0 #[.val (.int q)] []) by
    obtain ⟨s2, o, h1, h2⟩ := G
    exact ⟨s2, o, castTop (ef_blL m q) h1, h2⟩
  refine Go.by (T' := s₁) (g' := (mkF m 1 #[.val (.int q)] [(.int q)])) (fun t_ k_ => XS.iloadN X0.here hx rfl (hb hby d_method_4_code_0) rfl k_) ?_
  refine Go.by (T' := s₁) (g' := (mkF m 3 #[.val (.int q)] [(.int (32 : Int32)), (.int q)])) (fun t_ k_ => XS.bipush X0.here hx rfl (hb hby d_method_4_code_1) k_) ?_
  by_cases hc1 : q = (32 : Int32)
  · skip
    refine Go.by (T' := s₁) (g' := (mkF m 12 #[.val (.int q)] [])) (fun t_ k_ => XS.icmpYes X0.here hx rfl (pc0 := 3) (pc' := 12) rfl (hb hby d_method_4_code_3) rfl (teq hc1).1 (by decide) (by decide) k_) ?_
    refine Go.by (T' := s₁) (g' := (mkF m 13 #[.val (.int q)] [(.int (1 : Int32))])) (fun t_ k_ => XS.iconst X0.here hx rfl (hb hby d_method_4_code_12) k_) ?_
    refine Go.by (T' := s₁) (g' := (mkF m 17 #[.val (.int q)] [(.int (1 : Int32))])) (fun t_ k_ => XS.goto X0.here hx rfl (pc0 := 13) (pc' := 17) rfl (hb hby d_method_4_code_13) (by decide) (by decide) k_) ?_
    refine Go.fin X0 (v := some (.int (nar .boolean (1 : Int32)))) (fun h => by rw [Bd.returns] at h; cases h) hlk (by decide) (by decide) ?_ (fun fs hr => retN X0 hx (t := .boolean) Bd.returns (by simp) (hb hby d_method_4_code_17) hr)
    show Q_blL Z q h0 n0 _ s₁.heap _
    rw [e0]
    exact ⟨by rw [if_pos (Or.inl hc1)]; rfl, N0, rfl⟩
  · skip
    refine Go.by (T' := s₁) (g' := (mkF m 6 #[.val (.int q)] [])) (fun t_ k_ => XS.icmpNo X0.here hx rfl (hb hby d_method_4_code_3) rfl (feq hc1).1 k_) ?_
    refine Go.by (T' := s₁) (g' := (mkF m 7 #[.val (.int q)] [(.int q)])) (fun t_ k_ => XS.iloadN X0.here hx rfl (hb hby d_method_4_code_6) rfl k_) ?_
    refine Go.by (T' := s₁) (g' := (mkF m 9 #[.val (.int q)] [(.int (9 : Int32)), (.int q)])) (fun t_ k_ => XS.bipush X0.here hx rfl (hb hby d_method_4_code_7) k_) ?_
    by_cases hc2 : q = (9 : Int32)
    · skip
      refine Go.by (T' := s₁) (g' := (mkF m 12 #[.val (.int q)] [])) (fun t_ k_ => XS.icmpNo X0.here hx rfl (hb hby d_method_4_code_9) rfl (teq hc2).2 k_) ?_
      refine Go.by (T' := s₁) (g' := (mkF m 13 #[.val (.int q)] [(.int (1 : Int32))])) (fun t_ k_ => XS.iconst X0.here hx rfl (hb hby d_method_4_code_12) k_) ?_
      refine Go.by (T' := s₁) (g' := (mkF m 17 #[.val (.int q)] [(.int (1 : Int32))])) (fun t_ k_ => XS.goto X0.here hx rfl (pc0 := 13) (pc' := 17) rfl (hb hby d_method_4_code_13) (by decide) (by decide) k_) ?_
      refine Go.fin X0 (v := some (.int (nar .boolean (1 : Int32)))) (fun h => by rw [Bd.returns] at h; cases h) hlk (by decide) (by decide) ?_ (fun fs hr => retN X0 hx (t := .boolean) Bd.returns (by simp) (hb hby d_method_4_code_17) hr)
      show Q_blL Z q h0 n0 _ s₁.heap _
      rw [e0]
      exact ⟨by rw [if_pos (Or.inr hc2)]; rfl, N0, rfl⟩
    · skip
      refine Go.by (T' := s₁) (g' := (mkF m 16 #[.val (.int q)] [])) (fun t_ k_ => XS.icmpYes X0.here hx rfl (pc0 := 9) (pc' := 16) rfl (hb hby d_method_4_code_9) rfl (feq hc2).2 (by decide) (by decide) k_) ?_
      refine Go.by (T' := s₁) (g' := (mkF m 17 #[.val (.int q)] [(.int (0 : Int32))])) (fun t_ k_ => XS.iconst X0.here hx rfl (hb hby d_method_4_code_16) k_) ?_
      refine Go.fin X0 (v := some (.int (nar .boolean (0 : Int32)))) (fun h => by rw [Bd.returns] at h; cases h) hlk (by decide) (by decide) ?_ (fun fs hr => retN X0 hx (t := .boolean) Bd.returns (by simp) (hb hby d_method_4_code_17) hr)
      show Q_blL Z q h0 n0 _ s₁.heap _
      rw [e0]
      exact ⟨by rw [if_neg (fun q => q.elim hc1 hc2)]; rfl, N0, rfl⟩
def Q_blP (Z : State) (q : Int32) (h0 : Heap) (n0 : Nat) (v : Option Value) (h : Heap) (L : List Loc) : Prop := v = some (.int (if own_bl q then 1 else 0)) ∧ Fr n0 L ∧ h = h0
theorem pn_1 : plainName "com/example/refledger/refledger/PublicKeyText" = true := by first | (simp [plainName, overriddenIn]; done) | decide +kernel
theorem ef_blP (m : MethodId) (q : Int32) : entryFrame m #[(.int q)] 1 = mkF m 0 #[.val (.int q)] [] := by first | (simp [entryFrame, mkF, argsToLocals, Value.category]; done) | rfl
theorem d_prog_12_method_17_code_0 : decode prog_12_method_17_code 0 = .ok (.iload_n 0, 1) := by decide +kernel
theorem d_prog_12_method_17_code_1 : decode prog_12_method_17_code 1 = .ok (.bipush 32, 2) := by decide +kernel
theorem d_prog_12_method_17_code_3 : decode prog_12_method_17_code 3 = .ok (.if_icmp .eq 9, 3) := by decide +kernel
theorem d_prog_12_method_17_code_12 : decode prog_12_method_17_code 12 = .ok (.iconst 1, 1) := by decide +kernel
theorem d_prog_12_method_17_code_13 : decode prog_12_method_17_code 13 = .ok (.goto 4, 3) := by decide +kernel
theorem d_prog_12_method_17_code_17 : decode prog_12_method_17_code 17 = .ok (.ireturn, 1) := by decide +kernel
theorem d_prog_12_method_17_code_6 : decode prog_12_method_17_code 6 = .ok (.iload_n 0, 1) := by decide +kernel
theorem d_prog_12_method_17_code_7 : decode prog_12_method_17_code 7 = .ok (.bipush 9, 2) := by decide +kernel
theorem d_prog_12_method_17_code_9 : decode prog_12_method_17_code 9 = .ok (.if_icmp .ne 7, 3) := by decide +kernel
theorem d_prog_12_method_17_code_16 : decode prog_12_method_17_code 16 = .ok (.iconst 0, 1) := by decide +kernel
set_option maxRecDepth 65536 in
set_option maxHeartbeats 40000000 in
theorem rm_blP (l : Launch) (Z : State) (a0 : Array Value) (hw : ∀ d ∈ tables_1, d.before a0 Z = true) (ws : List Jvm.Cond) (q : Int32) (h0 : Heap) (n0 : Nat) (X00 : Old Z n0 h0)  :
    MetFree l (⟨"com/example/refledger/refledger/PublicKeyText", "isBlank", "(C)Z"⟩ : MethodName) (head1 (Jvm.Cond.code (⟨"com/example/refledger/refledger/PublicKeyText", "isBlank", "(C)Z"⟩ : MethodName) prog_12_method_17_code 1 (some .boolean) :: ws) ({ frames := 0, cells := 0, slots := 0, locals := 0 } : Room)) (fun aa_ U => aa_ = #[(.int q)] ∧ Z.Warmed39 U.vm ∧ U.heap = h0) (fun _ _ _ _ _ => True) (fun _ U o U' => ∃ v L, o = .returned v ∧ Q_blP Z q h0 n0 v U'.heap L ∧ FrameEnd U o U' L ({ frames := 0, cells := 0, slots := 0, locals := 0 } : Room).cells ({ frames := 0, cells := 0, slots := 0, locals := 0 } : Room).slots) := by
  refine MetFree.of_bodySF (plainFor_of_name pn_1) hisR ?_
  intro p e s m args below meth c s₁ Bd hml0 hP hK
  obtain ⟨rfl, hZ, hh⟩ := hP
  have hx := Bd.exec
  have hby := Bd.bytes
  have hml : c.maxLocals = 1 := hml0
  have hown : s.vm.findClass "com/example/refledger/refledger/PublicKeyText" = some m.cls := findClass_of_methodNamed Bd.named
  have hnm := (name_of_methodNamed Bd.named Bd.method).1
  have hlk : meth.locks = false := BodyLoose.notSynchronized Bd
  have X0 : Stand p l e ({ frames := 0, cells := 0, slots := 0, locals := 0 } : Room) s m #[(.int q)] below meth c s₁ [] 0 0 := Stand.of_body Bd
  have e0 : s₁.heap = h0 := by rw [← hh, Bd.state]; rfl
  have N0 := Fr.nil n0
  suffices G : Go p e below s (Q_blP Z q h0 n0) 0 0 s₁ (mkF m 0 #[.val (.int q)] []) by
    obtain ⟨s2, o, h1, h2⟩ := G
    exact ⟨s2, o, castTop (ef_blP m q) h1, h2⟩
  refine Go.by (T' := s₁) (g' := (mkF m 1 #[.val (.int q)] [(.int q)])) (fun t_ k_ => XS.iloadN X0.here hx rfl (hb hby d_prog_12_method_17_code_0) rfl k_) ?_
  refine Go.by (T' := s₁) (g' := (mkF m 3 #[.val (.int q)] [(.int (32 : Int32)), (.int q)])) (fun t_ k_ => XS.bipush X0.here hx rfl (hb hby d_prog_12_method_17_code_1) k_) ?_
  by_cases hc1 : q = (32 : Int32)
  · skip
    refine Go.by (T' := s₁) (g' := (mkF m 12 #[.val (.int q)] [])) (fun t_ k_ => XS.icmpYes X0.here hx rfl (pc0 := 3) (pc' := 12) rfl (hb hby d_prog_12_method_17_code_3) rfl (teq hc1).1 (by decide) (by decide) k_) ?_
    refine Go.by (T' := s₁) (g' := (mkF m 13 #[.val (.int q)] [(.int (1 : Int32))])) (fun t_ k_ => XS.iconst X0.here hx rfl (hb hby d_prog_12_method_17_code_12) k_) ?_
    refine Go.by (T' := s₁) (g' := (mkF m 17 #[.val (.int q)] [(.int (1 : Int32))])) (fun t_ k_ => XS.goto X0.here hx rfl (pc0 := 13) (pc' := 17) rfl (hb hby d_prog_12_method_17_code_13) (by decide) (by decide) k_) ?_
    refine Go.fin X0 (v := some (.int (nar .boolean (1 : Int32)))) (fun h => by rw [Bd.returns] at h; cases h) hlk (by decide) (by decide) ?_ (fun fs hr => retN X0 hx (t := .boolean) Bd.returns (by simp) (hb hby d_prog_12_method_17_code_17) hr)
    show Q_blP Z q h0 n0 _ s₁.heap _
    rw [e0]
    exact ⟨by rw [if_pos (Or.inl hc1)]; rfl, N0, rfl⟩
  · skip
    refine Go.by (T' := s₁) (g' := (mkF m 6 #[.val (.int q)] [])) (fun t_ k_ => XS.icmpNo X0.here hx rfl (hb hby d_prog_12_method_17_code_3) rfl (feq hc1).1 k_) ?_
    refine Go.by (T' := s₁) (g' := (mkF m 7 #[.val (.int q)] [(.int q)])) (fun t_ k_ => XS.iloadN X0.here hx rfl (hb hby d_prog_12_method_17_code_6) rfl k_) ?_
    refine Go.by (T' := s₁) (g' := (mkF m 9 #[.val (.int q)] [(.int (9 : Int32)), (.int q)])) (fun t_ k_ => XS.bipush X0.here hx rfl (hb hby d_prog_12_method_17_code_7) k_) ?_
    by_cases hc2 : q = (9 : Int32)
    · skip
      refine Go.by (T' := s₁) (g' := (mkF m 12 #[.val (.int q)] [])) (fun t_ k_ => XS.icmpNo X0.here hx rfl (hb hby d_prog_12_method_17_code_9) rfl (teq hc2).2 k_) ?_
      refine Go.by (T' := s₁) (g' := (mkF m 13 #[.val (.int q)] [(.int (1 : Int32))])) (fun t_ k_ => XS.iconst X0.here hx rfl (hb hby d_prog_12_method_17_code_12) k_) ?_
      refine Go.by (T' := s₁) (g' := (mkF m 17 #[.val (.int q)] [(.int (1 : Int32))])) (fun t_ k_ => XS.goto X0.here hx rfl (pc0 := 13) (pc' := 17) rfl (hb hby d_prog_12_method_17_code_13) (by decide) (by decide) k_) ?_
      refine Go.fin X0 (v := some (.int (nar .boolean (1 : Int32)))) (fun h => by rw [Bd.returns] at h; cases h) hlk (by decide) (by decide) ?_ (fun fs hr => retN X0 hx (t := .boolean) Bd.returns (by simp) (hb hby d_prog_12_method_17_code_17) hr)
      show Q_blP Z q h0 n0 _ s₁.heap _
      rw [e0]
      exact ⟨by rw [if_pos (Or.inr hc2)]; rfl, N0, rfl⟩
    · skip
      refine Go.by (T' := s₁) (g' := (mkF m 16 #[.val (.int q)] [])) (fun t_ k_ => XS.icmpYes X0.here hx rfl (pc0 := 9) (pc' := 16) rfl (hb hby d_prog_12_method_17_code_9) rfl (feq hc2).2 (by decide) (by decide) k_) ?_
      refine Go.by (T' := s₁) (g' := (mkF m 17 #[.val (.int q)] [(.int (0 : Int32))])) (fun t_ k_ => XS.iconst X0.here hx rfl (hb hby d_prog_12_method_17_code_16) k_) ?_
      refine Go.fin X0 (v := some (.int (nar .boolean (0 : Int32)))) (fun h => by rw [Bd.returns] at h; cases h) hlk (by decide) (by decide) ?_ (fun fs hr => retN X0 hx (t := .boolean) Bd.returns (by simp) (hb hby d_prog_12_method_17_code_17) hr)
      show Q_blP Z q h0 n0 _ s₁.heap _
      rw [e0]
      exact ⟨by rw [if_neg (fun q => q.elim hc1 hc2)]; rfl, N0, rfl⟩
def Q_place (Z : State) (i : Int32) (A : Nat) (B : Nat) (bl : Int32) (q : Int32) (iN : Nat) (h0 : Heap) (n0 : Nat) (v : Option Value) (h : Heap) (L : List Loc) : Prop := ∃ (cc : Int32), v = some (.int cc) ∧ Fr n0 L ∧ h = h0 ∧ ((¬ cc < 0 ∧ ¬ (255 : Int32) < cc) ∧ (¬ bl = 0 → own_rm cc) ∧ (5 ≤ iN + B → own_rm cc) ∧ (bl = 0 → iN + B < 5 → iN < A → own_bl cc))
theorem ef_place (m : MethodId) (i : Int32) (bl : Int32) (q : Int32) : entryFrame m #[(.int i), (.int (Int32.ofNat A)), (.int (Int32.ofNat B)), (.int bl), (.int q)] 6 = mkF m 0 #[.val (.int i), .val (.int (Int32.ofNat A)), .val (.int (Int32.ofNat B)), .val (.int bl), .val (.int q), .unset] [] := by first | (simp [entryFrame, mkF, argsToLocals, Value.category]; done) | rfl
theorem d_method_6_code_0 : decode method_6_code 0 = .ok (.iload_n 3, 1) := by decide +kernel
theorem d_method_6_code_1 : decode method_6_code 1 = .ok (.ifCond .ne 10, 3) := by decide +kernel
theorem d_method_6_code_4 : decode method_6_code 4 = .ok (.iload_n 0, 1) := by decide +kernel
theorem d_method_6_code_5 : decode method_6_code 5 = .ok (.iconst 5, 1) := by decide +kernel
theorem d_method_6_code_6 : decode method_6_code 6 = .ok (.iload_n 2, 1) := by decide +kernel
theorem d_method_6_code_7 : decode method_6_code 7 = .ok (.isub, 1) := by decide +kernel
theorem d_method_6_code_8 : decode method_6_code 8 = .ok (.if_icmp .lt 9, 3) := by decide +kernel
theorem d_method_6_code_17 : decode method_6_code 17 = .ok (.iload_n 0, 1) := by decide +kernel
theorem d_method_6_code_18 : decode method_6_code 18 = .ok (.iload_n 1, 1) := by decide +kernel
theorem d_method_6_code_19 : decode method_6_code 19 = .ok (.if_icmp .ge 18, 3) := by decide +kernel
theorem d_method_6_code_22 : decode method_6_code 22 = .ok (.iload 4, 2) := by decide +kernel
theorem d_method_6_code_24 : decode method_6_code 24 = .ok (.iconst 1, 1) := by decide +kernel
theorem d_method_6_code_25 : decode method_6_code 25 = .ok (.iand, 1) := by decide +kernel
theorem d_method_6_code_26 : decode method_6_code 26 = .ok (.ifCond .ne 8, 3) := by decide +kernel
theorem d_method_6_code_29 : decode method_6_code 29 = .ok (.bipush 32, 2) := by decide +kernel
theorem d_method_6_code_31 : decode method_6_code 31 = .ok (.goto 5, 3) := by decide +kernel
theorem d_method_6_code_36 : decode method_6_code 36 = .ok (.ireturn, 1) := by decide +kernel
theorem d_method_6_code_34 : decode method_6_code 34 = .ok (.bipush 9, 2) := by decide +kernel
theorem d_method_6_code_37 : decode method_6_code 37 = .ok (.iload 4, 2) := by decide +kernel
theorem d_method_6_code_39 : decode method_6_code 39 = .ok (.bipush 8, 2) := by decide +kernel
theorem d_method_6_code_41 : decode method_6_code 41 = .ok (.iushr, 1) := by decide +kernel
theorem d_method_6_code_42 : decode method_6_code 42 = .ok (.iconst 3, 1) := by decide +kernel
theorem d_method_6_code_43 : decode method_6_code 43 = .ok (.iand, 1) := by decide +kernel
theorem d_method_6_code_44 : decode method_6_code 44 = .ok (.istore 5, 2) := by decide +kernel
theorem d_method_6_code_46 : decode method_6_code 46 = .ok (.iload 5, 2) := by decide +kernel
theorem d_method_6_code_48 : decode method_6_code 48 = .ok (.ifCond .ne 6, 3) := by decide +kernel
theorem d_method_6_code_51 : decode method_6_code 51 = .ok (.bipush 32, 2) := by decide +kernel
theorem d_method_6_code_53 : decode method_6_code 53 = .ok (.ireturn, 1) := by decide +kernel
theorem d_method_6_code_54 : decode method_6_code 54 = .ok (.iload 5, 2) := by decide +kernel
theorem d_method_6_code_56 : decode method_6_code 56 = .ok (.iconst 1, 1) := by decide +kernel
theorem d_method_6_code_57 : decode method_6_code 57 = .ok (.if_icmp .ne 6, 3) := by decide +kernel
theorem d_method_6_code_60 : decode method_6_code 60 = .ok (.bipush 9, 2) := by decide +kernel
theorem d_method_6_code_62 : decode method_6_code 62 = .ok (.ireturn, 1) := by decide +kernel
theorem d_method_6_code_63 : decode method_6_code 63 = .ok (.iload 5, 2) := by decide +kernel
theorem d_method_6_code_65 : decode method_6_code 65 = .ok (.iconst 2, 1) := by decide +kernel
theorem d_method_6_code_66 : decode method_6_code 66 = .ok (.if_icmp .ne 6, 3) := by decide +kernel
theorem d_method_6_code_69 : decode method_6_code 69 = .ok (.bipush 13, 2) := by decide +kernel
theorem d_method_6_code_71 : decode method_6_code 71 = .ok (.ireturn, 1) := by decide +kernel
theorem d_method_6_code_72 : decode method_6_code 72 = .ok (.iload 4, 2) := by decide +kernel
theorem d_method_6_code_74 : decode method_6_code 74 = .ok (.sipush 255, 3) := by decide +kernel
theorem d_method_6_code_77 : decode method_6_code 77 = .ok (.iand, 1) := by decide +kernel
theorem d_method_6_code_78 : decode method_6_code 78 = .ok (.i2c, 1) := by decide +kernel
theorem d_method_6_code_79 : decode method_6_code 79 = .ok (.ireturn, 1) := by decide +kernel
theorem d_method_6_code_11 : decode method_6_code 11 = .ok (.iload 4, 2) := by decide +kernel
theorem d_method_6_code_13 : decode method_6_code 13 = .ok (.invokestatic 44, 3) := by decide +kernel
theorem pd_0 : parseMethodDescriptor "(I)C" = some ⟨[.int], some .char⟩ := by decide +kernel
theorem d_method_6_code_16 : decode method_6_code 16 = .ok (.ireturn, 1) := by decide +kernel
set_option maxRecDepth 65536 in
set_option maxHeartbeats 40000000 in
theorem rm_place (l : Launch) (Z : State) (a0 : Array Value) (hw : ∀ d ∈ tables_1, d.before a0 Z = true) (ws : List Jvm.Cond) (i : Int32) (A : Nat) (B : Nat) (bl : Int32) (q : Int32) (iN : Nat) (h0 : Heap) (n0 : Nat) (X00 : Old Z n0 h0) (hi : i = Int32.ofNat iN) (hi4 : iN ≤ 4) (hA : A ≤ 2) (hB : B ≤ 2) :
    MetFree l (⟨"com/example/refledger/refledger/PublicKeyTextTrimPinLaw", "place", "(IIIZI)C"⟩ : MethodName) (head1 (Jvm.Cond.code (⟨"com/example/refledger/refledger/PublicKeyTextTrimPinLaw", "place", "(IIIZI)C"⟩ : MethodName) method_6_code 6 (some .char) :: ws) ({ frames := 1, cells := 0, slots := 0, locals := 13 } : Room)) (fun aa_ U => aa_ = #[(.int i), (.int (Int32.ofNat A)), (.int (Int32.ofNat B)), (.int bl), (.int q)] ∧ Z.Warmed39 U.vm ∧ U.heap = h0) (fun _ _ _ _ _ => True) (fun _ U o U' => ∃ v L, o = .returned v ∧ Q_place Z i A B bl q iN h0 n0 v U'.heap L ∧ FrameEnd U o U' L ({ frames := 1, cells := 0, slots := 0, locals := 13 } : Room).cells ({ frames := 1, cells := 0, slots := 0, locals := 13 } : Room).slots) := by
  refine MetFree.of_bodySF (plainFor_of_name pn_0) hisR ?_
  intro p e s m args below meth c s₁ Bd hml0 hP hK
  obtain ⟨rfl, hZ, hh⟩ := hP
  have hx := Bd.exec
  have hby := Bd.bytes
  have hml : c.maxLocals = 6 := hml0
  have hown : s.vm.findClass "com/example/refledger/refledger/PublicKeyTextTrimPinLaw" = some m.cls := findClass_of_methodNamed Bd.named
  have hnm := (name_of_methodNamed Bd.named Bd.method).1
  have hlk : meth.locks = false := BodyLoose.notSynchronized Bd
  have X0 : Stand p l e ({ frames := 1, cells := 0, slots := 0, locals := 13 } : Room) s m #[(.int i), (.int (Int32.ofNat A)), (.int (Int32.ofNat B)), (.int bl), (.int q)] below meth c s₁ [] 0 0 := Stand.of_body Bd
  have e0 : s₁.heap = h0 := by rw [← hh, Bd.state]; rfl
  have N0 := Fr.nil n0
  suffices G : Go p e below s (Q_place Z i A B bl q iN h0 n0) 0 0 s₁ (mkF m 0 #[.val (.int i), .val (.int (Int32.ofNat A)), .val (.int (Int32.ofNat B)), .val (.int bl), .val (.int q), .unset] []) by
    obtain ⟨s2, o, h1, h2⟩ := G
    exact ⟨s2, o, castTop (ef_place m i bl q) h1, h2⟩
  refine Go.by (T' := s₁) (g' := (mkF m 1 #[.val (.int i), .val (.int (Int32.ofNat A)), .val (.int (Int32.ofNat B)), .val (.int bl), .val (.int q), .unset] [(.int bl)])) (fun t_ k_ => XS.iloadN X0.here hx rfl (hb hby d_method_6_code_0) rfl k_) ?_
  by_cases hbl : bl = (0 : Int32)
  · skip
    refine Go.by (T' := s₁) (g' := (mkF m 4 #[.val (.int i), .val (.int (Int32.ofNat A)), .val (.int (Int32.ofNat B)), .val (.int bl), .val (.int q), .unset] [])) (fun t_ k_ => XS.ifNo X0.here hx rfl (hb hby d_method_6_code_1) rfl ((if0 _ _).trans (teq hbl).2) k_) ?_
    refine Go.by (T' := s₁) (g' := (mkF m 5 #[.val (.int i), .val (.int (Int32.ofNat A)), .val (.int (Int32.ofNat B)), .val (.int bl), .val (.int q), .unset] [(.int i)])) (fun t_ k_ => XS.iloadN X0.here hx rfl (hb hby d_method_6_code_4) rfl k_) ?_
    refine Go.by (T' := s₁) (g' := (mkF m 6 #[.val (.int i), .val (.int (Int32.ofNat A)), .val (.int (Int32.ofNat B)), .val (.int bl), .val (.int q), .unset] [(.int (5 : Int32)), (.int i)])) (fun t_ k_ => XS.iconst X0.here hx rfl (hb hby d_method_6_code_5) k_) ?_
    refine Go.by (T' := s₁) (g' := (mkF m 7 #[.val (.int i), .val (.int (Int32.ofNat A)), .val (.int (Int32.ofNat B)), .val (.int bl), .val (.int q), .unset] [(.int (Int32.ofNat B)), (.int (5 : Int32)), (.int i)])) (fun t_ k_ => XS.iloadN X0.here hx rfl (hb hby d_method_6_code_6) rfl k_) ?_
    refine Go.by (T' := s₁) (g' := (mkF m 8 #[.val (.int i), .val (.int (Int32.ofNat A)), .val (.int (Int32.ofNat B)), .val (.int bl), .val (.int q), .unset] [(.int ((5 : Int32) - (Int32.ofNat B))), (.int i)])) (fun t_ k_ => XS.isub X0.here hx rfl (hb hby d_method_6_code_7) rfl k_) ?_
    by_cases hq : iN + B < 5
    · skip
      refine Go.by (T' := s₁) (g' := (mkF m 17 #[.val (.int i), .val (.int (Int32.ofNat A)), .val (.int (Int32.ofNat B)), .val (.int bl), .val (.int q), .unset] [])) (fun t_ k_ => XS.icmpYes X0.here hx rfl (pc0 := 8) (pc' := 17) rfl (hb hby d_method_6_code_8) rfl (tlt (by rw [hi, show (5 : Int32) = Int32.ofNat 5 from rfl, own_sub (by omega), own_lt (by omega) (by omega)]; omega)).1 (by decide) (by decide) k_) ?_
      refine Go.by (T' := s₁) (g' := (mkF m 18 #[.val (.int i), .val (.int (Int32.ofNat A)), .val (.int (Int32.ofNat B)), .val (.int bl), .val (.int q), .unset] [(.int i)])) (fun t_ k_ => XS.iloadN X0.here hx rfl (hb hby d_method_6_code_17) rfl k_) ?_
      refine Go.by (T' := s₁) (g' := (mkF m 19 #[.val (.int i), .val (.int (Int32.ofNat A)), .val (.int (Int32.ofNat B)), .val (.int bl), .val (.int q), .unset] [(.int (Int32.ofNat A)), (.int i)])) (fun t_ k_ => XS.iloadN X0.here hx rfl (hb hby d_method_6_code_18) rfl k_) ?_
      by_cases hqa : iN < A
      · skip
        refine Go.by (T' := s₁) (g' := (mkF m 22 #[.val (.int i), .val (.int (Int32.ofNat A)), .val (.int (Int32.ofNat B)), .val (.int bl), .val (.int q), .unset] [])) (fun t_ k_ => XS.icmpNo X0.here hx rfl (hb hby d_method_6_code_19) rfl (tlt (by rw [hi, own_lt (by omega) (by omega)]; exact hqa)).2.1 k_) ?_
        refine Go.by (T' := s₁) (g' := (mkF m 24 #[.val (.int i), .val (.int (Int32.ofNat A)), .val (.int (Int32.ofNat B)), .val (.int bl), .val (.int q), .unset] [(.int q)])) (fun t_ k_ => XS.iload X0.here hx rfl (hb hby d_method_6_code_22) rfl k_) ?_
        refine Go.by (T' := s₁) (g' := (mkF m 25 #[.val (.int i), .val (.int (Int32.ofNat A)), .val (.int (Int32.ofNat B)), .val (.int bl), .val (.int q), .unset] [(.int (1 : Int32)), (.int q)])) (fun t_ k_ => XS.iconst X0.here hx rfl (hb hby d_method_6_code_24) k_) ?_
        refine Go.by (T' := s₁) (g' := (mkF m 26 #[.val (.int i), .val (.int (Int32.ofNat A)), .val (.int (Int32.ofNat B)), .val (.int bl), .val (.int q), .unset] [(.int (q &&& (1 : Int32)))])) (fun t_ k_ => XS.iand X0.here hx rfl (hb hby d_method_6_code_25) rfl k_) ?_
        by_cases hc1 : (q &&& (1 : Int32)) = (0 : Int32)
        · skip
          refine Go.by (T' := s₁) (g' := (mkF m 29 #[.val (.int i), .val (.int (Int32.ofNat A)), .val (.int (Int32.ofNat B)), .val (.int bl), .val (.int q), .unset] [])) (fun t_ k_ => XS.ifNo X0.here hx rfl (hb hby d_method_6_code_26) rfl ((if0 _ _).trans (teq hc1).2) k_) ?_
          refine Go.by (T' := s₁) (g' := (mkF m 31 #[.val (.int i), .val (.int (Int32.ofNat A)), .val (.int (Int32.ofNat B)), .val (.int bl), .val (.int q), .unset] [(.int (32 : Int32))])) (fun t_ k_ => XS.bipush X0.here hx rfl (hb hby d_method_6_code_29) k_) ?_
          refine Go.by (T' := s₁) (g' := (mkF m 36 #[.val (.int i), .val (.int (Int32.ofNat A)), .val (.int (Int32.ofNat B)), .val (.int bl), .val (.int q), .unset] [(.int (32 : Int32))])) (fun t_ k_ => XS.goto X0.here hx rfl (pc0 := 31) (pc' := 36) rfl (hb hby d_method_6_code_31) (by decide) (by decide) k_) ?_
          refine Go.fin X0 (v := some (.int (nar .char (32 : Int32)))) (fun h => by rw [Bd.returns] at h; cases h) hlk (by decide) (by decide) ?_ (fun fs hr => retN X0 hx (t := .char) Bd.returns (by simp) (hb hby d_method_6_code_36) hr)
          show Q_place Z i A B bl q iN h0 n0 _ s₁.heap _
          rw [e0]
          exact ⟨(32 : Int32), rfl, N0, rfl, ⟨(by decide), fun q1 => absurd hbl q1, fun q1 => absurd hq (by omega), fun _ _ q3 => (by decide)⟩⟩
        · skip
          refine Go.by (T' := s₁) (g' := (mkF m 34 #[.val (.int i), .val (.int (Int32.ofNat A)), .val (.int (Int32.ofNat B)), .val (.int bl), .val (.int q), .unset] [])) (fun t_ k_ => XS.ifYes X0.here hx rfl (pc0 := 26) (pc' := 34) rfl (hb hby d_method_6_code_26) rfl ((if0 _ _).trans (feq hc1).2) (by decide) (by decide) k_) ?_
          refine Go.by (T' := s₁) (g' := (mkF m 36 #[.val (.int i), .val (.int (Int32.ofNat A)), .val (.int (Int32.ofNat B)), .val (.int bl), .val (.int q), .unset] [(.int (9 : Int32))])) (fun t_ k_ => XS.bipush X0.here hx rfl (hb hby d_method_6_code_34) k_) ?_
          refine Go.fin X0 (v := some (.int (nar .char (9 : Int32)))) (fun h => by rw [Bd.returns] at h; cases h) hlk (by decide) (by decide) ?_ (fun fs hr => retN X0 hx (t := .char) Bd.returns (by simp) (hb hby d_method_6_code_36) hr)
          show Q_place Z i A B bl q iN h0 n0 _ s₁.heap _
          rw [e0]
          exact ⟨(9 : Int32), rfl, N0, rfl, ⟨(by decide), fun q1 => absurd hbl q1, fun q1 => absurd hq (by omega), fun _ _ q3 => (by decide)⟩⟩
      · skip
        refine Go.by (T' := s₁) (g' := (mkF m 37 #[.val (.int i), .val (.int (Int32.ofNat A)), .val (.int (Int32.ofNat B)), .val (.int bl), .val (.int q), .unset] [])) (fun t_ k_ => XS.icmpYes X0.here hx rfl (pc0 := 19) (pc' := 37) rfl (hb hby d_method_6_code_19) rfl (flt (by rw [hi, own_lt (by omega) (by omega)]; exact hqa)).2.1 (by decide) (by decide) k_) ?_
        refine Go.by (T' := s₁) (g' := (mkF m 39 #[.val (.int i), .val (.int (Int32.ofNat A)), .val (.int (Int32.ofNat B)), .val (.int bl), .val (.int q), .unset] [(.int q)])) (fun t_ k_ => XS.iload X0.here hx rfl (hb hby d_method_6_code_37) rfl k_) ?_
        refine Go.by (T' := s₁) (g' := (mkF m 41 #[.val (.int i), .val (.int (Int32.ofNat A)), .val (.int (Int32.ofNat B)), .val (.int bl), .val (.int q), .unset] [(.int (8 : Int32)), (.int q)])) (fun t_ k_ => XS.bipush X0.here hx rfl (hb hby d_method_6_code_39) k_) ?_
        refine Go.by (T' := s₁) (g' := (mkF m 42 #[.val (.int i), .val (.int (Int32.ofNat A)), .val (.int (Int32.ofNat B)), .val (.int bl), .val (.int q), .unset] [(.int ((q.toUInt32 >>> ((8 : Int32) &&& 31).toUInt32).toInt32))])) (fun t_ k_ => XS.iushr X0.here hx rfl (hb hby d_method_6_code_41) rfl k_) ?_
        refine Go.by (T' := s₁) (g' := (mkF m 43 #[.val (.int i), .val (.int (Int32.ofNat A)), .val (.int (Int32.ofNat B)), .val (.int bl), .val (.int q), .unset] [(.int (3 : Int32)), (.int ((q.toUInt32 >>> ((8 : Int32) &&& 31).toUInt32).toInt32))])) (fun t_ k_ => XS.iconst X0.here hx rfl (hb hby d_method_6_code_42) k_) ?_
        refine Go.by (T' := s₁) (g' := (mkF m 44 #[.val (.int i), .val (.int (Int32.ofNat A)), .val (.int (Int32.ofNat B)), .val (.int bl), .val (.int q), .unset] [(.int (((q.toUInt32 >>> ((8 : Int32) &&& 31).toUInt32).toInt32) &&& (3 : Int32)))])) (fun t_ k_ => XS.iand X0.here hx rfl (hb hby d_method_6_code_43) rfl k_) ?_
        refine Go.by (T' := s₁) (g' := (mkF m 46 #[.val (.int i), .val (.int (Int32.ofNat A)), .val (.int (Int32.ofNat B)), .val (.int bl), .val (.int q), .val (.int (((q.toUInt32 >>> ((8 : Int32) &&& 31).toUInt32).toInt32) &&& (3 : Int32)))] [])) (fun t_ k_ => XS.istore X0.here hx rfl (hb hby d_method_6_code_44) rfl (l' := #[.val (.int i), .val (.int (Int32.ofNat A)), .val (.int (Int32.ofNat B)), .val (.int bl), .val (.int q), .val (.int (((q.toUInt32 >>> ((8 : Int32) &&& 31).toUInt32).toInt32) &&& (3 : Int32)))]) rfl k_) ?_
        refine Go.by (T' := s₁) (g' := (mkF m 48 #[.val (.int i), .val (.int (Int32.ofNat A)), .val (.int (Int32.ofNat B)), .val (.int bl), .val (.int q), .val (.int (((q.toUInt32 >>> ((8 : Int32) &&& 31).toUInt32).toInt32) &&& (3 : Int32)))] [(.int (((q.toUInt32 >>> ((8 : Int32) &&& 31).toUInt32).toInt32) &&& (3 : Int32)))])) (fun t_ k_ => XS.iload X0.here hx rfl (hb hby d_method_6_code_46) rfl k_) ?_
        obtain ⟨sl2, hsl2⟩ : ∃ z : Int32, z = (((q.toUInt32 >>> ((8 : Int32) &&& 31).toUInt32).toInt32) &&& (3 : Int32)) := ⟨_, rfl⟩
        rw [← hsl2]
        by_cases hc3 : sl2 = (0 : Int32)
        · skip
          refine Go.by (T' := s₁) (g' := (mkF m 51 #[.val (.int i), .val (.int (Int32.ofNat A)), .val (.int (Int32.ofNat B)), .val (.int bl), .val (.int q), .val (.int sl2)] [])) (fun t_ k_ => XS.ifNo X0.here hx rfl (hb hby d_method_6_code_48) rfl ((if0 _ _).trans (teq hc3).2) k_) ?_
          refine Go.by (T' := s₁) (g' := (mkF m 53 #[.val (.int i), .val (.int (Int32.ofNat A)), .val (.int (Int32.ofNat B)), .val (.int bl), .val (.int q), .val (.int sl2)] [(.int (32 : Int32))])) (fun t_ k_ => XS.bipush X0.here hx rfl (hb hby d_method_6_code_51) k_) ?_
          refine Go.fin X0 (v := some (.int (nar .char (32 : Int32)))) (fun h => by rw [Bd.returns] at h; cases h) hlk (by decide) (by decide) ?_ (fun fs hr => retN X0 hx (t := .char) Bd.returns (by simp) (hb hby d_method_6_code_53) hr)
          show Q_place Z i A B bl q iN h0 n0 _ s₁.heap _
          rw [e0]
          exact ⟨(32 : Int32), rfl, N0, rfl, ⟨(by decide), fun q1 => absurd hbl q1, fun q1 => absurd hq (by omega), fun _ _ q3 => absurd q3 hqa⟩⟩
        · skip
          refine Go.by (T' := s₁) (g' := (mkF m 54 #[.val (.int i), .val (.int (Int32.ofNat A)), .val (.int (Int32.ofNat B)), .val (.int bl), .val (.int q), .val (.int sl2)] [])) (fun t_ k_ => XS.ifYes X0.here hx rfl (pc0 := 48) (pc' := 54) rfl (hb hby d_method_6_code_48) rfl ((if0 _ _).trans (feq hc3).2) (by decide) (by decide) k_) ?_
          refine Go.by (T' := s₁) (g' := (mkF m 56 #[.val (.int i), .val (.int (Int32.ofNat A)), .val (.int (Int32.ofNat B)), .val (.int bl), .val (.int q), .val (.int sl2)] [(.int sl2)])) (fun t_ k_ => XS.iload X0.here hx rfl (hb hby d_method_6_code_54) rfl k_) ?_
          refine Go.by (T' := s₁) (g' := (mkF m 57 #[.val (.int i), .val (.int (Int32.ofNat A)), .val (.int (Int32.ofNat B)), .val (.int bl), .val (.int q), .val (.int sl2)] [(.int (1 : Int32)), (.int sl2)])) (fun t_ k_ => XS.iconst X0.here hx rfl (hb hby d_method_6_code_56) k_) ?_
          by_cases hc4 : sl2 = (1 : Int32)
          · skip
            refine Go.by (T' := s₁) (g' := (mkF m 60 #[.val (.int i), .val (.int (Int32.ofNat A)), .val (.int (Int32.ofNat B)), .val (.int bl), .val (.int q), .val (.int sl2)] [])) (fun t_ k_ => XS.icmpNo X0.here hx rfl (hb hby d_method_6_code_57) rfl (teq hc4).2 k_) ?_
            refine Go.by (T' := s₁) (g' := (mkF m 62 #[.val (.int i), .val (.int (Int32.ofNat A)), .val (.int (Int32.ofNat B)), .val (.int bl), .val (.int q), .val (.int sl2)] [(.int (9 : Int32))])) (fun t_ k_ => XS.bipush X0.here hx rfl (hb hby d_method_6_code_60) k_) ?_
            refine Go.fin X0 (v := some (.int (nar .char (9 : Int32)))) (fun h => by rw [Bd.returns] at h; cases h) hlk (by decide) (by decide) ?_ (fun fs hr => retN X0 hx (t := .char) Bd.returns (by simp) (hb hby d_method_6_code_62) hr)
            show Q_place Z i A B bl q iN h0 n0 _ s₁.heap _
            rw [e0]
            exact ⟨(9 : Int32), rfl, N0, rfl, ⟨(by decide), fun q1 => absurd hbl q1, fun q1 => absurd hq (by omega), fun _ _ q3 => absurd q3 hqa⟩⟩
          · skip
            refine Go.by (T' := s₁) (g' := (mkF m 63 #[.val (.int i), .val (.int (Int32.ofNat A)), .val (.int (Int32.ofNat B)), .val (.int bl), .val (.int q), .val (.int sl2)] [])) (fun t_ k_ => XS.icmpYes X0.here hx rfl (pc0 := 57) (pc' := 63) rfl (hb hby d_method_6_code_57) rfl (feq hc4).2 (by decide) (by decide) k_) ?_
            refine Go.by (T' := s₁) (g' := (mkF m 65 #[.val (.int i), .val (.int (Int32.ofNat A)), .val (.int (Int32.ofNat B)), .val (.int bl), .val (.int q), .val (.int sl2)] [(.int sl2)])) (fun t_ k_ => XS.iload X0.here hx rfl (hb hby d_method_6_code_63) rfl k_) ?_
            refine Go.by (T' := s₁) (g' := (mkF m 66 #[.val (.int i), .val (.int (Int32.ofNat A)), .val (.int (Int32.ofNat B)), .val (.int bl), .val (.int q), .val (.int sl2)] [(.int (2 : Int32)), (.int sl2)])) (fun t_ k_ => XS.iconst X0.here hx rfl (hb hby d_method_6_code_65) k_) ?_
            by_cases hc5 : sl2 = (2 : Int32)
            · skip
              refine Go.by (T' := s₁) (g' := (mkF m 69 #[.val (.int i), .val (.int (Int32.ofNat A)), .val (.int (Int32.ofNat B)), .val (.int bl), .val (.int q), .val (.int sl2)] [])) (fun t_ k_ => XS.icmpNo X0.here hx rfl (hb hby d_method_6_code_66) rfl (teq hc5).2 k_) ?_
              refine Go.by (T' := s₁) (g' := (mkF m 71 #[.val (.int i), .val (.int (Int32.ofNat A)), .val (.int (Int32.ofNat B)), .val (.int bl), .val (.int q), .val (.int sl2)] [(.int (13 : Int32))])) (fun t_ k_ => XS.bipush X0.here hx rfl (hb hby d_method_6_code_69) k_) ?_
              refine Go.fin X0 (v := some (.int (nar .char (13 : Int32)))) (fun h => by rw [Bd.returns] at h; cases h) hlk (by decide) (by decide) ?_ (fun fs hr => retN X0 hx (t := .char) Bd.returns (by simp) (hb hby d_method_6_code_71) hr)
              show Q_place Z i A B bl q iN h0 n0 _ s₁.heap _
              rw [e0]
              exact ⟨(13 : Int32), rfl, N0, rfl, ⟨(by decide), fun q1 => absurd hbl q1, fun q1 => absurd hq (by omega), fun _ _ q3 => absurd q3 hqa⟩⟩
            · skip
              refine Go.by (T' := s₁) (g' := (mkF m 72 #[.val (.int i), .val (.int (Int32.ofNat A)), .val (.int (Int32.ofNat B)), .val (.int bl), .val (.int q), .val (.int sl2)] [])) (fun t_ k_ => XS.icmpYes X0.here hx rfl (pc0 := 66) (pc' := 72) rfl (hb hby d_method_6_code_66) rfl (feq hc5).2 (by decide) (by decide) k_) ?_
              refine Go.by (T' := s₁) (g' := (mkF m 74 #[.val (.int i), .val (.int (Int32.ofNat A)), .val (.int (Int32.ofNat B)), .val (.int bl), .val (.int q), .val (.int sl2)] [(.int q)])) (fun t_ k_ => XS.iload X0.here hx rfl (hb hby d_method_6_code_72) rfl k_) ?_
              refine Go.by (T' := s₁) (g' := (mkF m 77 #[.val (.int i), .val (.int (Int32.ofNat A)), .val (.int (Int32.ofNat B)), .val (.int bl), .val (.int q), .val (.int sl2)] [(.int (255 : Int32)), (.int q)])) (fun t_ k_ => XS.sipush X0.here hx rfl (hb hby d_method_6_code_74) k_) ?_
              refine Go.by (T' := s₁) (g' := (mkF m 78 #[.val (.int i), .val (.int (Int32.ofNat A)), .val (.int (Int32.ofNat B)), .val (.int bl), .val (.int q), .val (.int sl2)] [(.int (q &&& (255 : Int32)))])) (fun t_ k_ => XS.iand X0.here hx rfl (hb hby d_method_6_code_77) rfl k_) ?_
              refine Go.by (T' := s₁) (g' := (mkF m 79 #[.val (.int i), .val (.int (Int32.ofNat A)), .val (.int (Int32.ofNat B)), .val (.int bl), .val (.int q), .val (.int sl2)] [(.int ((q &&& (255 : Int32)).toUInt32.toUInt16.toUInt32.toInt32))])) (fun t_ k_ => XS.i2c X0.here hx rfl (hb hby d_method_6_code_78) rfl k_) ?_
              refine Go.fin X0 (v := some (.int (nar .char ((q &&& (255 : Int32)).toUInt32.toUInt16.toUInt32.toInt32)))) (fun h => by rw [Bd.returns] at h; cases h) hlk (by decide) (by decide) ?_ (fun fs hr => retN X0 hx (t := .char) Bd.returns (by simp) (hb hby d_method_6_code_79) hr)
              show Q_place Z i A B bl q iN h0 n0 _ s₁.heap _
              rw [e0]
              exact ⟨(nar .char ((q &&& (255 : Int32)).toUInt32.toUInt16.toUInt32.toInt32)), rfl, N0, rfl, ⟨own_and255 _, fun q1 => absurd hbl q1, fun q1 => absurd hq (by omega), fun _ _ q3 => absurd q3 hqa⟩⟩
    · skip
      refine Go.by (T' := s₁) (g' := (mkF m 11 #[.val (.int i), .val (.int (Int32.ofNat A)), .val (.int (Int32.ofNat B)), .val (.int bl), .val (.int q), .unset] [])) (fun t_ k_ => XS.icmpNo X0.here hx rfl (hb hby d_method_6_code_8) rfl (flt (by rw [hi, show (5 : Int32) = Int32.ofNat 5 from rfl, own_sub (by omega), own_lt (by omega) (by omega)]; omega)).1 k_) ?_
      refine Go.by (T' := s₁) (g' := (mkF m 13 #[.val (.int i), .val (.int (Int32.ofNat A)), .val (.int (Int32.ofNat B)), .val (.int bl), .val (.int q), .unset] [(.int q)])) (fun t_ k_ => XS.iload X0.here hx rfl (hb hby d_method_6_code_11) rfl k_) ?_
      obtain ⟨_, _, ⟨T6, L6, k6, n6⟩, -, X6, ⟨Lc6, hQ6, l6, y6, z6⟩, st6⟩ := Jvm.LawKit.callS X0 hx (y := (⟨"com/example/refledger/refledger/PublicKeyTextTrimPinLaw", "removable", "(I)C"⟩ : MethodName)) hown (mvT hZ (hw _ (List.mem_of_getElem? (i := 96) rfl))) (mvT hZ (hw _ (List.mem_of_getElem? (i := 97) rfl))) (mvT hZ (hw _ (List.mem_of_getElem? (i := 3) rfl))) (mvT hZ (hw _ (List.mem_of_getElem? (i := 98) rfl))) (by decide) (backOf (W := 0) (rm_rem l Z a0 hw [] q h0 n0 X00 ) hZ (hw _ (List.mem_of_getElem? (i := 98) rfl)) (hw _ (List.mem_of_getElem? (i := 3) rfl)) (by decide) (by decide)) (g := (mkF m 13 #[.val (.int i), .val (.int (Int32.ofNat A)), .val (.int (Int32.ofNat B)), .val (.int bl), .val (.int q), .unset] [(.int q)])) rfl (by rw [hml]; rfl) (argsL := [(.int q)]) (rest := []) (lenOf pd_0 rfl) rfl (by show 2 * 0 + _ ≤ _; exact Nat.le_of_eq rfl) (hb hby d_method_6_code_13) (fun _ _ => ⟨rfl, e0, (by decide : 0 + 0 ≤ _), (by decide : 0 + 0 ≤ _)⟩)
      dsimp only [Pt.U, Pt.locs, Pt.cells, Pt.slots] at X6 l6 y6 z6 st6 hQ6
      subst l6 y6 z6
      obtain ⟨cc_6, rfl, N6q, e6, G6_0⟩ := hQ6
      have N6 := Fr.app N0 N6q
      refine Go.by (T' := T6) (g' := (mkF m 16 #[.val (.int i), .val (.int (Int32.ofNat A)), .val (.int (Int32.ofNat B)), .val (.int bl), .val (.int q), .unset] [(.int cc_6)])) (fun t_ k_ => st6 _ k_) ?_
      have hncc_6 : nar .char cc_6 = cc_6 := own_narc (own_rmr G6_0)
      refine Go.fin X6 (v := some (.int (nar .char cc_6))) (fun h => by rw [Bd.returns] at h; cases h) hlk (by decide) (by decide) ?_ (fun fs hr => retN X6 hx (t := .char) Bd.returns (by simp) (hb hby d_method_6_code_16) hr)
      show Q_place Z i A B bl q iN h0 n0 _ T6.heap _
      rw [e6]
      exact ⟨(nar .char cc_6), rfl, N6, rfl, by rw [hncc_6]; exact ⟨own_rmr G6_0, fun _ => G6_0, fun _ => G6_0, fun q1 q2 q3 => absurd q2 hq⟩⟩
  · skip
    refine Go.by (T' := s₁) (g' := (mkF m 11 #[.val (.int i), .val (.int (Int32.ofNat A)), .val (.int (Int32.ofNat B)), .val (.int bl), .val (.int q), .unset] [])) (fun t_ k_ => XS.ifYes X0.here hx rfl (pc0 := 1) (pc' := 11) rfl (hb hby d_method_6_code_1) rfl ((if0 _ _).trans (feq hbl).2) (by decide) (by decide) k_) ?_
    refine Go.by (T' := s₁) (g' := (mkF m 13 #[.val (.int i), .val (.int (Int32.ofNat A)), .val (.int (Int32.ofNat B)), .val (.int bl), .val (.int q), .unset] [(.int q)])) (fun t_ k_ => XS.iload X0.here hx rfl (hb hby d_method_6_code_11) rfl k_) ?_
    obtain ⟨_, _, ⟨T7, L7, k7, n7⟩, -, X7, ⟨Lc7, hQ7, l7, y7, z7⟩, st7⟩ := Jvm.LawKit.callS X0 hx (y := (⟨"com/example/refledger/refledger/PublicKeyTextTrimPinLaw", "removable", "(I)C"⟩ : MethodName)) hown (mvT hZ (hw _ (List.mem_of_getElem? (i := 96) rfl))) (mvT hZ (hw _ (List.mem_of_getElem? (i := 97) rfl))) (mvT hZ (hw _ (List.mem_of_getElem? (i := 3) rfl))) (mvT hZ (hw _ (List.mem_of_getElem? (i := 98) rfl))) (by decide) (backOf (W := 0) (rm_rem l Z a0 hw [] q h0 n0 X00 ) hZ (hw _ (List.mem_of_getElem? (i := 98) rfl)) (hw _ (List.mem_of_getElem? (i := 3) rfl)) (by decide) (by decide)) (g := (mkF m 13 #[.val (.int i), .val (.int (Int32.ofNat A)), .val (.int (Int32.ofNat B)), .val (.int bl), .val (.int q), .unset] [(.int q)])) rfl (by rw [hml]; rfl) (argsL := [(.int q)]) (rest := []) (lenOf pd_0 rfl) rfl (by show 2 * 0 + _ ≤ _; exact Nat.le_of_eq rfl) (hb hby d_method_6_code_13) (fun _ _ => ⟨rfl, e0, (by decide : 0 + 0 ≤ _), (by decide : 0 + 0 ≤ _)⟩)
    dsimp only [Pt.U, Pt.locs, Pt.cells, Pt.slots] at X7 l7 y7 z7 st7 hQ7
    subst l7 y7 z7
    obtain ⟨cc_7, rfl, N7q, e7, G7_0⟩ := hQ7
    have N7 := Fr.app N0 N7q
    refine Go.by (T' := T7) (g' := (mkF m 16 #[.val (.int i), .val (.int (Int32.ofNat A)), .val (.int (Int32.ofNat B)), .val (.int bl), .val (.int q), .unset] [(.int cc_7)])) (fun t_ k_ => st7 _ k_) ?_
    have hncc_7 : nar .char cc_7 = cc_7 := own_narc (own_rmr G7_0)
    refine Go.fin X7 (v := some (.int (nar .char cc_7))) (fun h => by rw [Bd.returns] at h; cases h) hlk (by decide) (by decide) ?_ (fun fs hr => retN X7 hx (t := .char) Bd.returns (by simp) (hb hby d_method_6_code_16) hr)
    show Q_place Z i A B bl q iN h0 n0 _ T7.heap _
    rw [e7]
    exact ⟨(nar .char cc_7), rfl, N7, rfl, by rw [hncc_7]; exact ⟨own_rmr G7_0, fun _ => G7_0, fun _ => G7_0, fun q1 q2 q3 => absurd q1 hbl⟩⟩
def Q_skip (Z : State) (a : Addr) (tt : Addr) (kb : ClassId) (cs : List Int32) (j : Nat) (G1 : Int32) (G3 : Value) (h0 : Heap) (n0 : Nat) (v : Option Value) (h : Heap) (L : List Loc) : Prop := v = some (.int (Int32.ofNat j)) ∧ Fr n0 L ∧ h = h0
theorem ef_skip (m : MethodId) (a : Addr) : entryFrame m #[(.ref a), (.int (0 : Int32))] 3 = mkF m 0 #[.val (.ref a), .val (.int (0 : Int32)), .unset] [] := by first | (simp [entryFrame, mkF, argsToLocals, Value.category]; done) | rfl
theorem d_prog_12_method_16_code_0 : decode prog_12_method_16_code 0 = .ok (.iload_n 1, 1) := by decide +kernel
theorem d_prog_12_method_16_code_1 : decode prog_12_method_16_code 1 = .ok (.istore_n 2, 1) := by decide +kernel
theorem d_prog_12_method_16_code_2 : decode prog_12_method_16_code 2 = .ok (.iload_n 2, 1) := by decide +kernel
theorem d_prog_12_method_16_code_3 : decode prog_12_method_16_code 3 = .ok (.aload_n 0, 1) := by decide +kernel
theorem d_prog_12_method_16_code_4 : decode prog_12_method_16_code 4 = .ok (.invokevirtual 57, 3) := by decide +kernel
theorem pd_1 : parseMethodDescriptor "()I" = some ⟨[], some .int⟩ := by decide +kernel
theorem d_prog_12_method_16_code_7 : decode prog_12_method_16_code 7 = .ok (.if_icmp .ge 20, 3) := by decide +kernel
theorem d_prog_12_method_16_code_10 : decode prog_12_method_16_code 10 = .ok (.aload_n 0, 1) := by decide +kernel
theorem d_prog_12_method_16_code_11 : decode prog_12_method_16_code 11 = .ok (.iload_n 2, 1) := by decide +kernel
theorem d_prog_12_method_16_code_12 : decode prog_12_method_16_code 12 = .ok (.invokevirtual 63, 3) := by decide +kernel
theorem d_prog_12_method_16_code_15 : decode prog_12_method_16_code 15 = .ok (.invokestatic 67, 3) := by decide +kernel
theorem pd_2 : parseMethodDescriptor "(C)Z" = some ⟨[.char], some .boolean⟩ := by decide +kernel
theorem d_prog_12_method_16_code_18 : decode prog_12_method_16_code 18 = .ok (.ifCond .eq 9, 3) := by decide +kernel
theorem d_prog_12_method_16_code_27 : decode prog_12_method_16_code 27 = .ok (.iload_n 2, 1) := by decide +kernel
theorem d_prog_12_method_16_code_28 : decode prog_12_method_16_code 28 = .ok (.ireturn, 1) := by decide +kernel
theorem d_prog_12_method_16_code_21 : decode prog_12_method_16_code 21 = .ok (.iinc 2 1, 3) := by decide +kernel
theorem d_prog_12_method_16_code_24 : decode prog_12_method_16_code 24 = .ok (.goto (-22), 3) := by decide +kernel
set_option maxRecDepth 65536 in
set_option maxHeartbeats 40000000 in
theorem rm_skip (l : Launch) (Z : State) (a0 : Array Value) (hw : ∀ d ∈ tables_1, d.before a0 Z = true) (ws : List Jvm.Cond) (a : Addr) (tt : Addr) (kb : ClassId) (cs : List Int32) (j : Nat) (G1 : Int32) (G3 : Value) (h0 : Heap) (n0 : Nat) (X00 : Old Z n0 h0) (P0 : Exa Z h0 a "java/lang/String") (P1 : Fld Z h0 a "java/lang/String" "value" "[B" (.ref tt)) (P2 : Fld Z h0 a "java/lang/String" "coder" "B" (.int (0 : Int32))) (P3 : Arv Z h0 tt kb .byte (5 : Int32) ((cs.map (fun c => c.toInt8.toInt32)).map Value.int) (.int (0 : Int32))) (hp : ∀ c ∈ cs, ¬ c < 0 ∧ ¬ (255 : Int32) < c) (hlen : cs.length = 5) (hj5 : j ≤ 5) (hjb : ∀ i, i < j → own_bl (cs.getD i 0)) (hje : j = 5 ∨ ¬ own_bl (cs.getD j 0)) (P9 : Sta Z Z.heap "java/lang/String" "COMPACT_STRINGS" "Z" (.int G1)) (hCS : ¬ (G1 = (0 : Int32))) (P11 : Sta Z Z.heap "jdk/internal/util/Preconditions" "SIOOBE_FORMATTER" "Ljava/util/function/BiFunction;" G3) (hSF : G3.isRef = true) :
    MetFree l (⟨"com/example/refledger/refledger/PublicKeyText", "skipBlanks", "(Ljava/lang/String;I)I"⟩ : MethodName) (head1 (Jvm.Cond.code (⟨"com/example/refledger/refledger/PublicKeyText", "skipBlanks", "(Ljava/lang/String;I)I"⟩ : MethodName) prog_12_method_16_code 3 (some .int) :: ws) ({ frames := 5, cells := 0, slots := 0, locals := 70 } : Room)) (fun aa_ U => aa_ = #[(.ref a), (.int (0 : Int32))] ∧ Z.Warmed39 U.vm ∧ U.heap = h0) (fun _ _ _ _ _ => True) (fun _ U o U' => ∃ v L, o = .returned v ∧ Q_skip Z a tt kb cs j G1 G3 h0 n0 v U'.heap L ∧ FrameEnd U o U' L ({ frames := 5, cells := 0, slots := 0, locals := 70 } : Room).cells ({ frames := 5, cells := 0, slots := 0, locals := 70 } : Room).slots) := by
  refine MetFree.of_bodySF (plainFor_of_name pn_1) hisR ?_
  intro p e s m args below meth c s₁ Bd hml0 hP hK
  obtain ⟨rfl, hZ, hh⟩ := hP
  have hx := Bd.exec
  have hby := Bd.bytes
  have hml : c.maxLocals = 3 := hml0
  have hown : s.vm.findClass "com/example/refledger/refledger/PublicKeyText" = some m.cls := findClass_of_methodNamed Bd.named
  have hnm := (name_of_methodNamed Bd.named Bd.method).1
  have hlk : meth.locks = false := BodyLoose.notSynchronized Bd
  have X0 : Stand p l e ({ frames := 5, cells := 0, slots := 0, locals := 70 } : Room) s m #[(.ref a), (.int (0 : Int32))] below meth c s₁ [] 0 0 := Stand.of_body Bd
  have e0 : s₁.heap = h0 := by rw [← hh, Bd.state]; rfl
  have N0 := Fr.nil n0
  suffices G : Go p e below s (Q_skip Z a tt kb cs j G1 G3 h0 n0) 0 0 s₁ (mkF m 0 #[.val (.ref a), .val (.int (0 : Int32)), .unset] []) by
    obtain ⟨s2, o, h1, h2⟩ := G
    exact ⟨s2, o, castTop (ef_skip m a) h1, h2⟩
  have hcd : StrChars.Road.CodA cs 0 (5 : Int32) ((cs.map (fun c => c.toInt8.toInt32)).map Value.int) := StrChars.Road.codOf (n := 5) hlen (fun x hx => (hp x hx).2)
  have hup := own_up cs hp
  refine Go.by (T' := s₁) (g' := (mkF m 1 #[.val (.ref a), .val (.int (0 : Int32)), .unset] [(.int (0 : Int32))])) (fun t_ k_ => XS.iloadN X0.here hx rfl (hb hby d_prog_12_method_16_code_0) rfl k_) ?_
  refine Go.by (T' := s₁) (g' := (mkF m 2 #[.val (.ref a), .val (.int (0 : Int32)), .val (.int (0 : Int32))] [])) (fun t_ k_ => XS.istoreN X0.here hx rfl (hb hby d_prog_12_method_16_code_1) rfl (l' := #[.val (.ref a), .val (.int (0 : Int32)), .val (.int (0 : Int32))]) rfl k_) ?_
  have LP : ∀ (k n : Nat) {T : State} {L : List Loc}, n + k = j → Stand p l e ({ frames := 5, cells := 0, slots := 0, locals := 70 } : Room) s m #[(.ref a), (.int (0 : Int32))] below meth c T L 0 0 → T.heap = h0 → Fr n0 L → Go p e below s (Q_skip Z a tt kb cs j G1 G3 h0 n0) 0 0 T (mkF m 2 #[.val (.ref a), .val (.int (0 : Int32)), .val (.int (Int32.ofNat n))] []) := by
    intro k
    induction k with
    | zero =>
      intro n T L hk XL eL NL
      refine Go.by (T' := T) (g' := (mkF m 3 #[.val (.ref a), .val (.int (0 : Int32)), .val (.int (Int32.ofNat n))] [(.int (Int32.ofNat n))])) (fun t_ k_ => XS.iloadN XL.here hx rfl (hb hby d_prog_12_method_16_code_2) rfl k_) ?_
      refine Go.by (T' := T) (g' := (mkF m 4 #[.val (.ref a), .val (.int (0 : Int32)), .val (.int (Int32.ofNat n))] [(.ref a), (.int (Int32.ofNat n))])) (fun t_ k_ => XS.aloadN XL.here hx rfl (hb hby d_prog_12_method_16_code_3) rfl rfl k_) ?_
      obtain ⟨cq1, kq1, q1a, q1b, q1c⟩ := isOf hZ eL P0
      obtain ⟨_, _, ⟨T1, L1, k1, n1⟩, -, X1, ⟨Lc1, hQ1, l1, y1, z1⟩, st1⟩ := XL.virtualBack hx (y := (⟨"java/lang/String", "length", "()I"⟩ : MethodName)) (z := (⟨"java/lang/String", "length", "()I"⟩ : MethodName)) hown (mvT hZ (hw _ (List.mem_of_getElem? (i := 44) rfl))) (mvT hZ (hw _ (List.mem_of_getElem? (i := 45) rfl))) (notFace_of_selects (args := #[]) (mvT hZ (hw _ (List.mem_of_getElem? (i := 47) rfl)))) (mvT hZ (hw _ (List.mem_of_getElem? (i := 47) rfl))) (mvT hZ (hw _ (List.mem_of_getElem? (i := 46) rfl))) (by decide) (StrChars.Road.lenW (W := 1) hZ (own_wordsLen hw) (kI := 4) (hw _ (List.mem_of_getElem? (i := 9) rfl)) P0 P1 P2 P3 hcd hup (P9.ext X00.2) hCS (by rw [hlen]; decide) (by decide) (by decide)) q1a q1c (g := (mkF m 4 #[.val (.ref a), .val (.int (0 : Int32)), .val (.int (Int32.ofNat n))] [(.ref a), (.int (Int32.ofNat n))])) rfl (by rw [hml]; rfl) (Steps.refl _) (argsL := []) (rest := [(.int (Int32.ofNat n))]) (lenOf pd_1 rfl) rfl (by show 2 * 0 + _ ≤ _; exact Nat.le_of_eq rfl) (hb hby d_prog_12_method_16_code_4) (fun _ _ => ⟨rfl, eL, (by decide : 0 + 0 ≤ _), (by decide : 0 + 0 ≤ _)⟩)
      dsimp only [Pt.U, Pt.locs, Pt.cells, Pt.slots] at X1 l1 y1 z1 st1 hQ1
      subst l1 y1 z1
      obtain ⟨rfl, rfl, e1⟩ := hQ1
      have N1 := Fr.app NL (Fr.nil n0)
      refine Go.by (T' := T1) (g' := (mkF m 7 #[.val (.ref a), .val (.int (0 : Int32)), .val (.int (Int32.ofNat n))] [(.int (Int32.ofNat cs.length)), (.int (Int32.ofNat n))])) (fun t_ k_ => st1.trans k_) ?_
      by_cases h5 : n < 5
      · skip
        refine Go.by (T' := T1) (g' := (mkF m 10 #[.val (.ref a), .val (.int (0 : Int32)), .val (.int (Int32.ofNat n))] [])) (fun t_ k_ => XS.icmpNo X1.here hx rfl (hb hby d_prog_12_method_16_code_7) rfl (tlt (by rw [hlen, own_lt (by omega) (by omega)]; exact h5)).2.1 k_) ?_
        refine Go.by (T' := T1) (g' := (mkF m 11 #[.val (.ref a), .val (.int (0 : Int32)), .val (.int (Int32.ofNat n))] [(.ref a)])) (fun t_ k_ => XS.aloadN X1.here hx rfl (hb hby d_prog_12_method_16_code_10) rfl rfl k_) ?_
        refine Go.by (T' := T1) (g' := (mkF m 12 #[.val (.ref a), .val (.int (0 : Int32)), .val (.int (Int32.ofNat n))] [(.int (Int32.ofNat n)), (.ref a)])) (fun t_ k_ => XS.iloadN X1.here hx rfl (hb hby d_prog_12_method_16_code_11) rfl k_) ?_
        obtain ⟨cq2, kq2, q2a, q2b, q2c⟩ := isOf hZ e1 P0
        obtain ⟨_, _, ⟨T2, L2, k2, n2⟩, -, X2, ⟨Lc2, hQ2, l2, y2, z2⟩, st2⟩ := X1.virtualBack hx (y := (⟨"java/lang/String", "charAt", "(I)C"⟩ : MethodName)) (z := (⟨"java/lang/String", "charAt", "(I)C"⟩ : MethodName)) hown (mvT hZ (hw _ (List.mem_of_getElem? (i := 54) rfl))) (mvT hZ (hw _ (List.mem_of_getElem? (i := 55) rfl))) (notFace_of_selects (args := #[]) (mvT hZ (hw _ (List.mem_of_getElem? (i := 57) rfl)))) (mvT hZ (hw _ (List.mem_of_getElem? (i := 57) rfl))) (mvT hZ (hw _ (List.mem_of_getElem? (i := 56) rfl))) (by decide) (StrChars.Road.chN (W := 0) hZ (own_wordsChN hw) (kI := 4) (hw _ (List.mem_of_getElem? (i := 9) rfl)) P0 P1 P2 P3 hcd hup (P9.ext X00.2) hCS (P11.ext X00.2) hSF (by rw [hlen]; decide) (i := n) (by rw [hlen]; exact h5) (j := (Int32.ofNat n)) rfl (by decide) (by decide)) q2a q2c (g := (mkF m 12 #[.val (.ref a), .val (.int (0 : Int32)), .val (.int (Int32.ofNat n))] [(.int (Int32.ofNat n)), (.ref a)])) rfl (by rw [hml]; rfl) (Steps.refl _) (argsL := [(.int (Int32.ofNat n))]) (rest := []) (lenOf pd_0 rfl) rfl (by show 2 * 0 + _ ≤ _; exact Nat.le_of_eq rfl) (hb hby d_prog_12_method_16_code_12) (fun _ _ => ⟨rfl, e1, (by decide : 0 + 0 ≤ _), (by decide : 0 + 0 ≤ _)⟩)
        dsimp only [Pt.U, Pt.locs, Pt.cells, Pt.slots] at X2 l2 y2 z2 st2 hQ2
        subst l2 y2 z2
        obtain ⟨rfl, rfl, e2⟩ := hQ2
        have N2 := Fr.app N1 (Fr.nil n0)
        refine Go.by (T' := T2) (g' := (mkF m 15 #[.val (.ref a), .val (.int (0 : Int32)), .val (.int (Int32.ofNat n))] [(.int (cs.getD n 0))])) (fun t_ k_ => st2.trans k_) ?_
        obtain ⟨_, _, ⟨T3, L3, k3, n3⟩, -, X3, ⟨Lc3, hQ3, l3, y3, z3⟩, st3⟩ := Jvm.LawKit.callS X2 hx (y := (⟨"com/example/refledger/refledger/PublicKeyText", "isBlank", "(C)Z"⟩ : MethodName)) hown (mvT hZ (hw _ (List.mem_of_getElem? (i := 76) rfl))) (mvT hZ (hw _ (List.mem_of_getElem? (i := 77) rfl))) (mvT hZ (hw _ (List.mem_of_getElem? (i := 39) rfl))) (mvT hZ (hw _ (List.mem_of_getElem? (i := 78) rfl))) (by decide) (backOf (W := 0) (rm_blP l Z a0 hw [] (cs.getD n 0) h0 n0 X00 ) hZ (hw _ (List.mem_of_getElem? (i := 78) rfl)) (hw _ (List.mem_of_getElem? (i := 39) rfl)) (by decide) (by decide)) (g := (mkF m 15 #[.val (.ref a), .val (.int (0 : Int32)), .val (.int (Int32.ofNat n))] [(.int (cs.getD n 0))])) rfl (by rw [hml]; rfl) (argsL := [(.int (cs.getD n 0))]) (rest := []) (lenOf pd_2 rfl) rfl (by show 2 * 0 + _ ≤ _; exact Nat.le_of_eq rfl) (hb hby d_prog_12_method_16_code_15) (fun _ _ => ⟨rfl, e2, (by decide : 0 + 0 ≤ _), (by decide : 0 + 0 ≤ _)⟩)
        dsimp only [Pt.U, Pt.locs, Pt.cells, Pt.slots] at X3 l3 y3 z3 st3 hQ3
        subst l3 y3 z3
        obtain ⟨rfl, N3q, e3⟩ := hQ3
        have N3 := Fr.app N2 N3q
        refine Go.by (T' := T3) (g' := (mkF m 18 #[.val (.ref a), .val (.int (0 : Int32)), .val (.int (Int32.ofNat n))] [(.int (if own_bl (cs.getD n 0) then 1 else 0))])) (fun t_ k_ => st3 _ k_) ?_
        refine Go.by (T' := T3) (g' := (mkF m 27 #[.val (.ref a), .val (.int (0 : Int32)), .val (.int (Int32.ofNat n))] [])) (fun t_ k_ => XS.ifYes X3.here hx rfl (pc0 := 18) (pc' := 27) rfl (hb hby d_prog_12_method_16_code_18) rfl ((if0 _ _).trans (teq (if_neg (hje.elim (fun q => absurd q (by omega)) (fun q => by rw [show n = j by omega]; exact q)))).1) (by decide) (by decide) k_) ?_
        refine Go.by (T' := T3) (g' := (mkF m 28 #[.val (.ref a), .val (.int (0 : Int32)), .val (.int (Int32.ofNat n))] [(.int (Int32.ofNat n))])) (fun t_ k_ => XS.iloadN X3.here hx rfl (hb hby d_prog_12_method_16_code_27) rfl k_) ?_
        refine Go.fin X3 (v := some (.int (Int32.ofNat n))) (fun h => by rw [Bd.returns] at h; cases h) hlk (by decide) (by decide) ?_ (fun fs hr => retI X3 hx Bd.returns (hb hby d_prog_12_method_16_code_28) hr)
        show Q_skip Z a tt kb cs j G1 G3 h0 n0 _ T3.heap _
        rw [e3]
        exact ⟨by rw [show n = j by omega], N3, rfl⟩
      · skip
        refine Go.by (T' := T1) (g' := (mkF m 27 #[.val (.ref a), .val (.int (0 : Int32)), .val (.int (Int32.ofNat n))] [])) (fun t_ k_ => XS.icmpYes X1.here hx rfl (pc0 := 7) (pc' := 27) rfl (hb hby d_prog_12_method_16_code_7) rfl (flt (by rw [hlen, own_lt (by omega) (by omega)]; exact h5)).2.1 (by decide) (by decide) k_) ?_
        refine Go.by (T' := T1) (g' := (mkF m 28 #[.val (.ref a), .val (.int (0 : Int32)), .val (.int (Int32.ofNat n))] [(.int (Int32.ofNat n))])) (fun t_ k_ => XS.iloadN X1.here hx rfl (hb hby d_prog_12_method_16_code_27) rfl k_) ?_
        refine Go.fin X1 (v := some (.int (Int32.ofNat n))) (fun h => by rw [Bd.returns] at h; cases h) hlk (by decide) (by decide) ?_ (fun fs hr => retI X1 hx Bd.returns (hb hby d_prog_12_method_16_code_28) hr)
        show Q_skip Z a tt kb cs j G1 G3 h0 n0 _ T1.heap _
        rw [e1]
        exact ⟨by rw [show n = j by omega], N1, rfl⟩
    | succ k ih =>
      intro n T L hk XL eL NL
      refine Go.by (T' := T) (g' := (mkF m 3 #[.val (.ref a), .val (.int (0 : Int32)), .val (.int (Int32.ofNat n))] [(.int (Int32.ofNat n))])) (fun t_ k_ => XS.iloadN XL.here hx rfl (hb hby d_prog_12_method_16_code_2) rfl k_) ?_
      refine Go.by (T' := T) (g' := (mkF m 4 #[.val (.ref a), .val (.int (0 : Int32)), .val (.int (Int32.ofNat n))] [(.ref a), (.int (Int32.ofNat n))])) (fun t_ k_ => XS.aloadN XL.here hx rfl (hb hby d_prog_12_method_16_code_3) rfl rfl k_) ?_
      obtain ⟨cq4, kq4, q4a, q4b, q4c⟩ := isOf hZ eL P0
      obtain ⟨_, _, ⟨T4, L4, k4, n4⟩, -, X4, ⟨Lc4, hQ4, l4, y4, z4⟩, st4⟩ := XL.virtualBack hx (y := (⟨"java/lang/String", "length", "()I"⟩ : MethodName)) (z := (⟨"java/lang/String", "length", "()I"⟩ : MethodName)) hown (mvT hZ (hw _ (List.mem_of_getElem? (i := 44) rfl))) (mvT hZ (hw _ (List.mem_of_getElem? (i := 45) rfl))) (notFace_of_selects (args := #[]) (mvT hZ (hw _ (List.mem_of_getElem? (i := 47) rfl)))) (mvT hZ (hw _ (List.mem_of_getElem? (i := 47) rfl))) (mvT hZ (hw _ (List.mem_of_getElem? (i := 46) rfl))) (by decide) (StrChars.Road.lenW (W := 1) hZ (own_wordsLen hw) (kI := 4) (hw _ (List.mem_of_getElem? (i := 9) rfl)) P0 P1 P2 P3 hcd hup (P9.ext X00.2) hCS (by rw [hlen]; decide) (by decide) (by decide)) q4a q4c (g := (mkF m 4 #[.val (.ref a), .val (.int (0 : Int32)), .val (.int (Int32.ofNat n))] [(.ref a), (.int (Int32.ofNat n))])) rfl (by rw [hml]; rfl) (Steps.refl _) (argsL := []) (rest := [(.int (Int32.ofNat n))]) (lenOf pd_1 rfl) rfl (by show 2 * 0 + _ ≤ _; exact Nat.le_of_eq rfl) (hb hby d_prog_12_method_16_code_4) (fun _ _ => ⟨rfl, eL, (by decide : 0 + 0 ≤ _), (by decide : 0 + 0 ≤ _)⟩)
      dsimp only [Pt.U, Pt.locs, Pt.cells, Pt.slots] at X4 l4 y4 z4 st4 hQ4
      subst l4 y4 z4
      obtain ⟨rfl, rfl, e4⟩ := hQ4
      have N4 := Fr.app NL (Fr.nil n0)
      refine Go.by (T' := T4) (g' := (mkF m 7 #[.val (.ref a), .val (.int (0 : Int32)), .val (.int (Int32.ofNat n))] [(.int (Int32.ofNat cs.length)), (.int (Int32.ofNat n))])) (fun t_ k_ => st4.trans k_) ?_
      refine Go.by (T' := T4) (g' := (mkF m 10 #[.val (.ref a), .val (.int (0 : Int32)), .val (.int (Int32.ofNat n))] [])) (fun t_ k_ => XS.icmpNo X4.here hx rfl (hb hby d_prog_12_method_16_code_7) rfl (tlt (by rw [hlen, own_lt (by omega) (by omega)]; omega)).2.1 k_) ?_
      refine Go.by (T' := T4) (g' := (mkF m 11 #[.val (.ref a), .val (.int (0 : Int32)), .val (.int (Int32.ofNat n))] [(.ref a)])) (fun t_ k_ => XS.aloadN X4.here hx rfl (hb hby d_prog_12_method_16_code_10) rfl rfl k_) ?_
      refine Go.by (T' := T4) (g' := (mkF m 12 #[.val (.ref a), .val (.int (0 : Int32)), .val (.int (Int32.ofNat n))] [(.int (Int32.ofNat n)), (.ref a)])) (fun t_ k_ => XS.iloadN X4.here hx rfl (hb hby d_prog_12_method_16_code_11) rfl k_) ?_
      obtain ⟨cq5, kq5, q5a, q5b, q5c⟩ := isOf hZ e4 P0
      obtain ⟨_, _, ⟨T5, L5, k5, n5⟩, -, X5, ⟨Lc5, hQ5, l5, y5, z5⟩, st5⟩ := X4.virtualBack hx (y := (⟨"java/lang/String", "charAt", "(I)C"⟩ : MethodName)) (z := (⟨"java/lang/String", "charAt", "(I)C"⟩ : MethodName)) hown (mvT hZ (hw _ (List.mem_of_getElem? (i := 54) rfl))) (mvT hZ (hw _ (List.mem_of_getElem? (i := 55) rfl))) (notFace_of_selects (args := #[]) (mvT hZ (hw _ (List.mem_of_getElem? (i := 57) rfl)))) (mvT hZ (hw _ (List.mem_of_getElem? (i := 57) rfl))) (mvT hZ (hw _ (List.mem_of_getElem? (i := 56) rfl))) (by decide) (StrChars.Road.chN (W := 0) hZ (own_wordsChN hw) (kI := 4) (hw _ (List.mem_of_getElem? (i := 9) rfl)) P0 P1 P2 P3 hcd hup (P9.ext X00.2) hCS (P11.ext X00.2) hSF (by rw [hlen]; decide) (i := n) (by rw [hlen]; omega) (j := (Int32.ofNat n)) rfl (by decide) (by decide)) q5a q5c (g := (mkF m 12 #[.val (.ref a), .val (.int (0 : Int32)), .val (.int (Int32.ofNat n))] [(.int (Int32.ofNat n)), (.ref a)])) rfl (by rw [hml]; rfl) (Steps.refl _) (argsL := [(.int (Int32.ofNat n))]) (rest := []) (lenOf pd_0 rfl) rfl (by show 2 * 0 + _ ≤ _; exact Nat.le_of_eq rfl) (hb hby d_prog_12_method_16_code_12) (fun _ _ => ⟨rfl, e4, (by decide : 0 + 0 ≤ _), (by decide : 0 + 0 ≤ _)⟩)
      dsimp only [Pt.U, Pt.locs, Pt.cells, Pt.slots] at X5 l5 y5 z5 st5 hQ5
      subst l5 y5 z5
      obtain ⟨rfl, rfl, e5⟩ := hQ5
      have N5 := Fr.app N4 (Fr.nil n0)
      refine Go.by (T' := T5) (g' := (mkF m 15 #[.val (.ref a), .val (.int (0 : Int32)), .val (.int (Int32.ofNat n))] [(.int (cs.getD n 0))])) (fun t_ k_ => st5.trans k_) ?_
      obtain ⟨_, _, ⟨T6, L6, k6, n6⟩, -, X6, ⟨Lc6, hQ6, l6, y6, z6⟩, st6⟩ := Jvm.LawKit.callS X5 hx (y := (⟨"com/example/refledger/refledger/PublicKeyText", "isBlank", "(C)Z"⟩ : MethodName)) hown (mvT hZ (hw _ (List.mem_of_getElem? (i := 76) rfl))) (mvT hZ (hw _ (List.mem_of_getElem? (i := 77) rfl))) (mvT hZ (hw _ (List.mem_of_getElem? (i := 39) rfl))) (mvT hZ (hw _ (List.mem_of_getElem? (i := 78) rfl))) (by decide) (backOf (W := 0) (rm_blP l Z a0 hw [] (cs.getD n 0) h0 n0 X00 ) hZ (hw _ (List.mem_of_getElem? (i := 78) rfl)) (hw _ (List.mem_of_getElem? (i := 39) rfl)) (by decide) (by decide)) (g := (mkF m 15 #[.val (.ref a), .val (.int (0 : Int32)), .val (.int (Int32.ofNat n))] [(.int (cs.getD n 0))])) rfl (by rw [hml]; rfl) (argsL := [(.int (cs.getD n 0))]) (rest := []) (lenOf pd_2 rfl) rfl (by show 2 * 0 + _ ≤ _; exact Nat.le_of_eq rfl) (hb hby d_prog_12_method_16_code_15) (fun _ _ => ⟨rfl, e5, (by decide : 0 + 0 ≤ _), (by decide : 0 + 0 ≤ _)⟩)
      dsimp only [Pt.U, Pt.locs, Pt.cells, Pt.slots] at X6 l6 y6 z6 st6 hQ6
      subst l6 y6 z6
      obtain ⟨rfl, N6q, e6⟩ := hQ6
      have N6 := Fr.app N5 N6q
      refine Go.by (T' := T6) (g' := (mkF m 18 #[.val (.ref a), .val (.int (0 : Int32)), .val (.int (Int32.ofNat n))] [(.int (if own_bl (cs.getD n 0) then 1 else 0))])) (fun t_ k_ => st6 _ k_) ?_
      refine Go.by (T' := T6) (g' := (mkF m 21 #[.val (.ref a), .val (.int (0 : Int32)), .val (.int (Int32.ofNat n))] [])) (fun t_ k_ => XS.ifNo X6.here hx rfl (hb hby d_prog_12_method_16_code_18) rfl ((if0 _ _).trans (feq (by rw [if_pos (hjb n (by omega))]; decide)).1) k_) ?_
      refine Go.by (T' := T6) (g' := (mkF m 24 #[.val (.ref a), .val (.int (0 : Int32)), .val (.int ((Int32.ofNat n) + (1 : Int32)))] [])) (fun t_ k_ => XS.iinc X6.here hx rfl (hb hby d_prog_12_method_16_code_21) rfl (l' := #[.val (.ref a), .val (.int (0 : Int32)), .val (.int ((Int32.ofNat n) + (1 : Int32)))]) rfl k_) ?_
      refine Go.by (T' := T6) (g' := (mkF m 2 #[.val (.ref a), .val (.int (0 : Int32)), .val (.int ((Int32.ofNat n) + (1 : Int32)))] [])) (fun t_ k_ => XS.goto X6.here hx rfl (pc0 := 24) (pc' := 2) rfl (hb hby d_prog_12_method_16_code_24) (by decide) (by decide) k_) ?_
      rw [show (1 : Int32) = Int32.ofNat 1 from rfl, own_add]
      exact ih (n + 1) (by omega) X6 e6 N6
  exact LP j 0 (by omega) X0 e0 N0
def Q_isL1 (Z : State) (a : Addr) (G1 : Int32) (h0 : Heap) (n0 : Nat) (v : Option Value) (h : Heap) (L : List Loc) : Prop := v = some (.int 1) ∧ Fr n0 L ∧ h = h0
theorem pn_2 : plainName "java/lang/String" = true := by first | (simp [plainName, overriddenIn]; done) | decide +kernel
theorem ef_isL1 (m : MethodId) (a : Addr) : entryFrame m #[(.ref a)] 1 = mkF m 0 #[.val (.ref a)] [] := by first | (simp [entryFrame, mkF, argsToLocals, Value.category]; done) | rfl
theorem d_jdk_42_method_154_code_0 : decode jdk_42_method_154_code 0 = .ok (.getstatic 38, 3) := by decide +kernel
theorem d_jdk_42_method_154_code_3 : decode jdk_42_method_154_code 3 = .ok (.ifCond .eq 14, 3) := by decide +kernel
theorem d_jdk_42_method_154_code_6 : decode jdk_42_method_154_code 6 = .ok (.aload_n 0, 1) := by decide +kernel
theorem d_jdk_42_method_154_code_7 : decode jdk_42_method_154_code 7 = .ok (.getfield 15, 3) := by decide +kernel
theorem d_jdk_42_method_154_code_10 : decode jdk_42_method_154_code 10 = .ok (.ifCond .ne 7, 3) := by decide +kernel
theorem d_jdk_42_method_154_code_13 : decode jdk_42_method_154_code 13 = .ok (.iconst 1, 1) := by decide +kernel
theorem d_jdk_42_method_154_code_14 : decode jdk_42_method_154_code 14 = .ok (.goto 4, 3) := by decide +kernel
theorem d_jdk_42_method_154_code_18 : decode jdk_42_method_154_code 18 = .ok (.ireturn, 1) := by decide +kernel
set_option maxRecDepth 65536 in
set_option maxHeartbeats 40000000 in
theorem rm_isL1 (l : Launch) (Z : State) (a0 : Array Value) (hw : ∀ d ∈ tables_1, d.before a0 Z = true) (ws : List Jvm.Cond) (a : Addr) (G1 : Int32) (h0 : Heap) (n0 : Nat) (X00 : Old Z n0 h0) (P0 : Fld Z h0 a "java/lang/String" "coder" "B" (.int (0 : Int32))) (P1 : Sta Z Z.heap "java/lang/String" "COMPACT_STRINGS" "Z" (.int G1)) (hCS : ¬ (G1 = (0 : Int32))) :
    MetFree l (⟨"java/lang/String", "isLatin1", "()Z"⟩ : MethodName) (head1 (Jvm.Cond.code (⟨"java/lang/String", "isLatin1", "()Z"⟩ : MethodName) jdk_42_method_154_code 1 (some .boolean) :: ws) ({ frames := 0, cells := 0, slots := 0, locals := 0 } : Room)) (fun aa_ U => aa_ = #[(.ref a)] ∧ Z.Warmed39 U.vm ∧ U.heap = h0) (fun _ _ _ _ _ => True) (fun _ U o U' => ∃ v L, o = .returned v ∧ Q_isL1 Z a G1 h0 n0 v U'.heap L ∧ FrameEnd U o U' L ({ frames := 0, cells := 0, slots := 0, locals := 0 } : Room).cells ({ frames := 0, cells := 0, slots := 0, locals := 0 } : Room).slots) := by
  refine MetFree.of_bodySF (plainFor_of_name pn_2) hisR ?_
  intro p e s m args below meth c s₁ Bd hml0 hP hK
  obtain ⟨rfl, hZ, hh⟩ := hP
  have hx := Bd.exec
  have hby := Bd.bytes
  have hml : c.maxLocals = 1 := hml0
  have hown : s.vm.findClass "java/lang/String" = some m.cls := findClass_of_methodNamed Bd.named
  have hnm := (name_of_methodNamed Bd.named Bd.method).1
  have hlk : meth.locks = false := BodyLoose.notSynchronized Bd
  have X0 : Stand p l e ({ frames := 0, cells := 0, slots := 0, locals := 0 } : Room) s m #[(.ref a)] below meth c s₁ [] 0 0 := Stand.of_body Bd
  have e0 : s₁.heap = h0 := by rw [← hh, Bd.state]; rfl
  have N0 := Fr.nil n0
  suffices G : Go p e below s (Q_isL1 Z a G1 h0 n0) 0 0 s₁ (mkF m 0 #[.val (.ref a)] []) by
    obtain ⟨s2, o, h1, h2⟩ := G
    exact ⟨s2, o, castTop (ef_isL1 m a) h1, h2⟩
  obtain ⟨T1, X1, e1, st1⟩ := getS2 X0 hx hZ hown (host := "") (Or.inl (hw _ (List.mem_of_getElem? (i := 21) rfl))) Via.refl e0 (P1.ext X00.2) (g := (mkF m 0 #[.val (.ref a)] [])) rfl (hb hby d_jdk_42_method_154_code_0)
  refine Go.by (T' := T1) (g' := (mkF m 3 #[.val (.ref a)] [(.int G1)])) (fun t_ k_ => st1 _ k_) ?_
  refine Go.by (T' := T1) (g' := (mkF m 6 #[.val (.ref a)] [])) (fun t_ k_ => XS.ifNo X1.here hx rfl (hb hby d_jdk_42_method_154_code_3) rfl ((if0 _ _).trans (feq hCS).1) k_) ?_
  refine Go.by (T' := T1) (g' := (mkF m 7 #[.val (.ref a)] [(.ref a)])) (fun t_ k_ => XS.aloadN X1.here hx rfl (hb hby d_jdk_42_method_154_code_6) rfl rfl k_) ?_
  obtain ⟨T2, X2, e2, st2⟩ := getF X1 hx hZ hown (host := "") (Or.inl (hw _ (List.mem_of_getElem? (i := 33) rfl))) Via.refl e1 P0 (g := (mkF m 7 #[.val (.ref a)] [(.ref a)])) rfl rfl (hb hby d_jdk_42_method_154_code_7)
  refine Go.by (T' := T2) (g' := (mkF m 10 #[.val (.ref a)] [(.int (0 : Int32))])) (fun t_ k_ => st2 _ k_) ?_
  refine Go.by (T' := T2) (g' := (mkF m 13 #[.val (.ref a)] [])) (fun t_ k_ => XS.ifNo X2.here hx rfl (hb hby d_jdk_42_method_154_code_10) rfl ((if0 _ _).trans (teq rfl).2) k_) ?_
  refine Go.by (T' := T2) (g' := (mkF m 14 #[.val (.ref a)] [(.int (1 : Int32))])) (fun t_ k_ => XS.iconst X2.here hx rfl (hb hby d_jdk_42_method_154_code_13) k_) ?_
  refine Go.by (T' := T2) (g' := (mkF m 18 #[.val (.ref a)] [(.int (1 : Int32))])) (fun t_ k_ => XS.goto X2.here hx rfl (pc0 := 14) (pc' := 18) rfl (hb hby d_jdk_42_method_154_code_14) (by decide) (by decide) k_) ?_
  refine Go.fin X2 (v := some (.int (nar .boolean (1 : Int32)))) (fun h => by rw [Bd.returns] at h; cases h) hlk (by decide) (by decide) ?_ (fun fs hr => retN X2 hx (t := .boolean) Bd.returns (by simp) (hb hby d_jdk_42_method_154_code_18) hr)
  show Q_isL1 Z a G1 h0 n0 _ T2.heap _
  rw [e2]
  exact ⟨rfl, N0, rfl⟩
def Q_cft (Z : State) (A : Nat) (E : Nat) (G3 : Value) (h0 : Heap) (n0 : Nat) (v : Option Value) (h : Heap) (L : List Loc) : Prop := v = some (.int (Int32.ofNat A)) ∧ Fr n0 L ∧ h = h0
theorem pn_3 : plainName "jdk/internal/util/Preconditions" = true := by first | (simp [plainName, overriddenIn]; done) | decide +kernel
theorem ef_cft (m : MethodId) (G3 : Value) (hSF : G3.isRef = true) : entryFrame m #[(.int (Int32.ofNat A)), (.int (Int32.ofNat E)), (.int (5 : Int32)), G3] 4 = mkF m 0 #[.val (.int (Int32.ofNat A)), .val (.int (Int32.ofNat E)), .val (.int (5 : Int32)), .val G3] [] := by (rcases ref_cases hSF with rfl | ⟨_, rfl⟩) <;> first | (simp [entryFrame, mkF, argsToLocals, Value.category]; done) | rfl
theorem d_jdk_41_method_12_code_0 : decode jdk_41_method_12_code 0 = .ok (.iload_n 0, 1) := by decide +kernel
theorem d_jdk_41_method_12_code_1 : decode jdk_41_method_12_code 1 = .ok (.ifCond .lt 13, 3) := by decide +kernel
theorem d_jdk_41_method_12_code_4 : decode jdk_41_method_12_code 4 = .ok (.iload_n 0, 1) := by decide +kernel
theorem d_jdk_41_method_12_code_5 : decode jdk_41_method_12_code 5 = .ok (.iload_n 1, 1) := by decide +kernel
theorem d_jdk_41_method_12_code_6 : decode jdk_41_method_12_code 6 = .ok (.if_icmp .gt 8, 3) := by decide +kernel
theorem d_jdk_41_method_12_code_9 : decode jdk_41_method_12_code 9 = .ok (.iload_n 1, 1) := by decide +kernel
theorem d_jdk_41_method_12_code_10 : decode jdk_41_method_12_code 10 = .ok (.iload_n 2, 1) := by decide +kernel
theorem d_jdk_41_method_12_code_11 : decode jdk_41_method_12_code 11 = .ok (.if_icmp .le 11, 3) := by decide +kernel
theorem d_jdk_41_method_12_code_22 : decode jdk_41_method_12_code 22 = .ok (.iload_n 0, 1) := by decide +kernel
theorem d_jdk_41_method_12_code_23 : decode jdk_41_method_12_code 23 = .ok (.ireturn, 1) := by decide +kernel
set_option maxRecDepth 65536 in
set_option maxHeartbeats 40000000 in
theorem rm_cft (l : Launch) (Z : State) (a0 : Array Value) (hw : ∀ d ∈ tables_1, d.before a0 Z = true) (ws : List Jvm.Cond) (A : Nat) (E : Nat) (G3 : Value) (h0 : Heap) (n0 : Nat) (X00 : Old Z n0 h0) (hAE : A ≤ E) (hE5 : E ≤ 5) (hSF : G3.isRef = true) :
    MetFree l (⟨"jdk/internal/util/Preconditions", "checkFromToIndex", "(IIILjava/util/function/BiFunction;)I"⟩ : MethodName) (head1 (Jvm.Cond.code (⟨"jdk/internal/util/Preconditions", "checkFromToIndex", "(IIILjava/util/function/BiFunction;)I"⟩ : MethodName) jdk_41_method_12_code 4 (some .int) :: ws) ({ frames := 0, cells := 0, slots := 0, locals := 0 } : Room)) (fun aa_ U => aa_ = #[(.int (Int32.ofNat A)), (.int (Int32.ofNat E)), (.int (5 : Int32)), G3] ∧ Z.Warmed39 U.vm ∧ U.heap = h0) (fun _ _ _ _ _ => True) (fun _ U o U' => ∃ v L, o = .returned v ∧ Q_cft Z A E G3 h0 n0 v U'.heap L ∧ FrameEnd U o U' L ({ frames := 0, cells := 0, slots := 0, locals := 0 } : Room).cells ({ frames := 0, cells := 0, slots := 0, locals := 0 } : Room).slots) := by
  refine MetFree.of_bodySF (plainFor_of_name pn_3) hisR ?_
  intro p e s m args below meth c s₁ Bd hml0 hP hK
  obtain ⟨rfl, hZ, hh⟩ := hP
  have hx := Bd.exec
  have hby := Bd.bytes
  have hml : c.maxLocals = 4 := hml0
  have hown : s.vm.findClass "jdk/internal/util/Preconditions" = some m.cls := findClass_of_methodNamed Bd.named
  have hnm := (name_of_methodNamed Bd.named Bd.method).1
  have hlk : meth.locks = false := BodyLoose.notSynchronized Bd
  have X0 : Stand p l e ({ frames := 0, cells := 0, slots := 0, locals := 0 } : Room) s m #[(.int (Int32.ofNat A)), (.int (Int32.ofNat E)), (.int (5 : Int32)), G3] below meth c s₁ [] 0 0 := Stand.of_body Bd
  have e0 : s₁.heap = h0 := by rw [← hh, Bd.state]; rfl
  have N0 := Fr.nil n0
  suffices G : Go p e below s (Q_cft Z A E G3 h0 n0) 0 0 s₁ (mkF m 0 #[.val (.int (Int32.ofNat A)), .val (.int (Int32.ofNat E)), .val (.int (5 : Int32)), .val G3] []) by
    obtain ⟨s2, o, h1, h2⟩ := G
    exact ⟨s2, o, castTop (ef_cft m G3 hSF) h1, h2⟩
  refine Go.by (T' := s₁) (g' := (mkF m 1 #[.val (.int (Int32.ofNat A)), .val (.int (Int32.ofNat E)), .val (.int (5 : Int32)), .val G3] [(.int (Int32.ofNat A))])) (fun t_ k_ => XS.iloadN X0.here hx rfl (hb hby d_jdk_41_method_12_code_0) rfl k_) ?_
  refine Go.by (T' := s₁) (g' := (mkF m 4 #[.val (.int (Int32.ofNat A)), .val (.int (Int32.ofNat E)), .val (.int (5 : Int32)), .val G3] [])) (fun t_ k_ => XS.ifNo X0.here hx rfl (hb hby d_jdk_41_method_12_code_1) rfl ((if0 _ _).trans (flt (own_nn (by omega))).1) k_) ?_
  refine Go.by (T' := s₁) (g' := (mkF m 5 #[.val (.int (Int32.ofNat A)), .val (.int (Int32.ofNat E)), .val (.int (5 : Int32)), .val G3] [(.int (Int32.ofNat A))])) (fun t_ k_ => XS.iloadN X0.here hx rfl (hb hby d_jdk_41_method_12_code_4) rfl k_) ?_
  refine Go.by (T' := s₁) (g' := (mkF m 6 #[.val (.int (Int32.ofNat A)), .val (.int (Int32.ofNat E)), .val (.int (5 : Int32)), .val G3] [(.int (Int32.ofNat E)), (.int (Int32.ofNat A))])) (fun t_ k_ => XS.iloadN X0.here hx rfl (hb hby d_jdk_41_method_12_code_5) rfl k_) ?_
  refine Go.by (T' := s₁) (g' := (mkF m 9 #[.val (.int (Int32.ofNat A)), .val (.int (Int32.ofNat E)), .val (.int (5 : Int32)), .val G3] [])) (fun t_ k_ => XS.icmpNo X0.here hx rfl (hb hby d_jdk_41_method_12_code_6) rfl (flt (by rw [own_lt (by omega) (by omega)]; omega)).2.2.1 k_) ?_
  refine Go.by (T' := s₁) (g' := (mkF m 10 #[.val (.int (Int32.ofNat A)), .val (.int (Int32.ofNat E)), .val (.int (5 : Int32)), .val G3] [(.int (Int32.ofNat E))])) (fun t_ k_ => XS.iloadN X0.here hx rfl (hb hby d_jdk_41_method_12_code_9) rfl k_) ?_
  refine Go.by (T' := s₁) (g' := (mkF m 11 #[.val (.int (Int32.ofNat A)), .val (.int (Int32.ofNat E)), .val (.int (5 : Int32)), .val G3] [(.int (5 : Int32)), (.int (Int32.ofNat E))])) (fun t_ k_ => XS.iloadN X0.here hx rfl (hb hby d_jdk_41_method_12_code_10) rfl k_) ?_
  refine Go.by (T' := s₁) (g' := (mkF m 22 #[.val (.int (Int32.ofNat A)), .val (.int (Int32.ofNat E)), .val (.int (5 : Int32)), .val G3] [])) (fun t_ k_ => XS.icmpYes X0.here hx rfl (pc0 := 11) (pc' := 22) rfl (hb hby d_jdk_41_method_12_code_11) rfl (flt (by rw [show (5 : Int32) = Int32.ofNat 5 from rfl, own_lt (by omega) (by omega)]; omega)).2.2.2 (by decide) (by decide) k_) ?_
  refine Go.by (T' := s₁) (g' := (mkF m 23 #[.val (.int (Int32.ofNat A)), .val (.int (Int32.ofNat E)), .val (.int (5 : Int32)), .val G3] [(.int (Int32.ofNat A))])) (fun t_ k_ => XS.iloadN X0.here hx rfl (hb hby d_jdk_41_method_12_code_22) rfl k_) ?_
  refine Go.fin X0 (v := some (.int (Int32.ofNat A))) (fun h => by rw [Bd.returns] at h; cases h) hlk (by decide) (by decide) ?_ (fun fs hr => retI X0 hx Bd.returns (hb hby d_jdk_41_method_12_code_23) hr)
  show Q_cft Z A E G3 h0 n0 _ s₁.heap _
  rw [e0]
  exact ⟨rfl, N0, rfl⟩
def Q_cbe (Z : State) (A : Nat) (E : Nat) (G3 : Value) (h0 : Heap) (n0 : Nat) (v : Option Value) (h : Heap) (L : List Loc) : Prop := v = none ∧ Fr n0 L ∧ h = h0
theorem ef_cbe (m : MethodId) : entryFrame m #[(.int (Int32.ofNat A)), (.int (Int32.ofNat E)), (.int (5 : Int32))] 3 = mkF m 0 #[.val (.int (Int32.ofNat A)), .val (.int (Int32.ofNat E)), .val (.int (5 : Int32))] [] := by first | (simp [entryFrame, mkF, argsToLocals, Value.category]; done) | rfl
theorem d_jdk_42_method_158_code_0 : decode jdk_42_method_158_code 0 = .ok (.iload_n 0, 1) := by decide +kernel
theorem d_jdk_42_method_158_code_1 : decode jdk_42_method_158_code 1 = .ok (.iload_n 1, 1) := by decide +kernel
theorem d_jdk_42_method_158_code_2 : decode jdk_42_method_158_code 2 = .ok (.iload_n 2, 1) := by decide +kernel
theorem d_jdk_42_method_158_code_3 : decode jdk_42_method_158_code 3 = .ok (.getstatic 1053, 3) := by decide +kernel
theorem d_jdk_42_method_158_code_6 : decode jdk_42_method_158_code 6 = .ok (.invokestatic 1062, 3) := by decide +kernel
theorem pd_3 : parseMethodDescriptor "(IIILjava/util/function/BiFunction;)I" = some ⟨[.int, .int, .int, (.object "java/util/function/BiFunction")], some .int⟩ := by decide +kernel
theorem d_jdk_42_method_158_code_9 : decode jdk_42_method_158_code 9 = .ok (.pop, 1) := by decide +kernel
theorem d_jdk_42_method_158_code_10 : decode jdk_42_method_158_code 10 = .ok (.return_, 1) := by decide +kernel
set_option maxRecDepth 65536 in
set_option maxHeartbeats 40000000 in
theorem rm_cbe (l : Launch) (Z : State) (a0 : Array Value) (hw : ∀ d ∈ tables_1, d.before a0 Z = true) (ws : List Jvm.Cond) (A : Nat) (E : Nat) (G3 : Value) (h0 : Heap) (n0 : Nat) (X00 : Old Z n0 h0) (hAE : A ≤ E) (hE5 : E ≤ 5) (P2 : Sta Z Z.heap "jdk/internal/util/Preconditions" "SIOOBE_FORMATTER" "Ljava/util/function/BiFunction;" G3) (hSF : G3.isRef = true) :
    MetFree l (⟨"java/lang/String", "checkBoundsBeginEnd", "(III)V"⟩ : MethodName) (head1 (Jvm.Cond.code (⟨"java/lang/String", "checkBoundsBeginEnd", "(III)V"⟩ : MethodName) jdk_42_method_158_code 3 none :: ws) ({ frames := 1, cells := 0, slots := 0, locals := 15 } : Room)) (fun aa_ U => aa_ = #[(.int (Int32.ofNat A)), (.int (Int32.ofNat E)), (.int (5 : Int32))] ∧ Z.Warmed39 U.vm ∧ U.heap = h0) (fun _ _ _ _ _ => True) (fun _ U o U' => ∃ v L, o = .returned v ∧ Q_cbe Z A E G3 h0 n0 v U'.heap L ∧ FrameEnd U o U' L ({ frames := 1, cells := 0, slots := 0, locals := 15 } : Room).cells ({ frames := 1, cells := 0, slots := 0, locals := 15 } : Room).slots) := by
  refine MetFree.of_bodySF (plainFor_of_name pn_2) hisR ?_
  intro p e s m args below meth c s₁ Bd hml0 hP hK
  obtain ⟨rfl, hZ, hh⟩ := hP
  have hx := Bd.exec
  have hby := Bd.bytes
  have hml : c.maxLocals = 3 := hml0
  have hown : s.vm.findClass "java/lang/String" = some m.cls := findClass_of_methodNamed Bd.named
  have hnm := (name_of_methodNamed Bd.named Bd.method).1
  have hlk : meth.locks = false := BodyLoose.notSynchronized Bd
  have X0 : Stand p l e ({ frames := 1, cells := 0, slots := 0, locals := 15 } : Room) s m #[(.int (Int32.ofNat A)), (.int (Int32.ofNat E)), (.int (5 : Int32))] below meth c s₁ [] 0 0 := Stand.of_body Bd
  have e0 : s₁.heap = h0 := by rw [← hh, Bd.state]; rfl
  have N0 := Fr.nil n0
  suffices G : Go p e below s (Q_cbe Z A E G3 h0 n0) 0 0 s₁ (mkF m 0 #[.val (.int (Int32.ofNat A)), .val (.int (Int32.ofNat E)), .val (.int (5 : Int32))] []) by
    obtain ⟨s2, o, h1, h2⟩ := G
    exact ⟨s2, o, castTop (ef_cbe m ) h1, h2⟩
  refine Go.by (T' := s₁) (g' := (mkF m 1 #[.val (.int (Int32.ofNat A)), .val (.int (Int32.ofNat E)), .val (.int (5 : Int32))] [(.int (Int32.ofNat A))])) (fun t_ k_ => XS.iloadN X0.here hx rfl (hb hby d_jdk_42_method_158_code_0) rfl k_) ?_
  refine Go.by (T' := s₁) (g' := (mkF m 2 #[.val (.int (Int32.ofNat A)), .val (.int (Int32.ofNat E)), .val (.int (5 : Int32))] [(.int (Int32.ofNat E)), (.int (Int32.ofNat A))])) (fun t_ k_ => XS.iloadN X0.here hx rfl (hb hby d_jdk_42_method_158_code_1) rfl k_) ?_
  refine Go.by (T' := s₁) (g' := (mkF m 3 #[.val (.int (Int32.ofNat A)), .val (.int (Int32.ofNat E)), .val (.int (5 : Int32))] [(.int (5 : Int32)), (.int (Int32.ofNat E)), (.int (Int32.ofNat A))])) (fun t_ k_ => XS.iloadN X0.here hx rfl (hb hby d_jdk_42_method_158_code_2) rfl k_) ?_
  obtain ⟨T1, X1, e1, st1⟩ := getS2 X0 hx hZ hown (host := "") (Or.inl (hw _ (List.mem_of_getElem? (i := 71) rfl))) Via.refl e0 (P2.ext X00.2) (g := (mkF m 3 #[.val (.int (Int32.ofNat A)), .val (.int (Int32.ofNat E)), .val (.int (5 : Int32))] [(.int (5 : Int32)), (.int (Int32.ofNat E)), (.int (Int32.ofNat A))])) rfl (hb hby d_jdk_42_method_158_code_3)
  refine Go.by (T' := T1) (g' := (mkF m 6 #[.val (.int (Int32.ofNat A)), .val (.int (Int32.ofNat E)), .val (.int (5 : Int32))] [G3, (.int (5 : Int32)), (.int (Int32.ofNat E)), (.int (Int32.ofNat A))])) (fun t_ k_ => st1 _ k_) ?_
  obtain ⟨_, _, ⟨T2, L2, k2, n2⟩, -, X2, ⟨Lc2, hQ2, l2, y2, z2⟩, st2⟩ := Jvm.LawKit.callS X1 hx (y := (⟨"jdk/internal/util/Preconditions", "checkFromToIndex", "(IIILjava/util/function/BiFunction;)I"⟩ : MethodName)) hown (mvT hZ (hw _ (List.mem_of_getElem? (i := 88) rfl))) (mvT hZ (hw _ (List.mem_of_getElem? (i := 89) rfl))) (mvT hZ (hw _ (List.mem_of_getElem? (i := 72) rfl))) (mvT hZ (hw _ (List.mem_of_getElem? (i := 90) rfl))) (by decide) (backOf (W := 0) (rm_cft l Z a0 hw [] A E G3 h0 n0 X00 hAE hE5 hSF) hZ (hw _ (List.mem_of_getElem? (i := 90) rfl)) (hw _ (List.mem_of_getElem? (i := 72) rfl)) (by decide) (by decide)) (g := (mkF m 6 #[.val (.int (Int32.ofNat A)), .val (.int (Int32.ofNat E)), .val (.int (5 : Int32))] [G3, (.int (5 : Int32)), (.int (Int32.ofNat E)), (.int (Int32.ofNat A))])) rfl (by rw [hml]; rfl) (argsL := [(.int (Int32.ofNat A)), (.int (Int32.ofNat E)), (.int (5 : Int32)), G3]) (rest := []) (lenOf pd_3 rfl) rfl (by show 2 * 0 + _ ≤ _; exact Nat.le_of_eq rfl) (hb hby d_jdk_42_method_158_code_6) (fun _ _ => ⟨rfl, e1, (by decide : 0 + 0 ≤ _), (by decide : 0 + 0 ≤ _)⟩)
  dsimp only [Pt.U, Pt.locs, Pt.cells, Pt.slots] at X2 l2 y2 z2 st2 hQ2
  subst l2 y2 z2
  obtain ⟨rfl, N2q, e2⟩ := hQ2
  have N2 := Fr.app N0 N2q
  refine Go.by (T' := T2) (g' := (mkF m 9 #[.val (.int (Int32.ofNat A)), .val (.int (Int32.ofNat E)), .val (.int (5 : Int32))] [(.int (Int32.ofNat A))])) (fun t_ k_ => st2 _ k_) ?_
  refine Go.by (T' := T2) (g' := (mkF m 10 #[.val (.int (Int32.ofNat A)), .val (.int (Int32.ofNat E)), .val (.int (5 : Int32))] [])) (fun t_ k_ => XS.pop X2.here hx rfl (hb hby d_jdk_42_method_158_code_9) rfl rfl k_) ?_
  refine Go.fin X2 (v := none) (fun _ => rfl) hlk (by decide) (by decide) ?_ (fun fs hr => X2.returnOut hx Bd.returns (hb hby d_jdk_42_method_158_code_10) hr)
  show Q_cbe Z A E G3 h0 n0 _ T2.heap _
  rw [e2]
  exact ⟨rfl, N2, rfl⟩
def Q_min (Z : State) (u : Int32) (v2 : Int32) (h0 : Heap) (n0 : Nat) (v : Option Value) (h : Heap) (L : List Loc) : Prop := v = some (.int v2) ∧ Fr n0 L ∧ h = h0
theorem ef_min (m : MethodId) (u : Int32) (v2 : Int32) : entryFrame m #[(.int u), (.int v2)] 2 = mkF m 0 #[.val (.int u), .val (.int v2)] [] := by first | (simp [entryFrame, mkF, argsToLocals, Value.category]; done) | rfl
theorem d_jdk_29_method_69_code_0 : decode jdk_29_method_69_code 0 = .ok (.iload_n 0, 1) := by decide +kernel
theorem d_jdk_29_method_69_code_1 : decode jdk_29_method_69_code 1 = .ok (.iload_n 1, 1) := by decide +kernel
theorem d_jdk_29_method_69_code_2 : decode jdk_29_method_69_code 2 = .ok (.if_icmp .gt 7, 3) := by decide +kernel
theorem d_jdk_29_method_69_code_9 : decode jdk_29_method_69_code 9 = .ok (.iload_n 1, 1) := by decide +kernel
theorem d_jdk_29_method_69_code_10 : decode jdk_29_method_69_code 10 = .ok (.ireturn, 1) := by decide +kernel
theorem d_jdk_29_method_69_code_5 : decode jdk_29_method_69_code 5 = .ok (.iload_n 0, 1) := by decide +kernel
theorem d_jdk_29_method_69_code_6 : decode jdk_29_method_69_code 6 = .ok (.goto 4, 3) := by decide +kernel
set_option maxRecDepth 65536 in
set_option maxHeartbeats 40000000 in
theorem rm_min (l : Launch) (Z : State) (a0 : Array Value) (hw : ∀ d ∈ tables_1, d.before a0 Z = true) (ws : List Jvm.Cond) (u : Int32) (v2 : Int32) (h0 : Heap) (n0 : Nat) (X00 : Old Z n0 h0) (huv : ¬ u < v2) :
    MetFree l (⟨"java/lang/Math", "min", "(II)I"⟩ : MethodName) (head1 (Jvm.Cond.code (⟨"java/lang/Math", "min", "(II)I"⟩ : MethodName) jdk_29_method_69_code 2 (some .int) :: ws) ({ frames := 0, cells := 0, slots := 0, locals := 0 } : Room)) (fun aa_ U => aa_ = #[(.int u), (.int v2)] ∧ Z.Warmed39 U.vm ∧ U.heap = h0) (fun _ _ _ _ _ => True) (fun _ U o U' => ∃ v L, o = .returned v ∧ Q_min Z u v2 h0 n0 v U'.heap L ∧ FrameEnd U o U' L ({ frames := 0, cells := 0, slots := 0, locals := 0 } : Room).cells ({ frames := 0, cells := 0, slots := 0, locals := 0 } : Room).slots) := by
  refine MetFree.of_bodySF (Jvm.Free.JP.mathPlain rfl (by decide +kernel)) hisR ?_
  intro p e s m args below meth c s₁ Bd hml0 hP hK
  obtain ⟨rfl, hZ, hh⟩ := hP
  have hx := Bd.exec
  have hby := Bd.bytes
  have hml : c.maxLocals = 2 := hml0
  have hown : s.vm.findClass "java/lang/Math" = some m.cls := findClass_of_methodNamed Bd.named
  have hnm := (name_of_methodNamed Bd.named Bd.method).1
  have hlk : meth.locks = false := BodyLoose.notSynchronized Bd
  have X0 : Stand p l e ({ frames := 0, cells := 0, slots := 0, locals := 0 } : Room) s m #[(.int u), (.int v2)] below meth c s₁ [] 0 0 := Stand.of_body Bd
  have e0 : s₁.heap = h0 := by rw [← hh, Bd.state]; rfl
  have N0 := Fr.nil n0
  suffices G : Go p e below s (Q_min Z u v2 h0 n0) 0 0 s₁ (mkF m 0 #[.val (.int u), .val (.int v2)] []) by
    obtain ⟨s2, o, h1, h2⟩ := G
    exact ⟨s2, o, castTop (ef_min m u v2) h1, h2⟩
  refine Go.by (T' := s₁) (g' := (mkF m 1 #[.val (.int u), .val (.int v2)] [(.int u)])) (fun t_ k_ => XS.iloadN X0.here hx rfl (hb hby d_jdk_29_method_69_code_0) rfl k_) ?_
  refine Go.by (T' := s₁) (g' := (mkF m 2 #[.val (.int u), .val (.int v2)] [(.int v2), (.int u)])) (fun t_ k_ => XS.iloadN X0.here hx rfl (hb hby d_jdk_29_method_69_code_1) rfl k_) ?_
  by_cases hlt : v2 < u
  · skip
    refine Go.by (T' := s₁) (g' := (mkF m 9 #[.val (.int u), .val (.int v2)] [])) (fun t_ k_ => XS.icmpYes X0.here hx rfl (pc0 := 2) (pc' := 9) rfl (hb hby d_jdk_29_method_69_code_2) rfl (tlt hlt).2.2.1 (by decide) (by decide) k_) ?_
    refine Go.by (T' := s₁) (g' := (mkF m 10 #[.val (.int u), .val (.int v2)] [(.int v2)])) (fun t_ k_ => XS.iloadN X0.here hx rfl (hb hby d_jdk_29_method_69_code_9) rfl k_) ?_
    refine Go.fin X0 (v := some (.int v2)) (fun h => by rw [Bd.returns] at h; cases h) hlk (by decide) (by decide) ?_ (fun fs hr => retI X0 hx Bd.returns (hb hby d_jdk_29_method_69_code_10) hr)
    show Q_min Z u v2 h0 n0 _ s₁.heap _
    rw [e0]
    exact ⟨rfl, N0, rfl⟩
  · skip
    refine Go.by (T' := s₁) (g' := (mkF m 5 #[.val (.int u), .val (.int v2)] [])) (fun t_ k_ => XS.icmpNo X0.here hx rfl (hb hby d_jdk_29_method_69_code_2) rfl (flt hlt).2.2.1 k_) ?_
    refine Go.by (T' := s₁) (g' := (mkF m 6 #[.val (.int u), .val (.int v2)] [(.int u)])) (fun t_ k_ => XS.iloadN X0.here hx rfl (hb hby d_jdk_29_method_69_code_5) rfl k_) ?_
    refine Go.by (T' := s₁) (g' := (mkF m 10 #[.val (.int u), .val (.int v2)] [(.int u)])) (fun t_ k_ => XS.goto X0.here hx rfl (pc0 := 6) (pc' := 10) rfl (hb hby d_jdk_29_method_69_code_6) (by decide) (by decide) k_) ?_
    refine Go.fin X0 (v := some (.int u)) (fun h => by rw [Bd.returns] at h; cases h) hlk (by decide) (by decide) ?_ (fun fs hr => retI X0 hx Bd.returns (hb hby d_jdk_29_method_69_code_10) hr)
    show Q_min Z u v2 h0 n0 _ s₁.heap _
    rw [e0]
    exact ⟨by rw [show u = v2 from own_antisym huv hlt], N0, rfl⟩
def Q_clen (Z : State) (A : Nat) (E : Nat) (h0 : Heap) (n0 : Nat) (v : Option Value) (h : Heap) (L : List Loc) : Prop := v = none ∧ Fr n0 L ∧ h = h0
theorem pn_4 : plainName "java/util/Arrays" = true := by first | (simp [plainName, overriddenIn]; done) | decide +kernel
theorem ef_clen (m : MethodId) : entryFrame m #[(.int (Int32.ofNat A)), (.int (Int32.ofNat E))] 2 = mkF m 0 #[.val (.int (Int32.ofNat A)), .val (.int (Int32.ofNat E))] [] := by first | (simp [entryFrame, mkF, argsToLocals, Value.category]; done) | rfl
theorem d_jdk_65_method_131_code_0 : decode jdk_65_method_131_code 0 = .ok (.iload_n 1, 1) := by decide +kernel
theorem d_jdk_65_method_131_code_1 : decode jdk_65_method_131_code 1 = .ok (.iload_n 0, 1) := by decide +kernel
theorem d_jdk_65_method_131_code_2 : decode jdk_65_method_131_code 2 = .ok (.if_icmp .ge 35, 3) := by decide +kernel
theorem d_jdk_65_method_131_code_37 : decode jdk_65_method_131_code 37 = .ok (.return_, 1) := by decide +kernel
set_option maxRecDepth 65536 in
set_option maxHeartbeats 40000000 in
theorem rm_clen (l : Launch) (Z : State) (a0 : Array Value) (hw : ∀ d ∈ tables_1, d.before a0 Z = true) (ws : List Jvm.Cond) (A : Nat) (E : Nat) (h0 : Heap) (n0 : Nat) (X00 : Old Z n0 h0) (hAE : A ≤ E) (hE5 : E ≤ 5) :
    MetFree l (⟨"java/util/Arrays", "checkLength", "(II)V"⟩ : MethodName) (head1 (Jvm.Cond.code (⟨"java/util/Arrays", "checkLength", "(II)V"⟩ : MethodName) jdk_65_method_131_code 2 none :: ws) ({ frames := 0, cells := 0, slots := 0, locals := 0 } : Room)) (fun aa_ U => aa_ = #[(.int (Int32.ofNat A)), (.int (Int32.ofNat E))] ∧ Z.Warmed39 U.vm ∧ U.heap = h0) (fun _ _ _ _ _ => True) (fun _ U o U' => ∃ v L, o = .returned v ∧ Q_clen Z A E h0 n0 v U'.heap L ∧ FrameEnd U o U' L ({ frames := 0, cells := 0, slots := 0, locals := 0 } : Room).cells ({ frames := 0, cells := 0, slots := 0, locals := 0 } : Room).slots) := by
  refine MetFree.of_bodySF (plainFor_of_name pn_4) hisR ?_
  intro p e s m args below meth c s₁ Bd hml0 hP hK
  obtain ⟨rfl, hZ, hh⟩ := hP
  have hx := Bd.exec
  have hby := Bd.bytes
  have hml : c.maxLocals = 2 := hml0
  have hown : s.vm.findClass "java/util/Arrays" = some m.cls := findClass_of_methodNamed Bd.named
  have hnm := (name_of_methodNamed Bd.named Bd.method).1
  have hlk : meth.locks = false := BodyLoose.notSynchronized Bd
  have X0 : Stand p l e ({ frames := 0, cells := 0, slots := 0, locals := 0 } : Room) s m #[(.int (Int32.ofNat A)), (.int (Int32.ofNat E))] below meth c s₁ [] 0 0 := Stand.of_body Bd
  have e0 : s₁.heap = h0 := by rw [← hh, Bd.state]; rfl
  have N0 := Fr.nil n0
  suffices G : Go p e below s (Q_clen Z A E h0 n0) 0 0 s₁ (mkF m 0 #[.val (.int (Int32.ofNat A)), .val (.int (Int32.ofNat E))] []) by
    obtain ⟨s2, o, h1, h2⟩ := G
    exact ⟨s2, o, castTop (ef_clen m ) h1, h2⟩
  refine Go.by (T' := s₁) (g' := (mkF m 1 #[.val (.int (Int32.ofNat A)), .val (.int (Int32.ofNat E))] [(.int (Int32.ofNat E))])) (fun t_ k_ => XS.iloadN X0.here hx rfl (hb hby d_jdk_65_method_131_code_0) rfl k_) ?_
  refine Go.by (T' := s₁) (g' := (mkF m 2 #[.val (.int (Int32.ofNat A)), .val (.int (Int32.ofNat E))] [(.int (Int32.ofNat A)), (.int (Int32.ofNat E))])) (fun t_ k_ => XS.iloadN X0.here hx rfl (hb hby d_jdk_65_method_131_code_1) rfl k_) ?_
  refine Go.by (T' := s₁) (g' := (mkF m 37 #[.val (.int (Int32.ofNat A)), .val (.int (Int32.ofNat E))] [])) (fun t_ k_ => XS.icmpYes X0.here hx rfl (pc0 := 2) (pc' := 37) rfl (hb hby d_jdk_65_method_131_code_2) rfl (flt (by rw [own_lt (by omega) (by omega)]; omega)).2.1 (by decide) (by decide) k_) ?_
  refine Go.fin X0 (v := none) (fun _ => rfl) hlk (by decide) (by decide) ?_ (fun fs hr => X0.returnOut hx Bd.returns (hb hby d_jdk_65_method_131_code_37) hr)
  show Q_clen Z A E h0 n0 _ s₁.heap _
  rw [e0]
  exact ⟨rfl, N0, rfl⟩
def Q_crb (Z : State) (tt : Addr) (kb : ClassId) (cs : List Int32) (A : Nat) (E : Nat) (h0 : Heap) (n0 : Nat) (v : Option Value) (h : Heap) (L : List Loc) : Prop := ∃ (t : Addr) (k2 : ClassId), v = some (.ref t) ∧ Fr n0 L ∧ Keep h0 h [] ∧ h0.size ≤ t ∧ Arv Z h t k2 .byte (Int32.ofNat (E - A)) ((((cs.drop A).take (E - A)).map (fun c => c.toInt8.toInt32)).map Value.int) (.int (0 : Int32))
theorem ef_crb (m : MethodId) (tt : Addr) : entryFrame m #[(.ref tt), (.int (Int32.ofNat A)), (.int (Int32.ofNat E))] 5 = mkF m 0 #[.val (.ref tt), .val (.int (Int32.ofNat A)), .val (.int (Int32.ofNat E)), .unset, .unset] [] := by first | (simp [entryFrame, mkF, argsToLocals, Value.category]; done) | rfl
theorem d_jdk_65_method_133_code_0 : decode jdk_65_method_133_code 0 = .ok (.iload_n 1, 1) := by decide +kernel
theorem d_jdk_65_method_133_code_1 : decode jdk_65_method_133_code 1 = .ok (.iload_n 2, 1) := by decide +kernel
theorem d_jdk_65_method_133_code_2 : decode jdk_65_method_133_code 2 = .ok (.invokestatic 343, 3) := by decide +kernel
theorem pd_4 : parseMethodDescriptor "(II)V" = some ⟨[.int, .int], none⟩ := by decide +kernel
theorem d_jdk_65_method_133_code_5 : decode jdk_65_method_133_code 5 = .ok (.iload_n 2, 1) := by decide +kernel
theorem d_jdk_65_method_133_code_6 : decode jdk_65_method_133_code 6 = .ok (.iload_n 1, 1) := by decide +kernel
theorem d_jdk_65_method_133_code_7 : decode jdk_65_method_133_code 7 = .ok (.isub, 1) := by decide +kernel
theorem d_jdk_65_method_133_code_8 : decode jdk_65_method_133_code 8 = .ok (.istore_n 3, 1) := by decide +kernel
theorem d_jdk_65_method_133_code_9 : decode jdk_65_method_133_code 9 = .ok (.iload_n 3, 1) := by decide +kernel
theorem d_jdk_65_method_133_code_10 : decode jdk_65_method_133_code 10 = .ok (.newarray .byte, 2) := by decide +kernel
theorem d_jdk_65_method_133_code_12 : decode jdk_65_method_133_code 12 = .ok (.astore 4, 2) := by decide +kernel
theorem d_jdk_65_method_133_code_14 : decode jdk_65_method_133_code 14 = .ok (.aload_n 0, 1) := by decide +kernel
theorem d_jdk_65_method_133_code_15 : decode jdk_65_method_133_code 15 = .ok (.iload_n 1, 1) := by decide +kernel
theorem d_jdk_65_method_133_code_16 : decode jdk_65_method_133_code 16 = .ok (.aload 4, 2) := by decide +kernel
theorem d_jdk_65_method_133_code_18 : decode jdk_65_method_133_code 18 = .ok (.iconst 0, 1) := by decide +kernel
theorem d_jdk_65_method_133_code_19 : decode jdk_65_method_133_code 19 = .ok (.aload_n 0, 1) := by decide +kernel
theorem d_jdk_65_method_133_code_20 : decode jdk_65_method_133_code 20 = .ok (.arraylength, 1) := by decide +kernel
theorem d_jdk_65_method_133_code_21 : decode jdk_65_method_133_code 21 = .ok (.iload_n 1, 1) := by decide +kernel
theorem d_jdk_65_method_133_code_22 : decode jdk_65_method_133_code 22 = .ok (.isub, 1) := by decide +kernel
theorem d_jdk_65_method_133_code_23 : decode jdk_65_method_133_code 23 = .ok (.iload_n 3, 1) := by decide +kernel
theorem d_jdk_65_method_133_code_24 : decode jdk_65_method_133_code 24 = .ok (.invokestatic 304, 3) := by decide +kernel
theorem pd_5 : parseMethodDescriptor "(II)I" = some ⟨[.int, .int], some .int⟩ := by decide +kernel
theorem d_jdk_65_method_133_code_27 : decode jdk_65_method_133_code 27 = .ok (.invokestatic 150, 3) := by decide +kernel
theorem d_jdk_65_method_133_code_30 : decode jdk_65_method_133_code 30 = .ok (.aload 4, 2) := by decide +kernel
theorem d_jdk_65_method_133_code_32 : decode jdk_65_method_133_code 32 = .ok (.areturn, 1) := by decide +kernel
set_option maxRecDepth 65536 in
set_option maxHeartbeats 40000000 in
theorem rm_crb (l : Launch) (Z : State) (a0 : Array Value) (hw : ∀ d ∈ tables_1, d.before a0 Z = true) (ws : List Jvm.Cond) (tt : Addr) (kb : ClassId) (cs : List Int32) (A : Nat) (E : Nat) (h0 : Heap) (n0 : Nat) (X00 : Old Z n0 h0) (P0 : Arv Z h0 tt kb .byte (5 : Int32) ((cs.map (fun c => c.toInt8.toInt32)).map Value.int) (.int (0 : Int32))) (hlen : cs.length = 5) (hAE : A ≤ E) (hE5 : E ≤ 5) :
    MetFree l (⟨"java/util/Arrays", "copyOfRangeByte", "([BII)[B"⟩ : MethodName) (head1 (Jvm.Cond.code (⟨"java/util/Arrays", "copyOfRangeByte", "([BII)[B"⟩ : MethodName) jdk_65_method_133_code 5 (some (.array .byte)) :: ws) ({ frames := 1, cells := 1, slots := 5, locals := 30 } : Room)) (fun aa_ U => aa_ = #[(.ref tt), (.int (Int32.ofNat A)), (.int (Int32.ofNat E))] ∧ Z.Warmed39 U.vm ∧ U.heap = h0) (fun _ _ _ _ _ => True) (fun _ U o U' => ∃ v L, o = .returned v ∧ Q_crb Z tt kb cs A E h0 n0 v U'.heap L ∧ FrameEnd U o U' L ({ frames := 1, cells := 1, slots := 5, locals := 30 } : Room).cells ({ frames := 1, cells := 1, slots := 5, locals := 30 } : Room).slots) := by
  refine MetFree.of_bodySF (plainFor_of_name pn_4) hisR ?_
  intro p e s m args below meth c s₁ Bd hml0 hP hK
  obtain ⟨rfl, hZ, hh⟩ := hP
  have hx := Bd.exec
  have hby := Bd.bytes
  have hml : c.maxLocals = 5 := hml0
  have hown : s.vm.findClass "java/util/Arrays" = some m.cls := findClass_of_methodNamed Bd.named
  have hnm := (name_of_methodNamed Bd.named Bd.method).1
  have hlk : meth.locks = false := BodyLoose.notSynchronized Bd
  have X0 : Stand p l e ({ frames := 1, cells := 1, slots := 5, locals := 30 } : Room) s m #[(.ref tt), (.int (Int32.ofNat A)), (.int (Int32.ofNat E))] below meth c s₁ [] 0 0 := Stand.of_body Bd
  have e0 : s₁.heap = h0 := by rw [← hh, Bd.state]; rfl
  have N0 := Fr.nil n0
  suffices G : Go p e below s (Q_crb Z tt kb cs A E h0 n0) 1 5 s₁ (mkF m 0 #[.val (.ref tt), .val (.int (Int32.ofNat A)), .val (.int (Int32.ofNat E)), .unset, .unset] []) by
    obtain ⟨s2, o, h1, h2⟩ := G
    exact ⟨s2, o, castTop (ef_crb m tt) h1, h2⟩
  refine Go.by (T' := s₁) (g' := (mkF m 1 #[.val (.ref tt), .val (.int (Int32.ofNat A)), .val (.int (Int32.ofNat E)), .unset, .unset] [(.int (Int32.ofNat A))])) (fun t_ k_ => XS.iloadN X0.here hx rfl (hb hby d_jdk_65_method_133_code_0) rfl k_) ?_
  refine Go.by (T' := s₁) (g' := (mkF m 2 #[.val (.ref tt), .val (.int (Int32.ofNat A)), .val (.int (Int32.ofNat E)), .unset, .unset] [(.int (Int32.ofNat E)), (.int (Int32.ofNat A))])) (fun t_ k_ => XS.iloadN X0.here hx rfl (hb hby d_jdk_65_method_133_code_1) rfl k_) ?_
  obtain ⟨_, _, ⟨T1, L1, k1, n1⟩, -, X1, ⟨Lc1, hQ1, l1, y1, z1⟩, st1⟩ := Jvm.LawKit.callS X0 hx (y := (⟨"java/util/Arrays", "checkLength", "(II)V"⟩ : MethodName)) hown (mvT hZ (hw _ (List.mem_of_getElem? (i := 110) rfl))) (mvT hZ (hw _ (List.mem_of_getElem? (i := 111) rfl))) (mvT hZ (hw _ (List.mem_of_getElem? (i := 105) rfl))) (mvT hZ (hw _ (List.mem_of_getElem? (i := 112) rfl))) (by decide) (backOf (W := 0) (rm_clen l Z a0 hw [] A E h0 n0 X00 hAE hE5) hZ (hw _ (List.mem_of_getElem? (i := 112) rfl)) (hw _ (List.mem_of_getElem? (i := 105) rfl)) (by decide) (by decide)) (g := (mkF m 2 #[.val (.ref tt), .val (.int (Int32.ofNat A)), .val (.int (Int32.ofNat E)), .unset, .unset] [(.int (Int32.ofNat E)), (.int (Int32.ofNat A))])) rfl (by rw [hml]; rfl) (argsL := [(.int (Int32.ofNat A)), (.int (Int32.ofNat E))]) (rest := []) (lenOf pd_4 rfl) rfl (by show 2 * 0 + _ ≤ _; exact Nat.le_of_eq rfl) (hb hby d_jdk_65_method_133_code_2) (fun _ _ => ⟨rfl, e0, (by decide : 0 + 0 ≤ _), (by decide : 0 + 0 ≤ _)⟩)
  dsimp only [Pt.U, Pt.locs, Pt.cells, Pt.slots] at X1 l1 y1 z1 st1 hQ1
  subst l1 y1 z1
  obtain ⟨rfl, N1q, e1⟩ := hQ1
  have N1 := Fr.app N0 N1q
  refine Go.by (T' := T1) (g' := (mkF m 5 #[.val (.ref tt), .val (.int (Int32.ofNat A)), .val (.int (Int32.ofNat E)), .unset, .unset] [])) (fun t_ k_ => st1 _ k_) ?_
  refine Go.by (T' := T1) (g' := (mkF m 6 #[.val (.ref tt), .val (.int (Int32.ofNat A)), .val (.int (Int32.ofNat E)), .unset, .unset] [(.int (Int32.ofNat E))])) (fun t_ k_ => XS.iloadN X1.here hx rfl (hb hby d_jdk_65_method_133_code_5) rfl k_) ?_
  refine Go.by (T' := T1) (g' := (mkF m 7 #[.val (.ref tt), .val (.int (Int32.ofNat A)), .val (.int (Int32.ofNat E)), .unset, .unset] [(.int (Int32.ofNat A)), (.int (Int32.ofNat E))])) (fun t_ k_ => XS.iloadN X1.here hx rfl (hb hby d_jdk_65_method_133_code_6) rfl k_) ?_
  refine Go.by (T' := T1) (g' := (mkF m 8 #[.val (.ref tt), .val (.int (Int32.ofNat A)), .val (.int (Int32.ofNat E)), .unset, .unset] [(.int ((Int32.ofNat E) - (Int32.ofNat A)))])) (fun t_ k_ => XS.isub X1.here hx rfl (hb hby d_jdk_65_method_133_code_7) rfl k_) ?_
  rw [own_sub hAE]
  refine Go.by (T' := T1) (g' := (mkF m 9 #[.val (.ref tt), .val (.int (Int32.ofNat A)), .val (.int (Int32.ofNat E)), .val (.int (Int32.ofNat (E - A))), .unset] [])) (fun t_ k_ => XS.istoreN X1.here hx rfl (hb hby d_jdk_65_method_133_code_8) rfl (l' := #[.val (.ref tt), .val (.int (Int32.ofNat A)), .val (.int (Int32.ofNat E)), .val (.int (Int32.ofNat (E - A))), .unset]) rfl k_) ?_
  refine Go.by (T' := T1) (g' := (mkF m 10 #[.val (.ref tt), .val (.int (Int32.ofNat A)), .val (.int (Int32.ofNat E)), .val (.int (Int32.ofNat (E - A))), .unset] [(.int (Int32.ofNat (E - A)))])) (fun t_ k_ => XS.iloadN X1.here hx rfl (hb hby d_jdk_65_method_133_code_9) rfl k_) ?_
  obtain ⟨T2, h2, kc2, X2, e2, E2, A2, st2⟩ := newP X1 hx hZ (hw _ (List.mem_of_getElem? (i := 26) rfl)) e1 (g := (mkF m 10 #[.val (.ref tt), .val (.int (Int32.ofNat A)), .val (.int (Int32.ofNat E)), .val (.int (Int32.ofNat (E - A))), .unset] [(.int (Int32.ofNat (E - A)))])) rfl (hb hby d_jdk_65_method_133_code_10) rfl (own_nn (by omega)) (cap := 5) (by rw [own_nat (by omega)]; omega) (by decide) (by decide) (by decide)
  obtain ⟨b2, g2⟩ : ∃ z, z = h0.size := ⟨_, rfl⟩
  rw [← g2] at A2 st2
  have ge_b2 : n0 ≤ b2 := Nat.le_trans X00.sz (Nat.le_of_eq g2.symm)
  have sz_b2 : h0.size ≤ b2 := Nat.le_trans (Keep.refl h0 []).1 (Nat.le_of_eq g2.symm)
  have ne_tt_b2 : ¬ (tt = b2) := Nat.ne_of_lt (Nat.lt_of_lt_of_le P0.lt (Nat.le_of_eq g2.symm))
  have V2 : Arv Z h2 b2 kc2 .byte (Int32.ofNat (E - A)) [] (.int (0 : Int32)) := Arv.new A2 (own_nn (by omega))
  refine Go.by (T' := T2) (g' := (mkF m 12 #[.val (.ref tt), .val (.int (Int32.ofNat A)), .val (.int (Int32.ofNat E)), .val (.int (Int32.ofNat (E - A))), .unset] [(.ref b2)])) (fun t_ k_ => st2 _ k_) ?_
  refine Go.by (T' := T2) (g' := (mkF m 14 #[.val (.ref tt), .val (.int (Int32.ofNat A)), .val (.int (Int32.ofNat E)), .val (.int (Int32.ofNat (E - A))), .val (.ref b2)] [])) (fun t_ k_ => XS.astore X2.here hx rfl (hb hby d_jdk_65_method_133_code_12) rfl rfl (l' := #[.val (.ref tt), .val (.int (Int32.ofNat A)), .val (.int (Int32.ofNat E)), .val (.int (Int32.ofNat (E - A))), .val (.ref b2)]) rfl k_) ?_
  refine Go.by (T' := T2) (g' := (mkF m 15 #[.val (.ref tt), .val (.int (Int32.ofNat A)), .val (.int (Int32.ofNat E)), .val (.int (Int32.ofNat (E - A))), .val (.ref b2)] [(.ref tt)])) (fun t_ k_ => XS.aloadN X2.here hx rfl (hb hby d_jdk_65_method_133_code_14) rfl rfl k_) ?_
  refine Go.by (T' := T2) (g' := (mkF m 16 #[.val (.ref tt), .val (.int (Int32.ofNat A)), .val (.int (Int32.ofNat E)), .val (.int (Int32.ofNat (E - A))), .val (.ref b2)] [(.int (Int32.ofNat A)), (.ref tt)])) (fun t_ k_ => XS.iloadN X2.here hx rfl (hb hby d_jdk_65_method_133_code_15) rfl k_) ?_
  refine Go.by (T' := T2) (g' := (mkF m 18 #[.val (.ref tt), .val (.int (Int32.ofNat A)), .val (.int (Int32.ofNat E)), .val (.int (Int32.ofNat (E - A))), .val (.ref b2)] [(.ref b2), (.int (Int32.ofNat A)), (.ref tt)])) (fun t_ k_ => XS.aload X2.here hx rfl (hb hby d_jdk_65_method_133_code_16) rfl rfl k_) ?_
  refine Go.by (T' := T2) (g' := (mkF m 19 #[.val (.ref tt), .val (.int (Int32.ofNat A)), .val (.int (Int32.ofNat E)), .val (.int (Int32.ofNat (E - A))), .val (.ref b2)] [(.int (0 : Int32)), (.ref b2), (.int (Int32.ofNat A)), (.ref tt)])) (fun t_ k_ => XS.iconst X2.here hx rfl (hb hby d_jdk_65_method_133_code_18) k_) ?_
  refine Go.by (T' := T2) (g' := (mkF m 20 #[.val (.ref tt), .val (.int (Int32.ofNat A)), .val (.int (Int32.ofNat E)), .val (.int (Int32.ofNat (E - A))), .val (.ref b2)] [(.ref tt), (.int (0 : Int32)), (.ref b2), (.int (Int32.ofNat A)), (.ref tt)])) (fun t_ k_ => XS.aloadN X2.here hx rfl (hb hby d_jdk_65_method_133_code_19) rfl rfl k_) ?_
  have F3 : Arv Z h2 tt kb .byte (5 : Int32) ((cs.map (fun c => c.toInt8.toInt32)).map Value.int) (.int (0 : Int32)) := (P0.ext E2)
  obtain ⟨cl4, Ar4, -, Sz4, Ng4, -, -⟩ := id F3
  refine Go.by (T' := T2) (g' := (mkF m 21 #[.val (.ref tt), .val (.int (Int32.ofNat A)), .val (.int (Int32.ofNat E)), .val (.int (Int32.ofNat (E - A))), .val (.ref b2)] [(.int (5 : Int32)), (.int (0 : Int32)), (.ref b2), (.int (Int32.ofNat A)), (.ref tt)])) (fun t_ k_ => X2.arraylength hx (by rw [e2]; exact Ar4.1) (State.isArrayOf_alike hZ.alike Ar4.2.1) (g := (mkF m 20 #[.val (.ref tt), .val (.int (Int32.ofNat A)), .val (.int (Int32.ofNat E)), .val (.int (Int32.ofNat (E - A))), .val (.ref b2)] [(.ref tt), (.int (0 : Int32)), (.ref b2), (.int (Int32.ofNat A)), (.ref tt)])) rfl rfl (hb hby d_jdk_65_method_133_code_20) _ (by rw [len_of Sz4 Ng4]; exact k_)) ?_
  refine Go.by (T' := T2) (g' := (mkF m 22 #[.val (.ref tt), .val (.int (Int32.ofNat A)), .val (.int (Int32.ofNat E)), .val (.int (Int32.ofNat (E - A))), .val (.ref b2)] [(.int (Int32.ofNat A)), (.int (5 : Int32)), (.int (0 : Int32)), (.ref b2), (.int (Int32.ofNat A)), (.ref tt)])) (fun t_ k_ => XS.iloadN X2.here hx rfl (hb hby d_jdk_65_method_133_code_21) rfl k_) ?_
  refine Go.by (T' := T2) (g' := (mkF m 23 #[.val (.ref tt), .val (.int (Int32.ofNat A)), .val (.int (Int32.ofNat E)), .val (.int (Int32.ofNat (E - A))), .val (.ref b2)] [(.int ((5 : Int32) - (Int32.ofNat A))), (.int (0 : Int32)), (.ref b2), (.int (Int32.ofNat A)), (.ref tt)])) (fun t_ k_ => XS.isub X2.here hx rfl (hb hby d_jdk_65_method_133_code_22) rfl k_) ?_
  refine Go.by (T' := T2) (g' := (mkF m 24 #[.val (.ref tt), .val (.int (Int32.ofNat A)), .val (.int (Int32.ofNat E)), .val (.int (Int32.ofNat (E - A))), .val (.ref b2)] [(.int (Int32.ofNat (E - A))), (.int ((5 : Int32) - (Int32.ofNat A))), (.int (0 : Int32)), (.ref b2), (.int (Int32.ofNat A)), (.ref tt)])) (fun t_ k_ => XS.iloadN X2.here hx rfl (hb hby d_jdk_65_method_133_code_23) rfl k_) ?_
  rw [show (5 : Int32) = Int32.ofNat 5 from rfl, own_sub (show A ≤ 5 by omega)]
  have Od5 : Old Z n0 h2 := (X00.ext E2)
  obtain ⟨_, _, ⟨T6, L6, k6, n6⟩, -, X6, ⟨Lc6, hQ6, l6, y6, z6⟩, st6⟩ := Jvm.LawKit.callS X2 hx (y := (⟨"java/lang/Math", "min", "(II)I"⟩ : MethodName)) hown (mvT hZ (hw _ (List.mem_of_getElem? (i := 113) rfl))) (mvT hZ (hw _ (List.mem_of_getElem? (i := 114) rfl))) (mvT hZ (hw _ (List.mem_of_getElem? (i := 115) rfl))) (mvT hZ (hw _ (List.mem_of_getElem? (i := 116) rfl))) (by decide) (backOf (W := 4) (rm_min l Z a0 hw [] (Int32.ofNat (5 - A)) (Int32.ofNat (E - A)) h2 n0 Od5 (by rw [own_lt (by omega) (by omega)]; omega)) hZ (hw _ (List.mem_of_getElem? (i := 116) rfl)) (hw _ (List.mem_of_getElem? (i := 115) rfl)) (by decide) (by decide)) (g := (mkF m 24 #[.val (.ref tt), .val (.int (Int32.ofNat A)), .val (.int (Int32.ofNat E)), .val (.int (Int32.ofNat (E - A))), .val (.ref b2)] [(.int (Int32.ofNat (E - A))), (.int (Int32.ofNat (5 - A))), (.int (0 : Int32)), (.ref b2), (.int (Int32.ofNat A)), (.ref tt)])) rfl (by rw [hml]; rfl) (argsL := [(.int (Int32.ofNat (5 - A))), (.int (Int32.ofNat (E - A)))]) (rest := [(.int (0 : Int32)), (.ref b2), (.int (Int32.ofNat A)), (.ref tt)]) (lenOf pd_5 rfl) rfl (by show 2 * 0 + _ ≤ _; exact Nat.le_of_eq rfl) (hb hby d_jdk_65_method_133_code_24) (fun _ _ => ⟨rfl, e2, (by decide : 1 + 0 ≤ _), (by decide : 5 + 0 ≤ _)⟩)
  dsimp only [Pt.U, Pt.locs, Pt.cells, Pt.slots] at X6 l6 y6 z6 st6 hQ6
  subst l6 y6 z6
  obtain ⟨rfl, N6q, e6⟩ := hQ6
  have N6 := Fr.app N1 N6q
  refine Go.by (T' := T6) (g' := (mkF m 27 #[.val (.ref tt), .val (.int (Int32.ofNat A)), .val (.int (Int32.ofNat E)), .val (.int (Int32.ofNat (E - A))), .val (.ref b2)] [(.int (Int32.ofNat (E - A))), (.int (0 : Int32)), (.ref b2), (.int (Int32.ofNat A)), (.ref tt)])) (fun t_ k_ => st6 _ k_) ?_
  have Kp7 : Keep h0 h2 [] := ((Keep.refl h0 []).ext E2)
  have Pd8 : Arv Z h2 b2 kc2 .byte (Int32.ofNat (E - A)) (List.replicate (E - A) (.int (0 : Int32))) (.int (0 : Int32)) := V2.pad (by simpa using pad_rep [] (.int (0 : Int32)) (E - A))
  obtain ⟨T9, h9, Lx9, X9, e9, N9, K9, A9, st9⟩ := cpA X6 hx hZ hown (hw _ (List.mem_of_getElem? (i := 117) rfl)) (hw _ (List.mem_of_getElem? (i := 120) rfl)) (hw _ (List.mem_of_getElem? (i := 118) rfl)) (hw _ (List.mem_of_getElem? (i := 119) rfl)) e6 F3 Pd8 (us := ((((cs.drop A).take (E - A)).map (fun c => c.toInt8.toInt32)).map Value.int)) (Or.inl ⟨rfl, rfl⟩) (sp := (Int32.ofNat A)) (dp := (0 : Int32)) (nn := (Int32.ofNat (E - A))) (own_nn (by omega)) (by decide) (own_nn (by omega)) (by rw [own_nat (by omega), own_nat (by omega)]; show _ ≤ (5 : Int32).toNatClampNeg; rw [show (5 : Int32).toNatClampNeg = 5 from rfl]; omega) (by rw [own_nat (by omega)]; simp) (by rw [own_nat (by omega), own_nat (by omega)]; exact (own_bytes (by omega)).symm) (by rw [own_nat (by omega)]; simp) N6 ge_b2 (g := (mkF m 27 #[.val (.ref tt), .val (.int (Int32.ofNat A)), .val (.int (Int32.ofNat E)), .val (.int (Int32.ofNat (E - A))), .val (.ref b2)] [(.int (Int32.ofNat (E - A))), (.int (0 : Int32)), (.ref b2), (.int (Int32.ofNat A)), (.ref tt)])) rfl (by rw [hml]; rfl) rfl (hb hby d_jdk_65_method_133_code_27) (by decide) (W := 0) (by show 2 * 0 + _ ≤ _; exact Nat.le_of_eq rfl) (by decide)
  have V9 : Arv Z h9 b2 kc2 .byte (Int32.ofNat (E - A)) ((((cs.drop A).take (E - A)).map (fun c => c.toInt8.toInt32)).map Value.int) (.int (0 : Int32)) := own_conv A9 (by rw [own_nat (by omega)]; simp)
  refine Go.by (T' := T9) (g' := (mkF m 30 #[.val (.ref tt), .val (.int (Int32.ofNat A)), .val (.int (Int32.ofNat E)), .val (.int (Int32.ofNat (E - A))), .val (.ref b2)] [])) (fun t_ k_ => st9 _ k_) ?_
  refine Go.by (T' := T9) (g' := (mkF m 32 #[.val (.ref tt), .val (.int (Int32.ofNat A)), .val (.int (Int32.ofNat E)), .val (.int (Int32.ofNat (E - A))), .val (.ref b2)] [(.ref b2)])) (fun t_ k_ => XS.aload X9.here hx rfl (hb hby d_jdk_65_method_133_code_30) rfl rfl k_) ?_
  have Kp10 : Keep h0 h9 [] := (Kp7.trans K9 (allS (Or.inr sz_b2) all0))
  refine Go.fin X9 (v := some (.ref b2)) (fun h => by rw [Bd.returns] at h; cases h) hlk (by decide) (by decide) ?_ (fun fs hr => retR X9 hx (w := (.ref b2)) Bd.returns rfl rfl rfl (hb hby d_jdk_65_method_133_code_32) hr)
  show Q_crb Z tt kb cs A E h0 n0 _ T9.heap _
  rw [e9]
  exact ⟨b2, kc2, rfl, N9, Kp10, sz_b2, V9⟩
def Q_cor (Z : State) (tt : Addr) (kb : ClassId) (cs : List Int32) (A : Nat) (E : Nat) (h0 : Heap) (n0 : Nat) (v : Option Value) (h : Heap) (L : List Loc) : Prop := ∃ (t : Addr) (k2 : ClassId), v = some (.ref t) ∧ Fr n0 L ∧ Keep h0 h [] ∧ h0.size ≤ t ∧ Arv Z h t k2 .byte (Int32.ofNat (E - A)) ((((cs.drop A).take (E - A)).map (fun c => c.toInt8.toInt32)).map Value.int) (.int (0 : Int32))
theorem ef_cor (m : MethodId) (tt : Addr) : entryFrame m #[(.ref tt), (.int (Int32.ofNat A)), (.int (Int32.ofNat E))] 3 = mkF m 0 #[.val (.ref tt), .val (.int (Int32.ofNat A)), .val (.int (Int32.ofNat E))] [] := by first | (simp [entryFrame, mkF, argsToLocals, Value.category]; done) | rfl
theorem d_jdk_65_method_132_code_0 : decode jdk_65_method_132_code 0 = .ok (.iload_n 1, 1) := by decide +kernel
theorem d_jdk_65_method_132_code_1 : decode jdk_65_method_132_code 1 = .ok (.ifCond .ne 9, 3) := by decide +kernel
theorem d_jdk_65_method_132_code_4 : decode jdk_65_method_132_code 4 = .ok (.iload_n 2, 1) := by decide +kernel
theorem d_jdk_65_method_132_code_5 : decode jdk_65_method_132_code 5 = .ok (.aload_n 0, 1) := by decide +kernel
theorem d_jdk_65_method_132_code_6 : decode jdk_65_method_132_code 6 = .ok (.arraylength, 1) := by decide +kernel
theorem d_jdk_65_method_132_code_7 : decode jdk_65_method_132_code 7 = .ok (.if_icmp .eq 10, 3) := by decide +kernel
theorem d_jdk_65_method_132_code_10 : decode jdk_65_method_132_code 10 = .ok (.aload_n 0, 1) := by decide +kernel
theorem d_jdk_65_method_132_code_11 : decode jdk_65_method_132_code 11 = .ok (.iload_n 1, 1) := by decide +kernel
theorem d_jdk_65_method_132_code_12 : decode jdk_65_method_132_code 12 = .ok (.iload_n 2, 1) := by decide +kernel
theorem d_jdk_65_method_132_code_13 : decode jdk_65_method_132_code 13 = .ok (.invokestatic 339, 3) := by decide +kernel
theorem pd_6 : parseMethodDescriptor "([BII)[B" = some ⟨[(.array .byte), .int, .int], some (.array .byte)⟩ := by decide +kernel
theorem d_jdk_65_method_132_code_16 : decode jdk_65_method_132_code 16 = .ok (.areturn, 1) := by decide +kernel
set_option maxRecDepth 65536 in
set_option maxHeartbeats 40000000 in
theorem rm_cor (l : Launch) (Z : State) (a0 : Array Value) (hw : ∀ d ∈ tables_1, d.before a0 Z = true) (ws : List Jvm.Cond) (tt : Addr) (kb : ClassId) (cs : List Int32) (A : Nat) (E : Nat) (h0 : Heap) (n0 : Nat) (X00 : Old Z n0 h0) (P0 : Arv Z h0 tt kb .byte (5 : Int32) ((cs.map (fun c => c.toInt8.toInt32)).map Value.int) (.int (0 : Int32))) (hlen : cs.length = 5) (hAE : A ≤ E) (hE5 : E ≤ 5) (hnw : ¬ (A = 0 ∧ E = 5)) :
    MetFree l (⟨"java/util/Arrays", "copyOfRange", "([BII)[B"⟩ : MethodName) (head1 (Jvm.Cond.code (⟨"java/util/Arrays", "copyOfRange", "([BII)[B"⟩ : MethodName) jdk_65_method_132_code 3 (some (.array .byte)) :: ws) ({ frames := 2, cells := 1, slots := 5, locals := 50 } : Room)) (fun aa_ U => aa_ = #[(.ref tt), (.int (Int32.ofNat A)), (.int (Int32.ofNat E))] ∧ Z.Warmed39 U.vm ∧ U.heap = h0) (fun _ _ _ _ _ => True) (fun _ U o U' => ∃ v L, o = .returned v ∧ Q_cor Z tt kb cs A E h0 n0 v U'.heap L ∧ FrameEnd U o U' L ({ frames := 2, cells := 1, slots := 5, locals := 50 } : Room).cells ({ frames := 2, cells := 1, slots := 5, locals := 50 } : Room).slots) := by
  refine MetFree.of_bodySF (plainFor_of_name pn_4) hisR ?_
  intro p e s m args below meth c s₁ Bd hml0 hP hK
  obtain ⟨rfl, hZ, hh⟩ := hP
  have hx := Bd.exec
  have hby := Bd.bytes
  have hml : c.maxLocals = 3 := hml0
  have hown : s.vm.findClass "java/util/Arrays" = some m.cls := findClass_of_methodNamed Bd.named
  have hnm := (name_of_methodNamed Bd.named Bd.method).1
  have hlk : meth.locks = false := BodyLoose.notSynchronized Bd
  have X0 : Stand p l e ({ frames := 2, cells := 1, slots := 5, locals := 50 } : Room) s m #[(.ref tt), (.int (Int32.ofNat A)), (.int (Int32.ofNat E))] below meth c s₁ [] 0 0 := Stand.of_body Bd
  have e0 : s₁.heap = h0 := by rw [← hh, Bd.state]; rfl
  have N0 := Fr.nil n0
  suffices G : Go p e below s (Q_cor Z tt kb cs A E h0 n0) 1 5 s₁ (mkF m 0 #[.val (.ref tt), .val (.int (Int32.ofNat A)), .val (.int (Int32.ofNat E))] []) by
    obtain ⟨s2, o, h1, h2⟩ := G
    exact ⟨s2, o, castTop (ef_cor m tt) h1, h2⟩
  refine Go.by (T' := s₁) (g' := (mkF m 1 #[.val (.ref tt), .val (.int (Int32.ofNat A)), .val (.int (Int32.ofNat E))] [(.int (Int32.ofNat A))])) (fun t_ k_ => XS.iloadN X0.here hx rfl (hb hby d_jdk_65_method_132_code_0) rfl k_) ?_
  by_cases hA0 : A = 0
  · skip
    refine Go.by (T' := s₁) (g' := (mkF m 4 #[.val (.ref tt), .val (.int (Int32.ofNat A)), .val (.int (Int32.ofNat E))] [])) (fun t_ k_ => XS.ifNo X0.here hx rfl (hb hby d_jdk_65_method_132_code_1) rfl ((if0 _ _).trans (teq (by rw [show (0 : Int32) = Int32.ofNat 0 from rfl, own_inj (by omega) (by omega)]; exact hA0)).2) k_) ?_
    refine Go.by (T' := s₁) (g' := (mkF m 5 #[.val (.ref tt), .val (.int (Int32.ofNat A)), .val (.int (Int32.ofNat E))] [(.int (Int32.ofNat E))])) (fun t_ k_ => XS.iloadN X0.here hx rfl (hb hby d_jdk_65_method_132_code_4) rfl k_) ?_
    refine Go.by (T' := s₁) (g' := (mkF m 6 #[.val (.ref tt), .val (.int (Int32.ofNat A)), .val (.int (Int32.ofNat E))] [(.ref tt), (.int (Int32.ofNat E))])) (fun t_ k_ => XS.aloadN X0.here hx rfl (hb hby d_jdk_65_method_132_code_5) rfl rfl k_) ?_
    obtain ⟨cl1, Ar1, -, Sz1, Ng1, -, -⟩ := id P0
    refine Go.by (T' := s₁) (g' := (mkF m 7 #[.val (.ref tt), .val (.int (Int32.ofNat A)), .val (.int (Int32.ofNat E))] [(.int (5 : Int32)), (.int (Int32.ofNat E))])) (fun t_ k_ => X0.arraylength hx (by rw [e0]; exact Ar1.1) (State.isArrayOf_alike hZ.alike Ar1.2.1) (g := (mkF m 6 #[.val (.ref tt), .val (.int (Int32.ofNat A)), .val (.int (Int32.ofNat E))] [(.ref tt), (.int (Int32.ofNat E))])) rfl rfl (hb hby d_jdk_65_method_132_code_6) _ (by rw [len_of Sz1 Ng1]; exact k_)) ?_
    refine Go.by (T' := s₁) (g' := (mkF m 10 #[.val (.ref tt), .val (.int (Int32.ofNat A)), .val (.int (Int32.ofNat E))] [])) (fun t_ k_ => XS.icmpNo X0.here hx rfl (hb hby d_jdk_65_method_132_code_7) rfl (feq (by rw [show (5 : Int32) = Int32.ofNat 5 from rfl, own_inj (by omega) (by omega)]; exact fun q => hnw ⟨hA0, q⟩)).1 k_) ?_
    refine Go.by (T' := s₁) (g' := (mkF m 11 #[.val (.ref tt), .val (.int (Int32.ofNat A)), .val (.int (Int32.ofNat E))] [(.ref tt)])) (fun t_ k_ => XS.aloadN X0.here hx rfl (hb hby d_jdk_65_method_132_code_10) rfl rfl k_) ?_
    refine Go.by (T' := s₁) (g' := (mkF m 12 #[.val (.ref tt), .val (.int (Int32.ofNat A)), .val (.int (Int32.ofNat E))] [(.int (Int32.ofNat A)), (.ref tt)])) (fun t_ k_ => XS.iloadN X0.here hx rfl (hb hby d_jdk_65_method_132_code_11) rfl k_) ?_
    refine Go.by (T' := s₁) (g' := (mkF m 13 #[.val (.ref tt), .val (.int (Int32.ofNat A)), .val (.int (Int32.ofNat E))] [(.int (Int32.ofNat E)), (.int (Int32.ofNat A)), (.ref tt)])) (fun t_ k_ => XS.iloadN X0.here hx rfl (hb hby d_jdk_65_method_132_code_12) rfl k_) ?_
    obtain ⟨_, _, ⟨T2, L2, k2, n2⟩, -, X2, ⟨Lc2, hQ2, l2, y2, z2⟩, st2⟩ := Jvm.LawKit.callS X0 hx (y := (⟨"java/util/Arrays", "copyOfRangeByte", "([BII)[B"⟩ : MethodName)) hown (mvT hZ (hw _ (List.mem_of_getElem? (i := 107) rfl))) (mvT hZ (hw _ (List.mem_of_getElem? (i := 108) rfl))) (mvT hZ (hw _ (List.mem_of_getElem? (i := 105) rfl))) (mvT hZ (hw _ (List.mem_of_getElem? (i := 109) rfl))) (by decide) (backOf (W := 0) (rm_crb l Z a0 hw [] tt kb cs A E h0 n0 X00 P0 hlen hAE hE5) hZ (hw _ (List.mem_of_getElem? (i := 109) rfl)) (hw _ (List.mem_of_getElem? (i := 105) rfl)) (by decide) (by decide)) (g := (mkF m 13 #[.val (.ref tt), .val (.int (Int32.ofNat A)), .val (.int (Int32.ofNat E))] [(.int (Int32.ofNat E)), (.int (Int32.ofNat A)), (.ref tt)])) rfl (by rw [hml]; rfl) (argsL := [(.ref tt), (.int (Int32.ofNat A)), (.int (Int32.ofNat E))]) (rest := []) (lenOf pd_6 rfl) rfl (by show 2 * 0 + _ ≤ _; exact Nat.le_of_eq rfl) (hb hby d_jdk_65_method_132_code_13) (fun _ _ => ⟨rfl, e0, (by decide : 0 + 1 ≤ _), (by decide : 0 + 5 ≤ _)⟩)
    dsimp only [Pt.U, Pt.locs, Pt.cells, Pt.slots] at X2 l2 y2 z2 st2 hQ2
    subst l2 y2 z2
    obtain ⟨t_2, k2_2, rfl, N2q, K2, G2_0, G2_1⟩ := hQ2
    have N2 := Fr.app N0 N2q
    have ge_t_2 : n0 ≤ t_2 := Nat.le_trans X00.sz G2_0
    have sz_t_2 : h0.size ≤ t_2 := Nat.le_trans (Keep.refl h0 []).1 G2_0
    have ne_tt_t_2 : ¬ (tt = t_2) := Nat.ne_of_lt (Nat.lt_of_lt_of_le P0.lt G2_0)
    refine Go.by (T' := T2) (g' := (mkF m 16 #[.val (.ref tt), .val (.int (Int32.ofNat A)), .val (.int (Int32.ofNat E))] [(.ref t_2)])) (fun t_ k_ => st2 _ k_) ?_
    have Kp3 : Keep h0 T2.heap [] := ((Keep.refl h0 []).trans K2 all0)
    refine Go.fin X2 (v := some (.ref t_2)) (fun h => by rw [Bd.returns] at h; cases h) hlk (by decide) (by decide) ?_ (fun fs hr => retR X2 hx (w := (.ref t_2)) Bd.returns rfl rfl rfl (hb hby d_jdk_65_method_132_code_16) hr)
    show Q_cor Z tt kb cs A E h0 n0 _ T2.heap _
    exact ⟨t_2, k2_2, rfl, N2, Kp3, sz_t_2, G2_1⟩
  · skip
    refine Go.by (T' := s₁) (g' := (mkF m 10 #[.val (.ref tt), .val (.int (Int32.ofNat A)), .val (.int (Int32.ofNat E))] [])) (fun t_ k_ => XS.ifYes X0.here hx rfl (pc0 := 1) (pc' := 10) rfl (hb hby d_jdk_65_method_132_code_1) rfl ((if0 _ _).trans (feq (by rw [show (0 : Int32) = Int32.ofNat 0 from rfl, own_inj (by omega) (by omega)]; exact hA0)).2) (by decide) (by decide) k_) ?_
    refine Go.by (T' := s₁) (g' := (mkF m 11 #[.val (.ref tt), .val (.int (Int32.ofNat A)), .val (.int (Int32.ofNat E))] [(.ref tt)])) (fun t_ k_ => XS.aloadN X0.here hx rfl (hb hby d_jdk_65_method_132_code_10) rfl rfl k_) ?_
    refine Go.by (T' := s₁) (g' := (mkF m 12 #[.val (.ref tt), .val (.int (Int32.ofNat A)), .val (.int (Int32.ofNat E))] [(.int (Int32.ofNat A)), (.ref tt)])) (fun t_ k_ => XS.iloadN X0.here hx rfl (hb hby d_jdk_65_method_132_code_11) rfl k_) ?_
    refine Go.by (T' := s₁) (g' := (mkF m 13 #[.val (.ref tt), .val (.int (Int32.ofNat A)), .val (.int (Int32.ofNat E))] [(.int (Int32.ofNat E)), (.int (Int32.ofNat A)), (.ref tt)])) (fun t_ k_ => XS.iloadN X0.here hx rfl (hb hby d_jdk_65_method_132_code_12) rfl k_) ?_
    obtain ⟨_, _, ⟨T4, L4, k4, n4⟩, -, X4, ⟨Lc4, hQ4, l4, y4, z4⟩, st4⟩ := Jvm.LawKit.callS X0 hx (y := (⟨"java/util/Arrays", "copyOfRangeByte", "([BII)[B"⟩ : MethodName)) hown (mvT hZ (hw _ (List.mem_of_getElem? (i := 107) rfl))) (mvT hZ (hw _ (List.mem_of_getElem? (i := 108) rfl))) (mvT hZ (hw _ (List.mem_of_getElem? (i := 105) rfl))) (mvT hZ (hw _ (List.mem_of_getElem? (i := 109) rfl))) (by decide) (backOf (W := 0) (rm_crb l Z a0 hw [] tt kb cs A E h0 n0 X00 P0 hlen hAE hE5) hZ (hw _ (List.mem_of_getElem? (i := 109) rfl)) (hw _ (List.mem_of_getElem? (i := 105) rfl)) (by decide) (by decide)) (g := (mkF m 13 #[.val (.ref tt), .val (.int (Int32.ofNat A)), .val (.int (Int32.ofNat E))] [(.int (Int32.ofNat E)), (.int (Int32.ofNat A)), (.ref tt)])) rfl (by rw [hml]; rfl) (argsL := [(.ref tt), (.int (Int32.ofNat A)), (.int (Int32.ofNat E))]) (rest := []) (lenOf pd_6 rfl) rfl (by show 2 * 0 + _ ≤ _; exact Nat.le_of_eq rfl) (hb hby d_jdk_65_method_132_code_13) (fun _ _ => ⟨rfl, e0, (by decide : 0 + 1 ≤ _), (by decide : 0 + 5 ≤ _)⟩)
    dsimp only [Pt.U, Pt.locs, Pt.cells, Pt.slots] at X4 l4 y4 z4 st4 hQ4
    subst l4 y4 z4
    obtain ⟨t_4, k2_4, rfl, N4q, K4, G4_0, G4_1⟩ := hQ4
    have N4 := Fr.app N0 N4q
    have ge_t_4 : n0 ≤ t_4 := Nat.le_trans X00.sz G4_0
    have sz_t_4 : h0.size ≤ t_4 := Nat.le_trans (Keep.refl h0 []).1 G4_0
    have ne_tt_t_4 : ¬ (tt = t_4) := Nat.ne_of_lt (Nat.lt_of_lt_of_le P0.lt G4_0)
    refine Go.by (T' := T4) (g' := (mkF m 16 #[.val (.ref tt), .val (.int (Int32.ofNat A)), .val (.int (Int32.ofNat E))] [(.ref t_4)])) (fun t_ k_ => st4 _ k_) ?_
    have Kp5 : Keep h0 T4.heap [] := ((Keep.refl h0 []).trans K4 all0)
    refine Go.fin X4 (v := some (.ref t_4)) (fun h => by rw [Bd.returns] at h; cases h) hlk (by decide) (by decide) ?_ (fun fs hr => retR X4 hx (w := (.ref t_4)) Bd.returns rfl rfl rfl (hb hby d_jdk_65_method_132_code_16) hr)
    show Q_cor Z tt kb cs A E h0 n0 _ T4.heap _
    exact ⟨t_4, k2_4, rfl, N4, Kp5, sz_t_4, G4_1⟩
def Q_strBB (Z : State) (a : Addr) (t : Addr) (u1 : Value) (u2 : Value) (h0 : Heap) (n0 : Nat) (v : Option Value) (h : Heap) (L : List Loc) : Prop := v = none ∧ Fr n0 L ∧ Keep h0 h [a] ∧ Exa Z h a "java/lang/String" ∧ Fld Z h a "java/lang/String" "value" "[B" (.ref t) ∧ Fld Z h a "java/lang/String" "coder" "B" (.int (0 : Int32))
theorem ef_strBB (m : MethodId) (a : Addr) (t : Addr) : entryFrame m #[(.ref a), (.ref t), (.int (0 : Int32))] 3 = mkF m 0 #[.val (.ref a), .val (.ref t), .val (.int (0 : Int32))] [] := by first | (simp [entryFrame, mkF, argsToLocals, Value.category]; done) | rfl
theorem d_jdk_42_method_151_code_0 : decode jdk_42_method_151_code 0 = .ok (.aload_n 0, 1) := by decide +kernel
theorem d_jdk_42_method_151_code_1 : decode jdk_42_method_151_code 1 = .ok (.invokespecial 1, 3) := by decide +kernel
theorem d_jdk_42_method_151_code_4 : decode jdk_42_method_151_code 4 = .ok (.aload_n 0, 1) := by decide +kernel
theorem d_jdk_42_method_151_code_5 : decode jdk_42_method_151_code 5 = .ok (.aload_n 1, 1) := by decide +kernel
theorem d_jdk_42_method_151_code_6 : decode jdk_42_method_151_code 6 = .ok (.putfield 9, 3) := by decide +kernel
theorem d_jdk_42_method_151_code_9 : decode jdk_42_method_151_code 9 = .ok (.aload_n 0, 1) := by decide +kernel
theorem d_jdk_42_method_151_code_10 : decode jdk_42_method_151_code 10 = .ok (.iload_n 2, 1) := by decide +kernel
theorem d_jdk_42_method_151_code_11 : decode jdk_42_method_151_code 11 = .ok (.putfield 15, 3) := by decide +kernel
theorem d_jdk_42_method_151_code_14 : decode jdk_42_method_151_code 14 = .ok (.return_, 1) := by decide +kernel
set_option maxRecDepth 65536 in
set_option maxHeartbeats 40000000 in
theorem rm_strBB (l : Launch) (Z : State) (a0 : Array Value) (hw : ∀ d ∈ tables_1, d.before a0 Z = true) (ws : List Jvm.Cond) (a : Addr) (t : Addr) (u1 : Value) (u2 : Value) (h0 : Heap) (n0 : Nat) (X00 : Old Z n0 h0) (P0 : Exa Z h0 a "java/lang/String") (P1 : Fld Z h0 a "java/lang/String" "value" "[B" (u1)) (P2 : Fld Z h0 a "java/lang/String" "coder" "B" (u2)) (P3 : n0 ≤ a) :
    MetFree l (⟨"java/lang/String", "<init>", "([BB)V"⟩ : MethodName) (head1 (Jvm.Cond.code (⟨"java/lang/String", "<init>", "([BB)V"⟩ : MethodName) jdk_42_method_151_code 3 none :: ws) ({ frames := 1, cells := 0, slots := 0, locals := 12 } : Room)) (fun aa_ U => aa_ = #[(.ref a), (.ref t), (.int (0 : Int32))] ∧ Z.Warmed39 U.vm ∧ U.heap = h0) (fun _ _ _ _ _ => True) (fun _ U o U' => ∃ v L, o = .returned v ∧ Q_strBB Z a t u1 u2 h0 n0 v U'.heap L ∧ FrameEnd U o U' L ({ frames := 1, cells := 0, slots := 0, locals := 12 } : Room).cells ({ frames := 1, cells := 0, slots := 0, locals := 12 } : Room).slots) := by
  refine MetFree.of_bodySF (plainFor_of_name pn_2) hisR ?_
  intro p e s m args below meth c s₁ Bd hml0 hP hK
  obtain ⟨rfl, hZ, hh⟩ := hP
  have hx := Bd.exec
  have hby := Bd.bytes
  have hml : c.maxLocals = 3 := hml0
  have hown : s.vm.findClass "java/lang/String" = some m.cls := findClass_of_methodNamed Bd.named
  have hnm := (name_of_methodNamed Bd.named Bd.method).1
  have hlk : meth.locks = false := BodyLoose.notSynchronized Bd
  have X0 : Stand p l e ({ frames := 1, cells := 0, slots := 0, locals := 12 } : Room) s m #[(.ref a), (.ref t), (.int (0 : Int32))] below meth c s₁ [] 0 0 := Stand.of_body Bd
  have e0 : s₁.heap = h0 := by rw [← hh, Bd.state]; rfl
  have N0 := Fr.nil n0
  suffices G : Go p e below s (Q_strBB Z a t u1 u2 h0 n0) 0 0 s₁ (mkF m 0 #[.val (.ref a), .val (.ref t), .val (.int (0 : Int32))] []) by
    obtain ⟨s2, o, h1, h2⟩ := G
    exact ⟨s2, o, castTop (ef_strBB m a t) h1, h2⟩
  refine Go.by (T' := s₁) (g' := (mkF m 1 #[.val (.ref a), .val (.ref t), .val (.int (0 : Int32))] [(.ref a)])) (fun t_ k_ => XS.aloadN X0.here hx rfl (hb hby d_jdk_42_method_151_code_0) rfl rfl k_) ?_
  obtain ⟨T1, X1, e1, st1⟩ := initO X0 hx hZ hown (hw _ (List.mem_of_getElem? (i := 18) rfl)) (hw _ (List.mem_of_getElem? (i := 19) rfl)) (hw _ (List.mem_of_getElem? (i := 20) rfl)) e0 (g := (mkF m 1 #[.val (.ref a), .val (.ref t), .val (.int (0 : Int32))] [(.ref a)])) rfl (by rw [hml]; rfl) rfl (hb hby d_jdk_42_method_151_code_1) (by decide) (W := 0) (by show 2 * 0 + _ ≤ _; exact Nat.le_of_eq rfl) (by decide)
  refine Go.by (T' := T1) (g' := (mkF m 4 #[.val (.ref a), .val (.ref t), .val (.int (0 : Int32))] [])) (fun t_ k_ => st1 _ k_) ?_
  refine Go.by (T' := T1) (g' := (mkF m 5 #[.val (.ref a), .val (.ref t), .val (.int (0 : Int32))] [(.ref a)])) (fun t_ k_ => XS.aloadN X1.here hx rfl (hb hby d_jdk_42_method_151_code_4) rfl rfl k_) ?_
  refine Go.by (T' := T1) (g' := (mkF m 6 #[.val (.ref a), .val (.ref t), .val (.int (0 : Int32))] [(.ref t), (.ref a)])) (fun t_ k_ => XS.aloadN X1.here hx rfl (hb hby d_jdk_42_method_151_code_5) rfl rfl k_) ?_
  obtain ⟨T2, h2, X2, e2, W2, st2⟩ := putF X1 hx hZ hown (host := "") (Or.inl (hw _ (List.mem_of_getElem? (i := 35) rfl))) Via.refl e1 P1 P0 (Or.inr ⟨(hw _ (List.mem_of_getElem? (i := 36) rfl)), rfl, hnm⟩) (hw _ (List.mem_of_getElem? (i := 9) rfl)) (ty := (.array .byte)) (by decide) rfl rfl (g := (mkF m 6 #[.val (.ref a), .val (.ref t), .val (.int (0 : Int32))] [(.ref t), (.ref a)])) rfl rfl (hb hby d_jdk_42_method_151_code_6)
  have Fw2 : Fld Z h2 a "java/lang/String" "value" "[B" (.ref t) := P1.same W2
  have N2 := Fr.snoc X2 N0 P3
  refine Go.by (T' := T2) (g' := (mkF m 9 #[.val (.ref a), .val (.ref t), .val (.int (0 : Int32))] [])) (fun t_ k_ => st2 _ k_) ?_
  refine Go.by (T' := T2) (g' := (mkF m 10 #[.val (.ref a), .val (.ref t), .val (.int (0 : Int32))] [(.ref a)])) (fun t_ k_ => XS.aloadN X2.here hx rfl (hb hby d_jdk_42_method_151_code_9) rfl rfl k_) ?_
  refine Go.by (T' := T2) (g' := (mkF m 11 #[.val (.ref a), .val (.ref t), .val (.int (0 : Int32))] [(.int (0 : Int32)), (.ref a)])) (fun t_ k_ => XS.iloadN X2.here hx rfl (hb hby d_jdk_42_method_151_code_10) rfl k_) ?_
  have F3 : Fld Z h2 a "java/lang/String" "coder" "B" (u2) := (P2.other W2 (Or.inr (slot_ne (Or.inr (hw _ (List.mem_of_getElem? (i := 34) rfl))) (Or.inr (hw _ (List.mem_of_getElem? (i := 36) rfl))) (by decide) (t := .byte) (t' := (.array .byte)) (by decide) (by decide))))
  have F4 : Exa Z h2 a "java/lang/String" := (P0.wr W2)
  have Od5 : Old Z n0 h2 := (X00.wr W2 P3)
  have Kp6 : Keep h0 h2 [a] := ((Keep.refl h0 [a]).wr W2 (Or.inl (List.mem_of_getElem? (i := 0) rfl)))
  obtain ⟨T7, h7, X7, e7, W7, st7⟩ := putFN X2 hx hZ hown (hw _ (List.mem_of_getElem? (i := 33) rfl)) Via.refl e2 F3 F4 (Or.inr ⟨(hw _ (List.mem_of_getElem? (i := 34) rfl)), rfl, hnm⟩) (hw _ (List.mem_of_getElem? (i := 9) rfl)) (ty := .byte) (v' := (.int (0 : Int32))) (by decide) rfl rfl (g := (mkF m 11 #[.val (.ref a), .val (.ref t), .val (.int (0 : Int32))] [(.int (0 : Int32)), (.ref a)])) rfl rfl (hb hby d_jdk_42_method_151_code_11)
  have Fw7 : Fld Z h7 a "java/lang/String" "coder" "B" (.int (0 : Int32)) := F3.same W7
  have N7 := Fr.snoc X7 N2 P3
  refine Go.by (T' := T7) (g' := (mkF m 14 #[.val (.ref a), .val (.ref t), .val (.int (0 : Int32))] [])) (fun t_ k_ => st7 _ k_) ?_
  have F8 : Exa Z h7 a "java/lang/String" := (F4.wr W7)
  have F9 : Fld Z h7 a "java/lang/String" "value" "[B" (.ref t) := (Fw2.other W7 (Or.inr (slot_ne (Or.inr (hw _ (List.mem_of_getElem? (i := 36) rfl))) (Or.inr (hw _ (List.mem_of_getElem? (i := 34) rfl))) (by decide) (t := (.array .byte)) (t' := .byte) (by decide) (by decide))))
  have Kp10 : Keep h0 h7 [a] := (Kp6.wr W7 (Or.inl (List.mem_of_getElem? (i := 0) rfl)))
  refine Go.fin X7 (v := none) (fun _ => rfl) hlk (by decide) (by decide) ?_ (fun fs hr => X7.returnOut hx Bd.returns (hb hby d_jdk_42_method_151_code_14) hr)
  show Q_strBB Z a t u1 u2 h0 n0 _ T7.heap _
  rw [e7]
  exact ⟨rfl, N7, Kp10, F8, F9, Fw7⟩
def Q_nst (Z : State) (tt : Addr) (kb : ClassId) (cs : List Int32) (A : Nat) (E : Nat) (h0 : Heap) (n0 : Nat) (v : Option Value) (h : Heap) (L : List Loc) : Prop := ∃ (r : Addr) (t : Addr) (k2 : ClassId), v = some (.ref r) ∧ Fr n0 L ∧ Keep h0 h [] ∧ h0.size ≤ r ∧ Exa Z h r "java/lang/String" ∧ Fld Z h r "java/lang/String" "value" "[B" (.ref t) ∧ Fld Z h r "java/lang/String" "coder" "B" (.int (0 : Int32)) ∧ Arv Z h t k2 .byte (Int32.ofNat (E - A)) ((((cs.drop A).take (E - A)).map (fun c => c.toInt8.toInt32)).map Value.int) (.int (0 : Int32))
theorem pn_5 : plainName "java/lang/StringLatin1" = true := by first | (simp [plainName, overriddenIn]; done) | decide +kernel
theorem ef_nst (m : MethodId) (tt : Addr) : entryFrame m #[(.ref tt), (.int (Int32.ofNat A)), (.int (Int32.ofNat (E - A)))] 3 = mkF m 0 #[.val (.ref tt), .val (.int (Int32.ofNat A)), .val (.int (Int32.ofNat (E - A)))] [] := by first | (simp [entryFrame, mkF, argsToLocals, Value.category]; done) | rfl
theorem d_jdk_43_method_47_code_0 : decode jdk_43_method_47_code 0 = .ok (.iload_n 2, 1) := by decide +kernel
theorem d_jdk_43_method_47_code_1 : decode jdk_43_method_47_code 1 = .ok (.ifCond .ne 6, 3) := by decide +kernel
theorem d_jdk_43_method_47_code_7 : decode jdk_43_method_47_code 7 = .ok (.new 1, 3) := by decide +kernel
theorem d_jdk_43_method_47_code_10 : decode jdk_43_method_47_code 10 = .ok (.dup, 1) := by decide +kernel
theorem d_jdk_43_method_47_code_11 : decode jdk_43_method_47_code 11 = .ok (.aload_n 0, 1) := by decide +kernel
theorem d_jdk_43_method_47_code_12 : decode jdk_43_method_47_code 12 = .ok (.iload_n 1, 1) := by decide +kernel
theorem d_jdk_43_method_47_code_13 : decode jdk_43_method_47_code 13 = .ok (.iload_n 1, 1) := by decide +kernel
theorem d_jdk_43_method_47_code_14 : decode jdk_43_method_47_code 14 = .ok (.iload_n 2, 1) := by decide +kernel
theorem d_jdk_43_method_47_code_15 : decode jdk_43_method_47_code 15 = .ok (.iadd, 1) := by decide +kernel
theorem d_jdk_43_method_47_code_16 : decode jdk_43_method_47_code 16 = .ok (.invokestatic 232, 3) := by decide +kernel
theorem d_jdk_43_method_47_code_19 : decode jdk_43_method_47_code 19 = .ok (.iconst 0, 1) := by decide +kernel
theorem d_jdk_43_method_47_code_20 : decode jdk_43_method_47_code 20 = .ok (.invokespecial 112, 3) := by decide +kernel
theorem pd_7 : parseMethodDescriptor "([BB)V" = some ⟨[(.array .byte), .byte], none⟩ := by decide +kernel
theorem d_jdk_43_method_47_code_23 : decode jdk_43_method_47_code 23 = .ok (.areturn, 1) := by decide +kernel
set_option maxRecDepth 65536 in
set_option maxHeartbeats 40000000 in
theorem rm_nst (l : Launch) (Z : State) (a0 : Array Value) (hw : ∀ d ∈ tables_1, d.before a0 Z = true) (ws : List Jvm.Cond) (tt : Addr) (kb : ClassId) (cs : List Int32) (A : Nat) (E : Nat) (h0 : Heap) (n0 : Nat) (X00 : Old Z n0 h0) (P0 : Arv Z h0 tt kb .byte (5 : Int32) ((cs.map (fun c => c.toInt8.toInt32)).map Value.int) (.int (0 : Int32))) (hlen : cs.length = 5) (hAE : A ≤ E) (hE5 : E ≤ 5) (hnw : ¬ (A = 0 ∧ E = 5)) (hlt : A < E) :
    MetFree l (⟨"java/lang/StringLatin1", "newString", "([BII)Ljava/lang/String;"⟩ : MethodName) (head1 (Jvm.Cond.code (⟨"java/lang/StringLatin1", "newString", "([BII)Ljava/lang/String;"⟩ : MethodName) jdk_43_method_47_code 3 (some (.object "java/lang/String")) :: ws) ({ frames := 3, cells := 2, slots := 9, locals := 70 } : Room)) (fun aa_ U => aa_ = #[(.ref tt), (.int (Int32.ofNat A)), (.int (Int32.ofNat (E - A)))] ∧ Z.Warmed39 U.vm ∧ U.heap = h0) (fun _ _ _ _ _ => True) (fun _ U o U' => ∃ v L, o = .returned v ∧ Q_nst Z tt kb cs A E h0 n0 v U'.heap L ∧ FrameEnd U o U' L ({ frames := 3, cells := 2, slots := 9, locals := 70 } : Room).cells ({ frames := 3, cells := 2, slots := 9, locals := 70 } : Room).slots) := by
  refine MetFree.of_bodySF (plainFor_of_name pn_5) hisR ?_
  intro p e s m args below meth c s₁ Bd hml0 hP hK
  obtain ⟨rfl, hZ, hh⟩ := hP
  have hx := Bd.exec
  have hby := Bd.bytes
  have hml : c.maxLocals = 3 := hml0
  have hown : s.vm.findClass "java/lang/StringLatin1" = some m.cls := findClass_of_methodNamed Bd.named
  have hnm := (name_of_methodNamed Bd.named Bd.method).1
  have hlk : meth.locks = false := BodyLoose.notSynchronized Bd
  have X0 : Stand p l e ({ frames := 3, cells := 2, slots := 9, locals := 70 } : Room) s m #[(.ref tt), (.int (Int32.ofNat A)), (.int (Int32.ofNat (E - A)))] below meth c s₁ [] 0 0 := Stand.of_body Bd
  have e0 : s₁.heap = h0 := by rw [← hh, Bd.state]; rfl
  have N0 := Fr.nil n0
  suffices G : Go p e below s (Q_nst Z tt kb cs A E h0 n0) 2 9 s₁ (mkF m 0 #[.val (.ref tt), .val (.int (Int32.ofNat A)), .val (.int (Int32.ofNat (E - A)))] []) by
    obtain ⟨s2, o, h1, h2⟩ := G
    exact ⟨s2, o, castTop (ef_nst m tt) h1, h2⟩
  refine Go.by (T' := s₁) (g' := (mkF m 1 #[.val (.ref tt), .val (.int (Int32.ofNat A)), .val (.int (Int32.ofNat (E - A)))] [(.int (Int32.ofNat (E - A)))])) (fun t_ k_ => XS.iloadN X0.here hx rfl (hb hby d_jdk_43_method_47_code_0) rfl k_) ?_
  refine Go.by (T' := s₁) (g' := (mkF m 7 #[.val (.ref tt), .val (.int (Int32.ofNat A)), .val (.int (Int32.ofNat (E - A)))] [])) (fun t_ k_ => XS.ifYes X0.here hx rfl (pc0 := 1) (pc' := 7) rfl (hb hby d_jdk_43_method_47_code_1) rfl ((if0 _ _).trans (feq (by rw [show (0 : Int32) = Int32.ofNat 0 from rfl, own_inj (by omega) (by omega)]; omega)).2) (by decide) (by decide) k_) ?_
  obtain ⟨T1, h1, X1, e1, E1, A1, Df1, -, st1⟩ := newO X0 hx hZ hown (hw _ (List.mem_of_getElem? (i := 102) rfl)) (hw _ (List.mem_of_getElem? (i := 9) rfl)) (hw _ (List.mem_of_getElem? (i := 10) rfl)) e0 (g := (mkF m 7 #[.val (.ref tt), .val (.int (Int32.ofNat A)), .val (.int (Int32.ofNat (E - A)))] [])) rfl (hb hby d_jdk_43_method_47_code_7) (by decide) (by decide)
  obtain ⟨b1, g1⟩ : ∃ z, z = h0.size := ⟨_, rfl⟩
  rw [← g1] at A1 Df1 st1
  have ge_b1 : n0 ≤ b1 := Nat.le_trans X00.sz (Nat.le_of_eq g1.symm)
  have sz_b1 : h0.size ≤ b1 := Nat.le_trans (Keep.refl h0 []).1 (Nat.le_of_eq g1.symm)
  have ne_tt_b1 : ¬ (tt = b1) := Nat.ne_of_lt (Nat.lt_of_lt_of_le P0.lt (Nat.le_of_eq g1.symm))
  have F2 : Fld Z h1 b1 "java/lang/String" "coder" "B" (.int (0 : Int32)) := Df1 (Or.inr (hw _ (List.mem_of_getElem? (i := 34) rfl))) (ty := .byte) (by decide)
  have F3 : Fld Z h1 b1 "java/lang/String" "value" "[B" .null := Df1 (Or.inr (hw _ (List.mem_of_getElem? (i := 36) rfl))) (ty := (.array .byte)) (by decide)
  refine Go.by (T' := T1) (g' := (mkF m 10 #[.val (.ref tt), .val (.int (Int32.ofNat A)), .val (.int (Int32.ofNat (E - A)))] [(.ref b1)])) (fun t_ k_ => st1 _ k_) ?_
  refine Go.by (T' := T1) (g' := (mkF m 11 #[.val (.ref tt), .val (.int (Int32.ofNat A)), .val (.int (Int32.ofNat (E - A)))] [(.ref b1), (.ref b1)])) (fun t_ k_ => XS.dup X1.here hx rfl (hb hby d_jdk_43_method_47_code_10) rfl rfl k_) ?_
  refine Go.by (T' := T1) (g' := (mkF m 12 #[.val (.ref tt), .val (.int (Int32.ofNat A)), .val (.int (Int32.ofNat (E - A)))] [(.ref tt), (.ref b1), (.ref b1)])) (fun t_ k_ => XS.aloadN X1.here hx rfl (hb hby d_jdk_43_method_47_code_11) rfl rfl k_) ?_
  refine Go.by (T' := T1) (g' := (mkF m 13 #[.val (.ref tt), .val (.int (Int32.ofNat A)), .val (.int (Int32.ofNat (E - A)))] [(.int (Int32.ofNat A)), (.ref tt), (.ref b1), (.ref b1)])) (fun t_ k_ => XS.iloadN X1.here hx rfl (hb hby d_jdk_43_method_47_code_12) rfl k_) ?_
  refine Go.by (T' := T1) (g' := (mkF m 14 #[.val (.ref tt), .val (.int (Int32.ofNat A)), .val (.int (Int32.ofNat (E - A)))] [(.int (Int32.ofNat A)), (.int (Int32.ofNat A)), (.ref tt), (.ref b1), (.ref b1)])) (fun t_ k_ => XS.iloadN X1.here hx rfl (hb hby d_jdk_43_method_47_code_13) rfl k_) ?_
  refine Go.by (T' := T1) (g' := (mkF m 15 #[.val (.ref tt), .val (.int (Int32.ofNat A)), .val (.int (Int32.ofNat (E - A)))] [(.int (Int32.ofNat (E - A))), (.int (Int32.ofNat A)), (.int (Int32.ofNat A)), (.ref tt), (.ref b1), (.ref b1)])) (fun t_ k_ => XS.iloadN X1.here hx rfl (hb hby d_jdk_43_method_47_code_14) rfl k_) ?_
  refine Go.by (T' := T1) (g' := (mkF m 16 #[.val (.ref tt), .val (.int (Int32.ofNat A)), .val (.int (Int32.ofNat (E - A)))] [(.int ((Int32.ofNat A) + (Int32.ofNat (E - A)))), (.int (Int32.ofNat A)), (.ref tt), (.ref b1), (.ref b1)])) (fun t_ k_ => XS.iadd X1.here hx rfl (hb hby d_jdk_43_method_47_code_15) rfl k_) ?_
  rw [own_add, show A + (E - A) = E by omega]
  have F4 : Arv Z h1 tt kb .byte (5 : Int32) ((cs.map (fun c => c.toInt8.toInt32)).map Value.int) (.int (0 : Int32)) := (P0.ext E1)
  have Od5 : Old Z n0 h1 := (X00.ext E1)
  obtain ⟨_, _, ⟨T6, L6, k6, n6⟩, -, X6, ⟨Lc6, hQ6, l6, y6, z6⟩, st6⟩ := Jvm.LawKit.callS X1 hx (y := (⟨"java/util/Arrays", "copyOfRange", "([BII)[B"⟩ : MethodName)) hown (mvT hZ (hw _ (List.mem_of_getElem? (i := 103) rfl))) (mvT hZ (hw _ (List.mem_of_getElem? (i := 104) rfl))) (mvT hZ (hw _ (List.mem_of_getElem? (i := 105) rfl))) (mvT hZ (hw _ (List.mem_of_getElem? (i := 106) rfl))) (by decide) (backOf (W := 2) (rm_cor l Z a0 hw [] tt kb cs A E h1 n0 Od5 F4 hlen hAE hE5 hnw) hZ (hw _ (List.mem_of_getElem? (i := 106) rfl)) (hw _ (List.mem_of_getElem? (i := 105) rfl)) (by decide) (by decide)) (g := (mkF m 16 #[.val (.ref tt), .val (.int (Int32.ofNat A)), .val (.int (Int32.ofNat (E - A)))] [(.int (Int32.ofNat E)), (.int (Int32.ofNat A)), (.ref tt), (.ref b1), (.ref b1)])) rfl (by rw [hml]; rfl) (argsL := [(.ref tt), (.int (Int32.ofNat A)), (.int (Int32.ofNat E))]) (rest := [(.ref b1), (.ref b1)]) (lenOf pd_6 rfl) rfl (by show 2 * 0 + _ ≤ _; exact Nat.le_of_eq rfl) (hb hby d_jdk_43_method_47_code_16) (fun _ _ => ⟨rfl, e1, (by decide : 1 + 1 ≤ _), (by decide : 4 + 5 ≤ _)⟩)
  dsimp only [Pt.U, Pt.locs, Pt.cells, Pt.slots] at X6 l6 y6 z6 st6 hQ6
  subst l6 y6 z6
  obtain ⟨t_6, k2_6, rfl, N6q, K6, G6_0, G6_1⟩ := hQ6
  have N6 := Fr.app N0 N6q
  have ge_t_6 : n0 ≤ t_6 := Nat.le_trans Od5.sz G6_0
  have Kp7 : Keep h0 h1 [] := ((Keep.refl h0 []).ext E1)
  have sz_t_6 : h0.size ≤ t_6 := Nat.le_trans Kp7.1 G6_0
  have ne_tt_t_6 : ¬ (tt = t_6) := Nat.ne_of_lt (Nat.lt_of_lt_of_le F4.lt G6_0)
  have ne_b1_t_6 : ¬ (b1 = t_6) := Nat.ne_of_lt (Nat.lt_of_lt_of_le A1.lt G6_0)
  refine Go.by (T' := T6) (g' := (mkF m 19 #[.val (.ref tt), .val (.int (Int32.ofNat A)), .val (.int (Int32.ofNat (E - A)))] [(.ref t_6), (.ref b1), (.ref b1)])) (fun t_ k_ => st6 _ k_) ?_
  refine Go.by (T' := T6) (g' := (mkF m 20 #[.val (.ref tt), .val (.int (Int32.ofNat A)), .val (.int (Int32.ofNat (E - A)))] [(.int (0 : Int32)), (.ref t_6), (.ref b1), (.ref b1)])) (fun t_ k_ => XS.iconst X6.here hx rfl (hb hby d_jdk_43_method_47_code_19) k_) ?_
  have F8 : Exa Z T6.heap b1 "java/lang/String" := (A1.keep K6)
  have F9 : Fld Z T6.heap b1 "java/lang/String" "value" "[B" .null := (F3.keep K6 nin0)
  have F10 : Fld Z T6.heap b1 "java/lang/String" "coder" "B" (.int (0 : Int32)) := (F2.keep K6 nin0)
  have Od11 : Old Z n0 T6.heap := (Od5.keep K6 all0)
  have Kp12 : Keep h0 T6.heap [] := (Kp7.trans K6 all0)
  obtain ⟨_, _, ⟨T13, L13, k13, n13⟩, -, X13, ⟨Lc13, hQ13, l13, y13, z13⟩, st13⟩ := X6.specialBack hx (y := (⟨"java/lang/String", "<init>", "([BB)V"⟩ : MethodName)) rfl hown (mvT hZ (hw _ (List.mem_of_getElem? (i := 121) rfl))) (mvT hZ (hw _ (List.mem_of_getElem? (i := 122) rfl))) (mvT hZ (hw _ (List.mem_of_getElem? (i := 123) rfl))) (by decide) (backOf (W := 1) (rm_strBB l Z a0 hw [] b1 t_6 .null (.int (0 : Int32)) T6.heap n0 Od11 F8 F9 F10 ge_b1) hZ (hw _ (List.mem_of_getElem? (i := 123) rfl)) (hw _ (List.mem_of_getElem? (i := 10) rfl)) (by decide) (by decide)) (g := (mkF m 20 #[.val (.ref tt), .val (.int (Int32.ofNat A)), .val (.int (Int32.ofNat (E - A)))] [(.int (0 : Int32)), (.ref t_6), (.ref b1), (.ref b1)])) rfl (by rw [hml]; rfl) (Steps.refl _) (a := b1) (argsL := [(.ref t_6), (.int (0 : Int32))]) (rest := [(.ref b1)]) (lenOf pd_7 rfl) rfl (by show 2 * 0 + _ ≤ _; exact Nat.le_of_eq rfl) (hb hby d_jdk_43_method_47_code_20) (fun _ _ => ⟨rfl, rfl, (by decide : 2 + 0 ≤ _), (by decide : 9 + 0 ≤ _)⟩)
  dsimp only [Pt.U, Pt.locs, Pt.cells, Pt.slots] at X13 l13 y13 z13 st13 hQ13
  subst l13 y13 z13
  obtain ⟨rfl, N13q, K13, G13_0, G13_1, G13_2⟩ := hQ13
  have N13 := Fr.app N6 N13q
  refine Go.by (T' := T13) (g' := (mkF m 23 #[.val (.ref tt), .val (.int (Int32.ofNat A)), .val (.int (Int32.ofNat (E - A)))] [(.ref b1)])) (fun t_ k_ => st13.trans k_) ?_
  have F14 : Arv Z T13.heap t_6 k2_6 .byte (Int32.ofNat (E - A)) ((((cs.drop A).take (E - A)).map (fun c => c.toInt8.toInt32)).map Value.int) (.int (0 : Int32)) := (G6_1.keep K13 (ninS (Ne.symm ne_b1_t_6) nin0))
  have Kp15 : Keep h0 T13.heap [] := (Kp12.trans K13 (allS (Or.inr sz_b1) all0))
  refine Go.fin X13 (v := some (.ref b1)) (fun h => by rw [Bd.returns] at h; cases h) hlk (by decide) (by decide) ?_ (fun fs hr => retR X13 hx (w := (.ref b1)) Bd.returns rfl rfl rfl (hb hby d_jdk_43_method_47_code_23) hr)
  show Q_nst Z tt kb cs A E h0 n0 _ T13.heap _
  exact ⟨b1, t_6, k2_6, rfl, N13, Kp15, sz_b1, G13_0, G13_1, G13_2, F14⟩
def Q_nsz (Z : State) (tt : Addr) (A : Nat) (h0 : Heap) (n0 : Nat) (v : Option Value) (h : Heap) (L : List Loc) : Prop := ∃ (r : Addr) (t : Addr) (k2 : ClassId), v = some (.ref r) ∧ Fr n0 L ∧ Keep h0 h [] ∧ Exa Z h r "java/lang/String" ∧ Fld Z h r "java/lang/String" "value" "[B" (.ref t) ∧ Fld Z h r "java/lang/String" "coder" "B" (.int (0 : Int32)) ∧ Arv Z h t k2 .byte (0 : Int32) [] (.int (0 : Int32))
theorem ef_nsz (m : MethodId) (tt : Addr) : entryFrame m #[(.ref tt), (.int (Int32.ofNat A)), (.int (0 : Int32))] 3 = mkF m 0 #[.val (.ref tt), .val (.int (Int32.ofNat A)), .val (.int (0 : Int32))] [] := by first | (simp [entryFrame, mkF, argsToLocals, Value.category]; done) | rfl
theorem d_jdk_43_method_47_code_4 : decode jdk_43_method_47_code 4 = .ok (.ldc 151, 2) := by decide +kernel
theorem d_jdk_43_method_47_code_6 : decode jdk_43_method_47_code 6 = .ok (.areturn, 1) := by decide +kernel
set_option maxRecDepth 65536 in
set_option maxHeartbeats 40000000 in
theorem rm_nsz (l : Launch) (Z : State) (a0 : Array Value) (hw : ∀ d ∈ tables_1, d.before a0 Z = true) (ws : List Jvm.Cond) (tt : Addr) (A : Nat) (h0 : Heap) (n0 : Nat) (X00 : Old Z n0 h0) (hheld : Jvm.Lit.constHeld Z "java/lang/StringLatin1" 151) (hcw : Jvm.Lit.compactW.before a0 Z = true) :
    MetFree l (⟨"java/lang/StringLatin1", "newString", "([BII)Ljava/lang/String;"⟩ : MethodName) (head1 (Jvm.Cond.code (⟨"java/lang/StringLatin1", "newString", "([BII)Ljava/lang/String;"⟩ : MethodName) jdk_43_method_47_code 3 (some (.object "java/lang/String")) :: ws) ({ frames := 0, cells := 2, slots := 4, locals := 0 } : Room)) (fun aa_ U => aa_ = #[(.ref tt), (.int (Int32.ofNat A)), (.int (0 : Int32))] ∧ Z.Warmed39 U.vm ∧ U.heap = h0 ∧ IB Z U.vm []) (fun _ _ _ _ _ => True) (fun _ U o U' => ∃ v L, o = .returned v ∧ Q_nsz Z tt A h0 n0 v U'.heap L ∧ ReturnedEndW U o U' L ({ frames := 0, cells := 2, slots := 4, locals := 0 } : Room).cells ({ frames := 0, cells := 2, slots := 4, locals := 0 } : Room).slots) := by
  refine MetFree.of_bodySF (plainFor_of_name pn_5) hisR ?_
  intro p e s m args below meth c s₁ Bd hml0 hP hK
  obtain ⟨rfl, hZ, hh, hI⟩ := hP
  have hx := Bd.exec
  have hby := Bd.bytes
  have hml : c.maxLocals = 3 := hml0
  have hown : s.vm.findClass "java/lang/StringLatin1" = some m.cls := findClass_of_methodNamed Bd.named
  have hnm := (name_of_methodNamed Bd.named Bd.method).1
  have hlk : meth.locks = false := BodyLoose.notSynchronized Bd
  have X0 : Stand p l e ({ frames := 0, cells := 2, slots := 4, locals := 0 } : Room) s m #[(.ref tt), (.int (Int32.ofNat A)), (.int (0 : Int32))] below meth c s₁ [] 0 0 := Stand.of_body Bd
  have e0 : s₁.heap = h0 := by rw [← hh, Bd.state]; rfl
  have N0 := Fr.nil n0
  suffices G : GoW p e below s (Q_nsz Z tt A h0 n0) 2 4 s₁ (mkF m 0 #[.val (.ref tt), .val (.int (Int32.ofNat A)), .val (.int (0 : Int32))] []) by
    obtain ⟨s2, o, h1, h2⟩ := G
    exact ⟨s2, o, castTop (ef_nsz m tt) h1, h2⟩
  have hS : s.Since s.vm 0 := (State.WarmedH.refl s).since 0
  refine GoW.by (T' := s₁) (g' := (mkF m 1 #[.val (.ref tt), .val (.int (Int32.ofNat A)), .val (.int (0 : Int32))] [(.int (0 : Int32))])) (fun t_ k_ => XS.iloadN X0.here hx rfl (hb hby d_jdk_43_method_47_code_0) rfl k_) ?_
  refine GoW.by (T' := s₁) (g' := (mkF m 4 #[.val (.ref tt), .val (.int (Int32.ofNat A)), .val (.int (0 : Int32))] [])) (fun t_ k_ => XS.ifNo X0.here hx rfl (hb hby d_jdk_43_method_47_code_1) rfl ((if0 _ _).trans (teq rfl).2) k_) ?_
  obtain ⟨r1, T1, h1, k1_1, t1, kk1, X1, e1, E1, hS1, hk1, hZ1, hown1, Ex1, Fc1, Fv1, Av1, lr1, lt1, IB1, Lt1, st1⟩ := ldcSVL (vm0 := s.vm) (s := s) X0 hx hZ hown (hw _ (List.mem_of_getElem? (i := 124) rfl)) (own_atoms hw) e0 hS (Nat.zero_le _) (show Fr s.heap.size [] from Fr.nil _) (fun b cl q => by rw [hh]; exact X00.2.2 b cl q) hI (by simp) hheld hcw (vs := []) (z := (0 : Int32)) ⟨by decide, by decide⟩ (by decide) (by decide) (g := (mkF m 4 #[.val (.ref tt), .val (.int (Int32.ofNat A)), .val (.int (0 : Int32))] [])) rfl (hb hby d_jdk_43_method_47_code_4) (n := 0) (by decide) (by decide) (by decide) (by decide)
  have hS := hS1; have hZ := hZ1; have hown := hown1
  refine GoW.by (T' := T1) (g' := (mkF m 6 #[.val (.ref tt), .val (.int (Int32.ofNat A)), .val (.int (0 : Int32))] [(.ref r1)])) (fun t_ k_ => st1 _ k_) ?_
  have Kp2 : Keep h0 h1 [] := ((Keep.refl h0 []).ext E1)
  refine GoW.fin hS X1 (by rw [e1]; exact hk1) (v := some (.ref r1)) (fun h => by rw [Bd.returns] at h; cases h) hlk (by decide) (by decide) ?_ (fun fs hr => retR X1 hx (w := (.ref r1)) Bd.returns rfl rfl rfl (hb hby d_jdk_43_method_47_code_6) hr)
  show Q_nsz Z tt A h0 n0 _ T1.heap _
  rw [e1]
  exact ⟨r1, t1, kk1, rfl, N0, Kp2, Ex1, Fv1, Fc1, Av1⟩
def Q_subN (Z : State) (a : Addr) (tt : Addr) (kb : ClassId) (cs : List Int32) (A : Nat) (E : Nat) (G1 : Int32) (G3 : Value) (h0 : Heap) (n0 : Nat) (v : Option Value) (h : Heap) (L : List Loc) : Prop := ∃ (r : Addr) (t : Addr) (k2 : ClassId), v = some (.ref r) ∧ Fr n0 L ∧ Keep h0 h [] ∧ Exa Z h r "java/lang/String" ∧ Fld Z h r "java/lang/String" "value" "[B" (.ref t) ∧ Fld Z h r "java/lang/String" "coder" "B" (.int (0 : Int32)) ∧ Arv Z h t k2 .byte (Int32.ofNat (E - A)) ((((cs.drop A).take (E - A)).map (fun c => c.toInt8.toInt32)).map Value.int) (.int (0 : Int32))
theorem ef_subN (m : MethodId) (a : Addr) : entryFrame m #[(.ref a), (.int (Int32.ofNat A)), (.int (Int32.ofNat E))] 5 = mkF m 0 #[.val (.ref a), .val (.int (Int32.ofNat A)), .val (.int (Int32.ofNat E)), .unset, .unset] [] := by first | (simp [entryFrame, mkF, argsToLocals, Value.category]; done) | rfl
theorem d_jdk_42_method_92_code_0 : decode jdk_42_method_92_code 0 = .ok (.aload_n 0, 1) := by decide +kernel
theorem d_jdk_42_method_92_code_1 : decode jdk_42_method_92_code 1 = .ok (.invokevirtual 505, 3) := by decide +kernel
theorem d_jdk_42_method_92_code_4 : decode jdk_42_method_92_code 4 = .ok (.istore_n 3, 1) := by decide +kernel
theorem d_jdk_42_method_92_code_5 : decode jdk_42_method_92_code 5 = .ok (.iload_n 1, 1) := by decide +kernel
theorem d_jdk_42_method_92_code_6 : decode jdk_42_method_92_code 6 = .ok (.iload_n 2, 1) := by decide +kernel
theorem d_jdk_42_method_92_code_7 : decode jdk_42_method_92_code 7 = .ok (.iload_n 3, 1) := by decide +kernel
theorem d_jdk_42_method_92_code_8 : decode jdk_42_method_92_code 8 = .ok (.invokestatic 521, 3) := by decide +kernel
theorem pd_8 : parseMethodDescriptor "(III)V" = some ⟨[.int, .int, .int], none⟩ := by decide +kernel
theorem d_jdk_42_method_92_code_11 : decode jdk_42_method_92_code 11 = .ok (.iload_n 1, 1) := by decide +kernel
theorem d_jdk_42_method_92_code_12 : decode jdk_42_method_92_code 12 = .ok (.ifCond .ne 10, 3) := by decide +kernel
theorem d_jdk_42_method_92_code_15 : decode jdk_42_method_92_code 15 = .ok (.iload_n 2, 1) := by decide +kernel
theorem d_jdk_42_method_92_code_16 : decode jdk_42_method_92_code 16 = .ok (.iload_n 3, 1) := by decide +kernel
theorem d_jdk_42_method_92_code_17 : decode jdk_42_method_92_code 17 = .ok (.if_icmp .ne 5, 3) := by decide +kernel
theorem d_jdk_42_method_92_code_20 : decode jdk_42_method_92_code 20 = .ok (.aload_n 0, 1) := by decide +kernel
theorem d_jdk_42_method_92_code_21 : decode jdk_42_method_92_code 21 = .ok (.areturn, 1) := by decide +kernel
theorem d_jdk_42_method_92_code_22 : decode jdk_42_method_92_code 22 = .ok (.iload_n 2, 1) := by decide +kernel
theorem d_jdk_42_method_92_code_23 : decode jdk_42_method_92_code 23 = .ok (.iload_n 1, 1) := by decide +kernel
theorem d_jdk_42_method_92_code_24 : decode jdk_42_method_92_code 24 = .ok (.isub, 1) := by decide +kernel
theorem d_jdk_42_method_92_code_25 : decode jdk_42_method_92_code 25 = .ok (.istore 4, 2) := by decide +kernel
theorem d_jdk_42_method_92_code_27 : decode jdk_42_method_92_code 27 = .ok (.aload_n 0, 1) := by decide +kernel
theorem d_jdk_42_method_92_code_28 : decode jdk_42_method_92_code 28 = .ok (.invokevirtual 492, 3) := by decide +kernel
theorem pd_9 : parseMethodDescriptor "()Z" = some ⟨[], some .boolean⟩ := by decide +kernel
theorem d_jdk_42_method_92_code_31 : decode jdk_42_method_92_code 31 = .ok (.ifCond .eq 16, 3) := by decide +kernel
theorem d_jdk_42_method_92_code_34 : decode jdk_42_method_92_code 34 = .ok (.aload_n 0, 1) := by decide +kernel
theorem d_jdk_42_method_92_code_35 : decode jdk_42_method_92_code 35 = .ok (.getfield 9, 3) := by decide +kernel
theorem d_jdk_42_method_92_code_38 : decode jdk_42_method_92_code 38 = .ok (.iload_n 1, 1) := by decide +kernel
theorem d_jdk_42_method_92_code_39 : decode jdk_42_method_92_code 39 = .ok (.iload 4, 2) := by decide +kernel
theorem d_jdk_42_method_92_code_41 : decode jdk_42_method_92_code 41 = .ok (.invokestatic 685, 3) := by decide +kernel
theorem pd_10 : parseMethodDescriptor "([BII)Ljava/lang/String;" = some ⟨[(.array .byte), .int, .int], some (.object "java/lang/String")⟩ := by decide +kernel
theorem d_jdk_42_method_92_code_44 : decode jdk_42_method_92_code 44 = .ok (.goto 13, 3) := by decide +kernel
theorem d_jdk_42_method_92_code_57 : decode jdk_42_method_92_code 57 = .ok (.areturn, 1) := by decide +kernel
set_option maxRecDepth 65536 in
set_option maxHeartbeats 40000000 in
theorem rm_subN (l : Launch) (Z : State) (a0 : Array Value) (hw : ∀ d ∈ tables_1, d.before a0 Z = true) (ws : List Jvm.Cond) (a : Addr) (tt : Addr) (kb : ClassId) (cs : List Int32) (A : Nat) (E : Nat) (G1 : Int32) (G3 : Value) (h0 : Heap) (n0 : Nat) (X00 : Old Z n0 h0) (P0 : Exa Z h0 a "java/lang/String") (P1 : Fld Z h0 a "java/lang/String" "value" "[B" (.ref tt)) (P2 : Fld Z h0 a "java/lang/String" "coder" "B" (.int (0 : Int32))) (P3 : Arv Z h0 tt kb .byte (5 : Int32) ((cs.map (fun c => c.toInt8.toInt32)).map Value.int) (.int (0 : Int32))) (hp : ∀ c ∈ cs, ¬ c < 0 ∧ ¬ (255 : Int32) < c) (hlen : cs.length = 5) (hAE : A ≤ E) (hE5 : E ≤ 5) (P8 : Sta Z Z.heap "java/lang/String" "COMPACT_STRINGS" "Z" (.int G1)) (hCS : ¬ (G1 = (0 : Int32))) (P10 : Sta Z Z.heap "jdk/internal/util/Preconditions" "SIOOBE_FORMATTER" "Ljava/util/function/BiFunction;" G3) (hSF : G3.isRef = true) (hlt : A < E) :
    MetFree l (⟨"java/lang/String", "substring", "(II)Ljava/lang/String;"⟩ : MethodName) (head1 (Jvm.Cond.code (⟨"java/lang/String", "substring", "(II)Ljava/lang/String;"⟩ : MethodName) jdk_42_method_92_code 5 (some (.object "java/lang/String")) :: ws) ({ frames := 4, cells := 2, slots := 9, locals := 100 } : Room)) (fun aa_ U => aa_ = #[(.ref a), (.int (Int32.ofNat A)), (.int (Int32.ofNat E))] ∧ Z.Warmed39 U.vm ∧ U.heap = h0) (fun _ _ _ _ _ => True) (fun _ U o U' => ∃ v L, o = .returned v ∧ Q_subN Z a tt kb cs A E G1 G3 h0 n0 v U'.heap L ∧ FrameEnd U o U' L ({ frames := 4, cells := 2, slots := 9, locals := 100 } : Room).cells ({ frames := 4, cells := 2, slots := 9, locals := 100 } : Room).slots) := by
  refine MetFree.of_bodySF (plainFor_of_name pn_2) hisR ?_
  intro p e s m args below meth c s₁ Bd hml0 hP hK
  obtain ⟨rfl, hZ, hh⟩ := hP
  have hx := Bd.exec
  have hby := Bd.bytes
  have hml : c.maxLocals = 5 := hml0
  have hown : s.vm.findClass "java/lang/String" = some m.cls := findClass_of_methodNamed Bd.named
  have hnm := (name_of_methodNamed Bd.named Bd.method).1
  have hlk : meth.locks = false := BodyLoose.notSynchronized Bd
  have X0 : Stand p l e ({ frames := 4, cells := 2, slots := 9, locals := 100 } : Room) s m #[(.ref a), (.int (Int32.ofNat A)), (.int (Int32.ofNat E))] below meth c s₁ [] 0 0 := Stand.of_body Bd
  have e0 : s₁.heap = h0 := by rw [← hh, Bd.state]; rfl
  have N0 := Fr.nil n0
  suffices G : Go p e below s (Q_subN Z a tt kb cs A E G1 G3 h0 n0) 2 9 s₁ (mkF m 0 #[.val (.ref a), .val (.int (Int32.ofNat A)), .val (.int (Int32.ofNat E)), .unset, .unset] []) by
    obtain ⟨s2, o, h1, h2⟩ := G
    exact ⟨s2, o, castTop (ef_subN m a) h1, h2⟩
  have hcd : StrChars.Road.CodA cs 0 (5 : Int32) ((cs.map (fun c => c.toInt8.toInt32)).map Value.int) := StrChars.Road.codOf (n := 5) hlen (fun x hx => (hp x hx).2)
  have hup := own_up cs hp
  refine Go.by (T' := s₁) (g' := (mkF m 1 #[.val (.ref a), .val (.int (Int32.ofNat A)), .val (.int (Int32.ofNat E)), .unset, .unset] [(.ref a)])) (fun t_ k_ => XS.aloadN X0.here hx rfl (hb hby d_jdk_42_method_92_code_0) rfl rfl k_) ?_
  obtain ⟨cq1, kq1, q1a, q1b, q1c⟩ := isOf hZ e0 P0
  obtain ⟨_, _, ⟨T1, L1, k1, n1⟩, -, X1, ⟨Lc1, hQ1, l1, y1, z1⟩, st1⟩ := X0.virtualBack hx (y := (⟨"java/lang/String", "length", "()I"⟩ : MethodName)) (z := (⟨"java/lang/String", "length", "()I"⟩ : MethodName)) hown (mvT hZ (hw _ (List.mem_of_getElem? (i := 84) rfl))) (mvT hZ (hw _ (List.mem_of_getElem? (i := 45) rfl))) (notFace_of_selects (args := #[]) (mvT hZ (hw _ (List.mem_of_getElem? (i := 47) rfl)))) (mvT hZ (hw _ (List.mem_of_getElem? (i := 47) rfl))) (mvT hZ (hw _ (List.mem_of_getElem? (i := 46) rfl))) (by decide) (StrChars.Road.lenW (W := 0) hZ (own_wordsLen hw) (kI := 4) (hw _ (List.mem_of_getElem? (i := 9) rfl)) P0 P1 P2 P3 hcd hup (P8.ext X00.2) hCS (by rw [hlen]; decide) (by decide) (by decide)) q1a q1c (g := (mkF m 1 #[.val (.ref a), .val (.int (Int32.ofNat A)), .val (.int (Int32.ofNat E)), .unset, .unset] [(.ref a)])) rfl (by rw [hml]; rfl) (Steps.refl _) (argsL := []) (rest := []) (lenOf pd_1 rfl) rfl (by show 2 * 0 + _ ≤ _; exact Nat.le_of_eq rfl) (hb hby d_jdk_42_method_92_code_1) (fun _ _ => ⟨rfl, e0, (by decide : 0 + 0 ≤ _), (by decide : 0 + 0 ≤ _)⟩)
  dsimp only [Pt.U, Pt.locs, Pt.cells, Pt.slots] at X1 l1 y1 z1 st1 hQ1
  subst l1 y1 z1
  obtain ⟨rfl, rfl, e1⟩ := hQ1
  have N1 := Fr.app N0 (Fr.nil n0)
  refine Go.by (T' := T1) (g' := (mkF m 4 #[.val (.ref a), .val (.int (Int32.ofNat A)), .val (.int (Int32.ofNat E)), .unset, .unset] [(.int (Int32.ofNat cs.length))])) (fun t_ k_ => st1.trans k_) ?_
  rw [hlen]
  show Go p e below s (Q_subN Z a tt kb cs A E G1 G3 h0 n0) 2 9 T1 (mkF m 4 #[.val (.ref a), .val (.int (Int32.ofNat A)), .val (.int (Int32.ofNat E)), .unset, .unset] [(.int (5 : Int32))])
  refine Go.by (T' := T1) (g' := (mkF m 5 #[.val (.ref a), .val (.int (Int32.ofNat A)), .val (.int (Int32.ofNat E)), .val (.int (5 : Int32)), .unset] [])) (fun t_ k_ => XS.istoreN X1.here hx rfl (hb hby d_jdk_42_method_92_code_4) rfl (l' := #[.val (.ref a), .val (.int (Int32.ofNat A)), .val (.int (Int32.ofNat E)), .val (.int (5 : Int32)), .unset]) rfl k_) ?_
  refine Go.by (T' := T1) (g' := (mkF m 6 #[.val (.ref a), .val (.int (Int32.ofNat A)), .val (.int (Int32.ofNat E)), .val (.int (5 : Int32)), .unset] [(.int (Int32.ofNat A))])) (fun t_ k_ => XS.iloadN X1.here hx rfl (hb hby d_jdk_42_method_92_code_5) rfl k_) ?_
  refine Go.by (T' := T1) (g' := (mkF m 7 #[.val (.ref a), .val (.int (Int32.ofNat A)), .val (.int (Int32.ofNat E)), .val (.int (5 : Int32)), .unset] [(.int (Int32.ofNat E)), (.int (Int32.ofNat A))])) (fun t_ k_ => XS.iloadN X1.here hx rfl (hb hby d_jdk_42_method_92_code_6) rfl k_) ?_
  refine Go.by (T' := T1) (g' := (mkF m 8 #[.val (.ref a), .val (.int (Int32.ofNat A)), .val (.int (Int32.ofNat E)), .val (.int (5 : Int32)), .unset] [(.int (5 : Int32)), (.int (Int32.ofNat E)), (.int (Int32.ofNat A))])) (fun t_ k_ => XS.iloadN X1.here hx rfl (hb hby d_jdk_42_method_92_code_7) rfl k_) ?_
  obtain ⟨_, _, ⟨T2, L2, k2, n2⟩, -, X2, ⟨Lc2, hQ2, l2, y2, z2⟩, st2⟩ := Jvm.LawKit.callS X1 hx (y := (⟨"java/lang/String", "checkBoundsBeginEnd", "(III)V"⟩ : MethodName)) hown (mvT hZ (hw _ (List.mem_of_getElem? (i := 85) rfl))) (mvT hZ (hw _ (List.mem_of_getElem? (i := 86) rfl))) (mvT hZ (hw _ (List.mem_of_getElem? (i := 10) rfl))) (mvT hZ (hw _ (List.mem_of_getElem? (i := 87) rfl))) (by decide) (backOf (W := 0) (rm_cbe l Z a0 hw [] A E G3 h0 n0 X00 hAE hE5 P10 hSF) hZ (hw _ (List.mem_of_getElem? (i := 87) rfl)) (hw _ (List.mem_of_getElem? (i := 10) rfl)) (by decide) (by decide)) (g := (mkF m 8 #[.val (.ref a), .val (.int (Int32.ofNat A)), .val (.int (Int32.ofNat E)), .val (.int (5 : Int32)), .unset] [(.int (5 : Int32)), (.int (Int32.ofNat E)), (.int (Int32.ofNat A))])) rfl (by rw [hml]; rfl) (argsL := [(.int (Int32.ofNat A)), (.int (Int32.ofNat E)), (.int (5 : Int32))]) (rest := []) (lenOf pd_8 rfl) rfl (by show 2 * 0 + _ ≤ _; exact Nat.le_of_eq rfl) (hb hby d_jdk_42_method_92_code_8) (fun _ _ => ⟨rfl, e1, (by decide : 0 + 0 ≤ _), (by decide : 0 + 0 ≤ _)⟩)
  dsimp only [Pt.U, Pt.locs, Pt.cells, Pt.slots] at X2 l2 y2 z2 st2 hQ2
  subst l2 y2 z2
  obtain ⟨rfl, N2q, e2⟩ := hQ2
  have N2 := Fr.app N1 N2q
  refine Go.by (T' := T2) (g' := (mkF m 11 #[.val (.ref a), .val (.int (Int32.ofNat A)), .val (.int (Int32.ofNat E)), .val (.int (5 : Int32)), .unset] [])) (fun t_ k_ => st2 _ k_) ?_
  refine Go.by (T' := T2) (g' := (mkF m 12 #[.val (.ref a), .val (.int (Int32.ofNat A)), .val (.int (Int32.ofNat E)), .val (.int (5 : Int32)), .unset] [(.int (Int32.ofNat A))])) (fun t_ k_ => XS.iloadN X2.here hx rfl (hb hby d_jdk_42_method_92_code_11) rfl k_) ?_
  by_cases hA0 : A = 0
  · skip
    refine Go.by (T' := T2) (g' := (mkF m 15 #[.val (.ref a), .val (.int (Int32.ofNat A)), .val (.int (Int32.ofNat E)), .val (.int (5 : Int32)), .unset] [])) (fun t_ k_ => XS.ifNo X2.here hx rfl (hb hby d_jdk_42_method_92_code_12) rfl ((if0 _ _).trans (teq (by rw [show (0 : Int32) = Int32.ofNat 0 from rfl, own_inj (by omega) (by omega)]; exact hA0)).2) k_) ?_
    refine Go.by (T' := T2) (g' := (mkF m 16 #[.val (.ref a), .val (.int (Int32.ofNat A)), .val (.int (Int32.ofNat E)), .val (.int (5 : Int32)), .unset] [(.int (Int32.ofNat E))])) (fun t_ k_ => XS.iloadN X2.here hx rfl (hb hby d_jdk_42_method_92_code_15) rfl k_) ?_
    refine Go.by (T' := T2) (g' := (mkF m 17 #[.val (.ref a), .val (.int (Int32.ofNat A)), .val (.int (Int32.ofNat E)), .val (.int (5 : Int32)), .unset] [(.int (5 : Int32)), (.int (Int32.ofNat E))])) (fun t_ k_ => XS.iloadN X2.here hx rfl (hb hby d_jdk_42_method_92_code_16) rfl k_) ?_
    by_cases hE : E = 5
    · skip
      refine Go.by (T' := T2) (g' := (mkF m 20 #[.val (.ref a), .val (.int (Int32.ofNat A)), .val (.int (Int32.ofNat E)), .val (.int (5 : Int32)), .unset] [])) (fun t_ k_ => XS.icmpNo X2.here hx rfl (hb hby d_jdk_42_method_92_code_17) rfl (teq (by rw [hE]; rfl)).2 k_) ?_
      refine Go.by (T' := T2) (g' := (mkF m 21 #[.val (.ref a), .val (.int (Int32.ofNat A)), .val (.int (Int32.ofNat E)), .val (.int (5 : Int32)), .unset] [(.ref a)])) (fun t_ k_ => XS.aloadN X2.here hx rfl (hb hby d_jdk_42_method_92_code_20) rfl rfl k_) ?_
      have V3 : Arv Z h0 tt kb .byte (Int32.ofNat (E - A)) ((((cs.drop A).take (E - A)).map (fun c => c.toInt8.toInt32)).map Value.int) (.int (0 : Int32)) := by have q := P3; subst hA0; subst hE; rw [show (List.drop 0 cs).take (5 - 0) = cs by simp [← hlen]]; exact q
      refine Go.fin X2 (v := some (.ref a)) (fun h => by rw [Bd.returns] at h; cases h) hlk (by decide) (by decide) ?_ (fun fs hr => retR X2 hx (w := (.ref a)) Bd.returns rfl rfl rfl (hb hby d_jdk_42_method_92_code_21) hr)
      show Q_subN Z a tt kb cs A E G1 G3 h0 n0 _ T2.heap _
      rw [e2]
      exact ⟨a, tt, kb, rfl, N2, (Keep.refl h0 []), P0, P1, P2, V3⟩
    · skip
      refine Go.by (T' := T2) (g' := (mkF m 22 #[.val (.ref a), .val (.int (Int32.ofNat A)), .val (.int (Int32.ofNat E)), .val (.int (5 : Int32)), .unset] [])) (fun t_ k_ => XS.icmpYes X2.here hx rfl (pc0 := 17) (pc' := 22) rfl (hb hby d_jdk_42_method_92_code_17) rfl (feq (by rw [show (5 : Int32) = Int32.ofNat 5 from rfl, own_inj (by omega) (by omega)]; exact hE)).2 (by decide) (by decide) k_) ?_
      refine Go.by (T' := T2) (g' := (mkF m 23 #[.val (.ref a), .val (.int (Int32.ofNat A)), .val (.int (Int32.ofNat E)), .val (.int (5 : Int32)), .unset] [(.int (Int32.ofNat E))])) (fun t_ k_ => XS.iloadN X2.here hx rfl (hb hby d_jdk_42_method_92_code_22) rfl k_) ?_
      refine Go.by (T' := T2) (g' := (mkF m 24 #[.val (.ref a), .val (.int (Int32.ofNat A)), .val (.int (Int32.ofNat E)), .val (.int (5 : Int32)), .unset] [(.int (Int32.ofNat A)), (.int (Int32.ofNat E))])) (fun t_ k_ => XS.iloadN X2.here hx rfl (hb hby d_jdk_42_method_92_code_23) rfl k_) ?_
      refine Go.by (T' := T2) (g' := (mkF m 25 #[.val (.ref a), .val (.int (Int32.ofNat A)), .val (.int (Int32.ofNat E)), .val (.int (5 : Int32)), .unset] [(.int ((Int32.ofNat E) - (Int32.ofNat A)))])) (fun t_ k_ => XS.isub X2.here hx rfl (hb hby d_jdk_42_method_92_code_24) rfl k_) ?_
      rw [own_sub hAE]
      refine Go.by (T' := T2) (g' := (mkF m 27 #[.val (.ref a), .val (.int (Int32.ofNat A)), .val (.int (Int32.ofNat E)), .val (.int (5 : Int32)), .val (.int (Int32.ofNat (E - A)))] [])) (fun t_ k_ => XS.istore X2.here hx rfl (hb hby d_jdk_42_method_92_code_25) rfl (l' := #[.val (.ref a), .val (.int (Int32.ofNat A)), .val (.int (Int32.ofNat E)), .val (.int (5 : Int32)), .val (.int (Int32.ofNat (E - A)))]) rfl k_) ?_
      refine Go.by (T' := T2) (g' := (mkF m 28 #[.val (.ref a), .val (.int (Int32.ofNat A)), .val (.int (Int32.ofNat E)), .val (.int (5 : Int32)), .val (.int (Int32.ofNat (E - A)))] [(.ref a)])) (fun t_ k_ => XS.aloadN X2.here hx rfl (hb hby d_jdk_42_method_92_code_27) rfl rfl k_) ?_
      obtain ⟨cq4, kq4, q4a, q4b, q4c⟩ := isOf hZ e2 P0
      obtain ⟨_, _, ⟨T4, L4, k4, n4⟩, -, X4, ⟨Lc4, hQ4, l4, y4, z4⟩, st4⟩ := X2.virtualBack hx (y := (⟨"java/lang/String", "isLatin1", "()Z"⟩ : MethodName)) (z := (⟨"java/lang/String", "isLatin1", "()Z"⟩ : MethodName)) hown (mvT hZ (hw _ (List.mem_of_getElem? (i := 59) rfl))) (mvT hZ (hw _ (List.mem_of_getElem? (i := 60) rfl))) (notFace_of_selects (args := #[]) (mvT hZ (hw _ (List.mem_of_getElem? (i := 62) rfl)))) (mvT hZ (hw _ (List.mem_of_getElem? (i := 62) rfl))) (mvT hZ (hw _ (List.mem_of_getElem? (i := 61) rfl))) (by decide) (backOf (W := 0) (rm_isL1 l Z a0 hw [] a G1 h0 n0 X00 P2 P8 hCS) hZ (hw _ (List.mem_of_getElem? (i := 63) rfl)) (hw _ (List.mem_of_getElem? (i := 10) rfl)) (by decide) (by decide)) q4a q4c (g := (mkF m 28 #[.val (.ref a), .val (.int (Int32.ofNat A)), .val (.int (Int32.ofNat E)), .val (.int (5 : Int32)), .val (.int (Int32.ofNat (E - A)))] [(.ref a)])) rfl (by rw [hml]; rfl) (Steps.refl _) (argsL := []) (rest := []) (lenOf pd_9 rfl) rfl (by show 2 * 0 + _ ≤ _; exact Nat.le_of_eq rfl) (hb hby d_jdk_42_method_92_code_28) (fun _ _ => ⟨rfl, e2, (by decide : 0 + 0 ≤ _), (by decide : 0 + 0 ≤ _)⟩)
      dsimp only [Pt.U, Pt.locs, Pt.cells, Pt.slots] at X4 l4 y4 z4 st4 hQ4
      subst l4 y4 z4
      obtain ⟨rfl, N4q, e4⟩ := hQ4
      have N4 := Fr.app N2 N4q
      refine Go.by (T' := T4) (g' := (mkF m 31 #[.val (.ref a), .val (.int (Int32.ofNat A)), .val (.int (Int32.ofNat E)), .val (.int (5 : Int32)), .val (.int (Int32.ofNat (E - A)))] [(.int 1)])) (fun t_ k_ => st4.trans k_) ?_
      refine Go.by (T' := T4) (g' := (mkF m 34 #[.val (.ref a), .val (.int (Int32.ofNat A)), .val (.int (Int32.ofNat E)), .val (.int (5 : Int32)), .val (.int (Int32.ofNat (E - A)))] [])) (fun t_ k_ => XS.ifNo X4.here hx rfl (hb hby d_jdk_42_method_92_code_31) rfl ((if0 _ _).trans (feq (by decide)).1) k_) ?_
      refine Go.by (T' := T4) (g' := (mkF m 35 #[.val (.ref a), .val (.int (Int32.ofNat A)), .val (.int (Int32.ofNat E)), .val (.int (5 : Int32)), .val (.int (Int32.ofNat (E - A)))] [(.ref a)])) (fun t_ k_ => XS.aloadN X4.here hx rfl (hb hby d_jdk_42_method_92_code_34) rfl rfl k_) ?_
      obtain ⟨T5, X5, e5, st5⟩ := getF X4 hx hZ hown (host := "") (Or.inl (hw _ (List.mem_of_getElem? (i := 35) rfl))) Via.refl e4 P1 (g := (mkF m 35 #[.val (.ref a), .val (.int (Int32.ofNat A)), .val (.int (Int32.ofNat E)), .val (.int (5 : Int32)), .val (.int (Int32.ofNat (E - A)))] [(.ref a)])) rfl rfl (hb hby d_jdk_42_method_92_code_35)
      refine Go.by (T' := T5) (g' := (mkF m 38 #[.val (.ref a), .val (.int (Int32.ofNat A)), .val (.int (Int32.ofNat E)), .val (.int (5 : Int32)), .val (.int (Int32.ofNat (E - A)))] [(.ref tt)])) (fun t_ k_ => st5 _ k_) ?_
      refine Go.by (T' := T5) (g' := (mkF m 39 #[.val (.ref a), .val (.int (Int32.ofNat A)), .val (.int (Int32.ofNat E)), .val (.int (5 : Int32)), .val (.int (Int32.ofNat (E - A)))] [(.int (Int32.ofNat A)), (.ref tt)])) (fun t_ k_ => XS.iloadN X5.here hx rfl (hb hby d_jdk_42_method_92_code_38) rfl k_) ?_
      refine Go.by (T' := T5) (g' := (mkF m 41 #[.val (.ref a), .val (.int (Int32.ofNat A)), .val (.int (Int32.ofNat E)), .val (.int (5 : Int32)), .val (.int (Int32.ofNat (E - A)))] [(.int (Int32.ofNat (E - A))), (.int (Int32.ofNat A)), (.ref tt)])) (fun t_ k_ => XS.iload X5.here hx rfl (hb hby d_jdk_42_method_92_code_39) rfl k_) ?_
      obtain ⟨_, _, ⟨T6, L6, k6, n6⟩, -, X6, ⟨Lc6, hQ6, l6, y6, z6⟩, st6⟩ := Jvm.LawKit.callS X5 hx (y := (⟨"java/lang/StringLatin1", "newString", "([BII)Ljava/lang/String;"⟩ : MethodName)) hown (mvT hZ (hw _ (List.mem_of_getElem? (i := 99) rfl))) (mvT hZ (hw _ (List.mem_of_getElem? (i := 100) rfl))) (mvT hZ (hw _ (List.mem_of_getElem? (i := 66) rfl))) (mvT hZ (hw _ (List.mem_of_getElem? (i := 101) rfl))) (by decide) (backOf (W := 0) (rm_nst l Z a0 hw [] tt kb cs A E h0 n0 X00 P3 hlen hAE hE5 (fun q => hE q.2) hlt) hZ (hw _ (List.mem_of_getElem? (i := 101) rfl)) (hw _ (List.mem_of_getElem? (i := 66) rfl)) (by decide) (by decide)) (g := (mkF m 41 #[.val (.ref a), .val (.int (Int32.ofNat A)), .val (.int (Int32.ofNat E)), .val (.int (5 : Int32)), .val (.int (Int32.ofNat (E - A)))] [(.int (Int32.ofNat (E - A))), (.int (Int32.ofNat A)), (.ref tt)])) rfl (by rw [hml]; rfl) (argsL := [(.ref tt), (.int (Int32.ofNat A)), (.int (Int32.ofNat (E - A)))]) (rest := []) (lenOf pd_10 rfl) rfl (by show 2 * 0 + _ ≤ _; exact Nat.le_of_eq rfl) (hb hby d_jdk_42_method_92_code_41) (fun _ _ => ⟨rfl, e5, (by decide : 0 + 2 ≤ _), (by decide : 0 + 9 ≤ _)⟩)
      dsimp only [Pt.U, Pt.locs, Pt.cells, Pt.slots] at X6 l6 y6 z6 st6 hQ6
      subst l6 y6 z6
      obtain ⟨r_6, t_6, k2_6, rfl, N6q, K6, G6_0, G6_1, G6_2, G6_3, G6_4⟩ := hQ6
      have N6 := Fr.app N4 N6q
      have ge_r_6 : n0 ≤ r_6 := Nat.le_trans X00.sz G6_0
      have sz_r_6 : h0.size ≤ r_6 := Nat.le_trans (Keep.refl h0 []).1 G6_0
      have ne_a_r_6 : ¬ (a = r_6) := Nat.ne_of_lt (Nat.lt_of_lt_of_le P0.lt G6_0)
      have ne_tt_r_6 : ¬ (tt = r_6) := Nat.ne_of_lt (Nat.lt_of_lt_of_le P3.lt G6_0)
      refine Go.by (T' := T6) (g' := (mkF m 44 #[.val (.ref a), .val (.int (Int32.ofNat A)), .val (.int (Int32.ofNat E)), .val (.int (5 : Int32)), .val (.int (Int32.ofNat (E - A)))] [(.ref r_6)])) (fun t_ k_ => st6 _ k_) ?_
      refine Go.by (T' := T6) (g' := (mkF m 57 #[.val (.ref a), .val (.int (Int32.ofNat A)), .val (.int (Int32.ofNat E)), .val (.int (5 : Int32)), .val (.int (Int32.ofNat (E - A)))] [(.ref r_6)])) (fun t_ k_ => XS.goto X6.here hx rfl (pc0 := 44) (pc' := 57) rfl (hb hby d_jdk_42_method_92_code_44) (by decide) (by decide) k_) ?_
      have Kp7 : Keep h0 T6.heap [] := ((Keep.refl h0 []).trans K6 all0)
      refine Go.fin X6 (v := some (.ref r_6)) (fun h => by rw [Bd.returns] at h; cases h) hlk (by decide) (by decide) ?_ (fun fs hr => retR X6 hx (w := (.ref r_6)) Bd.returns rfl rfl rfl (hb hby d_jdk_42_method_92_code_57) hr)
      show Q_subN Z a tt kb cs A E G1 G3 h0 n0 _ T6.heap _
      exact ⟨r_6, t_6, k2_6, rfl, N6, Kp7, G6_1, G6_2, G6_3, G6_4⟩
  · skip
    refine Go.by (T' := T2) (g' := (mkF m 22 #[.val (.ref a), .val (.int (Int32.ofNat A)), .val (.int (Int32.ofNat E)), .val (.int (5 : Int32)), .unset] [])) (fun t_ k_ => XS.ifYes X2.here hx rfl (pc0 := 12) (pc' := 22) rfl (hb hby d_jdk_42_method_92_code_12) rfl ((if0 _ _).trans (feq (by rw [show (0 : Int32) = Int32.ofNat 0 from rfl, own_inj (by omega) (by omega)]; exact hA0)).2) (by decide) (by decide) k_) ?_
    refine Go.by (T' := T2) (g' := (mkF m 23 #[.val (.ref a), .val (.int (Int32.ofNat A)), .val (.int (Int32.ofNat E)), .val (.int (5 : Int32)), .unset] [(.int (Int32.ofNat E))])) (fun t_ k_ => XS.iloadN X2.here hx rfl (hb hby d_jdk_42_method_92_code_22) rfl k_) ?_
    refine Go.by (T' := T2) (g' := (mkF m 24 #[.val (.ref a), .val (.int (Int32.ofNat A)), .val (.int (Int32.ofNat E)), .val (.int (5 : Int32)), .unset] [(.int (Int32.ofNat A)), (.int (Int32.ofNat E))])) (fun t_ k_ => XS.iloadN X2.here hx rfl (hb hby d_jdk_42_method_92_code_23) rfl k_) ?_
    refine Go.by (T' := T2) (g' := (mkF m 25 #[.val (.ref a), .val (.int (Int32.ofNat A)), .val (.int (Int32.ofNat E)), .val (.int (5 : Int32)), .unset] [(.int ((Int32.ofNat E) - (Int32.ofNat A)))])) (fun t_ k_ => XS.isub X2.here hx rfl (hb hby d_jdk_42_method_92_code_24) rfl k_) ?_
    refine Go.by (T' := T2) (g' := (mkF m 27 #[.val (.ref a), .val (.int (Int32.ofNat A)), .val (.int (Int32.ofNat E)), .val (.int (5 : Int32)), .val (.int ((Int32.ofNat E) - (Int32.ofNat A)))] [])) (fun t_ k_ => XS.istore X2.here hx rfl (hb hby d_jdk_42_method_92_code_25) rfl (l' := #[.val (.ref a), .val (.int (Int32.ofNat A)), .val (.int (Int32.ofNat E)), .val (.int (5 : Int32)), .val (.int ((Int32.ofNat E) - (Int32.ofNat A)))]) rfl k_) ?_
    refine Go.by (T' := T2) (g' := (mkF m 28 #[.val (.ref a), .val (.int (Int32.ofNat A)), .val (.int (Int32.ofNat E)), .val (.int (5 : Int32)), .val (.int ((Int32.ofNat E) - (Int32.ofNat A)))] [(.ref a)])) (fun t_ k_ => XS.aloadN X2.here hx rfl (hb hby d_jdk_42_method_92_code_27) rfl rfl k_) ?_
    rw [own_sub hAE]
    obtain ⟨cq8, kq8, q8a, q8b, q8c⟩ := isOf hZ e2 P0
    obtain ⟨_, _, ⟨T8, L8, k8, n8⟩, -, X8, ⟨Lc8, hQ8, l8, y8, z8⟩, st8⟩ := X2.virtualBack hx (y := (⟨"java/lang/String", "isLatin1", "()Z"⟩ : MethodName)) (z := (⟨"java/lang/String", "isLatin1", "()Z"⟩ : MethodName)) hown (mvT hZ (hw _ (List.mem_of_getElem? (i := 59) rfl))) (mvT hZ (hw _ (List.mem_of_getElem? (i := 60) rfl))) (notFace_of_selects (args := #[]) (mvT hZ (hw _ (List.mem_of_getElem? (i := 62) rfl)))) (mvT hZ (hw _ (List.mem_of_getElem? (i := 62) rfl))) (mvT hZ (hw _ (List.mem_of_getElem? (i := 61) rfl))) (by decide) (backOf (W := 0) (rm_isL1 l Z a0 hw [] a G1 h0 n0 X00 P2 P8 hCS) hZ (hw _ (List.mem_of_getElem? (i := 63) rfl)) (hw _ (List.mem_of_getElem? (i := 10) rfl)) (by decide) (by decide)) q8a q8c (g := (mkF m 28 #[.val (.ref a), .val (.int (Int32.ofNat A)), .val (.int (Int32.ofNat E)), .val (.int (5 : Int32)), .val (.int (Int32.ofNat (E - A)))] [(.ref a)])) rfl (by rw [hml]; rfl) (Steps.refl _) (argsL := []) (rest := []) (lenOf pd_9 rfl) rfl (by show 2 * 0 + _ ≤ _; exact Nat.le_of_eq rfl) (hb hby d_jdk_42_method_92_code_28) (fun _ _ => ⟨rfl, e2, (by decide : 0 + 0 ≤ _), (by decide : 0 + 0 ≤ _)⟩)
    dsimp only [Pt.U, Pt.locs, Pt.cells, Pt.slots] at X8 l8 y8 z8 st8 hQ8
    subst l8 y8 z8
    obtain ⟨rfl, N8q, e8⟩ := hQ8
    have N8 := Fr.app N2 N8q
    refine Go.by (T' := T8) (g' := (mkF m 31 #[.val (.ref a), .val (.int (Int32.ofNat A)), .val (.int (Int32.ofNat E)), .val (.int (5 : Int32)), .val (.int (Int32.ofNat (E - A)))] [(.int 1)])) (fun t_ k_ => st8.trans k_) ?_
    refine Go.by (T' := T8) (g' := (mkF m 34 #[.val (.ref a), .val (.int (Int32.ofNat A)), .val (.int (Int32.ofNat E)), .val (.int (5 : Int32)), .val (.int (Int32.ofNat (E - A)))] [])) (fun t_ k_ => XS.ifNo X8.here hx rfl (hb hby d_jdk_42_method_92_code_31) rfl ((if0 _ _).trans (feq (by decide)).1) k_) ?_
    refine Go.by (T' := T8) (g' := (mkF m 35 #[.val (.ref a), .val (.int (Int32.ofNat A)), .val (.int (Int32.ofNat E)), .val (.int (5 : Int32)), .val (.int (Int32.ofNat (E - A)))] [(.ref a)])) (fun t_ k_ => XS.aloadN X8.here hx rfl (hb hby d_jdk_42_method_92_code_34) rfl rfl k_) ?_
    obtain ⟨T9, X9, e9, st9⟩ := getF X8 hx hZ hown (host := "") (Or.inl (hw _ (List.mem_of_getElem? (i := 35) rfl))) Via.refl e8 P1 (g := (mkF m 35 #[.val (.ref a), .val (.int (Int32.ofNat A)), .val (.int (Int32.ofNat E)), .val (.int (5 : Int32)), .val (.int (Int32.ofNat (E - A)))] [(.ref a)])) rfl rfl (hb hby d_jdk_42_method_92_code_35)
    refine Go.by (T' := T9) (g' := (mkF m 38 #[.val (.ref a), .val (.int (Int32.ofNat A)), .val (.int (Int32.ofNat E)), .val (.int (5 : Int32)), .val (.int (Int32.ofNat (E - A)))] [(.ref tt)])) (fun t_ k_ => st9 _ k_) ?_
    refine Go.by (T' := T9) (g' := (mkF m 39 #[.val (.ref a), .val (.int (Int32.ofNat A)), .val (.int (Int32.ofNat E)), .val (.int (5 : Int32)), .val (.int (Int32.ofNat (E - A)))] [(.int (Int32.ofNat A)), (.ref tt)])) (fun t_ k_ => XS.iloadN X9.here hx rfl (hb hby d_jdk_42_method_92_code_38) rfl k_) ?_
    refine Go.by (T' := T9) (g' := (mkF m 41 #[.val (.ref a), .val (.int (Int32.ofNat A)), .val (.int (Int32.ofNat E)), .val (.int (5 : Int32)), .val (.int (Int32.ofNat (E - A)))] [(.int (Int32.ofNat (E - A))), (.int (Int32.ofNat A)), (.ref tt)])) (fun t_ k_ => XS.iload X9.here hx rfl (hb hby d_jdk_42_method_92_code_39) rfl k_) ?_
    obtain ⟨_, _, ⟨T10, L10, k10, n10⟩, -, X10, ⟨Lc10, hQ10, l10, y10, z10⟩, st10⟩ := Jvm.LawKit.callS X9 hx (y := (⟨"java/lang/StringLatin1", "newString", "([BII)Ljava/lang/String;"⟩ : MethodName)) hown (mvT hZ (hw _ (List.mem_of_getElem? (i := 99) rfl))) (mvT hZ (hw _ (List.mem_of_getElem? (i := 100) rfl))) (mvT hZ (hw _ (List.mem_of_getElem? (i := 66) rfl))) (mvT hZ (hw _ (List.mem_of_getElem? (i := 101) rfl))) (by decide) (backOf (W := 0) (rm_nst l Z a0 hw [] tt kb cs A E h0 n0 X00 P3 hlen hAE hE5 (fun q => hA0 q.1) hlt) hZ (hw _ (List.mem_of_getElem? (i := 101) rfl)) (hw _ (List.mem_of_getElem? (i := 66) rfl)) (by decide) (by decide)) (g := (mkF m 41 #[.val (.ref a), .val (.int (Int32.ofNat A)), .val (.int (Int32.ofNat E)), .val (.int (5 : Int32)), .val (.int (Int32.ofNat (E - A)))] [(.int (Int32.ofNat (E - A))), (.int (Int32.ofNat A)), (.ref tt)])) rfl (by rw [hml]; rfl) (argsL := [(.ref tt), (.int (Int32.ofNat A)), (.int (Int32.ofNat (E - A)))]) (rest := []) (lenOf pd_10 rfl) rfl (by show 2 * 0 + _ ≤ _; exact Nat.le_of_eq rfl) (hb hby d_jdk_42_method_92_code_41) (fun _ _ => ⟨rfl, e9, (by decide : 0 + 2 ≤ _), (by decide : 0 + 9 ≤ _)⟩)
    dsimp only [Pt.U, Pt.locs, Pt.cells, Pt.slots] at X10 l10 y10 z10 st10 hQ10
    subst l10 y10 z10
    obtain ⟨r_10, t_10, k2_10, rfl, N10q, K10, G10_0, G10_1, G10_2, G10_3, G10_4⟩ := hQ10
    have N10 := Fr.app N8 N10q
    have ge_r_10 : n0 ≤ r_10 := Nat.le_trans X00.sz G10_0
    have sz_r_10 : h0.size ≤ r_10 := Nat.le_trans (Keep.refl h0 []).1 G10_0
    have ne_a_r_10 : ¬ (a = r_10) := Nat.ne_of_lt (Nat.lt_of_lt_of_le P0.lt G10_0)
    have ne_tt_r_10 : ¬ (tt = r_10) := Nat.ne_of_lt (Nat.lt_of_lt_of_le P3.lt G10_0)
    refine Go.by (T' := T10) (g' := (mkF m 44 #[.val (.ref a), .val (.int (Int32.ofNat A)), .val (.int (Int32.ofNat E)), .val (.int (5 : Int32)), .val (.int (Int32.ofNat (E - A)))] [(.ref r_10)])) (fun t_ k_ => st10 _ k_) ?_
    refine Go.by (T' := T10) (g' := (mkF m 57 #[.val (.ref a), .val (.int (Int32.ofNat A)), .val (.int (Int32.ofNat E)), .val (.int (5 : Int32)), .val (.int (Int32.ofNat (E - A)))] [(.ref r_10)])) (fun t_ k_ => XS.goto X10.here hx rfl (pc0 := 44) (pc' := 57) rfl (hb hby d_jdk_42_method_92_code_44) (by decide) (by decide) k_) ?_
    have Kp11 : Keep h0 T10.heap [] := ((Keep.refl h0 []).trans K10 all0)
    refine Go.fin X10 (v := some (.ref r_10)) (fun h => by rw [Bd.returns] at h; cases h) hlk (by decide) (by decide) ?_ (fun fs hr => retR X10 hx (w := (.ref r_10)) Bd.returns rfl rfl rfl (hb hby d_jdk_42_method_92_code_57) hr)
    show Q_subN Z a tt kb cs A E G1 G3 h0 n0 _ T10.heap _
    exact ⟨r_10, t_10, k2_10, rfl, N10, Kp11, G10_1, G10_2, G10_3, G10_4⟩
def Q_subZ (Z : State) (a : Addr) (tt : Addr) (kb : ClassId) (cs : List Int32) (A : Nat) (E : Nat) (G1 : Int32) (G3 : Value) (h0 : Heap) (n0 : Nat) (v : Option Value) (h : Heap) (L : List Loc) : Prop := ∃ (r : Addr) (t : Addr) (k2 : ClassId), v = some (.ref r) ∧ Fr n0 L ∧ Keep h0 h [] ∧ Exa Z h r "java/lang/String" ∧ Fld Z h r "java/lang/String" "value" "[B" (.ref t) ∧ Fld Z h r "java/lang/String" "coder" "B" (.int (0 : Int32)) ∧ Arv Z h t k2 .byte (0 : Int32) [] (.int (0 : Int32))
theorem ef_subZ (m : MethodId) (a : Addr) : entryFrame m #[(.ref a), (.int (Int32.ofNat A)), (.int (Int32.ofNat E))] 5 = mkF m 0 #[.val (.ref a), .val (.int (Int32.ofNat A)), .val (.int (Int32.ofNat E)), .unset, .unset] [] := by first | (simp [entryFrame, mkF, argsToLocals, Value.category]; done) | rfl
set_option maxRecDepth 65536 in
set_option maxHeartbeats 40000000 in
theorem rm_subZ (l : Launch) (Z : State) (a0 : Array Value) (hw : ∀ d ∈ tables_1, d.before a0 Z = true) (ws : List Jvm.Cond) (a : Addr) (tt : Addr) (kb : ClassId) (cs : List Int32) (A : Nat) (E : Nat) (G1 : Int32) (G3 : Value) (h0 : Heap) (n0 : Nat) (X00 : Old Z n0 h0) (P0 : Exa Z h0 a "java/lang/String") (P1 : Fld Z h0 a "java/lang/String" "value" "[B" (.ref tt)) (P2 : Fld Z h0 a "java/lang/String" "coder" "B" (.int (0 : Int32))) (P3 : Arv Z h0 tt kb .byte (5 : Int32) ((cs.map (fun c => c.toInt8.toInt32)).map Value.int) (.int (0 : Int32))) (hp : ∀ c ∈ cs, ¬ c < 0 ∧ ¬ (255 : Int32) < c) (hlen : cs.length = 5) (hAE : A ≤ E) (hE5 : E ≤ 5) (P8 : Sta Z Z.heap "java/lang/String" "COMPACT_STRINGS" "Z" (.int G1)) (hCS : ¬ (G1 = (0 : Int32))) (P10 : Sta Z Z.heap "jdk/internal/util/Preconditions" "SIOOBE_FORMATTER" "Ljava/util/function/BiFunction;" G3) (hSF : G3.isRef = true) (heq : A = E) (hheld : Jvm.Lit.constHeld Z "java/lang/StringLatin1" 151) (hcw : Jvm.Lit.compactW.before a0 Z = true) :
    MetFree l (⟨"java/lang/String", "substring", "(II)Ljava/lang/String;"⟩ : MethodName) (head1 (Jvm.Cond.code (⟨"java/lang/String", "substring", "(II)Ljava/lang/String;"⟩ : MethodName) jdk_42_method_92_code 5 (some (.object "java/lang/String")) :: ws) ({ frames := 2, cells := 2, slots := 4, locals := 40 } : Room)) (fun aa_ U => aa_ = #[(.ref a), (.int (Int32.ofNat A)), (.int (Int32.ofNat E))] ∧ Z.Warmed39 U.vm ∧ U.heap = h0 ∧ IB Z U.vm []) (fun _ _ _ _ _ => True) (fun _ U o U' => ∃ v L, o = .returned v ∧ Q_subZ Z a tt kb cs A E G1 G3 h0 n0 v U'.heap L ∧ ReturnedEndW U o U' L ({ frames := 2, cells := 2, slots := 4, locals := 40 } : Room).cells ({ frames := 2, cells := 2, slots := 4, locals := 40 } : Room).slots) := by
  refine MetFree.of_bodySF (plainFor_of_name pn_2) hisR ?_
  intro p e s m args below meth c s₁ Bd hml0 hP hK
  obtain ⟨rfl, hZ, hh, hI⟩ := hP
  have hx := Bd.exec
  have hby := Bd.bytes
  have hml : c.maxLocals = 5 := hml0
  have hown : s.vm.findClass "java/lang/String" = some m.cls := findClass_of_methodNamed Bd.named
  have hnm := (name_of_methodNamed Bd.named Bd.method).1
  have hlk : meth.locks = false := BodyLoose.notSynchronized Bd
  have X0 : Stand p l e ({ frames := 2, cells := 2, slots := 4, locals := 40 } : Room) s m #[(.ref a), (.int (Int32.ofNat A)), (.int (Int32.ofNat E))] below meth c s₁ [] 0 0 := Stand.of_body Bd
  have e0 : s₁.heap = h0 := by rw [← hh, Bd.state]; rfl
  have N0 := Fr.nil n0
  suffices G : GoW p e below s (Q_subZ Z a tt kb cs A E G1 G3 h0 n0) 2 4 s₁ (mkF m 0 #[.val (.ref a), .val (.int (Int32.ofNat A)), .val (.int (Int32.ofNat E)), .unset, .unset] []) by
    obtain ⟨s2, o, h1, h2⟩ := G
    exact ⟨s2, o, castTop (ef_subZ m a) h1, h2⟩
  have hS : s.Since s.vm 0 := (State.WarmedH.refl s).since 0
  have hcd : StrChars.Road.CodA cs 0 (5 : Int32) ((cs.map (fun c => c.toInt8.toInt32)).map Value.int) := StrChars.Road.codOf (n := 5) hlen (fun x hx => (hp x hx).2)
  have hup := own_up cs hp
  refine GoW.by (T' := s₁) (g' := (mkF m 1 #[.val (.ref a), .val (.int (Int32.ofNat A)), .val (.int (Int32.ofNat E)), .unset, .unset] [(.ref a)])) (fun t_ k_ => XS.aloadN X0.here hx rfl (hb hby d_jdk_42_method_92_code_0) rfl rfl k_) ?_
  obtain ⟨cq1, kq1, q1a, q1b, q1c⟩ := isOf hZ e0 P0
  obtain ⟨_, _, ⟨T1, L1, k1, n1⟩, -, X1, ⟨Lc1, hQ1, l1, y1, z1⟩, st1⟩ := X0.virtualBack hx (y := (⟨"java/lang/String", "length", "()I"⟩ : MethodName)) (z := (⟨"java/lang/String", "length", "()I"⟩ : MethodName)) hown (mvT hZ (hw _ (List.mem_of_getElem? (i := 84) rfl))) (mvT hZ (hw _ (List.mem_of_getElem? (i := 45) rfl))) (notFace_of_selects (args := #[]) (mvT hZ (hw _ (List.mem_of_getElem? (i := 47) rfl)))) (mvT hZ (hw _ (List.mem_of_getElem? (i := 47) rfl))) (mvT hZ (hw _ (List.mem_of_getElem? (i := 46) rfl))) (by decide) (StrChars.Road.lenW (W := 0) hZ (own_wordsLen hw) (kI := 4) (hw _ (List.mem_of_getElem? (i := 9) rfl)) P0 P1 P2 P3 hcd hup (P8.ext X00.2) hCS (by rw [hlen]; decide) (by decide) (by decide)) q1a q1c (g := (mkF m 1 #[.val (.ref a), .val (.int (Int32.ofNat A)), .val (.int (Int32.ofNat E)), .unset, .unset] [(.ref a)])) rfl (by rw [hml]; rfl) (Steps.refl _) (argsL := []) (rest := []) (lenOf pd_1 rfl) rfl (by show 2 * 0 + _ ≤ _; exact Nat.le_of_eq rfl) (hb hby d_jdk_42_method_92_code_1) (fun _ _ => ⟨rfl, e0, (by decide : 0 + 0 ≤ _), (by decide : 0 + 0 ≤ _)⟩)
  dsimp only [Pt.U, Pt.locs, Pt.cells, Pt.slots] at X1 l1 y1 z1 st1 hQ1
  subst l1 y1 z1
  obtain ⟨rfl, rfl, e1⟩ := hQ1
  have N1 := Fr.app N0 (Fr.nil n0)
  refine GoW.by (T' := T1) (g' := (mkF m 4 #[.val (.ref a), .val (.int (Int32.ofNat A)), .val (.int (Int32.ofNat E)), .unset, .unset] [(.int (Int32.ofNat cs.length))])) (fun t_ k_ => st1.trans k_) ?_
  rw [hlen]
  show GoW p e below s (Q_subZ Z a tt kb cs A E G1 G3 h0 n0) 2 4 T1 (mkF m 4 #[.val (.ref a), .val (.int (Int32.ofNat A)), .val (.int (Int32.ofNat E)), .unset, .unset] [(.int (5 : Int32))])
  refine GoW.by (T' := T1) (g' := (mkF m 5 #[.val (.ref a), .val (.int (Int32.ofNat A)), .val (.int (Int32.ofNat E)), .val (.int (5 : Int32)), .unset] [])) (fun t_ k_ => XS.istoreN X1.here hx rfl (hb hby d_jdk_42_method_92_code_4) rfl (l' := #[.val (.ref a), .val (.int (Int32.ofNat A)), .val (.int (Int32.ofNat E)), .val (.int (5 : Int32)), .unset]) rfl k_) ?_
  refine GoW.by (T' := T1) (g' := (mkF m 6 #[.val (.ref a), .val (.int (Int32.ofNat A)), .val (.int (Int32.ofNat E)), .val (.int (5 : Int32)), .unset] [(.int (Int32.ofNat A))])) (fun t_ k_ => XS.iloadN X1.here hx rfl (hb hby d_jdk_42_method_92_code_5) rfl k_) ?_
  refine GoW.by (T' := T1) (g' := (mkF m 7 #[.val (.ref a), .val (.int (Int32.ofNat A)), .val (.int (Int32.ofNat E)), .val (.int (5 : Int32)), .unset] [(.int (Int32.ofNat E)), (.int (Int32.ofNat A))])) (fun t_ k_ => XS.iloadN X1.here hx rfl (hb hby d_jdk_42_method_92_code_6) rfl k_) ?_
  refine GoW.by (T' := T1) (g' := (mkF m 8 #[.val (.ref a), .val (.int (Int32.ofNat A)), .val (.int (Int32.ofNat E)), .val (.int (5 : Int32)), .unset] [(.int (5 : Int32)), (.int (Int32.ofNat E)), (.int (Int32.ofNat A))])) (fun t_ k_ => XS.iloadN X1.here hx rfl (hb hby d_jdk_42_method_92_code_7) rfl k_) ?_
  obtain ⟨_, _, ⟨T2, L2, k2, n2⟩, -, X2, ⟨Lc2, hQ2, l2, y2, z2⟩, st2⟩ := Jvm.LawKit.callS X1 hx (y := (⟨"java/lang/String", "checkBoundsBeginEnd", "(III)V"⟩ : MethodName)) hown (mvT hZ (hw _ (List.mem_of_getElem? (i := 85) rfl))) (mvT hZ (hw _ (List.mem_of_getElem? (i := 86) rfl))) (mvT hZ (hw _ (List.mem_of_getElem? (i := 10) rfl))) (mvT hZ (hw _ (List.mem_of_getElem? (i := 87) rfl))) (by decide) (backOf (W := 0) (rm_cbe l Z a0 hw [] A E G3 h0 n0 X00 hAE hE5 P10 hSF) hZ (hw _ (List.mem_of_getElem? (i := 87) rfl)) (hw _ (List.mem_of_getElem? (i := 10) rfl)) (by decide) (by decide)) (g := (mkF m 8 #[.val (.ref a), .val (.int (Int32.ofNat A)), .val (.int (Int32.ofNat E)), .val (.int (5 : Int32)), .unset] [(.int (5 : Int32)), (.int (Int32.ofNat E)), (.int (Int32.ofNat A))])) rfl (by rw [hml]; rfl) (argsL := [(.int (Int32.ofNat A)), (.int (Int32.ofNat E)), (.int (5 : Int32))]) (rest := []) (lenOf pd_8 rfl) rfl (by show 2 * 0 + _ ≤ _; exact Nat.le_of_eq rfl) (hb hby d_jdk_42_method_92_code_8) (fun _ _ => ⟨rfl, e1, (by decide : 0 + 0 ≤ _), (by decide : 0 + 0 ≤ _)⟩)
  dsimp only [Pt.U, Pt.locs, Pt.cells, Pt.slots] at X2 l2 y2 z2 st2 hQ2
  subst l2 y2 z2
  obtain ⟨rfl, N2q, e2⟩ := hQ2
  have N2 := Fr.app N1 N2q
  refine GoW.by (T' := T2) (g' := (mkF m 11 #[.val (.ref a), .val (.int (Int32.ofNat A)), .val (.int (Int32.ofNat E)), .val (.int (5 : Int32)), .unset] [])) (fun t_ k_ => st2 _ k_) ?_
  refine GoW.by (T' := T2) (g' := (mkF m 12 #[.val (.ref a), .val (.int (Int32.ofNat A)), .val (.int (Int32.ofNat E)), .val (.int (5 : Int32)), .unset] [(.int (Int32.ofNat A))])) (fun t_ k_ => XS.iloadN X2.here hx rfl (hb hby d_jdk_42_method_92_code_11) rfl k_) ?_
  by_cases hA0 : A = 0
  · skip
    refine GoW.by (T' := T2) (g' := (mkF m 15 #[.val (.ref a), .val (.int (Int32.ofNat A)), .val (.int (Int32.ofNat E)), .val (.int (5 : Int32)), .unset] [])) (fun t_ k_ => XS.ifNo X2.here hx rfl (hb hby d_jdk_42_method_92_code_12) rfl ((if0 _ _).trans (teq (by rw [show (0 : Int32) = Int32.ofNat 0 from rfl, own_inj (by omega) (by omega)]; exact hA0)).2) k_) ?_
    refine GoW.by (T' := T2) (g' := (mkF m 16 #[.val (.ref a), .val (.int (Int32.ofNat A)), .val (.int (Int32.ofNat E)), .val (.int (5 : Int32)), .unset] [(.int (Int32.ofNat E))])) (fun t_ k_ => XS.iloadN X2.here hx rfl (hb hby d_jdk_42_method_92_code_15) rfl k_) ?_
    refine GoW.by (T' := T2) (g' := (mkF m 17 #[.val (.ref a), .val (.int (Int32.ofNat A)), .val (.int (Int32.ofNat E)), .val (.int (5 : Int32)), .unset] [(.int (5 : Int32)), (.int (Int32.ofNat E))])) (fun t_ k_ => XS.iloadN X2.here hx rfl (hb hby d_jdk_42_method_92_code_16) rfl k_) ?_
    refine GoW.by (T' := T2) (g' := (mkF m 22 #[.val (.ref a), .val (.int (Int32.ofNat A)), .val (.int (Int32.ofNat E)), .val (.int (5 : Int32)), .unset] [])) (fun t_ k_ => XS.icmpYes X2.here hx rfl (pc0 := 17) (pc' := 22) rfl (hb hby d_jdk_42_method_92_code_17) rfl (feq (by rw [show (5 : Int32) = Int32.ofNat 5 from rfl, own_inj (by omega) (by omega)]; omega)).2 (by decide) (by decide) k_) ?_
    refine GoW.by (T' := T2) (g' := (mkF m 23 #[.val (.ref a), .val (.int (Int32.ofNat A)), .val (.int (Int32.ofNat E)), .val (.int (5 : Int32)), .unset] [(.int (Int32.ofNat E))])) (fun t_ k_ => XS.iloadN X2.here hx rfl (hb hby d_jdk_42_method_92_code_22) rfl k_) ?_
    refine GoW.by (T' := T2) (g' := (mkF m 24 #[.val (.ref a), .val (.int (Int32.ofNat A)), .val (.int (Int32.ofNat E)), .val (.int (5 : Int32)), .unset] [(.int (Int32.ofNat A)), (.int (Int32.ofNat E))])) (fun t_ k_ => XS.iloadN X2.here hx rfl (hb hby d_jdk_42_method_92_code_23) rfl k_) ?_
    refine GoW.by (T' := T2) (g' := (mkF m 25 #[.val (.ref a), .val (.int (Int32.ofNat A)), .val (.int (Int32.ofNat E)), .val (.int (5 : Int32)), .unset] [(.int ((Int32.ofNat E) - (Int32.ofNat A)))])) (fun t_ k_ => XS.isub X2.here hx rfl (hb hby d_jdk_42_method_92_code_24) rfl k_) ?_
    rw [own_sub hAE, show E - A = 0 by omega, show Int32.ofNat 0 = (0 : Int32) from rfl]
    refine GoW.by (T' := T2) (g' := (mkF m 27 #[.val (.ref a), .val (.int (Int32.ofNat A)), .val (.int (Int32.ofNat E)), .val (.int (5 : Int32)), .val (.int (0 : Int32))] [])) (fun t_ k_ => XS.istore X2.here hx rfl (hb hby d_jdk_42_method_92_code_25) rfl (l' := #[.val (.ref a), .val (.int (Int32.ofNat A)), .val (.int (Int32.ofNat E)), .val (.int (5 : Int32)), .val (.int (0 : Int32))]) rfl k_) ?_
    refine GoW.by (T' := T2) (g' := (mkF m 28 #[.val (.ref a), .val (.int (Int32.ofNat A)), .val (.int (Int32.ofNat E)), .val (.int (5 : Int32)), .val (.int (0 : Int32))] [(.ref a)])) (fun t_ k_ => XS.aloadN X2.here hx rfl (hb hby d_jdk_42_method_92_code_27) rfl rfl k_) ?_
    obtain ⟨cq3, kq3, q3a, q3b, q3c⟩ := isOf hZ e2 P0
    obtain ⟨_, _, ⟨T3, L3, k3, n3⟩, -, X3, ⟨Lc3, hQ3, l3, y3, z3⟩, st3⟩ := X2.virtualBack hx (y := (⟨"java/lang/String", "isLatin1", "()Z"⟩ : MethodName)) (z := (⟨"java/lang/String", "isLatin1", "()Z"⟩ : MethodName)) hown (mvT hZ (hw _ (List.mem_of_getElem? (i := 59) rfl))) (mvT hZ (hw _ (List.mem_of_getElem? (i := 60) rfl))) (notFace_of_selects (args := #[]) (mvT hZ (hw _ (List.mem_of_getElem? (i := 62) rfl)))) (mvT hZ (hw _ (List.mem_of_getElem? (i := 62) rfl))) (mvT hZ (hw _ (List.mem_of_getElem? (i := 61) rfl))) (by decide) (backOf (W := 0) (rm_isL1 l Z a0 hw [] a G1 h0 n0 X00 P2 P8 hCS) hZ (hw _ (List.mem_of_getElem? (i := 63) rfl)) (hw _ (List.mem_of_getElem? (i := 10) rfl)) (by decide) (by decide)) q3a q3c (g := (mkF m 28 #[.val (.ref a), .val (.int (Int32.ofNat A)), .val (.int (Int32.ofNat E)), .val (.int (5 : Int32)), .val (.int (0 : Int32))] [(.ref a)])) rfl (by rw [hml]; rfl) (Steps.refl _) (argsL := []) (rest := []) (lenOf pd_9 rfl) rfl (by show 2 * 0 + _ ≤ _; exact Nat.le_of_eq rfl) (hb hby d_jdk_42_method_92_code_28) (fun _ _ => ⟨rfl, e2, (by decide : 0 + 0 ≤ _), (by decide : 0 + 0 ≤ _)⟩)
    dsimp only [Pt.U, Pt.locs, Pt.cells, Pt.slots] at X3 l3 y3 z3 st3 hQ3
    subst l3 y3 z3
    obtain ⟨rfl, N3q, e3⟩ := hQ3
    have N3 := Fr.app N2 N3q
    refine GoW.by (T' := T3) (g' := (mkF m 31 #[.val (.ref a), .val (.int (Int32.ofNat A)), .val (.int (Int32.ofNat E)), .val (.int (5 : Int32)), .val (.int (0 : Int32))] [(.int 1)])) (fun t_ k_ => st3.trans k_) ?_
    refine GoW.by (T' := T3) (g' := (mkF m 34 #[.val (.ref a), .val (.int (Int32.ofNat A)), .val (.int (Int32.ofNat E)), .val (.int (5 : Int32)), .val (.int (0 : Int32))] [])) (fun t_ k_ => XS.ifNo X3.here hx rfl (hb hby d_jdk_42_method_92_code_31) rfl ((if0 _ _).trans (feq (by decide)).1) k_) ?_
    refine GoW.by (T' := T3) (g' := (mkF m 35 #[.val (.ref a), .val (.int (Int32.ofNat A)), .val (.int (Int32.ofNat E)), .val (.int (5 : Int32)), .val (.int (0 : Int32))] [(.ref a)])) (fun t_ k_ => XS.aloadN X3.here hx rfl (hb hby d_jdk_42_method_92_code_34) rfl rfl k_) ?_
    obtain ⟨T4, X4, e4, st4⟩ := getF X3 hx hZ hown (host := "") (Or.inl (hw _ (List.mem_of_getElem? (i := 35) rfl))) Via.refl e3 P1 (g := (mkF m 35 #[.val (.ref a), .val (.int (Int32.ofNat A)), .val (.int (Int32.ofNat E)), .val (.int (5 : Int32)), .val (.int (0 : Int32))] [(.ref a)])) rfl rfl (hb hby d_jdk_42_method_92_code_35)
    refine GoW.by (T' := T4) (g' := (mkF m 38 #[.val (.ref a), .val (.int (Int32.ofNat A)), .val (.int (Int32.ofNat E)), .val (.int (5 : Int32)), .val (.int (0 : Int32))] [(.ref tt)])) (fun t_ k_ => st4 _ k_) ?_
    refine GoW.by (T' := T4) (g' := (mkF m 39 #[.val (.ref a), .val (.int (Int32.ofNat A)), .val (.int (Int32.ofNat E)), .val (.int (5 : Int32)), .val (.int (0 : Int32))] [(.int (Int32.ofNat A)), (.ref tt)])) (fun t_ k_ => XS.iloadN X4.here hx rfl (hb hby d_jdk_42_method_92_code_38) rfl k_) ?_
    refine GoW.by (T' := T4) (g' := (mkF m 41 #[.val (.ref a), .val (.int (Int32.ofNat A)), .val (.int (Int32.ofNat E)), .val (.int (5 : Int32)), .val (.int (0 : Int32))] [(.int (0 : Int32)), (.int (Int32.ofNat A)), (.ref tt)])) (fun t_ k_ => XS.iload X4.here hx rfl (hb hby d_jdk_42_method_92_code_39) rfl k_) ?_
    obtain ⟨_, _, ⟨T5, L5, k5, n5⟩, -, X5, hS5, gr5, ⟨Lc5, hQ5, l5, y5, z5⟩, st5⟩ := callSS X4 hx (y := (⟨"java/lang/StringLatin1", "newString", "([BII)Ljava/lang/String;"⟩ : MethodName)) hown (mvT hZ (hw _ (List.mem_of_getElem? (i := 99) rfl))) (mvT hZ (hw _ (List.mem_of_getElem? (i := 100) rfl))) (mvT hZ (hw _ (List.mem_of_getElem? (i := 66) rfl))) (mvT hZ (hw _ (List.mem_of_getElem? (i := 101) rfl))) (by decide) (backOfI (W := 0) (rm_nsz l Z a0 hw [] tt A h0 n0 X00 hheld hcw) hZ hI (hw _ (List.mem_of_getElem? (i := 101) rfl)) (hw _ (List.mem_of_getElem? (i := 66) rfl)) (by decide) (by decide)) (g := (mkF m 41 #[.val (.ref a), .val (.int (Int32.ofNat A)), .val (.int (Int32.ofNat E)), .val (.int (5 : Int32)), .val (.int (0 : Int32))] [(.int (0 : Int32)), (.int (Int32.ofNat A)), (.ref tt)])) rfl (by rw [hml]; rfl) (argsL := [(.ref tt), (.int (Int32.ofNat A)), (.int (0 : Int32))]) (rest := []) (lenOf pd_10 rfl) rfl (by show 2 * 0 + _ ≤ _; exact Nat.le_of_eq rfl) (hb hby d_jdk_42_method_92_code_41) (fun _ _ => ⟨rfl, e4, (by decide : 0 + 2 ≤ _), (by decide : 0 + 4 ≤ _)⟩)
    dsimp only [Pt.U, Pt.locs, Pt.cells, Pt.slots] at X5 hS5 gr5 l5 y5 z5 st5 hQ5
    subst l5 y5 z5
    obtain ⟨X5, hS, hZ, hown⟩ := rebS hS (Nat.zero_le _) X5 hS5 gr5 hZ hown
    obtain ⟨r_5, t_5, k2_5, rfl, N5q, K5, G5_0, G5_1, G5_2, G5_3⟩ := hQ5
    have N5 := Fr.app N3 N5q
    refine GoW.by (T' := T5) (g' := (mkF m 44 #[.val (.ref a), .val (.int (Int32.ofNat A)), .val (.int (Int32.ofNat E)), .val (.int (5 : Int32)), .val (.int (0 : Int32))] [(.ref r_5)])) (fun t_ k_ => st5.trans k_) ?_
    refine GoW.by (T' := T5) (g' := (mkF m 57 #[.val (.ref a), .val (.int (Int32.ofNat A)), .val (.int (Int32.ofNat E)), .val (.int (5 : Int32)), .val (.int (0 : Int32))] [(.ref r_5)])) (fun t_ k_ => XS.goto X5.here hx rfl (pc0 := 44) (pc' := 57) rfl (hb hby d_jdk_42_method_92_code_44) (by decide) (by decide) k_) ?_
    have Kp6 : Keep h0 T5.heap [] := ((Keep.refl h0 []).trans K5 all0)
    refine GoW.fin hS X5 (Nat.le_refl _) (v := some (.ref r_5)) (fun h => by rw [Bd.returns] at h; cases h) hlk (by decide) (by decide) ?_ (fun fs hr => retR X5 hx (w := (.ref r_5)) Bd.returns rfl rfl rfl (hb hby d_jdk_42_method_92_code_57) hr)
    show Q_subZ Z a tt kb cs A E G1 G3 h0 n0 _ T5.heap _
    exact ⟨r_5, t_5, k2_5, rfl, N5, Kp6, G5_0, G5_1, G5_2, G5_3⟩
  · skip
    refine GoW.by (T' := T2) (g' := (mkF m 22 #[.val (.ref a), .val (.int (Int32.ofNat A)), .val (.int (Int32.ofNat E)), .val (.int (5 : Int32)), .unset] [])) (fun t_ k_ => XS.ifYes X2.here hx rfl (pc0 := 12) (pc' := 22) rfl (hb hby d_jdk_42_method_92_code_12) rfl ((if0 _ _).trans (feq (by rw [show (0 : Int32) = Int32.ofNat 0 from rfl, own_inj (by omega) (by omega)]; exact hA0)).2) (by decide) (by decide) k_) ?_
    refine GoW.by (T' := T2) (g' := (mkF m 23 #[.val (.ref a), .val (.int (Int32.ofNat A)), .val (.int (Int32.ofNat E)), .val (.int (5 : Int32)), .unset] [(.int (Int32.ofNat E))])) (fun t_ k_ => XS.iloadN X2.here hx rfl (hb hby d_jdk_42_method_92_code_22) rfl k_) ?_
    refine GoW.by (T' := T2) (g' := (mkF m 24 #[.val (.ref a), .val (.int (Int32.ofNat A)), .val (.int (Int32.ofNat E)), .val (.int (5 : Int32)), .unset] [(.int (Int32.ofNat A)), (.int (Int32.ofNat E))])) (fun t_ k_ => XS.iloadN X2.here hx rfl (hb hby d_jdk_42_method_92_code_23) rfl k_) ?_
    refine GoW.by (T' := T2) (g' := (mkF m 25 #[.val (.ref a), .val (.int (Int32.ofNat A)), .val (.int (Int32.ofNat E)), .val (.int (5 : Int32)), .unset] [(.int ((Int32.ofNat E) - (Int32.ofNat A)))])) (fun t_ k_ => XS.isub X2.here hx rfl (hb hby d_jdk_42_method_92_code_24) rfl k_) ?_
    refine GoW.by (T' := T2) (g' := (mkF m 27 #[.val (.ref a), .val (.int (Int32.ofNat A)), .val (.int (Int32.ofNat E)), .val (.int (5 : Int32)), .val (.int ((Int32.ofNat E) - (Int32.ofNat A)))] [])) (fun t_ k_ => XS.istore X2.here hx rfl (hb hby d_jdk_42_method_92_code_25) rfl (l' := #[.val (.ref a), .val (.int (Int32.ofNat A)), .val (.int (Int32.ofNat E)), .val (.int (5 : Int32)), .val (.int ((Int32.ofNat E) - (Int32.ofNat A)))]) rfl k_) ?_
    refine GoW.by (T' := T2) (g' := (mkF m 28 #[.val (.ref a), .val (.int (Int32.ofNat A)), .val (.int (Int32.ofNat E)), .val (.int (5 : Int32)), .val (.int ((Int32.ofNat E) - (Int32.ofNat A)))] [(.ref a)])) (fun t_ k_ => XS.aloadN X2.here hx rfl (hb hby d_jdk_42_method_92_code_27) rfl rfl k_) ?_
    rw [own_sub hAE, show E - A = 0 by omega, show Int32.ofNat 0 = (0 : Int32) from rfl]
    obtain ⟨cq7, kq7, q7a, q7b, q7c⟩ := isOf hZ e2 P0
    obtain ⟨_, _, ⟨T7, L7, k7, n7⟩, -, X7, ⟨Lc7, hQ7, l7, y7, z7⟩, st7⟩ := X2.virtualBack hx (y := (⟨"java/lang/String", "isLatin1", "()Z"⟩ : MethodName)) (z := (⟨"java/lang/String", "isLatin1", "()Z"⟩ : MethodName)) hown (mvT hZ (hw _ (List.mem_of_getElem? (i := 59) rfl))) (mvT hZ (hw _ (List.mem_of_getElem? (i := 60) rfl))) (notFace_of_selects (args := #[]) (mvT hZ (hw _ (List.mem_of_getElem? (i := 62) rfl)))) (mvT hZ (hw _ (List.mem_of_getElem? (i := 62) rfl))) (mvT hZ (hw _ (List.mem_of_getElem? (i := 61) rfl))) (by decide) (backOf (W := 0) (rm_isL1 l Z a0 hw [] a G1 h0 n0 X00 P2 P8 hCS) hZ (hw _ (List.mem_of_getElem? (i := 63) rfl)) (hw _ (List.mem_of_getElem? (i := 10) rfl)) (by decide) (by decide)) q7a q7c (g := (mkF m 28 #[.val (.ref a), .val (.int (Int32.ofNat A)), .val (.int (Int32.ofNat E)), .val (.int (5 : Int32)), .val (.int (0 : Int32))] [(.ref a)])) rfl (by rw [hml]; rfl) (Steps.refl _) (argsL := []) (rest := []) (lenOf pd_9 rfl) rfl (by show 2 * 0 + _ ≤ _; exact Nat.le_of_eq rfl) (hb hby d_jdk_42_method_92_code_28) (fun _ _ => ⟨rfl, e2, (by decide : 0 + 0 ≤ _), (by decide : 0 + 0 ≤ _)⟩)
    dsimp only [Pt.U, Pt.locs, Pt.cells, Pt.slots] at X7 l7 y7 z7 st7 hQ7
    subst l7 y7 z7
    obtain ⟨rfl, N7q, e7⟩ := hQ7
    have N7 := Fr.app N2 N7q
    refine GoW.by (T' := T7) (g' := (mkF m 31 #[.val (.ref a), .val (.int (Int32.ofNat A)), .val (.int (Int32.ofNat E)), .val (.int (5 : Int32)), .val (.int (0 : Int32))] [(.int 1)])) (fun t_ k_ => st7.trans k_) ?_
    refine GoW.by (T' := T7) (g' := (mkF m 34 #[.val (.ref a), .val (.int (Int32.ofNat A)), .val (.int (Int32.ofNat E)), .val (.int (5 : Int32)), .val (.int (0 : Int32))] [])) (fun t_ k_ => XS.ifNo X7.here hx rfl (hb hby d_jdk_42_method_92_code_31) rfl ((if0 _ _).trans (feq (by decide)).1) k_) ?_
    refine GoW.by (T' := T7) (g' := (mkF m 35 #[.val (.ref a), .val (.int (Int32.ofNat A)), .val (.int (Int32.ofNat E)), .val (.int (5 : Int32)), .val (.int (0 : Int32))] [(.ref a)])) (fun t_ k_ => XS.aloadN X7.here hx rfl (hb hby d_jdk_42_method_92_code_34) rfl rfl k_) ?_
    obtain ⟨T8, X8, e8, st8⟩ := getF X7 hx hZ hown (host := "") (Or.inl (hw _ (List.mem_of_getElem? (i := 35) rfl))) Via.refl e7 P1 (g := (mkF m 35 #[.val (.ref a), .val (.int (Int32.ofNat A)), .val (.int (Int32.ofNat E)), .val (.int (5 : Int32)), .val (.int (0 : Int32))] [(.ref a)])) rfl rfl (hb hby d_jdk_42_method_92_code_35)
    refine GoW.by (T' := T8) (g' := (mkF m 38 #[.val (.ref a), .val (.int (Int32.ofNat A)), .val (.int (Int32.ofNat E)), .val (.int (5 : Int32)), .val (.int (0 : Int32))] [(.ref tt)])) (fun t_ k_ => st8 _ k_) ?_
    refine GoW.by (T' := T8) (g' := (mkF m 39 #[.val (.ref a), .val (.int (Int32.ofNat A)), .val (.int (Int32.ofNat E)), .val (.int (5 : Int32)), .val (.int (0 : Int32))] [(.int (Int32.ofNat A)), (.ref tt)])) (fun t_ k_ => XS.iloadN X8.here hx rfl (hb hby d_jdk_42_method_92_code_38) rfl k_) ?_
    refine GoW.by (T' := T8) (g' := (mkF m 41 #[.val (.ref a), .val (.int (Int32.ofNat A)), .val (.int (Int32.ofNat E)), .val (.int (5 : Int32)), .val (.int (0 : Int32))] [(.int (0 : Int32)), (.int (Int32.ofNat A)), (.ref tt)])) (fun t_ k_ => XS.iload X8.here hx rfl (hb hby d_jdk_42_method_92_code_39) rfl k_) ?_
    obtain ⟨_, _, ⟨T9, L9, k9, n9⟩, -, X9, hS9, gr9, ⟨Lc9, hQ9, l9, y9, z9⟩, st9⟩ := callSS X8 hx (y := (⟨"java/lang/StringLatin1", "newString", "([BII)Ljava/lang/String;"⟩ : MethodName)) hown (mvT hZ (hw _ (List.mem_of_getElem? (i := 99) rfl))) (mvT hZ (hw _ (List.mem_of_getElem? (i := 100) rfl))) (mvT hZ (hw _ (List.mem_of_getElem? (i := 66) rfl))) (mvT hZ (hw _ (List.mem_of_getElem? (i := 101) rfl))) (by decide) (backOfI (W := 0) (rm_nsz l Z a0 hw [] tt A h0 n0 X00 hheld hcw) hZ hI (hw _ (List.mem_of_getElem? (i := 101) rfl)) (hw _ (List.mem_of_getElem? (i := 66) rfl)) (by decide) (by decide)) (g := (mkF m 41 #[.val (.ref a), .val (.int (Int32.ofNat A)), .val (.int (Int32.ofNat E)), .val (.int (5 : Int32)), .val (.int (0 : Int32))] [(.int (0 : Int32)), (.int (Int32.ofNat A)), (.ref tt)])) rfl (by rw [hml]; rfl) (argsL := [(.ref tt), (.int (Int32.ofNat A)), (.int (0 : Int32))]) (rest := []) (lenOf pd_10 rfl) rfl (by show 2 * 0 + _ ≤ _; exact Nat.le_of_eq rfl) (hb hby d_jdk_42_method_92_code_41) (fun _ _ => ⟨rfl, e8, (by decide : 0 + 2 ≤ _), (by decide : 0 + 4 ≤ _)⟩)
    dsimp only [Pt.U, Pt.locs, Pt.cells, Pt.slots] at X9 hS9 gr9 l9 y9 z9 st9 hQ9
    subst l9 y9 z9
    obtain ⟨X9, hS, hZ, hown⟩ := rebS hS (Nat.zero_le _) X9 hS9 gr9 hZ hown
    obtain ⟨r_9, t_9, k2_9, rfl, N9q, K9, G9_0, G9_1, G9_2, G9_3⟩ := hQ9
    have N9 := Fr.app N7 N9q
    refine GoW.by (T' := T9) (g' := (mkF m 44 #[.val (.ref a), .val (.int (Int32.ofNat A)), .val (.int (Int32.ofNat E)), .val (.int (5 : Int32)), .val (.int (0 : Int32))] [(.ref r_9)])) (fun t_ k_ => st9.trans k_) ?_
    refine GoW.by (T' := T9) (g' := (mkF m 57 #[.val (.ref a), .val (.int (Int32.ofNat A)), .val (.int (Int32.ofNat E)), .val (.int (5 : Int32)), .val (.int (0 : Int32))] [(.ref r_9)])) (fun t_ k_ => XS.goto X9.here hx rfl (pc0 := 44) (pc' := 57) rfl (hb hby d_jdk_42_method_92_code_44) (by decide) (by decide) k_) ?_
    have Kp10 : Keep h0 T9.heap [] := ((Keep.refl h0 []).trans K9 all0)
    refine GoW.fin hS X9 (Nat.le_refl _) (v := some (.ref r_9)) (fun h => by rw [Bd.returns] at h; cases h) hlk (by decide) (by decide) ?_ (fun fs hr => retR X9 hx (w := (.ref r_9)) Bd.returns rfl rfl rfl (hb hby d_jdk_42_method_92_code_57) hr)
    show Q_subZ Z a tt kb cs A E G1 G3 h0 n0 _ T9.heap _
    exact ⟨r_9, t_9, k2_9, rfl, N9, Kp10, G9_0, G9_1, G9_2, G9_3⟩
def Q_trimN (Z : State) (a : Addr) (tt : Addr) (kb : ClassId) (cs : List Int32) (A : Nat) (E : Nat) (G1 : Int32) (G3 : Value) (h0 : Heap) (n0 : Nat) (v : Option Value) (h : Heap) (L : List Loc) : Prop := ∃ (r : Addr) (t : Addr) (k2 : ClassId), v = some (.ref r) ∧ Fr n0 L ∧ Keep h0 h [] ∧ Exa Z h r "java/lang/String" ∧ Fld Z h r "java/lang/String" "value" "[B" (.ref t) ∧ Fld Z h r "java/lang/String" "coder" "B" (.int (0 : Int32)) ∧ Arv Z h t k2 .byte (Int32.ofNat (E - A)) ((((cs.drop A).take (E - A)).map (fun c => c.toInt8.toInt32)).map Value.int) (.int (0 : Int32))
theorem ef_trimN (m : MethodId) (a : Addr) : entryFrame m #[(.ref a)] 3 = mkF m 0 #[.val (.ref a), .unset, .unset] [] := by first | (simp [entryFrame, mkF, argsToLocals, Value.category]; done) | rfl
theorem d_prog_12_method_3_code_0 : decode prog_12_method_3_code 0 = .ok (.aload_n 0, 1) := by decide +kernel
theorem d_prog_12_method_3_code_1 : decode prog_12_method_3_code 1 = .ok (.iconst 0, 1) := by decide +kernel
theorem d_prog_12_method_3_code_2 : decode prog_12_method_3_code 2 = .ok (.invokestatic 49, 3) := by decide +kernel
theorem pd_11 : parseMethodDescriptor "(Ljava/lang/String;I)I" = some ⟨[(.object "java/lang/String"), .int], some .int⟩ := by decide +kernel
theorem d_prog_12_method_3_code_5 : decode prog_12_method_3_code 5 = .ok (.istore_n 1, 1) := by decide +kernel
theorem d_prog_12_method_3_code_6 : decode prog_12_method_3_code 6 = .ok (.aload_n 0, 1) := by decide +kernel
theorem d_prog_12_method_3_code_7 : decode prog_12_method_3_code 7 = .ok (.invokevirtual 57, 3) := by decide +kernel
theorem d_prog_12_method_3_code_10 : decode prog_12_method_3_code 10 = .ok (.istore_n 2, 1) := by decide +kernel
theorem d_prog_12_method_3_code_11 : decode prog_12_method_3_code 11 = .ok (.iload_n 2, 1) := by decide +kernel
theorem d_prog_12_method_3_code_12 : decode prog_12_method_3_code 12 = .ok (.iload_n 1, 1) := by decide +kernel
theorem d_prog_12_method_3_code_13 : decode prog_12_method_3_code 13 = .ok (.if_icmp .le 34, 3) := by decide +kernel
theorem d_prog_12_method_3_code_16 : decode prog_12_method_3_code 16 = .ok (.aload_n 0, 1) := by decide +kernel
theorem d_prog_12_method_3_code_17 : decode prog_12_method_3_code 17 = .ok (.iload_n 2, 1) := by decide +kernel
theorem d_prog_12_method_3_code_18 : decode prog_12_method_3_code 18 = .ok (.iconst 1, 1) := by decide +kernel
theorem d_prog_12_method_3_code_19 : decode prog_12_method_3_code 19 = .ok (.isub, 1) := by decide +kernel
theorem d_prog_12_method_3_code_20 : decode prog_12_method_3_code 20 = .ok (.invokevirtual 63, 3) := by decide +kernel
theorem d_prog_12_method_3_code_23 : decode prog_12_method_3_code 23 = .ok (.invokestatic 67, 3) := by decide +kernel
theorem d_prog_12_method_3_code_26 : decode prog_12_method_3_code 26 = .ok (.ifCond .ne 15, 3) := by decide +kernel
theorem d_prog_12_method_3_code_29 : decode prog_12_method_3_code 29 = .ok (.aload_n 0, 1) := by decide +kernel
theorem d_prog_12_method_3_code_30 : decode prog_12_method_3_code 30 = .ok (.iload_n 2, 1) := by decide +kernel
theorem d_prog_12_method_3_code_31 : decode prog_12_method_3_code 31 = .ok (.iconst 1, 1) := by decide +kernel
theorem d_prog_12_method_3_code_32 : decode prog_12_method_3_code 32 = .ok (.isub, 1) := by decide +kernel
theorem d_prog_12_method_3_code_33 : decode prog_12_method_3_code 33 = .ok (.invokevirtual 63, 3) := by decide +kernel
theorem d_prog_12_method_3_code_36 : decode prog_12_method_3_code 36 = .ok (.bipush 13, 2) := by decide +kernel
theorem d_prog_12_method_3_code_38 : decode prog_12_method_3_code 38 = .ok (.if_icmp .ne 9, 3) := by decide +kernel
theorem d_prog_12_method_3_code_47 : decode prog_12_method_3_code 47 = .ok (.aload_n 0, 1) := by decide +kernel
theorem d_prog_12_method_3_code_48 : decode prog_12_method_3_code 48 = .ok (.iload_n 1, 1) := by decide +kernel
theorem d_prog_12_method_3_code_49 : decode prog_12_method_3_code 49 = .ok (.iload_n 2, 1) := by decide +kernel
theorem d_prog_12_method_3_code_50 : decode prog_12_method_3_code 50 = .ok (.invokevirtual 71, 3) := by decide +kernel
theorem pd_12 : parseMethodDescriptor "(II)Ljava/lang/String;" = some ⟨[.int, .int], some (.object "java/lang/String")⟩ := by decide +kernel
theorem d_prog_12_method_3_code_53 : decode prog_12_method_3_code 53 = .ok (.areturn, 1) := by decide +kernel
theorem d_prog_12_method_3_code_41 : decode prog_12_method_3_code 41 = .ok (.iinc 2 (-1), 3) := by decide +kernel
theorem d_prog_12_method_3_code_44 : decode prog_12_method_3_code 44 = .ok (.goto (-33), 3) := by decide +kernel
set_option maxRecDepth 65536 in
set_option maxHeartbeats 40000000 in
theorem rm_trimN (l : Launch) (Z : State) (a0 : Array Value) (hw : ∀ d ∈ tables_1, d.before a0 Z = true) (ws : List Jvm.Cond) (a : Addr) (tt : Addr) (kb : ClassId) (cs : List Int32) (A : Nat) (E : Nat) (G1 : Int32) (G3 : Value) (h0 : Heap) (n0 : Nat) (X00 : Old Z n0 h0) (P0 : Exa Z h0 a "java/lang/String") (P1 : Fld Z h0 a "java/lang/String" "value" "[B" (.ref tt)) (P2 : Fld Z h0 a "java/lang/String" "coder" "B" (.int (0 : Int32))) (P3 : Arv Z h0 tt kb .byte (5 : Int32) ((cs.map (fun c => c.toInt8.toInt32)).map Value.int) (.int (0 : Int32))) (hp : ∀ c ∈ cs, ¬ c < 0 ∧ ¬ (255 : Int32) < c) (hlen : cs.length = 5) (hA5 : A ≤ 5) (hjb : ∀ i, i < A → own_bl (cs.getD i 0)) (hje : A = 5 ∨ ¬ own_bl (cs.getD A 0)) (hAE : A ≤ E) (hE5 : E ≤ 5) (hrm : ∀ i, E ≤ i → i < 5 → own_rm (cs.getD i 0)) (hlt : A < E) (hnr : ¬ own_rm (cs.getD (E - 1) 0)) (P14 : Sta Z Z.heap "java/lang/String" "COMPACT_STRINGS" "Z" (.int G1)) (hCS : ¬ (G1 = (0 : Int32))) (P16 : Sta Z Z.heap "jdk/internal/util/Preconditions" "SIOOBE_FORMATTER" "Ljava/util/function/BiFunction;" G3) (hSF : G3.isRef = true) :
    MetFree l (⟨"com/example/refledger/refledger/PublicKeyText", "trim", "(Ljava/lang/String;)Ljava/lang/String;"⟩ : MethodName) (head1 (Jvm.Cond.code (⟨"com/example/refledger/refledger/PublicKeyText", "trim", "(Ljava/lang/String;)Ljava/lang/String;"⟩ : MethodName) prog_12_method_3_code 3 (some (.object "java/lang/String")) :: ws) ({ frames := 6, cells := 2, slots := 9, locals := 130 } : Room)) (fun aa_ U => aa_ = #[(.ref a)] ∧ Z.Warmed39 U.vm ∧ U.heap = h0) (fun _ _ _ _ _ => True) (fun _ U o U' => ∃ v L, o = .returned v ∧ Q_trimN Z a tt kb cs A E G1 G3 h0 n0 v U'.heap L ∧ FrameEnd U o U' L ({ frames := 6, cells := 2, slots := 9, locals := 130 } : Room).cells ({ frames := 6, cells := 2, slots := 9, locals := 130 } : Room).slots) := by
  refine MetFree.of_bodySF (plainFor_of_name pn_1) hisR ?_
  intro p e s m args below meth c s₁ Bd hml0 hP hK
  obtain ⟨rfl, hZ, hh⟩ := hP
  have hx := Bd.exec
  have hby := Bd.bytes
  have hml : c.maxLocals = 3 := hml0
  have hown : s.vm.findClass "com/example/refledger/refledger/PublicKeyText" = some m.cls := findClass_of_methodNamed Bd.named
  have hnm := (name_of_methodNamed Bd.named Bd.method).1
  have hlk : meth.locks = false := BodyLoose.notSynchronized Bd
  have X0 : Stand p l e ({ frames := 6, cells := 2, slots := 9, locals := 130 } : Room) s m #[(.ref a)] below meth c s₁ [] 0 0 := Stand.of_body Bd
  have e0 : s₁.heap = h0 := by rw [← hh, Bd.state]; rfl
  have N0 := Fr.nil n0
  suffices G : Go p e below s (Q_trimN Z a tt kb cs A E G1 G3 h0 n0) 2 9 s₁ (mkF m 0 #[.val (.ref a), .unset, .unset] []) by
    obtain ⟨s2, o, h1, h2⟩ := G
    exact ⟨s2, o, castTop (ef_trimN m a) h1, h2⟩
  have hcd : StrChars.Road.CodA cs 0 (5 : Int32) ((cs.map (fun c => c.toInt8.toInt32)).map Value.int) := StrChars.Road.codOf (n := 5) hlen (fun x hx => (hp x hx).2)
  have hup := own_up cs hp
  refine Go.by (T' := s₁) (g' := (mkF m 1 #[.val (.ref a), .unset, .unset] [(.ref a)])) (fun t_ k_ => XS.aloadN X0.here hx rfl (hb hby d_prog_12_method_3_code_0) rfl rfl k_) ?_
  refine Go.by (T' := s₁) (g' := (mkF m 2 #[.val (.ref a), .unset, .unset] [(.int (0 : Int32)), (.ref a)])) (fun t_ k_ => XS.iconst X0.here hx rfl (hb hby d_prog_12_method_3_code_1) k_) ?_
  obtain ⟨_, _, ⟨T1, L1, k1, n1⟩, -, X1, ⟨Lc1, hQ1, l1, y1, z1⟩, st1⟩ := Jvm.LawKit.callS X0 hx (y := (⟨"com/example/refledger/refledger/PublicKeyText", "skipBlanks", "(Ljava/lang/String;I)I"⟩ : MethodName)) hown (mvT hZ (hw _ (List.mem_of_getElem? (i := 41) rfl))) (mvT hZ (hw _ (List.mem_of_getElem? (i := 42) rfl))) (mvT hZ (hw _ (List.mem_of_getElem? (i := 39) rfl))) (mvT hZ (hw _ (List.mem_of_getElem? (i := 43) rfl))) (by decide) (backOf (W := 0) (rm_skip l Z a0 hw [] a tt kb cs A G1 G3 h0 n0 X00 P0 P1 P2 P3 hp hlen hA5 hjb hje P14 hCS P16 hSF) hZ (hw _ (List.mem_of_getElem? (i := 43) rfl)) (hw _ (List.mem_of_getElem? (i := 39) rfl)) (by decide) (by decide)) (g := (mkF m 2 #[.val (.ref a), .unset, .unset] [(.int (0 : Int32)), (.ref a)])) rfl (by rw [hml]; rfl) (argsL := [(.ref a), (.int (0 : Int32))]) (rest := []) (lenOf pd_11 rfl) rfl (by show 2 * 0 + _ ≤ _; exact Nat.le_of_eq rfl) (hb hby d_prog_12_method_3_code_2) (fun _ _ => ⟨rfl, e0, (by decide : 0 + 0 ≤ _), (by decide : 0 + 0 ≤ _)⟩)
  dsimp only [Pt.U, Pt.locs, Pt.cells, Pt.slots] at X1 l1 y1 z1 st1 hQ1
  subst l1 y1 z1
  obtain ⟨rfl, N1q, e1⟩ := hQ1
  have N1 := Fr.app N0 N1q
  refine Go.by (T' := T1) (g' := (mkF m 5 #[.val (.ref a), .unset, .unset] [(.int (Int32.ofNat A))])) (fun t_ k_ => st1 _ k_) ?_
  refine Go.by (T' := T1) (g' := (mkF m 6 #[.val (.ref a), .val (.int (Int32.ofNat A)), .unset] [])) (fun t_ k_ => XS.istoreN X1.here hx rfl (hb hby d_prog_12_method_3_code_5) rfl (l' := #[.val (.ref a), .val (.int (Int32.ofNat A)), .unset]) rfl k_) ?_
  refine Go.by (T' := T1) (g' := (mkF m 7 #[.val (.ref a), .val (.int (Int32.ofNat A)), .unset] [(.ref a)])) (fun t_ k_ => XS.aloadN X1.here hx rfl (hb hby d_prog_12_method_3_code_6) rfl rfl k_) ?_
  obtain ⟨cq2, kq2, q2a, q2b, q2c⟩ := isOf hZ e1 P0
  obtain ⟨_, _, ⟨T2, L2, k2, n2⟩, -, X2, ⟨Lc2, hQ2, l2, y2, z2⟩, st2⟩ := X1.virtualBack hx (y := (⟨"java/lang/String", "length", "()I"⟩ : MethodName)) (z := (⟨"java/lang/String", "length", "()I"⟩ : MethodName)) hown (mvT hZ (hw _ (List.mem_of_getElem? (i := 44) rfl))) (mvT hZ (hw _ (List.mem_of_getElem? (i := 45) rfl))) (notFace_of_selects (args := #[]) (mvT hZ (hw _ (List.mem_of_getElem? (i := 47) rfl)))) (mvT hZ (hw _ (List.mem_of_getElem? (i := 47) rfl))) (mvT hZ (hw _ (List.mem_of_getElem? (i := 46) rfl))) (by decide) (StrChars.Road.lenW (W := 0) hZ (own_wordsLen hw) (kI := 4) (hw _ (List.mem_of_getElem? (i := 9) rfl)) P0 P1 P2 P3 hcd hup (P14.ext X00.2) hCS (by rw [hlen]; decide) (by decide) (by decide)) q2a q2c (g := (mkF m 7 #[.val (.ref a), .val (.int (Int32.ofNat A)), .unset] [(.ref a)])) rfl (by rw [hml]; rfl) (Steps.refl _) (argsL := []) (rest := []) (lenOf pd_1 rfl) rfl (by show 2 * 0 + _ ≤ _; exact Nat.le_of_eq rfl) (hb hby d_prog_12_method_3_code_7) (fun _ _ => ⟨rfl, e1, (by decide : 0 + 0 ≤ _), (by decide : 0 + 0 ≤ _)⟩)
  dsimp only [Pt.U, Pt.locs, Pt.cells, Pt.slots] at X2 l2 y2 z2 st2 hQ2
  subst l2 y2 z2
  obtain ⟨rfl, rfl, e2⟩ := hQ2
  have N2 := Fr.app N1 (Fr.nil n0)
  refine Go.by (T' := T2) (g' := (mkF m 10 #[.val (.ref a), .val (.int (Int32.ofNat A)), .unset] [(.int (Int32.ofNat cs.length))])) (fun t_ k_ => st2.trans k_) ?_
  rw [hlen]
  refine Go.by (T' := T2) (g' := (mkF m 11 #[.val (.ref a), .val (.int (Int32.ofNat A)), .val (.int (Int32.ofNat 5))] [])) (fun t_ k_ => XS.istoreN X2.here hx rfl (hb hby d_prog_12_method_3_code_10) rfl (l' := #[.val (.ref a), .val (.int (Int32.ofNat A)), .val (.int (Int32.ofNat 5))]) rfl k_) ?_
  have LP : ∀ (k n : Nat) {T : State} {L : List Loc}, E + k = n → n ≤ 5 → Stand p l e ({ frames := 6, cells := 2, slots := 9, locals := 130 } : Room) s m #[(.ref a)] below meth c T L 0 0 → T.heap = h0 → Fr n0 L → Go p e below s (Q_trimN Z a tt kb cs A E G1 G3 h0 n0) 2 9 T (mkF m 11 #[.val (.ref a), .val (.int (Int32.ofNat A)), .val (.int (Int32.ofNat n))] []) := by
    intro k
    induction k with
    | zero =>
      intro n T L hk hn5 XL eL NL
      refine Go.by (T' := T) (g' := (mkF m 12 #[.val (.ref a), .val (.int (Int32.ofNat A)), .val (.int (Int32.ofNat n))] [(.int (Int32.ofNat n))])) (fun t_ k_ => XS.iloadN XL.here hx rfl (hb hby d_prog_12_method_3_code_11) rfl k_) ?_
      refine Go.by (T' := T) (g' := (mkF m 13 #[.val (.ref a), .val (.int (Int32.ofNat A)), .val (.int (Int32.ofNat n))] [(.int (Int32.ofNat A)), (.int (Int32.ofNat n))])) (fun t_ k_ => XS.iloadN XL.here hx rfl (hb hby d_prog_12_method_3_code_12) rfl k_) ?_
      refine Go.by (T' := T) (g' := (mkF m 16 #[.val (.ref a), .val (.int (Int32.ofNat A)), .val (.int (Int32.ofNat n))] [])) (fun t_ k_ => XS.icmpNo XL.here hx rfl (hb hby d_prog_12_method_3_code_13) rfl (tlt (by rw [own_lt (by omega) (by omega)]; omega)).2.2.2 k_) ?_
      refine Go.by (T' := T) (g' := (mkF m 17 #[.val (.ref a), .val (.int (Int32.ofNat A)), .val (.int (Int32.ofNat n))] [(.ref a)])) (fun t_ k_ => XS.aloadN XL.here hx rfl (hb hby d_prog_12_method_3_code_16) rfl rfl k_) ?_
      refine Go.by (T' := T) (g' := (mkF m 18 #[.val (.ref a), .val (.int (Int32.ofNat A)), .val (.int (Int32.ofNat n))] [(.int (Int32.ofNat n)), (.ref a)])) (fun t_ k_ => XS.iloadN XL.here hx rfl (hb hby d_prog_12_method_3_code_17) rfl k_) ?_
      refine Go.by (T' := T) (g' := (mkF m 19 #[.val (.ref a), .val (.int (Int32.ofNat A)), .val (.int (Int32.ofNat n))] [(.int (1 : Int32)), (.int (Int32.ofNat n)), (.ref a)])) (fun t_ k_ => XS.iconst XL.here hx rfl (hb hby d_prog_12_method_3_code_18) k_) ?_
      refine Go.by (T' := T) (g' := (mkF m 20 #[.val (.ref a), .val (.int (Int32.ofNat A)), .val (.int (Int32.ofNat n))] [(.int ((Int32.ofNat n) - (1 : Int32))), (.ref a)])) (fun t_ k_ => XS.isub XL.here hx rfl (hb hby d_prog_12_method_3_code_19) rfl k_) ?_
      rw [show (1 : Int32) = Int32.ofNat 1 from rfl, own_sub (show 1 ≤ n by omega)]
      obtain ⟨cq3, kq3, q3a, q3b, q3c⟩ := isOf hZ eL P0
      obtain ⟨_, _, ⟨T3, L3, k3, n3⟩, -, X3, ⟨Lc3, hQ3, l3, y3, z3⟩, st3⟩ := XL.virtualBack hx (y := (⟨"java/lang/String", "charAt", "(I)C"⟩ : MethodName)) (z := (⟨"java/lang/String", "charAt", "(I)C"⟩ : MethodName)) hown (mvT hZ (hw _ (List.mem_of_getElem? (i := 54) rfl))) (mvT hZ (hw _ (List.mem_of_getElem? (i := 55) rfl))) (notFace_of_selects (args := #[]) (mvT hZ (hw _ (List.mem_of_getElem? (i := 57) rfl)))) (mvT hZ (hw _ (List.mem_of_getElem? (i := 57) rfl))) (mvT hZ (hw _ (List.mem_of_getElem? (i := 56) rfl))) (by decide) (StrChars.Road.chN (W := 0) hZ (own_wordsChN hw) (kI := 4) (hw _ (List.mem_of_getElem? (i := 9) rfl)) P0 P1 P2 P3 hcd hup (P14.ext X00.2) hCS (P16.ext X00.2) hSF (by rw [hlen]; decide) (i := (n - 1)) (by rw [hlen]; omega) (j := (Int32.ofNat (n - 1))) rfl (by decide) (by decide)) q3a q3c (g := (mkF m 20 #[.val (.ref a), .val (.int (Int32.ofNat A)), .val (.int (Int32.ofNat n))] [(.int (Int32.ofNat (n - 1))), (.ref a)])) rfl (by rw [hml]; rfl) (Steps.refl _) (argsL := [(.int (Int32.ofNat (n - 1)))]) (rest := []) (lenOf pd_0 rfl) rfl (by show 2 * 0 + _ ≤ _; exact Nat.le_of_eq rfl) (hb hby d_prog_12_method_3_code_20) (fun _ _ => ⟨rfl, eL, (by decide : 0 + 0 ≤ _), (by decide : 0 + 0 ≤ _)⟩)
      dsimp only [Pt.U, Pt.locs, Pt.cells, Pt.slots] at X3 l3 y3 z3 st3 hQ3
      subst l3 y3 z3
      obtain ⟨rfl, rfl, e3⟩ := hQ3
      have N3 := Fr.app NL (Fr.nil n0)
      refine Go.by (T' := T3) (g' := (mkF m 23 #[.val (.ref a), .val (.int (Int32.ofNat A)), .val (.int (Int32.ofNat n))] [(.int (cs.getD (n - 1) 0))])) (fun t_ k_ => st3.trans k_) ?_
      have hne : ¬ own_rm (cs.getD (n - 1) 0) := by rw [show n - 1 = E - 1 by omega]; exact hnr
      obtain ⟨_, _, ⟨T4, L4, k4, n4⟩, -, X4, ⟨Lc4, hQ4, l4, y4, z4⟩, st4⟩ := Jvm.LawKit.callS X3 hx (y := (⟨"com/example/refledger/refledger/PublicKeyText", "isBlank", "(C)Z"⟩ : MethodName)) hown (mvT hZ (hw _ (List.mem_of_getElem? (i := 76) rfl))) (mvT hZ (hw _ (List.mem_of_getElem? (i := 77) rfl))) (mvT hZ (hw _ (List.mem_of_getElem? (i := 39) rfl))) (mvT hZ (hw _ (List.mem_of_getElem? (i := 78) rfl))) (by decide) (backOf (W := 0) (rm_blP l Z a0 hw [] (cs.getD (n - 1) 0) h0 n0 X00 ) hZ (hw _ (List.mem_of_getElem? (i := 78) rfl)) (hw _ (List.mem_of_getElem? (i := 39) rfl)) (by decide) (by decide)) (g := (mkF m 23 #[.val (.ref a), .val (.int (Int32.ofNat A)), .val (.int (Int32.ofNat n))] [(.int (cs.getD (n - 1) 0))])) rfl (by rw [hml]; rfl) (argsL := [(.int (cs.getD (n - 1) 0))]) (rest := []) (lenOf pd_2 rfl) rfl (by show 2 * 0 + _ ≤ _; exact Nat.le_of_eq rfl) (hb hby d_prog_12_method_3_code_23) (fun _ _ => ⟨rfl, e3, (by decide : 0 + 0 ≤ _), (by decide : 0 + 0 ≤ _)⟩)
      dsimp only [Pt.U, Pt.locs, Pt.cells, Pt.slots] at X4 l4 y4 z4 st4 hQ4
      subst l4 y4 z4
      obtain ⟨rfl, N4q, e4⟩ := hQ4
      have N4 := Fr.app N3 N4q
      refine Go.by (T' := T4) (g' := (mkF m 26 #[.val (.ref a), .val (.int (Int32.ofNat A)), .val (.int (Int32.ofNat n))] [(.int (if own_bl (cs.getD (n - 1) 0) then 1 else 0))])) (fun t_ k_ => st4 _ k_) ?_
      refine Go.by (T' := T4) (g' := (mkF m 29 #[.val (.ref a), .val (.int (Int32.ofNat A)), .val (.int (Int32.ofNat n))] [])) (fun t_ k_ => XS.ifNo X4.here hx rfl (hb hby d_prog_12_method_3_code_26) rfl ((if0 _ _).trans (teq (if_neg (fun q => hne (q.elim Or.inl (fun q => Or.inr (Or.inl q)))))).2) k_) ?_
      refine Go.by (T' := T4) (g' := (mkF m 30 #[.val (.ref a), .val (.int (Int32.ofNat A)), .val (.int (Int32.ofNat n))] [(.ref a)])) (fun t_ k_ => XS.aloadN X4.here hx rfl (hb hby d_prog_12_method_3_code_29) rfl rfl k_) ?_
      refine Go.by (T' := T4) (g' := (mkF m 31 #[.val (.ref a), .val (.int (Int32.ofNat A)), .val (.int (Int32.ofNat n))] [(.int (Int32.ofNat n)), (.ref a)])) (fun t_ k_ => XS.iloadN X4.here hx rfl (hb hby d_prog_12_method_3_code_30) rfl k_) ?_
      refine Go.by (T' := T4) (g' := (mkF m 32 #[.val (.ref a), .val (.int (Int32.ofNat A)), .val (.int (Int32.ofNat n))] [(.int (1 : Int32)), (.int (Int32.ofNat n)), (.ref a)])) (fun t_ k_ => XS.iconst X4.here hx rfl (hb hby d_prog_12_method_3_code_31) k_) ?_
      refine Go.by (T' := T4) (g' := (mkF m 33 #[.val (.ref a), .val (.int (Int32.ofNat A)), .val (.int (Int32.ofNat n))] [(.int ((Int32.ofNat n) - (1 : Int32))), (.ref a)])) (fun t_ k_ => XS.isub X4.here hx rfl (hb hby d_prog_12_method_3_code_32) rfl k_) ?_
      rw [show (1 : Int32) = Int32.ofNat 1 from rfl, own_sub (show 1 ≤ n by omega)]
      obtain ⟨cq5, kq5, q5a, q5b, q5c⟩ := isOf hZ e4 P0
      obtain ⟨_, _, ⟨T5, L5, k5, n5⟩, -, X5, ⟨Lc5, hQ5, l5, y5, z5⟩, st5⟩ := X4.virtualBack hx (y := (⟨"java/lang/String", "charAt", "(I)C"⟩ : MethodName)) (z := (⟨"java/lang/String", "charAt", "(I)C"⟩ : MethodName)) hown (mvT hZ (hw _ (List.mem_of_getElem? (i := 54) rfl))) (mvT hZ (hw _ (List.mem_of_getElem? (i := 55) rfl))) (notFace_of_selects (args := #[]) (mvT hZ (hw _ (List.mem_of_getElem? (i := 57) rfl)))) (mvT hZ (hw _ (List.mem_of_getElem? (i := 57) rfl))) (mvT hZ (hw _ (List.mem_of_getElem? (i := 56) rfl))) (by decide) (StrChars.Road.chN (W := 0) hZ (own_wordsChN hw) (kI := 4) (hw _ (List.mem_of_getElem? (i := 9) rfl)) P0 P1 P2 P3 hcd hup (P14.ext X00.2) hCS (P16.ext X00.2) hSF (by rw [hlen]; decide) (i := (n - 1)) (by rw [hlen]; omega) (j := (Int32.ofNat (n - 1))) rfl (by decide) (by decide)) q5a q5c (g := (mkF m 33 #[.val (.ref a), .val (.int (Int32.ofNat A)), .val (.int (Int32.ofNat n))] [(.int (Int32.ofNat (n - 1))), (.ref a)])) rfl (by rw [hml]; rfl) (Steps.refl _) (argsL := [(.int (Int32.ofNat (n - 1)))]) (rest := []) (lenOf pd_0 rfl) rfl (by show 2 * 0 + _ ≤ _; exact Nat.le_of_eq rfl) (hb hby d_prog_12_method_3_code_33) (fun _ _ => ⟨rfl, e4, (by decide : 0 + 0 ≤ _), (by decide : 0 + 0 ≤ _)⟩)
      dsimp only [Pt.U, Pt.locs, Pt.cells, Pt.slots] at X5 l5 y5 z5 st5 hQ5
      subst l5 y5 z5
      obtain ⟨rfl, rfl, e5⟩ := hQ5
      have N5 := Fr.app N4 (Fr.nil n0)
      refine Go.by (T' := T5) (g' := (mkF m 36 #[.val (.ref a), .val (.int (Int32.ofNat A)), .val (.int (Int32.ofNat n))] [(.int (cs.getD (n - 1) 0))])) (fun t_ k_ => st5.trans k_) ?_
      refine Go.by (T' := T5) (g' := (mkF m 38 #[.val (.ref a), .val (.int (Int32.ofNat A)), .val (.int (Int32.ofNat n))] [(.int (13 : Int32)), (.int (cs.getD (n - 1) 0))])) (fun t_ k_ => XS.bipush X5.here hx rfl (hb hby d_prog_12_method_3_code_36) k_) ?_
      refine Go.by (T' := T5) (g' := (mkF m 47 #[.val (.ref a), .val (.int (Int32.ofNat A)), .val (.int (Int32.ofNat n))] [])) (fun t_ k_ => XS.icmpYes X5.here hx rfl (pc0 := 38) (pc' := 47) rfl (hb hby d_prog_12_method_3_code_38) rfl (feq (fun q => hne (Or.inr (Or.inr q)))).2 (by decide) (by decide) k_) ?_
      obtain rfl : E = n := by omega
      refine Go.by (T' := T5) (g' := (mkF m 48 #[.val (.ref a), .val (.int (Int32.ofNat A)), .val (.int (Int32.ofNat E))] [(.ref a)])) (fun t_ k_ => XS.aloadN X5.here hx rfl (hb hby d_prog_12_method_3_code_47) rfl rfl k_) ?_
      refine Go.by (T' := T5) (g' := (mkF m 49 #[.val (.ref a), .val (.int (Int32.ofNat A)), .val (.int (Int32.ofNat E))] [(.int (Int32.ofNat A)), (.ref a)])) (fun t_ k_ => XS.iloadN X5.here hx rfl (hb hby d_prog_12_method_3_code_48) rfl k_) ?_
      refine Go.by (T' := T5) (g' := (mkF m 50 #[.val (.ref a), .val (.int (Int32.ofNat A)), .val (.int (Int32.ofNat E))] [(.int (Int32.ofNat E)), (.int (Int32.ofNat A)), (.ref a)])) (fun t_ k_ => XS.iloadN X5.here hx rfl (hb hby d_prog_12_method_3_code_49) rfl k_) ?_
      obtain ⟨cq6, kq6, q6a, q6b, q6c⟩ := isOf hZ e5 P0
      obtain ⟨_, _, ⟨T6, L6, k6, n6⟩, -, X6, ⟨Lc6, hQ6, l6, y6, z6⟩, st6⟩ := X5.virtualBack hx (y := (⟨"java/lang/String", "substring", "(II)Ljava/lang/String;"⟩ : MethodName)) (z := (⟨"java/lang/String", "substring", "(II)Ljava/lang/String;"⟩ : MethodName)) hown (mvT hZ (hw _ (List.mem_of_getElem? (i := 79) rfl))) (mvT hZ (hw _ (List.mem_of_getElem? (i := 80) rfl))) (notFace_of_selects (args := #[]) (mvT hZ (hw _ (List.mem_of_getElem? (i := 82) rfl)))) (mvT hZ (hw _ (List.mem_of_getElem? (i := 82) rfl))) (mvT hZ (hw _ (List.mem_of_getElem? (i := 81) rfl))) (by decide) (backOf (W := 0) (rm_subN l Z a0 hw [] a tt kb cs A E G1 G3 h0 n0 X00 P0 P1 P2 P3 hp hlen hAE hE5 P14 hCS P16 hSF hlt) hZ (hw _ (List.mem_of_getElem? (i := 83) rfl)) (hw _ (List.mem_of_getElem? (i := 10) rfl)) (by decide) (by decide)) q6a q6c (g := (mkF m 50 #[.val (.ref a), .val (.int (Int32.ofNat A)), .val (.int (Int32.ofNat E))] [(.int (Int32.ofNat E)), (.int (Int32.ofNat A)), (.ref a)])) rfl (by rw [hml]; rfl) (Steps.refl _) (argsL := [(.int (Int32.ofNat A)), (.int (Int32.ofNat E))]) (rest := []) (lenOf pd_12 rfl) rfl (by show 2 * 0 + _ ≤ _; exact Nat.le_of_eq rfl) (hb hby d_prog_12_method_3_code_50) (fun _ _ => ⟨rfl, e5, (by decide : 0 + 2 ≤ _), (by decide : 0 + 9 ≤ _)⟩)
      dsimp only [Pt.U, Pt.locs, Pt.cells, Pt.slots] at X6 l6 y6 z6 st6 hQ6
      subst l6 y6 z6
      obtain ⟨r_6, t_6, k2_6, rfl, N6q, K6, G6_0, G6_1, G6_2, G6_3⟩ := hQ6
      have N6 := Fr.app N5 N6q
      refine Go.by (T' := T6) (g' := (mkF m 53 #[.val (.ref a), .val (.int (Int32.ofNat A)), .val (.int (Int32.ofNat E))] [(.ref r_6)])) (fun t_ k_ => st6.trans k_) ?_
      have Kp7 : Keep h0 T6.heap [] := ((Keep.refl h0 []).trans K6 all0)
      refine Go.fin X6 (v := some (.ref r_6)) (fun h => by rw [Bd.returns] at h; cases h) hlk (by decide) (by decide) ?_ (fun fs hr => retR X6 hx (w := (.ref r_6)) Bd.returns rfl rfl rfl (hb hby d_prog_12_method_3_code_53) hr)
      show Q_trimN Z a tt kb cs A E G1 G3 h0 n0 _ T6.heap _
      exact ⟨r_6, t_6, k2_6, rfl, N6, Kp7, G6_0, G6_1, G6_2, G6_3⟩
    | succ k ih =>
      intro n T L hk hn5 XL eL NL
      refine Go.by (T' := T) (g' := (mkF m 12 #[.val (.ref a), .val (.int (Int32.ofNat A)), .val (.int (Int32.ofNat n))] [(.int (Int32.ofNat n))])) (fun t_ k_ => XS.iloadN XL.here hx rfl (hb hby d_prog_12_method_3_code_11) rfl k_) ?_
      refine Go.by (T' := T) (g' := (mkF m 13 #[.val (.ref a), .val (.int (Int32.ofNat A)), .val (.int (Int32.ofNat n))] [(.int (Int32.ofNat A)), (.int (Int32.ofNat n))])) (fun t_ k_ => XS.iloadN XL.here hx rfl (hb hby d_prog_12_method_3_code_12) rfl k_) ?_
      refine Go.by (T' := T) (g' := (mkF m 16 #[.val (.ref a), .val (.int (Int32.ofNat A)), .val (.int (Int32.ofNat n))] [])) (fun t_ k_ => XS.icmpNo XL.here hx rfl (hb hby d_prog_12_method_3_code_13) rfl (tlt (by rw [own_lt (by omega) (by omega)]; omega)).2.2.2 k_) ?_
      refine Go.by (T' := T) (g' := (mkF m 17 #[.val (.ref a), .val (.int (Int32.ofNat A)), .val (.int (Int32.ofNat n))] [(.ref a)])) (fun t_ k_ => XS.aloadN XL.here hx rfl (hb hby d_prog_12_method_3_code_16) rfl rfl k_) ?_
      refine Go.by (T' := T) (g' := (mkF m 18 #[.val (.ref a), .val (.int (Int32.ofNat A)), .val (.int (Int32.ofNat n))] [(.int (Int32.ofNat n)), (.ref a)])) (fun t_ k_ => XS.iloadN XL.here hx rfl (hb hby d_prog_12_method_3_code_17) rfl k_) ?_
      refine Go.by (T' := T) (g' := (mkF m 19 #[.val (.ref a), .val (.int (Int32.ofNat A)), .val (.int (Int32.ofNat n))] [(.int (1 : Int32)), (.int (Int32.ofNat n)), (.ref a)])) (fun t_ k_ => XS.iconst XL.here hx rfl (hb hby d_prog_12_method_3_code_18) k_) ?_
      refine Go.by (T' := T) (g' := (mkF m 20 #[.val (.ref a), .val (.int (Int32.ofNat A)), .val (.int (Int32.ofNat n))] [(.int ((Int32.ofNat n) - (1 : Int32))), (.ref a)])) (fun t_ k_ => XS.isub XL.here hx rfl (hb hby d_prog_12_method_3_code_19) rfl k_) ?_
      rw [show (1 : Int32) = Int32.ofNat 1 from rfl, own_sub (show 1 ≤ n by omega)]
      obtain ⟨cq8, kq8, q8a, q8b, q8c⟩ := isOf hZ eL P0
      obtain ⟨_, _, ⟨T8, L8, k8, n8⟩, -, X8, ⟨Lc8, hQ8, l8, y8, z8⟩, st8⟩ := XL.virtualBack hx (y := (⟨"java/lang/String", "charAt", "(I)C"⟩ : MethodName)) (z := (⟨"java/lang/String", "charAt", "(I)C"⟩ : MethodName)) hown (mvT hZ (hw _ (List.mem_of_getElem? (i := 54) rfl))) (mvT hZ (hw _ (List.mem_of_getElem? (i := 55) rfl))) (notFace_of_selects (args := #[]) (mvT hZ (hw _ (List.mem_of_getElem? (i := 57) rfl)))) (mvT hZ (hw _ (List.mem_of_getElem? (i := 57) rfl))) (mvT hZ (hw _ (List.mem_of_getElem? (i := 56) rfl))) (by decide) (StrChars.Road.chN (W := 0) hZ (own_wordsChN hw) (kI := 4) (hw _ (List.mem_of_getElem? (i := 9) rfl)) P0 P1 P2 P3 hcd hup (P14.ext X00.2) hCS (P16.ext X00.2) hSF (by rw [hlen]; decide) (i := (n - 1)) (by rw [hlen]; omega) (j := (Int32.ofNat (n - 1))) rfl (by decide) (by decide)) q8a q8c (g := (mkF m 20 #[.val (.ref a), .val (.int (Int32.ofNat A)), .val (.int (Int32.ofNat n))] [(.int (Int32.ofNat (n - 1))), (.ref a)])) rfl (by rw [hml]; rfl) (Steps.refl _) (argsL := [(.int (Int32.ofNat (n - 1)))]) (rest := []) (lenOf pd_0 rfl) rfl (by show 2 * 0 + _ ≤ _; exact Nat.le_of_eq rfl) (hb hby d_prog_12_method_3_code_20) (fun _ _ => ⟨rfl, eL, (by decide : 0 + 0 ≤ _), (by decide : 0 + 0 ≤ _)⟩)
      dsimp only [Pt.U, Pt.locs, Pt.cells, Pt.slots] at X8 l8 y8 z8 st8 hQ8
      subst l8 y8 z8
      obtain ⟨rfl, rfl, e8⟩ := hQ8
      have N8 := Fr.app NL (Fr.nil n0)
      refine Go.by (T' := T8) (g' := (mkF m 23 #[.val (.ref a), .val (.int (Int32.ofNat A)), .val (.int (Int32.ofNat n))] [(.int (cs.getD (n - 1) 0))])) (fun t_ k_ => st8.trans k_) ?_
      have hrn := hrm (n - 1) (by omega) (by omega)
      obtain ⟨_, _, ⟨T9, L9, k9, n9⟩, -, X9, ⟨Lc9, hQ9, l9, y9, z9⟩, st9⟩ := Jvm.LawKit.callS X8 hx (y := (⟨"com/example/refledger/refledger/PublicKeyText", "isBlank", "(C)Z"⟩ : MethodName)) hown (mvT hZ (hw _ (List.mem_of_getElem? (i := 76) rfl))) (mvT hZ (hw _ (List.mem_of_getElem? (i := 77) rfl))) (mvT hZ (hw _ (List.mem_of_getElem? (i := 39) rfl))) (mvT hZ (hw _ (List.mem_of_getElem? (i := 78) rfl))) (by decide) (backOf (W := 0) (rm_blP l Z a0 hw [] (cs.getD (n - 1) 0) h0 n0 X00 ) hZ (hw _ (List.mem_of_getElem? (i := 78) rfl)) (hw _ (List.mem_of_getElem? (i := 39) rfl)) (by decide) (by decide)) (g := (mkF m 23 #[.val (.ref a), .val (.int (Int32.ofNat A)), .val (.int (Int32.ofNat n))] [(.int (cs.getD (n - 1) 0))])) rfl (by rw [hml]; rfl) (argsL := [(.int (cs.getD (n - 1) 0))]) (rest := []) (lenOf pd_2 rfl) rfl (by show 2 * 0 + _ ≤ _; exact Nat.le_of_eq rfl) (hb hby d_prog_12_method_3_code_23) (fun _ _ => ⟨rfl, e8, (by decide : 0 + 0 ≤ _), (by decide : 0 + 0 ≤ _)⟩)
      dsimp only [Pt.U, Pt.locs, Pt.cells, Pt.slots] at X9 l9 y9 z9 st9 hQ9
      subst l9 y9 z9
      obtain ⟨rfl, N9q, e9⟩ := hQ9
      have N9 := Fr.app N8 N9q
      refine Go.by (T' := T9) (g' := (mkF m 26 #[.val (.ref a), .val (.int (Int32.ofNat A)), .val (.int (Int32.ofNat n))] [(.int (if own_bl (cs.getD (n - 1) 0) then 1 else 0))])) (fun t_ k_ => st9 _ k_) ?_
      by_cases hbk : own_bl (cs.getD (n - 1) 0)
      · skip
        refine Go.by (T' := T9) (g' := (mkF m 41 #[.val (.ref a), .val (.int (Int32.ofNat A)), .val (.int (Int32.ofNat n))] [])) (fun t_ k_ => XS.ifYes X9.here hx rfl (pc0 := 26) (pc' := 41) rfl (hb hby d_prog_12_method_3_code_26) rfl ((if0 _ _).trans (feq (by rw [if_pos hbk]; decide)).2) (by decide) (by decide) k_) ?_
        refine Go.by (T' := T9) (g' := (mkF m 44 #[.val (.ref a), .val (.int (Int32.ofNat A)), .val (.int ((Int32.ofNat n) + (-1 : Int32)))] [])) (fun t_ k_ => XS.iinc X9.here hx rfl (hb hby d_prog_12_method_3_code_41) rfl (l' := #[.val (.ref a), .val (.int (Int32.ofNat A)), .val (.int ((Int32.ofNat n) + (-1 : Int32)))]) rfl k_) ?_
        refine Go.by (T' := T9) (g' := (mkF m 11 #[.val (.ref a), .val (.int (Int32.ofNat A)), .val (.int ((Int32.ofNat n) + (-1 : Int32)))] [])) (fun t_ k_ => XS.goto X9.here hx rfl (pc0 := 44) (pc' := 11) rfl (hb hby d_prog_12_method_3_code_44) (by decide) (by decide) k_) ?_
        rw [show Int32.ofNat n + (-1 : Int32) = Int32.ofNat (n - 1) from own_dec (by omega)]
        exact ih (n - 1) (by omega) (by omega) X9 e9 N9
      · skip
        refine Go.by (T' := T9) (g' := (mkF m 29 #[.val (.ref a), .val (.int (Int32.ofNat A)), .val (.int (Int32.ofNat n))] [])) (fun t_ k_ => XS.ifNo X9.here hx rfl (hb hby d_prog_12_method_3_code_26) rfl ((if0 _ _).trans (teq (if_neg hbk)).2) k_) ?_
        refine Go.by (T' := T9) (g' := (mkF m 30 #[.val (.ref a), .val (.int (Int32.ofNat A)), .val (.int (Int32.ofNat n))] [(.ref a)])) (fun t_ k_ => XS.aloadN X9.here hx rfl (hb hby d_prog_12_method_3_code_29) rfl rfl k_) ?_
        refine Go.by (T' := T9) (g' := (mkF m 31 #[.val (.ref a), .val (.int (Int32.ofNat A)), .val (.int (Int32.ofNat n))] [(.int (Int32.ofNat n)), (.ref a)])) (fun t_ k_ => XS.iloadN X9.here hx rfl (hb hby d_prog_12_method_3_code_30) rfl k_) ?_
        refine Go.by (T' := T9) (g' := (mkF m 32 #[.val (.ref a), .val (.int (Int32.ofNat A)), .val (.int (Int32.ofNat n))] [(.int (1 : Int32)), (.int (Int32.ofNat n)), (.ref a)])) (fun t_ k_ => XS.iconst X9.here hx rfl (hb hby d_prog_12_method_3_code_31) k_) ?_
        refine Go.by (T' := T9) (g' := (mkF m 33 #[.val (.ref a), .val (.int (Int32.ofNat A)), .val (.int (Int32.ofNat n))] [(.int ((Int32.ofNat n) - (1 : Int32))), (.ref a)])) (fun t_ k_ => XS.isub X9.here hx rfl (hb hby d_prog_12_method_3_code_32) rfl k_) ?_
        rw [show (1 : Int32) = Int32.ofNat 1 from rfl, own_sub (show 1 ≤ n by omega)]
        obtain ⟨cq10, kq10, q10a, q10b, q10c⟩ := isOf hZ e9 P0
        obtain ⟨_, _, ⟨T10, L10, k10, n10⟩, -, X10, ⟨Lc10, hQ10, l10, y10, z10⟩, st10⟩ := X9.virtualBack hx (y := (⟨"java/lang/String", "charAt", "(I)C"⟩ : MethodName)) (z := (⟨"java/lang/String", "charAt", "(I)C"⟩ : MethodName)) hown (mvT hZ (hw _ (List.mem_of_getElem? (i := 54) rfl))) (mvT hZ (hw _ (List.mem_of_getElem? (i := 55) rfl))) (notFace_of_selects (args := #[]) (mvT hZ (hw _ (List.mem_of_getElem? (i := 57) rfl)))) (mvT hZ (hw _ (List.mem_of_getElem? (i := 57) rfl))) (mvT hZ (hw _ (List.mem_of_getElem? (i := 56) rfl))) (by decide) (StrChars.Road.chN (W := 0) hZ (own_wordsChN hw) (kI := 4) (hw _ (List.mem_of_getElem? (i := 9) rfl)) P0 P1 P2 P3 hcd hup (P14.ext X00.2) hCS (P16.ext X00.2) hSF (by rw [hlen]; decide) (i := (n - 1)) (by rw [hlen]; omega) (j := (Int32.ofNat (n - 1))) rfl (by decide) (by decide)) q10a q10c (g := (mkF m 33 #[.val (.ref a), .val (.int (Int32.ofNat A)), .val (.int (Int32.ofNat n))] [(.int (Int32.ofNat (n - 1))), (.ref a)])) rfl (by rw [hml]; rfl) (Steps.refl _) (argsL := [(.int (Int32.ofNat (n - 1)))]) (rest := []) (lenOf pd_0 rfl) rfl (by show 2 * 0 + _ ≤ _; exact Nat.le_of_eq rfl) (hb hby d_prog_12_method_3_code_33) (fun _ _ => ⟨rfl, e9, (by decide : 0 + 0 ≤ _), (by decide : 0 + 0 ≤ _)⟩)
        dsimp only [Pt.U, Pt.locs, Pt.cells, Pt.slots] at X10 l10 y10 z10 st10 hQ10
        subst l10 y10 z10
        obtain ⟨rfl, rfl, e10⟩ := hQ10
        have N10 := Fr.app N9 (Fr.nil n0)
        refine Go.by (T' := T10) (g' := (mkF m 36 #[.val (.ref a), .val (.int (Int32.ofNat A)), .val (.int (Int32.ofNat n))] [(.int (cs.getD (n - 1) 0))])) (fun t_ k_ => st10.trans k_) ?_
        refine Go.by (T' := T10) (g' := (mkF m 38 #[.val (.ref a), .val (.int (Int32.ofNat A)), .val (.int (Int32.ofNat n))] [(.int (13 : Int32)), (.int (cs.getD (n - 1) 0))])) (fun t_ k_ => XS.bipush X10.here hx rfl (hb hby d_prog_12_method_3_code_36) k_) ?_
        refine Go.by (T' := T10) (g' := (mkF m 41 #[.val (.ref a), .val (.int (Int32.ofNat A)), .val (.int (Int32.ofNat n))] [])) (fun t_ k_ => XS.icmpNo X10.here hx rfl (hb hby d_prog_12_method_3_code_38) rfl (teq (hrn.elim (fun q => absurd (Or.inl q) hbk) (fun q => q.elim (fun q => absurd (Or.inr q) hbk) id))).2 k_) ?_
        refine Go.by (T' := T10) (g' := (mkF m 44 #[.val (.ref a), .val (.int (Int32.ofNat A)), .val (.int ((Int32.ofNat n) + (-1 : Int32)))] [])) (fun t_ k_ => XS.iinc X10.here hx rfl (hb hby d_prog_12_method_3_code_41) rfl (l' := #[.val (.ref a), .val (.int (Int32.ofNat A)), .val (.int ((Int32.ofNat n) + (-1 : Int32)))]) rfl k_) ?_
        refine Go.by (T' := T10) (g' := (mkF m 11 #[.val (.ref a), .val (.int (Int32.ofNat A)), .val (.int ((Int32.ofNat n) + (-1 : Int32)))] [])) (fun t_ k_ => XS.goto X10.here hx rfl (pc0 := 44) (pc' := 11) rfl (hb hby d_prog_12_method_3_code_44) (by decide) (by decide) k_) ?_
        rw [show Int32.ofNat n + (-1 : Int32) = Int32.ofNat (n - 1) from own_dec (by omega)]
        exact ih (n - 1) (by omega) (by omega) X10 e10 N10
  exact LP (5 - E) 5 (by omega) (by omega) X2 e2 N2
def Q_trimZ (Z : State) (a : Addr) (tt : Addr) (kb : ClassId) (cs : List Int32) (A : Nat) (E : Nat) (G1 : Int32) (G3 : Value) (h0 : Heap) (n0 : Nat) (v : Option Value) (h : Heap) (L : List Loc) : Prop := ∃ (r : Addr) (t : Addr) (k2 : ClassId), v = some (.ref r) ∧ Fr n0 L ∧ Keep h0 h [] ∧ Exa Z h r "java/lang/String" ∧ Fld Z h r "java/lang/String" "value" "[B" (.ref t) ∧ Fld Z h r "java/lang/String" "coder" "B" (.int (0 : Int32)) ∧ Arv Z h t k2 .byte (0 : Int32) [] (.int (0 : Int32))
theorem ef_trimZ (m : MethodId) (a : Addr) : entryFrame m #[(.ref a)] 3 = mkF m 0 #[.val (.ref a), .unset, .unset] [] := by first | (simp [entryFrame, mkF, argsToLocals, Value.category]; done) | rfl
set_option maxRecDepth 65536 in
set_option maxHeartbeats 40000000 in
theorem rm_trimZ (l : Launch) (Z : State) (a0 : Array Value) (hw : ∀ d ∈ tables_1, d.before a0 Z = true) (ws : List Jvm.Cond) (a : Addr) (tt : Addr) (kb : ClassId) (cs : List Int32) (A : Nat) (E : Nat) (G1 : Int32) (G3 : Value) (h0 : Heap) (n0 : Nat) (X00 : Old Z n0 h0) (P0 : Exa Z h0 a "java/lang/String") (P1 : Fld Z h0 a "java/lang/String" "value" "[B" (.ref tt)) (P2 : Fld Z h0 a "java/lang/String" "coder" "B" (.int (0 : Int32))) (P3 : Arv Z h0 tt kb .byte (5 : Int32) ((cs.map (fun c => c.toInt8.toInt32)).map Value.int) (.int (0 : Int32))) (hp : ∀ c ∈ cs, ¬ c < 0 ∧ ¬ (255 : Int32) < c) (hlen : cs.length = 5) (hA5 : A ≤ 5) (hjb : ∀ i, i < A → own_bl (cs.getD i 0)) (hje : A = 5 ∨ ¬ own_bl (cs.getD A 0)) (hAE : A ≤ E) (hE5 : E ≤ 5) (hrm : ∀ i, E ≤ i → i < 5 → own_rm (cs.getD i 0)) (heq : A = E) (P13 : Sta Z Z.heap "java/lang/String" "COMPACT_STRINGS" "Z" (.int G1)) (hCS : ¬ (G1 = (0 : Int32))) (P15 : Sta Z Z.heap "jdk/internal/util/Preconditions" "SIOOBE_FORMATTER" "Ljava/util/function/BiFunction;" G3) (hSF : G3.isRef = true) (hheld : Jvm.Lit.constHeld Z "java/lang/StringLatin1" 151) (hcw : Jvm.Lit.compactW.before a0 Z = true) :
    MetFree l (⟨"com/example/refledger/refledger/PublicKeyText", "trim", "(Ljava/lang/String;)Ljava/lang/String;"⟩ : MethodName) (head1 (Jvm.Cond.code (⟨"com/example/refledger/refledger/PublicKeyText", "trim", "(Ljava/lang/String;)Ljava/lang/String;"⟩ : MethodName) prog_12_method_3_code 3 (some (.object "java/lang/String")) :: ws) ({ frames := 6, cells := 2, slots := 4, locals := 130 } : Room)) (fun aa_ U => aa_ = #[(.ref a)] ∧ Z.Warmed39 U.vm ∧ U.heap = h0 ∧ IB Z U.vm []) (fun _ _ _ _ _ => True) (fun _ U o U' => ∃ v L, o = .returned v ∧ Q_trimZ Z a tt kb cs A E G1 G3 h0 n0 v U'.heap L ∧ ReturnedEndW U o U' L ({ frames := 6, cells := 2, slots := 4, locals := 130 } : Room).cells ({ frames := 6, cells := 2, slots := 4, locals := 130 } : Room).slots) := by
  refine MetFree.of_bodySF (plainFor_of_name pn_1) hisR ?_
  intro p e s m args below meth c s₁ Bd hml0 hP hK
  obtain ⟨rfl, hZ, hh, hI⟩ := hP
  have hx := Bd.exec
  have hby := Bd.bytes
  have hml : c.maxLocals = 3 := hml0
  have hown : s.vm.findClass "com/example/refledger/refledger/PublicKeyText" = some m.cls := findClass_of_methodNamed Bd.named
  have hnm := (name_of_methodNamed Bd.named Bd.method).1
  have hlk : meth.locks = false := BodyLoose.notSynchronized Bd
  have X0 : Stand p l e ({ frames := 6, cells := 2, slots := 4, locals := 130 } : Room) s m #[(.ref a)] below meth c s₁ [] 0 0 := Stand.of_body Bd
  have e0 : s₁.heap = h0 := by rw [← hh, Bd.state]; rfl
  have N0 := Fr.nil n0
  suffices G : GoW p e below s (Q_trimZ Z a tt kb cs A E G1 G3 h0 n0) 2 4 s₁ (mkF m 0 #[.val (.ref a), .unset, .unset] []) by
    obtain ⟨s2, o, h1, h2⟩ := G
    exact ⟨s2, o, castTop (ef_trimZ m a) h1, h2⟩
  have hS : s.Since s.vm 0 := (State.WarmedH.refl s).since 0
  have hcd : StrChars.Road.CodA cs 0 (5 : Int32) ((cs.map (fun c => c.toInt8.toInt32)).map Value.int) := StrChars.Road.codOf (n := 5) hlen (fun x hx => (hp x hx).2)
  have hup := own_up cs hp
  refine GoW.by (T' := s₁) (g' := (mkF m 1 #[.val (.ref a), .unset, .unset] [(.ref a)])) (fun t_ k_ => XS.aloadN X0.here hx rfl (hb hby d_prog_12_method_3_code_0) rfl rfl k_) ?_
  refine GoW.by (T' := s₁) (g' := (mkF m 2 #[.val (.ref a), .unset, .unset] [(.int (0 : Int32)), (.ref a)])) (fun t_ k_ => XS.iconst X0.here hx rfl (hb hby d_prog_12_method_3_code_1) k_) ?_
  obtain ⟨_, _, ⟨T1, L1, k1, n1⟩, -, X1, ⟨Lc1, hQ1, l1, y1, z1⟩, st1⟩ := Jvm.LawKit.callS X0 hx (y := (⟨"com/example/refledger/refledger/PublicKeyText", "skipBlanks", "(Ljava/lang/String;I)I"⟩ : MethodName)) hown (mvT hZ (hw _ (List.mem_of_getElem? (i := 41) rfl))) (mvT hZ (hw _ (List.mem_of_getElem? (i := 42) rfl))) (mvT hZ (hw _ (List.mem_of_getElem? (i := 39) rfl))) (mvT hZ (hw _ (List.mem_of_getElem? (i := 43) rfl))) (by decide) (backOf (W := 0) (rm_skip l Z a0 hw [] a tt kb cs A G1 G3 h0 n0 X00 P0 P1 P2 P3 hp hlen hA5 hjb hje P13 hCS P15 hSF) hZ (hw _ (List.mem_of_getElem? (i := 43) rfl)) (hw _ (List.mem_of_getElem? (i := 39) rfl)) (by decide) (by decide)) (g := (mkF m 2 #[.val (.ref a), .unset, .unset] [(.int (0 : Int32)), (.ref a)])) rfl (by rw [hml]; rfl) (argsL := [(.ref a), (.int (0 : Int32))]) (rest := []) (lenOf pd_11 rfl) rfl (by show 2 * 0 + _ ≤ _; exact Nat.le_of_eq rfl) (hb hby d_prog_12_method_3_code_2) (fun _ _ => ⟨rfl, e0, (by decide : 0 + 0 ≤ _), (by decide : 0 + 0 ≤ _)⟩)
  dsimp only [Pt.U, Pt.locs, Pt.cells, Pt.slots] at X1 l1 y1 z1 st1 hQ1
  subst l1 y1 z1
  obtain ⟨rfl, N1q, e1⟩ := hQ1
  have N1 := Fr.app N0 N1q
  refine GoW.by (T' := T1) (g' := (mkF m 5 #[.val (.ref a), .unset, .unset] [(.int (Int32.ofNat A))])) (fun t_ k_ => st1 _ k_) ?_
  refine GoW.by (T' := T1) (g' := (mkF m 6 #[.val (.ref a), .val (.int (Int32.ofNat A)), .unset] [])) (fun t_ k_ => XS.istoreN X1.here hx rfl (hb hby d_prog_12_method_3_code_5) rfl (l' := #[.val (.ref a), .val (.int (Int32.ofNat A)), .unset]) rfl k_) ?_
  refine GoW.by (T' := T1) (g' := (mkF m 7 #[.val (.ref a), .val (.int (Int32.ofNat A)), .unset] [(.ref a)])) (fun t_ k_ => XS.aloadN X1.here hx rfl (hb hby d_prog_12_method_3_code_6) rfl rfl k_) ?_
  obtain ⟨cq2, kq2, q2a, q2b, q2c⟩ := isOf hZ e1 P0
  obtain ⟨_, _, ⟨T2, L2, k2, n2⟩, -, X2, ⟨Lc2, hQ2, l2, y2, z2⟩, st2⟩ := X1.virtualBack hx (y := (⟨"java/lang/String", "length", "()I"⟩ : MethodName)) (z := (⟨"java/lang/String", "length", "()I"⟩ : MethodName)) hown (mvT hZ (hw _ (List.mem_of_getElem? (i := 44) rfl))) (mvT hZ (hw _ (List.mem_of_getElem? (i := 45) rfl))) (notFace_of_selects (args := #[]) (mvT hZ (hw _ (List.mem_of_getElem? (i := 47) rfl)))) (mvT hZ (hw _ (List.mem_of_getElem? (i := 47) rfl))) (mvT hZ (hw _ (List.mem_of_getElem? (i := 46) rfl))) (by decide) (StrChars.Road.lenW (W := 0) hZ (own_wordsLen hw) (kI := 4) (hw _ (List.mem_of_getElem? (i := 9) rfl)) P0 P1 P2 P3 hcd hup (P13.ext X00.2) hCS (by rw [hlen]; decide) (by decide) (by decide)) q2a q2c (g := (mkF m 7 #[.val (.ref a), .val (.int (Int32.ofNat A)), .unset] [(.ref a)])) rfl (by rw [hml]; rfl) (Steps.refl _) (argsL := []) (rest := []) (lenOf pd_1 rfl) rfl (by show 2 * 0 + _ ≤ _; exact Nat.le_of_eq rfl) (hb hby d_prog_12_method_3_code_7) (fun _ _ => ⟨rfl, e1, (by decide : 0 + 0 ≤ _), (by decide : 0 + 0 ≤ _)⟩)
  dsimp only [Pt.U, Pt.locs, Pt.cells, Pt.slots] at X2 l2 y2 z2 st2 hQ2
  subst l2 y2 z2
  obtain ⟨rfl, rfl, e2⟩ := hQ2
  have N2 := Fr.app N1 (Fr.nil n0)
  refine GoW.by (T' := T2) (g' := (mkF m 10 #[.val (.ref a), .val (.int (Int32.ofNat A)), .unset] [(.int (Int32.ofNat cs.length))])) (fun t_ k_ => st2.trans k_) ?_
  rw [hlen]
  refine GoW.by (T' := T2) (g' := (mkF m 11 #[.val (.ref a), .val (.int (Int32.ofNat A)), .val (.int (Int32.ofNat 5))] [])) (fun t_ k_ => XS.istoreN X2.here hx rfl (hb hby d_prog_12_method_3_code_10) rfl (l' := #[.val (.ref a), .val (.int (Int32.ofNat A)), .val (.int (Int32.ofNat 5))]) rfl k_) ?_
  have LP : ∀ (k n : Nat) {T : State} {L : List Loc}, E + k = n → n ≤ 5 → Stand p l e ({ frames := 6, cells := 2, slots := 4, locals := 130 } : Room) s m #[(.ref a)] below meth c T L 0 0 → T.heap = h0 → Fr n0 L → GoW p e below s (Q_trimZ Z a tt kb cs A E G1 G3 h0 n0) 2 4 T (mkF m 11 #[.val (.ref a), .val (.int (Int32.ofNat A)), .val (.int (Int32.ofNat n))] []) := by
    intro k
    induction k with
    | zero =>
      intro n T L hk hn5 XL eL NL
      refine GoW.by (T' := T) (g' := (mkF m 12 #[.val (.ref a), .val (.int (Int32.ofNat A)), .val (.int (Int32.ofNat n))] [(.int (Int32.ofNat n))])) (fun t_ k_ => XS.iloadN XL.here hx rfl (hb hby d_prog_12_method_3_code_11) rfl k_) ?_
      refine GoW.by (T' := T) (g' := (mkF m 13 #[.val (.ref a), .val (.int (Int32.ofNat A)), .val (.int (Int32.ofNat n))] [(.int (Int32.ofNat A)), (.int (Int32.ofNat n))])) (fun t_ k_ => XS.iloadN XL.here hx rfl (hb hby d_prog_12_method_3_code_12) rfl k_) ?_
      refine GoW.by (T' := T) (g' := (mkF m 47 #[.val (.ref a), .val (.int (Int32.ofNat A)), .val (.int (Int32.ofNat n))] [])) (fun t_ k_ => XS.icmpYes XL.here hx rfl (pc0 := 13) (pc' := 47) rfl (hb hby d_prog_12_method_3_code_13) rfl (flt (by rw [own_lt (by omega) (by omega)]; omega)).2.2.2 (by decide) (by decide) k_) ?_
      obtain rfl : E = n := by omega
      refine GoW.by (T' := T) (g' := (mkF m 48 #[.val (.ref a), .val (.int (Int32.ofNat A)), .val (.int (Int32.ofNat E))] [(.ref a)])) (fun t_ k_ => XS.aloadN XL.here hx rfl (hb hby d_prog_12_method_3_code_47) rfl rfl k_) ?_
      refine GoW.by (T' := T) (g' := (mkF m 49 #[.val (.ref a), .val (.int (Int32.ofNat A)), .val (.int (Int32.ofNat E))] [(.int (Int32.ofNat A)), (.ref a)])) (fun t_ k_ => XS.iloadN XL.here hx rfl (hb hby d_prog_12_method_3_code_48) rfl k_) ?_
      refine GoW.by (T' := T) (g' := (mkF m 50 #[.val (.ref a), .val (.int (Int32.ofNat A)), .val (.int (Int32.ofNat E))] [(.int (Int32.ofNat E)), (.int (Int32.ofNat A)), (.ref a)])) (fun t_ k_ => XS.iloadN XL.here hx rfl (hb hby d_prog_12_method_3_code_49) rfl k_) ?_
      obtain ⟨cq3, kq3, q3a, q3b, q3c⟩ := isOf hZ eL P0
      obtain ⟨_, _, ⟨T3, L3, k3, n3⟩, -, X3, hS3, gr3, ⟨Lc3, hQ3, l3, y3, z3⟩, st3⟩ := XL.virtualBackS hx (y := (⟨"java/lang/String", "substring", "(II)Ljava/lang/String;"⟩ : MethodName)) (z := (⟨"java/lang/String", "substring", "(II)Ljava/lang/String;"⟩ : MethodName)) hown (mvT hZ (hw _ (List.mem_of_getElem? (i := 79) rfl))) (mvT hZ (hw _ (List.mem_of_getElem? (i := 80) rfl))) (notFace_of_selects (args := #[]) (mvT hZ (hw _ (List.mem_of_getElem? (i := 82) rfl)))) (mvT hZ (hw _ (List.mem_of_getElem? (i := 82) rfl))) (mvT hZ (hw _ (List.mem_of_getElem? (i := 81) rfl))) (by decide) (backOfI (W := 0) (rm_subZ l Z a0 hw [] a tt kb cs A E G1 G3 h0 n0 X00 P0 P1 P2 P3 hp hlen hAE hE5 P13 hCS P15 hSF heq hheld hcw) hZ hI (hw _ (List.mem_of_getElem? (i := 83) rfl)) (hw _ (List.mem_of_getElem? (i := 10) rfl)) (by decide) (by decide)) q3a q3c (g := (mkF m 50 #[.val (.ref a), .val (.int (Int32.ofNat A)), .val (.int (Int32.ofNat E))] [(.int (Int32.ofNat E)), (.int (Int32.ofNat A)), (.ref a)])) rfl (by rw [hml]; rfl) (Steps.refl _) (argsL := [(.int (Int32.ofNat A)), (.int (Int32.ofNat E))]) (rest := []) (lenOf pd_12 rfl) rfl (by show 2 * 0 + _ ≤ _; exact Nat.le_of_eq rfl) (hb hby d_prog_12_method_3_code_50) (fun _ _ => ⟨rfl, eL, (by decide : 0 + 2 ≤ _), (by decide : 0 + 4 ≤ _)⟩)
      dsimp only [Pt.U, Pt.locs, Pt.cells, Pt.slots] at X3 hS3 gr3 l3 y3 z3 st3 hQ3
      subst l3 y3 z3
      obtain ⟨X3, hS, hZ, hown⟩ := rebS hS (Nat.zero_le _) X3 hS3 gr3 hZ hown
      obtain ⟨r_3, t_3, k2_3, rfl, N3q, K3, G3_0, G3_1, G3_2, G3_3⟩ := hQ3
      have N3 := Fr.app NL N3q
      refine GoW.by (T' := T3) (g' := (mkF m 53 #[.val (.ref a), .val (.int (Int32.ofNat A)), .val (.int (Int32.ofNat E))] [(.ref r_3)])) (fun t_ k_ => st3.trans k_) ?_
      have Kp4 : Keep h0 T3.heap [] := ((Keep.refl h0 []).trans K3 all0)
      refine GoW.fin hS X3 (Nat.le_refl _) (v := some (.ref r_3)) (fun h => by rw [Bd.returns] at h; cases h) hlk (by decide) (by decide) ?_ (fun fs hr => retR X3 hx (w := (.ref r_3)) Bd.returns rfl rfl rfl (hb hby d_prog_12_method_3_code_53) hr)
      show Q_trimZ Z a tt kb cs A E G1 G3 h0 n0 _ T3.heap _
      exact ⟨r_3, t_3, k2_3, rfl, N3, Kp4, G3_0, G3_1, G3_2, G3_3⟩
    | succ k ih =>
      intro n T L hk hn5 XL eL NL
      refine GoW.by (T' := T) (g' := (mkF m 12 #[.val (.ref a), .val (.int (Int32.ofNat A)), .val (.int (Int32.ofNat n))] [(.int (Int32.ofNat n))])) (fun t_ k_ => XS.iloadN XL.here hx rfl (hb hby d_prog_12_method_3_code_11) rfl k_) ?_
      refine GoW.by (T' := T) (g' := (mkF m 13 #[.val (.ref a), .val (.int (Int32.ofNat A)), .val (.int (Int32.ofNat n))] [(.int (Int32.ofNat A)), (.int (Int32.ofNat n))])) (fun t_ k_ => XS.iloadN XL.here hx rfl (hb hby d_prog_12_method_3_code_12) rfl k_) ?_
      refine GoW.by (T' := T) (g' := (mkF m 16 #[.val (.ref a), .val (.int (Int32.ofNat A)), .val (.int (Int32.ofNat n))] [])) (fun t_ k_ => XS.icmpNo XL.here hx rfl (hb hby d_prog_12_method_3_code_13) rfl (tlt (by rw [own_lt (by omega) (by omega)]; omega)).2.2.2 k_) ?_
      refine GoW.by (T' := T) (g' := (mkF m 17 #[.val (.ref a), .val (.int (Int32.ofNat A)), .val (.int (Int32.ofNat n))] [(.ref a)])) (fun t_ k_ => XS.aloadN XL.here hx rfl (hb hby d_prog_12_method_3_code_16) rfl rfl k_) ?_
      refine GoW.by (T' := T) (g' := (mkF m 18 #[.val (.ref a), .val (.int (Int32.ofNat A)), .val (.int (Int32.ofNat n))] [(.int (Int32.ofNat n)), (.ref a)])) (fun t_ k_ => XS.iloadN XL.here hx rfl (hb hby d_prog_12_method_3_code_17) rfl k_) ?_
      refine GoW.by (T' := T) (g' := (mkF m 19 #[.val (.ref a), .val (.int (Int32.ofNat A)), .val (.int (Int32.ofNat n))] [(.int (1 : Int32)), (.int (Int32.ofNat n)), (.ref a)])) (fun t_ k_ => XS.iconst XL.here hx rfl (hb hby d_prog_12_method_3_code_18) k_) ?_
      refine GoW.by (T' := T) (g' := (mkF m 20 #[.val (.ref a), .val (.int (Int32.ofNat A)), .val (.int (Int32.ofNat n))] [(.int ((Int32.ofNat n) - (1 : Int32))), (.ref a)])) (fun t_ k_ => XS.isub XL.here hx rfl (hb hby d_prog_12_method_3_code_19) rfl k_) ?_
      rw [show (1 : Int32) = Int32.ofNat 1 from rfl, own_sub (show 1 ≤ n by omega)]
      obtain ⟨cq5, kq5, q5a, q5b, q5c⟩ := isOf hZ eL P0
      obtain ⟨_, _, ⟨T5, L5, k5, n5⟩, -, X5, ⟨Lc5, hQ5, l5, y5, z5⟩, st5⟩ := XL.virtualBack hx (y := (⟨"java/lang/String", "charAt", "(I)C"⟩ : MethodName)) (z := (⟨"java/lang/String", "charAt", "(I)C"⟩ : MethodName)) hown (mvT hZ (hw _ (List.mem_of_getElem? (i := 54) rfl))) (mvT hZ (hw _ (List.mem_of_getElem? (i := 55) rfl))) (notFace_of_selects (args := #[]) (mvT hZ (hw _ (List.mem_of_getElem? (i := 57) rfl)))) (mvT hZ (hw _ (List.mem_of_getElem? (i := 57) rfl))) (mvT hZ (hw _ (List.mem_of_getElem? (i := 56) rfl))) (by decide) (StrChars.Road.chN (W := 0) hZ (own_wordsChN hw) (kI := 4) (hw _ (List.mem_of_getElem? (i := 9) rfl)) P0 P1 P2 P3 hcd hup (P13.ext X00.2) hCS (P15.ext X00.2) hSF (by rw [hlen]; decide) (i := (n - 1)) (by rw [hlen]; omega) (j := (Int32.ofNat (n - 1))) rfl (by decide) (by decide)) q5a q5c (g := (mkF m 20 #[.val (.ref a), .val (.int (Int32.ofNat A)), .val (.int (Int32.ofNat n))] [(.int (Int32.ofNat (n - 1))), (.ref a)])) rfl (by rw [hml]; rfl) (Steps.refl _) (argsL := [(.int (Int32.ofNat (n - 1)))]) (rest := []) (lenOf pd_0 rfl) rfl (by show 2 * 0 + _ ≤ _; exact Nat.le_of_eq rfl) (hb hby d_prog_12_method_3_code_20) (fun _ _ => ⟨rfl, eL, (by decide : 0 + 0 ≤ _), (by decide : 0 + 0 ≤ _)⟩)
      dsimp only [Pt.U, Pt.locs, Pt.cells, Pt.slots] at X5 l5 y5 z5 st5 hQ5
      subst l5 y5 z5
      obtain ⟨rfl, rfl, e5⟩ := hQ5
      have N5 := Fr.app NL (Fr.nil n0)
      refine GoW.by (T' := T5) (g' := (mkF m 23 #[.val (.ref a), .val (.int (Int32.ofNat A)), .val (.int (Int32.ofNat n))] [(.int (cs.getD (n - 1) 0))])) (fun t_ k_ => st5.trans k_) ?_
      have hrn := hrm (n - 1) (by omega) (by omega)
      obtain ⟨_, _, ⟨T6, L6, k6, n6⟩, -, X6, ⟨Lc6, hQ6, l6, y6, z6⟩, st6⟩ := Jvm.LawKit.callS X5 hx (y := (⟨"com/example/refledger/refledger/PublicKeyText", "isBlank", "(C)Z"⟩ : MethodName)) hown (mvT hZ (hw _ (List.mem_of_getElem? (i := 76) rfl))) (mvT hZ (hw _ (List.mem_of_getElem? (i := 77) rfl))) (mvT hZ (hw _ (List.mem_of_getElem? (i := 39) rfl))) (mvT hZ (hw _ (List.mem_of_getElem? (i := 78) rfl))) (by decide) (backOf (W := 0) (rm_blP l Z a0 hw [] (cs.getD (n - 1) 0) h0 n0 X00 ) hZ (hw _ (List.mem_of_getElem? (i := 78) rfl)) (hw _ (List.mem_of_getElem? (i := 39) rfl)) (by decide) (by decide)) (g := (mkF m 23 #[.val (.ref a), .val (.int (Int32.ofNat A)), .val (.int (Int32.ofNat n))] [(.int (cs.getD (n - 1) 0))])) rfl (by rw [hml]; rfl) (argsL := [(.int (cs.getD (n - 1) 0))]) (rest := []) (lenOf pd_2 rfl) rfl (by show 2 * 0 + _ ≤ _; exact Nat.le_of_eq rfl) (hb hby d_prog_12_method_3_code_23) (fun _ _ => ⟨rfl, e5, (by decide : 0 + 0 ≤ _), (by decide : 0 + 0 ≤ _)⟩)
      dsimp only [Pt.U, Pt.locs, Pt.cells, Pt.slots] at X6 l6 y6 z6 st6 hQ6
      subst l6 y6 z6
      obtain ⟨rfl, N6q, e6⟩ := hQ6
      have N6 := Fr.app N5 N6q
      refine GoW.by (T' := T6) (g' := (mkF m 26 #[.val (.ref a), .val (.int (Int32.ofNat A)), .val (.int (Int32.ofNat n))] [(.int (if own_bl (cs.getD (n - 1) 0) then 1 else 0))])) (fun t_ k_ => st6 _ k_) ?_
      by_cases hbk : own_bl (cs.getD (n - 1) 0)
      · skip
        refine GoW.by (T' := T6) (g' := (mkF m 41 #[.val (.ref a), .val (.int (Int32.ofNat A)), .val (.int (Int32.ofNat n))] [])) (fun t_ k_ => XS.ifYes X6.here hx rfl (pc0 := 26) (pc' := 41) rfl (hb hby d_prog_12_method_3_code_26) rfl ((if0 _ _).trans (feq (by rw [if_pos hbk]; decide)).2) (by decide) (by decide) k_) ?_
        refine GoW.by (T' := T6) (g' := (mkF m 44 #[.val (.ref a), .val (.int (Int32.ofNat A)), .val (.int ((Int32.ofNat n) + (-1 : Int32)))] [])) (fun t_ k_ => XS.iinc X6.here hx rfl (hb hby d_prog_12_method_3_code_41) rfl (l' := #[.val (.ref a), .val (.int (Int32.ofNat A)), .val (.int ((Int32.ofNat n) + (-1 : Int32)))]) rfl k_) ?_
        refine GoW.by (T' := T6) (g' := (mkF m 11 #[.val (.ref a), .val (.int (Int32.ofNat A)), .val (.int ((Int32.ofNat n) + (-1 : Int32)))] [])) (fun t_ k_ => XS.goto X6.here hx rfl (pc0 := 44) (pc' := 11) rfl (hb hby d_prog_12_method_3_code_44) (by decide) (by decide) k_) ?_
        rw [show Int32.ofNat n + (-1 : Int32) = Int32.ofNat (n - 1) from own_dec (by omega)]
        exact ih (n - 1) (by omega) (by omega) X6 e6 N6
      · skip
        refine GoW.by (T' := T6) (g' := (mkF m 29 #[.val (.ref a), .val (.int (Int32.ofNat A)), .val (.int (Int32.ofNat n))] [])) (fun t_ k_ => XS.ifNo X6.here hx rfl (hb hby d_prog_12_method_3_code_26) rfl ((if0 _ _).trans (teq (if_neg hbk)).2) k_) ?_
        refine GoW.by (T' := T6) (g' := (mkF m 30 #[.val (.ref a), .val (.int (Int32.ofNat A)), .val (.int (Int32.ofNat n))] [(.ref a)])) (fun t_ k_ => XS.aloadN X6.here hx rfl (hb hby d_prog_12_method_3_code_29) rfl rfl k_) ?_
        refine GoW.by (T' := T6) (g' := (mkF m 31 #[.val (.ref a), .val (.int (Int32.ofNat A)), .val (.int (Int32.ofNat n))] [(.int (Int32.ofNat n)), (.ref a)])) (fun t_ k_ => XS.iloadN X6.here hx rfl (hb hby d_prog_12_method_3_code_30) rfl k_) ?_
        refine GoW.by (T' := T6) (g' := (mkF m 32 #[.val (.ref a), .val (.int (Int32.ofNat A)), .val (.int (Int32.ofNat n))] [(.int (1 : Int32)), (.int (Int32.ofNat n)), (.ref a)])) (fun t_ k_ => XS.iconst X6.here hx rfl (hb hby d_prog_12_method_3_code_31) k_) ?_
        refine GoW.by (T' := T6) (g' := (mkF m 33 #[.val (.ref a), .val (.int (Int32.ofNat A)), .val (.int (Int32.ofNat n))] [(.int ((Int32.ofNat n) - (1 : Int32))), (.ref a)])) (fun t_ k_ => XS.isub X6.here hx rfl (hb hby d_prog_12_method_3_code_32) rfl k_) ?_
        rw [show (1 : Int32) = Int32.ofNat 1 from rfl, own_sub (show 1 ≤ n by omega)]
        obtain ⟨cq7, kq7, q7a, q7b, q7c⟩ := isOf hZ e6 P0
        obtain ⟨_, _, ⟨T7, L7, k7, n7⟩, -, X7, ⟨Lc7, hQ7, l7, y7, z7⟩, st7⟩ := X6.virtualBack hx (y := (⟨"java/lang/String", "charAt", "(I)C"⟩ : MethodName)) (z := (⟨"java/lang/String", "charAt", "(I)C"⟩ : MethodName)) hown (mvT hZ (hw _ (List.mem_of_getElem? (i := 54) rfl))) (mvT hZ (hw _ (List.mem_of_getElem? (i := 55) rfl))) (notFace_of_selects (args := #[]) (mvT hZ (hw _ (List.mem_of_getElem? (i := 57) rfl)))) (mvT hZ (hw _ (List.mem_of_getElem? (i := 57) rfl))) (mvT hZ (hw _ (List.mem_of_getElem? (i := 56) rfl))) (by decide) (StrChars.Road.chN (W := 0) hZ (own_wordsChN hw) (kI := 4) (hw _ (List.mem_of_getElem? (i := 9) rfl)) P0 P1 P2 P3 hcd hup (P13.ext X00.2) hCS (P15.ext X00.2) hSF (by rw [hlen]; decide) (i := (n - 1)) (by rw [hlen]; omega) (j := (Int32.ofNat (n - 1))) rfl (by decide) (by decide)) q7a q7c (g := (mkF m 33 #[.val (.ref a), .val (.int (Int32.ofNat A)), .val (.int (Int32.ofNat n))] [(.int (Int32.ofNat (n - 1))), (.ref a)])) rfl (by rw [hml]; rfl) (Steps.refl _) (argsL := [(.int (Int32.ofNat (n - 1)))]) (rest := []) (lenOf pd_0 rfl) rfl (by show 2 * 0 + _ ≤ _; exact Nat.le_of_eq rfl) (hb hby d_prog_12_method_3_code_33) (fun _ _ => ⟨rfl, e6, (by decide : 0 + 0 ≤ _), (by decide : 0 + 0 ≤ _)⟩)
        dsimp only [Pt.U, Pt.locs, Pt.cells, Pt.slots] at X7 l7 y7 z7 st7 hQ7
        subst l7 y7 z7
        obtain ⟨rfl, rfl, e7⟩ := hQ7
        have N7 := Fr.app N6 (Fr.nil n0)
        refine GoW.by (T' := T7) (g' := (mkF m 36 #[.val (.ref a), .val (.int (Int32.ofNat A)), .val (.int (Int32.ofNat n))] [(.int (cs.getD (n - 1) 0))])) (fun t_ k_ => st7.trans k_) ?_
        refine GoW.by (T' := T7) (g' := (mkF m 38 #[.val (.ref a), .val (.int (Int32.ofNat A)), .val (.int (Int32.ofNat n))] [(.int (13 : Int32)), (.int (cs.getD (n - 1) 0))])) (fun t_ k_ => XS.bipush X7.here hx rfl (hb hby d_prog_12_method_3_code_36) k_) ?_
        refine GoW.by (T' := T7) (g' := (mkF m 41 #[.val (.ref a), .val (.int (Int32.ofNat A)), .val (.int (Int32.ofNat n))] [])) (fun t_ k_ => XS.icmpNo X7.here hx rfl (hb hby d_prog_12_method_3_code_38) rfl (teq (hrn.elim (fun q => absurd (Or.inl q) hbk) (fun q => q.elim (fun q => absurd (Or.inr q) hbk) id))).2 k_) ?_
        refine GoW.by (T' := T7) (g' := (mkF m 44 #[.val (.ref a), .val (.int (Int32.ofNat A)), .val (.int ((Int32.ofNat n) + (-1 : Int32)))] [])) (fun t_ k_ => XS.iinc X7.here hx rfl (hb hby d_prog_12_method_3_code_41) rfl (l' := #[.val (.ref a), .val (.int (Int32.ofNat A)), .val (.int ((Int32.ofNat n) + (-1 : Int32)))]) rfl k_) ?_
        refine GoW.by (T' := T7) (g' := (mkF m 11 #[.val (.ref a), .val (.int (Int32.ofNat A)), .val (.int ((Int32.ofNat n) + (-1 : Int32)))] [])) (fun t_ k_ => XS.goto X7.here hx rfl (pc0 := 44) (pc' := 11) rfl (hb hby d_prog_12_method_3_code_44) (by decide) (by decide) k_) ?_
        rw [show Int32.ofNat n + (-1 : Int32) = Int32.ofNat (n - 1) from own_dec (by omega)]
        exact ih (n - 1) (by omega) (by omega) X7 e7 N7
  exact LP (5 - E) 5 (by omega) (by omega) X2 e2 N2
def Q_same (Z : State) (r : Addr) (t : Addr) (k2 : ClassId) (rs : List Int32) (sa : Addr) (kc : ClassId) (cs : List Int32) (i : Int32) (iN : Nat) (A : Nat) (kN : Nat) (G1 : Int32) (G3 : Value) (h0 : Heap) (n0 : Nat) (v : Option Value) (h : Heap) (L : List Loc) : Prop := v = some (.int 1) ∧ Fr n0 L ∧ h = h0
theorem ef_same (m : MethodId) (r : Addr) (i : Int32) (sa : Addr) : entryFrame m #[(.ref r), (.int i), (.int (Int32.ofNat kN)), (.ref sa), (.int (Int32.ofNat A))] 5 = mkF m 0 #[.val (.ref r), .val (.int i), .val (.int (Int32.ofNat kN)), .val (.ref sa), .val (.int (Int32.ofNat A))] [] := by first | (simp [entryFrame, mkF, argsToLocals, Value.category]; done) | rfl
theorem d_method_3_code_0 : decode method_3_code 0 = .ok (.iload_n 1, 1) := by decide +kernel
theorem d_method_3_code_1 : decode method_3_code 1 = .ok (.iload_n 2, 1) := by decide +kernel
theorem d_method_3_code_2 : decode method_3_code 2 = .ok (.if_icmp .ge 17, 3) := by decide +kernel
theorem d_method_3_code_5 : decode method_3_code 5 = .ok (.aload_n 0, 1) := by decide +kernel
theorem d_method_3_code_6 : decode method_3_code 6 = .ok (.iload_n 1, 1) := by decide +kernel
theorem d_method_3_code_7 : decode method_3_code 7 = .ok (.invokevirtual 40, 3) := by decide +kernel
theorem d_method_3_code_10 : decode method_3_code 10 = .ok (.aload_n 3, 1) := by decide +kernel
theorem d_method_3_code_11 : decode method_3_code 11 = .ok (.iload 4, 2) := by decide +kernel
theorem d_method_3_code_13 : decode method_3_code 13 = .ok (.iload_n 1, 1) := by decide +kernel
theorem d_method_3_code_14 : decode method_3_code 14 = .ok (.iadd, 1) := by decide +kernel
theorem d_method_3_code_15 : decode method_3_code 15 = .ok (.caload, 1) := by decide +kernel
theorem d_method_3_code_16 : decode method_3_code 16 = .ok (.if_icmp .ne 7, 3) := by decide +kernel
theorem d_method_3_code_19 : decode method_3_code 19 = .ok (.iconst 1, 1) := by decide +kernel
theorem d_method_3_code_20 : decode method_3_code 20 = .ok (.goto 4, 3) := by decide +kernel
theorem d_method_3_code_24 : decode method_3_code 24 = .ok (.ireturn, 1) := by decide +kernel
set_option maxRecDepth 65536 in
set_option maxHeartbeats 40000000 in
theorem rm_same (l : Launch) (Z : State) (a0 : Array Value) (hw : ∀ d ∈ tables_1, d.before a0 Z = true) (ws : List Jvm.Cond) (r : Addr) (t : Addr) (k2 : ClassId) (rs : List Int32) (sa : Addr) (kc : ClassId) (cs : List Int32) (i : Int32) (iN : Nat) (A : Nat) (kN : Nat) (G1 : Int32) (G3 : Value) (h0 : Heap) (n0 : Nat) (X00 : Old Z n0 h0) (P0 : Exa Z h0 r "java/lang/String") (P1 : Fld Z h0 r "java/lang/String" "value" "[B" (.ref t)) (P2 : Fld Z h0 r "java/lang/String" "coder" "B" (.int (0 : Int32))) (P3 : Arv Z h0 t k2 .byte (Int32.ofNat kN) ((rs.map (fun c => c.toInt8.toInt32)).map Value.int) (.int (0 : Int32))) (P4 : Arv Z h0 sa kc .char (5 : Int32) (cs.map Value.int) (.int (0 : Int32))) (hlen : cs.length = 5) (hrp : ∀ c ∈ rs, ¬ c < 0 ∧ ¬ (255 : Int32) < c) (hrl : rs.length = kN) (hi : i = Int32.ofNat iN) (hi4 : iN ≤ 4) (hk5 : A + kN ≤ 5) (hsm : ∀ i, i < kN → rs.getD i 0 = cs.getD (A + i) 0) (P12 : Sta Z Z.heap "java/lang/String" "COMPACT_STRINGS" "Z" (.int G1)) (hCS : ¬ (G1 = (0 : Int32))) (P14 : Sta Z Z.heap "jdk/internal/util/Preconditions" "SIOOBE_FORMATTER" "Ljava/util/function/BiFunction;" G3) (hSF : G3.isRef = true) :
    MetFree l (⟨"com/example/refledger/refledger/PublicKeyTextTrimPinLaw", "same", "(Ljava/lang/String;II[CI)Z"⟩ : MethodName) (head1 (Jvm.Cond.code (⟨"com/example/refledger/refledger/PublicKeyTextTrimPinLaw", "same", "(Ljava/lang/String;II[CI)Z"⟩ : MethodName) method_3_code 5 (some .boolean) :: ws) ({ frames := 4, cells := 0, slots := 0, locals := 60 } : Room)) (fun aa_ U => aa_ = #[(.ref r), (.int i), (.int (Int32.ofNat kN)), (.ref sa), (.int (Int32.ofNat A))] ∧ Z.Warmed39 U.vm ∧ U.heap = h0) (fun _ _ _ _ _ => True) (fun _ U o U' => ∃ v L, o = .returned v ∧ Q_same Z r t k2 rs sa kc cs i iN A kN G1 G3 h0 n0 v U'.heap L ∧ FrameEnd U o U' L ({ frames := 4, cells := 0, slots := 0, locals := 60 } : Room).cells ({ frames := 4, cells := 0, slots := 0, locals := 60 } : Room).slots) := by
  refine MetFree.of_bodySF (plainFor_of_name pn_0) hisR ?_
  intro p e s m args below meth c s₁ Bd hml0 hP hK
  obtain ⟨rfl, hZ, hh⟩ := hP
  have hx := Bd.exec
  have hby := Bd.bytes
  have hml : c.maxLocals = 5 := hml0
  have hown : s.vm.findClass "com/example/refledger/refledger/PublicKeyTextTrimPinLaw" = some m.cls := findClass_of_methodNamed Bd.named
  have hnm := (name_of_methodNamed Bd.named Bd.method).1
  have hlk : meth.locks = false := BodyLoose.notSynchronized Bd
  have X0 : Stand p l e ({ frames := 4, cells := 0, slots := 0, locals := 60 } : Room) s m #[(.ref r), (.int i), (.int (Int32.ofNat kN)), (.ref sa), (.int (Int32.ofNat A))] below meth c s₁ [] 0 0 := Stand.of_body Bd
  have e0 : s₁.heap = h0 := by rw [← hh, Bd.state]; rfl
  have N0 := Fr.nil n0
  suffices G : Go p e below s (Q_same Z r t k2 rs sa kc cs i iN A kN G1 G3 h0 n0) 0 0 s₁ (mkF m 0 #[.val (.ref r), .val (.int i), .val (.int (Int32.ofNat kN)), .val (.ref sa), .val (.int (Int32.ofNat A))] []) by
    obtain ⟨s2, o, h1, h2⟩ := G
    exact ⟨s2, o, castTop (ef_same m r i sa) h1, h2⟩
  have hcd : StrChars.Road.CodA rs 0 (Int32.ofNat kN) ((rs.map (fun c => c.toInt8.toInt32)).map Value.int) := StrChars.Road.codOf (n := kN) hrl (fun x hx => (hrp x hx).2)
  have hup := own_up rs hrp
  refine Go.by (T' := s₁) (g' := (mkF m 1 #[.val (.ref r), .val (.int i), .val (.int (Int32.ofNat kN)), .val (.ref sa), .val (.int (Int32.ofNat A))] [(.int i)])) (fun t_ k_ => XS.iloadN X0.here hx rfl (hb hby d_method_3_code_0) rfl k_) ?_
  refine Go.by (T' := s₁) (g' := (mkF m 2 #[.val (.ref r), .val (.int i), .val (.int (Int32.ofNat kN)), .val (.ref sa), .val (.int (Int32.ofNat A))] [(.int (Int32.ofNat kN)), (.int i)])) (fun t_ k_ => XS.iloadN X0.here hx rfl (hb hby d_method_3_code_1) rfl k_) ?_
  by_cases hik : iN < kN
  · skip
    refine Go.by (T' := s₁) (g' := (mkF m 5 #[.val (.ref r), .val (.int i), .val (.int (Int32.ofNat kN)), .val (.ref sa), .val (.int (Int32.ofNat A))] [])) (fun t_ k_ => XS.icmpNo X0.here hx rfl (hb hby d_method_3_code_2) rfl (tlt (by rw [hi, own_lt (by omega) (by omega)]; exact hik)).2.1 k_) ?_
    refine Go.by (T' := s₁) (g' := (mkF m 6 #[.val (.ref r), .val (.int i), .val (.int (Int32.ofNat kN)), .val (.ref sa), .val (.int (Int32.ofNat A))] [(.ref r)])) (fun t_ k_ => XS.aloadN X0.here hx rfl (hb hby d_method_3_code_5) rfl rfl k_) ?_
    refine Go.by (T' := s₁) (g' := (mkF m 7 #[.val (.ref r), .val (.int i), .val (.int (Int32.ofNat kN)), .val (.ref sa), .val (.int (Int32.ofNat A))] [(.int i), (.ref r)])) (fun t_ k_ => XS.iloadN X0.here hx rfl (hb hby d_method_3_code_6) rfl k_) ?_
    obtain ⟨cq1, kq1, q1a, q1b, q1c⟩ := isOf hZ e0 P0
    obtain ⟨_, _, ⟨T1, L1, k1, n1⟩, -, X1, ⟨Lc1, hQ1, l1, y1, z1⟩, st1⟩ := X0.virtualBack hx (y := (⟨"java/lang/String", "charAt", "(I)C"⟩ : MethodName)) (z := (⟨"java/lang/String", "charAt", "(I)C"⟩ : MethodName)) hown (mvT hZ (hw _ (List.mem_of_getElem? (i := 95) rfl))) (mvT hZ (hw _ (List.mem_of_getElem? (i := 55) rfl))) (notFace_of_selects (args := #[]) (mvT hZ (hw _ (List.mem_of_getElem? (i := 57) rfl)))) (mvT hZ (hw _ (List.mem_of_getElem? (i := 57) rfl))) (mvT hZ (hw _ (List.mem_of_getElem? (i := 56) rfl))) (by decide) (StrChars.Road.chN (W := 0) hZ (own_wordsChN hw) (kI := 4) (hw _ (List.mem_of_getElem? (i := 9) rfl)) P0 P1 P2 P3 hcd hup (P12.ext X00.2) hCS (P14.ext X00.2) hSF (by rw [hrl]; omega) (i := iN) (by rw [hrl]; exact hik) (j := i) hi (by decide) (by decide)) q1a q1c (g := (mkF m 7 #[.val (.ref r), .val (.int i), .val (.int (Int32.ofNat kN)), .val (.ref sa), .val (.int (Int32.ofNat A))] [(.int i), (.ref r)])) rfl (by rw [hml]; rfl) (Steps.refl _) (argsL := [(.int i)]) (rest := []) (lenOf pd_0 rfl) rfl (by show 2 * 0 + _ ≤ _; exact Nat.le_of_eq rfl) (hb hby d_method_3_code_7) (fun _ _ => ⟨rfl, e0, (by decide : 0 + 0 ≤ _), (by decide : 0 + 0 ≤ _)⟩)
    dsimp only [Pt.U, Pt.locs, Pt.cells, Pt.slots] at X1 l1 y1 z1 st1 hQ1
    subst l1 y1 z1
    obtain ⟨rfl, rfl, e1⟩ := hQ1
    have N1 := Fr.app N0 (Fr.nil n0)
    refine Go.by (T' := T1) (g' := (mkF m 10 #[.val (.ref r), .val (.int i), .val (.int (Int32.ofNat kN)), .val (.ref sa), .val (.int (Int32.ofNat A))] [(.int (rs.getD iN 0))])) (fun t_ k_ => st1.trans k_) ?_
    refine Go.by (T' := T1) (g' := (mkF m 11 #[.val (.ref r), .val (.int i), .val (.int (Int32.ofNat kN)), .val (.ref sa), .val (.int (Int32.ofNat A))] [(.ref sa), (.int (rs.getD iN 0))])) (fun t_ k_ => XS.aloadN X1.here hx rfl (hb hby d_method_3_code_10) rfl rfl k_) ?_
    refine Go.by (T' := T1) (g' := (mkF m 13 #[.val (.ref r), .val (.int i), .val (.int (Int32.ofNat kN)), .val (.ref sa), .val (.int (Int32.ofNat A))] [(.int (Int32.ofNat A)), (.ref sa), (.int (rs.getD iN 0))])) (fun t_ k_ => XS.iload X1.here hx rfl (hb hby d_method_3_code_11) rfl k_) ?_
    refine Go.by (T' := T1) (g' := (mkF m 14 #[.val (.ref r), .val (.int i), .val (.int (Int32.ofNat kN)), .val (.ref sa), .val (.int (Int32.ofNat A))] [(.int i), (.int (Int32.ofNat A)), (.ref sa), (.int (rs.getD iN 0))])) (fun t_ k_ => XS.iloadN X1.here hx rfl (hb hby d_method_3_code_13) rfl k_) ?_
    refine Go.by (T' := T1) (g' := (mkF m 15 #[.val (.ref r), .val (.int i), .val (.int (Int32.ofNat kN)), .val (.ref sa), .val (.int (Int32.ofNat A))] [(.int ((Int32.ofNat A) + i)), (.ref sa), (.int (rs.getD iN 0))])) (fun t_ k_ => XS.iadd X1.here hx rfl (hb hby d_method_3_code_14) rfl k_) ?_
    rw [hi, own_add]
    obtain ⟨cl2, Ar2, q2, Sz2, Ng2, Hs2, Gs2⟩ := id P4
    have in2 := inb_of (j := (Int32.ofNat (A + iN))) Sz2 ⟨own_nn (by omega), by rw [show (5 : Int32) = Int32.ofNat 5 from rfl, own_lt (by omega) (by omega)]; omega⟩
    refine Go.by (T' := T1) (g' := (mkF m 16 #[.val (.ref r), .val (.int (Int32.ofNat iN)), .val (.int (Int32.ofNat kN)), .val (.ref sa), .val (.int (Int32.ofNat A))] [(.int (cs.getD (A + iN) 0)), (.int (rs.getD iN 0))])) (fun t_ k_ => X1.caload hx (j := (Int32.ofNat (A + iN))) (v := (.int (cs.getD (A + iN) 0))) (by rw [e1]; exact Ar2.1) (State.isArrayOf_alike hZ.alike Ar2.2.1) Ar2.2.2 in2 (Hs2.at in2 (by rw [own_nat (by omega)]; exact own_vals (by rw [hlen]; omega))) (g := (mkF m 15 #[.val (.ref r), .val (.int (Int32.ofNat iN)), .val (.int (Int32.ofNat kN)), .val (.ref sa), .val (.int (Int32.ofNat A))] [(.int (Int32.ofNat (A + iN))), (.ref sa), (.int (rs.getD iN 0))])) rfl rfl (hb hby d_method_3_code_15) _ k_) ?_
    refine Go.by (T' := T1) (g' := (mkF m 19 #[.val (.ref r), .val (.int (Int32.ofNat iN)), .val (.int (Int32.ofNat kN)), .val (.ref sa), .val (.int (Int32.ofNat A))] [])) (fun t_ k_ => XS.icmpNo X1.here hx rfl (hb hby d_method_3_code_16) rfl (teq (hsm iN hik)).2 k_) ?_
    refine Go.by (T' := T1) (g' := (mkF m 20 #[.val (.ref r), .val (.int (Int32.ofNat iN)), .val (.int (Int32.ofNat kN)), .val (.ref sa), .val (.int (Int32.ofNat A))] [(.int (1 : Int32))])) (fun t_ k_ => XS.iconst X1.here hx rfl (hb hby d_method_3_code_19) k_) ?_
    refine Go.by (T' := T1) (g' := (mkF m 24 #[.val (.ref r), .val (.int (Int32.ofNat iN)), .val (.int (Int32.ofNat kN)), .val (.ref sa), .val (.int (Int32.ofNat A))] [(.int (1 : Int32))])) (fun t_ k_ => XS.goto X1.here hx rfl (pc0 := 20) (pc' := 24) rfl (hb hby d_method_3_code_20) (by decide) (by decide) k_) ?_
    refine Go.fin X1 (v := some (.int (nar .boolean (1 : Int32)))) (fun h => by rw [Bd.returns] at h; cases h) hlk (by decide) (by decide) ?_ (fun fs hr => retN X1 hx (t := .boolean) Bd.returns (by simp) (hb hby d_method_3_code_24) hr)
    show Q_same Z r t k2 rs sa kc cs i iN A kN G1 G3 h0 n0 _ T1.heap _
    rw [e1]
    exact ⟨rfl, N1, rfl⟩
  · skip
    refine Go.by (T' := s₁) (g' := (mkF m 19 #[.val (.ref r), .val (.int i), .val (.int (Int32.ofNat kN)), .val (.ref sa), .val (.int (Int32.ofNat A))] [])) (fun t_ k_ => XS.icmpYes X0.here hx rfl (pc0 := 2) (pc' := 19) rfl (hb hby d_method_3_code_2) rfl (flt (by rw [hi, own_lt (by omega) (by omega)]; exact hik)).2.1 (by decide) (by decide) k_) ?_
    refine Go.by (T' := s₁) (g' := (mkF m 20 #[.val (.ref r), .val (.int i), .val (.int (Int32.ofNat kN)), .val (.ref sa), .val (.int (Int32.ofNat A))] [(.int (1 : Int32))])) (fun t_ k_ => XS.iconst X0.here hx rfl (hb hby d_method_3_code_19) k_) ?_
    refine Go.by (T' := s₁) (g' := (mkF m 24 #[.val (.ref r), .val (.int i), .val (.int (Int32.ofNat kN)), .val (.ref sa), .val (.int (Int32.ofNat A))] [(.int (1 : Int32))])) (fun t_ k_ => XS.goto X0.here hx rfl (pc0 := 20) (pc' := 24) rfl (hb hby d_method_3_code_20) (by decide) (by decide) k_) ?_
    refine Go.fin X0 (v := some (.int (nar .boolean (1 : Int32)))) (fun h => by rw [Bd.returns] at h; cases h) hlk (by decide) (by decide) ?_ (fun fs hr => retN X0 hx (t := .boolean) Bd.returns (by simp) (hb hby d_method_3_code_24) hr)
    show Q_same Z r t k2 rs sa kc cs i iN A kN G1 G3 h0 n0 _ s₁.heap _
    rw [e0]
    exact ⟨rfl, N0, rfl⟩
def Q_emp (Z : State) (a : Addr) (t : Addr) (k2 : ClassId) (h0 : Heap) (n0 : Nat) (v : Option Value) (h : Heap) (L : List Loc) : Prop := v = some (.int 1) ∧ Fr n0 L ∧ h = h0
theorem ef_emp (m : MethodId) (a : Addr) : entryFrame m #[(.ref a)] 1 = mkF m 0 #[.val (.ref a)] [] := by first | (simp [entryFrame, mkF, argsToLocals, Value.category]; done) | rfl
theorem d_jdk_42_method_55_code_0 : decode jdk_42_method_55_code 0 = .ok (.aload_n 0, 1) := by decide +kernel
theorem d_jdk_42_method_55_code_1 : decode jdk_42_method_55_code 1 = .ok (.getfield 9, 3) := by decide +kernel
theorem d_jdk_42_method_55_code_4 : decode jdk_42_method_55_code 4 = .ok (.arraylength, 1) := by decide +kernel
theorem d_jdk_42_method_55_code_5 : decode jdk_42_method_55_code 5 = .ok (.ifCond .ne 7, 3) := by decide +kernel
theorem d_jdk_42_method_55_code_8 : decode jdk_42_method_55_code 8 = .ok (.iconst 1, 1) := by decide +kernel
theorem d_jdk_42_method_55_code_9 : decode jdk_42_method_55_code 9 = .ok (.goto 4, 3) := by decide +kernel
theorem d_jdk_42_method_55_code_13 : decode jdk_42_method_55_code 13 = .ok (.ireturn, 1) := by decide +kernel
set_option maxRecDepth 65536 in
set_option maxHeartbeats 40000000 in
theorem rm_emp (l : Launch) (Z : State) (a0 : Array Value) (hw : ∀ d ∈ tables_1, d.before a0 Z = true) (ws : List Jvm.Cond) (a : Addr) (t : Addr) (k2 : ClassId) (h0 : Heap) (n0 : Nat) (X00 : Old Z n0 h0) (P0 : Fld Z h0 a "java/lang/String" "value" "[B" (.ref t)) (P1 : Arv Z h0 t k2 .byte (0 : Int32) [] (.int (0 : Int32))) :
    MetFree l (⟨"java/lang/String", "isEmpty", "()Z"⟩ : MethodName) (head1 (Jvm.Cond.code (⟨"java/lang/String", "isEmpty", "()Z"⟩ : MethodName) jdk_42_method_55_code 1 (some .boolean) :: ws) ({ frames := 0, cells := 0, slots := 0, locals := 0 } : Room)) (fun aa_ U => aa_ = #[(.ref a)] ∧ Z.Warmed39 U.vm ∧ U.heap = h0) (fun _ _ _ _ _ => True) (fun _ U o U' => ∃ v L, o = .returned v ∧ Q_emp Z a t k2 h0 n0 v U'.heap L ∧ FrameEnd U o U' L ({ frames := 0, cells := 0, slots := 0, locals := 0 } : Room).cells ({ frames := 0, cells := 0, slots := 0, locals := 0 } : Room).slots) := by
  refine MetFree.of_bodySF (plainFor_of_name pn_2) hisR ?_
  intro p e s m args below meth c s₁ Bd hml0 hP hK
  obtain ⟨rfl, hZ, hh⟩ := hP
  have hx := Bd.exec
  have hby := Bd.bytes
  have hml : c.maxLocals = 1 := hml0
  have hown : s.vm.findClass "java/lang/String" = some m.cls := findClass_of_methodNamed Bd.named
  have hnm := (name_of_methodNamed Bd.named Bd.method).1
  have hlk : meth.locks = false := BodyLoose.notSynchronized Bd
  have X0 : Stand p l e ({ frames := 0, cells := 0, slots := 0, locals := 0 } : Room) s m #[(.ref a)] below meth c s₁ [] 0 0 := Stand.of_body Bd
  have e0 : s₁.heap = h0 := by rw [← hh, Bd.state]; rfl
  have N0 := Fr.nil n0
  suffices G : Go p e below s (Q_emp Z a t k2 h0 n0) 0 0 s₁ (mkF m 0 #[.val (.ref a)] []) by
    obtain ⟨s2, o, h1, h2⟩ := G
    exact ⟨s2, o, castTop (ef_emp m a) h1, h2⟩
  refine Go.by (T' := s₁) (g' := (mkF m 1 #[.val (.ref a)] [(.ref a)])) (fun t_ k_ => XS.aloadN X0.here hx rfl (hb hby d_jdk_42_method_55_code_0) rfl rfl k_) ?_
  obtain ⟨T1, X1, e1, st1⟩ := getF X0 hx hZ hown (host := "") (Or.inl (hw _ (List.mem_of_getElem? (i := 35) rfl))) Via.refl e0 P0 (g := (mkF m 1 #[.val (.ref a)] [(.ref a)])) rfl rfl (hb hby d_jdk_42_method_55_code_1)
  refine Go.by (T' := T1) (g' := (mkF m 4 #[.val (.ref a)] [(.ref t)])) (fun t_ k_ => st1 _ k_) ?_
  obtain ⟨cl2, Ar2, -, Sz2, Ng2, -, -⟩ := id P1
  refine Go.by (T' := T1) (g' := (mkF m 5 #[.val (.ref a)] [(.int (0 : Int32))])) (fun t_ k_ => X1.arraylength hx (by rw [e1]; exact Ar2.1) (State.isArrayOf_alike hZ.alike Ar2.2.1) (g := (mkF m 4 #[.val (.ref a)] [(.ref t)])) rfl rfl (hb hby d_jdk_42_method_55_code_4) _ (by rw [len_of Sz2 Ng2]; exact k_)) ?_
  refine Go.by (T' := T1) (g' := (mkF m 8 #[.val (.ref a)] [])) (fun t_ k_ => XS.ifNo X1.here hx rfl (hb hby d_jdk_42_method_55_code_5) rfl ((if0 _ _).trans (teq rfl).2) k_) ?_
  refine Go.by (T' := T1) (g' := (mkF m 9 #[.val (.ref a)] [(.int (1 : Int32))])) (fun t_ k_ => XS.iconst X1.here hx rfl (hb hby d_jdk_42_method_55_code_8) k_) ?_
  refine Go.by (T' := T1) (g' := (mkF m 13 #[.val (.ref a)] [(.int (1 : Int32))])) (fun t_ k_ => XS.goto X1.here hx rfl (pc0 := 9) (pc' := 13) rfl (hb hby d_jdk_42_method_55_code_9) (by decide) (by decide) k_) ?_
  refine Go.fin X1 (v := some (.int (nar .boolean (1 : Int32)))) (fun h => by rw [Bd.returns] at h; cases h) hlk (by decide) (by decide) ?_ (fun fs hr => retN X1 hx (t := .boolean) Bd.returns (by simp) (hb hby d_jdk_42_method_55_code_13) hr)
  show Q_emp Z a t k2 h0 n0 _ T1.heap _
  rw [e1]
  exact ⟨rfl, N0, rfl⟩
def Q_law (Z : State) (x0 : Int32) (x1 : Int32) (x2 : Int32) (x3 : Int32) (x4 : Int32) (x5 : Int32) (G1 : Int32) (G3 : Value) (h0 : Heap) (n0 : Nat) (v : Option Value) (h : Heap) (L : List Loc) : Prop := v = some (.int 1) ∧ Fr n0 L
theorem ef_law (m : MethodId) (x0 : Int32) (x1 : Int32) (x2 : Int32) (x3 : Int32) (x4 : Int32) (x5 : Int32) : entryFrame m #[(.int x0), (.int x1), (.int x2), (.int x3), (.int x4), (.int x5)] maxLocals = mkF m 0 #[.val (.int x0), .val (.int x1), .val (.int x2), .val (.int x3), .val (.int x4), .val (.int x5), .unset, .unset, .unset, .unset, .unset, .unset] [] := by first | (simp [entryFrame, mkF, argsToLocals, Value.category, maxLocals]; done) | rfl
theorem pd_13 : parseMethodDescriptor "(IIIZI)C" = some ⟨[.int, .int, .int, .boolean, .int], some .char⟩ := by decide +kernel
theorem pd_14 : parseMethodDescriptor "([C)V" = some ⟨[(.array .char)], none⟩ := by decide +kernel
theorem pd_15 : parseMethodDescriptor "(Ljava/lang/String;)Ljava/lang/String;" = some ⟨[(.object "java/lang/String")], some (.object "java/lang/String")⟩ := by decide +kernel
theorem pd_16 : parseMethodDescriptor "(Ljava/lang/String;II[CI)Z" = some ⟨[(.object "java/lang/String"), .int, .int, (.array .char), .int], some .boolean⟩ := by decide +kernel
set_option maxRecDepth 65536 in
set_option maxHeartbeats 40000000 in
theorem rm_law (l : Launch) (Z : State) (a0 : Array Value) (hw : ∀ d ∈ tables_1, d.before a0 Z = true) (ws : List Jvm.Cond) (x0 : Int32) (x1 : Int32) (x2 : Int32) (x3 : Int32) (x4 : Int32) (x5 : Int32) (G1 : Int32) (G3 : Value) (h0 : Heap) (n0 : Nat) (X00 : Old Z n0 h0) (P0 : Sta Z Z.heap "java/lang/String" "COMPACT_STRINGS" "Z" (.int G1)) (hCS : ¬ (G1 = (0 : Int32))) (P2 : Sta Z Z.heap "jdk/internal/util/Preconditions" "SIOOBE_FORMATTER" "Ljava/util/function/BiFunction;" G3) (hSF : G3.isRef = true) (hheld : Jvm.Lit.constHeld Z "java/lang/StringLatin1" 151) (hcw : Jvm.Lit.compactW.before a0 Z = true) :
    MetFree l x (head1 (Jvm.Cond.code x code maxLocals ret :: ws) room_1) (fun aa_ U => aa_ = #[(.int x0), (.int x1), (.int x2), (.int x3), (.int x4), (.int x5)] ∧ Z.Warmed39 U.vm ∧ U.heap = h0 ∧ IB Z U.vm []) (fun _ _ _ _ _ => True) (fun _ U o U' => ∃ v L, o = .returned v ∧ Q_law Z x0 x1 x2 x3 x4 x5 G1 G3 h0 n0 v U'.heap L ∧ ReturnedEndW U o U' L 24 1152) := by
  refine MetFree.of_bodySF (plainFor_of_name pn_0) hisR ?_
  intro p e s m args below meth c s₁ Bd hml0 hP hK
  obtain ⟨rfl, hZ, hh, hI⟩ := hP
  have hx := Bd.exec
  have hby := Bd.bytes
  have hml : c.maxLocals = 12 := hml0
  have hown : s.vm.findClass "com/example/refledger/refledger/PublicKeyTextTrimPinLaw" = some m.cls := findClass_of_methodNamed Bd.named
  have hnm := (name_of_methodNamed Bd.named Bd.method).1
  have hlk : meth.locks = false := BodyLoose.notSynchronized Bd
  have X0 : Stand p l e room_1 s m #[(.int x0), (.int x1), (.int x2), (.int x3), (.int x4), (.int x5)] below meth c s₁ [] 0 0 := Stand.of_body Bd
  have e0 : s₁.heap = h0 := by rw [← hh, Bd.state]; rfl
  have N0 := Fr.nil n0
  suffices G : GoW p e below s (Q_law Z x0 x1 x2 x3 x4 x5 G1 G3 h0 n0) 24 1152 s₁ (mkF m 0 #[.val (.int x0), .val (.int x1), .val (.int x2), .val (.int x3), .val (.int x4), .val (.int x5), .unset, .unset, .unset, .unset, .unset, .unset] []) by
    obtain ⟨s2, o, h1, h2⟩ := G
    exact ⟨s2, o, castTop (ef_law m x0 x1 x2 x3 x4 x5) h1, h2⟩
  have hS : s.Since s.vm 0 := (State.WarmedH.refl s).since 0
  refine GoW.by (T' := s₁) (g' := (mkF m 1 #[.val (.int x0), .val (.int x1), .val (.int x2), .val (.int x3), .val (.int x4), .val (.int x5), .unset, .unset, .unset, .unset, .unset, .unset] [(.int x0)])) (fun t_ k_ => XS.iloadN X0.here hx rfl (hb hby at_0) rfl k_) ?_
  refine GoW.by (T' := s₁) (g' := (mkF m 2 #[.val (.int x0), .val (.int x1), .val (.int x2), .val (.int x3), .val (.int x4), .val (.int x5), .unset, .unset, .unset, .unset, .unset, .unset] [(.int (3 : Int32)), (.int x0)])) (fun t_ k_ => XS.iconst X0.here hx rfl (hb hby at_1) k_) ?_
  refine GoW.by (T' := s₁) (g' := (mkF m 3 #[.val (.int x0), .val (.int x1), .val (.int x2), .val (.int x3), .val (.int x4), .val (.int x5), .unset, .unset, .unset, .unset, .unset, .unset] [(.int (x0 &&& (3 : Int32)))])) (fun t_ k_ => XS.iand X0.here hx rfl (hb hby at_2) rfl k_) ?_
  refine GoW.by (T' := s₁) (g' := (mkF m 4 #[.val (.int x0), .val (.int x1), .val (.int x2), .val (.int x3), .val (.int x4), .val (.int x5), .unset, .unset, .unset, .unset, .unset, .unset] [(.int (3 : Int32)), (.int (x0 &&& (3 : Int32)))])) (fun t_ k_ => XS.iconst X0.here hx rfl (hb hby at_3) k_) ?_
  refine GoW.by (T' := s₁) (g' := (mkF m 5 #[.val (.int x0), .val (.int x1), .val (.int x2), .val (.int x3), .val (.int x4), .val (.int x5), .unset, .unset, .unset, .unset, .unset, .unset] [(.int ((x0 &&& (3 : Int32)) % (3 : Int32)))])) (fun t_ k_ => iremM X0 hx rfl (hb hby at_4) rfl (by decide) k_) ?_
  obtain ⟨A, hA, eA⟩ := own_mod3 x0
  rw [eA]
  refine GoW.by (T' := s₁) (g' := (mkF m 7 #[.val (.int x0), .val (.int x1), .val (.int x2), .val (.int x3), .val (.int x4), .val (.int x5), .val (.int (Int32.ofNat A)), .unset, .unset, .unset, .unset, .unset] [])) (fun t_ k_ => XS.istore X0.here hx rfl (hb hby at_5) rfl (l' := #[.val (.int x0), .val (.int x1), .val (.int x2), .val (.int x3), .val (.int x4), .val (.int x5), .val (.int (Int32.ofNat A)), .unset, .unset, .unset, .unset, .unset]) rfl k_) ?_
  refine GoW.by (T' := s₁) (g' := (mkF m 8 #[.val (.int x0), .val (.int x1), .val (.int x2), .val (.int x3), .val (.int x4), .val (.int x5), .val (.int (Int32.ofNat A)), .unset, .unset, .unset, .unset, .unset] [(.int x0)])) (fun t_ k_ => XS.iloadN X0.here hx rfl (hb hby at_7) rfl k_) ?_
  refine GoW.by (T' := s₁) (g' := (mkF m 9 #[.val (.int x0), .val (.int x1), .val (.int x2), .val (.int x3), .val (.int x4), .val (.int x5), .val (.int (Int32.ofNat A)), .unset, .unset, .unset, .unset, .unset] [(.int (2 : Int32)), (.int x0)])) (fun t_ k_ => XS.iconst X0.here hx rfl (hb hby at_8) k_) ?_
  refine GoW.by (T' := s₁) (g' := (mkF m 10 #[.val (.int x0), .val (.int x1), .val (.int x2), .val (.int x3), .val (.int x4), .val (.int x5), .val (.int (Int32.ofNat A)), .unset, .unset, .unset, .unset, .unset] [(.int ((x0.toUInt32 >>> ((2 : Int32) &&& 31).toUInt32).toInt32))])) (fun t_ k_ => XS.iushr X0.here hx rfl (hb hby at_9) rfl k_) ?_
  refine GoW.by (T' := s₁) (g' := (mkF m 11 #[.val (.int x0), .val (.int x1), .val (.int x2), .val (.int x3), .val (.int x4), .val (.int x5), .val (.int (Int32.ofNat A)), .unset, .unset, .unset, .unset, .unset] [(.int (3 : Int32)), (.int ((x0.toUInt32 >>> ((2 : Int32) &&& 31).toUInt32).toInt32))])) (fun t_ k_ => XS.iconst X0.here hx rfl (hb hby at_10) k_) ?_
  refine GoW.by (T' := s₁) (g' := (mkF m 12 #[.val (.int x0), .val (.int x1), .val (.int x2), .val (.int x3), .val (.int x4), .val (.int x5), .val (.int (Int32.ofNat A)), .unset, .unset, .unset, .unset, .unset] [(.int (((x0.toUInt32 >>> ((2 : Int32) &&& 31).toUInt32).toInt32) &&& (3 : Int32)))])) (fun t_ k_ => XS.iand X0.here hx rfl (hb hby at_11) rfl k_) ?_
  refine GoW.by (T' := s₁) (g' := (mkF m 13 #[.val (.int x0), .val (.int x1), .val (.int x2), .val (.int x3), .val (.int x4), .val (.int x5), .val (.int (Int32.ofNat A)), .unset, .unset, .unset, .unset, .unset] [(.int (3 : Int32)), (.int (((x0.toUInt32 >>> ((2 : Int32) &&& 31).toUInt32).toInt32) &&& (3 : Int32)))])) (fun t_ k_ => XS.iconst X0.here hx rfl (hb hby at_12) k_) ?_
  refine GoW.by (T' := s₁) (g' := (mkF m 14 #[.val (.int x0), .val (.int x1), .val (.int x2), .val (.int x3), .val (.int x4), .val (.int x5), .val (.int (Int32.ofNat A)), .unset, .unset, .unset, .unset, .unset] [(.int ((((x0.toUInt32 >>> ((2 : Int32) &&& 31).toUInt32).toInt32) &&& (3 : Int32)) % (3 : Int32)))])) (fun t_ k_ => iremM X0 hx rfl (hb hby at_13) rfl (by decide) k_) ?_
  obtain ⟨B, hB, eB⟩ := own_mod3 ((x0.toUInt32 >>> ((2 : Int32) &&& 31).toUInt32).toInt32)
  rw [eB]
  refine GoW.by (T' := s₁) (g' := (mkF m 16 #[.val (.int x0), .val (.int x1), .val (.int x2), .val (.int x3), .val (.int x4), .val (.int x5), .val (.int (Int32.ofNat A)), .val (.int (Int32.ofNat B)), .unset, .unset, .unset, .unset] [])) (fun t_ k_ => XS.istore X0.here hx rfl (hb hby at_14) rfl (l' := #[.val (.int x0), .val (.int x1), .val (.int x2), .val (.int x3), .val (.int x4), .val (.int x5), .val (.int (Int32.ofNat A)), .val (.int (Int32.ofNat B)), .unset, .unset, .unset, .unset]) rfl k_) ?_
  refine GoW.by (T' := s₁) (g' := (mkF m 17 #[.val (.int x0), .val (.int x1), .val (.int x2), .val (.int x3), .val (.int x4), .val (.int x5), .val (.int (Int32.ofNat A)), .val (.int (Int32.ofNat B)), .unset, .unset, .unset, .unset] [(.int x0)])) (fun t_ k_ => XS.iloadN X0.here hx rfl (hb hby at_16) rfl k_) ?_
  refine GoW.by (T' := s₁) (g' := (mkF m 18 #[.val (.int x0), .val (.int x1), .val (.int x2), .val (.int x3), .val (.int x4), .val (.int x5), .val (.int (Int32.ofNat A)), .val (.int (Int32.ofNat B)), .unset, .unset, .unset, .unset] [(.int (4 : Int32)), (.int x0)])) (fun t_ k_ => XS.iconst X0.here hx rfl (hb hby at_17) k_) ?_
  refine GoW.by (T' := s₁) (g' := (mkF m 19 #[.val (.int x0), .val (.int x1), .val (.int x2), .val (.int x3), .val (.int x4), .val (.int x5), .val (.int (Int32.ofNat A)), .val (.int (Int32.ofNat B)), .unset, .unset, .unset, .unset] [(.int ((x0.toUInt32 >>> ((4 : Int32) &&& 31).toUInt32).toInt32))])) (fun t_ k_ => XS.iushr X0.here hx rfl (hb hby at_18) rfl k_) ?_
  refine GoW.by (T' := s₁) (g' := (mkF m 20 #[.val (.int x0), .val (.int x1), .val (.int x2), .val (.int x3), .val (.int x4), .val (.int x5), .val (.int (Int32.ofNat A)), .val (.int (Int32.ofNat B)), .unset, .unset, .unset, .unset] [(.int (1 : Int32)), (.int ((x0.toUInt32 >>> ((4 : Int32) &&& 31).toUInt32).toInt32))])) (fun t_ k_ => XS.iconst X0.here hx rfl (hb hby at_19) k_) ?_
  refine GoW.by (T' := s₁) (g' := (mkF m 21 #[.val (.int x0), .val (.int x1), .val (.int x2), .val (.int x3), .val (.int x4), .val (.int x5), .val (.int (Int32.ofNat A)), .val (.int (Int32.ofNat B)), .unset, .unset, .unset, .unset] [(.int (((x0.toUInt32 >>> ((4 : Int32) &&& 31).toUInt32).toInt32) &&& (1 : Int32)))])) (fun t_ k_ => XS.iand X0.here hx rfl (hb hby at_20) rfl k_) ?_
  obtain ⟨bb1, hbb1⟩ : ∃ z : Int32, z = (((x0.toUInt32 >>> ((4 : Int32) &&& 31).toUInt32).toInt32) &&& (1 : Int32)) := ⟨_, rfl⟩
  rw [← hbb1]
  by_cases hc2 : bb1 = (0 : Int32)
  · skip
    refine GoW.by (T' := s₁) (g' := (mkF m 28 #[.val (.int x0), .val (.int x1), .val (.int x2), .val (.int x3), .val (.int x4), .val (.int x5), .val (.int (Int32.ofNat A)), .val (.int (Int32.ofNat B)), .unset, .unset, .unset, .unset] [])) (fun t_ k_ => XS.ifYes X0.here hx rfl (pc0 := 21) (pc' := 28) rfl (hb hby at_21) rfl ((if0 _ _).trans (teq hc2).1) (by decide) (by decide) k_) ?_
    refine GoW.by (T' := s₁) (g' := (mkF m 29 #[.val (.int x0), .val (.int x1), .val (.int x2), .val (.int x3), .val (.int x4), .val (.int x5), .val (.int (Int32.ofNat A)), .val (.int (Int32.ofNat B)), .unset, .unset, .unset, .unset] [(.int (0 : Int32))])) (fun t_ k_ => XS.iconst X0.here hx rfl (hb hby at_28) k_) ?_
    refine GoW.by (T' := s₁) (g' := (mkF m 31 #[.val (.int x0), .val (.int x1), .val (.int x2), .val (.int x3), .val (.int x4), .val (.int x5), .val (.int (Int32.ofNat A)), .val (.int (Int32.ofNat B)), .val (.int (0 : Int32)), .unset, .unset, .unset] [])) (fun t_ k_ => XS.istore X0.here hx rfl (hb hby at_29) rfl (l' := #[.val (.int x0), .val (.int x1), .val (.int x2), .val (.int x3), .val (.int x4), .val (.int x5), .val (.int (Int32.ofNat A)), .val (.int (Int32.ofNat B)), .val (.int (0 : Int32)), .unset, .unset, .unset]) rfl k_) ?_
    refine GoW.by (T' := s₁) (g' := (mkF m 32 #[.val (.int x0), .val (.int x1), .val (.int x2), .val (.int x3), .val (.int x4), .val (.int x5), .val (.int (Int32.ofNat A)), .val (.int (Int32.ofNat B)), .val (.int (0 : Int32)), .unset, .unset, .unset] [(.int (5 : Int32))])) (fun t_ k_ => XS.iconst X0.here hx rfl (hb hby at_31) k_) ?_
    refine GoW.by (T' := s₁) (g' := (mkF m 34 #[.val (.int x0), .val (.int x1), .val (.int x2), .val (.int x3), .val (.int x4), .val (.int x5), .val (.int (Int32.ofNat A)), .val (.int (Int32.ofNat B)), .val (.int (0 : Int32)), .unset, .unset, .unset] [(.int (Int32.ofNat A)), (.int (5 : Int32))])) (fun t_ k_ => XS.iload X0.here hx rfl (hb hby at_32) rfl k_) ?_
    refine GoW.by (T' := s₁) (g' := (mkF m 35 #[.val (.int x0), .val (.int x1), .val (.int x2), .val (.int x3), .val (.int x4), .val (.int x5), .val (.int (Int32.ofNat A)), .val (.int (Int32.ofNat B)), .val (.int (0 : Int32)), .unset, .unset, .unset] [(.int ((5 : Int32) - (Int32.ofNat A)))])) (fun t_ k_ => XS.isub X0.here hx rfl (hb hby at_34) rfl k_) ?_
    refine GoW.by (T' := s₁) (g' := (mkF m 37 #[.val (.int x0), .val (.int x1), .val (.int x2), .val (.int x3), .val (.int x4), .val (.int x5), .val (.int (Int32.ofNat A)), .val (.int (Int32.ofNat B)), .val (.int (0 : Int32)), .unset, .unset, .unset] [(.int (Int32.ofNat B)), (.int ((5 : Int32) - (Int32.ofNat A)))])) (fun t_ k_ => XS.iload X0.here hx rfl (hb hby at_35) rfl k_) ?_
    refine GoW.by (T' := s₁) (g' := (mkF m 38 #[.val (.int x0), .val (.int x1), .val (.int x2), .val (.int x3), .val (.int x4), .val (.int x5), .val (.int (Int32.ofNat A)), .val (.int (Int32.ofNat B)), .val (.int (0 : Int32)), .unset, .unset, .unset] [(.int (((5 : Int32) - (Int32.ofNat A)) - (Int32.ofNat B)))])) (fun t_ k_ => XS.isub X0.here hx rfl (hb hby at_37) rfl k_) ?_
    rw [show (5 : Int32) = Int32.ofNat 5 from rfl, own_sub (show A ≤ 5 by omega), own_sub (show B ≤ 5 - A by omega)]
    refine GoW.by (T' := s₁) (g' := (mkF m 40 #[.val (.int x0), .val (.int x1), .val (.int x2), .val (.int x3), .val (.int x4), .val (.int x5), .val (.int (Int32.ofNat A)), .val (.int (Int32.ofNat B)), .val (.int (0 : Int32)), .val (.int (Int32.ofNat (5 - A - B))), .unset, .unset] [])) (fun t_ k_ => XS.istore X0.here hx rfl (hb hby at_38) rfl (l' := #[.val (.int x0), .val (.int x1), .val (.int x2), .val (.int x3), .val (.int x4), .val (.int x5), .val (.int (Int32.ofNat A)), .val (.int (Int32.ofNat B)), .val (.int (0 : Int32)), .val (.int (Int32.ofNat (5 - A - B))), .unset, .unset]) rfl k_) ?_
    refine GoW.by (T' := s₁) (g' := (mkF m 41 #[.val (.int x0), .val (.int x1), .val (.int x2), .val (.int x3), .val (.int x4), .val (.int x5), .val (.int (Int32.ofNat A)), .val (.int (Int32.ofNat B)), .val (.int (0 : Int32)), .val (.int (Int32.ofNat (5 - A - B))), .unset, .unset] [(.int (5 : Int32))])) (fun t_ k_ => XS.iconst X0.here hx rfl (hb hby at_40) k_) ?_
    obtain ⟨T3, h3, kc3, X3, e3, E3, A3, st3⟩ := newP X0 hx hZ (hw _ (List.mem_of_getElem? (i := 0) rfl)) e0 (g := (mkF m 41 #[.val (.int x0), .val (.int x1), .val (.int x2), .val (.int x3), .val (.int x4), .val (.int x5), .val (.int (Int32.ofNat A)), .val (.int (Int32.ofNat B)), .val (.int (0 : Int32)), .val (.int (Int32.ofNat (5 - A - B))), .unset, .unset] [(.int (5 : Int32))])) rfl (hb hby at_41) rfl (by decide) (cap := 5) (by decide) (by decide) (by decide) (by decide)
    obtain ⟨b3, g3⟩ : ∃ z, z = h0.size := ⟨_, rfl⟩
    rw [← g3] at A3 st3
    have ge_b3 : n0 ≤ b3 := Nat.le_trans X00.sz (Nat.le_of_eq g3.symm)
    have sz_b3 : h0.size ≤ b3 := Nat.le_trans (Keep.refl h0 []).1 (Nat.le_of_eq g3.symm)
    have V3 : Arv Z h3 b3 kc3 .char (5 : Int32) [(.int (0 : Int32)), (.int (0 : Int32)), (.int (0 : Int32)), (.int (0 : Int32)), (.int (0 : Int32))] (.int (0 : Int32)) := (Arv.new A3 (by decide)).pad (pad_rep [] (.int (0 : Int32)) 5)
    refine GoW.by (T' := T3) (g' := (mkF m 43 #[.val (.int x0), .val (.int x1), .val (.int x2), .val (.int x3), .val (.int x4), .val (.int x5), .val (.int (Int32.ofNat A)), .val (.int (Int32.ofNat B)), .val (.int (0 : Int32)), .val (.int (Int32.ofNat (5 - A - B))), .unset, .unset] [(.ref b3)])) (fun t_ k_ => st3 _ k_) ?_
    refine GoW.by (T' := T3) (g' := (mkF m 45 #[.val (.int x0), .val (.int x1), .val (.int x2), .val (.int x3), .val (.int x4), .val (.int x5), .val (.int (Int32.ofNat A)), .val (.int (Int32.ofNat B)), .val (.int (0 : Int32)), .val (.int (Int32.ofNat (5 - A - B))), .val (.ref b3), .unset] [])) (fun t_ k_ => XS.astore X3.here hx rfl (hb hby at_43) rfl rfl (l' := #[.val (.int x0), .val (.int x1), .val (.int x2), .val (.int x3), .val (.int x4), .val (.int x5), .val (.int (Int32.ofNat A)), .val (.int (Int32.ofNat B)), .val (.int (0 : Int32)), .val (.int (Int32.ofNat (5 - A - B))), .val (.ref b3), .unset]) rfl k_) ?_
    refine GoW.by (T' := T3) (g' := (mkF m 47 #[.val (.int x0), .val (.int x1), .val (.int x2), .val (.int x3), .val (.int x4), .val (.int x5), .val (.int (Int32.ofNat A)), .val (.int (Int32.ofNat B)), .val (.int (0 : Int32)), .val (.int (Int32.ofNat (5 - A - B))), .val (.ref b3), .unset] [(.ref b3)])) (fun t_ k_ => XS.aload X3.here hx rfl (hb hby at_45) rfl rfl k_) ?_
    refine GoW.by (T' := T3) (g' := (mkF m 48 #[.val (.int x0), .val (.int x1), .val (.int x2), .val (.int x3), .val (.int x4), .val (.int x5), .val (.int (Int32.ofNat A)), .val (.int (Int32.ofNat B)), .val (.int (0 : Int32)), .val (.int (Int32.ofNat (5 - A - B))), .val (.ref b3), .unset] [(.int (0 : Int32)), (.ref b3)])) (fun t_ k_ => XS.iconst X3.here hx rfl (hb hby at_47) k_) ?_
    refine GoW.by (T' := T3) (g' := (mkF m 49 #[.val (.int x0), .val (.int x1), .val (.int x2), .val (.int x3), .val (.int x4), .val (.int x5), .val (.int (Int32.ofNat A)), .val (.int (Int32.ofNat B)), .val (.int (0 : Int32)), .val (.int (Int32.ofNat (5 - A - B))), .val (.ref b3), .unset] [(.int (0 : Int32)), (.int (0 : Int32)), (.ref b3)])) (fun t_ k_ => XS.iconst X3.here hx rfl (hb hby at_48) k_) ?_
    refine GoW.by (T' := T3) (g' := (mkF m 51 #[.val (.int x0), .val (.int x1), .val (.int x2), .val (.int x3), .val (.int x4), .val (.int x5), .val (.int (Int32.ofNat A)), .val (.int (Int32.ofNat B)), .val (.int (0 : Int32)), .val (.int (Int32.ofNat (5 - A - B))), .val (.ref b3), .unset] [(.int (Int32.ofNat A)), (.int (0 : Int32)), (.int (0 : Int32)), (.ref b3)])) (fun t_ k_ => XS.iload X3.here hx rfl (hb hby at_49) rfl k_) ?_
    refine GoW.by (T' := T3) (g' := (mkF m 53 #[.val (.int x0), .val (.int x1), .val (.int x2), .val (.int x3), .val (.int x4), .val (.int x5), .val (.int (Int32.ofNat A)), .val (.int (Int32.ofNat B)), .val (.int (0 : Int32)), .val (.int (Int32.ofNat (5 - A - B))), .val (.ref b3), .unset] [(.int (Int32.ofNat B)), (.int (Int32.ofNat A)), (.int (0 : Int32)), (.int (0 : Int32)), (.ref b3)])) (fun t_ k_ => XS.iload X3.here hx rfl (hb hby at_51) rfl k_) ?_
    refine GoW.by (T' := T3) (g' := (mkF m 55 #[.val (.int x0), .val (.int x1), .val (.int x2), .val (.int x3), .val (.int x4), .val (.int x5), .val (.int (Int32.ofNat A)), .val (.int (Int32.ofNat B)), .val (.int (0 : Int32)), .val (.int (Int32.ofNat (5 - A - B))), .val (.ref b3), .unset] [(.int (0 : Int32)), (.int (Int32.ofNat B)), (.int (Int32.ofNat A)), (.int (0 : Int32)), (.int (0 : Int32)), (.ref b3)])) (fun t_ k_ => XS.iload X3.here hx rfl (hb hby at_53) rfl k_) ?_
    refine GoW.by (T' := T3) (g' := (mkF m 56 #[.val (.int x0), .val (.int x1), .val (.int x2), .val (.int x3), .val (.int x4), .val (.int x5), .val (.int (Int32.ofNat A)), .val (.int (Int32.ofNat B)), .val (.int (0 : Int32)), .val (.int (Int32.ofNat (5 - A - B))), .val (.ref b3), .unset] [(.int x1), (.int (0 : Int32)), (.int (Int32.ofNat B)), (.int (Int32.ofNat A)), (.int (0 : Int32)), (.int (0 : Int32)), (.ref b3)])) (fun t_ k_ => XS.iloadN X3.here hx rfl (hb hby at_55) rfl k_) ?_
    have Od4 : Old Z n0 h3 := (X00.ext E3)
    obtain ⟨_, _, ⟨T5, L5, k5, n5⟩, -, X5, ⟨Lc5, hQ5, l5, y5, z5⟩, st5⟩ := Jvm.LawKit.callS X3 hx (y := (⟨"com/example/refledger/refledger/PublicKeyTextTrimPinLaw", "place", "(IIIZI)C"⟩ : MethodName)) hown (mvT hZ (hw _ (List.mem_of_getElem? (i := 1) rfl))) (mvT hZ (hw _ (List.mem_of_getElem? (i := 2) rfl))) (mvT hZ (hw _ (List.mem_of_getElem? (i := 3) rfl))) (mvT hZ (hw _ (List.mem_of_getElem? (i := 4) rfl))) (by decide) (backOf (W := 2) (rm_place l Z a0 hw [] (0 : Int32) A B (0 : Int32) x1 0 h3 n0 Od4 rfl (by decide) hA hB) hZ (hw _ (List.mem_of_getElem? (i := 4) rfl)) (hw _ (List.mem_of_getElem? (i := 3) rfl)) (by decide) (by decide)) (g := (mkF m 56 #[.val (.int x0), .val (.int x1), .val (.int x2), .val (.int x3), .val (.int x4), .val (.int x5), .val (.int (Int32.ofNat A)), .val (.int (Int32.ofNat B)), .val (.int (0 : Int32)), .val (.int (Int32.ofNat (5 - A - B))), .val (.ref b3), .unset] [(.int x1), (.int (0 : Int32)), (.int (Int32.ofNat B)), (.int (Int32.ofNat A)), (.int (0 : Int32)), (.int (0 : Int32)), (.ref b3)])) rfl (by rw [hml]; rfl) (argsL := [(.int (0 : Int32)), (.int (Int32.ofNat A)), (.int (Int32.ofNat B)), (.int (0 : Int32)), (.int x1)]) (rest := [(.int (0 : Int32)), (.ref b3)]) (lenOf pd_13 rfl) rfl (by show 2 * 0 + _ ≤ _; exact Nat.le_of_eq rfl) (hb hby at_56) (fun _ _ => ⟨rfl, e3, (by decide : 1 + 0 ≤ _), (by decide : 5 + 0 ≤ _)⟩)
    dsimp only [Pt.U, Pt.locs, Pt.cells, Pt.slots] at X5 l5 y5 z5 st5 hQ5
    subst l5 y5 z5
    obtain ⟨cc_5, rfl, N5q, e5, G5_0⟩ := hQ5
    have N5 := Fr.app N0 N5q
    refine GoW.by (T' := T5) (g' := (mkF m 59 #[.val (.int x0), .val (.int x1), .val (.int x2), .val (.int x3), .val (.int x4), .val (.int x5), .val (.int (Int32.ofNat A)), .val (.int (Int32.ofNat B)), .val (.int (0 : Int32)), .val (.int (Int32.ofNat (5 - A - B))), .val (.ref b3), .unset] [(.int cc_5), (.int (0 : Int32)), (.ref b3)])) (fun t_ k_ => st5 _ k_) ?_
    have Kp7 : Keep h0 h3 [] := ((Keep.refl h0 []).ext E3)
    obtain ⟨cl6, Ar6, q6, Sz6, Ng6, Hs6, Gs6⟩ := id V3
    obtain ⟨T8, h8, X8, e8, W8, st8⟩ := stC X5 hx hZ e5 Ar6 (j := (0 : Int32)) (inb_of Sz6 ⟨by decide, by decide⟩) (g := (mkF m 59 #[.val (.int x0), .val (.int x1), .val (.int x2), .val (.int x3), .val (.int x4), .val (.int x5), .val (.int (Int32.ofNat A)), .val (.int (Int32.ofNat B)), .val (.int (0 : Int32)), .val (.int (Int32.ofNat (5 - A - B))), .val (.ref b3), .unset] [(.int cc_5), (.int (0 : Int32)), (.ref b3)])) rfl rfl (hb hby at_59)
    have V8 : Arv Z h8 b3 kc3 .char (5 : Int32) [(.int (nar .char cc_5)), (.int (0 : Int32)), (.int (0 : Int32)), (.int (0 : Int32)), (.int (0 : Int32))] (.int (0 : Int32)) := Arv.set Ar6 q6 Sz6 Ng6 Hs6 Gs6 (fits_nar_char _) W8 0 rfl (Nat.le_of_ble_eq_true rfl)
    have N8 := Fr.snoc X8 N5 ge_b3
    refine GoW.by (T' := T8) (g' := (mkF m 60 #[.val (.int x0), .val (.int x1), .val (.int x2), .val (.int x3), .val (.int x4), .val (.int x5), .val (.int (Int32.ofNat A)), .val (.int (Int32.ofNat B)), .val (.int (0 : Int32)), .val (.int (Int32.ofNat (5 - A - B))), .val (.ref b3), .unset] [])) (fun t_ k_ => st8 _ k_) ?_
    refine GoW.by (T' := T8) (g' := (mkF m 62 #[.val (.int x0), .val (.int x1), .val (.int x2), .val (.int x3), .val (.int x4), .val (.int x5), .val (.int (Int32.ofNat A)), .val (.int (Int32.ofNat B)), .val (.int (0 : Int32)), .val (.int (Int32.ofNat (5 - A - B))), .val (.ref b3), .unset] [(.ref b3)])) (fun t_ k_ => XS.aload X8.here hx rfl (hb hby at_60) rfl rfl k_) ?_
    refine GoW.by (T' := T8) (g' := (mkF m 63 #[.val (.int x0), .val (.int x1), .val (.int x2), .val (.int x3), .val (.int x4), .val (.int x5), .val (.int (Int32.ofNat A)), .val (.int (Int32.ofNat B)), .val (.int (0 : Int32)), .val (.int (Int32.ofNat (5 - A - B))), .val (.ref b3), .unset] [(.int (1 : Int32)), (.ref b3)])) (fun t_ k_ => XS.iconst X8.here hx rfl (hb hby at_62) k_) ?_
    refine GoW.by (T' := T8) (g' := (mkF m 64 #[.val (.int x0), .val (.int x1), .val (.int x2), .val (.int x3), .val (.int x4), .val (.int x5), .val (.int (Int32.ofNat A)), .val (.int (Int32.ofNat B)), .val (.int (0 : Int32)), .val (.int (Int32.ofNat (5 - A - B))), .val (.ref b3), .unset] [(.int (1 : Int32)), (.int (1 : Int32)), (.ref b3)])) (fun t_ k_ => XS.iconst X8.here hx rfl (hb hby at_63) k_) ?_
    refine GoW.by (T' := T8) (g' := (mkF m 66 #[.val (.int x0), .val (.int x1), .val (.int x2), .val (.int x3), .val (.int x4), .val (.int x5), .val (.int (Int32.ofNat A)), .val (.int (Int32.ofNat B)), .val (.int (0 : Int32)), .val (.int (Int32.ofNat (5 - A - B))), .val (.ref b3), .unset] [(.int (Int32.ofNat A)), (.int (1 : Int32)), (.int (1 : Int32)), (.ref b3)])) (fun t_ k_ => XS.iload X8.here hx rfl (hb hby at_64) rfl k_) ?_
    refine GoW.by (T' := T8) (g' := (mkF m 68 #[.val (.int x0), .val (.int x1), .val (.int x2), .val (.int x3), .val (.int x4), .val (.int x5), .val (.int (Int32.ofNat A)), .val (.int (Int32.ofNat B)), .val (.int (0 : Int32)), .val (.int (Int32.ofNat (5 - A - B))), .val (.ref b3), .unset] [(.int (Int32.ofNat B)), (.int (Int32.ofNat A)), (.int (1 : Int32)), (.int (1 : Int32)), (.ref b3)])) (fun t_ k_ => XS.iload X8.here hx rfl (hb hby at_66) rfl k_) ?_
    refine GoW.by (T' := T8) (g' := (mkF m 70 #[.val (.int x0), .val (.int x1), .val (.int x2), .val (.int x3), .val (.int x4), .val (.int x5), .val (.int (Int32.ofNat A)), .val (.int (Int32.ofNat B)), .val (.int (0 : Int32)), .val (.int (Int32.ofNat (5 - A - B))), .val (.ref b3), .unset] [(.int (0 : Int32)), (.int (Int32.ofNat B)), (.int (Int32.ofNat A)), (.int (1 : Int32)), (.int (1 : Int32)), (.ref b3)])) (fun t_ k_ => XS.iload X8.here hx rfl (hb hby at_68) rfl k_) ?_
    refine GoW.by (T' := T8) (g' := (mkF m 71 #[.val (.int x0), .val (.int x1), .val (.int x2), .val (.int x3), .val (.int x4), .val (.int x5), .val (.int (Int32.ofNat A)), .val (.int (Int32.ofNat B)), .val (.int (0 : Int32)), .val (.int (Int32.ofNat (5 - A - B))), .val (.ref b3), .unset] [(.int x2), (.int (0 : Int32)), (.int (Int32.ofNat B)), (.int (Int32.ofNat A)), (.int (1 : Int32)), (.int (1 : Int32)), (.ref b3)])) (fun t_ k_ => XS.iloadN X8.here hx rfl (hb hby at_70) rfl k_) ?_
    have Od9 : Old Z n0 h8 := (Od4.wr W8 ge_b3)
    obtain ⟨_, _, ⟨T10, L10, k10, n10⟩, -, X10, ⟨Lc10, hQ10, l10, y10, z10⟩, st10⟩ := Jvm.LawKit.callS X8 hx (y := (⟨"com/example/refledger/refledger/PublicKeyTextTrimPinLaw", "place", "(IIIZI)C"⟩ : MethodName)) hown (mvT hZ (hw _ (List.mem_of_getElem? (i := 1) rfl))) (mvT hZ (hw _ (List.mem_of_getElem? (i := 2) rfl))) (mvT hZ (hw _ (List.mem_of_getElem? (i := 3) rfl))) (mvT hZ (hw _ (List.mem_of_getElem? (i := 4) rfl))) (by decide) (backOf (W := 2) (rm_place l Z a0 hw [] (1 : Int32) A B (0 : Int32) x2 1 h8 n0 Od9 rfl (by decide) hA hB) hZ (hw _ (List.mem_of_getElem? (i := 4) rfl)) (hw _ (List.mem_of_getElem? (i := 3) rfl)) (by decide) (by decide)) (g := (mkF m 71 #[.val (.int x0), .val (.int x1), .val (.int x2), .val (.int x3), .val (.int x4), .val (.int x5), .val (.int (Int32.ofNat A)), .val (.int (Int32.ofNat B)), .val (.int (0 : Int32)), .val (.int (Int32.ofNat (5 - A - B))), .val (.ref b3), .unset] [(.int x2), (.int (0 : Int32)), (.int (Int32.ofNat B)), (.int (Int32.ofNat A)), (.int (1 : Int32)), (.int (1 : Int32)), (.ref b3)])) rfl (by rw [hml]; rfl) (argsL := [(.int (1 : Int32)), (.int (Int32.ofNat A)), (.int (Int32.ofNat B)), (.int (0 : Int32)), (.int x2)]) (rest := [(.int (1 : Int32)), (.ref b3)]) (lenOf pd_13 rfl) rfl (by show 2 * 0 + _ ≤ _; exact Nat.le_of_eq rfl) (hb hby at_71) (fun _ _ => ⟨rfl, e8, (by decide : 1 + 0 ≤ _), (by decide : 5 + 0 ≤ _)⟩)
    dsimp only [Pt.U, Pt.locs, Pt.cells, Pt.slots] at X10 l10 y10 z10 st10 hQ10
    subst l10 y10 z10
    obtain ⟨cc_10, rfl, N10q, e10, G10_0⟩ := hQ10
    have N10 := Fr.app N8 N10q
    refine GoW.by (T' := T10) (g' := (mkF m 74 #[.val (.int x0), .val (.int x1), .val (.int x2), .val (.int x3), .val (.int x4), .val (.int x5), .val (.int (Int32.ofNat A)), .val (.int (Int32.ofNat B)), .val (.int (0 : Int32)), .val (.int (Int32.ofNat (5 - A - B))), .val (.ref b3), .unset] [(.int cc_10), (.int (1 : Int32)), (.ref b3)])) (fun t_ k_ => st10 _ k_) ?_
    have Kp12 : Keep h0 h8 [] := (Kp7.wr W8 (Or.inr sz_b3))
    obtain ⟨cl11, Ar11, q11, Sz11, Ng11, Hs11, Gs11⟩ := id V8
    obtain ⟨T13, h13, X13, e13, W13, st13⟩ := stC X10 hx hZ e10 Ar11 (j := (1 : Int32)) (inb_of Sz11 ⟨by decide, by decide⟩) (g := (mkF m 74 #[.val (.int x0), .val (.int x1), .val (.int x2), .val (.int x3), .val (.int x4), .val (.int x5), .val (.int (Int32.ofNat A)), .val (.int (Int32.ofNat B)), .val (.int (0 : Int32)), .val (.int (Int32.ofNat (5 - A - B))), .val (.ref b3), .unset] [(.int cc_10), (.int (1 : Int32)), (.ref b3)])) rfl rfl (hb hby at_74)
    have V13 : Arv Z h13 b3 kc3 .char (5 : Int32) [(.int (nar .char cc_5)), (.int (nar .char cc_10)), (.int (0 : Int32)), (.int (0 : Int32)), (.int (0 : Int32))] (.int (0 : Int32)) := Arv.set Ar11 q11 Sz11 Ng11 Hs11 Gs11 (fits_nar_char _) W13 1 rfl (Nat.le_of_ble_eq_true rfl)
    have N13 := Fr.snoc X13 N10 ge_b3
    refine GoW.by (T' := T13) (g' := (mkF m 75 #[.val (.int x0), .val (.int x1), .val (.int x2), .val (.int x3), .val (.int x4), .val (.int x5), .val (.int (Int32.ofNat A)), .val (.int (Int32.ofNat B)), .val (.int (0 : Int32)), .val (.int (Int32.ofNat (5 - A - B))), .val (.ref b3), .unset] [])) (fun t_ k_ => st13 _ k_) ?_
    refine GoW.by (T' := T13) (g' := (mkF m 77 #[.val (.int x0), .val (.int x1), .val (.int x2), .val (.int x3), .val (.int x4), .val (.int x5), .val (.int (Int32.ofNat A)), .val (.int (Int32.ofNat B)), .val (.int (0 : Int32)), .val (.int (Int32.ofNat (5 - A - B))), .val (.ref b3), .unset] [(.ref b3)])) (fun t_ k_ => XS.aload X13.here hx rfl (hb hby at_75) rfl rfl k_) ?_
    refine GoW.by (T' := T13) (g' := (mkF m 78 #[.val (.int x0), .val (.int x1), .val (.int x2), .val (.int x3), .val (.int x4), .val (.int x5), .val (.int (Int32.ofNat A)), .val (.int (Int32.ofNat B)), .val (.int (0 : Int32)), .val (.int (Int32.ofNat (5 - A - B))), .val (.ref b3), .unset] [(.int (2 : Int32)), (.ref b3)])) (fun t_ k_ => XS.iconst X13.here hx rfl (hb hby at_77) k_) ?_
    refine GoW.by (T' := T13) (g' := (mkF m 79 #[.val (.int x0), .val (.int x1), .val (.int x2), .val (.int x3), .val (.int x4), .val (.int x5), .val (.int (Int32.ofNat A)), .val (.int (Int32.ofNat B)), .val (.int (0 : Int32)), .val (.int (Int32.ofNat (5 - A - B))), .val (.ref b3), .unset] [(.int (2 : Int32)), (.int (2 : Int32)), (.ref b3)])) (fun t_ k_ => XS.iconst X13.here hx rfl (hb hby at_78) k_) ?_
    refine GoW.by (T' := T13) (g' := (mkF m 81 #[.val (.int x0), .val (.int x1), .val (.int x2), .val (.int x3), .val (.int x4), .val (.int x5), .val (.int (Int32.ofNat A)), .val (.int (Int32.ofNat B)), .val (.int (0 : Int32)), .val (.int (Int32.ofNat (5 - A - B))), .val (.ref b3), .unset] [(.int (Int32.ofNat A)), (.int (2 : Int32)), (.int (2 : Int32)), (.ref b3)])) (fun t_ k_ => XS.iload X13.here hx rfl (hb hby at_79) rfl k_) ?_
    refine GoW.by (T' := T13) (g' := (mkF m 83 #[.val (.int x0), .val (.int x1), .val (.int x2), .val (.int x3), .val (.int x4), .val (.int x5), .val (.int (Int32.ofNat A)), .val (.int (Int32.ofNat B)), .val (.int (0 : Int32)), .val (.int (Int32.ofNat (5 - A - B))), .val (.ref b3), .unset] [(.int (Int32.ofNat B)), (.int (Int32.ofNat A)), (.int (2 : Int32)), (.int (2 : Int32)), (.ref b3)])) (fun t_ k_ => XS.iload X13.here hx rfl (hb hby at_81) rfl k_) ?_
    refine GoW.by (T' := T13) (g' := (mkF m 85 #[.val (.int x0), .val (.int x1), .val (.int x2), .val (.int x3), .val (.int x4), .val (.int x5), .val (.int (Int32.ofNat A)), .val (.int (Int32.ofNat B)), .val (.int (0 : Int32)), .val (.int (Int32.ofNat (5 - A - B))), .val (.ref b3), .unset] [(.int (0 : Int32)), (.int (Int32.ofNat B)), (.int (Int32.ofNat A)), (.int (2 : Int32)), (.int (2 : Int32)), (.ref b3)])) (fun t_ k_ => XS.iload X13.here hx rfl (hb hby at_83) rfl k_) ?_
    refine GoW.by (T' := T13) (g' := (mkF m 86 #[.val (.int x0), .val (.int x1), .val (.int x2), .val (.int x3), .val (.int x4), .val (.int x5), .val (.int (Int32.ofNat A)), .val (.int (Int32.ofNat B)), .val (.int (0 : Int32)), .val (.int (Int32.ofNat (5 - A - B))), .val (.ref b3), .unset] [(.int x3), (.int (0 : Int32)), (.int (Int32.ofNat B)), (.int (Int32.ofNat A)), (.int (2 : Int32)), (.int (2 : Int32)), (.ref b3)])) (fun t_ k_ => XS.iloadN X13.here hx rfl (hb hby at_85) rfl k_) ?_
    have Od14 : Old Z n0 h13 := (Od9.wr W13 ge_b3)
    obtain ⟨_, _, ⟨T15, L15, k15, n15⟩, -, X15, ⟨Lc15, hQ15, l15, y15, z15⟩, st15⟩ := Jvm.LawKit.callS X13 hx (y := (⟨"com/example/refledger/refledger/PublicKeyTextTrimPinLaw", "place", "(IIIZI)C"⟩ : MethodName)) hown (mvT hZ (hw _ (List.mem_of_getElem? (i := 1) rfl))) (mvT hZ (hw _ (List.mem_of_getElem? (i := 2) rfl))) (mvT hZ (hw _ (List.mem_of_getElem? (i := 3) rfl))) (mvT hZ (hw _ (List.mem_of_getElem? (i := 4) rfl))) (by decide) (backOf (W := 2) (rm_place l Z a0 hw [] (2 : Int32) A B (0 : Int32) x3 2 h13 n0 Od14 rfl (by decide) hA hB) hZ (hw _ (List.mem_of_getElem? (i := 4) rfl)) (hw _ (List.mem_of_getElem? (i := 3) rfl)) (by decide) (by decide)) (g := (mkF m 86 #[.val (.int x0), .val (.int x1), .val (.int x2), .val (.int x3), .val (.int x4), .val (.int x5), .val (.int (Int32.ofNat A)), .val (.int (Int32.ofNat B)), .val (.int (0 : Int32)), .val (.int (Int32.ofNat (5 - A - B))), .val (.ref b3), .unset] [(.int x3), (.int (0 : Int32)), (.int (Int32.ofNat B)), (.int (Int32.ofNat A)), (.int (2 : Int32)), (.int (2 : Int32)), (.ref b3)])) rfl (by rw [hml]; rfl) (argsL := [(.int (2 : Int32)), (.int (Int32.ofNat A)), (.int (Int32.ofNat B)), (.int (0 : Int32)), (.int x3)]) (rest := [(.int (2 : Int32)), (.ref b3)]) (lenOf pd_13 rfl) rfl (by show 2 * 0 + _ ≤ _; exact Nat.le_of_eq rfl) (hb hby at_86) (fun _ _ => ⟨rfl, e13, (by decide : 1 + 0 ≤ _), (by decide : 5 + 0 ≤ _)⟩)
    dsimp only [Pt.U, Pt.locs, Pt.cells, Pt.slots] at X15 l15 y15 z15 st15 hQ15
    subst l15 y15 z15
    obtain ⟨cc_15, rfl, N15q, e15, G15_0⟩ := hQ15
    have N15 := Fr.app N13 N15q
    refine GoW.by (T' := T15) (g' := (mkF m 89 #[.val (.int x0), .val (.int x1), .val (.int x2), .val (.int x3), .val (.int x4), .val (.int x5), .val (.int (Int32.ofNat A)), .val (.int (Int32.ofNat B)), .val (.int (0 : Int32)), .val (.int (Int32.ofNat (5 - A - B))), .val (.ref b3), .unset] [(.int cc_15), (.int (2 : Int32)), (.ref b3)])) (fun t_ k_ => st15 _ k_) ?_
    have Kp17 : Keep h0 h13 [] := (Kp12.wr W13 (Or.inr sz_b3))
    obtain ⟨cl16, Ar16, q16, Sz16, Ng16, Hs16, Gs16⟩ := id V13
    obtain ⟨T18, h18, X18, e18, W18, st18⟩ := stC X15 hx hZ e15 Ar16 (j := (2 : Int32)) (inb_of Sz16 ⟨by decide, by decide⟩) (g := (mkF m 89 #[.val (.int x0), .val (.int x1), .val (.int x2), .val (.int x3), .val (.int x4), .val (.int x5), .val (.int (Int32.ofNat A)), .val (.int (Int32.ofNat B)), .val (.int (0 : Int32)), .val (.int (Int32.ofNat (5 - A - B))), .val (.ref b3), .unset] [(.int cc_15), (.int (2 : Int32)), (.ref b3)])) rfl rfl (hb hby at_89)
    have V18 : Arv Z h18 b3 kc3 .char (5 : Int32) [(.int (nar .char cc_5)), (.int (nar .char cc_10)), (.int (nar .char cc_15)), (.int (0 : Int32)), (.int (0 : Int32))] (.int (0 : Int32)) := Arv.set Ar16 q16 Sz16 Ng16 Hs16 Gs16 (fits_nar_char _) W18 2 rfl (Nat.le_of_ble_eq_true rfl)
    have N18 := Fr.snoc X18 N15 ge_b3
    refine GoW.by (T' := T18) (g' := (mkF m 90 #[.val (.int x0), .val (.int x1), .val (.int x2), .val (.int x3), .val (.int x4), .val (.int x5), .val (.int (Int32.ofNat A)), .val (.int (Int32.ofNat B)), .val (.int (0 : Int32)), .val (.int (Int32.ofNat (5 - A - B))), .val (.ref b3), .unset] [])) (fun t_ k_ => st18 _ k_) ?_
    refine GoW.by (T' := T18) (g' := (mkF m 92 #[.val (.int x0), .val (.int x1), .val (.int x2), .val (.int x3), .val (.int x4), .val (.int x5), .val (.int (Int32.ofNat A)), .val (.int (Int32.ofNat B)), .val (.int (0 : Int32)), .val (.int (Int32.ofNat (5 - A - B))), .val (.ref b3), .unset] [(.ref b3)])) (fun t_ k_ => XS.aload X18.here hx rfl (hb hby at_90) rfl rfl k_) ?_
    refine GoW.by (T' := T18) (g' := (mkF m 93 #[.val (.int x0), .val (.int x1), .val (.int x2), .val (.int x3), .val (.int x4), .val (.int x5), .val (.int (Int32.ofNat A)), .val (.int (Int32.ofNat B)), .val (.int (0 : Int32)), .val (.int (Int32.ofNat (5 - A - B))), .val (.ref b3), .unset] [(.int (3 : Int32)), (.ref b3)])) (fun t_ k_ => XS.iconst X18.here hx rfl (hb hby at_92) k_) ?_
    refine GoW.by (T' := T18) (g' := (mkF m 94 #[.val (.int x0), .val (.int x1), .val (.int x2), .val (.int x3), .val (.int x4), .val (.int x5), .val (.int (Int32.ofNat A)), .val (.int (Int32.ofNat B)), .val (.int (0 : Int32)), .val (.int (Int32.ofNat (5 - A - B))), .val (.ref b3), .unset] [(.int (3 : Int32)), (.int (3 : Int32)), (.ref b3)])) (fun t_ k_ => XS.iconst X18.here hx rfl (hb hby at_93) k_) ?_
    refine GoW.by (T' := T18) (g' := (mkF m 96 #[.val (.int x0), .val (.int x1), .val (.int x2), .val (.int x3), .val (.int x4), .val (.int x5), .val (.int (Int32.ofNat A)), .val (.int (Int32.ofNat B)), .val (.int (0 : Int32)), .val (.int (Int32.ofNat (5 - A - B))), .val (.ref b3), .unset] [(.int (Int32.ofNat A)), (.int (3 : Int32)), (.int (3 : Int32)), (.ref b3)])) (fun t_ k_ => XS.iload X18.here hx rfl (hb hby at_94) rfl k_) ?_
    refine GoW.by (T' := T18) (g' := (mkF m 98 #[.val (.int x0), .val (.int x1), .val (.int x2), .val (.int x3), .val (.int x4), .val (.int x5), .val (.int (Int32.ofNat A)), .val (.int (Int32.ofNat B)), .val (.int (0 : Int32)), .val (.int (Int32.ofNat (5 - A - B))), .val (.ref b3), .unset] [(.int (Int32.ofNat B)), (.int (Int32.ofNat A)), (.int (3 : Int32)), (.int (3 : Int32)), (.ref b3)])) (fun t_ k_ => XS.iload X18.here hx rfl (hb hby at_96) rfl k_) ?_
    refine GoW.by (T' := T18) (g' := (mkF m 100 #[.val (.int x0), .val (.int x1), .val (.int x2), .val (.int x3), .val (.int x4), .val (.int x5), .val (.int (Int32.ofNat A)), .val (.int (Int32.ofNat B)), .val (.int (0 : Int32)), .val (.int (Int32.ofNat (5 - A - B))), .val (.ref b3), .unset] [(.int (0 : Int32)), (.int (Int32.ofNat B)), (.int (Int32.ofNat A)), (.int (3 : Int32)), (.int (3 : Int32)), (.ref b3)])) (fun t_ k_ => XS.iload X18.here hx rfl (hb hby at_98) rfl k_) ?_
    refine GoW.by (T' := T18) (g' := (mkF m 102 #[.val (.int x0), .val (.int x1), .val (.int x2), .val (.int x3), .val (.int x4), .val (.int x5), .val (.int (Int32.ofNat A)), .val (.int (Int32.ofNat B)), .val (.int (0 : Int32)), .val (.int (Int32.ofNat (5 - A - B))), .val (.ref b3), .unset] [(.int x4), (.int (0 : Int32)), (.int (Int32.ofNat B)), (.int (Int32.ofNat A)), (.int (3 : Int32)), (.int (3 : Int32)), (.ref b3)])) (fun t_ k_ => XS.iload X18.here hx rfl (hb hby at_100) rfl k_) ?_
    have Od19 : Old Z n0 h18 := (Od14.wr W18 ge_b3)
    obtain ⟨_, _, ⟨T20, L20, k20, n20⟩, -, X20, ⟨Lc20, hQ20, l20, y20, z20⟩, st20⟩ := Jvm.LawKit.callS X18 hx (y := (⟨"com/example/refledger/refledger/PublicKeyTextTrimPinLaw", "place", "(IIIZI)C"⟩ : MethodName)) hown (mvT hZ (hw _ (List.mem_of_getElem? (i := 1) rfl))) (mvT hZ (hw _ (List.mem_of_getElem? (i := 2) rfl))) (mvT hZ (hw _ (List.mem_of_getElem? (i := 3) rfl))) (mvT hZ (hw _ (List.mem_of_getElem? (i := 4) rfl))) (by decide) (backOf (W := 2) (rm_place l Z a0 hw [] (3 : Int32) A B (0 : Int32) x4 3 h18 n0 Od19 rfl (by decide) hA hB) hZ (hw _ (List.mem_of_getElem? (i := 4) rfl)) (hw _ (List.mem_of_getElem? (i := 3) rfl)) (by decide) (by decide)) (g := (mkF m 102 #[.val (.int x0), .val (.int x1), .val (.int x2), .val (.int x3), .val (.int x4), .val (.int x5), .val (.int (Int32.ofNat A)), .val (.int (Int32.ofNat B)), .val (.int (0 : Int32)), .val (.int (Int32.ofNat (5 - A - B))), .val (.ref b3), .unset] [(.int x4), (.int (0 : Int32)), (.int (Int32.ofNat B)), (.int (Int32.ofNat A)), (.int (3 : Int32)), (.int (3 : Int32)), (.ref b3)])) rfl (by rw [hml]; rfl) (argsL := [(.int (3 : Int32)), (.int (Int32.ofNat A)), (.int (Int32.ofNat B)), (.int (0 : Int32)), (.int x4)]) (rest := [(.int (3 : Int32)), (.ref b3)]) (lenOf pd_13 rfl) rfl (by show 2 * 0 + _ ≤ _; exact Nat.le_of_eq rfl) (hb hby at_102) (fun _ _ => ⟨rfl, e18, (by decide : 1 + 0 ≤ _), (by decide : 5 + 0 ≤ _)⟩)
    dsimp only [Pt.U, Pt.locs, Pt.cells, Pt.slots] at X20 l20 y20 z20 st20 hQ20
    subst l20 y20 z20
    obtain ⟨cc_20, rfl, N20q, e20, G20_0⟩ := hQ20
    have N20 := Fr.app N18 N20q
    refine GoW.by (T' := T20) (g' := (mkF m 105 #[.val (.int x0), .val (.int x1), .val (.int x2), .val (.int x3), .val (.int x4), .val (.int x5), .val (.int (Int32.ofNat A)), .val (.int (Int32.ofNat B)), .val (.int (0 : Int32)), .val (.int (Int32.ofNat (5 - A - B))), .val (.ref b3), .unset] [(.int cc_20), (.int (3 : Int32)), (.ref b3)])) (fun t_ k_ => st20 _ k_) ?_
    have Kp22 : Keep h0 h18 [] := (Kp17.wr W18 (Or.inr sz_b3))
    obtain ⟨cl21, Ar21, q21, Sz21, Ng21, Hs21, Gs21⟩ := id V18
    obtain ⟨T23, h23, X23, e23, W23, st23⟩ := stC X20 hx hZ e20 Ar21 (j := (3 : Int32)) (inb_of Sz21 ⟨by decide, by decide⟩) (g := (mkF m 105 #[.val (.int x0), .val (.int x1), .val (.int x2), .val (.int x3), .val (.int x4), .val (.int x5), .val (.int (Int32.ofNat A)), .val (.int (Int32.ofNat B)), .val (.int (0 : Int32)), .val (.int (Int32.ofNat (5 - A - B))), .val (.ref b3), .unset] [(.int cc_20), (.int (3 : Int32)), (.ref b3)])) rfl rfl (hb hby at_105)
    have V23 : Arv Z h23 b3 kc3 .char (5 : Int32) [(.int (nar .char cc_5)), (.int (nar .char cc_10)), (.int (nar .char cc_15)), (.int (nar .char cc_20)), (.int (0 : Int32))] (.int (0 : Int32)) := Arv.set Ar21 q21 Sz21 Ng21 Hs21 Gs21 (fits_nar_char _) W23 3 rfl (Nat.le_of_ble_eq_true rfl)
    have N23 := Fr.snoc X23 N20 ge_b3
    refine GoW.by (T' := T23) (g' := (mkF m 106 #[.val (.int x0), .val (.int x1), .val (.int x2), .val (.int x3), .val (.int x4), .val (.int x5), .val (.int (Int32.ofNat A)), .val (.int (Int32.ofNat B)), .val (.int (0 : Int32)), .val (.int (Int32.ofNat (5 - A - B))), .val (.ref b3), .unset] [])) (fun t_ k_ => st23 _ k_) ?_
    refine GoW.by (T' := T23) (g' := (mkF m 108 #[.val (.int x0), .val (.int x1), .val (.int x2), .val (.int x3), .val (.int x4), .val (.int x5), .val (.int (Int32.ofNat A)), .val (.int (Int32.ofNat B)), .val (.int (0 : Int32)), .val (.int (Int32.ofNat (5 - A - B))), .val (.ref b3), .unset] [(.ref b3)])) (fun t_ k_ => XS.aload X23.here hx rfl (hb hby at_106) rfl rfl k_) ?_
    refine GoW.by (T' := T23) (g' := (mkF m 109 #[.val (.int x0), .val (.int x1), .val (.int x2), .val (.int x3), .val (.int x4), .val (.int x5), .val (.int (Int32.ofNat A)), .val (.int (Int32.ofNat B)), .val (.int (0 : Int32)), .val (.int (Int32.ofNat (5 - A - B))), .val (.ref b3), .unset] [(.int (4 : Int32)), (.ref b3)])) (fun t_ k_ => XS.iconst X23.here hx rfl (hb hby at_108) k_) ?_
    refine GoW.by (T' := T23) (g' := (mkF m 110 #[.val (.int x0), .val (.int x1), .val (.int x2), .val (.int x3), .val (.int x4), .val (.int x5), .val (.int (Int32.ofNat A)), .val (.int (Int32.ofNat B)), .val (.int (0 : Int32)), .val (.int (Int32.ofNat (5 - A - B))), .val (.ref b3), .unset] [(.int (4 : Int32)), (.int (4 : Int32)), (.ref b3)])) (fun t_ k_ => XS.iconst X23.here hx rfl (hb hby at_109) k_) ?_
    refine GoW.by (T' := T23) (g' := (mkF m 112 #[.val (.int x0), .val (.int x1), .val (.int x2), .val (.int x3), .val (.int x4), .val (.int x5), .val (.int (Int32.ofNat A)), .val (.int (Int32.ofNat B)), .val (.int (0 : Int32)), .val (.int (Int32.ofNat (5 - A - B))), .val (.ref b3), .unset] [(.int (Int32.ofNat A)), (.int (4 : Int32)), (.int (4 : Int32)), (.ref b3)])) (fun t_ k_ => XS.iload X23.here hx rfl (hb hby at_110) rfl k_) ?_
    refine GoW.by (T' := T23) (g' := (mkF m 114 #[.val (.int x0), .val (.int x1), .val (.int x2), .val (.int x3), .val (.int x4), .val (.int x5), .val (.int (Int32.ofNat A)), .val (.int (Int32.ofNat B)), .val (.int (0 : Int32)), .val (.int (Int32.ofNat (5 - A - B))), .val (.ref b3), .unset] [(.int (Int32.ofNat B)), (.int (Int32.ofNat A)), (.int (4 : Int32)), (.int (4 : Int32)), (.ref b3)])) (fun t_ k_ => XS.iload X23.here hx rfl (hb hby at_112) rfl k_) ?_
    refine GoW.by (T' := T23) (g' := (mkF m 116 #[.val (.int x0), .val (.int x1), .val (.int x2), .val (.int x3), .val (.int x4), .val (.int x5), .val (.int (Int32.ofNat A)), .val (.int (Int32.ofNat B)), .val (.int (0 : Int32)), .val (.int (Int32.ofNat (5 - A - B))), .val (.ref b3), .unset] [(.int (0 : Int32)), (.int (Int32.ofNat B)), (.int (Int32.ofNat A)), (.int (4 : Int32)), (.int (4 : Int32)), (.ref b3)])) (fun t_ k_ => XS.iload X23.here hx rfl (hb hby at_114) rfl k_) ?_
    refine GoW.by (T' := T23) (g' := (mkF m 118 #[.val (.int x0), .val (.int x1), .val (.int x2), .val (.int x3), .val (.int x4), .val (.int x5), .val (.int (Int32.ofNat A)), .val (.int (Int32.ofNat B)), .val (.int (0 : Int32)), .val (.int (Int32.ofNat (5 - A - B))), .val (.ref b3), .unset] [(.int x5), (.int (0 : Int32)), (.int (Int32.ofNat B)), (.int (Int32.ofNat A)), (.int (4 : Int32)), (.int (4 : Int32)), (.ref b3)])) (fun t_ k_ => XS.iload X23.here hx rfl (hb hby at_116) rfl k_) ?_
    have Od24 : Old Z n0 h23 := (Od19.wr W23 ge_b3)
    obtain ⟨_, _, ⟨T25, L25, k25, n25⟩, -, X25, ⟨Lc25, hQ25, l25, y25, z25⟩, st25⟩ := Jvm.LawKit.callS X23 hx (y := (⟨"com/example/refledger/refledger/PublicKeyTextTrimPinLaw", "place", "(IIIZI)C"⟩ : MethodName)) hown (mvT hZ (hw _ (List.mem_of_getElem? (i := 1) rfl))) (mvT hZ (hw _ (List.mem_of_getElem? (i := 2) rfl))) (mvT hZ (hw _ (List.mem_of_getElem? (i := 3) rfl))) (mvT hZ (hw _ (List.mem_of_getElem? (i := 4) rfl))) (by decide) (backOf (W := 2) (rm_place l Z a0 hw [] (4 : Int32) A B (0 : Int32) x5 4 h23 n0 Od24 rfl (by decide) hA hB) hZ (hw _ (List.mem_of_getElem? (i := 4) rfl)) (hw _ (List.mem_of_getElem? (i := 3) rfl)) (by decide) (by decide)) (g := (mkF m 118 #[.val (.int x0), .val (.int x1), .val (.int x2), .val (.int x3), .val (.int x4), .val (.int x5), .val (.int (Int32.ofNat A)), .val (.int (Int32.ofNat B)), .val (.int (0 : Int32)), .val (.int (Int32.ofNat (5 - A - B))), .val (.ref b3), .unset] [(.int x5), (.int (0 : Int32)), (.int (Int32.ofNat B)), (.int (Int32.ofNat A)), (.int (4 : Int32)), (.int (4 : Int32)), (.ref b3)])) rfl (by rw [hml]; rfl) (argsL := [(.int (4 : Int32)), (.int (Int32.ofNat A)), (.int (Int32.ofNat B)), (.int (0 : Int32)), (.int x5)]) (rest := [(.int (4 : Int32)), (.ref b3)]) (lenOf pd_13 rfl) rfl (by show 2 * 0 + _ ≤ _; exact Nat.le_of_eq rfl) (hb hby at_118) (fun _ _ => ⟨rfl, e23, (by decide : 1 + 0 ≤ _), (by decide : 5 + 0 ≤ _)⟩)
    dsimp only [Pt.U, Pt.locs, Pt.cells, Pt.slots] at X25 l25 y25 z25 st25 hQ25
    subst l25 y25 z25
    obtain ⟨cc_25, rfl, N25q, e25, G25_0⟩ := hQ25
    have N25 := Fr.app N23 N25q
    refine GoW.by (T' := T25) (g' := (mkF m 121 #[.val (.int x0), .val (.int x1), .val (.int x2), .val (.int x3), .val (.int x4), .val (.int x5), .val (.int (Int32.ofNat A)), .val (.int (Int32.ofNat B)), .val (.int (0 : Int32)), .val (.int (Int32.ofNat (5 - A - B))), .val (.ref b3), .unset] [(.int cc_25), (.int (4 : Int32)), (.ref b3)])) (fun t_ k_ => st25 _ k_) ?_
    have Kp27 : Keep h0 h23 [] := (Kp22.wr W23 (Or.inr sz_b3))
    obtain ⟨cl26, Ar26, q26, Sz26, Ng26, Hs26, Gs26⟩ := id V23
    obtain ⟨T28, h28, X28, e28, W28, st28⟩ := stC X25 hx hZ e25 Ar26 (j := (4 : Int32)) (inb_of Sz26 ⟨by decide, by decide⟩) (g := (mkF m 121 #[.val (.int x0), .val (.int x1), .val (.int x2), .val (.int x3), .val (.int x4), .val (.int x5), .val (.int (Int32.ofNat A)), .val (.int (Int32.ofNat B)), .val (.int (0 : Int32)), .val (.int (Int32.ofNat (5 - A - B))), .val (.ref b3), .unset] [(.int cc_25), (.int (4 : Int32)), (.ref b3)])) rfl rfl (hb hby at_121)
    have V28 : Arv Z h28 b3 kc3 .char (5 : Int32) [(.int (nar .char cc_5)), (.int (nar .char cc_10)), (.int (nar .char cc_15)), (.int (nar .char cc_20)), (.int (nar .char cc_25))] (.int (0 : Int32)) := Arv.set Ar26 q26 Sz26 Ng26 Hs26 Gs26 (fits_nar_char _) W28 4 rfl (Nat.le_of_ble_eq_true rfl)
    have N28 := Fr.snoc X28 N25 ge_b3
    refine GoW.by (T' := T28) (g' := (mkF m 122 #[.val (.int x0), .val (.int x1), .val (.int x2), .val (.int x3), .val (.int x4), .val (.int x5), .val (.int (Int32.ofNat A)), .val (.int (Int32.ofNat B)), .val (.int (0 : Int32)), .val (.int (Int32.ofNat (5 - A - B))), .val (.ref b3), .unset] [])) (fun t_ k_ => st28 _ k_) ?_
    obtain ⟨cs, hcs⟩ : ∃ z : List Int32, z = [cc_5, cc_10, cc_15, cc_20, cc_25] := ⟨_, rfl⟩
    have V29 : Arv Z h28 b3 kc3 .char (5 : Int32) (cs.map Value.int) (.int (0 : Int32)) := by have q := V28; rw [own_narc G5_0.1, own_narc G10_0.1, own_narc G15_0.1, own_narc G20_0.1, own_narc G25_0.1] at q; rw [hcs]; exact q
    have hlen : cs.length = 5 := by rw [hcs]; rfl
    have hp : ∀ c ∈ cs, ¬ c < 0 ∧ ¬ (255 : Int32) < c := by
      rw [hcs]; intro c hc
      simp only [List.mem_cons, List.not_mem_nil, or_false] at hc
      rcases hc with rfl | rfl | rfl | rfl | rfl
      · exact G5_0.1
      · exact G10_0.1
      · exact G15_0.1
      · exact G20_0.1
      · exact G25_0.1
    refine GoW.by (T' := T28) (g' := (mkF m 124 #[.val (.int x0), .val (.int x1), .val (.int x2), .val (.int x3), .val (.int x4), .val (.int x5), .val (.int (Int32.ofNat A)), .val (.int (Int32.ofNat B)), .val (.int (0 : Int32)), .val (.int (Int32.ofNat (5 - A - B))), .val (.ref b3), .unset] [(.int (0 : Int32))])) (fun t_ k_ => XS.iload X28.here hx rfl (hb hby at_122) rfl k_) ?_
    refine GoW.by (T' := T28) (g' := (mkF m 127 #[.val (.int x0), .val (.int x1), .val (.int x2), .val (.int x3), .val (.int x4), .val (.int x5), .val (.int (Int32.ofNat A)), .val (.int (Int32.ofNat B)), .val (.int (0 : Int32)), .val (.int (Int32.ofNat (5 - A - B))), .val (.ref b3), .unset] [])) (fun t_ k_ => XS.ifNo X28.here hx rfl (hb hby at_124) rfl ((if0 _ _).trans (teq rfl).2) k_) ?_
    have hbA : ∀ i, i < A → own_bl (cs.getD i 0) := by
      intro i hi
      rw [hcs]
      have hi' : i = 0 ∨ i = 1 := by omega
      rcases hi' with rfl | rfl
      · exact G5_0.2.2.2 rfl (by omega) (by omega)
      · exact G10_0.2.2.2 rfl (by omega) (by omega)
    have hrB : ∀ i, 5 - B ≤ i → i < 5 → own_rm (cs.getD i 0) := by
      intro i hi1 hi
      rw [hcs]
      have hi' : i = 3 ∨ i = 4 := by omega
      rcases hi' with rfl | rfl
      · exact G20_0.2.2.1 (by omega)
      · exact G25_0.2.2.1 (by omega)
    have J179 : ∀ {T : State} {h : Heap} {L : List Loc} (ds : List Int32), Stand p l e room_1 s m #[(.int x0), (.int x1), (.int x2), (.int x3), (.int x4), (.int x5)] below meth c T L 1 5 → T.heap = h → Fr n0 L → Old Z n0 h → Keep h0 h [] → Arv Z h b3 kc3 .char (5 : Int32) (ds.map Value.int) (.int (0 : Int32)) → ds.length = 5 → (∀ c ∈ ds, ¬ c < 0 ∧ ¬ (255 : Int32) < c) → (∀ i, i < A → own_bl (ds.getD i 0)) → ¬ own_bl (ds.getD A 0) → (∀ i, 5 - B ≤ i → i < 5 → own_rm (ds.getD i 0)) → ¬ own_rm (ds.getD (4 - B) 0) → GoW p e below s (Q_law Z x0 x1 x2 x3 x4 x5 G1 G3 h0 n0) 24 1152 T (mkF m 179 #[.val (.int x0), .val (.int x1), .val (.int x2), .val (.int x3), .val (.int x4), .val (.int x5), .val (.int (Int32.ofNat A)), .val (.int (Int32.ofNat B)), .val (.int (0 : Int32)), .val (.int (Int32.ofNat (5 - A - B))), .val (.ref b3), .val (.int (Int32.ofNat (4 - B)))] []) := by
      intro T h L ds XJ eJ NJ OJ KJ FJ0 hlen hp hd1 hd2 hd3 hd4
      obtain ⟨T30, h30, X30, e30, E30, A30, Df30, -, st30⟩ := newO XJ hx hZ hown (hw _ (List.mem_of_getElem? (i := 8) rfl)) (hw _ (List.mem_of_getElem? (i := 9) rfl)) (hw _ (List.mem_of_getElem? (i := 10) rfl)) eJ (g := (mkF m 179 #[.val (.int x0), .val (.int x1), .val (.int x2), .val (.int x3), .val (.int x4), .val (.int x5), .val (.int (Int32.ofNat A)), .val (.int (Int32.ofNat B)), .val (.int (0 : Int32)), .val (.int (Int32.ofNat (5 - A - B))), .val (.ref b3), .val (.int (Int32.ofNat (4 - B)))] [])) rfl (hb hby at_179) (by decide) (by decide)
      obtain ⟨b30, g30⟩ : ∃ z, z = h.size := ⟨_, rfl⟩
      rw [← g30] at A30 Df30 st30
      have ge_b30 : n0 ≤ b30 := Nat.le_trans OJ.sz (Nat.le_of_eq g30.symm)
      have sz_b30 : h0.size ≤ b30 := Nat.le_trans KJ.1 (Nat.le_of_eq g30.symm)
      have ne_b3_b30 : ¬ (b3 = b30) := Nat.ne_of_lt (Nat.lt_of_lt_of_le FJ0.lt (Nat.le_of_eq g30.symm))
      have F31 : Fld Z h30 b30 "java/lang/String" "coder" "B" (.int (0 : Int32)) := Df30 (Or.inr (hw _ (List.mem_of_getElem? (i := 34) rfl))) (ty := .byte) (by decide)
      have F32 : Fld Z h30 b30 "java/lang/String" "value" "[B" .null := Df30 (Or.inr (hw _ (List.mem_of_getElem? (i := 36) rfl))) (ty := (.array .byte)) (by decide)
      refine GoW.by (T' := T30) (g' := (mkF m 182 #[.val (.int x0), .val (.int x1), .val (.int x2), .val (.int x3), .val (.int x4), .val (.int x5), .val (.int (Int32.ofNat A)), .val (.int (Int32.ofNat B)), .val (.int (0 : Int32)), .val (.int (Int32.ofNat (5 - A - B))), .val (.ref b3), .val (.int (Int32.ofNat (4 - B)))] [(.ref b30)])) (fun t_ k_ => st30 _ k_) ?_
      refine GoW.by (T' := T30) (g' := (mkF m 183 #[.val (.int x0), .val (.int x1), .val (.int x2), .val (.int x3), .val (.int x4), .val (.int x5), .val (.int (Int32.ofNat A)), .val (.int (Int32.ofNat B)), .val (.int (0 : Int32)), .val (.int (Int32.ofNat (5 - A - B))), .val (.ref b3), .val (.int (Int32.ofNat (4 - B)))] [(.ref b30), (.ref b30)])) (fun t_ k_ => XS.dup X30.here hx rfl (hb hby at_182) rfl rfl k_) ?_
      refine GoW.by (T' := T30) (g' := (mkF m 185 #[.val (.int x0), .val (.int x1), .val (.int x2), .val (.int x3), .val (.int x4), .val (.int x5), .val (.int (Int32.ofNat A)), .val (.int (Int32.ofNat B)), .val (.int (0 : Int32)), .val (.int (Int32.ofNat (5 - A - B))), .val (.ref b3), .val (.int (Int32.ofNat (4 - B)))] [(.ref b3), (.ref b30), (.ref b30)])) (fun t_ k_ => XS.aload X30.here hx rfl (hb hby at_183) rfl rfl k_) ?_
      have F33 : Arv Z h30 b3 kc3 .char (5 : Int32) (ds.map Value.int) (.int (0 : Int32)) := (FJ0.ext E30)
      have Od34 : Old Z n0 h30 := (OJ.ext E30)
      have Kp35 : Keep h0 h30 [] := (KJ.ext E30)
      have hp36 : ∀ c ∈ ds, ¬ c < 0 ∧ ¬ (255 : Int32) < c := hp
      obtain ⟨_, _, ⟨T37, L37, k37, n37⟩, -, X37, ⟨Lc37, hQ37, l37, y37, z37⟩, st37⟩ := X30.specialBack hx (y := (⟨"java/lang/String", "<init>", "([C)V"⟩ : MethodName)) rfl hown (mvT hZ (hw _ (List.mem_of_getElem? (i := 11) rfl))) (mvT hZ (hw _ (List.mem_of_getElem? (i := 12) rfl))) (mvT hZ (hw _ (List.mem_of_getElem? (i := 13) rfl))) (by decide) (StrChars.Road.backV (W := 1) hZ (own_words hw) (kI := 4) (hw _ (List.mem_of_getElem? (i := 9) rfl)) (cs := ds) (bs := ds.map (fun c => c.toInt8.toInt32)) (n := 5) ge_b30 Od34.sz A30 F32 F31 F33 (P0.ext Od34.2) hCS hlen rfl (by decide) (by decide) hp36 rfl (by decide) (by decide)) (g := (mkF m 185 #[.val (.int x0), .val (.int x1), .val (.int x2), .val (.int x3), .val (.int x4), .val (.int x5), .val (.int (Int32.ofNat A)), .val (.int (Int32.ofNat B)), .val (.int (0 : Int32)), .val (.int (Int32.ofNat (5 - A - B))), .val (.ref b3), .val (.int (Int32.ofNat (4 - B)))] [(.ref b3), (.ref b30), (.ref b30)])) rfl (by rw [hml]; rfl) (Steps.refl _) (a := b30) (argsL := [(.ref b3)]) (rest := [(.ref b30)]) (lenOf pd_14 rfl) rfl (by show 2 * 0 + _ ≤ _; exact Nat.le_of_eq rfl) (hb hby at_185) (fun _ _ => ⟨rfl, e30, (by decide : 2 + 1 ≤ _), (by decide : 9 + 5 ≤ _)⟩)
      dsimp only [Pt.U, Pt.locs, Pt.cells, Pt.slots] at X37 l37 y37 z37 st37 hQ37
      subst l37 y37 z37
      obtain ⟨rfl, N37q, K37, Ea37, Fc37, t37, kb37, ge_t37, nw37, nx37, Fv37, Va37⟩ := hQ37
      have N37 := Fr.app NJ N37q
      have sz_t37 : h0.size ≤ t37 := Nat.le_trans Kp35.1 nw37
      have ne_b3_t37 : ¬ (b3 = t37) := Nat.ne_of_lt (Nat.lt_of_lt_of_le F33.lt nw37)
      refine GoW.by (T' := T37) (g' := (mkF m 188 #[.val (.int x0), .val (.int x1), .val (.int x2), .val (.int x3), .val (.int x4), .val (.int x5), .val (.int (Int32.ofNat A)), .val (.int (Int32.ofNat B)), .val (.int (0 : Int32)), .val (.int (Int32.ofNat (5 - A - B))), .val (.ref b3), .val (.int (Int32.ofNat (4 - B)))] [(.ref b30)])) (fun t_ k_ => st37.trans k_) ?_
      have Od38 : Old Z n0 T37.heap := (Od34.keep K37 (allS ge_b30 all0))
      obtain ⟨_, _, ⟨T39, L39, k39, n39⟩, -, X39, ⟨Lc39, hQ39, l39, y39, z39⟩, st39⟩ := Jvm.LawKit.callS X37 hx (y := (⟨"com/example/refledger/refledger/PublicKeyText", "trim", "(Ljava/lang/String;)Ljava/lang/String;"⟩ : MethodName)) hown (mvT hZ (hw _ (List.mem_of_getElem? (i := 37) rfl))) (mvT hZ (hw _ (List.mem_of_getElem? (i := 38) rfl))) (mvT hZ (hw _ (List.mem_of_getElem? (i := 39) rfl))) (mvT hZ (hw _ (List.mem_of_getElem? (i := 40) rfl))) (by decide) (backOf (W := 0) (rm_trimN l Z a0 hw [] b30 t37 kb37 ds A (5 - B) G1 G3 T37.heap n0 Od38 Ea37 Fv37 Fc37 Va37 hp hlen (by omega) hd1 (Or.inr hd2) (by omega) (by omega) hd3 (by omega) (by rw [show 5 - B - 1 = 4 - B by omega]; exact hd4) P0 hCS P2 hSF) hZ (hw _ (List.mem_of_getElem? (i := 40) rfl)) (hw _ (List.mem_of_getElem? (i := 39) rfl)) (by decide) (by decide)) (g := (mkF m 188 #[.val (.int x0), .val (.int x1), .val (.int x2), .val (.int x3), .val (.int x4), .val (.int x5), .val (.int (Int32.ofNat A)), .val (.int (Int32.ofNat B)), .val (.int (0 : Int32)), .val (.int (Int32.ofNat (5 - A - B))), .val (.ref b3), .val (.int (Int32.ofNat (4 - B)))] [(.ref b30)])) rfl (by rw [hml]; rfl) (argsL := [(.ref b30)]) (rest := []) (lenOf pd_15 rfl) rfl (by show 2 * 0 + _ ≤ _; exact Nat.le_of_eq rfl) (hb hby at_188) (fun _ _ => ⟨rfl, rfl, (by decide : 3 + 2 ≤ _), (by decide : 14 + 9 ≤ _)⟩)
      dsimp only [Pt.U, Pt.locs, Pt.cells, Pt.slots] at X39 l39 y39 z39 st39 hQ39
      subst l39 y39 z39
      obtain ⟨r_39, t_39, k2_39, rfl, N39q, K39, G39_0, G39_1, G39_2, G39_3⟩ := hQ39
      have N39 := Fr.app N37 N39q
      refine GoW.by (T' := T39) (g' := (mkF m 191 #[.val (.int x0), .val (.int x1), .val (.int x2), .val (.int x3), .val (.int x4), .val (.int x5), .val (.int (Int32.ofNat A)), .val (.int (Int32.ofNat B)), .val (.int (0 : Int32)), .val (.int (Int32.ofNat (5 - A - B))), .val (.ref b3), .val (.int (Int32.ofNat (4 - B)))] [(.ref r_39)])) (fun t_ k_ => st39 _ k_) ?_
      refine GoW.by (T' := T39) (g' := (mkF m 193 #[.val (.int x0), .val (.int x1), .val (.int x2), .val (.int x3), .val (.int x4), .val (.int x5), .val (.int (Int32.ofNat A)), .val (.int (Int32.ofNat B)), .val (.int (0 : Int32)), .val (.int (Int32.ofNat (5 - A - B))), .val (.ref b3), .val (.ref r_39)] [])) (fun t_ k_ => XS.astore X39.here hx rfl (hb hby at_191) rfl rfl (l' := #[.val (.int x0), .val (.int x1), .val (.int x2), .val (.int x3), .val (.int x4), .val (.int x5), .val (.int (Int32.ofNat A)), .val (.int (Int32.ofNat B)), .val (.int (0 : Int32)), .val (.int (Int32.ofNat (5 - A - B))), .val (.ref b3), .val (.ref r_39)]) rfl k_) ?_
      refine GoW.by (T' := T39) (g' := (mkF m 195 #[.val (.int x0), .val (.int x1), .val (.int x2), .val (.int x3), .val (.int x4), .val (.int x5), .val (.int (Int32.ofNat A)), .val (.int (Int32.ofNat B)), .val (.int (0 : Int32)), .val (.int (Int32.ofNat (5 - A - B))), .val (.ref b3), .val (.ref r_39)] [(.int (0 : Int32))])) (fun t_ k_ => XS.iload X39.here hx rfl (hb hby at_193) rfl k_) ?_
      refine GoW.by (T' := T39) (g' := (mkF m 204 #[.val (.int x0), .val (.int x1), .val (.int x2), .val (.int x3), .val (.int x4), .val (.int x5), .val (.int (Int32.ofNat A)), .val (.int (Int32.ofNat B)), .val (.int (0 : Int32)), .val (.int (Int32.ofNat (5 - A - B))), .val (.ref b3), .val (.ref r_39)] [])) (fun t_ k_ => XS.ifYes X39.here hx rfl (pc0 := 195) (pc' := 204) rfl (hb hby at_195) rfl ((if0 _ _).trans (teq rfl).1) (by decide) (by decide) k_) ?_
      refine GoW.by (T' := T39) (g' := (mkF m 206 #[.val (.int x0), .val (.int x1), .val (.int x2), .val (.int x3), .val (.int x4), .val (.int x5), .val (.int (Int32.ofNat A)), .val (.int (Int32.ofNat B)), .val (.int (0 : Int32)), .val (.int (Int32.ofNat (5 - A - B))), .val (.ref b3), .val (.ref r_39)] [(.ref r_39)])) (fun t_ k_ => XS.aload X39.here hx rfl (hb hby at_204) rfl rfl k_) ?_
      obtain ⟨kN, hkN⟩ : ∃ z : Nat, z = 5 - B - A := ⟨_, rfl⟩
      obtain ⟨rs, hrs⟩ : ∃ z : List Int32, z = (ds.drop A).take (5 - B - A) := ⟨_, rfl⟩
      have V40 : Arv Z T39.heap t_39 k2_39 .byte (Int32.ofNat kN) ((rs.map (fun c => c.toInt8.toInt32)).map Value.int) (.int (0 : Int32)) := by rw [hkN, hrs]; exact G39_3
      have hrl : rs.length = kN := by rw [hrs, hkN]; simp; omega
      have hrp : ∀ c ∈ rs, ¬ c < 0 ∧ ¬ (255 : Int32) < c := fun c hc => hp c (List.mem_of_mem_drop (List.mem_of_mem_take (hrs ▸ hc)))
      have hsm : ∀ i, i < kN → rs.getD i 0 = ds.getD (A + i) 0 := fun i hi => by rw [hrs]; exact own_sub_at (by omega)
      have hcd : StrChars.Road.CodA rs 0 (Int32.ofNat kN) ((rs.map (fun c => c.toInt8.toInt32)).map Value.int) := StrChars.Road.codOf (n := kN) hrl (fun x hx => (hrp x hx).2)
      have hup := own_up rs hrp
      have Od41 : Old Z n0 T39.heap := (Od38.keep K39 all0)
      obtain ⟨cq42, kq42, q42a, q42b, q42c⟩ := isOf hZ rfl G39_0
      obtain ⟨_, _, ⟨T42, L42, k42, n42⟩, -, X42, ⟨Lc42, hQ42, l42, y42, z42⟩, st42⟩ := X39.virtualBack hx (y := (⟨"java/lang/String", "length", "()I"⟩ : MethodName)) (z := (⟨"java/lang/String", "length", "()I"⟩ : MethodName)) hown (mvT hZ (hw _ (List.mem_of_getElem? (i := 91) rfl))) (mvT hZ (hw _ (List.mem_of_getElem? (i := 45) rfl))) (notFace_of_selects (args := #[]) (mvT hZ (hw _ (List.mem_of_getElem? (i := 47) rfl)))) (mvT hZ (hw _ (List.mem_of_getElem? (i := 47) rfl))) (mvT hZ (hw _ (List.mem_of_getElem? (i := 46) rfl))) (by decide) (StrChars.Road.lenW (W := 0) hZ (own_wordsLen hw) (kI := 4) (hw _ (List.mem_of_getElem? (i := 9) rfl)) G39_0 G39_1 G39_2 V40 hcd hup (P0.ext Od41.2) hCS (by rw [hrl]; omega) (by decide) (by decide)) q42a q42c (g := (mkF m 206 #[.val (.int x0), .val (.int x1), .val (.int x2), .val (.int x3), .val (.int x4), .val (.int x5), .val (.int (Int32.ofNat A)), .val (.int (Int32.ofNat B)), .val (.int (0 : Int32)), .val (.int (Int32.ofNat (5 - A - B))), .val (.ref b3), .val (.ref r_39)] [(.ref r_39)])) rfl (by rw [hml]; rfl) (Steps.refl _) (argsL := []) (rest := []) (lenOf pd_1 rfl) rfl (by show 2 * 0 + _ ≤ _; exact Nat.le_of_eq rfl) (hb hby at_206) (fun _ _ => ⟨rfl, rfl, (by decide : 5 + 0 ≤ _), (by decide : 23 + 0 ≤ _)⟩)
      dsimp only [Pt.U, Pt.locs, Pt.cells, Pt.slots] at X42 l42 y42 z42 st42 hQ42
      subst l42 y42 z42
      obtain ⟨rfl, rfl, e42⟩ := hQ42
      have N42 := Fr.app N39 (Fr.nil n0)
      refine GoW.by (T' := T42) (g' := (mkF m 209 #[.val (.int x0), .val (.int x1), .val (.int x2), .val (.int x3), .val (.int x4), .val (.int x5), .val (.int (Int32.ofNat A)), .val (.int (Int32.ofNat B)), .val (.int (0 : Int32)), .val (.int (Int32.ofNat (5 - A - B))), .val (.ref b3), .val (.ref r_39)] [(.int (Int32.ofNat rs.length))])) (fun t_ k_ => st42.trans k_) ?_
      refine GoW.by (T' := T42) (g' := (mkF m 211 #[.val (.int x0), .val (.int x1), .val (.int x2), .val (.int x3), .val (.int x4), .val (.int x5), .val (.int (Int32.ofNat A)), .val (.int (Int32.ofNat B)), .val (.int (0 : Int32)), .val (.int (Int32.ofNat (5 - A - B))), .val (.ref b3), .val (.ref r_39)] [(.int (Int32.ofNat (5 - A - B))), (.int (Int32.ofNat rs.length))])) (fun t_ k_ => XS.iload X42.here hx rfl (hb hby at_209) rfl k_) ?_
      refine GoW.by (T' := T42) (g' := (mkF m 214 #[.val (.int x0), .val (.int x1), .val (.int x2), .val (.int x3), .val (.int x4), .val (.int x5), .val (.int (Int32.ofNat A)), .val (.int (Int32.ofNat B)), .val (.int (0 : Int32)), .val (.int (Int32.ofNat (5 - A - B))), .val (.ref b3), .val (.ref r_39)] [])) (fun t_ k_ => XS.icmpNo X42.here hx rfl (hb hby at_211) rfl (teq (by rw [hrl, hkN]; exact congrArg Int32.ofNat (by omega))).2 k_) ?_
      rw [show 5 - A - B = kN by omega]
      refine GoW.by (T' := T42) (g' := (mkF m 216 #[.val (.int x0), .val (.int x1), .val (.int x2), .val (.int x3), .val (.int x4), .val (.int x5), .val (.int (Int32.ofNat A)), .val (.int (Int32.ofNat B)), .val (.int (0 : Int32)), .val (.int (Int32.ofNat kN)), .val (.ref b3), .val (.ref r_39)] [(.ref r_39)])) (fun t_ k_ => XS.aload X42.here hx rfl (hb hby at_214) rfl rfl k_) ?_
      refine GoW.by (T' := T42) (g' := (mkF m 217 #[.val (.int x0), .val (.int x1), .val (.int x2), .val (.int x3), .val (.int x4), .val (.int x5), .val (.int (Int32.ofNat A)), .val (.int (Int32.ofNat B)), .val (.int (0 : Int32)), .val (.int (Int32.ofNat kN)), .val (.ref b3), .val (.ref r_39)] [(.int (0 : Int32)), (.ref r_39)])) (fun t_ k_ => XS.iconst X42.here hx rfl (hb hby at_216) k_) ?_
      refine GoW.by (T' := T42) (g' := (mkF m 219 #[.val (.int x0), .val (.int x1), .val (.int x2), .val (.int x3), .val (.int x4), .val (.int x5), .val (.int (Int32.ofNat A)), .val (.int (Int32.ofNat B)), .val (.int (0 : Int32)), .val (.int (Int32.ofNat kN)), .val (.ref b3), .val (.ref r_39)] [(.int (Int32.ofNat kN)), (.int (0 : Int32)), (.ref r_39)])) (fun t_ k_ => XS.iload X42.here hx rfl (hb hby at_217) rfl k_) ?_
      refine GoW.by (T' := T42) (g' := (mkF m 221 #[.val (.int x0), .val (.int x1), .val (.int x2), .val (.int x3), .val (.int x4), .val (.int x5), .val (.int (Int32.ofNat A)), .val (.int (Int32.ofNat B)), .val (.int (0 : Int32)), .val (.int (Int32.ofNat kN)), .val (.ref b3), .val (.ref r_39)] [(.ref b3), (.int (Int32.ofNat kN)), (.int (0 : Int32)), (.ref r_39)])) (fun t_ k_ => XS.aload X42.here hx rfl (hb hby at_219) rfl rfl k_) ?_
      refine GoW.by (T' := T42) (g' := (mkF m 223 #[.val (.int x0), .val (.int x1), .val (.int x2), .val (.int x3), .val (.int x4), .val (.int x5), .val (.int (Int32.ofNat A)), .val (.int (Int32.ofNat B)), .val (.int (0 : Int32)), .val (.int (Int32.ofNat kN)), .val (.ref b3), .val (.ref r_39)] [(.int (Int32.ofNat A)), (.ref b3), (.int (Int32.ofNat kN)), (.int (0 : Int32)), (.ref r_39)])) (fun t_ k_ => XS.iload X42.here hx rfl (hb hby at_221) rfl k_) ?_
      have F43 : Arv Z T39.heap b3 kc3 .char (5 : Int32) (ds.map Value.int) (.int (0 : Int32)) := ((F33.keep K37 (ninS ne_b3_b30 nin0)).keep K39 nin0)
      obtain ⟨_, _, ⟨T44, L44, k44, n44⟩, -, X44, ⟨Lc44, hQ44, l44, y44, z44⟩, st44⟩ := Jvm.LawKit.callS X42 hx (y := (⟨"com/example/refledger/refledger/PublicKeyTextTrimPinLaw", "same", "(Ljava/lang/String;II[CI)Z"⟩ : MethodName)) hown (mvT hZ (hw _ (List.mem_of_getElem? (i := 92) rfl))) (mvT hZ (hw _ (List.mem_of_getElem? (i := 93) rfl))) (mvT hZ (hw _ (List.mem_of_getElem? (i := 3) rfl))) (mvT hZ (hw _ (List.mem_of_getElem? (i := 94) rfl))) (by decide) (backOf (W := 0) (rm_same l Z a0 hw [] r_39 t_39 k2_39 rs b3 kc3 ds (0 : Int32) 0 A kN G1 G3 T39.heap n0 Od41 G39_0 G39_1 G39_2 V40 F43 hlen hrp hrl rfl (by decide) (by omega) hsm P0 hCS P2 hSF) hZ (hw _ (List.mem_of_getElem? (i := 94) rfl)) (hw _ (List.mem_of_getElem? (i := 3) rfl)) (by decide) (by decide)) (g := (mkF m 223 #[.val (.int x0), .val (.int x1), .val (.int x2), .val (.int x3), .val (.int x4), .val (.int x5), .val (.int (Int32.ofNat A)), .val (.int (Int32.ofNat B)), .val (.int (0 : Int32)), .val (.int (Int32.ofNat kN)), .val (.ref b3), .val (.ref r_39)] [(.int (Int32.ofNat A)), (.ref b3), (.int (Int32.ofNat kN)), (.int (0 : Int32)), (.ref r_39)])) rfl (by rw [hml]; rfl) (argsL := [(.ref r_39), (.int (0 : Int32)), (.int (Int32.ofNat kN)), (.ref b3), (.int (Int32.ofNat A))]) (rest := []) (lenOf pd_16 rfl) rfl (by show 2 * 0 + _ ≤ _; exact Nat.le_of_eq rfl) (hb hby at_223) (fun _ _ => ⟨rfl, e42, (by decide : 5 + 0 ≤ _), (by decide : 23 + 0 ≤ _)⟩)
      dsimp only [Pt.U, Pt.locs, Pt.cells, Pt.slots] at X44 l44 y44 z44 st44 hQ44
      subst l44 y44 z44
      obtain ⟨rfl, N44q, e44⟩ := hQ44
      have N44 := Fr.app N42 N44q
      refine GoW.by (T' := T44) (g' := (mkF m 226 #[.val (.int x0), .val (.int x1), .val (.int x2), .val (.int x3), .val (.int x4), .val (.int x5), .val (.int (Int32.ofNat A)), .val (.int (Int32.ofNat B)), .val (.int (0 : Int32)), .val (.int (Int32.ofNat kN)), .val (.ref b3), .val (.ref r_39)] [(.int 1)])) (fun t_ k_ => st44 _ k_) ?_
      refine GoW.by (T' := T44) (g' := (mkF m 229 #[.val (.int x0), .val (.int x1), .val (.int x2), .val (.int x3), .val (.int x4), .val (.int x5), .val (.int (Int32.ofNat A)), .val (.int (Int32.ofNat B)), .val (.int (0 : Int32)), .val (.int (Int32.ofNat kN)), .val (.ref b3), .val (.ref r_39)] [])) (fun t_ k_ => XS.ifNo X44.here hx rfl (hb hby at_226) rfl ((if0 _ _).trans (feq (by decide)).1) k_) ?_
      refine GoW.by (T' := T44) (g' := (mkF m 231 #[.val (.int x0), .val (.int x1), .val (.int x2), .val (.int x3), .val (.int x4), .val (.int x5), .val (.int (Int32.ofNat A)), .val (.int (Int32.ofNat B)), .val (.int (0 : Int32)), .val (.int (Int32.ofNat kN)), .val (.ref b3), .val (.ref r_39)] [(.ref r_39)])) (fun t_ k_ => XS.aload X44.here hx rfl (hb hby at_229) rfl rfl k_) ?_
      refine GoW.by (T' := T44) (g' := (mkF m 232 #[.val (.int x0), .val (.int x1), .val (.int x2), .val (.int x3), .val (.int x4), .val (.int x5), .val (.int (Int32.ofNat A)), .val (.int (Int32.ofNat B)), .val (.int (0 : Int32)), .val (.int (Int32.ofNat kN)), .val (.ref b3), .val (.ref r_39)] [(.int (1 : Int32)), (.ref r_39)])) (fun t_ k_ => XS.iconst X44.here hx rfl (hb hby at_231) k_) ?_
      refine GoW.by (T' := T44) (g' := (mkF m 234 #[.val (.int x0), .val (.int x1), .val (.int x2), .val (.int x3), .val (.int x4), .val (.int x5), .val (.int (Int32.ofNat A)), .val (.int (Int32.ofNat B)), .val (.int (0 : Int32)), .val (.int (Int32.ofNat kN)), .val (.ref b3), .val (.ref r_39)] [(.int (Int32.ofNat kN)), (.int (1 : Int32)), (.ref r_39)])) (fun t_ k_ => XS.iload X44.here hx rfl (hb hby at_232) rfl k_) ?_
      refine GoW.by (T' := T44) (g' := (mkF m 236 #[.val (.int x0), .val (.int x1), .val (.int x2), .val (.int x3), .val (.int x4), .val (.int x5), .val (.int (Int32.ofNat A)), .val (.int (Int32.ofNat B)), .val (.int (0 : Int32)), .val (.int (Int32.ofNat kN)), .val (.ref b3), .val (.ref r_39)] [(.ref b3), (.int (Int32.ofNat kN)), (.int (1 : Int32)), (.ref r_39)])) (fun t_ k_ => XS.aload X44.here hx rfl (hb hby at_234) rfl rfl k_) ?_
      refine GoW.by (T' := T44) (g' := (mkF m 238 #[.val (.int x0), .val (.int x1), .val (.int x2), .val (.int x3), .val (.int x4), .val (.int x5), .val (.int (Int32.ofNat A)), .val (.int (Int32.ofNat B)), .val (.int (0 : Int32)), .val (.int (Int32.ofNat kN)), .val (.ref b3), .val (.ref r_39)] [(.int (Int32.ofNat A)), (.ref b3), (.int (Int32.ofNat kN)), (.int (1 : Int32)), (.ref r_39)])) (fun t_ k_ => XS.iload X44.here hx rfl (hb hby at_236) rfl k_) ?_
      obtain ⟨_, _, ⟨T45, L45, k45, n45⟩, -, X45, ⟨Lc45, hQ45, l45, y45, z45⟩, st45⟩ := Jvm.LawKit.callS X44 hx (y := (⟨"com/example/refledger/refledger/PublicKeyTextTrimPinLaw", "same", "(Ljava/lang/String;II[CI)Z"⟩ : MethodName)) hown (mvT hZ (hw _ (List.mem_of_getElem? (i := 92) rfl))) (mvT hZ (hw _ (List.mem_of_getElem? (i := 93) rfl))) (mvT hZ (hw _ (List.mem_of_getElem? (i := 3) rfl))) (mvT hZ (hw _ (List.mem_of_getElem? (i := 94) rfl))) (by decide) (backOf (W := 0) (rm_same l Z a0 hw [] r_39 t_39 k2_39 rs b3 kc3 ds (1 : Int32) 1 A kN G1 G3 T39.heap n0 Od41 G39_0 G39_1 G39_2 V40 F43 hlen hrp hrl rfl (by decide) (by omega) hsm P0 hCS P2 hSF) hZ (hw _ (List.mem_of_getElem? (i := 94) rfl)) (hw _ (List.mem_of_getElem? (i := 3) rfl)) (by decide) (by decide)) (g := (mkF m 238 #[.val (.int x0), .val (.int x1), .val (.int x2), .val (.int x3), .val (.int x4), .val (.int x5), .val (.int (Int32.ofNat A)), .val (.int (Int32.ofNat B)), .val (.int (0 : Int32)), .val (.int (Int32.ofNat kN)), .val (.ref b3), .val (.ref r_39)] [(.int (Int32.ofNat A)), (.ref b3), (.int (Int32.ofNat kN)), (.int (1 : Int32)), (.ref r_39)])) rfl (by rw [hml]; rfl) (argsL := [(.ref r_39), (.int (1 : Int32)), (.int (Int32.ofNat kN)), (.ref b3), (.int (Int32.ofNat A))]) (rest := []) (lenOf pd_16 rfl) rfl (by show 2 * 0 + _ ≤ _; exact Nat.le_of_eq rfl) (hb hby at_238) (fun _ _ => ⟨rfl, e44, (by decide : 5 + 0 ≤ _), (by decide : 23 + 0 ≤ _)⟩)
      dsimp only [Pt.U, Pt.locs, Pt.cells, Pt.slots] at X45 l45 y45 z45 st45 hQ45
      subst l45 y45 z45
      obtain ⟨rfl, N45q, e45⟩ := hQ45
      have N45 := Fr.app N44 N45q
      refine GoW.by (T' := T45) (g' := (mkF m 241 #[.val (.int x0), .val (.int x1), .val (.int x2), .val (.int x3), .val (.int x4), .val (.int x5), .val (.int (Int32.ofNat A)), .val (.int (Int32.ofNat B)), .val (.int (0 : Int32)), .val (.int (Int32.ofNat kN)), .val (.ref b3), .val (.ref r_39)] [(.int 1)])) (fun t_ k_ => st45 _ k_) ?_
      refine GoW.by (T' := T45) (g' := (mkF m 244 #[.val (.int x0), .val (.int x1), .val (.int x2), .val (.int x3), .val (.int x4), .val (.int x5), .val (.int (Int32.ofNat A)), .val (.int (Int32.ofNat B)), .val (.int (0 : Int32)), .val (.int (Int32.ofNat kN)), .val (.ref b3), .val (.ref r_39)] [])) (fun t_ k_ => XS.ifNo X45.here hx rfl (hb hby at_241) rfl ((if0 _ _).trans (feq (by decide)).1) k_) ?_
      refine GoW.by (T' := T45) (g' := (mkF m 246 #[.val (.int x0), .val (.int x1), .val (.int x2), .val (.int x3), .val (.int x4), .val (.int x5), .val (.int (Int32.ofNat A)), .val (.int (Int32.ofNat B)), .val (.int (0 : Int32)), .val (.int (Int32.ofNat kN)), .val (.ref b3), .val (.ref r_39)] [(.ref r_39)])) (fun t_ k_ => XS.aload X45.here hx rfl (hb hby at_244) rfl rfl k_) ?_
      refine GoW.by (T' := T45) (g' := (mkF m 247 #[.val (.int x0), .val (.int x1), .val (.int x2), .val (.int x3), .val (.int x4), .val (.int x5), .val (.int (Int32.ofNat A)), .val (.int (Int32.ofNat B)), .val (.int (0 : Int32)), .val (.int (Int32.ofNat kN)), .val (.ref b3), .val (.ref r_39)] [(.int (2 : Int32)), (.ref r_39)])) (fun t_ k_ => XS.iconst X45.here hx rfl (hb hby at_246) k_) ?_
      refine GoW.by (T' := T45) (g' := (mkF m 249 #[.val (.int x0), .val (.int x1), .val (.int x2), .val (.int x3), .val (.int x4), .val (.int x5), .val (.int (Int32.ofNat A)), .val (.int (Int32.ofNat B)), .val (.int (0 : Int32)), .val (.int (Int32.ofNat kN)), .val (.ref b3), .val (.ref r_39)] [(.int (Int32.ofNat kN)), (.int (2 : Int32)), (.ref r_39)])) (fun t_ k_ => XS.iload X45.here hx rfl (hb hby at_247) rfl k_) ?_
      refine GoW.by (T' := T45) (g' := (mkF m 251 #[.val (.int x0), .val (.int x1), .val (.int x2), .val (.int x3), .val (.int x4), .val (.int x5), .val (.int (Int32.ofNat A)), .val (.int (Int32.ofNat B)), .val (.int (0 : Int32)), .val (.int (Int32.ofNat kN)), .val (.ref b3), .val (.ref r_39)] [(.ref b3), (.int (Int32.ofNat kN)), (.int (2 : Int32)), (.ref r_39)])) (fun t_ k_ => XS.aload X45.here hx rfl (hb hby at_249) rfl rfl k_) ?_
      refine GoW.by (T' := T45) (g' := (mkF m 253 #[.val (.int x0), .val (.int x1), .val (.int x2), .val (.int x3), .val (.int x4), .val (.int x5), .val (.int (Int32.ofNat A)), .val (.int (Int32.ofNat B)), .val (.int (0 : Int32)), .val (.int (Int32.ofNat kN)), .val (.ref b3), .val (.ref r_39)] [(.int (Int32.ofNat A)), (.ref b3), (.int (Int32.ofNat kN)), (.int (2 : Int32)), (.ref r_39)])) (fun t_ k_ => XS.iload X45.here hx rfl (hb hby at_251) rfl k_) ?_
      obtain ⟨_, _, ⟨T46, L46, k46, n46⟩, -, X46, ⟨Lc46, hQ46, l46, y46, z46⟩, st46⟩ := Jvm.LawKit.callS X45 hx (y := (⟨"com/example/refledger/refledger/PublicKeyTextTrimPinLaw", "same", "(Ljava/lang/String;II[CI)Z"⟩ : MethodName)) hown (mvT hZ (hw _ (List.mem_of_getElem? (i := 92) rfl))) (mvT hZ (hw _ (List.mem_of_getElem? (i := 93) rfl))) (mvT hZ (hw _ (List.mem_of_getElem? (i := 3) rfl))) (mvT hZ (hw _ (List.mem_of_getElem? (i := 94) rfl))) (by decide) (backOf (W := 0) (rm_same l Z a0 hw [] r_39 t_39 k2_39 rs b3 kc3 ds (2 : Int32) 2 A kN G1 G3 T39.heap n0 Od41 G39_0 G39_1 G39_2 V40 F43 hlen hrp hrl rfl (by decide) (by omega) hsm P0 hCS P2 hSF) hZ (hw _ (List.mem_of_getElem? (i := 94) rfl)) (hw _ (List.mem_of_getElem? (i := 3) rfl)) (by decide) (by decide)) (g := (mkF m 253 #[.val (.int x0), .val (.int x1), .val (.int x2), .val (.int x3), .val (.int x4), .val (.int x5), .val (.int (Int32.ofNat A)), .val (.int (Int32.ofNat B)), .val (.int (0 : Int32)), .val (.int (Int32.ofNat kN)), .val (.ref b3), .val (.ref r_39)] [(.int (Int32.ofNat A)), (.ref b3), (.int (Int32.ofNat kN)), (.int (2 : Int32)), (.ref r_39)])) rfl (by rw [hml]; rfl) (argsL := [(.ref r_39), (.int (2 : Int32)), (.int (Int32.ofNat kN)), (.ref b3), (.int (Int32.ofNat A))]) (rest := []) (lenOf pd_16 rfl) rfl (by show 2 * 0 + _ ≤ _; exact Nat.le_of_eq rfl) (hb hby at_253) (fun _ _ => ⟨rfl, e45, (by decide : 5 + 0 ≤ _), (by decide : 23 + 0 ≤ _)⟩)
      dsimp only [Pt.U, Pt.locs, Pt.cells, Pt.slots] at X46 l46 y46 z46 st46 hQ46
      subst l46 y46 z46
      obtain ⟨rfl, N46q, e46⟩ := hQ46
      have N46 := Fr.app N45 N46q
      refine GoW.by (T' := T46) (g' := (mkF m 256 #[.val (.int x0), .val (.int x1), .val (.int x2), .val (.int x3), .val (.int x4), .val (.int x5), .val (.int (Int32.ofNat A)), .val (.int (Int32.ofNat B)), .val (.int (0 : Int32)), .val (.int (Int32.ofNat kN)), .val (.ref b3), .val (.ref r_39)] [(.int 1)])) (fun t_ k_ => st46 _ k_) ?_
      refine GoW.by (T' := T46) (g' := (mkF m 259 #[.val (.int x0), .val (.int x1), .val (.int x2), .val (.int x3), .val (.int x4), .val (.int x5), .val (.int (Int32.ofNat A)), .val (.int (Int32.ofNat B)), .val (.int (0 : Int32)), .val (.int (Int32.ofNat kN)), .val (.ref b3), .val (.ref r_39)] [])) (fun t_ k_ => XS.ifNo X46.here hx rfl (hb hby at_256) rfl ((if0 _ _).trans (feq (by decide)).1) k_) ?_
      refine GoW.by (T' := T46) (g' := (mkF m 261 #[.val (.int x0), .val (.int x1), .val (.int x2), .val (.int x3), .val (.int x4), .val (.int x5), .val (.int (Int32.ofNat A)), .val (.int (Int32.ofNat B)), .val (.int (0 : Int32)), .val (.int (Int32.ofNat kN)), .val (.ref b3), .val (.ref r_39)] [(.ref r_39)])) (fun t_ k_ => XS.aload X46.here hx rfl (hb hby at_259) rfl rfl k_) ?_
      refine GoW.by (T' := T46) (g' := (mkF m 262 #[.val (.int x0), .val (.int x1), .val (.int x2), .val (.int x3), .val (.int x4), .val (.int x5), .val (.int (Int32.ofNat A)), .val (.int (Int32.ofNat B)), .val (.int (0 : Int32)), .val (.int (Int32.ofNat kN)), .val (.ref b3), .val (.ref r_39)] [(.int (3 : Int32)), (.ref r_39)])) (fun t_ k_ => XS.iconst X46.here hx rfl (hb hby at_261) k_) ?_
      refine GoW.by (T' := T46) (g' := (mkF m 264 #[.val (.int x0), .val (.int x1), .val (.int x2), .val (.int x3), .val (.int x4), .val (.int x5), .val (.int (Int32.ofNat A)), .val (.int (Int32.ofNat B)), .val (.int (0 : Int32)), .val (.int (Int32.ofNat kN)), .val (.ref b3), .val (.ref r_39)] [(.int (Int32.ofNat kN)), (.int (3 : Int32)), (.ref r_39)])) (fun t_ k_ => XS.iload X46.here hx rfl (hb hby at_262) rfl k_) ?_
      refine GoW.by (T' := T46) (g' := (mkF m 266 #[.val (.int x0), .val (.int x1), .val (.int x2), .val (.int x3), .val (.int x4), .val (.int x5), .val (.int (Int32.ofNat A)), .val (.int (Int32.ofNat B)), .val (.int (0 : Int32)), .val (.int (Int32.ofNat kN)), .val (.ref b3), .val (.ref r_39)] [(.ref b3), (.int (Int32.ofNat kN)), (.int (3 : Int32)), (.ref r_39)])) (fun t_ k_ => XS.aload X46.here hx rfl (hb hby at_264) rfl rfl k_) ?_
      refine GoW.by (T' := T46) (g' := (mkF m 268 #[.val (.int x0), .val (.int x1), .val (.int x2), .val (.int x3), .val (.int x4), .val (.int x5), .val (.int (Int32.ofNat A)), .val (.int (Int32.ofNat B)), .val (.int (0 : Int32)), .val (.int (Int32.ofNat kN)), .val (.ref b3), .val (.ref r_39)] [(.int (Int32.ofNat A)), (.ref b3), (.int (Int32.ofNat kN)), (.int (3 : Int32)), (.ref r_39)])) (fun t_ k_ => XS.iload X46.here hx rfl (hb hby at_266) rfl k_) ?_
      obtain ⟨_, _, ⟨T47, L47, k47, n47⟩, -, X47, ⟨Lc47, hQ47, l47, y47, z47⟩, st47⟩ := Jvm.LawKit.callS X46 hx (y := (⟨"com/example/refledger/refledger/PublicKeyTextTrimPinLaw", "same", "(Ljava/lang/String;II[CI)Z"⟩ : MethodName)) hown (mvT hZ (hw _ (List.mem_of_getElem? (i := 92) rfl))) (mvT hZ (hw _ (List.mem_of_getElem? (i := 93) rfl))) (mvT hZ (hw _ (List.mem_of_getElem? (i := 3) rfl))) (mvT hZ (hw _ (List.mem_of_getElem? (i := 94) rfl))) (by decide) (backOf (W := 0) (rm_same l Z a0 hw [] r_39 t_39 k2_39 rs b3 kc3 ds (3 : Int32) 3 A kN G1 G3 T39.heap n0 Od41 G39_0 G39_1 G39_2 V40 F43 hlen hrp hrl rfl (by decide) (by omega) hsm P0 hCS P2 hSF) hZ (hw _ (List.mem_of_getElem? (i := 94) rfl)) (hw _ (List.mem_of_getElem? (i := 3) rfl)) (by decide) (by decide)) (g := (mkF m 268 #[.val (.int x0), .val (.int x1), .val (.int x2), .val (.int x3), .val (.int x4), .val (.int x5), .val (.int (Int32.ofNat A)), .val (.int (Int32.ofNat B)), .val (.int (0 : Int32)), .val (.int (Int32.ofNat kN)), .val (.ref b3), .val (.ref r_39)] [(.int (Int32.ofNat A)), (.ref b3), (.int (Int32.ofNat kN)), (.int (3 : Int32)), (.ref r_39)])) rfl (by rw [hml]; rfl) (argsL := [(.ref r_39), (.int (3 : Int32)), (.int (Int32.ofNat kN)), (.ref b3), (.int (Int32.ofNat A))]) (rest := []) (lenOf pd_16 rfl) rfl (by show 2 * 0 + _ ≤ _; exact Nat.le_of_eq rfl) (hb hby at_268) (fun _ _ => ⟨rfl, e46, (by decide : 5 + 0 ≤ _), (by decide : 23 + 0 ≤ _)⟩)
      dsimp only [Pt.U, Pt.locs, Pt.cells, Pt.slots] at X47 l47 y47 z47 st47 hQ47
      subst l47 y47 z47
      obtain ⟨rfl, N47q, e47⟩ := hQ47
      have N47 := Fr.app N46 N47q
      refine GoW.by (T' := T47) (g' := (mkF m 271 #[.val (.int x0), .val (.int x1), .val (.int x2), .val (.int x3), .val (.int x4), .val (.int x5), .val (.int (Int32.ofNat A)), .val (.int (Int32.ofNat B)), .val (.int (0 : Int32)), .val (.int (Int32.ofNat kN)), .val (.ref b3), .val (.ref r_39)] [(.int 1)])) (fun t_ k_ => st47 _ k_) ?_
      refine GoW.by (T' := T47) (g' := (mkF m 274 #[.val (.int x0), .val (.int x1), .val (.int x2), .val (.int x3), .val (.int x4), .val (.int x5), .val (.int (Int32.ofNat A)), .val (.int (Int32.ofNat B)), .val (.int (0 : Int32)), .val (.int (Int32.ofNat kN)), .val (.ref b3), .val (.ref r_39)] [])) (fun t_ k_ => XS.ifNo X47.here hx rfl (hb hby at_271) rfl ((if0 _ _).trans (feq (by decide)).1) k_) ?_
      refine GoW.by (T' := T47) (g' := (mkF m 276 #[.val (.int x0), .val (.int x1), .val (.int x2), .val (.int x3), .val (.int x4), .val (.int x5), .val (.int (Int32.ofNat A)), .val (.int (Int32.ofNat B)), .val (.int (0 : Int32)), .val (.int (Int32.ofNat kN)), .val (.ref b3), .val (.ref r_39)] [(.ref r_39)])) (fun t_ k_ => XS.aload X47.here hx rfl (hb hby at_274) rfl rfl k_) ?_
      refine GoW.by (T' := T47) (g' := (mkF m 277 #[.val (.int x0), .val (.int x1), .val (.int x2), .val (.int x3), .val (.int x4), .val (.int x5), .val (.int (Int32.ofNat A)), .val (.int (Int32.ofNat B)), .val (.int (0 : Int32)), .val (.int (Int32.ofNat kN)), .val (.ref b3), .val (.ref r_39)] [(.int (4 : Int32)), (.ref r_39)])) (fun t_ k_ => XS.iconst X47.here hx rfl (hb hby at_276) k_) ?_
      refine GoW.by (T' := T47) (g' := (mkF m 279 #[.val (.int x0), .val (.int x1), .val (.int x2), .val (.int x3), .val (.int x4), .val (.int x5), .val (.int (Int32.ofNat A)), .val (.int (Int32.ofNat B)), .val (.int (0 : Int32)), .val (.int (Int32.ofNat kN)), .val (.ref b3), .val (.ref r_39)] [(.int (Int32.ofNat kN)), (.int (4 : Int32)), (.ref r_39)])) (fun t_ k_ => XS.iload X47.here hx rfl (hb hby at_277) rfl k_) ?_
      refine GoW.by (T' := T47) (g' := (mkF m 281 #[.val (.int x0), .val (.int x1), .val (.int x2), .val (.int x3), .val (.int x4), .val (.int x5), .val (.int (Int32.ofNat A)), .val (.int (Int32.ofNat B)), .val (.int (0 : Int32)), .val (.int (Int32.ofNat kN)), .val (.ref b3), .val (.ref r_39)] [(.ref b3), (.int (Int32.ofNat kN)), (.int (4 : Int32)), (.ref r_39)])) (fun t_ k_ => XS.aload X47.here hx rfl (hb hby at_279) rfl rfl k_) ?_
      refine GoW.by (T' := T47) (g' := (mkF m 283 #[.val (.int x0), .val (.int x1), .val (.int x2), .val (.int x3), .val (.int x4), .val (.int x5), .val (.int (Int32.ofNat A)), .val (.int (Int32.ofNat B)), .val (.int (0 : Int32)), .val (.int (Int32.ofNat kN)), .val (.ref b3), .val (.ref r_39)] [(.int (Int32.ofNat A)), (.ref b3), (.int (Int32.ofNat kN)), (.int (4 : Int32)), (.ref r_39)])) (fun t_ k_ => XS.iload X47.here hx rfl (hb hby at_281) rfl k_) ?_
      obtain ⟨_, _, ⟨T48, L48, k48, n48⟩, -, X48, ⟨Lc48, hQ48, l48, y48, z48⟩, st48⟩ := Jvm.LawKit.callS X47 hx (y := (⟨"com/example/refledger/refledger/PublicKeyTextTrimPinLaw", "same", "(Ljava/lang/String;II[CI)Z"⟩ : MethodName)) hown (mvT hZ (hw _ (List.mem_of_getElem? (i := 92) rfl))) (mvT hZ (hw _ (List.mem_of_getElem? (i := 93) rfl))) (mvT hZ (hw _ (List.mem_of_getElem? (i := 3) rfl))) (mvT hZ (hw _ (List.mem_of_getElem? (i := 94) rfl))) (by decide) (backOf (W := 0) (rm_same l Z a0 hw [] r_39 t_39 k2_39 rs b3 kc3 ds (4 : Int32) 4 A kN G1 G3 T39.heap n0 Od41 G39_0 G39_1 G39_2 V40 F43 hlen hrp hrl rfl (by decide) (by omega) hsm P0 hCS P2 hSF) hZ (hw _ (List.mem_of_getElem? (i := 94) rfl)) (hw _ (List.mem_of_getElem? (i := 3) rfl)) (by decide) (by decide)) (g := (mkF m 283 #[.val (.int x0), .val (.int x1), .val (.int x2), .val (.int x3), .val (.int x4), .val (.int x5), .val (.int (Int32.ofNat A)), .val (.int (Int32.ofNat B)), .val (.int (0 : Int32)), .val (.int (Int32.ofNat kN)), .val (.ref b3), .val (.ref r_39)] [(.int (Int32.ofNat A)), (.ref b3), (.int (Int32.ofNat kN)), (.int (4 : Int32)), (.ref r_39)])) rfl (by rw [hml]; rfl) (argsL := [(.ref r_39), (.int (4 : Int32)), (.int (Int32.ofNat kN)), (.ref b3), (.int (Int32.ofNat A))]) (rest := []) (lenOf pd_16 rfl) rfl (by show 2 * 0 + _ ≤ _; exact Nat.le_of_eq rfl) (hb hby at_283) (fun _ _ => ⟨rfl, e47, (by decide : 5 + 0 ≤ _), (by decide : 23 + 0 ≤ _)⟩)
      dsimp only [Pt.U, Pt.locs, Pt.cells, Pt.slots] at X48 l48 y48 z48 st48 hQ48
      subst l48 y48 z48
      obtain ⟨rfl, N48q, e48⟩ := hQ48
      have N48 := Fr.app N47 N48q
      refine GoW.by (T' := T48) (g' := (mkF m 286 #[.val (.int x0), .val (.int x1), .val (.int x2), .val (.int x3), .val (.int x4), .val (.int x5), .val (.int (Int32.ofNat A)), .val (.int (Int32.ofNat B)), .val (.int (0 : Int32)), .val (.int (Int32.ofNat kN)), .val (.ref b3), .val (.ref r_39)] [(.int 1)])) (fun t_ k_ => st48 _ k_) ?_
      refine GoW.by (T' := T48) (g' := (mkF m 289 #[.val (.int x0), .val (.int x1), .val (.int x2), .val (.int x3), .val (.int x4), .val (.int x5), .val (.int (Int32.ofNat A)), .val (.int (Int32.ofNat B)), .val (.int (0 : Int32)), .val (.int (Int32.ofNat kN)), .val (.ref b3), .val (.ref r_39)] [])) (fun t_ k_ => XS.ifNo X48.here hx rfl (hb hby at_286) rfl ((if0 _ _).trans (feq (by decide)).1) k_) ?_
      refine GoW.by (T' := T48) (g' := (mkF m 290 #[.val (.int x0), .val (.int x1), .val (.int x2), .val (.int x3), .val (.int x4), .val (.int x5), .val (.int (Int32.ofNat A)), .val (.int (Int32.ofNat B)), .val (.int (0 : Int32)), .val (.int (Int32.ofNat kN)), .val (.ref b3), .val (.ref r_39)] [(.int (1 : Int32))])) (fun t_ k_ => XS.iconst X48.here hx rfl (hb hby at_289) k_) ?_
      refine GoW.by (T' := T48) (g' := (mkF m 294 #[.val (.int x0), .val (.int x1), .val (.int x2), .val (.int x3), .val (.int x4), .val (.int x5), .val (.int (Int32.ofNat A)), .val (.int (Int32.ofNat B)), .val (.int (0 : Int32)), .val (.int (Int32.ofNat kN)), .val (.ref b3), .val (.ref r_39)] [(.int (1 : Int32))])) (fun t_ k_ => XS.goto X48.here hx rfl (pc0 := 290) (pc' := 294) rfl (hb hby at_290) (by decide) (by decide) k_) ?_
      refine GoW.fin hS X48 (Nat.zero_le _) (v := some (.int (nar .boolean (1 : Int32)))) (fun h => by rw [Bd.returns] at h; cases h) hlk (by decide) (by decide) ?_ (fun fs hr => retN X48 hx (t := .boolean) Bd.returns (by simp) (hb hby at_294) hr)
      show Q_law Z x0 x1 x2 x3 x4 x5 G1 G3 h0 n0 _ T48.heap _
      rw [e48]
      exact ⟨rfl, N48⟩
    have J145 : ∀ {T : State} {h : Heap} {L : List Loc} (es : List Int32), Stand p l e room_1 s m #[(.int x0), (.int x1), (.int x2), (.int x3), (.int x4), (.int x5)] below meth c T L 1 5 → T.heap = h → Fr n0 L → Old Z n0 h → Keep h0 h [] → Arv Z h b3 kc3 .char (5 : Int32) (es.map Value.int) (.int (0 : Int32)) → es.length = 5 → (∀ c ∈ es, ¬ c < 0 ∧ ¬ (255 : Int32) < c) → (∀ i, i < A → own_bl (es.getD i 0)) → ¬ own_bl (es.getD A 0) → (∀ i, 5 - B ≤ i → i < 5 → own_rm (es.getD i 0)) → GoW p e below s (Q_law Z x0 x1 x2 x3 x4 x5 G1 G3 h0 n0) 24 1152 T (mkF m 145 #[.val (.int x0), .val (.int x1), .val (.int x2), .val (.int x3), .val (.int x4), .val (.int x5), .val (.int (Int32.ofNat A)), .val (.int (Int32.ofNat B)), .val (.int (0 : Int32)), .val (.int (Int32.ofNat (5 - A - B))), .val (.ref b3), .unset] []) := by
      intro T h L es XJ eJ NJ OJ KJ FJ0 hlen hp hd1 hd2 hd3
      refine GoW.by (T' := T) (g' := (mkF m 146 #[.val (.int x0), .val (.int x1), .val (.int x2), .val (.int x3), .val (.int x4), .val (.int x5), .val (.int (Int32.ofNat A)), .val (.int (Int32.ofNat B)), .val (.int (0 : Int32)), .val (.int (Int32.ofNat (5 - A - B))), .val (.ref b3), .unset] [(.int (4 : Int32))])) (fun t_ k_ => XS.iconst XJ.here hx rfl (hb hby at_145) k_) ?_
      refine GoW.by (T' := T) (g' := (mkF m 148 #[.val (.int x0), .val (.int x1), .val (.int x2), .val (.int x3), .val (.int x4), .val (.int x5), .val (.int (Int32.ofNat A)), .val (.int (Int32.ofNat B)), .val (.int (0 : Int32)), .val (.int (Int32.ofNat (5 - A - B))), .val (.ref b3), .unset] [(.int (Int32.ofNat B)), (.int (4 : Int32))])) (fun t_ k_ => XS.iload XJ.here hx rfl (hb hby at_146) rfl k_) ?_
      refine GoW.by (T' := T) (g' := (mkF m 149 #[.val (.int x0), .val (.int x1), .val (.int x2), .val (.int x3), .val (.int x4), .val (.int x5), .val (.int (Int32.ofNat A)), .val (.int (Int32.ofNat B)), .val (.int (0 : Int32)), .val (.int (Int32.ofNat (5 - A - B))), .val (.ref b3), .unset] [(.int ((4 : Int32) - (Int32.ofNat B)))])) (fun t_ k_ => XS.isub XJ.here hx rfl (hb hby at_148) rfl k_) ?_
      rw [show (4 : Int32) = Int32.ofNat 4 from rfl, own_sub (show B ≤ 4 by omega)]
      refine GoW.by (T' := T) (g' := (mkF m 151 #[.val (.int x0), .val (.int x1), .val (.int x2), .val (.int x3), .val (.int x4), .val (.int x5), .val (.int (Int32.ofNat A)), .val (.int (Int32.ofNat B)), .val (.int (0 : Int32)), .val (.int (Int32.ofNat (5 - A - B))), .val (.ref b3), .val (.int (Int32.ofNat (4 - B)))] [])) (fun t_ k_ => XS.istore XJ.here hx rfl (hb hby at_149) rfl (l' := #[.val (.int x0), .val (.int x1), .val (.int x2), .val (.int x3), .val (.int x4), .val (.int x5), .val (.int (Int32.ofNat A)), .val (.int (Int32.ofNat B)), .val (.int (0 : Int32)), .val (.int (Int32.ofNat (5 - A - B))), .val (.ref b3), .val (.int (Int32.ofNat (4 - B)))]) rfl k_) ?_
      refine GoW.by (T' := T) (g' := (mkF m 153 #[.val (.int x0), .val (.int x1), .val (.int x2), .val (.int x3), .val (.int x4), .val (.int x5), .val (.int (Int32.ofNat A)), .val (.int (Int32.ofNat B)), .val (.int (0 : Int32)), .val (.int (Int32.ofNat (5 - A - B))), .val (.ref b3), .val (.int (Int32.ofNat (4 - B)))] [(.ref b3)])) (fun t_ k_ => XS.aload XJ.here hx rfl (hb hby at_151) rfl rfl k_) ?_
      refine GoW.by (T' := T) (g' := (mkF m 155 #[.val (.int x0), .val (.int x1), .val (.int x2), .val (.int x3), .val (.int x4), .val (.int x5), .val (.int (Int32.ofNat A)), .val (.int (Int32.ofNat B)), .val (.int (0 : Int32)), .val (.int (Int32.ofNat (5 - A - B))), .val (.ref b3), .val (.int (Int32.ofNat (4 - B)))] [(.int (Int32.ofNat (4 - B))), (.ref b3)])) (fun t_ k_ => XS.iload XJ.here hx rfl (hb hby at_153) rfl k_) ?_
      obtain ⟨cl49, Ar49, q49, Sz49, Ng49, Hs49, Gs49⟩ := id FJ0
      have in49 := inb_of (j := (Int32.ofNat (4 - B))) Sz49 ⟨own_nn (by omega), by rw [show (5 : Int32) = Int32.ofNat 5 from rfl, own_lt (by omega) (by omega)]; omega⟩
      refine GoW.by (T' := T) (g' := (mkF m 156 #[.val (.int x0), .val (.int x1), .val (.int x2), .val (.int x3), .val (.int x4), .val (.int x5), .val (.int (Int32.ofNat A)), .val (.int (Int32.ofNat B)), .val (.int (0 : Int32)), .val (.int (Int32.ofNat (5 - A - B))), .val (.ref b3), .val (.int (Int32.ofNat (4 - B)))] [(.int (es.getD (4 - B) 0))])) (fun t_ k_ => XJ.caload hx (j := (Int32.ofNat (4 - B))) (v := (.int (es.getD (4 - B) 0))) (by rw [eJ]; exact Ar49.1) (State.isArrayOf_alike hZ.alike Ar49.2.1) Ar49.2.2 in49 (Hs49.at in49 (by rw [own_nat (by omega)]; exact own_vals (by rw [hlen]; omega))) (g := (mkF m 155 #[.val (.int x0), .val (.int x1), .val (.int x2), .val (.int x3), .val (.int x4), .val (.int x5), .val (.int (Int32.ofNat A)), .val (.int (Int32.ofNat B)), .val (.int (0 : Int32)), .val (.int (Int32.ofNat (5 - A - B))), .val (.ref b3), .val (.int (Int32.ofNat (4 - B)))] [(.int (Int32.ofNat (4 - B))), (.ref b3)])) rfl rfl (hb hby at_155) _ k_) ?_
      obtain ⟨_, _, ⟨T50, L50, k50, n50⟩, -, X50, ⟨Lc50, hQ50, l50, y50, z50⟩, st50⟩ := Jvm.LawKit.callS XJ hx (y := (⟨"com/example/refledger/refledger/PublicKeyTextTrimPinLaw", "isBlank", "(C)Z"⟩ : MethodName)) hown (mvT hZ (hw _ (List.mem_of_getElem? (i := 5) rfl))) (mvT hZ (hw _ (List.mem_of_getElem? (i := 6) rfl))) (mvT hZ (hw _ (List.mem_of_getElem? (i := 3) rfl))) (mvT hZ (hw _ (List.mem_of_getElem? (i := 7) rfl))) (by decide) (backOf (W := 0) (rm_blL l Z a0 hw [] (es.getD (4 - B) 0) h n0 OJ ) hZ (hw _ (List.mem_of_getElem? (i := 7) rfl)) (hw _ (List.mem_of_getElem? (i := 3) rfl)) (by decide) (by decide)) (g := (mkF m 156 #[.val (.int x0), .val (.int x1), .val (.int x2), .val (.int x3), .val (.int x4), .val (.int x5), .val (.int (Int32.ofNat A)), .val (.int (Int32.ofNat B)), .val (.int (0 : Int32)), .val (.int (Int32.ofNat (5 - A - B))), .val (.ref b3), .val (.int (Int32.ofNat (4 - B)))] [(.int (es.getD (4 - B) 0))])) rfl (by rw [hml]; rfl) (argsL := [(.int (es.getD (4 - B) 0))]) (rest := []) (lenOf pd_2 rfl) rfl (by show 2 * 0 + _ ≤ _; exact Nat.le_of_eq rfl) (hb hby at_156) (fun _ _ => ⟨rfl, eJ, (by decide : 1 + 0 ≤ _), (by decide : 5 + 0 ≤ _)⟩)
      dsimp only [Pt.U, Pt.locs, Pt.cells, Pt.slots] at X50 l50 y50 z50 st50 hQ50
      subst l50 y50 z50
      obtain ⟨rfl, N50q, e50⟩ := hQ50
      have N50 := Fr.app NJ N50q
      refine GoW.by (T' := T50) (g' := (mkF m 159 #[.val (.int x0), .val (.int x1), .val (.int x2), .val (.int x3), .val (.int x4), .val (.int x5), .val (.int (Int32.ofNat A)), .val (.int (Int32.ofNat B)), .val (.int (0 : Int32)), .val (.int (Int32.ofNat (5 - A - B))), .val (.ref b3), .val (.int (Int32.ofNat (4 - B)))] [(.int (if own_bl (es.getD (4 - B) 0) then 1 else 0))])) (fun t_ k_ => st50 _ k_) ?_
      by_cases hbl : own_bl (es.getD (4 - B) 0)
      · skip
        refine GoW.by (T' := T50) (g' := (mkF m 172 #[.val (.int x0), .val (.int x1), .val (.int x2), .val (.int x3), .val (.int x4), .val (.int x5), .val (.int (Int32.ofNat A)), .val (.int (Int32.ofNat B)), .val (.int (0 : Int32)), .val (.int (Int32.ofNat (5 - A - B))), .val (.ref b3), .val (.int (Int32.ofNat (4 - B)))] [])) (fun t_ k_ => XS.ifYes X50.here hx rfl (pc0 := 159) (pc' := 172) rfl (hb hby at_159) rfl ((if0 _ _).trans (feq (by rw [if_pos hbl]; decide)).2) (by decide) (by decide) k_) ?_
        refine GoW.by (T' := T50) (g' := (mkF m 174 #[.val (.int x0), .val (.int x1), .val (.int x2), .val (.int x3), .val (.int x4), .val (.int x5), .val (.int (Int32.ofNat A)), .val (.int (Int32.ofNat B)), .val (.int (0 : Int32)), .val (.int (Int32.ofNat (5 - A - B))), .val (.ref b3), .val (.int (Int32.ofNat (4 - B)))] [(.ref b3)])) (fun t_ k_ => XS.aload X50.here hx rfl (hb hby at_172) rfl rfl k_) ?_
        refine GoW.by (T' := T50) (g' := (mkF m 176 #[.val (.int x0), .val (.int x1), .val (.int x2), .val (.int x3), .val (.int x4), .val (.int x5), .val (.int (Int32.ofNat A)), .val (.int (Int32.ofNat B)), .val (.int (0 : Int32)), .val (.int (Int32.ofNat (5 - A - B))), .val (.ref b3), .val (.int (Int32.ofNat (4 - B)))] [(.int (Int32.ofNat (4 - B))), (.ref b3)])) (fun t_ k_ => XS.iload X50.here hx rfl (hb hby at_174) rfl k_) ?_
        refine GoW.by (T' := T50) (g' := (mkF m 178 #[.val (.int x0), .val (.int x1), .val (.int x2), .val (.int x3), .val (.int x4), .val (.int x5), .val (.int (Int32.ofNat A)), .val (.int (Int32.ofNat B)), .val (.int (0 : Int32)), .val (.int (Int32.ofNat (5 - A - B))), .val (.ref b3), .val (.int (Int32.ofNat (4 - B)))] [(.int (122 : Int32)), (.int (Int32.ofNat (4 - B))), (.ref b3)])) (fun t_ k_ => XS.bipush X50.here hx rfl (hb hby at_176) k_) ?_
        obtain ⟨cl51, Ar51, q51, Sz51, Ng51, Hs51, Gs51⟩ := id FJ0
        obtain ⟨T52, h52, X52, e52, W52, st52⟩ := stC X50 hx hZ e50 Ar51 (j := (Int32.ofNat (4 - B))) (inb_of Sz51 ⟨own_nn (by omega), by rw [show (5 : Int32) = Int32.ofNat 5 from rfl, own_lt (by omega) (by omega)]; omega⟩) (g := (mkF m 178 #[.val (.int x0), .val (.int x1), .val (.int x2), .val (.int x3), .val (.int x4), .val (.int x5), .val (.int (Int32.ofNat A)), .val (.int (Int32.ofNat B)), .val (.int (0 : Int32)), .val (.int (Int32.ofNat (5 - A - B))), .val (.ref b3), .val (.int (Int32.ofNat (4 - B)))] [(.int (122 : Int32)), (.int (Int32.ofNat (4 - B))), (.ref b3)])) rfl rfl (hb hby at_178)
        have V52 : Arv Z h52 b3 kc3 .char (5 : Int32) ((es.set (4 - B) 122).map Value.int) (.int (0 : Int32)) := own_conv (Arv.set Ar51 q51 Sz51 Ng51 Hs51 Gs51 (fits_nar_char _) W52 (4 - B) (own_nat (by omega)) (by simp [hlen]; omega)) (by simp [List.map_set]; rfl)
        have N52 := Fr.snoc X52 N50 ge_b3
        refine GoW.by (T' := T52) (g' := (mkF m 179 #[.val (.int x0), .val (.int x1), .val (.int x2), .val (.int x3), .val (.int x4), .val (.int x5), .val (.int (Int32.ofNat A)), .val (.int (Int32.ofNat B)), .val (.int (0 : Int32)), .val (.int (Int32.ofNat (5 - A - B))), .val (.ref b3), .val (.int (Int32.ofNat (4 - B)))] [])) (fun t_ k_ => st52 _ k_) ?_
        have Od53 : Old Z n0 h52 := (OJ.wr W52 ge_b3)
        have Kp54 : Keep h0 h52 [] := (KJ.wr W52 (Or.inr sz_b3))
        exact J179 ((es.set (4 - B) 122)) X52 e52 N52 Od53 Kp54 V52 (by simp [hlen]) (own_set_p hp (by decide)) (fun i hi => by rw [own_set_ne (by omega)]; exact hd1 i hi) (own_set_bl hd2 (by decide) (by rw [hlen]; omega)) (fun i h1 h2 => by rw [own_set_ne (by omega)]; exact hd3 i h1 h2) (by rw [own_set_eq (by rw [hlen]; omega)]; decide)
      · skip
        refine GoW.by (T' := T50) (g' := (mkF m 162 #[.val (.int x0), .val (.int x1), .val (.int x2), .val (.int x3), .val (.int x4), .val (.int x5), .val (.int (Int32.ofNat A)), .val (.int (Int32.ofNat B)), .val (.int (0 : Int32)), .val (.int (Int32.ofNat (5 - A - B))), .val (.ref b3), .val (.int (Int32.ofNat (4 - B)))] [])) (fun t_ k_ => XS.ifNo X50.here hx rfl (hb hby at_159) rfl ((if0 _ _).trans (teq (if_neg hbl)).2) k_) ?_
        refine GoW.by (T' := T50) (g' := (mkF m 164 #[.val (.int x0), .val (.int x1), .val (.int x2), .val (.int x3), .val (.int x4), .val (.int x5), .val (.int (Int32.ofNat A)), .val (.int (Int32.ofNat B)), .val (.int (0 : Int32)), .val (.int (Int32.ofNat (5 - A - B))), .val (.ref b3), .val (.int (Int32.ofNat (4 - B)))] [(.ref b3)])) (fun t_ k_ => XS.aload X50.here hx rfl (hb hby at_162) rfl rfl k_) ?_
        refine GoW.by (T' := T50) (g' := (mkF m 166 #[.val (.int x0), .val (.int x1), .val (.int x2), .val (.int x3), .val (.int x4), .val (.int x5), .val (.int (Int32.ofNat A)), .val (.int (Int32.ofNat B)), .val (.int (0 : Int32)), .val (.int (Int32.ofNat (5 - A - B))), .val (.ref b3), .val (.int (Int32.ofNat (4 - B)))] [(.int (Int32.ofNat (4 - B))), (.ref b3)])) (fun t_ k_ => XS.iload X50.here hx rfl (hb hby at_164) rfl k_) ?_
        obtain ⟨cl55, Ar55, q55, Sz55, Ng55, Hs55, Gs55⟩ := id FJ0
        have in55 := inb_of (j := (Int32.ofNat (4 - B))) Sz55 ⟨own_nn (by omega), by rw [show (5 : Int32) = Int32.ofNat 5 from rfl, own_lt (by omega) (by omega)]; omega⟩
        refine GoW.by (T' := T50) (g' := (mkF m 167 #[.val (.int x0), .val (.int x1), .val (.int x2), .val (.int x3), .val (.int x4), .val (.int x5), .val (.int (Int32.ofNat A)), .val (.int (Int32.ofNat B)), .val (.int (0 : Int32)), .val (.int (Int32.ofNat (5 - A - B))), .val (.ref b3), .val (.int (Int32.ofNat (4 - B)))] [(.int (es.getD (4 - B) 0))])) (fun t_ k_ => X50.caload hx (j := (Int32.ofNat (4 - B))) (v := (.int (es.getD (4 - B) 0))) (by rw [e50]; exact Ar55.1) (State.isArrayOf_alike hZ.alike Ar55.2.1) Ar55.2.2 in55 (Hs55.at in55 (by rw [own_nat (by omega)]; exact own_vals (by rw [hlen]; omega))) (g := (mkF m 166 #[.val (.int x0), .val (.int x1), .val (.int x2), .val (.int x3), .val (.int x4), .val (.int x5), .val (.int (Int32.ofNat A)), .val (.int (Int32.ofNat B)), .val (.int (0 : Int32)), .val (.int (Int32.ofNat (5 - A - B))), .val (.ref b3), .val (.int (Int32.ofNat (4 - B)))] [(.int (Int32.ofNat (4 - B))), (.ref b3)])) rfl rfl (hb hby at_166) _ k_) ?_
        refine GoW.by (T' := T50) (g' := (mkF m 169 #[.val (.int x0), .val (.int x1), .val (.int x2), .val (.int x3), .val (.int x4), .val (.int x5), .val (.int (Int32.ofNat A)), .val (.int (Int32.ofNat B)), .val (.int (0 : Int32)), .val (.int (Int32.ofNat (5 - A - B))), .val (.ref b3), .val (.int (Int32.ofNat (4 - B)))] [(.int (13 : Int32)), (.int (es.getD (4 - B) 0))])) (fun t_ k_ => XS.bipush X50.here hx rfl (hb hby at_167) k_) ?_
        by_cases hc56 : (es.getD (4 - B) 0) = (13 : Int32)
        · skip
          refine GoW.by (T' := T50) (g' := (mkF m 172 #[.val (.int x0), .val (.int x1), .val (.int x2), .val (.int x3), .val (.int x4), .val (.int x5), .val (.int (Int32.ofNat A)), .val (.int (Int32.ofNat B)), .val (.int (0 : Int32)), .val (.int (Int32.ofNat (5 - A - B))), .val (.ref b3), .val (.int (Int32.ofNat (4 - B)))] [])) (fun t_ k_ => XS.icmpNo X50.here hx rfl (hb hby at_169) rfl (teq hc56).2 k_) ?_
          refine GoW.by (T' := T50) (g' := (mkF m 174 #[.val (.int x0), .val (.int x1), .val (.int x2), .val (.int x3), .val (.int x4), .val (.int x5), .val (.int (Int32.ofNat A)), .val (.int (Int32.ofNat B)), .val (.int (0 : Int32)), .val (.int (Int32.ofNat (5 - A - B))), .val (.ref b3), .val (.int (Int32.ofNat (4 - B)))] [(.ref b3)])) (fun t_ k_ => XS.aload X50.here hx rfl (hb hby at_172) rfl rfl k_) ?_
          refine GoW.by (T' := T50) (g' := (mkF m 176 #[.val (.int x0), .val (.int x1), .val (.int x2), .val (.int x3), .val (.int x4), .val (.int x5), .val (.int (Int32.ofNat A)), .val (.int (Int32.ofNat B)), .val (.int (0 : Int32)), .val (.int (Int32.ofNat (5 - A - B))), .val (.ref b3), .val (.int (Int32.ofNat (4 - B)))] [(.int (Int32.ofNat (4 - B))), (.ref b3)])) (fun t_ k_ => XS.iload X50.here hx rfl (hb hby at_174) rfl k_) ?_
          refine GoW.by (T' := T50) (g' := (mkF m 178 #[.val (.int x0), .val (.int x1), .val (.int x2), .val (.int x3), .val (.int x4), .val (.int x5), .val (.int (Int32.ofNat A)), .val (.int (Int32.ofNat B)), .val (.int (0 : Int32)), .val (.int (Int32.ofNat (5 - A - B))), .val (.ref b3), .val (.int (Int32.ofNat (4 - B)))] [(.int (122 : Int32)), (.int (Int32.ofNat (4 - B))), (.ref b3)])) (fun t_ k_ => XS.bipush X50.here hx rfl (hb hby at_176) k_) ?_
          obtain ⟨cl57, Ar57, q57, Sz57, Ng57, Hs57, Gs57⟩ := id FJ0
          obtain ⟨T58, h58, X58, e58, W58, st58⟩ := stC X50 hx hZ e50 Ar57 (j := (Int32.ofNat (4 - B))) (inb_of Sz57 ⟨own_nn (by omega), by rw [show (5 : Int32) = Int32.ofNat 5 from rfl, own_lt (by omega) (by omega)]; omega⟩) (g := (mkF m 178 #[.val (.int x0), .val (.int x1), .val (.int x2), .val (.int x3), .val (.int x4), .val (.int x5), .val (.int (Int32.ofNat A)), .val (.int (Int32.ofNat B)), .val (.int (0 : Int32)), .val (.int (Int32.ofNat (5 - A - B))), .val (.ref b3), .val (.int (Int32.ofNat (4 - B)))] [(.int (122 : Int32)), (.int (Int32.ofNat (4 - B))), (.ref b3)])) rfl rfl (hb hby at_178)
          have V58 : Arv Z h58 b3 kc3 .char (5 : Int32) ((es.set (4 - B) 122).map Value.int) (.int (0 : Int32)) := own_conv (Arv.set Ar57 q57 Sz57 Ng57 Hs57 Gs57 (fits_nar_char _) W58 (4 - B) (own_nat (by omega)) (by simp [hlen]; omega)) (by simp [List.map_set]; rfl)
          have N58 := Fr.snoc X58 N50 ge_b3
          refine GoW.by (T' := T58) (g' := (mkF m 179 #[.val (.int x0), .val (.int x1), .val (.int x2), .val (.int x3), .val (.int x4), .val (.int x5), .val (.int (Int32.ofNat A)), .val (.int (Int32.ofNat B)), .val (.int (0 : Int32)), .val (.int (Int32.ofNat (5 - A - B))), .val (.ref b3), .val (.int (Int32.ofNat (4 - B)))] [])) (fun t_ k_ => st58 _ k_) ?_
          have Od59 : Old Z n0 h58 := (OJ.wr W58 ge_b3)
          have Kp60 : Keep h0 h58 [] := (KJ.wr W58 (Or.inr sz_b3))
          exact J179 ((es.set (4 - B) 122)) X58 e58 N58 Od59 Kp60 V58 (by simp [hlen]) (own_set_p hp (by decide)) (fun i hi => by rw [own_set_ne (by omega)]; exact hd1 i hi) (own_set_bl hd2 (by decide) (by rw [hlen]; omega)) (fun i h1 h2 => by rw [own_set_ne (by omega)]; exact hd3 i h1 h2) (by rw [own_set_eq (by rw [hlen]; omega)]; decide)
        · skip
          refine GoW.by (T' := T50) (g' := (mkF m 179 #[.val (.int x0), .val (.int x1), .val (.int x2), .val (.int x3), .val (.int x4), .val (.int x5), .val (.int (Int32.ofNat A)), .val (.int (Int32.ofNat B)), .val (.int (0 : Int32)), .val (.int (Int32.ofNat (5 - A - B))), .val (.ref b3), .val (.int (Int32.ofNat (4 - B)))] [])) (fun t_ k_ => XS.icmpYes X50.here hx rfl (pc0 := 169) (pc' := 179) rfl (hb hby at_169) rfl (feq hc56).2 (by decide) (by decide) k_) ?_
          exact J179 (es) X50 e50 N50 OJ KJ FJ0 (hlen) (hp) (hd1) (hd2) (hd3) (fun q => q.elim (fun q => hbl (Or.inl q)) (fun q => q.elim (fun q => hbl (Or.inr q)) hc56))
    refine GoW.by (T' := T28) (g' := (mkF m 129 #[.val (.int x0), .val (.int x1), .val (.int x2), .val (.int x3), .val (.int x4), .val (.int x5), .val (.int (Int32.ofNat A)), .val (.int (Int32.ofNat B)), .val (.int (0 : Int32)), .val (.int (Int32.ofNat (5 - A - B))), .val (.ref b3), .unset] [(.ref b3)])) (fun t_ k_ => XS.aload X28.here hx rfl (hb hby at_127) rfl rfl k_) ?_
    refine GoW.by (T' := T28) (g' := (mkF m 131 #[.val (.int x0), .val (.int x1), .val (.int x2), .val (.int x3), .val (.int x4), .val (.int x5), .val (.int (Int32.ofNat A)), .val (.int (Int32.ofNat B)), .val (.int (0 : Int32)), .val (.int (Int32.ofNat (5 - A - B))), .val (.ref b3), .unset] [(.int (Int32.ofNat A)), (.ref b3)])) (fun t_ k_ => XS.iload X28.here hx rfl (hb hby at_129) rfl k_) ?_
    obtain ⟨cl61, Ar61, q61, Sz61, Ng61, Hs61, Gs61⟩ := id V29
    have in61 := inb_of (j := (Int32.ofNat A)) Sz61 ⟨own_nn (by omega), by rw [show (5 : Int32) = Int32.ofNat 5 from rfl, own_lt (by omega) (by omega)]; omega⟩
    refine GoW.by (T' := T28) (g' := (mkF m 132 #[.val (.int x0), .val (.int x1), .val (.int x2), .val (.int x3), .val (.int x4), .val (.int x5), .val (.int (Int32.ofNat A)), .val (.int (Int32.ofNat B)), .val (.int (0 : Int32)), .val (.int (Int32.ofNat (5 - A - B))), .val (.ref b3), .unset] [(.int (cs.getD A 0))])) (fun t_ k_ => X28.caload hx (j := (Int32.ofNat A)) (v := (.int (cs.getD A 0))) (by rw [e28]; exact Ar61.1) (State.isArrayOf_alike hZ.alike Ar61.2.1) Ar61.2.2 in61 (Hs61.at in61 (by rw [own_nat (by omega)]; exact own_vals (by rw [hlen]; omega))) (g := (mkF m 131 #[.val (.int x0), .val (.int x1), .val (.int x2), .val (.int x3), .val (.int x4), .val (.int x5), .val (.int (Int32.ofNat A)), .val (.int (Int32.ofNat B)), .val (.int (0 : Int32)), .val (.int (Int32.ofNat (5 - A - B))), .val (.ref b3), .unset] [(.int (Int32.ofNat A)), (.ref b3)])) rfl rfl (hb hby at_131) _ k_) ?_
    have Od62 : Old Z n0 h28 := (Od24.wr W28 ge_b3)
    obtain ⟨_, _, ⟨T63, L63, k63, n63⟩, -, X63, ⟨Lc63, hQ63, l63, y63, z63⟩, st63⟩ := Jvm.LawKit.callS X28 hx (y := (⟨"com/example/refledger/refledger/PublicKeyTextTrimPinLaw", "isBlank", "(C)Z"⟩ : MethodName)) hown (mvT hZ (hw _ (List.mem_of_getElem? (i := 5) rfl))) (mvT hZ (hw _ (List.mem_of_getElem? (i := 6) rfl))) (mvT hZ (hw _ (List.mem_of_getElem? (i := 3) rfl))) (mvT hZ (hw _ (List.mem_of_getElem? (i := 7) rfl))) (by decide) (backOf (W := 0) (rm_blL l Z a0 hw [] (cs.getD A 0) h28 n0 Od62 ) hZ (hw _ (List.mem_of_getElem? (i := 7) rfl)) (hw _ (List.mem_of_getElem? (i := 3) rfl)) (by decide) (by decide)) (g := (mkF m 132 #[.val (.int x0), .val (.int x1), .val (.int x2), .val (.int x3), .val (.int x4), .val (.int x5), .val (.int (Int32.ofNat A)), .val (.int (Int32.ofNat B)), .val (.int (0 : Int32)), .val (.int (Int32.ofNat (5 - A - B))), .val (.ref b3), .unset] [(.int (cs.getD A 0))])) rfl (by rw [hml]; rfl) (argsL := [(.int (cs.getD A 0))]) (rest := []) (lenOf pd_2 rfl) rfl (by show 2 * 0 + _ ≤ _; exact Nat.le_of_eq rfl) (hb hby at_132) (fun _ _ => ⟨rfl, e28, (by decide : 1 + 0 ≤ _), (by decide : 5 + 0 ≤ _)⟩)
    dsimp only [Pt.U, Pt.locs, Pt.cells, Pt.slots] at X63 l63 y63 z63 st63 hQ63
    subst l63 y63 z63
    obtain ⟨rfl, N63q, e63⟩ := hQ63
    have N63 := Fr.app N28 N63q
    refine GoW.by (T' := T63) (g' := (mkF m 135 #[.val (.int x0), .val (.int x1), .val (.int x2), .val (.int x3), .val (.int x4), .val (.int x5), .val (.int (Int32.ofNat A)), .val (.int (Int32.ofNat B)), .val (.int (0 : Int32)), .val (.int (Int32.ofNat (5 - A - B))), .val (.ref b3), .unset] [(.int (if own_bl (cs.getD A 0) then 1 else 0))])) (fun t_ k_ => st63 _ k_) ?_
    by_cases hbl : own_bl (cs.getD A 0)
    · skip
      refine GoW.by (T' := T63) (g' := (mkF m 138 #[.val (.int x0), .val (.int x1), .val (.int x2), .val (.int x3), .val (.int x4), .val (.int x5), .val (.int (Int32.ofNat A)), .val (.int (Int32.ofNat B)), .val (.int (0 : Int32)), .val (.int (Int32.ofNat (5 - A - B))), .val (.ref b3), .unset] [])) (fun t_ k_ => XS.ifNo X63.here hx rfl (hb hby at_135) rfl ((if0 _ _).trans (feq (by rw [if_pos hbl]; decide)).1) k_) ?_
      refine GoW.by (T' := T63) (g' := (mkF m 140 #[.val (.int x0), .val (.int x1), .val (.int x2), .val (.int x3), .val (.int x4), .val (.int x5), .val (.int (Int32.ofNat A)), .val (.int (Int32.ofNat B)), .val (.int (0 : Int32)), .val (.int (Int32.ofNat (5 - A - B))), .val (.ref b3), .unset] [(.ref b3)])) (fun t_ k_ => XS.aload X63.here hx rfl (hb hby at_138) rfl rfl k_) ?_
      refine GoW.by (T' := T63) (g' := (mkF m 142 #[.val (.int x0), .val (.int x1), .val (.int x2), .val (.int x3), .val (.int x4), .val (.int x5), .val (.int (Int32.ofNat A)), .val (.int (Int32.ofNat B)), .val (.int (0 : Int32)), .val (.int (Int32.ofNat (5 - A - B))), .val (.ref b3), .unset] [(.int (Int32.ofNat A)), (.ref b3)])) (fun t_ k_ => XS.iload X63.here hx rfl (hb hby at_140) rfl k_) ?_
      refine GoW.by (T' := T63) (g' := (mkF m 144 #[.val (.int x0), .val (.int x1), .val (.int x2), .val (.int x3), .val (.int x4), .val (.int x5), .val (.int (Int32.ofNat A)), .val (.int (Int32.ofNat B)), .val (.int (0 : Int32)), .val (.int (Int32.ofNat (5 - A - B))), .val (.ref b3), .unset] [(.int (97 : Int32)), (.int (Int32.ofNat A)), (.ref b3)])) (fun t_ k_ => XS.bipush X63.here hx rfl (hb hby at_142) k_) ?_
      have Kp65 : Keep h0 h28 [] := (Kp27.wr W28 (Or.inr sz_b3))
      obtain ⟨cl64, Ar64, q64, Sz64, Ng64, Hs64, Gs64⟩ := id V29
      obtain ⟨T66, h66, X66, e66, W66, st66⟩ := stC X63 hx hZ e63 Ar64 (j := (Int32.ofNat A)) (inb_of Sz64 ⟨own_nn (by omega), by rw [show (5 : Int32) = Int32.ofNat 5 from rfl, own_lt (by omega) (by omega)]; omega⟩) (g := (mkF m 144 #[.val (.int x0), .val (.int x1), .val (.int x2), .val (.int x3), .val (.int x4), .val (.int x5), .val (.int (Int32.ofNat A)), .val (.int (Int32.ofNat B)), .val (.int (0 : Int32)), .val (.int (Int32.ofNat (5 - A - B))), .val (.ref b3), .unset] [(.int (97 : Int32)), (.int (Int32.ofNat A)), (.ref b3)])) rfl rfl (hb hby at_144)
      have V66 : Arv Z h66 b3 kc3 .char (5 : Int32) ((cs.set A 97).map Value.int) (.int (0 : Int32)) := own_conv (Arv.set Ar64 q64 Sz64 Ng64 Hs64 Gs64 (fits_nar_char _) W66 A (own_nat (by omega)) (by simp [hlen]; omega)) (by simp [List.map_set]; rfl)
      have N66 := Fr.snoc X66 N63 ge_b3
      refine GoW.by (T' := T66) (g' := (mkF m 145 #[.val (.int x0), .val (.int x1), .val (.int x2), .val (.int x3), .val (.int x4), .val (.int x5), .val (.int (Int32.ofNat A)), .val (.int (Int32.ofNat B)), .val (.int (0 : Int32)), .val (.int (Int32.ofNat (5 - A - B))), .val (.ref b3), .unset] [])) (fun t_ k_ => st66 _ k_) ?_
      have Od67 : Old Z n0 h66 := (Od62.wr W66 ge_b3)
      have Kp68 : Keep h0 h66 [] := (Kp65.wr W66 (Or.inr sz_b3))
      exact J145 ((cs.set A 97)) X66 e66 N66 Od67 Kp68 V66 (by simp [hlen]) (own_set_p hp (by decide)) (fun i hi => by rw [own_set_ne (by omega)]; exact hbA i hi) (by rw [own_set_eq (by rw [hlen]; omega)]; decide) (fun i h1 h2 => by rw [own_set_ne (by omega)]; exact hrB i h1 h2)
    · skip
      refine GoW.by (T' := T63) (g' := (mkF m 145 #[.val (.int x0), .val (.int x1), .val (.int x2), .val (.int x3), .val (.int x4), .val (.int x5), .val (.int (Int32.ofNat A)), .val (.int (Int32.ofNat B)), .val (.int (0 : Int32)), .val (.int (Int32.ofNat (5 - A - B))), .val (.ref b3), .unset] [])) (fun t_ k_ => XS.ifYes X63.here hx rfl (pc0 := 135) (pc' := 145) rfl (hb hby at_135) rfl ((if0 _ _).trans (teq (if_neg hbl)).1) (by decide) (by decide) k_) ?_
      have Kp69 : Keep h0 h28 [] := (Kp27.wr W28 (Or.inr sz_b3))
      exact J145 (cs) X63 e63 N63 Od62 Kp69 V29 (hlen) (hp) (hbA) (hbl) (hrB)
  · skip
    refine GoW.by (T' := s₁) (g' := (mkF m 24 #[.val (.int x0), .val (.int x1), .val (.int x2), .val (.int x3), .val (.int x4), .val (.int x5), .val (.int (Int32.ofNat A)), .val (.int (Int32.ofNat B)), .unset, .unset, .unset, .unset] [])) (fun t_ k_ => XS.ifNo X0.here hx rfl (hb hby at_21) rfl ((if0 _ _).trans (feq hc2).1) k_) ?_
    refine GoW.by (T' := s₁) (g' := (mkF m 25 #[.val (.int x0), .val (.int x1), .val (.int x2), .val (.int x3), .val (.int x4), .val (.int x5), .val (.int (Int32.ofNat A)), .val (.int (Int32.ofNat B)), .unset, .unset, .unset, .unset] [(.int (1 : Int32))])) (fun t_ k_ => XS.iconst X0.here hx rfl (hb hby at_24) k_) ?_
    refine GoW.by (T' := s₁) (g' := (mkF m 29 #[.val (.int x0), .val (.int x1), .val (.int x2), .val (.int x3), .val (.int x4), .val (.int x5), .val (.int (Int32.ofNat A)), .val (.int (Int32.ofNat B)), .unset, .unset, .unset, .unset] [(.int (1 : Int32))])) (fun t_ k_ => XS.goto X0.here hx rfl (pc0 := 25) (pc' := 29) rfl (hb hby at_25) (by decide) (by decide) k_) ?_
    refine GoW.by (T' := s₁) (g' := (mkF m 31 #[.val (.int x0), .val (.int x1), .val (.int x2), .val (.int x3), .val (.int x4), .val (.int x5), .val (.int (Int32.ofNat A)), .val (.int (Int32.ofNat B)), .val (.int (1 : Int32)), .unset, .unset, .unset] [])) (fun t_ k_ => XS.istore X0.here hx rfl (hb hby at_29) rfl (l' := #[.val (.int x0), .val (.int x1), .val (.int x2), .val (.int x3), .val (.int x4), .val (.int x5), .val (.int (Int32.ofNat A)), .val (.int (Int32.ofNat B)), .val (.int (1 : Int32)), .unset, .unset, .unset]) rfl k_) ?_
    refine GoW.by (T' := s₁) (g' := (mkF m 32 #[.val (.int x0), .val (.int x1), .val (.int x2), .val (.int x3), .val (.int x4), .val (.int x5), .val (.int (Int32.ofNat A)), .val (.int (Int32.ofNat B)), .val (.int (1 : Int32)), .unset, .unset, .unset] [(.int (5 : Int32))])) (fun t_ k_ => XS.iconst X0.here hx rfl (hb hby at_31) k_) ?_
    refine GoW.by (T' := s₁) (g' := (mkF m 34 #[.val (.int x0), .val (.int x1), .val (.int x2), .val (.int x3), .val (.int x4), .val (.int x5), .val (.int (Int32.ofNat A)), .val (.int (Int32.ofNat B)), .val (.int (1 : Int32)), .unset, .unset, .unset] [(.int (Int32.ofNat A)), (.int (5 : Int32))])) (fun t_ k_ => XS.iload X0.here hx rfl (hb hby at_32) rfl k_) ?_
    refine GoW.by (T' := s₁) (g' := (mkF m 35 #[.val (.int x0), .val (.int x1), .val (.int x2), .val (.int x3), .val (.int x4), .val (.int x5), .val (.int (Int32.ofNat A)), .val (.int (Int32.ofNat B)), .val (.int (1 : Int32)), .unset, .unset, .unset] [(.int ((5 : Int32) - (Int32.ofNat A)))])) (fun t_ k_ => XS.isub X0.here hx rfl (hb hby at_34) rfl k_) ?_
    refine GoW.by (T' := s₁) (g' := (mkF m 37 #[.val (.int x0), .val (.int x1), .val (.int x2), .val (.int x3), .val (.int x4), .val (.int x5), .val (.int (Int32.ofNat A)), .val (.int (Int32.ofNat B)), .val (.int (1 : Int32)), .unset, .unset, .unset] [(.int (Int32.ofNat B)), (.int ((5 : Int32) - (Int32.ofNat A)))])) (fun t_ k_ => XS.iload X0.here hx rfl (hb hby at_35) rfl k_) ?_
    refine GoW.by (T' := s₁) (g' := (mkF m 38 #[.val (.int x0), .val (.int x1), .val (.int x2), .val (.int x3), .val (.int x4), .val (.int x5), .val (.int (Int32.ofNat A)), .val (.int (Int32.ofNat B)), .val (.int (1 : Int32)), .unset, .unset, .unset] [(.int (((5 : Int32) - (Int32.ofNat A)) - (Int32.ofNat B)))])) (fun t_ k_ => XS.isub X0.here hx rfl (hb hby at_37) rfl k_) ?_
    rw [show (5 : Int32) = Int32.ofNat 5 from rfl, own_sub (show A ≤ 5 by omega), own_sub (show B ≤ 5 - A by omega)]
    refine GoW.by (T' := s₁) (g' := (mkF m 40 #[.val (.int x0), .val (.int x1), .val (.int x2), .val (.int x3), .val (.int x4), .val (.int x5), .val (.int (Int32.ofNat A)), .val (.int (Int32.ofNat B)), .val (.int (1 : Int32)), .val (.int (Int32.ofNat (5 - A - B))), .unset, .unset] [])) (fun t_ k_ => XS.istore X0.here hx rfl (hb hby at_38) rfl (l' := #[.val (.int x0), .val (.int x1), .val (.int x2), .val (.int x3), .val (.int x4), .val (.int x5), .val (.int (Int32.ofNat A)), .val (.int (Int32.ofNat B)), .val (.int (1 : Int32)), .val (.int (Int32.ofNat (5 - A - B))), .unset, .unset]) rfl k_) ?_
    refine GoW.by (T' := s₁) (g' := (mkF m 41 #[.val (.int x0), .val (.int x1), .val (.int x2), .val (.int x3), .val (.int x4), .val (.int x5), .val (.int (Int32.ofNat A)), .val (.int (Int32.ofNat B)), .val (.int (1 : Int32)), .val (.int (Int32.ofNat (5 - A - B))), .unset, .unset] [(.int (5 : Int32))])) (fun t_ k_ => XS.iconst X0.here hx rfl (hb hby at_40) k_) ?_
    obtain ⟨T70, h70, kc70, X70, e70, E70, A70, st70⟩ := newP X0 hx hZ (hw _ (List.mem_of_getElem? (i := 0) rfl)) e0 (g := (mkF m 41 #[.val (.int x0), .val (.int x1), .val (.int x2), .val (.int x3), .val (.int x4), .val (.int x5), .val (.int (Int32.ofNat A)), .val (.int (Int32.ofNat B)), .val (.int (1 : Int32)), .val (.int (Int32.ofNat (5 - A - B))), .unset, .unset] [(.int (5 : Int32))])) rfl (hb hby at_41) rfl (by decide) (cap := 5) (by decide) (by decide) (by decide) (by decide)
    obtain ⟨b70, g70⟩ : ∃ z, z = h0.size := ⟨_, rfl⟩
    rw [← g70] at A70 st70
    have ge_b70 : n0 ≤ b70 := Nat.le_trans X00.sz (Nat.le_of_eq g70.symm)
    have sz_b70 : h0.size ≤ b70 := Nat.le_trans (Keep.refl h0 []).1 (Nat.le_of_eq g70.symm)
    have V70 : Arv Z h70 b70 kc70 .char (5 : Int32) [(.int (0 : Int32)), (.int (0 : Int32)), (.int (0 : Int32)), (.int (0 : Int32)), (.int (0 : Int32))] (.int (0 : Int32)) := (Arv.new A70 (by decide)).pad (pad_rep [] (.int (0 : Int32)) 5)
    refine GoW.by (T' := T70) (g' := (mkF m 43 #[.val (.int x0), .val (.int x1), .val (.int x2), .val (.int x3), .val (.int x4), .val (.int x5), .val (.int (Int32.ofNat A)), .val (.int (Int32.ofNat B)), .val (.int (1 : Int32)), .val (.int (Int32.ofNat (5 - A - B))), .unset, .unset] [(.ref b70)])) (fun t_ k_ => st70 _ k_) ?_
    refine GoW.by (T' := T70) (g' := (mkF m 45 #[.val (.int x0), .val (.int x1), .val (.int x2), .val (.int x3), .val (.int x4), .val (.int x5), .val (.int (Int32.ofNat A)), .val (.int (Int32.ofNat B)), .val (.int (1 : Int32)), .val (.int (Int32.ofNat (5 - A - B))), .val (.ref b70), .unset] [])) (fun t_ k_ => XS.astore X70.here hx rfl (hb hby at_43) rfl rfl (l' := #[.val (.int x0), .val (.int x1), .val (.int x2), .val (.int x3), .val (.int x4), .val (.int x5), .val (.int (Int32.ofNat A)), .val (.int (Int32.ofNat B)), .val (.int (1 : Int32)), .val (.int (Int32.ofNat (5 - A - B))), .val (.ref b70), .unset]) rfl k_) ?_
    refine GoW.by (T' := T70) (g' := (mkF m 47 #[.val (.int x0), .val (.int x1), .val (.int x2), .val (.int x3), .val (.int x4), .val (.int x5), .val (.int (Int32.ofNat A)), .val (.int (Int32.ofNat B)), .val (.int (1 : Int32)), .val (.int (Int32.ofNat (5 - A - B))), .val (.ref b70), .unset] [(.ref b70)])) (fun t_ k_ => XS.aload X70.here hx rfl (hb hby at_45) rfl rfl k_) ?_
    refine GoW.by (T' := T70) (g' := (mkF m 48 #[.val (.int x0), .val (.int x1), .val (.int x2), .val (.int x3), .val (.int x4), .val (.int x5), .val (.int (Int32.ofNat A)), .val (.int (Int32.ofNat B)), .val (.int (1 : Int32)), .val (.int (Int32.ofNat (5 - A - B))), .val (.ref b70), .unset] [(.int (0 : Int32)), (.ref b70)])) (fun t_ k_ => XS.iconst X70.here hx rfl (hb hby at_47) k_) ?_
    refine GoW.by (T' := T70) (g' := (mkF m 49 #[.val (.int x0), .val (.int x1), .val (.int x2), .val (.int x3), .val (.int x4), .val (.int x5), .val (.int (Int32.ofNat A)), .val (.int (Int32.ofNat B)), .val (.int (1 : Int32)), .val (.int (Int32.ofNat (5 - A - B))), .val (.ref b70), .unset] [(.int (0 : Int32)), (.int (0 : Int32)), (.ref b70)])) (fun t_ k_ => XS.iconst X70.here hx rfl (hb hby at_48) k_) ?_
    refine GoW.by (T' := T70) (g' := (mkF m 51 #[.val (.int x0), .val (.int x1), .val (.int x2), .val (.int x3), .val (.int x4), .val (.int x5), .val (.int (Int32.ofNat A)), .val (.int (Int32.ofNat B)), .val (.int (1 : Int32)), .val (.int (Int32.ofNat (5 - A - B))), .val (.ref b70), .unset] [(.int (Int32.ofNat A)), (.int (0 : Int32)), (.int (0 : Int32)), (.ref b70)])) (fun t_ k_ => XS.iload X70.here hx rfl (hb hby at_49) rfl k_) ?_
    refine GoW.by (T' := T70) (g' := (mkF m 53 #[.val (.int x0), .val (.int x1), .val (.int x2), .val (.int x3), .val (.int x4), .val (.int x5), .val (.int (Int32.ofNat A)), .val (.int (Int32.ofNat B)), .val (.int (1 : Int32)), .val (.int (Int32.ofNat (5 - A - B))), .val (.ref b70), .unset] [(.int (Int32.ofNat B)), (.int (Int32.ofNat A)), (.int (0 : Int32)), (.int (0 : Int32)), (.ref b70)])) (fun t_ k_ => XS.iload X70.here hx rfl (hb hby at_51) rfl k_) ?_
    refine GoW.by (T' := T70) (g' := (mkF m 55 #[.val (.int x0), .val (.int x1), .val (.int x2), .val (.int x3), .val (.int x4), .val (.int x5), .val (.int (Int32.ofNat A)), .val (.int (Int32.ofNat B)), .val (.int (1 : Int32)), .val (.int (Int32.ofNat (5 - A - B))), .val (.ref b70), .unset] [(.int (1 : Int32)), (.int (Int32.ofNat B)), (.int (Int32.ofNat A)), (.int (0 : Int32)), (.int (0 : Int32)), (.ref b70)])) (fun t_ k_ => XS.iload X70.here hx rfl (hb hby at_53) rfl k_) ?_
    refine GoW.by (T' := T70) (g' := (mkF m 56 #[.val (.int x0), .val (.int x1), .val (.int x2), .val (.int x3), .val (.int x4), .val (.int x5), .val (.int (Int32.ofNat A)), .val (.int (Int32.ofNat B)), .val (.int (1 : Int32)), .val (.int (Int32.ofNat (5 - A - B))), .val (.ref b70), .unset] [(.int x1), (.int (1 : Int32)), (.int (Int32.ofNat B)), (.int (Int32.ofNat A)), (.int (0 : Int32)), (.int (0 : Int32)), (.ref b70)])) (fun t_ k_ => XS.iloadN X70.here hx rfl (hb hby at_55) rfl k_) ?_
    have Od71 : Old Z n0 h70 := (X00.ext E70)
    obtain ⟨_, _, ⟨T72, L72, k72, n72⟩, -, X72, ⟨Lc72, hQ72, l72, y72, z72⟩, st72⟩ := Jvm.LawKit.callS X70 hx (y := (⟨"com/example/refledger/refledger/PublicKeyTextTrimPinLaw", "place", "(IIIZI)C"⟩ : MethodName)) hown (mvT hZ (hw _ (List.mem_of_getElem? (i := 1) rfl))) (mvT hZ (hw _ (List.mem_of_getElem? (i := 2) rfl))) (mvT hZ (hw _ (List.mem_of_getElem? (i := 3) rfl))) (mvT hZ (hw _ (List.mem_of_getElem? (i := 4) rfl))) (by decide) (backOf (W := 2) (rm_place l Z a0 hw [] (0 : Int32) A B (1 : Int32) x1 0 h70 n0 Od71 rfl (by decide) hA hB) hZ (hw _ (List.mem_of_getElem? (i := 4) rfl)) (hw _ (List.mem_of_getElem? (i := 3) rfl)) (by decide) (by decide)) (g := (mkF m 56 #[.val (.int x0), .val (.int x1), .val (.int x2), .val (.int x3), .val (.int x4), .val (.int x5), .val (.int (Int32.ofNat A)), .val (.int (Int32.ofNat B)), .val (.int (1 : Int32)), .val (.int (Int32.ofNat (5 - A - B))), .val (.ref b70), .unset] [(.int x1), (.int (1 : Int32)), (.int (Int32.ofNat B)), (.int (Int32.ofNat A)), (.int (0 : Int32)), (.int (0 : Int32)), (.ref b70)])) rfl (by rw [hml]; rfl) (argsL := [(.int (0 : Int32)), (.int (Int32.ofNat A)), (.int (Int32.ofNat B)), (.int (1 : Int32)), (.int x1)]) (rest := [(.int (0 : Int32)), (.ref b70)]) (lenOf pd_13 rfl) rfl (by show 2 * 0 + _ ≤ _; exact Nat.le_of_eq rfl) (hb hby at_56) (fun _ _ => ⟨rfl, e70, (by decide : 1 + 0 ≤ _), (by decide : 5 + 0 ≤ _)⟩)
    dsimp only [Pt.U, Pt.locs, Pt.cells, Pt.slots] at X72 l72 y72 z72 st72 hQ72
    subst l72 y72 z72
    obtain ⟨cc_72, rfl, N72q, e72, G72_0⟩ := hQ72
    have N72 := Fr.app N0 N72q
    refine GoW.by (T' := T72) (g' := (mkF m 59 #[.val (.int x0), .val (.int x1), .val (.int x2), .val (.int x3), .val (.int x4), .val (.int x5), .val (.int (Int32.ofNat A)), .val (.int (Int32.ofNat B)), .val (.int (1 : Int32)), .val (.int (Int32.ofNat (5 - A - B))), .val (.ref b70), .unset] [(.int cc_72), (.int (0 : Int32)), (.ref b70)])) (fun t_ k_ => st72 _ k_) ?_
    have Kp74 : Keep h0 h70 [] := ((Keep.refl h0 []).ext E70)
    obtain ⟨cl73, Ar73, q73, Sz73, Ng73, Hs73, Gs73⟩ := id V70
    obtain ⟨T75, h75, X75, e75, W75, st75⟩ := stC X72 hx hZ e72 Ar73 (j := (0 : Int32)) (inb_of Sz73 ⟨by decide, by decide⟩) (g := (mkF m 59 #[.val (.int x0), .val (.int x1), .val (.int x2), .val (.int x3), .val (.int x4), .val (.int x5), .val (.int (Int32.ofNat A)), .val (.int (Int32.ofNat B)), .val (.int (1 : Int32)), .val (.int (Int32.ofNat (5 - A - B))), .val (.ref b70), .unset] [(.int cc_72), (.int (0 : Int32)), (.ref b70)])) rfl rfl (hb hby at_59)
    have V75 : Arv Z h75 b70 kc70 .char (5 : Int32) [(.int (nar .char cc_72)), (.int (0 : Int32)), (.int (0 : Int32)), (.int (0 : Int32)), (.int (0 : Int32))] (.int (0 : Int32)) := Arv.set Ar73 q73 Sz73 Ng73 Hs73 Gs73 (fits_nar_char _) W75 0 rfl (Nat.le_of_ble_eq_true rfl)
    have N75 := Fr.snoc X75 N72 ge_b70
    refine GoW.by (T' := T75) (g' := (mkF m 60 #[.val (.int x0), .val (.int x1), .val (.int x2), .val (.int x3), .val (.int x4), .val (.int x5), .val (.int (Int32.ofNat A)), .val (.int (Int32.ofNat B)), .val (.int (1 : Int32)), .val (.int (Int32.ofNat (5 - A - B))), .val (.ref b70), .unset] [])) (fun t_ k_ => st75 _ k_) ?_
    refine GoW.by (T' := T75) (g' := (mkF m 62 #[.val (.int x0), .val (.int x1), .val (.int x2), .val (.int x3), .val (.int x4), .val (.int x5), .val (.int (Int32.ofNat A)), .val (.int (Int32.ofNat B)), .val (.int (1 : Int32)), .val (.int (Int32.ofNat (5 - A - B))), .val (.ref b70), .unset] [(.ref b70)])) (fun t_ k_ => XS.aload X75.here hx rfl (hb hby at_60) rfl rfl k_) ?_
    refine GoW.by (T' := T75) (g' := (mkF m 63 #[.val (.int x0), .val (.int x1), .val (.int x2), .val (.int x3), .val (.int x4), .val (.int x5), .val (.int (Int32.ofNat A)), .val (.int (Int32.ofNat B)), .val (.int (1 : Int32)), .val (.int (Int32.ofNat (5 - A - B))), .val (.ref b70), .unset] [(.int (1 : Int32)), (.ref b70)])) (fun t_ k_ => XS.iconst X75.here hx rfl (hb hby at_62) k_) ?_
    refine GoW.by (T' := T75) (g' := (mkF m 64 #[.val (.int x0), .val (.int x1), .val (.int x2), .val (.int x3), .val (.int x4), .val (.int x5), .val (.int (Int32.ofNat A)), .val (.int (Int32.ofNat B)), .val (.int (1 : Int32)), .val (.int (Int32.ofNat (5 - A - B))), .val (.ref b70), .unset] [(.int (1 : Int32)), (.int (1 : Int32)), (.ref b70)])) (fun t_ k_ => XS.iconst X75.here hx rfl (hb hby at_63) k_) ?_
    refine GoW.by (T' := T75) (g' := (mkF m 66 #[.val (.int x0), .val (.int x1), .val (.int x2), .val (.int x3), .val (.int x4), .val (.int x5), .val (.int (Int32.ofNat A)), .val (.int (Int32.ofNat B)), .val (.int (1 : Int32)), .val (.int (Int32.ofNat (5 - A - B))), .val (.ref b70), .unset] [(.int (Int32.ofNat A)), (.int (1 : Int32)), (.int (1 : Int32)), (.ref b70)])) (fun t_ k_ => XS.iload X75.here hx rfl (hb hby at_64) rfl k_) ?_
    refine GoW.by (T' := T75) (g' := (mkF m 68 #[.val (.int x0), .val (.int x1), .val (.int x2), .val (.int x3), .val (.int x4), .val (.int x5), .val (.int (Int32.ofNat A)), .val (.int (Int32.ofNat B)), .val (.int (1 : Int32)), .val (.int (Int32.ofNat (5 - A - B))), .val (.ref b70), .unset] [(.int (Int32.ofNat B)), (.int (Int32.ofNat A)), (.int (1 : Int32)), (.int (1 : Int32)), (.ref b70)])) (fun t_ k_ => XS.iload X75.here hx rfl (hb hby at_66) rfl k_) ?_
    refine GoW.by (T' := T75) (g' := (mkF m 70 #[.val (.int x0), .val (.int x1), .val (.int x2), .val (.int x3), .val (.int x4), .val (.int x5), .val (.int (Int32.ofNat A)), .val (.int (Int32.ofNat B)), .val (.int (1 : Int32)), .val (.int (Int32.ofNat (5 - A - B))), .val (.ref b70), .unset] [(.int (1 : Int32)), (.int (Int32.ofNat B)), (.int (Int32.ofNat A)), (.int (1 : Int32)), (.int (1 : Int32)), (.ref b70)])) (fun t_ k_ => XS.iload X75.here hx rfl (hb hby at_68) rfl k_) ?_
    refine GoW.by (T' := T75) (g' := (mkF m 71 #[.val (.int x0), .val (.int x1), .val (.int x2), .val (.int x3), .val (.int x4), .val (.int x5), .val (.int (Int32.ofNat A)), .val (.int (Int32.ofNat B)), .val (.int (1 : Int32)), .val (.int (Int32.ofNat (5 - A - B))), .val (.ref b70), .unset] [(.int x2), (.int (1 : Int32)), (.int (Int32.ofNat B)), (.int (Int32.ofNat A)), (.int (1 : Int32)), (.int (1 : Int32)), (.ref b70)])) (fun t_ k_ => XS.iloadN X75.here hx rfl (hb hby at_70) rfl k_) ?_
    have Od76 : Old Z n0 h75 := (Od71.wr W75 ge_b70)
    obtain ⟨_, _, ⟨T77, L77, k77, n77⟩, -, X77, ⟨Lc77, hQ77, l77, y77, z77⟩, st77⟩ := Jvm.LawKit.callS X75 hx (y := (⟨"com/example/refledger/refledger/PublicKeyTextTrimPinLaw", "place", "(IIIZI)C"⟩ : MethodName)) hown (mvT hZ (hw _ (List.mem_of_getElem? (i := 1) rfl))) (mvT hZ (hw _ (List.mem_of_getElem? (i := 2) rfl))) (mvT hZ (hw _ (List.mem_of_getElem? (i := 3) rfl))) (mvT hZ (hw _ (List.mem_of_getElem? (i := 4) rfl))) (by decide) (backOf (W := 2) (rm_place l Z a0 hw [] (1 : Int32) A B (1 : Int32) x2 1 h75 n0 Od76 rfl (by decide) hA hB) hZ (hw _ (List.mem_of_getElem? (i := 4) rfl)) (hw _ (List.mem_of_getElem? (i := 3) rfl)) (by decide) (by decide)) (g := (mkF m 71 #[.val (.int x0), .val (.int x1), .val (.int x2), .val (.int x3), .val (.int x4), .val (.int x5), .val (.int (Int32.ofNat A)), .val (.int (Int32.ofNat B)), .val (.int (1 : Int32)), .val (.int (Int32.ofNat (5 - A - B))), .val (.ref b70), .unset] [(.int x2), (.int (1 : Int32)), (.int (Int32.ofNat B)), (.int (Int32.ofNat A)), (.int (1 : Int32)), (.int (1 : Int32)), (.ref b70)])) rfl (by rw [hml]; rfl) (argsL := [(.int (1 : Int32)), (.int (Int32.ofNat A)), (.int (Int32.ofNat B)), (.int (1 : Int32)), (.int x2)]) (rest := [(.int (1 : Int32)), (.ref b70)]) (lenOf pd_13 rfl) rfl (by show 2 * 0 + _ ≤ _; exact Nat.le_of_eq rfl) (hb hby at_71) (fun _ _ => ⟨rfl, e75, (by decide : 1 + 0 ≤ _), (by decide : 5 + 0 ≤ _)⟩)
    dsimp only [Pt.U, Pt.locs, Pt.cells, Pt.slots] at X77 l77 y77 z77 st77 hQ77
    subst l77 y77 z77
    obtain ⟨cc_77, rfl, N77q, e77, G77_0⟩ := hQ77
    have N77 := Fr.app N75 N77q
    refine GoW.by (T' := T77) (g' := (mkF m 74 #[.val (.int x0), .val (.int x1), .val (.int x2), .val (.int x3), .val (.int x4), .val (.int x5), .val (.int (Int32.ofNat A)), .val (.int (Int32.ofNat B)), .val (.int (1 : Int32)), .val (.int (Int32.ofNat (5 - A - B))), .val (.ref b70), .unset] [(.int cc_77), (.int (1 : Int32)), (.ref b70)])) (fun t_ k_ => st77 _ k_) ?_
    have Kp79 : Keep h0 h75 [] := (Kp74.wr W75 (Or.inr sz_b70))
    obtain ⟨cl78, Ar78, q78, Sz78, Ng78, Hs78, Gs78⟩ := id V75
    obtain ⟨T80, h80, X80, e80, W80, st80⟩ := stC X77 hx hZ e77 Ar78 (j := (1 : Int32)) (inb_of Sz78 ⟨by decide, by decide⟩) (g := (mkF m 74 #[.val (.int x0), .val (.int x1), .val (.int x2), .val (.int x3), .val (.int x4), .val (.int x5), .val (.int (Int32.ofNat A)), .val (.int (Int32.ofNat B)), .val (.int (1 : Int32)), .val (.int (Int32.ofNat (5 - A - B))), .val (.ref b70), .unset] [(.int cc_77), (.int (1 : Int32)), (.ref b70)])) rfl rfl (hb hby at_74)
    have V80 : Arv Z h80 b70 kc70 .char (5 : Int32) [(.int (nar .char cc_72)), (.int (nar .char cc_77)), (.int (0 : Int32)), (.int (0 : Int32)), (.int (0 : Int32))] (.int (0 : Int32)) := Arv.set Ar78 q78 Sz78 Ng78 Hs78 Gs78 (fits_nar_char _) W80 1 rfl (Nat.le_of_ble_eq_true rfl)
    have N80 := Fr.snoc X80 N77 ge_b70
    refine GoW.by (T' := T80) (g' := (mkF m 75 #[.val (.int x0), .val (.int x1), .val (.int x2), .val (.int x3), .val (.int x4), .val (.int x5), .val (.int (Int32.ofNat A)), .val (.int (Int32.ofNat B)), .val (.int (1 : Int32)), .val (.int (Int32.ofNat (5 - A - B))), .val (.ref b70), .unset] [])) (fun t_ k_ => st80 _ k_) ?_
    refine GoW.by (T' := T80) (g' := (mkF m 77 #[.val (.int x0), .val (.int x1), .val (.int x2), .val (.int x3), .val (.int x4), .val (.int x5), .val (.int (Int32.ofNat A)), .val (.int (Int32.ofNat B)), .val (.int (1 : Int32)), .val (.int (Int32.ofNat (5 - A - B))), .val (.ref b70), .unset] [(.ref b70)])) (fun t_ k_ => XS.aload X80.here hx rfl (hb hby at_75) rfl rfl k_) ?_
    refine GoW.by (T' := T80) (g' := (mkF m 78 #[.val (.int x0), .val (.int x1), .val (.int x2), .val (.int x3), .val (.int x4), .val (.int x5), .val (.int (Int32.ofNat A)), .val (.int (Int32.ofNat B)), .val (.int (1 : Int32)), .val (.int (Int32.ofNat (5 - A - B))), .val (.ref b70), .unset] [(.int (2 : Int32)), (.ref b70)])) (fun t_ k_ => XS.iconst X80.here hx rfl (hb hby at_77) k_) ?_
    refine GoW.by (T' := T80) (g' := (mkF m 79 #[.val (.int x0), .val (.int x1), .val (.int x2), .val (.int x3), .val (.int x4), .val (.int x5), .val (.int (Int32.ofNat A)), .val (.int (Int32.ofNat B)), .val (.int (1 : Int32)), .val (.int (Int32.ofNat (5 - A - B))), .val (.ref b70), .unset] [(.int (2 : Int32)), (.int (2 : Int32)), (.ref b70)])) (fun t_ k_ => XS.iconst X80.here hx rfl (hb hby at_78) k_) ?_
    refine GoW.by (T' := T80) (g' := (mkF m 81 #[.val (.int x0), .val (.int x1), .val (.int x2), .val (.int x3), .val (.int x4), .val (.int x5), .val (.int (Int32.ofNat A)), .val (.int (Int32.ofNat B)), .val (.int (1 : Int32)), .val (.int (Int32.ofNat (5 - A - B))), .val (.ref b70), .unset] [(.int (Int32.ofNat A)), (.int (2 : Int32)), (.int (2 : Int32)), (.ref b70)])) (fun t_ k_ => XS.iload X80.here hx rfl (hb hby at_79) rfl k_) ?_
    refine GoW.by (T' := T80) (g' := (mkF m 83 #[.val (.int x0), .val (.int x1), .val (.int x2), .val (.int x3), .val (.int x4), .val (.int x5), .val (.int (Int32.ofNat A)), .val (.int (Int32.ofNat B)), .val (.int (1 : Int32)), .val (.int (Int32.ofNat (5 - A - B))), .val (.ref b70), .unset] [(.int (Int32.ofNat B)), (.int (Int32.ofNat A)), (.int (2 : Int32)), (.int (2 : Int32)), (.ref b70)])) (fun t_ k_ => XS.iload X80.here hx rfl (hb hby at_81) rfl k_) ?_
    refine GoW.by (T' := T80) (g' := (mkF m 85 #[.val (.int x0), .val (.int x1), .val (.int x2), .val (.int x3), .val (.int x4), .val (.int x5), .val (.int (Int32.ofNat A)), .val (.int (Int32.ofNat B)), .val (.int (1 : Int32)), .val (.int (Int32.ofNat (5 - A - B))), .val (.ref b70), .unset] [(.int (1 : Int32)), (.int (Int32.ofNat B)), (.int (Int32.ofNat A)), (.int (2 : Int32)), (.int (2 : Int32)), (.ref b70)])) (fun t_ k_ => XS.iload X80.here hx rfl (hb hby at_83) rfl k_) ?_
    refine GoW.by (T' := T80) (g' := (mkF m 86 #[.val (.int x0), .val (.int x1), .val (.int x2), .val (.int x3), .val (.int x4), .val (.int x5), .val (.int (Int32.ofNat A)), .val (.int (Int32.ofNat B)), .val (.int (1 : Int32)), .val (.int (Int32.ofNat (5 - A - B))), .val (.ref b70), .unset] [(.int x3), (.int (1 : Int32)), (.int (Int32.ofNat B)), (.int (Int32.ofNat A)), (.int (2 : Int32)), (.int (2 : Int32)), (.ref b70)])) (fun t_ k_ => XS.iloadN X80.here hx rfl (hb hby at_85) rfl k_) ?_
    have Od81 : Old Z n0 h80 := (Od76.wr W80 ge_b70)
    obtain ⟨_, _, ⟨T82, L82, k82, n82⟩, -, X82, ⟨Lc82, hQ82, l82, y82, z82⟩, st82⟩ := Jvm.LawKit.callS X80 hx (y := (⟨"com/example/refledger/refledger/PublicKeyTextTrimPinLaw", "place", "(IIIZI)C"⟩ : MethodName)) hown (mvT hZ (hw _ (List.mem_of_getElem? (i := 1) rfl))) (mvT hZ (hw _ (List.mem_of_getElem? (i := 2) rfl))) (mvT hZ (hw _ (List.mem_of_getElem? (i := 3) rfl))) (mvT hZ (hw _ (List.mem_of_getElem? (i := 4) rfl))) (by decide) (backOf (W := 2) (rm_place l Z a0 hw [] (2 : Int32) A B (1 : Int32) x3 2 h80 n0 Od81 rfl (by decide) hA hB) hZ (hw _ (List.mem_of_getElem? (i := 4) rfl)) (hw _ (List.mem_of_getElem? (i := 3) rfl)) (by decide) (by decide)) (g := (mkF m 86 #[.val (.int x0), .val (.int x1), .val (.int x2), .val (.int x3), .val (.int x4), .val (.int x5), .val (.int (Int32.ofNat A)), .val (.int (Int32.ofNat B)), .val (.int (1 : Int32)), .val (.int (Int32.ofNat (5 - A - B))), .val (.ref b70), .unset] [(.int x3), (.int (1 : Int32)), (.int (Int32.ofNat B)), (.int (Int32.ofNat A)), (.int (2 : Int32)), (.int (2 : Int32)), (.ref b70)])) rfl (by rw [hml]; rfl) (argsL := [(.int (2 : Int32)), (.int (Int32.ofNat A)), (.int (Int32.ofNat B)), (.int (1 : Int32)), (.int x3)]) (rest := [(.int (2 : Int32)), (.ref b70)]) (lenOf pd_13 rfl) rfl (by show 2 * 0 + _ ≤ _; exact Nat.le_of_eq rfl) (hb hby at_86) (fun _ _ => ⟨rfl, e80, (by decide : 1 + 0 ≤ _), (by decide : 5 + 0 ≤ _)⟩)
    dsimp only [Pt.U, Pt.locs, Pt.cells, Pt.slots] at X82 l82 y82 z82 st82 hQ82
    subst l82 y82 z82
    obtain ⟨cc_82, rfl, N82q, e82, G82_0⟩ := hQ82
    have N82 := Fr.app N80 N82q
    refine GoW.by (T' := T82) (g' := (mkF m 89 #[.val (.int x0), .val (.int x1), .val (.int x2), .val (.int x3), .val (.int x4), .val (.int x5), .val (.int (Int32.ofNat A)), .val (.int (Int32.ofNat B)), .val (.int (1 : Int32)), .val (.int (Int32.ofNat (5 - A - B))), .val (.ref b70), .unset] [(.int cc_82), (.int (2 : Int32)), (.ref b70)])) (fun t_ k_ => st82 _ k_) ?_
    have Kp84 : Keep h0 h80 [] := (Kp79.wr W80 (Or.inr sz_b70))
    obtain ⟨cl83, Ar83, q83, Sz83, Ng83, Hs83, Gs83⟩ := id V80
    obtain ⟨T85, h85, X85, e85, W85, st85⟩ := stC X82 hx hZ e82 Ar83 (j := (2 : Int32)) (inb_of Sz83 ⟨by decide, by decide⟩) (g := (mkF m 89 #[.val (.int x0), .val (.int x1), .val (.int x2), .val (.int x3), .val (.int x4), .val (.int x5), .val (.int (Int32.ofNat A)), .val (.int (Int32.ofNat B)), .val (.int (1 : Int32)), .val (.int (Int32.ofNat (5 - A - B))), .val (.ref b70), .unset] [(.int cc_82), (.int (2 : Int32)), (.ref b70)])) rfl rfl (hb hby at_89)
    have V85 : Arv Z h85 b70 kc70 .char (5 : Int32) [(.int (nar .char cc_72)), (.int (nar .char cc_77)), (.int (nar .char cc_82)), (.int (0 : Int32)), (.int (0 : Int32))] (.int (0 : Int32)) := Arv.set Ar83 q83 Sz83 Ng83 Hs83 Gs83 (fits_nar_char _) W85 2 rfl (Nat.le_of_ble_eq_true rfl)
    have N85 := Fr.snoc X85 N82 ge_b70
    refine GoW.by (T' := T85) (g' := (mkF m 90 #[.val (.int x0), .val (.int x1), .val (.int x2), .val (.int x3), .val (.int x4), .val (.int x5), .val (.int (Int32.ofNat A)), .val (.int (Int32.ofNat B)), .val (.int (1 : Int32)), .val (.int (Int32.ofNat (5 - A - B))), .val (.ref b70), .unset] [])) (fun t_ k_ => st85 _ k_) ?_
    refine GoW.by (T' := T85) (g' := (mkF m 92 #[.val (.int x0), .val (.int x1), .val (.int x2), .val (.int x3), .val (.int x4), .val (.int x5), .val (.int (Int32.ofNat A)), .val (.int (Int32.ofNat B)), .val (.int (1 : Int32)), .val (.int (Int32.ofNat (5 - A - B))), .val (.ref b70), .unset] [(.ref b70)])) (fun t_ k_ => XS.aload X85.here hx rfl (hb hby at_90) rfl rfl k_) ?_
    refine GoW.by (T' := T85) (g' := (mkF m 93 #[.val (.int x0), .val (.int x1), .val (.int x2), .val (.int x3), .val (.int x4), .val (.int x5), .val (.int (Int32.ofNat A)), .val (.int (Int32.ofNat B)), .val (.int (1 : Int32)), .val (.int (Int32.ofNat (5 - A - B))), .val (.ref b70), .unset] [(.int (3 : Int32)), (.ref b70)])) (fun t_ k_ => XS.iconst X85.here hx rfl (hb hby at_92) k_) ?_
    refine GoW.by (T' := T85) (g' := (mkF m 94 #[.val (.int x0), .val (.int x1), .val (.int x2), .val (.int x3), .val (.int x4), .val (.int x5), .val (.int (Int32.ofNat A)), .val (.int (Int32.ofNat B)), .val (.int (1 : Int32)), .val (.int (Int32.ofNat (5 - A - B))), .val (.ref b70), .unset] [(.int (3 : Int32)), (.int (3 : Int32)), (.ref b70)])) (fun t_ k_ => XS.iconst X85.here hx rfl (hb hby at_93) k_) ?_
    refine GoW.by (T' := T85) (g' := (mkF m 96 #[.val (.int x0), .val (.int x1), .val (.int x2), .val (.int x3), .val (.int x4), .val (.int x5), .val (.int (Int32.ofNat A)), .val (.int (Int32.ofNat B)), .val (.int (1 : Int32)), .val (.int (Int32.ofNat (5 - A - B))), .val (.ref b70), .unset] [(.int (Int32.ofNat A)), (.int (3 : Int32)), (.int (3 : Int32)), (.ref b70)])) (fun t_ k_ => XS.iload X85.here hx rfl (hb hby at_94) rfl k_) ?_
    refine GoW.by (T' := T85) (g' := (mkF m 98 #[.val (.int x0), .val (.int x1), .val (.int x2), .val (.int x3), .val (.int x4), .val (.int x5), .val (.int (Int32.ofNat A)), .val (.int (Int32.ofNat B)), .val (.int (1 : Int32)), .val (.int (Int32.ofNat (5 - A - B))), .val (.ref b70), .unset] [(.int (Int32.ofNat B)), (.int (Int32.ofNat A)), (.int (3 : Int32)), (.int (3 : Int32)), (.ref b70)])) (fun t_ k_ => XS.iload X85.here hx rfl (hb hby at_96) rfl k_) ?_
    refine GoW.by (T' := T85) (g' := (mkF m 100 #[.val (.int x0), .val (.int x1), .val (.int x2), .val (.int x3), .val (.int x4), .val (.int x5), .val (.int (Int32.ofNat A)), .val (.int (Int32.ofNat B)), .val (.int (1 : Int32)), .val (.int (Int32.ofNat (5 - A - B))), .val (.ref b70), .unset] [(.int (1 : Int32)), (.int (Int32.ofNat B)), (.int (Int32.ofNat A)), (.int (3 : Int32)), (.int (3 : Int32)), (.ref b70)])) (fun t_ k_ => XS.iload X85.here hx rfl (hb hby at_98) rfl k_) ?_
    refine GoW.by (T' := T85) (g' := (mkF m 102 #[.val (.int x0), .val (.int x1), .val (.int x2), .val (.int x3), .val (.int x4), .val (.int x5), .val (.int (Int32.ofNat A)), .val (.int (Int32.ofNat B)), .val (.int (1 : Int32)), .val (.int (Int32.ofNat (5 - A - B))), .val (.ref b70), .unset] [(.int x4), (.int (1 : Int32)), (.int (Int32.ofNat B)), (.int (Int32.ofNat A)), (.int (3 : Int32)), (.int (3 : Int32)), (.ref b70)])) (fun t_ k_ => XS.iload X85.here hx rfl (hb hby at_100) rfl k_) ?_
    have Od86 : Old Z n0 h85 := (Od81.wr W85 ge_b70)
    obtain ⟨_, _, ⟨T87, L87, k87, n87⟩, -, X87, ⟨Lc87, hQ87, l87, y87, z87⟩, st87⟩ := Jvm.LawKit.callS X85 hx (y := (⟨"com/example/refledger/refledger/PublicKeyTextTrimPinLaw", "place", "(IIIZI)C"⟩ : MethodName)) hown (mvT hZ (hw _ (List.mem_of_getElem? (i := 1) rfl))) (mvT hZ (hw _ (List.mem_of_getElem? (i := 2) rfl))) (mvT hZ (hw _ (List.mem_of_getElem? (i := 3) rfl))) (mvT hZ (hw _ (List.mem_of_getElem? (i := 4) rfl))) (by decide) (backOf (W := 2) (rm_place l Z a0 hw [] (3 : Int32) A B (1 : Int32) x4 3 h85 n0 Od86 rfl (by decide) hA hB) hZ (hw _ (List.mem_of_getElem? (i := 4) rfl)) (hw _ (List.mem_of_getElem? (i := 3) rfl)) (by decide) (by decide)) (g := (mkF m 102 #[.val (.int x0), .val (.int x1), .val (.int x2), .val (.int x3), .val (.int x4), .val (.int x5), .val (.int (Int32.ofNat A)), .val (.int (Int32.ofNat B)), .val (.int (1 : Int32)), .val (.int (Int32.ofNat (5 - A - B))), .val (.ref b70), .unset] [(.int x4), (.int (1 : Int32)), (.int (Int32.ofNat B)), (.int (Int32.ofNat A)), (.int (3 : Int32)), (.int (3 : Int32)), (.ref b70)])) rfl (by rw [hml]; rfl) (argsL := [(.int (3 : Int32)), (.int (Int32.ofNat A)), (.int (Int32.ofNat B)), (.int (1 : Int32)), (.int x4)]) (rest := [(.int (3 : Int32)), (.ref b70)]) (lenOf pd_13 rfl) rfl (by show 2 * 0 + _ ≤ _; exact Nat.le_of_eq rfl) (hb hby at_102) (fun _ _ => ⟨rfl, e85, (by decide : 1 + 0 ≤ _), (by decide : 5 + 0 ≤ _)⟩)
    dsimp only [Pt.U, Pt.locs, Pt.cells, Pt.slots] at X87 l87 y87 z87 st87 hQ87
    subst l87 y87 z87
    obtain ⟨cc_87, rfl, N87q, e87, G87_0⟩ := hQ87
    have N87 := Fr.app N85 N87q
    refine GoW.by (T' := T87) (g' := (mkF m 105 #[.val (.int x0), .val (.int x1), .val (.int x2), .val (.int x3), .val (.int x4), .val (.int x5), .val (.int (Int32.ofNat A)), .val (.int (Int32.ofNat B)), .val (.int (1 : Int32)), .val (.int (Int32.ofNat (5 - A - B))), .val (.ref b70), .unset] [(.int cc_87), (.int (3 : Int32)), (.ref b70)])) (fun t_ k_ => st87 _ k_) ?_
    have Kp89 : Keep h0 h85 [] := (Kp84.wr W85 (Or.inr sz_b70))
    obtain ⟨cl88, Ar88, q88, Sz88, Ng88, Hs88, Gs88⟩ := id V85
    obtain ⟨T90, h90, X90, e90, W90, st90⟩ := stC X87 hx hZ e87 Ar88 (j := (3 : Int32)) (inb_of Sz88 ⟨by decide, by decide⟩) (g := (mkF m 105 #[.val (.int x0), .val (.int x1), .val (.int x2), .val (.int x3), .val (.int x4), .val (.int x5), .val (.int (Int32.ofNat A)), .val (.int (Int32.ofNat B)), .val (.int (1 : Int32)), .val (.int (Int32.ofNat (5 - A - B))), .val (.ref b70), .unset] [(.int cc_87), (.int (3 : Int32)), (.ref b70)])) rfl rfl (hb hby at_105)
    have V90 : Arv Z h90 b70 kc70 .char (5 : Int32) [(.int (nar .char cc_72)), (.int (nar .char cc_77)), (.int (nar .char cc_82)), (.int (nar .char cc_87)), (.int (0 : Int32))] (.int (0 : Int32)) := Arv.set Ar88 q88 Sz88 Ng88 Hs88 Gs88 (fits_nar_char _) W90 3 rfl (Nat.le_of_ble_eq_true rfl)
    have N90 := Fr.snoc X90 N87 ge_b70
    refine GoW.by (T' := T90) (g' := (mkF m 106 #[.val (.int x0), .val (.int x1), .val (.int x2), .val (.int x3), .val (.int x4), .val (.int x5), .val (.int (Int32.ofNat A)), .val (.int (Int32.ofNat B)), .val (.int (1 : Int32)), .val (.int (Int32.ofNat (5 - A - B))), .val (.ref b70), .unset] [])) (fun t_ k_ => st90 _ k_) ?_
    refine GoW.by (T' := T90) (g' := (mkF m 108 #[.val (.int x0), .val (.int x1), .val (.int x2), .val (.int x3), .val (.int x4), .val (.int x5), .val (.int (Int32.ofNat A)), .val (.int (Int32.ofNat B)), .val (.int (1 : Int32)), .val (.int (Int32.ofNat (5 - A - B))), .val (.ref b70), .unset] [(.ref b70)])) (fun t_ k_ => XS.aload X90.here hx rfl (hb hby at_106) rfl rfl k_) ?_
    refine GoW.by (T' := T90) (g' := (mkF m 109 #[.val (.int x0), .val (.int x1), .val (.int x2), .val (.int x3), .val (.int x4), .val (.int x5), .val (.int (Int32.ofNat A)), .val (.int (Int32.ofNat B)), .val (.int (1 : Int32)), .val (.int (Int32.ofNat (5 - A - B))), .val (.ref b70), .unset] [(.int (4 : Int32)), (.ref b70)])) (fun t_ k_ => XS.iconst X90.here hx rfl (hb hby at_108) k_) ?_
    refine GoW.by (T' := T90) (g' := (mkF m 110 #[.val (.int x0), .val (.int x1), .val (.int x2), .val (.int x3), .val (.int x4), .val (.int x5), .val (.int (Int32.ofNat A)), .val (.int (Int32.ofNat B)), .val (.int (1 : Int32)), .val (.int (Int32.ofNat (5 - A - B))), .val (.ref b70), .unset] [(.int (4 : Int32)), (.int (4 : Int32)), (.ref b70)])) (fun t_ k_ => XS.iconst X90.here hx rfl (hb hby at_109) k_) ?_
    refine GoW.by (T' := T90) (g' := (mkF m 112 #[.val (.int x0), .val (.int x1), .val (.int x2), .val (.int x3), .val (.int x4), .val (.int x5), .val (.int (Int32.ofNat A)), .val (.int (Int32.ofNat B)), .val (.int (1 : Int32)), .val (.int (Int32.ofNat (5 - A - B))), .val (.ref b70), .unset] [(.int (Int32.ofNat A)), (.int (4 : Int32)), (.int (4 : Int32)), (.ref b70)])) (fun t_ k_ => XS.iload X90.here hx rfl (hb hby at_110) rfl k_) ?_
    refine GoW.by (T' := T90) (g' := (mkF m 114 #[.val (.int x0), .val (.int x1), .val (.int x2), .val (.int x3), .val (.int x4), .val (.int x5), .val (.int (Int32.ofNat A)), .val (.int (Int32.ofNat B)), .val (.int (1 : Int32)), .val (.int (Int32.ofNat (5 - A - B))), .val (.ref b70), .unset] [(.int (Int32.ofNat B)), (.int (Int32.ofNat A)), (.int (4 : Int32)), (.int (4 : Int32)), (.ref b70)])) (fun t_ k_ => XS.iload X90.here hx rfl (hb hby at_112) rfl k_) ?_
    refine GoW.by (T' := T90) (g' := (mkF m 116 #[.val (.int x0), .val (.int x1), .val (.int x2), .val (.int x3), .val (.int x4), .val (.int x5), .val (.int (Int32.ofNat A)), .val (.int (Int32.ofNat B)), .val (.int (1 : Int32)), .val (.int (Int32.ofNat (5 - A - B))), .val (.ref b70), .unset] [(.int (1 : Int32)), (.int (Int32.ofNat B)), (.int (Int32.ofNat A)), (.int (4 : Int32)), (.int (4 : Int32)), (.ref b70)])) (fun t_ k_ => XS.iload X90.here hx rfl (hb hby at_114) rfl k_) ?_
    refine GoW.by (T' := T90) (g' := (mkF m 118 #[.val (.int x0), .val (.int x1), .val (.int x2), .val (.int x3), .val (.int x4), .val (.int x5), .val (.int (Int32.ofNat A)), .val (.int (Int32.ofNat B)), .val (.int (1 : Int32)), .val (.int (Int32.ofNat (5 - A - B))), .val (.ref b70), .unset] [(.int x5), (.int (1 : Int32)), (.int (Int32.ofNat B)), (.int (Int32.ofNat A)), (.int (4 : Int32)), (.int (4 : Int32)), (.ref b70)])) (fun t_ k_ => XS.iload X90.here hx rfl (hb hby at_116) rfl k_) ?_
    have Od91 : Old Z n0 h90 := (Od86.wr W90 ge_b70)
    obtain ⟨_, _, ⟨T92, L92, k92, n92⟩, -, X92, ⟨Lc92, hQ92, l92, y92, z92⟩, st92⟩ := Jvm.LawKit.callS X90 hx (y := (⟨"com/example/refledger/refledger/PublicKeyTextTrimPinLaw", "place", "(IIIZI)C"⟩ : MethodName)) hown (mvT hZ (hw _ (List.mem_of_getElem? (i := 1) rfl))) (mvT hZ (hw _ (List.mem_of_getElem? (i := 2) rfl))) (mvT hZ (hw _ (List.mem_of_getElem? (i := 3) rfl))) (mvT hZ (hw _ (List.mem_of_getElem? (i := 4) rfl))) (by decide) (backOf (W := 2) (rm_place l Z a0 hw [] (4 : Int32) A B (1 : Int32) x5 4 h90 n0 Od91 rfl (by decide) hA hB) hZ (hw _ (List.mem_of_getElem? (i := 4) rfl)) (hw _ (List.mem_of_getElem? (i := 3) rfl)) (by decide) (by decide)) (g := (mkF m 118 #[.val (.int x0), .val (.int x1), .val (.int x2), .val (.int x3), .val (.int x4), .val (.int x5), .val (.int (Int32.ofNat A)), .val (.int (Int32.ofNat B)), .val (.int (1 : Int32)), .val (.int (Int32.ofNat (5 - A - B))), .val (.ref b70), .unset] [(.int x5), (.int (1 : Int32)), (.int (Int32.ofNat B)), (.int (Int32.ofNat A)), (.int (4 : Int32)), (.int (4 : Int32)), (.ref b70)])) rfl (by rw [hml]; rfl) (argsL := [(.int (4 : Int32)), (.int (Int32.ofNat A)), (.int (Int32.ofNat B)), (.int (1 : Int32)), (.int x5)]) (rest := [(.int (4 : Int32)), (.ref b70)]) (lenOf pd_13 rfl) rfl (by show 2 * 0 + _ ≤ _; exact Nat.le_of_eq rfl) (hb hby at_118) (fun _ _ => ⟨rfl, e90, (by decide : 1 + 0 ≤ _), (by decide : 5 + 0 ≤ _)⟩)
    dsimp only [Pt.U, Pt.locs, Pt.cells, Pt.slots] at X92 l92 y92 z92 st92 hQ92
    subst l92 y92 z92
    obtain ⟨cc_92, rfl, N92q, e92, G92_0⟩ := hQ92
    have N92 := Fr.app N90 N92q
    refine GoW.by (T' := T92) (g' := (mkF m 121 #[.val (.int x0), .val (.int x1), .val (.int x2), .val (.int x3), .val (.int x4), .val (.int x5), .val (.int (Int32.ofNat A)), .val (.int (Int32.ofNat B)), .val (.int (1 : Int32)), .val (.int (Int32.ofNat (5 - A - B))), .val (.ref b70), .unset] [(.int cc_92), (.int (4 : Int32)), (.ref b70)])) (fun t_ k_ => st92 _ k_) ?_
    have Kp94 : Keep h0 h90 [] := (Kp89.wr W90 (Or.inr sz_b70))
    obtain ⟨cl93, Ar93, q93, Sz93, Ng93, Hs93, Gs93⟩ := id V90
    obtain ⟨T95, h95, X95, e95, W95, st95⟩ := stC X92 hx hZ e92 Ar93 (j := (4 : Int32)) (inb_of Sz93 ⟨by decide, by decide⟩) (g := (mkF m 121 #[.val (.int x0), .val (.int x1), .val (.int x2), .val (.int x3), .val (.int x4), .val (.int x5), .val (.int (Int32.ofNat A)), .val (.int (Int32.ofNat B)), .val (.int (1 : Int32)), .val (.int (Int32.ofNat (5 - A - B))), .val (.ref b70), .unset] [(.int cc_92), (.int (4 : Int32)), (.ref b70)])) rfl rfl (hb hby at_121)
    have V95 : Arv Z h95 b70 kc70 .char (5 : Int32) [(.int (nar .char cc_72)), (.int (nar .char cc_77)), (.int (nar .char cc_82)), (.int (nar .char cc_87)), (.int (nar .char cc_92))] (.int (0 : Int32)) := Arv.set Ar93 q93 Sz93 Ng93 Hs93 Gs93 (fits_nar_char _) W95 4 rfl (Nat.le_of_ble_eq_true rfl)
    have N95 := Fr.snoc X95 N92 ge_b70
    refine GoW.by (T' := T95) (g' := (mkF m 122 #[.val (.int x0), .val (.int x1), .val (.int x2), .val (.int x3), .val (.int x4), .val (.int x5), .val (.int (Int32.ofNat A)), .val (.int (Int32.ofNat B)), .val (.int (1 : Int32)), .val (.int (Int32.ofNat (5 - A - B))), .val (.ref b70), .unset] [])) (fun t_ k_ => st95 _ k_) ?_
    obtain ⟨cs, hcs⟩ : ∃ z : List Int32, z = [cc_72, cc_77, cc_82, cc_87, cc_92] := ⟨_, rfl⟩
    have V96 : Arv Z h95 b70 kc70 .char (5 : Int32) (cs.map Value.int) (.int (0 : Int32)) := by have q := V95; rw [own_narc G72_0.1, own_narc G77_0.1, own_narc G82_0.1, own_narc G87_0.1, own_narc G92_0.1] at q; rw [hcs]; exact q
    have hlen : cs.length = 5 := by rw [hcs]; rfl
    have hp : ∀ c ∈ cs, ¬ c < 0 ∧ ¬ (255 : Int32) < c := by
      rw [hcs]; intro c hc
      simp only [List.mem_cons, List.not_mem_nil, or_false] at hc
      rcases hc with rfl | rfl | rfl | rfl | rfl
      · exact G72_0.1
      · exact G77_0.1
      · exact G82_0.1
      · exact G87_0.1
      · exact G92_0.1
    refine GoW.by (T' := T95) (g' := (mkF m 124 #[.val (.int x0), .val (.int x1), .val (.int x2), .val (.int x3), .val (.int x4), .val (.int x5), .val (.int (Int32.ofNat A)), .val (.int (Int32.ofNat B)), .val (.int (1 : Int32)), .val (.int (Int32.ofNat (5 - A - B))), .val (.ref b70), .unset] [(.int (1 : Int32))])) (fun t_ k_ => XS.iload X95.here hx rfl (hb hby at_122) rfl k_) ?_
    refine GoW.by (T' := T95) (g' := (mkF m 179 #[.val (.int x0), .val (.int x1), .val (.int x2), .val (.int x3), .val (.int x4), .val (.int x5), .val (.int (Int32.ofNat A)), .val (.int (Int32.ofNat B)), .val (.int (1 : Int32)), .val (.int (Int32.ofNat (5 - A - B))), .val (.ref b70), .unset] [])) (fun t_ k_ => XS.ifYes X95.here hx rfl (pc0 := 124) (pc' := 179) rfl (hb hby at_124) rfl ((if0 _ _).trans (feq (by decide)).2) (by decide) (by decide) k_) ?_
    obtain ⟨T97, h97, X97, e97, E97, A97, Df97, -, st97⟩ := newO X95 hx hZ hown (hw _ (List.mem_of_getElem? (i := 8) rfl)) (hw _ (List.mem_of_getElem? (i := 9) rfl)) (hw _ (List.mem_of_getElem? (i := 10) rfl)) e95 (g := (mkF m 179 #[.val (.int x0), .val (.int x1), .val (.int x2), .val (.int x3), .val (.int x4), .val (.int x5), .val (.int (Int32.ofNat A)), .val (.int (Int32.ofNat B)), .val (.int (1 : Int32)), .val (.int (Int32.ofNat (5 - A - B))), .val (.ref b70), .unset] [])) rfl (hb hby at_179) (by decide) (by decide)
    obtain ⟨b97, g97⟩ : ∃ z, z = h95.size := ⟨_, rfl⟩
    rw [← g97] at A97 Df97 st97
    have Od98 : Old Z n0 h95 := (Od91.wr W95 ge_b70)
    have ge_b97 : n0 ≤ b97 := Nat.le_trans Od98.sz (Nat.le_of_eq g97.symm)
    have Kp99 : Keep h0 h95 [] := (Kp94.wr W95 (Or.inr sz_b70))
    have sz_b97 : h0.size ≤ b97 := Nat.le_trans Kp99.1 (Nat.le_of_eq g97.symm)
    have ne_b70_b97 : ¬ (b70 = b97) := Nat.ne_of_lt (Nat.lt_of_lt_of_le V96.lt (Nat.le_of_eq g97.symm))
    have F100 : Fld Z h97 b97 "java/lang/String" "coder" "B" (.int (0 : Int32)) := Df97 (Or.inr (hw _ (List.mem_of_getElem? (i := 34) rfl))) (ty := .byte) (by decide)
    have F101 : Fld Z h97 b97 "java/lang/String" "value" "[B" .null := Df97 (Or.inr (hw _ (List.mem_of_getElem? (i := 36) rfl))) (ty := (.array .byte)) (by decide)
    refine GoW.by (T' := T97) (g' := (mkF m 182 #[.val (.int x0), .val (.int x1), .val (.int x2), .val (.int x3), .val (.int x4), .val (.int x5), .val (.int (Int32.ofNat A)), .val (.int (Int32.ofNat B)), .val (.int (1 : Int32)), .val (.int (Int32.ofNat (5 - A - B))), .val (.ref b70), .unset] [(.ref b97)])) (fun t_ k_ => st97 _ k_) ?_
    refine GoW.by (T' := T97) (g' := (mkF m 183 #[.val (.int x0), .val (.int x1), .val (.int x2), .val (.int x3), .val (.int x4), .val (.int x5), .val (.int (Int32.ofNat A)), .val (.int (Int32.ofNat B)), .val (.int (1 : Int32)), .val (.int (Int32.ofNat (5 - A - B))), .val (.ref b70), .unset] [(.ref b97), (.ref b97)])) (fun t_ k_ => XS.dup X97.here hx rfl (hb hby at_182) rfl rfl k_) ?_
    refine GoW.by (T' := T97) (g' := (mkF m 185 #[.val (.int x0), .val (.int x1), .val (.int x2), .val (.int x3), .val (.int x4), .val (.int x5), .val (.int (Int32.ofNat A)), .val (.int (Int32.ofNat B)), .val (.int (1 : Int32)), .val (.int (Int32.ofNat (5 - A - B))), .val (.ref b70), .unset] [(.ref b70), (.ref b97), (.ref b97)])) (fun t_ k_ => XS.aload X97.here hx rfl (hb hby at_183) rfl rfl k_) ?_
    have hrmA : ∀ i, i < 5 → own_rm (cs.getD i 0) := by
      intro i hi
      rw [hcs]
      have hi' : i = 0 ∨ i = 1 ∨ i = 2 ∨ i = 3 ∨ i = 4 := by omega
      rcases hi' with rfl | rfl | rfl | rfl | rfl
      · exact G72_0.2.1 (by decide)
      · exact G77_0.2.1 (by decide)
      · exact G82_0.2.1 (by decide)
      · exact G87_0.2.1 (by decide)
      · exact G92_0.2.1 (by decide)
    obtain ⟨j, hj5, hjb, hje⟩ := own_first (fun i => own_bl (cs.getD i 0)) 5
    have F102 : Arv Z h97 b70 kc70 .char (5 : Int32) (cs.map Value.int) (.int (0 : Int32)) := (V96.ext E97)
    have Od103 : Old Z n0 h97 := (Od98.ext E97)
    have Kp104 : Keep h0 h97 [] := (Kp99.ext E97)
    have hp105 : ∀ c ∈ cs, ¬ c < 0 ∧ ¬ (255 : Int32) < c := hp
    obtain ⟨_, _, ⟨T106, L106, k106, n106⟩, -, X106, ⟨Lc106, hQ106, l106, y106, z106⟩, st106⟩ := X97.specialBack hx (y := (⟨"java/lang/String", "<init>", "([C)V"⟩ : MethodName)) rfl hown (mvT hZ (hw _ (List.mem_of_getElem? (i := 11) rfl))) (mvT hZ (hw _ (List.mem_of_getElem? (i := 12) rfl))) (mvT hZ (hw _ (List.mem_of_getElem? (i := 13) rfl))) (by decide) (StrChars.Road.backV (W := 1) hZ (own_words hw) (kI := 4) (hw _ (List.mem_of_getElem? (i := 9) rfl)) (cs := cs) (bs := cs.map (fun c => c.toInt8.toInt32)) (n := 5) ge_b97 Od103.sz A97 F101 F100 F102 (P0.ext Od103.2) hCS hlen rfl (by decide) (by decide) hp105 rfl (by decide) (by decide)) (g := (mkF m 185 #[.val (.int x0), .val (.int x1), .val (.int x2), .val (.int x3), .val (.int x4), .val (.int x5), .val (.int (Int32.ofNat A)), .val (.int (Int32.ofNat B)), .val (.int (1 : Int32)), .val (.int (Int32.ofNat (5 - A - B))), .val (.ref b70), .unset] [(.ref b70), (.ref b97), (.ref b97)])) rfl (by rw [hml]; rfl) (Steps.refl _) (a := b97) (argsL := [(.ref b70)]) (rest := [(.ref b97)]) (lenOf pd_14 rfl) rfl (by show 2 * 0 + _ ≤ _; exact Nat.le_of_eq rfl) (hb hby at_185) (fun _ _ => ⟨rfl, e97, (by decide : 2 + 1 ≤ _), (by decide : 9 + 5 ≤ _)⟩)
    dsimp only [Pt.U, Pt.locs, Pt.cells, Pt.slots] at X106 l106 y106 z106 st106 hQ106
    subst l106 y106 z106
    obtain ⟨rfl, N106q, K106, Ea106, Fc106, t106, kb106, ge_t106, nw106, nx106, Fv106, Va106⟩ := hQ106
    have N106 := Fr.app N95 N106q
    have sz_t106 : h0.size ≤ t106 := Nat.le_trans Kp104.1 nw106
    have ne_b70_t106 : ¬ (b70 = t106) := Nat.ne_of_lt (Nat.lt_of_lt_of_le F102.lt nw106)
    refine GoW.by (T' := T106) (g' := (mkF m 188 #[.val (.int x0), .val (.int x1), .val (.int x2), .val (.int x3), .val (.int x4), .val (.int x5), .val (.int (Int32.ofNat A)), .val (.int (Int32.ofNat B)), .val (.int (1 : Int32)), .val (.int (Int32.ofNat (5 - A - B))), .val (.ref b70), .unset] [(.ref b97)])) (fun t_ k_ => st106.trans k_) ?_
    have Od107 : Old Z n0 T106.heap := (Od103.keep K106 (allS ge_b97 all0))
    obtain ⟨_, _, ⟨T108, L108, k108, n108⟩, -, X108, hS108, gr108, ⟨Lc108, hQ108, l108, y108, z108⟩, st108⟩ := callSS X106 hx (y := (⟨"com/example/refledger/refledger/PublicKeyText", "trim", "(Ljava/lang/String;)Ljava/lang/String;"⟩ : MethodName)) hown (mvT hZ (hw _ (List.mem_of_getElem? (i := 37) rfl))) (mvT hZ (hw _ (List.mem_of_getElem? (i := 38) rfl))) (mvT hZ (hw _ (List.mem_of_getElem? (i := 39) rfl))) (mvT hZ (hw _ (List.mem_of_getElem? (i := 40) rfl))) (by decide) (backOfI (W := 0) (rm_trimZ l Z a0 hw [] b97 t106 kb106 cs j j G1 G3 T106.heap n0 Od107 Ea106 Fv106 Fc106 Va106 hp hlen hj5 hjb hje (Nat.le_refl _) hj5 (fun i _ hi => hrmA i hi) rfl P0 hCS P2 hSF hheld hcw) hZ hI (hw _ (List.mem_of_getElem? (i := 40) rfl)) (hw _ (List.mem_of_getElem? (i := 39) rfl)) (by decide) (by decide)) (g := (mkF m 188 #[.val (.int x0), .val (.int x1), .val (.int x2), .val (.int x3), .val (.int x4), .val (.int x5), .val (.int (Int32.ofNat A)), .val (.int (Int32.ofNat B)), .val (.int (1 : Int32)), .val (.int (Int32.ofNat (5 - A - B))), .val (.ref b70), .unset] [(.ref b97)])) rfl (by rw [hml]; rfl) (argsL := [(.ref b97)]) (rest := []) (lenOf pd_15 rfl) rfl (by show 2 * 0 + _ ≤ _; exact Nat.le_of_eq rfl) (hb hby at_188) (fun _ _ => ⟨rfl, rfl, (by decide : 3 + 2 ≤ _), (by decide : 14 + 4 ≤ _)⟩)
    dsimp only [Pt.U, Pt.locs, Pt.cells, Pt.slots] at X108 hS108 gr108 l108 y108 z108 st108 hQ108
    subst l108 y108 z108
    obtain ⟨X108, hS, hZ, hown⟩ := rebS hS (Nat.zero_le _) X108 hS108 gr108 hZ hown
    obtain ⟨r_108, t_108, k2_108, rfl, N108q, K108, G108_0, G108_1, G108_2, G108_3⟩ := hQ108
    have N108 := Fr.app N106 N108q
    refine GoW.by (T' := T108) (g' := (mkF m 191 #[.val (.int x0), .val (.int x1), .val (.int x2), .val (.int x3), .val (.int x4), .val (.int x5), .val (.int (Int32.ofNat A)), .val (.int (Int32.ofNat B)), .val (.int (1 : Int32)), .val (.int (Int32.ofNat (5 - A - B))), .val (.ref b70), .unset] [(.ref r_108)])) (fun t_ k_ => st108.trans k_) ?_
    refine GoW.by (T' := T108) (g' := (mkF m 193 #[.val (.int x0), .val (.int x1), .val (.int x2), .val (.int x3), .val (.int x4), .val (.int x5), .val (.int (Int32.ofNat A)), .val (.int (Int32.ofNat B)), .val (.int (1 : Int32)), .val (.int (Int32.ofNat (5 - A - B))), .val (.ref b70), .val (.ref r_108)] [])) (fun t_ k_ => XS.astore X108.here hx rfl (hb hby at_191) rfl rfl (l' := #[.val (.int x0), .val (.int x1), .val (.int x2), .val (.int x3), .val (.int x4), .val (.int x5), .val (.int (Int32.ofNat A)), .val (.int (Int32.ofNat B)), .val (.int (1 : Int32)), .val (.int (Int32.ofNat (5 - A - B))), .val (.ref b70), .val (.ref r_108)]) rfl k_) ?_
    refine GoW.by (T' := T108) (g' := (mkF m 195 #[.val (.int x0), .val (.int x1), .val (.int x2), .val (.int x3), .val (.int x4), .val (.int x5), .val (.int (Int32.ofNat A)), .val (.int (Int32.ofNat B)), .val (.int (1 : Int32)), .val (.int (Int32.ofNat (5 - A - B))), .val (.ref b70), .val (.ref r_108)] [(.int (1 : Int32))])) (fun t_ k_ => XS.iload X108.here hx rfl (hb hby at_193) rfl k_) ?_
    refine GoW.by (T' := T108) (g' := (mkF m 198 #[.val (.int x0), .val (.int x1), .val (.int x2), .val (.int x3), .val (.int x4), .val (.int x5), .val (.int (Int32.ofNat A)), .val (.int (Int32.ofNat B)), .val (.int (1 : Int32)), .val (.int (Int32.ofNat (5 - A - B))), .val (.ref b70), .val (.ref r_108)] [])) (fun t_ k_ => XS.ifNo X108.here hx rfl (hb hby at_195) rfl ((if0 _ _).trans (feq (by decide)).1) k_) ?_
    refine GoW.by (T' := T108) (g' := (mkF m 200 #[.val (.int x0), .val (.int x1), .val (.int x2), .val (.int x3), .val (.int x4), .val (.int x5), .val (.int (Int32.ofNat A)), .val (.int (Int32.ofNat B)), .val (.int (1 : Int32)), .val (.int (Int32.ofNat (5 - A - B))), .val (.ref b70), .val (.ref r_108)] [(.ref r_108)])) (fun t_ k_ => XS.aload X108.here hx rfl (hb hby at_198) rfl rfl k_) ?_
    have Od109 : Old Z n0 T108.heap := (Od107.keep K108 all0)
    obtain ⟨cq110, kq110, q110a, q110b, q110c⟩ := isOf hZ rfl G108_0
    obtain ⟨_, _, ⟨T110, L110, k110, n110⟩, -, X110, ⟨Lc110, hQ110, l110, y110, z110⟩, st110⟩ := X108.virtualBack hx (y := (⟨"java/lang/String", "isEmpty", "()Z"⟩ : MethodName)) (z := (⟨"java/lang/String", "isEmpty", "()Z"⟩ : MethodName)) hown (mvT hZ (hw _ (List.mem_of_getElem? (i := 127) rfl))) (mvT hZ (hw _ (List.mem_of_getElem? (i := 128) rfl))) (notFace_of_selects (args := #[]) (mvT hZ (hw _ (List.mem_of_getElem? (i := 130) rfl)))) (mvT hZ (hw _ (List.mem_of_getElem? (i := 130) rfl))) (mvT hZ (hw _ (List.mem_of_getElem? (i := 129) rfl))) (by decide) (backOf (W := 0) (rm_emp l Z a0 hw [] r_108 t_108 k2_108 T108.heap n0 Od109 G108_1 G108_3) hZ (hw _ (List.mem_of_getElem? (i := 131) rfl)) (hw _ (List.mem_of_getElem? (i := 10) rfl)) (by decide) (by decide)) q110a q110c (g := (mkF m 200 #[.val (.int x0), .val (.int x1), .val (.int x2), .val (.int x3), .val (.int x4), .val (.int x5), .val (.int (Int32.ofNat A)), .val (.int (Int32.ofNat B)), .val (.int (1 : Int32)), .val (.int (Int32.ofNat (5 - A - B))), .val (.ref b70), .val (.ref r_108)] [(.ref r_108)])) rfl (by rw [hml]; rfl) (Steps.refl _) (argsL := []) (rest := []) (lenOf pd_9 rfl) rfl (by show 2 * 0 + _ ≤ _; exact Nat.le_of_eq rfl) (hb hby at_200) (fun _ _ => ⟨rfl, rfl, (by decide : 5 + 0 ≤ _), (by decide : 18 + 0 ≤ _)⟩)
    dsimp only [Pt.U, Pt.locs, Pt.cells, Pt.slots] at X110 l110 y110 z110 st110 hQ110
    subst l110 y110 z110
    obtain ⟨rfl, N110q, e110⟩ := hQ110
    have N110 := Fr.app N108 N110q
    refine GoW.by (T' := T110) (g' := (mkF m 203 #[.val (.int x0), .val (.int x1), .val (.int x2), .val (.int x3), .val (.int x4), .val (.int x5), .val (.int (Int32.ofNat A)), .val (.int (Int32.ofNat B)), .val (.int (1 : Int32)), .val (.int (Int32.ofNat (5 - A - B))), .val (.ref b70), .val (.ref r_108)] [(.int 1)])) (fun t_ k_ => st110.trans k_) ?_
    refine GoW.fin hS X110 (by rw [e110]; exact (Nat.le_refl _)) (v := some (.int (nar .boolean 1))) (fun h => by rw [Bd.returns] at h; cases h) hlk (by decide) (by decide) ?_ (fun fs hr => retN X110 hx (t := .boolean) Bd.returns (by simp) (hb hby at_203) hr)
    show Q_law Z x0 x1 x2 x3 x4 x5 G1 G3 h0 n0 _ T110.heap _
    rw [e110]
    exact ⟨rfl, N110⟩
set_option maxRecDepth 65536 in
set_option maxHeartbeats 40000000 in
theorem comes_1 {Post : Tables → Env → Array Value → State → Outcome → State → Prop} (hpost : ∀ tb e args s v u, (limb_1_1.after args s (.returned v) u = true ∧ limb_1_2.after args s (.returned v) u = true ∧ True) → ReturnedEndW s (.returned v) u (Jvm.fieldLocs frame_1_writes args s ++ Jvm.arrayLocs frame_1_arrays args s ++ Jvm.staticLocs frame_1_statics s) 24 1152 → Post tb e args s (.returned v) u) :
    ArmFor flags0 classFile x code maxLocals ret World_1 tables_1 room_1 Calls_1 rest_1 Pre_1 Post := by
  intro l hfl _ _ p e ha hc hk s m args below hf hA hF happ hP
  obtain ⟨hcalls, hrest, hpre⟩ := hP
  obtain ⟨-, -, -, hnamed, -, -, -, hat⟩ := (Spec.applies_iff hf).mp happ
  obtain ⟨hg, hn⟩ := and_e (Cond.before_iff.mp (show (Jvm.Cond.and given_1 narrow_1).before args s = true from hpre))
  obtain ⟨hcount, g0⟩ := and_e hg
  obtain ⟨a0, g1⟩ := and_e g0
  obtain ⟨a1, g2⟩ := and_e g1
  obtain ⟨a2, g3⟩ := and_e g2
  obtain ⟨a3, g4⟩ := and_e g3
  obtain ⟨a4, g5⟩ := and_e g4
  have a5 := g5
  obtain ⟨w0, w1, w2, w3, w4, w5, rfl⟩ : ∃ w0 w1 w2 w3 w4 w5 : Value, args = #[w0, w1, w2, w3, w4, w5] := by
    have hs : args.size = 6 := by simpa [Cond.value, given_1] using hcount
    obtain ⟨L⟩ := args
    match L, hs with
    | [w0, w1, w2, w3, w4, w5], _ => exact ⟨w0, w1, w2, w3, w4, w5, rfl⟩
  have hw := fun d (hd : d ∈ tables_1) => atoms_spec (ws := Jvm.Cond.code x code maxLocals ret :: tables_1) hat d (List.mem_cons_of_mem _ hd)
  obtain ⟨hsets, hown0⟩ := atoms_of _ (rest_1_c_eq ▸ (show rest_1_c.before _ s = true from hrest))
  have hr0 := Cond.before_iff.mp hown0
  have hfit : Fit s := fun {y c} hc i hi => by
    obtain ⟨ha, rfl⟩ := Array.getElem?_eq_some_iff.mp hc
    have q := List.all_eq_true.mp ((Array.all_eq_true_iff_forall_mem.mp hF) _ (Array.getElem_mem ha)) i (List.mem_range.mpr hi)
    simpa [Array.getElem?_eq_getElem hi] using q
  obtain ⟨i0, ev0⟩ := is_v a0
  obtain rfl : w0 = (.int i0) := Option.some.inj ev0
  obtain ⟨i1, ev1⟩ := is_v a1
  obtain rfl : w1 = (.int i1) := Option.some.inj ev1
  obtain ⟨i2, ev2⟩ := is_v a2
  obtain rfl : w2 = (.int i2) := Option.some.inj ev2
  obtain ⟨i3, ev3⟩ := is_v a3
  obtain rfl : w3 = (.int i3) := Option.some.inj ev3
  obtain ⟨i4, ev4⟩ := is_v a4
  obtain rfl : w4 = (.int i4) := Option.some.inj ev4
  obtain ⟨i5, ev5⟩ := is_v a5
  obtain rfl : w5 = (.int i5) := Option.some.inj ev5
  obtain ⟨G1, e10⟩ := is_v (Cond.before_iff.mp (hsets _ (List.mem_of_getElem? (i := 1) rfl)))
  have SC : Sta s s.heap "java/lang/String" "COMPACT_STRINGS" "Z" (.int G1) := Sta.start e10 (Or.inl (hsets _ (List.mem_of_getElem? (i := 0) rfl)))
  have hCS : ¬ (G1 = (0 : Int32)) := gotF (Cond.eq_ints e10 (Term.int_eval (0))) (not_v (Cond.before_iff.mp (hsets _ (List.mem_of_getElem? (i := 2) rfl))))
  obtain ⟨G3, e11, hSF⟩ := isR_v (Cond.before_iff.mp (hsets _ (List.mem_of_getElem? (i := 8) rfl)))
  have SF : Sta s s.heap "jdk/internal/util/Preconditions" "SIOOBE_FORMATTER" "Ljava/util/function/BiFunction;" G3 := Sta.start e11 (Or.inl (hsets _ (List.mem_of_getElem? (i := 7) rfl)))
  have hheld : Jvm.Lit.constHeld s "java/lang/StringLatin1" 151 := hcalls.1 ("java/lang/StringLatin1", 151) (by simp [consts_1])
  have hcw := hsets _ (List.mem_of_getElem? (i := 2) rfl)
  obtain ⟨n, o, h1, h2, h3, _, L, rfl, ⟨rfl, N⟩, hq⟩ := rm_law l s _ hw tables_1 i0 i1 i2 i3 i4 i5 G1 G3 s.heap s.heap.size (Old.start s) SC hCS SF hSF hheld hcw p e ha hc hk s m _ below hf ((Spec.applies_iff_loose hf).mp happ).1 ⟨rfl, State.Warmed39.refl s, rfl, IB.start⟩ trivial
  refine ⟨n, _, h1, h2, h3, hpost _ _ _ _ _ _ ⟨Cond.after_iff.mpr rfl, Cond.after_iff.mpr (eq_i res_at (Term.int_eval (1)) rfl), trivial⟩ ⟨hq.1, hq.2.1, hq.2.2.1, (hq.2.2.2.sift fun y hy => Or.inr (N y hy)).mono (by decide) (by decide)⟩⟩
theorem main_1_1 : Claimed_1_1 := comes_1 fun _ _ _ _ _ _ h hF => ⟨h.1, hF⟩
theorem main_1_2 : Claimed_1_2 := comes_1 fun _ _ _ _ _ _ h hF => ⟨h.2.1, hF⟩
end Jvm.Pilot.@@N@@
namespace Jvm.Pilot.@@N@@
open Jvm Jvm.ClassFile Sem Op Lib Jvm.Free Jvm.Stand Jvm.Pilot.@@N@@.Jvm.D
/-! MADE BY PROGRAM (witnessworld.py) out of the Statement's table words and the real class files: 23 classes; the members and pool entries that the words name. The judged class is class 1, her method 1. -/
namespace start1
open Jvm.ClassFile
def u (s : String) : CpInfo := .utf8 (stringToUtf16 s)
/-- a pool by its gaps: so many unusable entries, then the entry; so many at the end -/
def gap : Nat → List CpInfo → List CpInfo
  | 0, r => r
  | n + 1, r => .unusable :: gap n r
def poolList (es : List (Nat × CpInfo)) (last : Nat) : List CpInfo := es.foldr (fun e r => gap e.1 (e.2 :: r)) (gap last [])
def pool (es : List (Nat × CpInfo)) (last : Nat) : Array CpInfo := ⟨poolList es last⟩
def fileOf (pool : Array CpInfo) (this : Nat) (attrs : Array Attribute := #[]) (ms : Array MethodInfo := #[]) (fl : Nat := 33) (sup : Nat := 0) (ifs : Array Nat := #[]) (fds : Array FieldInfo := #[]) : ClassFile where
  minorVersion := 0
  majorVersion := 65
  constantPool := pool
  accessFlags := fl
  thisClass := this
  superClass := sup
  interfaces := ifs
  fields := fds
  methods := ms
  attributes := attrs
def plain (name : String) (sup : Option ClassId) : Class where
  name := name
  kind := .ordinary
  loader := none
  accessFlags := 33
  super := sup
  interfaces := #[]
  cf := none
  fields := #[]
  methods := #[]
  instanceTypes := #[]
  staticTypes := #[]
  resolved := #[]
  callSites := []
  init := .initialized
  statics := none
  mirror := none

def pool0 : Array CpInfo := pool [(5, u "<init>"), (0, u "()V"), (1, .class_ 10), (1, u "java/lang/Object")] 113

def k0c0 : Code := { maxStack := 0, maxLocals := 1, code := object_method_1_code, exceptionTable := #[], attributes := #[] }
def k0m0 : Method := { name := "<init>", desc := "()V", sig := { parameters := [], returnType := none }, accessFlags := 1, code := some k0c0 }
/-- java/lang/Object -/
def k0 : Class := { plain "java/lang/Object" none with
  accessFlags := 33
  interfaces := #[]
  cf := some (fileOf pool0 8 #[] #[{ accessFlags := 1, nameIndex := 5, descriptorIndex := 6, attributes := #[] }] 33 0 #[] #[])
  fields := #[]
  methods := #[k0m0]
  instanceTypes := #[]
  staticTypes := #[]
  resolved := Array.replicate 124 none
  statics := none }

def pool1 : Array CpInfo := pool [(2, .class_ 4), (1, u "java/lang/Object"), (0, u "<init>"), (0, u "()V"), (0, .methodref 8 9), (0, .class_ 10), (0, .nameAndType 11 12), (0, u "com/example/refledger/refledger/PublicKeyTextTrimPinLaw"), (0, u "place"), (0, u "(IIIZI)C"), (0, .methodref 8 14), (0, .nameAndType 15 16), (0, u "isBlank"), (0, u "(C)Z"), (0, .class_ 18), (0, u "java/lang/String"), (0, .methodref 17 20), (0, .nameAndType 5 21), (0, u "([C)V"), (0, .methodref 23 24), (0, .class_ 25), (0, .nameAndType 26 27), (0, u "com/example/refledger/refledger/PublicKeyText"), (0, u "trim"), (0, u "(Ljava/lang/String;)Ljava/lang/String;"), (0, .methodref 17 29), (0, .nameAndType 30 31), (0, u "isEmpty"), (0, u "()Z"), (0, .methodref 17 33), (0, .nameAndType 34 35), (0, u "length"), (0, u "()I"), (0, .methodref 8 37), (0, .nameAndType 38 39), (0, u "same"), (0, u "(Ljava/lang/String;II[CI)Z"), (0, .methodref 17 41), (0, .nameAndType 42 43), (0, u "charAt"), (0, u "(I)C"), (0, .methodref 8 45), (0, .nameAndType 46 43), (0, u "removable"), (2, u "law"), (0, u "(IIIIII)Z")] 5

def k1m0 : Method := { name := "<init>", desc := "()V", sig := { parameters := [], returnType := none }, accessFlags := 1, code := none }
def k1c1 : Code := { maxStack := 7, maxLocals := 12, code := code, exceptionTable := #[], attributes := #[] }
def k1m1 : Method := { name := "law", desc := "(IIIIII)Z", sig := { parameters := [.int, .int, .int, .int, .int, .int], returnType := some .boolean }, accessFlags := 9, code := some k1c1 }
def k1c2 : Code := { maxStack := 4, maxLocals := 5, code := method_3_code, exceptionTable := #[], attributes := #[] }
def k1m2 : Method := { name := "same", desc := "(Ljava/lang/String;II[CI)Z", sig := { parameters := [(.object "java/lang/String"), .int, .int, (.array .char), .int], returnType := some .boolean }, accessFlags := 10, code := some k1c2 }
def k1c3 : Code := { maxStack := 2, maxLocals := 1, code := method_4_code, exceptionTable := #[], attributes := #[] }
def k1m3 : Method := { name := "isBlank", desc := "(C)Z", sig := { parameters := [.char], returnType := some .boolean }, accessFlags := 10, code := some k1c3 }
def k1c4 : Code := { maxStack := 2, maxLocals := 2, code := method_5_code, exceptionTable := #[], attributes := #[] }
def k1m4 : Method := { name := "removable", desc := "(I)C", sig := { parameters := [.int], returnType := some .char }, accessFlags := 10, code := some k1c4 }
def k1c5 : Code := { maxStack := 3, maxLocals := 6, code := method_6_code, exceptionTable := #[], attributes := #[] }
def k1m5 : Method := { name := "place", desc := "(IIIZI)C", sig := { parameters := [.int, .int, .int, .boolean, .int], returnType := some .char }, accessFlags := 10, code := some k1c5 }
/-- com/example/refledger/refledger/PublicKeyTextTrimPinLaw -/
def k1 : Class := { plain "com/example/refledger/refledger/PublicKeyTextTrimPinLaw" (some 0) with
  accessFlags := 49
  interfaces := #[]
  cf := some (fileOf pool1 8 #[] #[{ accessFlags := 1, nameIndex := 5, descriptorIndex := 6, attributes := #[] }, { accessFlags := 9, nameIndex := 49, descriptorIndex := 50, attributes := #[] }, { accessFlags := 10, nameIndex := 38, descriptorIndex := 39, attributes := #[] }, { accessFlags := 10, nameIndex := 15, descriptorIndex := 16, attributes := #[] }, { accessFlags := 10, nameIndex := 46, descriptorIndex := 43, attributes := #[] }, { accessFlags := 10, nameIndex := 11, descriptorIndex := 12, attributes := #[] }] 49 2 #[] #[])
  fields := #[]
  methods := #[k1m0, k1m1, k1m2, k1m3, k1m4, k1m5]
  instanceTypes := #[]
  staticTypes := #[]
  resolved := Array.replicate 56 none
  statics := none }

def pool2 : Array CpInfo := pool [(1, .class_ 2), (0, u "java/io/Serializable"), (0, .class_ 4), (0, u "java/lang/Object")] 2

/-- java/io/Serializable -/
def k2 : Class := { plain "java/io/Serializable" (some 0) with
  accessFlags := 1537
  interfaces := #[]
  cf := some (fileOf pool2 1 #[] #[] 1537 3 #[] #[])
  fields := #[]
  methods := #[]
  instanceTypes := #[]
  staticTypes := #[]
  resolved := Array.replicate 7 none
  statics := none }

def pool3 : Array CpInfo := pool [(1, .class_ 2), (0, u "java/lang/Comparable"), (0, .class_ 4), (0, u "java/lang/Object")] 7

/-- java/lang/Comparable -/
def k3 : Class := { plain "java/lang/Comparable" (some 0) with
  accessFlags := 1537
  interfaces := #[]
  cf := some (fileOf pool3 1 #[] #[] 1537 3 #[] #[])
  fields := #[]
  methods := #[]
  instanceTypes := #[]
  staticTypes := #[]
  resolved := Array.replicate 12 none
  statics := none }

def pool4 : Array CpInfo := pool [(2, .class_ 4), (1, u "java/lang/CharSequence"), (42, .class_ 48), (0, u "java/lang/CharSequence$1CodePointIterator"), (10, .class_ 60), (0, u "java/lang/CharSequence$1CharIterator"), (5, .class_ 67), (0, u "java/lang/Object")] 63

/-- java/lang/CharSequence -/
def k4 : Class := { plain "java/lang/CharSequence" (some 0) with
  accessFlags := 1537
  interfaces := #[]
  cf := some (fileOf pool4 2 #[.nestMembers #[47, 59]] #[] 1537 66 #[] #[])
  fields := #[]
  methods := #[]
  instanceTypes := #[]
  staticTypes := #[]
  resolved := Array.replicate 131 none
  statics := none }

def pool5 : Array CpInfo := pool [(1, .class_ 2), (0, u "java/lang/constant/Constable"), (0, .class_ 4), (0, u "java/lang/Object")] 6

/-- java/lang/constant/Constable -/
def k5 : Class := { plain "java/lang/constant/Constable" (some 0) with
  accessFlags := 1537
  interfaces := #[]
  cf := some (fileOf pool5 1 #[] #[] 1537 3 #[] #[])
  fields := #[]
  methods := #[]
  instanceTypes := #[]
  staticTypes := #[]
  resolved := Array.replicate 11 none
  statics := none }

def pool6 : Array CpInfo := pool [(1, .class_ 2), (0, u "java/lang/constant/ConstantDesc"), (0, .class_ 4), (0, u "java/lang/Object")] 32

/-- java/lang/constant/ConstantDesc -/
def k6 : Class := { plain "java/lang/constant/ConstantDesc" (some 0) with
  accessFlags := 1537
  interfaces := #[]
  cf := some (fileOf pool6 1 #[] #[] 1537 3 #[] #[])
  fields := #[]
  methods := #[]
  instanceTypes := #[]
  staticTypes := #[]
  resolved := Array.replicate 37 none
  statics := none }

def pool7 : Array CpInfo := pool [(1, .methodref 2 3), (0, .class_ 4), (0, .nameAndType 5 6), (0, u "java/lang/Object"), (0, u "<init>"), (0, u "()V"), (2, .fieldref 10 11), (0, .class_ 12), (0, .nameAndType 13 14), (0, u "java/lang/String"), (0, u "value"), (0, u "[B"), (0, .fieldref 10 16), (0, .nameAndType 17 18), (0, u "coder"), (0, u "B"), (2, u "hash"), (0, u "I"), (2, u "hashIsZero"), (0, u "Z"), (0, .methodref 10 28), (0, .nameAndType 5 29), (0, u "([CIILjava/lang/Void;)V"), (8, .fieldref 10 39), (0, .nameAndType 40 26), (0, u "COMPACT_STRINGS"), (1, .class_ 44), (1, u "java/lang/StringUTF16"), (0, u "compress"), (1, .methodref 42 48), (0, .nameAndType 49 50), (0, u "coderFromArrayLen"), (0, u "([BI)B"), (56, .class_ 109), (1, u "java/lang/StringLatin1"), (32, u "()Z"), (34, .methodref 42 178), (0, .nameAndType 45 179), (0, u "([CII)[B"), (31, u "([BB)V"), (122, u "()I"), (0, .methodref 10 336), (0, .nameAndType 17 337), (0, u "()B"), (25, u "([BI)C"), (27, u "(II)V"), (35, u "(I)C"), (64, .methodref 10 493), (0, .nameAndType 494 142), (0, u "isLatin1"), (0, .methodref 107 496), (0, .nameAndType 497 363), (0, u "charAt"), (3, u "checkIndex"), (3, .methodref 10 506), (0, .nameAndType 507 334), (0, u "length"), (5, u "checkFromToIndex"), (7, .methodref 10 522), (0, .nameAndType 523 524), (0, u "checkBoundsBeginEnd"), (0, u "(III)V"), (50, .class_ 576), (0, u "java/lang/CharSequence"), (22, u "CASE_INSENSITIVE_ORDER"), (0, u "Ljava/util/Comparator;"), (82, u "substring"), (0, u "(II)Ljava/lang/String;"), (0, .methodref 107 686), (0, .nameAndType 687 688), (0, u "newString"), (0, u "([BII)Ljava/lang/String;"), (3, u "isEmpty"), (317, u "([C)V"), (42, .fieldref 1054 1055), (0, .class_ 1056), (0, .nameAndType 1057 1058), (0, u "jdk/internal/util/Preconditions"), (0, u "SIOOBE_FORMATTER"), (0, u "Ljava/util/function/BiFunction;"), (0, .methodref 1054 1060), (0, .nameAndType 501 1061), (0, u "(IILjava/util/function/BiFunction;)I"), (0, .methodref 1054 1063), (0, .nameAndType 513 1064), (0, u "(IIILjava/util/function/BiFunction;)I"), (36, u "serialPersistentFields"), (0, u "[Ljava/io/ObjectStreamField;"), (0, .class_ 1104), (0, u "java/lang/String$CaseInsensitiveComparator"), (1, .class_ 1107), (0, u "java/io/Serializable"), (0, .class_ 1109), (0, u "java/lang/Comparable"), (0, .class_ 1111), (0, u "java/lang/constant/Constable"), (0, .class_ 1113), (0, u "java/lang/constant/ConstantDesc"), (2, u "serialVersionUID"), (0, u "J"), (3, u "REPL"), (0, u "C"), (2, u "LATIN1"), (1, u "UTF16")] 323

def k7m0 : Method := { name := "<init>", desc := "()V", sig := { parameters := [], returnType := none }, accessFlags := 1, code := none }
def k7c1 : Code := { maxStack := 5, maxLocals := 2, code := jdk_42_method_3_code, exceptionTable := #[], attributes := #[] }
def k7m1 : Method := { name := "<init>", desc := "([C)V", sig := { parameters := [(.array .char)], returnType := none }, accessFlags := 1, code := some k7c1 }
def k7c2 : Code := { maxStack := 2, maxLocals := 1, code := jdk_42_method_54_code, exceptionTable := #[], attributes := #[] }
def k7m2 : Method := { name := "length", desc := "()I", sig := { parameters := [], returnType := some .int }, accessFlags := 1, code := some k7c2 }
def k7c3 : Code := { maxStack := 1, maxLocals := 1, code := jdk_42_method_55_code, exceptionTable := #[], attributes := #[] }
def k7m3 : Method := { name := "isEmpty", desc := "()Z", sig := { parameters := [], returnType := some .boolean }, accessFlags := 1, code := some k7c3 }
def k7c4 : Code := { maxStack := 2, maxLocals := 2, code := jdk_42_method_56_code, exceptionTable := #[], attributes := #[] }
def k7m4 : Method := { name := "charAt", desc := "(I)C", sig := { parameters := [.int], returnType := some .char }, accessFlags := 1, code := some k7c4 }
def k7c5 : Code := { maxStack := 3, maxLocals := 5, code := jdk_42_method_92_code, exceptionTable := #[], attributes := #[] }
def k7m5 : Method := { name := "substring", desc := "(II)Ljava/lang/String;", sig := { parameters := [.int, .int], returnType := some (.object "java/lang/String") }, accessFlags := 1, code := some k7c5 }
def k7c6 : Code := { maxStack := 4, maxLocals := 6, code := jdk_42_method_149_code, exceptionTable := #[], attributes := #[] }
def k7m6 : Method := { name := "<init>", desc := "([CIILjava/lang/Void;)V", sig := { parameters := [(.array .char), .int, .int, (.object "java/lang/Void")], returnType := none }, accessFlags := 2, code := some k7c6 }
def k7c7 : Code := { maxStack := 2, maxLocals := 3, code := jdk_42_method_151_code, exceptionTable := #[], attributes := #[] }
def k7m7 : Method := { name := "<init>", desc := "([BB)V", sig := { parameters := [(.array .byte), .byte], returnType := none }, accessFlags := 0, code := some k7c7 }
def k7c8 : Code := { maxStack := 1, maxLocals := 1, code := jdk_42_method_152_code, exceptionTable := #[], attributes := #[] }
def k7m8 : Method := { name := "coder", desc := "()B", sig := { parameters := [], returnType := some .byte }, accessFlags := 0, code := some k7c8 }
def k7c9 : Code := { maxStack := 1, maxLocals := 1, code := jdk_42_method_154_code, exceptionTable := #[], attributes := #[] }
def k7m9 : Method := { name := "isLatin1", desc := "()Z", sig := { parameters := [], returnType := some .boolean }, accessFlags := 0, code := some k7c9 }
def k7c10 : Code := { maxStack := 3, maxLocals := 2, code := jdk_42_method_155_code, exceptionTable := #[], attributes := #[] }
def k7m10 : Method := { name := "checkIndex", desc := "(II)V", sig := { parameters := [.int, .int], returnType := none }, accessFlags := 8, code := some k7c10 }
def k7c11 : Code := { maxStack := 4, maxLocals := 3, code := jdk_42_method_158_code, exceptionTable := #[], attributes := #[] }
def k7m11 : Method := { name := "checkBoundsBeginEnd", desc := "(III)V", sig := { parameters := [.int, .int, .int], returnType := none }, accessFlags := 8, code := some k7c11 }
/-- java/lang/String -/
def k7 : Class := { plain "java/lang/String" (some 0) with
  accessFlags := 49
  interfaces := #[2, 3, 4, 5, 6]
  cf := some (fileOf pool7 10 #[.nestMembers #[1103]] #[{ accessFlags := 1, nameIndex := 5, descriptorIndex := 6, attributes := #[] }, { accessFlags := 1, nameIndex := 5, descriptorIndex := 1010, attributes := #[] }, { accessFlags := 1, nameIndex := 507, descriptorIndex := 334, attributes := #[] }, { accessFlags := 1, nameIndex := 692, descriptorIndex := 142, attributes := #[] }, { accessFlags := 1, nameIndex := 497, descriptorIndex := 427, attributes := #[] }, { accessFlags := 1, nameIndex := 683, descriptorIndex := 684, attributes := #[] }, { accessFlags := 2, nameIndex := 5, descriptorIndex := 29, attributes := #[] }, { accessFlags := 0, nameIndex := 5, descriptorIndex := 211, attributes := #[] }, { accessFlags := 0, nameIndex := 17, descriptorIndex := 337, attributes := #[] }, { accessFlags := 0, nameIndex := 494, descriptorIndex := 142, attributes := #[] }, { accessFlags := 8, nameIndex := 501, descriptorIndex := 391, attributes := #[] }, { accessFlags := 8, nameIndex := 523, descriptorIndex := 524, attributes := #[] }] 49 2 #[1106, 1108, 575, 1110, 1112] #[{ accessFlags := 18, nameIndex := 13, descriptorIndex := 14, attributes := #[] }, { accessFlags := 18, nameIndex := 17, descriptorIndex := 18, attributes := #[] }, { accessFlags := 2, nameIndex := 21, descriptorIndex := 22, attributes := #[] }, { accessFlags := 2, nameIndex := 25, descriptorIndex := 26, attributes := #[] }, { accessFlags := 26, nameIndex := 1116, descriptorIndex := 1117, attributes := #[] }, { accessFlags := 24, nameIndex := 40, descriptorIndex := 26, attributes := #[] }, { accessFlags := 26, nameIndex := 1101, descriptorIndex := 1102, attributes := #[] }, { accessFlags := 26, nameIndex := 1121, descriptorIndex := 1122, attributes := #[] }, { accessFlags := 25, nameIndex := 599, descriptorIndex := 600, attributes := #[] }, { accessFlags := 24, nameIndex := 1125, descriptorIndex := 18, attributes := #[] }, { accessFlags := 24, nameIndex := 1127, descriptorIndex := 18, attributes := #[] }])
  fields := #[{ name := "value", type := (.array .byte), accessFlags := 18, slot := 0, constantValue := 0 }, { name := "coder", type := .byte, accessFlags := 18, slot := 1, constantValue := 0 }, { name := "hash", type := .int, accessFlags := 2, slot := 2, constantValue := 0 }, { name := "hashIsZero", type := .boolean, accessFlags := 2, slot := 3, constantValue := 0 }, { name := "serialVersionUID", type := .long, accessFlags := 26, slot := 0, constantValue := 0 }, { name := "COMPACT_STRINGS", type := .boolean, accessFlags := 24, slot := 1, constantValue := 0 }, { name := "serialPersistentFields", type := (.array (.object "java/io/ObjectStreamField")), accessFlags := 26, slot := 2, constantValue := 0 }, { name := "REPL", type := .char, accessFlags := 26, slot := 3, constantValue := 0 }, { name := "CASE_INSENSITIVE_ORDER", type := (.object "java/util/Comparator"), accessFlags := 25, slot := 4, constantValue := 0 }, { name := "LATIN1", type := .byte, accessFlags := 24, slot := 5, constantValue := 0 }, { name := "UTF16", type := .byte, accessFlags := 24, slot := 6, constantValue := 0 }]
  methods := #[k7m0, k7m1, k7m2, k7m3, k7m4, k7m5, k7m6, k7m7, k7m8, k7m9, k7m10, k7m11]
  instanceTypes := #[(.array .byte), .byte, .int, .boolean]
  staticTypes := #[.long, .boolean, (.array (.object "java/io/ObjectStreamField")), .char, (.object "java/util/Comparator"), .byte, .byte]
  resolved := Array.replicate 1451 none
  statics := some 0 }

def pool8 : Array CpInfo := pool [(6, .class_ 8), (1, u "java/lang/Object"), (0, u "<init>"), (0, u "()V"), (1, .class_ 14), (1, u "java/lang/StringUTF16"), (31, u "$assertionsDisabled"), (0, u "Z"), (13, u "HI_BYTE_SHIFT"), (0, u "I"), (2, u "LO_BYTE_SHIFT"), (49, .methodref 12 116), (0, .nameAndType 117 118), (0, u "compress"), (0, u "([CI[BII)I"), (3, u "([CII)[B"), (138, u "coderFromArrayLen"), (0, u "([BI)B"), (106, .class_ 371), (1, u "java/lang/StringUTF16$LinesSpliterator"), (58, u "MAX_LENGTH"), (196, .class_ 628), (0, u "java/lang/StringUTF16$CodePointsSpliterator"), (0, .class_ 630), (0, u "java/lang/StringUTF16$CharsSpliterator")] 4

def k8m0 : Method := { name := "<init>", desc := "()V", sig := { parameters := [], returnType := none }, accessFlags := 0, code := none }
def k8c1 : Code := { maxStack := 2, maxLocals := 2, code := jdk_52_method_15_code, exceptionTable := #[], attributes := #[] }
def k8m1 : Method := { name := "coderFromArrayLen", desc := "([BI)B", sig := { parameters := [(.array .byte), .int], returnType := some .byte }, accessFlags := 8, code := some k8c1 }
def k8c2 : Code := { maxStack := 5, maxLocals := 6, code := jdk_52_method_16_code, exceptionTable := #[], attributes := #[] }
def k8m2 : Method := { name := "compress", desc := "([CII)[B", sig := { parameters := [(.array .char), .int, .int], returnType := some (.array .byte) }, accessFlags := 9, code := some k8c2 }
def k8c3 : Code := { maxStack := 3, maxLocals := 7, code := jdk_52_method_21_code, exceptionTable := #[], attributes := #[] }
def k8m3 : Method := { name := "compress", desc := "([CI[BII)I", sig := { parameters := [(.array .char), .int, (.array .byte), .int, .int], returnType := some .int }, accessFlags := 9, code := some k8c3 }
/-- java/lang/StringUTF16 -/
def k8 : Class := { plain "java/lang/StringUTF16" (some 0) with
  accessFlags := 48
  interfaces := #[]
  cf := some (fileOf pool8 12 #[.nestMembers #[627, 629, 369]] #[{ accessFlags := 0, nameIndex := 9, descriptorIndex := 10, attributes := #[] }, { accessFlags := 8, nameIndex := 261, descriptorIndex := 262, attributes := #[] }, { accessFlags := 9, nameIndex := 117, descriptorIndex := 122, attributes := #[] }, { accessFlags := 9, nameIndex := 117, descriptorIndex := 118, attributes := #[] }] 48 6 #[] #[{ accessFlags := 26, nameIndex := 61, descriptorIndex := 62, attributes := #[] }, { accessFlags := 26, nameIndex := 65, descriptorIndex := 62, attributes := #[] }, { accessFlags := 24, nameIndex := 430, descriptorIndex := 62, attributes := #[] }, { accessFlags := 4120, nameIndex := 46, descriptorIndex := 47, attributes := #[] }])
  fields := #[{ name := "HI_BYTE_SHIFT", type := .int, accessFlags := 26, slot := 0, constantValue := 0 }, { name := "LO_BYTE_SHIFT", type := .int, accessFlags := 26, slot := 1, constantValue := 0 }, { name := "MAX_LENGTH", type := .int, accessFlags := 24, slot := 2, constantValue := 0 }, { name := "$assertionsDisabled", type := .boolean, accessFlags := 4120, slot := 3, constantValue := 0 }]
  methods := #[k8m0, k8m1, k8m2, k8m3]
  instanceTypes := #[]
  staticTypes := #[.int, .int, .int, .boolean]
  resolved := Array.replicate 635 none
  statics := none }

def pool9 : Array CpInfo := pool [(2, .class_ 4), (1, u "java/lang/Object"), (3, .class_ 10), (1, u "com/example/refledger/refledger/PublicKeyText"), (0, u "options"), (0, u "Z"), (2, u "type"), (0, u "Ljava/lang/String;"), (2, u "data"), (2, u "comment"), (6, u "blob"), (0, u "[B"), (2, u "trim"), (0, u "(Ljava/lang/String;)Ljava/lang/String;"), (14, .methodref 8 50), (0, .nameAndType 51 52), (0, u "skipBlanks"), (0, u "(Ljava/lang/String;I)I"), (4, .methodref 58 59), (0, .class_ 60), (0, .nameAndType 61 62), (0, u "java/lang/String"), (0, u "length"), (0, u "()I"), (0, .methodref 58 64), (0, .nameAndType 65 66), (0, u "charAt"), (0, u "(I)C"), (0, .methodref 8 68), (0, .nameAndType 69 70), (0, u "isBlank"), (0, u "(C)Z"), (0, .methodref 58 72), (0, .nameAndType 73 74), (0, u "substring"), (0, u "(II)Ljava/lang/String;")] 124

def k9c0 : Code := { maxStack := 3, maxLocals := 3, code := prog_12_method_3_code, exceptionTable := #[], attributes := #[] }
def k9m0 : Method := { name := "trim", desc := "(Ljava/lang/String;)Ljava/lang/String;", sig := { parameters := [(.object "java/lang/String")], returnType := some (.object "java/lang/String") }, accessFlags := 8, code := some k9c0 }
def k9c1 : Code := { maxStack := 2, maxLocals := 3, code := prog_12_method_16_code, exceptionTable := #[], attributes := #[] }
def k9m1 : Method := { name := "skipBlanks", desc := "(Ljava/lang/String;I)I", sig := { parameters := [(.object "java/lang/String"), .int], returnType := some .int }, accessFlags := 10, code := some k9c1 }
def k9c2 : Code := { maxStack := 2, maxLocals := 1, code := prog_12_method_17_code, exceptionTable := #[], attributes := #[] }
def k9m2 : Method := { name := "isBlank", desc := "(C)Z", sig := { parameters := [.char], returnType := some .boolean }, accessFlags := 10, code := some k9c2 }
/-- com/example/refledger/refledger/PublicKeyText -/
def k9 : Class := { plain "com/example/refledger/refledger/PublicKeyText" (some 0) with
  accessFlags := 48
  interfaces := #[]
  cf := some (fileOf pool9 8 #[] #[{ accessFlags := 8, nameIndex := 33, descriptorIndex := 34, attributes := #[] }, { accessFlags := 10, nameIndex := 51, descriptorIndex := 52, attributes := #[] }, { accessFlags := 10, nameIndex := 69, descriptorIndex := 70, attributes := #[] }] 48 2 #[] #[{ accessFlags := 18, nameIndex := 11, descriptorIndex := 12, attributes := #[] }, { accessFlags := 18, nameIndex := 15, descriptorIndex := 16, attributes := #[] }, { accessFlags := 18, nameIndex := 19, descriptorIndex := 16, attributes := #[] }, { accessFlags := 18, nameIndex := 22, descriptorIndex := 16, attributes := #[] }, { accessFlags := 18, nameIndex := 29, descriptorIndex := 30, attributes := #[] }])
  fields := #[{ name := "options", type := .boolean, accessFlags := 18, slot := 0, constantValue := 0 }, { name := "type", type := (.object "java/lang/String"), accessFlags := 18, slot := 1, constantValue := 0 }, { name := "data", type := (.object "java/lang/String"), accessFlags := 18, slot := 2, constantValue := 0 }, { name := "comment", type := (.object "java/lang/String"), accessFlags := 18, slot := 3, constantValue := 0 }, { name := "blob", type := (.array .byte), accessFlags := 18, slot := 4, constantValue := 0 }]
  methods := #[k9m0, k9m1, k9m2]
  instanceTypes := #[.boolean, (.object "java/lang/String"), (.object "java/lang/String"), (.object "java/lang/String"), (.array .byte)]
  staticTypes := #[]
  resolved := Array.replicate 199 none
  statics := none }

def pool10 : Array CpInfo := pool [(1, .class_ 2), (0, u "java/lang/String"), (1, .class_ 6), (1, u "java/lang/Object"), (0, u "<init>"), (0, u "()V"), (0, .methodref 1 10), (0, .nameAndType 11 12), (0, u "checkIndex"), (0, u "(II)V"), (1, .class_ 16), (1, u "java/lang/StringLatin1"), (36, u "([BI)C"), (58, .methodref 1 113), (0, .nameAndType 7 114), (0, u "([BB)V"), (6, u "$assertionsDisabled"), (0, u "Z"), (8, .class_ 133), (1, u "java/util/Arrays"), (17, .string 152), (0, u ""), (43, u "newString"), (0, u "([BII)Ljava/lang/String;"), (23, .class_ 223), (1, u "java/lang/StringLatin1$LinesSpliterator"), (8, .methodref 131 233), (0, .nameAndType 234 235), (0, u "copyOfRange"), (0, u "([BII)[B"), (16, u "charAt"), (137, .class_ 391), (0, u "java/lang/StringLatin1$CharsSpliterator")] 3

def k10m0 : Method := { name := "<init>", desc := "()V", sig := { parameters := [], returnType := none }, accessFlags := 0, code := none }
def k10c1 : Code := { maxStack := 2, maxLocals := 2, code := jdk_43_method_2_code, exceptionTable := #[], attributes := #[] }
def k10m1 : Method := { name := "charAt", desc := "([BI)C", sig := { parameters := [(.array .byte), .int], returnType := some .char }, accessFlags := 9, code := some k10c1 }
def k10c2 : Code := { maxStack := 6, maxLocals := 3, code := jdk_43_method_47_code, exceptionTable := #[], attributes := #[] }
def k10m2 : Method := { name := "newString", desc := "([BII)Ljava/lang/String;", sig := { parameters := [(.array .byte), .int, .int], returnType := some (.object "java/lang/String") }, accessFlags := 9, code := some k10c2 }
/-- java/lang/StringLatin1 -/
def k10 : Class := { plain "java/lang/StringLatin1" (some 0) with
  accessFlags := 48
  interfaces := #[]
  cf := some (fileOf pool10 14 #[.nestMembers #[390, 221]] #[{ accessFlags := 0, nameIndex := 7, descriptorIndex := 8, attributes := #[] }, { accessFlags := 9, nameIndex := 252, descriptorIndex := 53, attributes := #[] }, { accessFlags := 9, nameIndex := 196, descriptorIndex := 197, attributes := #[] }] 48 4 #[] #[{ accessFlags := 4120, nameIndex := 121, descriptorIndex := 122, attributes := #[] }])
  fields := #[{ name := "$assertionsDisabled", type := .boolean, accessFlags := 4120, slot := 0, constantValue := 0 }]
  methods := #[k10m0, k10m1, k10m2]
  instanceTypes := #[]
  staticTypes := #[.boolean]
  resolved := Array.replicate 395 none
  statics := none }

def pool11 : Array CpInfo := pool [(2, .class_ 4), (1, u "java/lang/Object"), (0, u "<init>"), (0, u "()V"), (17, .class_ 26), (1, u "jdk/internal/util/Preconditions"), (6, u "checkIndex"), (13, u "checkFromToIndex"), (7, .class_ 56), (0, u "jdk/internal/util/Preconditions$4"), (57, .class_ 115), (0, u "jdk/internal/util/Preconditions$1"), (7, u "SIOOBE_FORMATTER"), (0, u "Ljava/util/function/BiFunction;"), (0, .class_ 126), (0, u "jdk/internal/util/Preconditions$2"), (3, u "AIOOBE_FORMATTER"), (0, .class_ 132), (0, u "jdk/internal/util/Preconditions$3"), (3, u "IOOBE_FORMATTER"), (41, u "(IILjava/util/function/BiFunction;)I"), (4, u "(IIILjava/util/function/BiFunction;)I")] 10

def k11m0 : Method := { name := "<init>", desc := "()V", sig := { parameters := [], returnType := none }, accessFlags := 1, code := none }
def k11c1 : Code := { maxStack := 3, maxLocals := 3, code := jdk_41_method_11_code, exceptionTable := #[], attributes := #[] }
def k11m1 : Method := { name := "checkIndex", desc := "(IILjava/util/function/BiFunction;)I", sig := { parameters := [.int, .int, (.object "java/util/function/BiFunction")], returnType := some .int }, accessFlags := 9, code := some k11c1 }
def k11c2 : Code := { maxStack := 4, maxLocals := 4, code := jdk_41_method_12_code, exceptionTable := #[], attributes := #[] }
def k11m2 : Method := { name := "checkFromToIndex", desc := "(IIILjava/util/function/BiFunction;)I", sig := { parameters := [.int, .int, .int, (.object "java/util/function/BiFunction")], returnType := some .int }, accessFlags := 9, code := some k11c2 }
/-- jdk/internal/util/Preconditions -/
def k11 : Class := { plain "jdk/internal/util/Preconditions" (some 0) with
  accessFlags := 33
  interfaces := #[]
  cf := some (fileOf pool11 24 #[.nestMembers #[55, 131, 125, 114]] #[{ accessFlags := 1, nameIndex := 5, descriptorIndex := 6, attributes := #[] }, { accessFlags := 9, nameIndex := 33, descriptorIndex := 178, attributes := #[] }, { accessFlags := 9, nameIndex := 47, descriptorIndex := 183, attributes := #[] }] 33 2 #[] #[{ accessFlags := 25, nameIndex := 123, descriptorIndex := 124, attributes := #[] }, { accessFlags := 25, nameIndex := 130, descriptorIndex := 124, attributes := #[] }, { accessFlags := 25, nameIndex := 136, descriptorIndex := 124, attributes := #[] }])
  fields := #[{ name := "SIOOBE_FORMATTER", type := (.object "java/util/function/BiFunction"), accessFlags := 25, slot := 0, constantValue := 0 }, { name := "AIOOBE_FORMATTER", type := (.object "java/util/function/BiFunction"), accessFlags := 25, slot := 1, constantValue := 0 }, { name := "IOOBE_FORMATTER", type := (.object "java/util/function/BiFunction"), accessFlags := 25, slot := 2, constantValue := 0 }]
  methods := #[k11m0, k11m1, k11m2]
  instanceTypes := #[]
  staticTypes := #[(.object "java/util/function/BiFunction"), (.object "java/util/function/BiFunction"), (.object "java/util/function/BiFunction")]
  resolved := Array.replicate 194 none
  statics := some 1 }

def pool12 : Array CpInfo := pool [(2, .class_ 4), (1, u "java/lang/Object"), (0, u "<init>"), (0, u "()V"), (7, .class_ 16), (1, u "java/util/Arrays"), (57, .class_ 76), (1, u "java/util/Arrays$NaturalOrder"), (36, .class_ 115), (1, u "java/util/Arrays$LegacyMergeSort"), (1, u "Z"), (21, u "copyOfRange"), (10, .methodref 151 152), (0, .class_ 153), (0, .nameAndType 154 155), (0, u "java/lang/System"), (0, u "arraycopy"), (0, u "(Ljava/lang/Object;ILjava/lang/Object;II)V"), (148, .methodref 305 306), (0, .class_ 307), (0, .nameAndType 308 309), (0, u "java/lang/Math"), (0, u "min"), (0, u "(II)I"), (29, .methodref 14 340), (0, .nameAndType 341 342), (0, u "copyOfRangeByte"), (0, u "([BII)[B"), (0, .methodref 14 344), (0, .nameAndType 345 346), (0, u "checkLength"), (0, u "(II)V"), (28, .class_ 376), (0, u "java/util/Arrays$ArrayList"), (68, u "$assertionsDisabled"), (269, u "MIN_ARRAY_SORT_GRAN"), (0, u "I"), (2, u "INSERTIONSORT_THRESHOLD"), (255, .class_ 976), (0, u "java/util/Arrays$ArrayItr")] 52

def k12m0 : Method := { name := "<init>", desc := "()V", sig := { parameters := [], returnType := none }, accessFlags := 2, code := none }
def k12c1 : Code := { maxStack := 4, maxLocals := 2, code := jdk_65_method_131_code, exceptionTable := #[], attributes := #[] }
def k12m1 : Method := { name := "checkLength", desc := "(II)V", sig := { parameters := [.int, .int], returnType := none }, accessFlags := 10, code := some k12c1 }
def k12c2 : Code := { maxStack := 3, maxLocals := 3, code := jdk_65_method_132_code, exceptionTable := #[], attributes := #[] }
def k12m2 : Method := { name := "copyOfRange", desc := "([BII)[B", sig := { parameters := [(.array .byte), .int, .int], returnType := some (.array .byte) }, accessFlags := 9, code := some k12c2 }
def k12c3 : Code := { maxStack := 6, maxLocals := 5, code := jdk_65_method_133_code, exceptionTable := #[], attributes := #[] }
def k12m3 : Method := { name := "copyOfRangeByte", desc := "([BII)[B", sig := { parameters := [(.array .byte), .int, .int], returnType := some (.array .byte) }, accessFlags := 10, code := some k12c3 }
/-- java/util/Arrays -/
def k12 : Class := { plain "java/util/Arrays" (some 0) with
  accessFlags := 49
  interfaces := #[]
  cf := some (fileOf pool12 14 #[.nestMembers #[975, 375, 113, 74]] #[{ accessFlags := 2, nameIndex := 5, descriptorIndex := 6, attributes := #[] }, { accessFlags := 10, nameIndex := 345, descriptorIndex := 346, attributes := #[] }, { accessFlags := 9, nameIndex := 139, descriptorIndex := 342, attributes := #[] }, { accessFlags := 10, nameIndex := 341, descriptorIndex := 342, attributes := #[] }] 49 2 #[] #[{ accessFlags := 26, nameIndex := 715, descriptorIndex := 716, attributes := #[] }, { accessFlags := 26, nameIndex := 719, descriptorIndex := 716, attributes := #[] }, { accessFlags := 4120, nameIndex := 445, descriptorIndex := 117, attributes := #[] }])
  fields := #[{ name := "MIN_ARRAY_SORT_GRAN", type := .int, accessFlags := 26, slot := 0, constantValue := 0 }, { name := "INSERTIONSORT_THRESHOLD", type := .int, accessFlags := 26, slot := 1, constantValue := 0 }, { name := "$assertionsDisabled", type := .boolean, accessFlags := 4120, slot := 2, constantValue := 0 }]
  methods := #[k12m0, k12m1, k12m2, k12m3]
  instanceTypes := #[]
  staticTypes := #[.int, .int, .boolean]
  resolved := Array.replicate 1029 none
  statics := none }

def pool13 : Array CpInfo := pool [(1, .class_ 2), (0, u "java/lang/Math"), (1, .class_ 6), (1, u "java/lang/Object"), (0, u "<init>"), (0, u "()V"), (89, .class_ 100), (1, u "java/lang/Math$RandomNumberGeneratorHolder"), (71, u "negativeZeroFloatBits"), (0, u "J"), (2, u "negativeZeroDoubleBits"), (24, u "min"), (43, u "$assertionsDisabled"), (0, u "Z"), (88, u "(II)I"), (2, u "twoToTheDoubleScaleDown"), (0, u "D"), (4, u "twoToTheDoubleScaleUp"), (9, u "E"), (3, u "PI"), (2, u "TAU"), (2, u "DEGREES_TO_RADIANS"), (0, u "RADIANS_TO_DEGREES")] 94

def k13m0 : Method := { name := "<init>", desc := "()V", sig := { parameters := [], returnType := none }, accessFlags := 2, code := none }
def k13c1 : Code := { maxStack := 2, maxLocals := 2, code := jdk_29_method_69_code, exceptionTable := #[], attributes := #[] }
def k13m1 : Method := { name := "min", desc := "(II)I", sig := { parameters := [.int, .int], returnType := some .int }, accessFlags := 9, code := some k13c1 }
/-- java/lang/Math -/
def k13 : Class := { plain "java/lang/Math" (some 0) with
  accessFlags := 49
  interfaces := #[]
  cf := some (fileOf pool13 1 #[.nestMembers #[98]] #[{ accessFlags := 2, nameIndex := 7, descriptorIndex := 8, attributes := #[] }, { accessFlags := 9, nameIndex := 201, descriptorIndex := 335, attributes := #[] }] 49 4 #[] #[{ accessFlags := 25, nameIndex := 354, descriptorIndex := 339, attributes := #[] }, { accessFlags := 25, nameIndex := 358, descriptorIndex := 339, attributes := #[] }, { accessFlags := 25, nameIndex := 361, descriptorIndex := 339, attributes := #[] }, { accessFlags := 26, nameIndex := 364, descriptorIndex := 339, attributes := #[] }, { accessFlags := 26, nameIndex := 365, descriptorIndex := 339, attributes := #[] }, { accessFlags := 26, nameIndex := 172, descriptorIndex := 173, attributes := #[] }, { accessFlags := 26, nameIndex := 176, descriptorIndex := 173, attributes := #[] }, { accessFlags := 8, nameIndex := 344, descriptorIndex := 339, attributes := #[] }, { accessFlags := 8, nameIndex := 338, descriptorIndex := 339, attributes := #[] }, { accessFlags := 4120, nameIndex := 245, descriptorIndex := 246, attributes := #[] }])
  fields := #[{ name := "E", type := .double, accessFlags := 25, slot := 0, constantValue := 0 }, { name := "PI", type := .double, accessFlags := 25, slot := 1, constantValue := 0 }, { name := "TAU", type := .double, accessFlags := 25, slot := 2, constantValue := 0 }, { name := "DEGREES_TO_RADIANS", type := .double, accessFlags := 26, slot := 3, constantValue := 0 }, { name := "RADIANS_TO_DEGREES", type := .double, accessFlags := 26, slot := 4, constantValue := 0 }, { name := "negativeZeroFloatBits", type := .long, accessFlags := 26, slot := 5, constantValue := 0 }, { name := "negativeZeroDoubleBits", type := .long, accessFlags := 26, slot := 6, constantValue := 0 }, { name := "twoToTheDoubleScaleUp", type := .double, accessFlags := 8, slot := 7, constantValue := 0 }, { name := "twoToTheDoubleScaleDown", type := .double, accessFlags := 8, slot := 8, constantValue := 0 }, { name := "$assertionsDisabled", type := .boolean, accessFlags := 4120, slot := 9, constantValue := 0 }]
  methods := #[k13m0, k13m1]
  instanceTypes := #[]
  staticTypes := #[.double, .double, .double, .double, .double, .long, .long, .double, .double, .boolean]
  resolved := Array.replicate 460 none
  statics := none }

def pool14 : Array CpInfo := pool [(2, .class_ 4), (1, u "java/lang/Object"), (0, u "<init>"), (0, u "()V"), (1, .class_ 10), (1, u "java/lang/System"), (0, u "allowSecurityManager"), (0, u "I"), (16, u "cons"), (0, u "Ljava/io/Console;"), (77, .class_ 110), (1, u "java/lang/System$CallersHolder"), (43, u "initialErrStream"), (0, u "Ljava/io/PrintStream;"), (19, u "security"), (0, u "Ljava/lang/SecurityManager;"), (31, .class_ 209), (0, u "java/lang/System$1"), (7, u "props"), (0, u "Ljava/util/Properties;"), (2, u "lineSeparator"), (0, u "Ljava/lang/String;"), (96, .class_ 321), (1, u "java/lang/System$LoggerFinder"), (5, .class_ 328), (0, u "java/lang/System$Logger"), (67, u "err"), (2, u "out"), (91, u "notSupportedJnuEncoding"), (15, u "in"), (17, u "initialIn"), (0, u "Ljava/io/InputStream;"), (35, u "bootLayer"), (0, u "Ljava/lang/ModuleLayer;"), (99, .class_ 664), (0, u "java/lang/System$2"), (9, u "NEVER"), (2, u "MAYBE"), (49, u "arraycopy"), (0, u "(Ljava/lang/Object;ILjava/lang/Object;II)V"), (72, .class_ 802), (0, u "java/lang/System$Logger$Level")] 31

def k14m0 : Method := { name := "<init>", desc := "()V", sig := { parameters := [], returnType := none }, accessFlags := 2, code := none }
def k14m1 : Method := { name := "arraycopy", desc := "(Ljava/lang/Object;ILjava/lang/Object;II)V", sig := { parameters := [(.object "java/lang/Object"), .int, (.object "java/lang/Object"), .int, .int], returnType := none }, accessFlags := 265, code := none }
/-- java/lang/System -/
def k14 : Class := { plain "java/lang/System" (some 0) with
  accessFlags := 49
  interfaces := #[]
  cf := some (fileOf pool14 8 #[.nestMembers #[319, 327, 801, 108, 663, 208]] #[{ accessFlags := 2, nameIndex := 5, descriptorIndex := 6, attributes := #[] }, { accessFlags := 265, nameIndex := 727, descriptorIndex := 728, attributes := #[] }] 49 2 #[] #[{ accessFlags := 25, nameIndex := 507, descriptorIndex := 526, attributes := #[] }, { accessFlags := 25, nameIndex := 399, descriptorIndex := 155, attributes := #[] }, { accessFlags := 25, nameIndex := 396, descriptorIndex := 155, attributes := #[] }, { accessFlags := 10, nameIndex := 525, descriptorIndex := 526, attributes := #[] }, { accessFlags := 26, nameIndex := 674, descriptorIndex := 12, attributes := #[] }, { accessFlags := 26, nameIndex := 677, descriptorIndex := 12, attributes := #[] }, { accessFlags := 10, nameIndex := 11, descriptorIndex := 12, attributes := #[] }, { accessFlags := 74, nameIndex := 175, descriptorIndex := 176, attributes := #[] }, { accessFlags := 10, nameIndex := 491, descriptorIndex := 222, attributes := #[] }, { accessFlags := 74, nameIndex := 29, descriptorIndex := 30, attributes := #[] }, { accessFlags := 74, nameIndex := 154, descriptorIndex := 155, attributes := #[] }, { accessFlags := 10, nameIndex := 217, descriptorIndex := 218, attributes := #[] }, { accessFlags := 10, nameIndex := 221, descriptorIndex := 222, attributes := #[] }, { accessFlags := 8, nameIndex := 562, descriptorIndex := 563, attributes := #[] }])
  fields := #[{ name := "in", type := (.object "java/io/InputStream"), accessFlags := 25, slot := 0, constantValue := 0 }, { name := "out", type := (.object "java/io/PrintStream"), accessFlags := 25, slot := 1, constantValue := 0 }, { name := "err", type := (.object "java/io/PrintStream"), accessFlags := 25, slot := 2, constantValue := 0 }, { name := "initialIn", type := (.object "java/io/InputStream"), accessFlags := 10, slot := 3, constantValue := 0 }, { name := "NEVER", type := .int, accessFlags := 26, slot := 4, constantValue := 0 }, { name := "MAYBE", type := .int, accessFlags := 26, slot := 5, constantValue := 0 }, { name := "allowSecurityManager", type := .int, accessFlags := 10, slot := 6, constantValue := 0 }, { name := "security", type := (.object "java/lang/SecurityManager"), accessFlags := 74, slot := 7, constantValue := 0 }, { name := "notSupportedJnuEncoding", type := (.object "java/lang/String"), accessFlags := 10, slot := 8, constantValue := 0 }, { name := "cons", type := (.object "java/io/Console"), accessFlags := 74, slot := 9, constantValue := 0 }, { name := "initialErrStream", type := (.object "java/io/PrintStream"), accessFlags := 74, slot := 10, constantValue := 0 }, { name := "props", type := (.object "java/util/Properties"), accessFlags := 10, slot := 11, constantValue := 0 }, { name := "lineSeparator", type := (.object "java/lang/String"), accessFlags := 10, slot := 12, constantValue := 0 }, { name := "bootLayer", type := (.object "java/lang/ModuleLayer"), accessFlags := 8, slot := 13, constantValue := 0 }]
  methods := #[k14m0, k14m1]
  instanceTypes := #[]
  staticTypes := #[(.object "java/io/InputStream"), (.object "java/io/PrintStream"), (.object "java/io/PrintStream"), (.object "java/io/InputStream"), .int, .int, .int, (.object "java/lang/SecurityManager"), (.object "java/lang/String"), (.object "java/io/Console"), (.object "java/io/PrintStream"), (.object "java/util/Properties"), (.object "java/lang/String"), (.object "java/lang/ModuleLayer")]
  resolved := Array.replicate 834 none
  statics := none }

def pool15 : Array CpInfo := pool [(9, u "<init>"), (6, .class_ 18), (1, u "java/lang/Object"), (0, u "()V"), (1, .class_ 23), (1, u "jdk/internal/util/ArraysSupport"), (0, u "LOG2_ARRAY_LONG_INDEX_SCALE"), (0, u "I"), (2, u "U"), (0, u "Ljdk/internal/misc/Unsafe;"), (8, u "BIG_ENDIAN"), (0, u "Z"), (8, u "LOG2_BYTE_BIT_SIZE"), (4, u "LOG2_ARRAY_INT_INDEX_SCALE"), (54, u "JLA"), (0, u "Ljdk/internal/access/JavaLangAccess;"), (11, u "LOG2_ARRAY_BOOLEAN_INDEX_SCALE"), (9, u "LOG2_ARRAY_BYTE_INDEX_SCALE"), (5, u "LOG2_ARRAY_CHAR_INDEX_SCALE"), (5, u "LOG2_ARRAY_SHORT_INDEX_SCALE"), (18, u "LOG2_ARRAY_FLOAT_INDEX_SCALE"), (24, u "LOG2_ARRAY_DOUBLE_INDEX_SCALE"), (89, u "T_BOOLEAN"), (2, u "T_CHAR"), (1, u "T_FLOAT"), (1, u "T_DOUBLE"), (1, u "T_BYTE"), (1, u "T_SHORT"), (1, u "T_INT"), (1, u "T_LONG"), (1, u "SOFT_MAX_ARRAY_LENGTH")] 83

def k15m0 : Method := { name := "<init>", desc := "()V", sig := { parameters := [], returnType := none }, accessFlags := 2, code := none }
/-- jdk/internal/util/ArraysSupport -/
def k15 : Class := { plain "jdk/internal/util/ArraysSupport" (some 0) with
  accessFlags := 33
  interfaces := #[]
  cf := some (fileOf pool15 21 #[] #[{ accessFlags := 2, nameIndex := 9, descriptorIndex := 19, attributes := #[] }] 33 16 #[] #[{ accessFlags := 24, nameIndex := 28, descriptorIndex := 29, attributes := #[] }, { accessFlags := 26, nameIndex := 38, descriptorIndex := 39, attributes := #[] }, { accessFlags := 25, nameIndex := 121, descriptorIndex := 25, attributes := #[] }, { accessFlags := 25, nameIndex := 131, descriptorIndex := 25, attributes := #[] }, { accessFlags := 25, nameIndex := 137, descriptorIndex := 25, attributes := #[] }, { accessFlags := 25, nameIndex := 143, descriptorIndex := 25, attributes := #[] }, { accessFlags := 25, nameIndex := 53, descriptorIndex := 25, attributes := #[] }, { accessFlags := 25, nameIndex := 24, descriptorIndex := 25, attributes := #[] }, { accessFlags := 25, nameIndex := 162, descriptorIndex := 25, attributes := #[] }, { accessFlags := 25, nameIndex := 187, descriptorIndex := 25, attributes := #[] }, { accessFlags := 26, nameIndex := 48, descriptorIndex := 25, attributes := #[] }, { accessFlags := 25, nameIndex := 277, descriptorIndex := 25, attributes := #[] }, { accessFlags := 25, nameIndex := 280, descriptorIndex := 25, attributes := #[] }, { accessFlags := 25, nameIndex := 282, descriptorIndex := 25, attributes := #[] }, { accessFlags := 25, nameIndex := 284, descriptorIndex := 25, attributes := #[] }, { accessFlags := 25, nameIndex := 286, descriptorIndex := 25, attributes := #[] }, { accessFlags := 25, nameIndex := 288, descriptorIndex := 25, attributes := #[] }, { accessFlags := 25, nameIndex := 290, descriptorIndex := 25, attributes := #[] }, { accessFlags := 25, nameIndex := 292, descriptorIndex := 25, attributes := #[] }, { accessFlags := 26, nameIndex := 108, descriptorIndex := 109, attributes := #[] }, { accessFlags := 25, nameIndex := 294, descriptorIndex := 25, attributes := #[] }])
  fields := #[{ name := "U", type := (.object "jdk/internal/misc/Unsafe"), accessFlags := 24, slot := 0, constantValue := 0 }, { name := "BIG_ENDIAN", type := .boolean, accessFlags := 26, slot := 1, constantValue := 0 }, { name := "LOG2_ARRAY_BOOLEAN_INDEX_SCALE", type := .int, accessFlags := 25, slot := 2, constantValue := 0 }, { name := "LOG2_ARRAY_BYTE_INDEX_SCALE", type := .int, accessFlags := 25, slot := 3, constantValue := 0 }, { name := "LOG2_ARRAY_CHAR_INDEX_SCALE", type := .int, accessFlags := 25, slot := 4, constantValue := 0 }, { name := "LOG2_ARRAY_SHORT_INDEX_SCALE", type := .int, accessFlags := 25, slot := 5, constantValue := 0 }, { name := "LOG2_ARRAY_INT_INDEX_SCALE", type := .int, accessFlags := 25, slot := 6, constantValue := 0 }, { name := "LOG2_ARRAY_LONG_INDEX_SCALE", type := .int, accessFlags := 25, slot := 7, constantValue := 0 }, { name := "LOG2_ARRAY_FLOAT_INDEX_SCALE", type := .int, accessFlags := 25, slot := 8, constantValue := 0 }, { name := "LOG2_ARRAY_DOUBLE_INDEX_SCALE", type := .int, accessFlags := 25, slot := 9, constantValue := 0 }, { name := "LOG2_BYTE_BIT_SIZE", type := .int, accessFlags := 26, slot := 10, constantValue := 0 }, { name := "T_BOOLEAN", type := .int, accessFlags := 25, slot := 11, constantValue := 0 }, { name := "T_CHAR", type := .int, accessFlags := 25, slot := 12, constantValue := 0 }, { name := "T_FLOAT", type := .int, accessFlags := 25, slot := 13, constantValue := 0 }, { name := "T_DOUBLE", type := .int, accessFlags := 25, slot := 14, constantValue := 0 }, { name := "T_BYTE", type := .int, accessFlags := 25, slot := 15, constantValue := 0 }, { name := "T_SHORT", type := .int, accessFlags := 25, slot := 16, constantValue := 0 }, { name := "T_INT", type := .int, accessFlags := 25, slot := 17, constantValue := 0 }, { name := "T_LONG", type := .int, accessFlags := 25, slot := 18, constantValue := 0 }, { name := "JLA", type := (.object "jdk/internal/access/JavaLangAccess"), accessFlags := 26, slot := 19, constantValue := 0 }, { name := "SOFT_MAX_ARRAY_LENGTH", type := .int, accessFlags := 25, slot := 20, constantValue := 0 }]
  methods := #[k15m0]
  instanceTypes := #[]
  staticTypes := #[(.object "jdk/internal/misc/Unsafe"), .boolean, .int, .int, .int, .int, .int, .int, .int, .int, .int, .int, .int, .int, .int, .int, .int, .int, .int, (.object "jdk/internal/access/JavaLangAccess"), .int]
  resolved := Array.replicate 378 none
  statics := none }

def pool16 : Array CpInfo := pool [(1, u "java/lang/Cloneable"), (0, .class_ 1), (0, u "java/lang/Object"), (0, .class_ 3)] 3

/-- java/lang/Cloneable -/
def k16 : Class := { plain "java/lang/Cloneable" (some 0) with
  accessFlags := 1537
  interfaces := #[]
  cf := some (fileOf pool16 2 #[] #[] 1537 4 #[] #[])
  fields := #[]
  methods := #[]
  instanceTypes := #[]
  staticTypes := #[]
  resolved := Array.replicate 8 none
  statics := none }

/-- the primitive byte -/
def k17 : Class := { plain "byte" none with kind := .primitive 'B', accessFlags := 0x411 }
/-- [B -/
def k18 : Class := { plain "[B" (some 0) with kind := .array 17 .byte, interfaces := #[16, 2], accessFlags := 1041 }

/-- the primitive char -/
def k19 : Class := { plain "char" none with kind := .primitive 'C', accessFlags := 0x411 }
/-- [C -/
def k20 : Class := { plain "[C" (some 0) with kind := .array 19 .char, interfaces := #[16, 2], accessFlags := 1041 }

/-- the primitive int -/
def k21 : Class := { plain "int" none with kind := .primitive 'I', accessFlags := 0x411 }
/-- [I -/
def k22 : Class := { plain "[I" (some 0) with kind := .array 21 .int, interfaces := #[16, 2], accessFlags := 1041 }

def heap : Heap := #[{ cls := 7, slots := #[.long 0, .int 1, .null, .int 0, .null, .int 0, .int 0], vm := .statics 7 },
  { cls := 11, slots := #[.null, .null, .null], vm := .statics 11 }]
def classes : Array Class := #[k0, k1, k2, k3, k4, k5, k6, k7, k8, k9, k10, k11, k12, k13, k14, k15, k16, k17, k18, k19, k20, k21, k22]
def interned : List (Array UInt16 × Addr) := []
def slotsUsed : Nat := 10
def theMethod : MethodId := ⟨1, 1⟩
def args0 : Array Value := #[.int 0, .int 1, .int 2, .int 3, .int 4, .int 5]
def aboutOver (below : List Frame) : State where
  vm := { classes := classes, interned := interned.toArray }
  heap := heap
  slotsUsed := slotsUsed
  threads := #[{ frames := .invoking theMethod args0 :: below }]
def below0 : List Frame := [.native { method := ⟨0, 0⟩, args := #[] }]
def about1 : State := aboutOver below0
def p0 : Program := .bare "" "" ""
def e0 : Env := launch0.env 0 0 0
theorem w_frames : about1.frames = Frame.invoking theMethod args0 :: below0 := rfl
set_option maxRecDepth 65536 in
theorem w_args : argsFit about1.vm theMethod args0 = true := by decide +kernel
set_option maxRecDepth 65536 in
theorem w_heap : heapFits about1 = true := by decide +kernel
set_option maxRecDepth 65536 in
theorem w_runnable : about1.curStatus? = some .runnable := by decide +kernel
set_option maxRecDepth 65536 in
theorem w_alone : about1.alone = true := by decide +kernel
set_option maxRecDepth 65536 in
theorem w_named : about1.methodNamed? x = some theMethod := by decide +kernel
set_option maxRecDepth 65536 in
theorem w_hears : about1.hears theMethod below0 = true := by decide +kernel
set_option maxRecDepth 65536 in
theorem w_ripe : about1.ripe theMethod args0 below0 = true := by decide +kernel
theorem w_running : about1.status = .running := rfl
set_option maxRecDepth 65536 in
theorem w_room : about1.hasRoom e0.platform room_1 = true :=
  launch0.hasRoom_least _ room_1 (by decide +kernel) (by decide +kernel) (by decide +kernel) (by decide +kernel) (by decide +kernel) (by decide +kernel)
theorem allAtoms_all (ts : List Jvm.Cond) (a : Array Jvm.Value) (st : Jvm.State) : (allAtoms ts).before a st = ts.all (fun c => c.before a st) := by
  induction ts with
  | nil => rfl
  | cons c t ih =>
    show (Jvm.Cond.and c (allAtoms t)).before a st = _
    rw [Jvm.Cond.before_and, ih, List.all_cons]
def words1 : List Jvm.Cond := Jvm.Cond.code x code maxLocals ret :: tables_1
/-- a 'code' word, met by the world's own term for the bytes: nothing is compared byte by byte -/
theorem code_word {y : MethodName} {bytes : ByteArray} {mx : Nat} {rt : Option FieldType} {a : Array Value} {s : State} {m : MethodId} {meth : Method} {c : Code} (h1 : s.methodNamed? y = some m) (h2 : s.vm.method? m = some meth) (h3 : meth.code = some c) (h4 : c.code = bytes)
    (h5 : (c.maxLocals == mx && c.exceptionTable.isEmpty && decide (c.maxStack ≤ mostOperands) && decide (meth.sig.returnType = rt) && !meth.locks && decide (parseMethodDescriptor y.desc = some meth.sig)) = true) : (Jvm.Cond.code y bytes mx rt).before a s = true := by
  simp only [Bool.and_eq_true, beq_iff_eq, Bool.not_eq_true', decide_eq_true_eq] at h5
  obtain ⟨⟨⟨⟨⟨g1, g2⟩, g3⟩, g4⟩, g5⟩, g6⟩ := h5
  simp [Cond.before, Cond.holds, Cond.value, h1, h2, h3, h4, g1, g2, g3, g4, g5, g6]
def isCode : Jvm.Cond → Bool
  | .code _ _ _ _ => true
  | _ => false
theorem all_split {L : List Jvm.Cond} {P : Jvm.Cond → Bool} (h1 : L.all (fun c => isCode c || P c) = true) (h2 : ∀ c ∈ L.filter isCode, P c = true) : L.all P = true := by
  refine List.all_eq_true.mpr fun c hc => ?_
  have h := List.all_eq_true.mp h1 c hc
  rcases Bool.eq_false_or_eq_true (isCode c) with hi | hi
  · exact h2 c (List.mem_filter.mpr ⟨hc, hi⟩)
  · simpa [hi] using h
set_option maxRecDepth 65536 in
theorem w_c0 : (Jvm.Cond.code x code maxLocals ret).before args0 about1 = true := code_word (m := ⟨1, 1⟩) (meth := k1m1) (c := k1c1) (by decide +kernel) rfl rfl rfl (by decide +kernel)
set_option maxRecDepth 65536 in
theorem w_c1 : (Jvm.Cond.code ({ cls := "com/example/refledger/refledger/PublicKeyTextTrimPinLaw", name := "place", desc := "(IIIZI)C" } : Jvm.MethodName) method_6_code (6 : Nat) (Option.some Jvm.ClassFile.FieldType.char)).before args0 about1 = true := code_word (m := ⟨1, 5⟩) (meth := k1m5) (c := k1c5) (by decide +kernel) rfl rfl rfl (by decide +kernel)
set_option maxRecDepth 65536 in
theorem w_c2 : (Jvm.Cond.code ({ cls := "com/example/refledger/refledger/PublicKeyTextTrimPinLaw", name := "isBlank", desc := "(C)Z" } : Jvm.MethodName) method_4_code (1 : Nat) (Option.some Jvm.ClassFile.FieldType.boolean)).before args0 about1 = true := code_word (m := ⟨1, 3⟩) (meth := k1m3) (c := k1c3) (by decide +kernel) rfl rfl rfl (by decide +kernel)
set_option maxRecDepth 65536 in
theorem w_c3 : (Jvm.Cond.code ({ cls := "java/lang/String", name := "<init>", desc := "([C)V" } : Jvm.MethodName) jdk_42_method_3_code (2 : Nat) (Option.none : Option Jvm.ClassFile.FieldType)).before args0 about1 = true := code_word (m := ⟨7, 1⟩) (meth := k7m1) (c := k7c1) (by decide +kernel) rfl rfl rfl (by decide +kernel)
set_option maxRecDepth 65536 in
theorem w_c4 : (Jvm.Cond.code ({ cls := "java/lang/String", name := "<init>", desc := "([CIILjava/lang/Void;)V" } : Jvm.MethodName) jdk_42_method_149_code (6 : Nat) (Option.none : Option Jvm.ClassFile.FieldType)).before args0 about1 = true := code_word (m := ⟨7, 6⟩) (meth := k7m6) (c := k7c6) (by decide +kernel) rfl rfl rfl (by decide +kernel)
set_option maxRecDepth 65536 in
theorem w_c5 : (Jvm.Cond.code ({ cls := "java/lang/Object", name := "<init>", desc := "()V" } : Jvm.MethodName) object_method_1_code (1 : Nat) (Option.none : Option Jvm.ClassFile.FieldType)).before args0 about1 = true := code_word (m := ⟨0, 0⟩) (meth := k0m0) (c := k0c0) (by decide +kernel) rfl rfl rfl (by decide +kernel)
set_option maxRecDepth 65536 in
theorem w_c6 : (Jvm.Cond.code ({ cls := "java/lang/StringUTF16", name := "compress", desc := "([CII)[B" } : Jvm.MethodName) jdk_52_method_16_code (6 : Nat) (Option.some (Jvm.ClassFile.FieldType.array Jvm.ClassFile.FieldType.byte))).before args0 about1 = true := code_word (m := ⟨8, 2⟩) (meth := k8m2) (c := k8c2) (by decide +kernel) rfl rfl rfl (by decide +kernel)
set_option maxRecDepth 65536 in
theorem w_c7 : (Jvm.Cond.code ({ cls := "java/lang/StringUTF16", name := "compress", desc := "([CI[BII)I" } : Jvm.MethodName) jdk_52_method_21_code (7 : Nat) (Option.some Jvm.ClassFile.FieldType.int)).before args0 about1 = true := code_word (m := ⟨8, 3⟩) (meth := k8m3) (c := k8c3) (by decide +kernel) rfl rfl rfl (by decide +kernel)
set_option maxRecDepth 65536 in
theorem w_c8 : (Jvm.Cond.code ({ cls := "java/lang/StringUTF16", name := "coderFromArrayLen", desc := "([BI)B" } : Jvm.MethodName) jdk_52_method_15_code (2 : Nat) (Option.some Jvm.ClassFile.FieldType.byte)).before args0 about1 = true := code_word (m := ⟨8, 1⟩) (meth := k8m1) (c := k8c1) (by decide +kernel) rfl rfl rfl (by decide +kernel)
set_option maxRecDepth 65536 in
theorem w_c9 : (Jvm.Cond.code ({ cls := "com/example/refledger/refledger/PublicKeyText", name := "trim", desc := "(Ljava/lang/String;)Ljava/lang/String;" } : Jvm.MethodName) prog_12_method_3_code (3 : Nat) (Option.some (Jvm.ClassFile.FieldType.object "java/lang/String"))).before args0 about1 = true := code_word (m := ⟨9, 0⟩) (meth := k9m0) (c := k9c0) (by decide +kernel) rfl rfl rfl (by decide +kernel)
set_option maxRecDepth 65536 in
theorem w_c10 : (Jvm.Cond.code ({ cls := "com/example/refledger/refledger/PublicKeyText", name := "skipBlanks", desc := "(Ljava/lang/String;I)I" } : Jvm.MethodName) prog_12_method_16_code (3 : Nat) (Option.some Jvm.ClassFile.FieldType.int)).before args0 about1 = true := code_word (m := ⟨9, 1⟩) (meth := k9m1) (c := k9c1) (by decide +kernel) rfl rfl rfl (by decide +kernel)
set_option maxRecDepth 65536 in
theorem w_c11 : (Jvm.Cond.code ({ cls := "java/lang/String", name := "length", desc := "()I" } : Jvm.MethodName) jdk_42_method_54_code (1 : Nat) (Option.some Jvm.ClassFile.FieldType.int)).before args0 about1 = true := code_word (m := ⟨7, 2⟩) (meth := k7m2) (c := k7c2) (by decide +kernel) rfl rfl rfl (by decide +kernel)
set_option maxRecDepth 65536 in
theorem w_c12 : (Jvm.Cond.code ({ cls := "java/lang/String", name := "coder", desc := "()B" } : Jvm.MethodName) jdk_42_method_152_code (1 : Nat) (Option.some Jvm.ClassFile.FieldType.byte)).before args0 about1 = true := code_word (m := ⟨7, 8⟩) (meth := k7m8) (c := k7c8) (by decide +kernel) rfl rfl rfl (by decide +kernel)
set_option maxRecDepth 65536 in
theorem w_c13 : (Jvm.Cond.code ({ cls := "java/lang/String", name := "charAt", desc := "(I)C" } : Jvm.MethodName) jdk_42_method_56_code (2 : Nat) (Option.some Jvm.ClassFile.FieldType.char)).before args0 about1 = true := code_word (m := ⟨7, 4⟩) (meth := k7m4) (c := k7c4) (by decide +kernel) rfl rfl rfl (by decide +kernel)
set_option maxRecDepth 65536 in
theorem w_c14 : (Jvm.Cond.code ({ cls := "java/lang/String", name := "isLatin1", desc := "()Z" } : Jvm.MethodName) jdk_42_method_154_code (1 : Nat) (Option.some Jvm.ClassFile.FieldType.boolean)).before args0 about1 = true := code_word (m := ⟨7, 9⟩) (meth := k7m9) (c := k7c9) (by decide +kernel) rfl rfl rfl (by decide +kernel)
set_option maxRecDepth 65536 in
theorem w_c15 : (Jvm.Cond.code ({ cls := "java/lang/StringLatin1", name := "charAt", desc := "([BI)C" } : Jvm.MethodName) jdk_43_method_2_code (2 : Nat) (Option.some Jvm.ClassFile.FieldType.char)).before args0 about1 = true := code_word (m := ⟨10, 1⟩) (meth := k10m1) (c := k10c1) (by decide +kernel) rfl rfl rfl (by decide +kernel)
set_option maxRecDepth 65536 in
theorem w_c16 : (Jvm.Cond.code ({ cls := "java/lang/String", name := "checkIndex", desc := "(II)V" } : Jvm.MethodName) jdk_42_method_155_code (2 : Nat) (Option.none : Option Jvm.ClassFile.FieldType)).before args0 about1 = true := code_word (m := ⟨7, 10⟩) (meth := k7m10) (c := k7c10) (by decide +kernel) rfl rfl rfl (by decide +kernel)
set_option maxRecDepth 65536 in
theorem w_c17 : (Jvm.Cond.code ({ cls := "jdk/internal/util/Preconditions", name := "checkIndex", desc := "(IILjava/util/function/BiFunction;)I" } : Jvm.MethodName) jdk_41_method_11_code (3 : Nat) (Option.some Jvm.ClassFile.FieldType.int)).before args0 about1 = true := code_word (m := ⟨11, 1⟩) (meth := k11m1) (c := k11c1) (by decide +kernel) rfl rfl rfl (by decide +kernel)
set_option maxRecDepth 65536 in
theorem w_c18 : (Jvm.Cond.code ({ cls := "com/example/refledger/refledger/PublicKeyText", name := "isBlank", desc := "(C)Z" } : Jvm.MethodName) prog_12_method_17_code (1 : Nat) (Option.some Jvm.ClassFile.FieldType.boolean)).before args0 about1 = true := code_word (m := ⟨9, 2⟩) (meth := k9m2) (c := k9c2) (by decide +kernel) rfl rfl rfl (by decide +kernel)
set_option maxRecDepth 65536 in
theorem w_c19 : (Jvm.Cond.code ({ cls := "java/lang/String", name := "substring", desc := "(II)Ljava/lang/String;" } : Jvm.MethodName) jdk_42_method_92_code (5 : Nat) (Option.some (Jvm.ClassFile.FieldType.object "java/lang/String"))).before args0 about1 = true := code_word (m := ⟨7, 5⟩) (meth := k7m5) (c := k7c5) (by decide +kernel) rfl rfl rfl (by decide +kernel)
set_option maxRecDepth 65536 in
theorem w_c20 : (Jvm.Cond.code ({ cls := "java/lang/String", name := "checkBoundsBeginEnd", desc := "(III)V" } : Jvm.MethodName) jdk_42_method_158_code (3 : Nat) (Option.none : Option Jvm.ClassFile.FieldType)).before args0 about1 = true := code_word (m := ⟨7, 11⟩) (meth := k7m11) (c := k7c11) (by decide +kernel) rfl rfl rfl (by decide +kernel)
set_option maxRecDepth 65536 in
theorem w_c21 : (Jvm.Cond.code ({ cls := "jdk/internal/util/Preconditions", name := "checkFromToIndex", desc := "(IIILjava/util/function/BiFunction;)I" } : Jvm.MethodName) jdk_41_method_12_code (4 : Nat) (Option.some Jvm.ClassFile.FieldType.int)).before args0 about1 = true := code_word (m := ⟨11, 2⟩) (meth := k11m2) (c := k11c2) (by decide +kernel) rfl rfl rfl (by decide +kernel)
set_option maxRecDepth 65536 in
theorem w_c22 : (Jvm.Cond.code ({ cls := "com/example/refledger/refledger/PublicKeyTextTrimPinLaw", name := "same", desc := "(Ljava/lang/String;II[CI)Z" } : Jvm.MethodName) method_3_code (5 : Nat) (Option.some Jvm.ClassFile.FieldType.boolean)).before args0 about1 = true := code_word (m := ⟨1, 2⟩) (meth := k1m2) (c := k1c2) (by decide +kernel) rfl rfl rfl (by decide +kernel)
set_option maxRecDepth 65536 in
theorem w_c23 : (Jvm.Cond.code ({ cls := "com/example/refledger/refledger/PublicKeyTextTrimPinLaw", name := "removable", desc := "(I)C" } : Jvm.MethodName) method_5_code (2 : Nat) (Option.some Jvm.ClassFile.FieldType.char)).before args0 about1 = true := code_word (m := ⟨1, 4⟩) (meth := k1m4) (c := k1c4) (by decide +kernel) rfl rfl rfl (by decide +kernel)
set_option maxRecDepth 65536 in
theorem w_c24 : (Jvm.Cond.code ({ cls := "java/lang/StringLatin1", name := "newString", desc := "([BII)Ljava/lang/String;" } : Jvm.MethodName) jdk_43_method_47_code (3 : Nat) (Option.some (Jvm.ClassFile.FieldType.object "java/lang/String"))).before args0 about1 = true := code_word (m := ⟨10, 2⟩) (meth := k10m2) (c := k10c2) (by decide +kernel) rfl rfl rfl (by decide +kernel)
set_option maxRecDepth 65536 in
theorem w_c25 : (Jvm.Cond.code ({ cls := "java/util/Arrays", name := "copyOfRange", desc := "([BII)[B" } : Jvm.MethodName) jdk_65_method_132_code (3 : Nat) (Option.some (Jvm.ClassFile.FieldType.array Jvm.ClassFile.FieldType.byte))).before args0 about1 = true := code_word (m := ⟨12, 2⟩) (meth := k12m2) (c := k12c2) (by decide +kernel) rfl rfl rfl (by decide +kernel)
set_option maxRecDepth 65536 in
theorem w_c26 : (Jvm.Cond.code ({ cls := "java/util/Arrays", name := "copyOfRangeByte", desc := "([BII)[B" } : Jvm.MethodName) jdk_65_method_133_code (5 : Nat) (Option.some (Jvm.ClassFile.FieldType.array Jvm.ClassFile.FieldType.byte))).before args0 about1 = true := code_word (m := ⟨12, 3⟩) (meth := k12m3) (c := k12c3) (by decide +kernel) rfl rfl rfl (by decide +kernel)
set_option maxRecDepth 65536 in
theorem w_c27 : (Jvm.Cond.code ({ cls := "java/util/Arrays", name := "checkLength", desc := "(II)V" } : Jvm.MethodName) jdk_65_method_131_code (2 : Nat) (Option.none : Option Jvm.ClassFile.FieldType)).before args0 about1 = true := code_word (m := ⟨12, 1⟩) (meth := k12m1) (c := k12c1) (by decide +kernel) rfl rfl rfl (by decide +kernel)
set_option maxRecDepth 65536 in
theorem w_c28 : (Jvm.Cond.code ({ cls := "java/lang/Math", name := "min", desc := "(II)I" } : Jvm.MethodName) jdk_29_method_69_code (2 : Nat) (Option.some Jvm.ClassFile.FieldType.int)).before args0 about1 = true := code_word (m := ⟨13, 1⟩) (meth := k13m1) (c := k13c1) (by decide +kernel) rfl rfl rfl (by decide +kernel)
set_option maxRecDepth 65536 in
theorem w_c29 : (Jvm.Cond.code ({ cls := "java/lang/String", name := "<init>", desc := "([BB)V" } : Jvm.MethodName) jdk_42_method_151_code (3 : Nat) (Option.none : Option Jvm.ClassFile.FieldType)).before args0 about1 = true := code_word (m := ⟨7, 7⟩) (meth := k7m7) (c := k7c7) (by decide +kernel) rfl rfl rfl (by decide +kernel)
set_option maxRecDepth 65536 in
theorem w_c30 : (Jvm.Cond.code ({ cls := "java/lang/String", name := "isEmpty", desc := "()Z" } : Jvm.MethodName) jdk_42_method_55_code (1 : Nat) (Option.some Jvm.ClassFile.FieldType.boolean)).before args0 about1 = true := code_word (m := ⟨7, 3⟩) (meth := k7m3) (c := k7c3) (by decide +kernel) rfl rfl rfl (by decide +kernel)
def codes1 : List Jvm.Cond := [Jvm.Cond.code x code maxLocals ret, Jvm.Cond.code ({ cls := "com/example/refledger/refledger/PublicKeyTextTrimPinLaw", name := "place", desc := "(IIIZI)C" } : Jvm.MethodName) method_6_code (6 : Nat) (Option.some Jvm.ClassFile.FieldType.char), Jvm.Cond.code ({ cls := "com/example/refledger/refledger/PublicKeyTextTrimPinLaw", name := "isBlank", desc := "(C)Z" } : Jvm.MethodName) method_4_code (1 : Nat) (Option.some Jvm.ClassFile.FieldType.boolean), Jvm.Cond.code ({ cls := "java/lang/String", name := "<init>", desc := "([C)V" } : Jvm.MethodName) jdk_42_method_3_code (2 : Nat) (Option.none : Option Jvm.ClassFile.FieldType), Jvm.Cond.code ({ cls := "java/lang/String", name := "<init>", desc := "([CIILjava/lang/Void;)V" } : Jvm.MethodName) jdk_42_method_149_code (6 : Nat) (Option.none : Option Jvm.ClassFile.FieldType), Jvm.Cond.code ({ cls := "java/lang/Object", name := "<init>", desc := "()V" } : Jvm.MethodName) object_method_1_code (1 : Nat) (Option.none : Option Jvm.ClassFile.FieldType), Jvm.Cond.code ({ cls := "java/lang/StringUTF16", name := "compress", desc := "([CII)[B" } : Jvm.MethodName) jdk_52_method_16_code (6 : Nat) (Option.some (Jvm.ClassFile.FieldType.array Jvm.ClassFile.FieldType.byte)), Jvm.Cond.code ({ cls := "java/lang/StringUTF16", name := "compress", desc := "([CI[BII)I" } : Jvm.MethodName) jdk_52_method_21_code (7 : Nat) (Option.some Jvm.ClassFile.FieldType.int), Jvm.Cond.code ({ cls := "java/lang/StringUTF16", name := "coderFromArrayLen", desc := "([BI)B" } : Jvm.MethodName) jdk_52_method_15_code (2 : Nat) (Option.some Jvm.ClassFile.FieldType.byte), Jvm.Cond.code ({ cls := "com/example/refledger/refledger/PublicKeyText", name := "trim", desc := "(Ljava/lang/String;)Ljava/lang/String;" } : Jvm.MethodName) prog_12_method_3_code (3 : Nat) (Option.some (Jvm.ClassFile.FieldType.object "java/lang/String")), Jvm.Cond.code ({ cls := "com/example/refledger/refledger/PublicKeyText", name := "skipBlanks", desc := "(Ljava/lang/String;I)I" } : Jvm.MethodName) prog_12_method_16_code (3 : Nat) (Option.some Jvm.ClassFile.FieldType.int), Jvm.Cond.code ({ cls := "java/lang/String", name := "length", desc := "()I" } : Jvm.MethodName) jdk_42_method_54_code (1 : Nat) (Option.some Jvm.ClassFile.FieldType.int), Jvm.Cond.code ({ cls := "java/lang/String", name := "coder", desc := "()B" } : Jvm.MethodName) jdk_42_method_152_code (1 : Nat) (Option.some Jvm.ClassFile.FieldType.byte), Jvm.Cond.code ({ cls := "java/lang/String", name := "charAt", desc := "(I)C" } : Jvm.MethodName) jdk_42_method_56_code (2 : Nat) (Option.some Jvm.ClassFile.FieldType.char), Jvm.Cond.code ({ cls := "java/lang/String", name := "isLatin1", desc := "()Z" } : Jvm.MethodName) jdk_42_method_154_code (1 : Nat) (Option.some Jvm.ClassFile.FieldType.boolean), Jvm.Cond.code ({ cls := "java/lang/StringLatin1", name := "charAt", desc := "([BI)C" } : Jvm.MethodName) jdk_43_method_2_code (2 : Nat) (Option.some Jvm.ClassFile.FieldType.char), Jvm.Cond.code ({ cls := "java/lang/String", name := "checkIndex", desc := "(II)V" } : Jvm.MethodName) jdk_42_method_155_code (2 : Nat) (Option.none : Option Jvm.ClassFile.FieldType), Jvm.Cond.code ({ cls := "jdk/internal/util/Preconditions", name := "checkIndex", desc := "(IILjava/util/function/BiFunction;)I" } : Jvm.MethodName) jdk_41_method_11_code (3 : Nat) (Option.some Jvm.ClassFile.FieldType.int), Jvm.Cond.code ({ cls := "com/example/refledger/refledger/PublicKeyText", name := "isBlank", desc := "(C)Z" } : Jvm.MethodName) prog_12_method_17_code (1 : Nat) (Option.some Jvm.ClassFile.FieldType.boolean), Jvm.Cond.code ({ cls := "java/lang/String", name := "substring", desc := "(II)Ljava/lang/String;" } : Jvm.MethodName) jdk_42_method_92_code (5 : Nat) (Option.some (Jvm.ClassFile.FieldType.object "java/lang/String")), Jvm.Cond.code ({ cls := "java/lang/String", name := "checkBoundsBeginEnd", desc := "(III)V" } : Jvm.MethodName) jdk_42_method_158_code (3 : Nat) (Option.none : Option Jvm.ClassFile.FieldType), Jvm.Cond.code ({ cls := "jdk/internal/util/Preconditions", name := "checkFromToIndex", desc := "(IIILjava/util/function/BiFunction;)I" } : Jvm.MethodName) jdk_41_method_12_code (4 : Nat) (Option.some Jvm.ClassFile.FieldType.int), Jvm.Cond.code ({ cls := "com/example/refledger/refledger/PublicKeyTextTrimPinLaw", name := "same", desc := "(Ljava/lang/String;II[CI)Z" } : Jvm.MethodName) method_3_code (5 : Nat) (Option.some Jvm.ClassFile.FieldType.boolean), Jvm.Cond.code ({ cls := "com/example/refledger/refledger/PublicKeyTextTrimPinLaw", name := "removable", desc := "(I)C" } : Jvm.MethodName) method_5_code (2 : Nat) (Option.some Jvm.ClassFile.FieldType.char), Jvm.Cond.code ({ cls := "java/lang/StringLatin1", name := "newString", desc := "([BII)Ljava/lang/String;" } : Jvm.MethodName) jdk_43_method_47_code (3 : Nat) (Option.some (Jvm.ClassFile.FieldType.object "java/lang/String")), Jvm.Cond.code ({ cls := "java/util/Arrays", name := "copyOfRange", desc := "([BII)[B" } : Jvm.MethodName) jdk_65_method_132_code (3 : Nat) (Option.some (Jvm.ClassFile.FieldType.array Jvm.ClassFile.FieldType.byte)), Jvm.Cond.code ({ cls := "java/util/Arrays", name := "copyOfRangeByte", desc := "([BII)[B" } : Jvm.MethodName) jdk_65_method_133_code (5 : Nat) (Option.some (Jvm.ClassFile.FieldType.array Jvm.ClassFile.FieldType.byte)), Jvm.Cond.code ({ cls := "java/util/Arrays", name := "checkLength", desc := "(II)V" } : Jvm.MethodName) jdk_65_method_131_code (2 : Nat) (Option.none : Option Jvm.ClassFile.FieldType), Jvm.Cond.code ({ cls := "java/lang/Math", name := "min", desc := "(II)I" } : Jvm.MethodName) jdk_29_method_69_code (2 : Nat) (Option.some Jvm.ClassFile.FieldType.int), Jvm.Cond.code ({ cls := "java/lang/String", name := "<init>", desc := "([BB)V" } : Jvm.MethodName) jdk_42_method_151_code (3 : Nat) (Option.none : Option Jvm.ClassFile.FieldType), Jvm.Cond.code ({ cls := "java/lang/String", name := "isEmpty", desc := "()Z" } : Jvm.MethodName) jdk_42_method_55_code (1 : Nat) (Option.some Jvm.ClassFile.FieldType.boolean)]
set_option maxRecDepth 65536 in
theorem codes_eq : words1.filter isCode = codes1 := rfl
theorem w_codes : ∀ c ∈ words1.filter isCode, c.before args0 about1 = true := by
  rw [codes_eq]
  intro c hc
  simp only [codes1, List.mem_cons, List.not_mem_nil, or_false] at hc
  rcases hc with rfl | rfl | rfl | rfl | rfl | rfl | rfl | rfl | rfl | rfl | rfl | rfl | rfl | rfl | rfl | rfl | rfl | rfl | rfl | rfl | rfl | rfl | rfl | rfl | rfl | rfl | rfl | rfl | rfl | rfl | rfl
  · exact w_c0
  · exact w_c1
  · exact w_c2
  · exact w_c3
  · exact w_c4
  · exact w_c5
  · exact w_c6
  · exact w_c7
  · exact w_c8
  · exact w_c9
  · exact w_c10
  · exact w_c11
  · exact w_c12
  · exact w_c13
  · exact w_c14
  · exact w_c15
  · exact w_c16
  · exact w_c17
  · exact w_c18
  · exact w_c19
  · exact w_c20
  · exact w_c21
  · exact w_c22
  · exact w_c23
  · exact w_c24
  · exact w_c25
  · exact w_c26
  · exact w_c27
  · exact w_c28
  · exact w_c29
  · exact w_c30
set_option maxRecDepth 65536 in
theorem w_t1 : (words1.take 24).all (fun c => isCode c || c.before args0 about1) = true := by decide +kernel
set_option maxRecDepth 65536 in
theorem w_t2 : ((words1.drop 24).take 24).all (fun c => isCode c || c.before args0 about1) = true := by decide +kernel
set_option maxRecDepth 65536 in
theorem w_t3 : (((words1.drop 24).drop 24).take 24).all (fun c => isCode c || c.before args0 about1) = true := by decide +kernel
set_option maxRecDepth 65536 in
theorem w_t4 : ((((words1.drop 24).drop 24).drop 24).take 24).all (fun c => isCode c || c.before args0 about1) = true := by decide +kernel
set_option maxRecDepth 65536 in
theorem w_t5 : (((((words1.drop 24).drop 24).drop 24).drop 24).take 24).all (fun c => isCode c || c.before args0 about1) = true := by decide +kernel
set_option maxRecDepth 65536 in
theorem w_t6 : (((((words1.drop 24).drop 24).drop 24).drop 24).drop 24).all (fun c => isCode c || c.before args0 about1) = true := by decide +kernel
theorem w_tables : (allAtoms (Jvm.Cond.code x code maxLocals ret :: tables_1)).before args0 about1 = true := by
  rw [allAtoms_all]
  show words1.all (fun c => c.before args0 about1) = true
  refine all_split ?_ w_codes
  rw [← List.take_append_drop 24 words1, List.all_append, w_t1, ← List.take_append_drop 24 (words1.drop 24), List.all_append, w_t2, ← List.take_append_drop 24 ((words1.drop 24).drop 24), List.all_append, w_t3, ← List.take_append_drop 24 (((words1.drop 24).drop 24).drop 24), List.all_append, w_t4, ← List.take_append_drop 24 ((((words1.drop 24).drop 24).drop 24).drop 24), List.all_append, w_t5, w_t6]
  rfl
set_option maxRecDepth 65536 in
theorem w_rest : rest_1_c.before args0 about1 = true := by decide +kernel
set_option maxRecDepth 65536 in
theorem w_case : (Jvm.Cond.and given_1 narrow_1).before args0 about1 = true := by decide +kernel
set_option maxRecDepth 65536 in
theorem w_consts : constsHeld consts_1 about1 := Jvm.Lit.constsHeldB_iff.mp (by decide +kernel)
theorem w_applies : (headSpec (Jvm.Cond.code x code maxLocals ret :: tables_1) room_1).applies x e0.platform about1 = true :=
  (Spec.applies_iff w_frames).mpr ⟨w_running, w_runnable, w_alone, w_named, w_hears, w_ripe, w_room, w_tables⟩
theorem atStart : AtStart classFile x code maxLocals ret World_1 tables_1 room_1 Calls_1 rest_1 Pre_1 launch0 p0 e0 about1 theMethod args0 below0 :=
  ⟨lists_1, trivial, launch0.admits_env _ _ _, launch0.least_env, fairChoices_fair.cas, fairChoices_fair.clock, w_frames, w_args, w_heap, w_applies, ⟨w_consts, trivial⟩, w_rest, w_case⟩
end start1
theorem witness_1 : WitnessClaimed_1 := ⟨start1.p0, start1.e0, start1.about1, start1.theMethod, start1.args0, start1.below0, start1.atStart⟩
end Jvm.Pilot.@@N@@

