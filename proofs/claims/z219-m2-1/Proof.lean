import JvmDerived
import JvmDerived.Pilot.@@N@@Statement
import JvmDerived.Pilot.@@N@@Code
set_option linter.unusedVariables false
set_option linter.unusedSimpArgs false
namespace Jvm.RoadKit
open Sem ClassFile Op Lib Jvm.Stand Jvm.Free Jvm.LawKit
section New
variable {p : Program} {l : Launch} {e : Env} {R : Room} {s : State} {m : MethodId} {args : Array Value} {below : List Frame} {meth : Method} {c : Code} {T : State} {locs : List Loc} {cells slots : Nat}
theorem retI (X : Stand p l e R s m args below meth c T locs cells slots) (hx : p.tables.exec = Jvm.exec) {pc : Nat} {Ls : Array Slot} {z : Int32} {rest : List Value} (hret : meth.sig.returnType = some .int) (hd : decode c.code pc = .ok (.ireturn, 1)) {fs : List Frame}
    (hl : ∀ (f : JFrame) (acts : List Action), f.method = m → f.locked = none → f.entered = [] → (doReturn e (T.setTop f) acts (some (.int z))).1 = T.setFrames fs) : Steps p.tables e below (T.setTop (mkF m pc Ls (.int z :: rest))) (T.setFrames fs) := by
  have hm' : T.vm.method? m = some meth := X.method'
  have hn : narrow .int (.int z) = .int z := rfl
  show Steps p.tables e below (T.setTop { method := m, pc := pc, locals := Ls, stack := _ :: rest, locked := none }) _
  jvm_step X.here [X.here.top, hx, hd, hm', hret, hn]
  first | (intro acts; rw [hl _ acts rfl rfl rfl]) | rw [hl _ _ rfl rfl rfl]
  exact Steps.refl _
theorem retR (X : Stand p l e R s m args below meth c T locs cells slots) (hx : p.tables.exec = Jvm.exec) {pc : Nat} {Ls : Array Slot} {w : Value} {t : FieldType} {rest : List Value} (hret : meth.sig.returnType = some t) (hn : narrow t w = w) (ht : t.isReference = true) (hw : w.isRef = true) (hd : decode c.code pc = .ok (.areturn, 1)) {fs : List Frame}
    (hl : ∀ (f : JFrame) (acts : List Action), f.method = m → f.locked = none → f.entered = [] → (doReturn e (T.setTop f) acts (some w)).1 = T.setFrames fs) : Steps p.tables e below (T.setTop (mkF m pc Ls (w :: rest))) (T.setFrames fs) := by
  have hm' : T.vm.method? m = some meth := X.method'
  show Steps p.tables e below (T.setTop { method := m, pc := pc, locals := Ls, stack := _ :: rest, locked := none }) _
  jvm_step X.here [X.here.top, hx, hd, hm', hret, hn, hw]
  try (refine ⟨ht, ?_⟩)
  first | (intro acts; rw [hl _ acts rfl rfl rfl]) | rw [hl _ _ rfl rfl rfl]
  exact Steps.refl _
/-- from here the body ends as Q says, with at most k new cells of n slots in all -/
def Go (p : Program) (e : Env) (below : List Frame) (s : State) (Q : Option Value → Heap → List Loc → Prop) (k n : Nat) (T : State) (g : JFrame) : Prop := ∃ s₂ o, Steps p.tables e below (T.setTop g) s₂ ∧ s₂.status = .running ∧ Ended s₂ below o ∧ ∃ v L, o = .returned v ∧ Q v s₂.heap L ∧ FrameEnd s o s₂ L k n
theorem Go.by {Q : Option Value → Heap → List Loc → Prop} {k n : Nat} {T T' : State} {g g' : JFrame} (st : ∀ t, Steps p.tables e below (T'.setTop g') t → Steps p.tables e below (T.setTop g) t) (h : Go p e below s Q k n T' g') : Go p e below s Q k n T g := by
  obtain ⟨s2, o, h1, h2⟩ := h
  exact ⟨s2, o, st _ h1, h2⟩
theorem Go.fin {Q : Option Value → Heap → List Loc → Prop} {k n : Nat} {g : JFrame} (X : Stand p l e R s m args below meth c T locs cells slots) {v : Option Value} (hv : meth.sig.returnType = none → v = none) (hlk : meth.locks = false) (hk : cells ≤ k) (hn : slots ≤ n) (hq : Q v T.heap locs)
    (hret : ∀ fs : List Frame, (∀ (f : JFrame) (acts : List Action), f.method = m → f.locked = none → f.entered = [] → (doReturn e (T.setTop f) acts v).1 = T.setFrames fs) → Steps p.tables e below (T.setTop g) (T.setFrames fs)) : Go p e below s Q k n T g := by
  obtain ⟨fs, hr, hrun, hended, hW, hsame⟩ := X.leave (v := v) hv hlk
  exact ⟨_, _, hret fs hr, hrun, hended, _, _, rfl, hq, ⟨_, rfl⟩, hW, hsame.mono hk hn⟩
/-- .. where it may have interned String constants -/
def GoW (p : Program) (e : Env) (below : List Frame) (s : State) (Q : Option Value → Heap → List Loc → Prop) (k n : Nat) (T : State) (g : JFrame) : Prop := ∃ s₂ o, Steps p.tables e below (T.setTop g) s₂ ∧ s₂.status = .running ∧ Ended s₂ below o ∧ ∃ v L, o = .returned v ∧ Q v s₂.heap L ∧ ReturnedEndW s o s₂ L k n
theorem GoW.by {Q : Option Value → Heap → List Loc → Prop} {k n : Nat} {T T' : State} {g g' : JFrame} (st : ∀ t, Steps p.tables e below (T'.setTop g') t → Steps p.tables e below (T.setTop g) t) (h : GoW p e below s Q k n T' g') : GoW p e below s Q k n T g := by
  obtain ⟨s2, o, h1, h2⟩ := h
  exact ⟨s2, o, st _ h1, h2⟩
theorem GoW.fin {Q : Option Value → Heap → List Loc → Prop} {k n n1 : Nat} {g : JFrame} {vm₁ : Vm} (hS : s.Since vm₁ n1) (X : Stand p l e R (s.setVm vm₁) m args below meth c T locs cells slots) (hn1 : n1 ≤ T.heap.size) {v : Option Value} (hv : meth.sig.returnType = none → v = none) (hlk : meth.locks = false) (hk : cells ≤ k) (hn : slots ≤ n) (hq : Q v T.heap locs)
    (hret : ∀ fs : List Frame, (∀ (f : JFrame) (acts : List Action), f.method = m → f.locked = none → f.entered = [] → (doReturn e (T.setTop f) acts v).1 = T.setFrames fs) → Steps p.tables e below (T.setTop g) (T.setFrames fs)) : GoW p e below s Q k n T g := by
  obtain ⟨fs, hr, hrun, hended, hE⟩ := X.leaveW hS hn1 (v := v) hv hlk
  exact ⟨_, _, hret fs hr, hrun, hended, _, _, rfl, hq, hE.1, hE.2.1, hE.2.2.1, hE.2.2.2.mono hk hn⟩
theorem backOfI {Z : State} {a0 : Array Value} {h : Heap} {y : MethodName} {bytes : ByteArray} {maxL : Nat} {ret : Option FieldType} {rm : Room} {len W : Nat} {as' : Array Value} {Q : Option Value → Heap → List Loc → Prop} {Ts : List String}
    (hM : MetFree l y (head1 [Cond.code y bytes maxL ret] rm) (fun a U => a = as' ∧ Z.Warmed39 U.vm ∧ U.heap = h ∧ IB Z U.vm Ts) (fun _ _ _ _ _ => True) (fun _ U o U' => ∃ v L, o = .returned v ∧ Q v U'.heap L ∧ ReturnedEndW U o U' L rm.cells rm.slots))
    (hZ : Z.Warmed39 s.vm) (hI : IB Z s.vm Ts) (wc : (Cond.code y bytes maxL ret).before a0 Z = true) (wz : (Cond.initialized y.cls).before a0 Z = true) (hf : rm.frames + 1 ≤ R.frames) (hl : W + (maxL + 11) + rm.locals ≤ R.locals) :
    BackS l R p e below s args y len W (fun A a => a = as' ∧ A.U.heap = h ∧ A.cells + rm.cells ≤ R.cells ∧ A.slots + rm.slots ≤ R.slots)
      (fun A _ v B => ∃ L, Q v B.U.heap L ∧ B.locs = A.locs ++ L ∧ B.cells = A.cells + rm.cells ∧ B.slots = A.slots + rm.slots) :=
  BackS.of_freeW (bytes := bytes) (maxL := maxL) (ret := ret) (E := fun _ _ o t L k n => k = rm.cells ∧ n = rm.slots ∧ ∃ v, o = .returned v ∧ Q v t.heap L) hM hf hl
    (fun m meth c A a Y hp => have hU : Z.Warmed39 A.U.vm := wtrans hZ Y.warmed
      ⟨by show (Cond.and _ .tt).before a A.U = true; rw [Cond.before_and, mv hU wc]; rfl, mv hU wc, mv hU wz, hp.2.2.1, hp.2.2.2⟩)
    (fun m meth c A a g mk Y hp => ⟨hp.1, wtrans hZ Y.warmed, hp.2.1, by obtain ⟨more, q1, q2⟩ := hI; exact ⟨more, Y.warmed.interned_eq.trans q1, q2⟩⟩) (fun _ _ _ _ _ _ _ _ _ => trivial)
    (fun _ _ _ _ ⟨v, L, h1, h2, h3⟩ => ⟨L, _, _, h3, rfl, rfl, v, h1, h2⟩)
    (fun m meth c A a g mk v t L k n Y hp _ _ ⟨e1, e2, v', e3, e4⟩ => by cases e3; subst e1 e2; exact ⟨L, e4, rfl, rfl, rfl⟩)
theorem Old.sz {Z : State} {n0 : Nat} {h : Heap} (X : Old Z n0 h) : n0 ≤ h.size := X.1 ▸ X.2.1
theorem nev {a b : Addr} (h : ¬ a = b) : ¬ Value.ref a = Value.ref b := fun q => h (Value.ref.inj q)
end New
end Jvm.RoadKit

namespace Jvm.RoadKit
open Sem ClassFile Op Lib Bundle Jvm.Stand Jvm.Free Jvm.LawKit Jvm.Free.SB Jvm.Free.SBG
section GoHs
variable {p : Program} {l : Launch} {e : Env} {R : Room} {s : State} {m : MethodId} {args : Array Value} {below : List Frame} {meth : Method} {c : Code} {T : State} {locs : List Loc} {cells slots : Nat} {Z : State} {EL : List (String × Nat)} {a0 : Array Value}
/-- .. under RW14's invariant of the String constants -/
def GoH (Z : State) (EL : List (String × Nat)) (p : Program) (e : Env) (below : List Frame) (s : State) (Q : Option Value → Heap → List Loc → Prop) (k n : Nat) (T : State) (g : JFrame) : Prop := ∃ s₂ o, Steps p.tables e below (T.setTop g) s₂ ∧ s₂.status = .running ∧ Ended s₂ below o ∧ ∃ v L, o = .returned v ∧ Q v s₂.heap L ∧ CHr Z EL s.vm s.heap s₂.vm s₂.heap ∧ ReturnedEndW s o s₂ L k n
theorem GoH.by {Q : Option Value → Heap → List Loc → Prop} {k n : Nat} {T T' : State} {g g' : JFrame} (st : ∀ t, Steps p.tables e below (T'.setTop g') t → Steps p.tables e below (T.setTop g) t) (h : GoH Z EL p e below s Q k n T' g') : GoH Z EL p e below s Q k n T g := by
  obtain ⟨s2, o, h1, h2⟩ := h
  exact ⟨s2, o, st _ h1, h2⟩
theorem GoH.fin {Q : Option Value → Heap → List Loc → Prop} {k n n1 : Nat} {g : JFrame} {vm₁ : Vm} (hS : s.Since vm₁ n1) (X : Stand p l e R (s.setVm vm₁) m args below meth c T locs cells slots) (hn1 : n1 ≤ T.heap.size) (hC : CHr Z EL s.vm s.heap T.vm T.heap) {v : Option Value} (hv : meth.sig.returnType = none → v = none) (hlk : meth.locks = false) (hk : cells ≤ k) (hn : slots ≤ n) (hq : Q v T.heap locs)
    (hret : ∀ fs : List Frame, (∀ (f : JFrame) (acts : List Action), f.method = m → f.locked = none → f.entered = [] → (doReturn e (T.setTop f) acts v).1 = T.setFrames fs) → Steps p.tables e below (T.setTop g) (T.setFrames fs)) : GoH Z EL p e below s Q k n T g := by
  obtain ⟨fs, hr, hrun, hended, hE⟩ := X.leaveW hS hn1 (v := v) hv hlk
  exact ⟨_, _, hret fs hr, hrun, hended, _, _, rfl, hq, hC, hE.1, hE.2.1, hE.2.2.1, hE.2.2.2.mono hk hn⟩
/-- a String whose value is null yet is no booked one -/
theorem own_safe {vm : Vm} {h : Heap} {x : Addr} {n : Nat} (hal : Z.vm.Alike vm) (E : Exa Z h x "java/lang/String") (wi : (Cond.instantiable "java/lang/String" n).before a0 Z = true) (F : Fld Z h x "java/lang/String" "value" "[B" .null) : Safe Z EL vm h x := fun B => by
  obtain ⟨p, -, u, a, -, q, -, F', rfl | rfl⟩ := B
  · obtain ⟨cS, ⟨⟨s1, s2, s3, ⟨cv, kv, iv, s4, s4'⟩, -, s6, -, s8, -⟩, -⟩, -⟩ := F'
    obtain ⟨kv', z4⟩ := ff_back (U := Wst Z vm h) hal s4
    exact Fld.ne F (show Fld Z h q.sa "java/lang/String" "value" "[B" (.ref q.sd) from ⟨q.sC, cv, kv', iv, q.fSV, s1, z4, s6, s2, s3, by rw [← hal.assignable]; exact s4', s8⟩) (fun z => nomatch z) rfl
  · obtain ⟨cell, k, e1, e2, e3, -, -⟩ := E
    cases (show h[q.sd]? = some q.SA from F'.hd).symm.trans e1
    obtain ⟨c, k2, i1, i2, i3, -⟩ := Cond.instantiable_spec wi
    cases e2.symm.trans i1
    cases e3.symm.trans i2
    obtain ⟨cS, ⟨⟨-, -, -, -, -, -, -, -, -, -, ⟨-, kB, hkB, compB, hkindB⟩, -⟩, -, -⟩, -⟩ := F'
    obtain ⟨k', hk', ek⟩ := hal.2.2 _ _ e3
    cases (show vm.classes[q.SA.cls]? = some kB from hkB).symm.trans hk'
    rw [ek] at hkindB
    have := i3.symm.trans hkindB
    cases this
/-- C, whose superclass is the root, is no K -/
theorem own_no {C O K : String} {n : Nat} (w : (Cond.superclass C O).before a0 Z = true) (wo : (Cond.noSuperclass O).before a0 Z = true) (wk : (Cond.instantiable K n).before a0 Z = true) (h1 : O ≠ K) (h2 : C ≠ K) : ∃ c t, Z.vm.findClass C = some c ∧ Z.vm.findClass K = some t ∧ Z.vm.assignable c t = false := by
  obtain ⟨t, kt, g1, g2, g5, g7, -⟩ := Cond.instantiable_spec wk
  obtain ⟨c, k, r1, r2, r3, -, -⟩ := Cond.noSuperclass_spec wo
  have ne1 := ids_ne r1 g1 h1
  have n1 : NS Z O K := ⟨c, t, r1, g1, fun fuel => by
    cases fuel with
    | zero => rfl
    | succ f => simp [Vm.isSubclassAux, ne1, r2, r3]⟩
  obtain ⟨c', t', q0, q1, q3⟩ := NS.step w n1 h2
  cases g1.symm.trans q1
  obtain ⟨p, k', kp, u1, u2, u3, u4, u5, -, u7⟩ := Cond.superclass_spec q0 w
  have ne := ids_ne q0 g1 h2
  have gi : kt.isInterface = false := by cases hh : kt.isInterface <;> simp [hh] at g7 ⊢
  refine ⟨c', t, q0, g1, ?_⟩
  show Z.vm.assignableAux (255 + 1) c' t = false
  simp [Vm.assignableAux, ne, u2, g2, u5, g5, gi, Vm.isSubclass, q3]
theorem own_eqv {v : Option Value} {P : Prop} [Decidable P] (h : (v = some (.int 1) ∧ P) ∨ (v = some (.int 0) ∧ ¬ P)) : v = some (.int (if P then 1 else 0)) := by
  rcases h with ⟨rfl, q⟩ | ⟨rfl, q⟩
  · rw [if_pos q]
  · rw [if_neg q]
end GoHs
end Jvm.RoadKit

/- laws to paste: Road.backV, Road.eqW, Road.codOf (cut by pick.py; bodies as the Statement names them) -/
namespace Jvm.Pilot.@@N@@
namespace StrChars
open Jvm Sem ClassFile Op Lib Jvm.Stand Jvm.Free.XT Jvm.Free.ALB Jvm.Free.JM Jvm.Free
open Jvm.Lib.Cold (StaticIs)
/-- a char array whose places are chars -/
def Ch (a : Addr) (A : Cell) (U : State) : Prop := Arr .char a A U ∧ Typed .char A
theorem Ch.mv {a : Addr} {A : Cell} {U U' : State} (h : Ch a A U) (hal : U.vm.Alike U'.vm) (hh : U'.heap = U.heap) : Ch a A U' := ⟨h.1.mv hal hh, h.2⟩
theorem Ch.keep {a : Addr} {A : Cell} {U U' : State} (h : Ch a A U) (hal : U.vm.Alike U'.vm) (hk : U'.heap[a]? = some A) : Ch a A U' := ⟨h.1.keep hal hk, h.2⟩
/-- what place i of a char[]'s cell holds -/
def cv (A : Cell) (i : Nat) : Int32 := match A.slots[i]? with | some (.int x) => x | _ => 0
theorem Ch.get {a : Addr} {A : Cell} {U : State} (h : Ch a A U) {i : Nat} (hi : i < A.slots.size) : A.slots[i]? = some (.int (cv A i)) := by
  have e := Array.getElem?_eq_getElem hi
  have f := h.2 i _ e
  unfold cv; rw [e]
  generalize A.slots[i] = v at f
  cases v <;> simp [fits] at f ⊢
/-- the byte that i2b leaves of a char -/
def lo8 (x : Int32) : Int32 := x.toInt8.toInt32
theorem fits_lo8 (y : Int32) : fits .byte (.int (lo8 y)) = true := by
  have h1 := y.toInt8.le_toInt
  have h2 := y.toInt8.toInt_lt
  simp only [lo8, fits, Bool.and_eq_true, decide_eq_true_eq, Int32.le_iff_toInt_le, Int8.toInt_toInt32, show (-128 : Int32).toInt = -128 from by decide, show (127 : Int32).toInt = 127 from by decide]
  omega
/-- A' is A but that each place j of lo .. hi - 1 holds f j -/
def Laid (A A' : Cell) (lo hi : Nat) (f : Nat → Value) : Prop := A'.cls = A.cls ∧ A'.vm = A.vm ∧ A'.slots.size = A.slots.size ∧ ∀ i, A'.slots[i]? = if lo ≤ i ∧ i < hi then some (f i) else A.slots[i]?
theorem Laid.zero (A : Cell) (lo : Nat) (f : Nat → Value) : Laid A A lo (lo + 0) f := ⟨rfl, rfl, rfl, fun i => by rw [if_neg (by omega)]⟩
theorem Laid.step {A Ak : Cell} {lo k : Nat} {f : Nat → Value} {v : Value} (h : Laid A Ak lo k f) (hlo : lo ≤ k) (hk : k < Ak.slots.size) (hv : v = f k) : Laid A (Ak.setSlot k v) lo (k + 1) f := by
  refine ⟨h.1, h.2.1, by simpa [Cell.setSlot] using h.2.2.1, fun i => ?_⟩
  by_cases e : k = i
  · subst e; rw [Cell.slots_setSlot_self v hk, if_pos (by omega), hv]
  · rw [Cell.slots_setSlot_ne v e, h.2.2.2 i]
    by_cases q : lo ≤ i ∧ i < k
    · rw [if_pos q, if_pos (by omega)]
    · rw [if_neg q, if_neg (by omega)]
def U16 : String := "java/lang/StringUTF16"
namespace Cmp5
def yN : MethodName := ⟨"java/lang/StringUTF16", "compress", "([CI[BII)I"⟩
abbrev yB : ByteArray := jdk_52_method_21_code
theorem d0 : decode yB 0 = .ok (.iconst 0, 1) := by decide +kernel
theorem d1 : decode yB 1 = .ok (.istore 5, 2) := by decide +kernel
theorem d3 : decode yB 3 = .ok (.iload 5, 2) := by decide +kernel
theorem d5 : decode yB 5 = .ok (.iload 4, 2) := by decide +kernel
theorem d7 : decode yB 7 = .ok (.if_icmp (.ge) 37, 3) := by decide +kernel
theorem d10 : decode yB 10 = .ok (.aload_n 0, 1) := by decide +kernel
theorem d11 : decode yB 11 = .ok (.iload_n 1, 1) := by decide +kernel
theorem d12 : decode yB 12 = .ok (.caload, 1) := by decide +kernel
theorem d13 : decode yB 13 = .ok (.istore 6, 2) := by decide +kernel
theorem d15 : decode yB 15 = .ok (.iload 6, 2) := by decide +kernel
theorem d17 : decode yB 17 = .ok (.sipush 255, 3) := by decide +kernel
theorem d20 : decode yB 20 = .ok (.if_icmp (.le) 6, 3) := by decide +kernel
theorem d26 : decode yB 26 = .ok (.aload_n 2, 1) := by decide +kernel
theorem d27 : decode yB 27 = .ok (.iload_n 3, 1) := by decide +kernel
theorem d28 : decode yB 28 = .ok (.iload 6, 2) := by decide +kernel
theorem d30 : decode yB 30 = .ok (.i2b, 1) := by decide +kernel
theorem d31 : decode yB 31 = .ok (.bastore, 1) := by decide +kernel
theorem d32 : decode yB 32 = .ok (.iinc 1 1, 3) := by decide +kernel
theorem d35 : decode yB 35 = .ok (.iinc 3 1, 3) := by decide +kernel
theorem d38 : decode yB 38 = .ok (.iinc 5 1, 3) := by decide +kernel
theorem d41 : decode yB 41 = .ok (.goto (-38), 3) := by decide +kernel
theorem d44 : decode yB 44 = .ok (.iload 4, 2) := by decide +kernel
theorem d46 : decode yB 46 = .ok (.ireturn, 1) := by decide +kernel
def site : List Cond := []
def tab : Cond := tabOf yN yB 7 (some .int) site
def P (b : Addr) (A : Cell) (d : Addr) (B : Cell) (o q len : Nat) (args : Array Value) (s : State) : Prop := args = #[.ref b, .int (Int32.ofNat o), .ref d, .int (Int32.ofNat q), .int (Int32.ofNat len)] ∧ Ch b A s ∧ Arr .byte d B s ∧ b ≠ d ∧ o + len ≤ A.slots.size ∧ q + len ≤ B.slots.size ∧ ∀ i, i < len → ¬ 255 < cv A (o + i)
def E (b : Addr) (A : Cell) (d : Addr) (B : Cell) (o q len : Nat) (r : Option Value) (s u : State) : Prop := r = some (.int (Int32.ofNat len)) ∧ ∃ B', Put d B' s u ∧ Laid B B' q (q + len) (fun j => Value.int (lo8 (cv A (o + (j - q)))))
/-- no char of the range above 255: len; the places written hold each char's low byte -/
theorem law (l : Launch) (b : Addr) (A : Cell) (d : Addr) (B : Cell) (o q len : Nat) : Law l yN 5 5 0 0 yB 7 (some .int) site (P b A d B o q len) (E b A d B o q len) (copyLocs d q len) 0 0 := by
  refine Law.of_walk (plainFor_of_name (by decide +kernel)) (by decide +kernel) (by decide +kernel) (by decide) (fun _ _ h => by rw [h.1]; rfl) (fun _ U U' hal hh h => ⟨h.1, h.2.1.mv hal hh, h.2.2.1.mv hal hh, h.2.2.2⟩) (fun r U U' V V' h1 hal h2 h => ⟨h.1, h.2.elim fun B' q => ⟨B', q.1.mv h1 h2, q.2⟩⟩) ?_
  intro p e s m args below meth c s₁ X0 hexec hbytes hml hret hlk hnm hown hh0 W hP
  obtain ⟨rfl, hA, hB, hne, l1, l2, hp⟩ := hP
  have c1 : Steps p.tables e below (s₁.setTop (entryFrame m #[.ref b, .int (Int32.ofNat o), .ref d, .int (Int32.ofNat q), .int (Int32.ofNat len)] 7)) (s₁.setTop (mkF m 0 #[.val (.ref b), .val (.int (Int32.ofNat o)), .val (.ref d), .val (.int (Int32.ofNat q)), .val (.int (Int32.ofNat len)), .unset, .unset] [])) := entry rfl
  have hA0 := hA.1.mv X0.warmed.alike hh0
  have hB0 := hB.mv X0.warmed.alike hh0
  have a31 := hA.1.2.2.2
  have c2 : Steps p.tables e below (s₁.setTop (entryFrame m #[.ref b, .int (Int32.ofNat o), .ref d, .int (Int32.ofNat q), .int (Int32.ofNat len)] 7)) (s₁.setTop (mkF m 3 #[.val (.ref b), .val (.int (Int32.ofNat o)), .val (.ref d), .val (.int (Int32.ofNat q)), .val (.int (Int32.ofNat len)), .val (.int 0), .unset] [])) := c1.trans (by
    refine iconstV X0.here hexec rfl 0 (hb hbytes d0) (by decide) ?_
    refine XS.istore X0.here hexec rfl (hb hbytes d1) rfl rfl ?_
    exact Steps.refl _)
  have loop : ∀ (r i : Nat), i + r = len → ∀ (z : Slot), (z = .unset ∨ ∃ w, z = .val w ∧ w.category = 1) → ∀ (Tl : State) (Bk : Cell), Stand p l e { frames := 0, locals := 0, cells := 0, slots := 0 } s m #[.ref b, .int (Int32.ofNat o), .ref d, .int (Int32.ofNat q), .int (Int32.ofNat len)] below meth c Tl ([] ++ copyLocs d q i) 0 0 → Put d Bk s₁ Tl → Laid B Bk q (q + i) (fun j => Value.int (lo8 (cv A (o + (j - q))))) →
      Steps p.tables e below (s₁.setTop (entryFrame m #[.ref b, .int (Int32.ofNat o), .ref d, .int (Int32.ofNat q), .int (Int32.ofNat len)] 7)) (Tl.setTop (mkF m 3 #[.val (.ref b), .val (.int (Int32.ofNat (o + i))), .val (.ref d), .val (.int (Int32.ofNat (q + i))), .val (.int (Int32.ofNat len)), .val (.int (Int32.ofNat i)), z] [])) → ∃ (T' : State) (B' : Cell) (z' : Slot), Stand p l e { frames := 0, locals := 0, cells := 0, slots := 0 } s m #[.ref b, .int (Int32.ofNat o), .ref d, .int (Int32.ofNat q), .int (Int32.ofNat len)] below meth c T' ([] ++ copyLocs d q len) 0 0 ∧ Put d B' s₁ T' ∧ Laid B B' q (q + len) (fun j => Value.int (lo8 (cv A (o + (j - q))))) ∧
      Steps p.tables e below (s₁.setTop (entryFrame m #[.ref b, .int (Int32.ofNat o), .ref d, .int (Int32.ofNat q), .int (Int32.ofNat len)] 7)) (T'.setTop (mkF m 3 #[.val (.ref b), .val (.int (Int32.ofNat (o + len))), .val (.ref d), .val (.int (Int32.ofNat (q + len))), .val (.int (Int32.ofNat len)), .val (.int (Int32.ofNat len)), z'] [])) := by
    intro r
    induction r with
    | zero =>
      intro i hi z hz Tl Bk Xl pl fl cl
      have hil : i = len := by omega
      rw [hil] at Xl fl cl
      exact ⟨Tl, Bk, z, Xl, pl, fl, cl⟩
    | succ r ih =>
      intro i hi z hz Tl Bk Xl pl fl cl
      have all := X0.warmed.alike.symm.trans Xl.warmed.alike
      have hAl := hA0.keep all (pl.other hne hA0.1)
      have hBk := hB0.like all pl.1 fl.1 fl.2.1 fl.2.2.1
      have hlt : q + i < Bk.slots.size := by rw [fl.2.2.1]; omega
      have c3 : Steps p.tables e below (s₁.setTop (entryFrame m #[.ref b, .int (Int32.ofNat o), .ref d, .int (Int32.ofNat q), .int (Int32.ofNat len)] 7)) (Tl.setTop (mkF m 12 #[.val (.ref b), .val (.int (Int32.ofNat (o + i))), .val (.ref d), .val (.int (Int32.ofNat (q + i))), .val (.int (Int32.ofNat len)), .val (.int (Int32.ofNat i)), z] [.int (Int32.ofNat (o + i)), .ref b])) := cl.trans (by
        refine XS.iload Xl.here hexec rfl (hb hbytes d3) rfl ?_
        refine XS.iload Xl.here hexec rfl (hb hbytes d5) rfl ?_
        refine XS.icmpNo Xl.here hexec rfl (hb hbytes d7) rfl (ii_ge_f (lt32 (by omega) (by omega))) ?_
        refine XS.aloadN Xl.here hexec rfl (hb hbytes d10) rfl rfl ?_
        refine XS.iloadN Xl.here hexec rfl (hb hbytes d11) rfl ?_
        exact Steps.refl _)
      have c4 : Steps p.tables e below (s₁.setTop (entryFrame m #[.ref b, .int (Int32.ofNat o), .ref d, .int (Int32.ofNat q), .int (Int32.ofNat len)] 7)) (Tl.setTop (mkF m 13 #[.val (.ref b), .val (.int (Int32.ofNat (o + i))), .val (.ref d), .val (.int (Int32.ofNat (q + i))), .val (.int (Int32.ofNat len)), .val (.int (Int32.ofNat i)), z] [.int (cv A (o + i))])) := c3.trans (by
        refine Xl.aget hexec hAl rfl (hA.get (i := o + i) (by omega)) rfl rfl (hb hbytes d12) ?_
        exact Steps.refl _)
      have c5 : Steps p.tables e below (s₁.setTop (entryFrame m #[.ref b, .int (Int32.ofNat o), .ref d, .int (Int32.ofNat q), .int (Int32.ofNat len)] 7)) (Tl.setTop (mkF m 15 #[.val (.ref b), .val (.int (Int32.ofNat (o + i))), .val (.ref d), .val (.int (Int32.ofNat (q + i))), .val (.int (Int32.ofNat len)), .val (.int (Int32.ofNat i)), .val (.int (cv A (o + i)))] [])) := c4.trans (by
        refine XS.istoreS Xl.here hexec rfl (hb hbytes d13) rfl rfl hz ?_
        exact Steps.refl _)
      have c6 : Steps p.tables e below (s₁.setTop (entryFrame m #[.ref b, .int (Int32.ofNat o), .ref d, .int (Int32.ofNat q), .int (Int32.ofNat len)] 7)) (Tl.setTop (mkF m 31 #[.val (.ref b), .val (.int (Int32.ofNat (o + i))), .val (.ref d), .val (.int (Int32.ofNat (q + i))), .val (.int (Int32.ofNat len)), .val (.int (Int32.ofNat i)), .val (.int (cv A (o + i)))] [.int (lo8 (cv A (o + i))), .int (Int32.ofNat (q + i)), .ref d])) := c5.trans (by
        refine XS.iload Xl.here hexec rfl (hb hbytes d15) rfl ?_
        refine sipushV Xl.here hexec rfl 255 (hb hbytes d17) (by decide) ?_
        refine XS.icmpYes Xl.here hexec rfl (pc0 := 20) rfl (hb hbytes d20) rfl (ii_le_t (hp i (by omega))) (by decide) rfl ?_
        refine XS.aloadN Xl.here hexec rfl (hb hbytes d26) rfl rfl ?_
        refine XS.iloadN Xl.here hexec rfl (hb hbytes d27) rfl ?_
        refine XS.iload Xl.here hexec rfl (hb hbytes d28) rfl ?_
        refine i2b Xl.here hexec rfl (hb hbytes d30) rfl ?_
        exact Steps.refl _)
      obtain ⟨T7, X7, p7, st7⟩ := Xl.aput hexec hBk rfl hlt rfl (fits_lo8 (cv A (o + i))) (g := (mkF m 31 #[.val (.ref b), .val (.int (Int32.ofNat (o + i))), .val (.ref d), .val (.int (Int32.ofNat (q + i))), .val (.int (Int32.ofNat len)), .val (.int (Int32.ofNat i)), .val (.int (cv A (o + i)))] [.int (lo8 (cv A (o + i))), .int (Int32.ofNat (q + i)), .ref d])) rfl (rest := []) rfl (hb hbytes d31)
      have c8 : Steps p.tables e below (s₁.setTop (entryFrame m #[.ref b, .int (Int32.ofNat o), .ref d, .int (Int32.ofNat q), .int (Int32.ofNat len)] 7)) (T7.setTop (mkF m 32 #[.val (.ref b), .val (.int (Int32.ofNat (o + i))), .val (.ref d), .val (.int (Int32.ofNat (q + i))), .val (.int (Int32.ofNat len)), .val (.int (Int32.ofNat i)), .val (.int (cv A (o + i)))] [])) := c6.trans (st7 _ (Steps.refl _))
      have c9 : Steps p.tables e below (s₁.setTop (entryFrame m #[.ref b, .int (Int32.ofNat o), .ref d, .int (Int32.ofNat q), .int (Int32.ofNat len)] 7)) (T7.setTop (mkF m 3 #[.val (.ref b), .val (.int (Int32.ofNat (o + i) + 1)), .val (.ref d), .val (.int (Int32.ofNat (q + i) + 1)), .val (.int (Int32.ofNat len)), .val (.int (Int32.ofNat i + 1)), .val (.int (cv A (o + i)))] [])) := c8.trans (by
        refine iincV X7.here hexec rfl 1 (hb hbytes d32) (by decide) rfl rfl ?_
        refine iincV X7.here hexec rfl 1 (hb hbytes d35) (by decide) rfl rfl ?_
        refine iincV X7.here hexec rfl 1 (hb hbytes d38) (by decide) rfl rfl ?_
        refine XS.goto X7.here hexec rfl (pc0 := 41) rfl (hb hbytes d41) (by decide) rfl ?_
        exact Steps.refl _)
      have c10 : Steps p.tables e below (s₁.setTop (entryFrame m #[.ref b, .int (Int32.ofNat o), .ref d, .int (Int32.ofNat q), .int (Int32.ofNat len)] 7)) (T7.setTop (mkF m 3 #[.val (.ref b), .val (.int (Int32.ofNat (o + (i + 1)))), .val (.ref d), .val (.int (Int32.ofNat (q + (i + 1)))), .val (.int (Int32.ofNat len)), .val (.int (Int32.ofNat (i + 1))), .val (.int (cv A (o + i)))] [])) := by
        have := c9
        rw [succ32, succ32, succ32] at this
        exact this
      exact ih (i + 1) (by omega) _ (Or.inr ⟨_, rfl, rfl⟩) T7 _ (by rw [copyLocs_step, ← List.append_assoc]; exact X7) (pl.trans p7) (fl.step (by omega) hlt (by simp)) c10
  obtain ⟨T9, B9, z9, X9, p9, f9, g9⟩ := loop len 0 (by omega) .unset (Or.inl rfl) s₁ B (by simpa [copyLocs] using X0) ⟨hB0.1, fun _ _ => rfl, rfl⟩ (Laid.zero _ _ _) c2
  have c11 : Steps p.tables e below (s₁.setTop (entryFrame m #[.ref b, .int (Int32.ofNat o), .ref d, .int (Int32.ofNat q), .int (Int32.ofNat len)] 7)) (T9.setTop (mkF m 46 #[.val (.ref b), .val (.int (Int32.ofNat (o + len))), .val (.ref d), .val (.int (Int32.ofNat (q + len))), .val (.int (Int32.ofNat len)), .val (.int (Int32.ofNat len)), z9] [.int (Int32.ofNat len)])) := g9.trans (by
    refine XS.iload X9.here hexec rfl (hb hbytes d3) rfl ?_
    refine XS.iload X9.here hexec rfl (hb hbytes d5) rfl ?_
    refine XS.icmpYes X9.here hexec rfl (pc0 := 7) rfl (hb hbytes d7) rfl (ii_ge_t (nlt32 (by omega) (Nat.le_refl _))) (by decide) rfl ?_
    refine XS.iload X9.here hexec rfl (hb hbytes d44) rfl ?_
    exact Steps.refl _)
  exact ⟨T9, some (.int (Int32.ofNat len)), _, _, _, X9, by simp, rfl, rfl, (fun h => by cases h), ⟨rfl, B9, p9.from hh0, f9⟩, fun fs hl => c11.trans (X9.ireturnOut hexec hret rfl (Or.inl rfl) (hb hbytes d46) hl)⟩
end Cmp5
namespace Cmp3
def yN : MethodName := ⟨"java/lang/StringUTF16", "compress", "([CII)[B"⟩
abbrev yB : ByteArray := jdk_52_method_16_code
theorem d0 : decode yB 0 = .ok (.iload_n 2, 1) := by decide +kernel
theorem d1 : decode yB 1 = .ok (.newarray .byte, 2) := by decide +kernel
theorem d3 : decode yB 3 = .ok (.astore_n 3, 1) := by decide +kernel
theorem d4 : decode yB 4 = .ok (.aload_n 0, 1) := by decide +kernel
theorem d5 : decode yB 5 = .ok (.iload_n 1, 1) := by decide +kernel
theorem d6 : decode yB 6 = .ok (.aload_n 3, 1) := by decide +kernel
theorem d7 : decode yB 7 = .ok (.iconst 0, 1) := by decide +kernel
theorem d8 : decode yB 8 = .ok (.iload_n 2, 1) := by decide +kernel
theorem d9 : decode yB 9 = .ok (.invokestatic 115, 3) := by decide +kernel
theorem d12 : decode yB 12 = .ok (.istore 4, 2) := by decide +kernel
theorem d14 : decode yB 14 = .ok (.iload 4, 2) := by decide +kernel
theorem d16 : decode yB 16 = .ok (.iload_n 2, 1) := by decide +kernel
theorem d17 : decode yB 17 = .ok (.if_icmp (.eq) 40, 3) := by decide +kernel
theorem d57 : decode yB 57 = .ok (.aload_n 3, 1) := by decide +kernel
theorem d58 : decode yB 58 = .ok (.areturn, 1) := by decide +kernel
def site : List Cond := [.arrayClass .byte, Cmp5.tab] ++ staticW U16 115 Cmp5.yN
def tab : Cond := tabOf yN yB 6 (some (.array .byte)) site
def P (b : Addr) (A : Cell) (o len : Nat) (args : Array Value) (s : State) : Prop := args = #[.ref b, .int (Int32.ofNat o), .int (Int32.ofNat len)] ∧ Ch b A s ∧ o + len ≤ A.slots.size ∧ len ≤ 536870912 ∧ ∀ i, i < len → ¬ 255 < cv A (o + i)
def E (b : Addr) (A : Cell) (o len : Nat) (r : Option Value) (s u : State) : Prop := NewArr .byte "[B" len (fun j => .int (lo8 (cv A (o + j)))) r s u ∧ u.heap.size = s.heap.size + 1
/-- no char of the range above 255: a new byte[] of their low bytes -/
theorem law (l : Launch) (b : Addr) (A : Cell) (o len : Nat) : Law l yN 3 3 1 18 yB 6 (some (.array .byte)) site (P b A o len) (E b A o len) [] 1 len := by
  refine Law.of_walk (plainFor_of_name (by decide +kernel)) (by decide +kernel) (by decide +kernel) (by decide) (fun _ _ h => by rw [h.1]; rfl) (fun _ U U' hal hh h => ⟨h.1, h.2.1.mv hal hh, h.2.2⟩) (fun r U U' V V' h1 hal h2 h => ⟨NewArr.mv r U U' V V' h1 hal h2 h.1, by rw [h1, h2]; exact h.2⟩) ?_
  intro p e s m args below meth c s₁ X0 hexec hbytes hml hret hlk hnm hown hh0 W hP
  obtain ⟨rfl, hA, l1, l2, hp⟩ := hP
  have a31 := hA.1.2.2.2
  have c1 : Steps p.tables e below (s₁.setTop (entryFrame m #[.ref b, .int (Int32.ofNat o), .int (Int32.ofNat len)] 6)) (s₁.setTop (mkF m 0 #[.val (.ref b), .val (.int (Int32.ofNat o)), .val (.int (Int32.ofNat len)), .unset, .unset, .unset] [])) := entry rfl
  have c2 : Steps p.tables e below (s₁.setTop (entryFrame m #[.ref b, .int (Int32.ofNat o), .int (Int32.ofNat len)] 6)) (s₁.setTop (mkF m 1 #[.val (.ref b), .val (.int (Int32.ofNat o)), .val (.int (Int32.ofNat len)), .unset, .unset, .unset] [.int (Int32.ofNat len)])) := c1.trans (by
    refine XS.iloadN X0.here hexec rfl (hb hbytes d0) rfl ?_
    exact Steps.refl _)
  obtain ⟨T3, B3, X3, ba3, bs3, bv3, bh3, bf3, st3⟩ := X0.anew hexec (atype := .byte) (wk W (.arrayClass .byte)) rfl (by show len * 1 ≤ _; omega) (by omega) (g := (mkF m 1 #[.val (.ref b), .val (.int (Int32.ofNat o)), .val (.int (Int32.ofNat len)), .unset, .unset, .unset] [.int (Int32.ofNat len)])) rfl (hb hbytes d1) (rest := []) rfl (Nat.le_refl _) (by show 0 + len ≤ len; omega)
  rw [hh0] at ba3 st3
  have kp3 : XT.Kept s T3 := (XT.Kept.of_eq hh0).push bh3
  have hA3 := hA.keep X3.warmed.alike (kp3 _ _ hA.1.1)
  have hne : b ≠ s.heap.size := hA.1.ne
  have c4 : Steps p.tables e below (s₁.setTop (entryFrame m #[.ref b, .int (Int32.ofNat o), .int (Int32.ofNat len)] 6)) (T3.setTop (mkF m 3 #[.val (.ref b), .val (.int (Int32.ofNat o)), .val (.int (Int32.ofNat len)), .unset, .unset, .unset] [.ref s.heap.size])) := c2.trans (st3 _ (Steps.refl _))
  have c5 : Steps p.tables e below (s₁.setTop (entryFrame m #[.ref b, .int (Int32.ofNat o), .int (Int32.ofNat len)] 6)) (T3.setTop (mkF m 9 #[.val (.ref b), .val (.int (Int32.ofNat o)), .val (.int (Int32.ofNat len)), .val (.ref s.heap.size), .unset, .unset] [.int (Int32.ofNat len), .int 0, .ref s.heap.size, .int (Int32.ofNat o), .ref b])) := c4.trans (by
    refine XS.astoreN X3.here hexec rfl (hb hbytes d3) rfl rfl rfl ?_
    refine XS.aloadN X3.here hexec rfl (hb hbytes d4) rfl rfl ?_
    refine XS.iloadN X3.here hexec rfl (hb hbytes d5) rfl ?_
    refine XS.aloadN X3.here hexec rfl (hb hbytes d6) rfl rfl ?_
    refine iconstV X3.here hexec rfl 0 (hb hbytes d7) (by decide) ?_
    refine XS.iloadN X3.here hexec rfl (hb hbytes d8) rfl ?_
    exact Steps.refl _)
  obtain ⟨v6, T6, X6, E6, g6⟩ := X3.callS hexec (Cmp5.law l b A s.heap.size B3 o 0 len) hown (wks W (staticW U16 115 Cmp5.yN)) (wk W Cmp5.tab) (W := 0) (Nat.le_of_ble_eq_true rfl) (Nat.le_of_ble_eq_true rfl) (Nat.le_refl _) (by show 0 + len + 0 ≤ len; omega) (g := (mkF m 9 #[.val (.ref b), .val (.int (Int32.ofNat o)), .val (.int (Int32.ofNat len)), .val (.ref s.heap.size), .unset, .unset] [.int (Int32.ofNat len), .int (Int32.ofNat 0), .ref s.heap.size, .int (Int32.ofNat o), .ref b])) rfl (by rw [hml]; rfl) c5 (argsL := [.ref b, .int (Int32.ofNat o), .ref s.heap.size, .int (Int32.ofNat 0), .int (Int32.ofNat len)]) (rest := []) rfl rfl (by show 2 * 0 + 0 ≤ _; decide) (hb hbytes d9) (⟨rfl, hA3, ba3, hne, l1, by rw [bs3]; simp, hp⟩)
  obtain ⟨rfl, B6, p6, f6⟩ := E6
  have c7 : Steps p.tables e below (s₁.setTop (entryFrame m #[.ref b, .int (Int32.ofNat o), .int (Int32.ofNat len)] 6)) (T6.setTop (mkF m 12 #[.val (.ref b), .val (.int (Int32.ofNat o)), .val (.int (Int32.ofNat len)), .val (.ref s.heap.size), .unset, .unset] [.int (Int32.ofNat len)])) := g6
  have c8 : Steps p.tables e below (s₁.setTop (entryFrame m #[.ref b, .int (Int32.ofNat o), .int (Int32.ofNat len)] 6)) (T6.setTop (mkF m 58 #[.val (.ref b), .val (.int (Int32.ofNat o)), .val (.int (Int32.ofNat len)), .val (.ref s.heap.size), .val (.int (Int32.ofNat len)), .unset] [.ref s.heap.size])) := c7.trans (by
    refine XS.istore X6.here hexec rfl (hb hbytes d12) rfl rfl ?_
    refine XS.iload X6.here hexec rfl (hb hbytes d14) rfl ?_
    refine XS.iloadN X6.here hexec rfl (hb hbytes d16) rfl ?_
    refine XS.icmpYes X6.here hexec rfl (pc0 := 17) rfl (hb hbytes d17) rfl (ii_eq_t rfl) (by decide) rfl ?_
    refine XS.aloadN X6.here hexec rfl (hb hbytes d57) rfl rfl ?_
    exact Steps.refl _)
  have X8 := X6.wide (L' := []) (cells' := 1) (slots' := len) (fun x hx hlt => by
    simp only [List.nil_append, copyLocs, List.mem_map, List.mem_range] at hx
    obtain ⟨i, -, rfl⟩ := hx
    exact absurd hlt (Nat.lt_irrefl _)) (Nat.le_refl _) (by omega)
  exact ⟨T6, some (.ref s.heap.size), _, _, _, X8, rfl, rfl, rfl, (fun h => by cases h), ⟨⟨rfl, B6, ba3.like (X3.warmed.alike.symm.trans X6.warmed.alike) p6.1 f6.1 f6.2.1 f6.2.2.1, f6.2.1.trans bv3, by rw [X6.warmed.alike.findClass, f6.1]; exact bf3, by rw [f6.2.2.1, bs3]; simp, fun j hj => by rw [f6.2.2.2 j, if_pos (by omega)]; rfl, kp3.put p6 (Nat.le_refl _)⟩, by rw [p6.2.2, bh3, hh0]; simp⟩, fun fs hl => c8.trans (X8.areturnOut hexec rfl hret rfl (hb hbytes d58) hl)⟩
end Cmp3
namespace CodL
def yN : MethodName := ⟨"java/lang/StringUTF16", "coderFromArrayLen", "([BI)B"⟩
abbrev yB : ByteArray := jdk_52_method_15_code
theorem d0 : decode yB 0 = .ok (.iload_n 1, 1) := by decide +kernel
theorem d1 : decode yB 1 = .ok (.aload_n 0, 1) := by decide +kernel
theorem d2 : decode yB 2 = .ok (.arraylength, 1) := by decide +kernel
theorem d3 : decode yB 3 = .ok (.isub, 1) := by decide +kernel
theorem d4 : decode yB 4 = .ok (.bipush 31, 2) := by decide +kernel
theorem d6 : decode yB 6 = .ok (.iushr, 1) := by decide +kernel
theorem d7 : decode yB 7 = .ok (.i2b, 1) := by decide +kernel
theorem d8 : decode yB 8 = .ok (.ireturn, 1) := by decide +kernel
def site : List Cond := []
def tab : Cond := tabOf yN yB 2 (some .byte) site
def P (d : Addr) (B : Cell) (args : Array Value) (s : State) : Prop := args = #[.ref d, .int (Int32.ofNat B.slots.size)] ∧ Arr .byte d B s
def E (r : Option Value) (s u : State) : Prop := XT.PureE (some (.int 0)) r s u
/-- an array as long as the number of chars: LATIN1 -/
theorem law (l : Launch) (d : Addr) (B : Cell) : Law l yN 2 2 0 0 yB 2 (some .byte) site (P d B) E [] 0 0 := by
  refine Law.of_walk (plainFor_of_name (by decide +kernel)) (by decide +kernel) (by decide +kernel) (by decide) (fun _ _ h => by rw [h.1]; rfl) (fun _ U U' hal hh h => ⟨h.1, h.2.mv hal hh⟩) (fun r U U' V V' h1 hal h2 h => XT.PureE.mv r U U' V V' h1 hal h2 h) ?_
  intro p e s m args below meth c s₁ X0 hexec hbytes hml hret hlk hnm hown hh0 W hP
  obtain ⟨rfl, hB⟩ := hP
  have hB0 := hB.mv X0.warmed.alike hh0
  have c1 : Steps p.tables e below (s₁.setTop (entryFrame m #[.ref d, .int (Int32.ofNat B.slots.size)] 2)) (s₁.setTop (mkF m 0 #[.val (.ref d), .val (.int (Int32.ofNat B.slots.size))] [])) := entry rfl
  have c2 : Steps p.tables e below (s₁.setTop (entryFrame m #[.ref d, .int (Int32.ofNat B.slots.size)] 2)) (s₁.setTop (mkF m 2 #[.val (.ref d), .val (.int (Int32.ofNat B.slots.size))] [.ref d, .int (Int32.ofNat B.slots.size)])) := c1.trans (by
    refine XS.iloadN X0.here hexec rfl (hb hbytes d0) rfl ?_
    refine XS.aloadN X0.here hexec rfl (hb hbytes d1) rfl rfl ?_
    exact Steps.refl _)
  have c3 : Steps p.tables e below (s₁.setTop (entryFrame m #[.ref d, .int (Int32.ofNat B.slots.size)] 2)) (s₁.setTop (mkF m 8 #[.val (.ref d), .val (.int (Int32.ofNat B.slots.size))] [.int (lo8 (ushr (Int32.ofNat B.slots.size - Int32.ofNat B.slots.size) 31))])) := c2.trans (by
    refine X0.alen hexec hB0 rfl rfl (hb hbytes d2) ?_
    refine XS.isub X0.here hexec rfl (hb hbytes d3) rfl ?_
    refine bipushV X0.here hexec rfl 31 (hb hbytes d4) (by decide) ?_
    refine iushr X0.here hexec rfl (hb hbytes d6) rfl ?_
    refine i2b X0.here hexec rfl (hb hbytes d7) rfl ?_
    exact Steps.refl _)
  have e0 : lo8 (ushr (Int32.ofNat B.slots.size - Int32.ofNat B.slots.size) 31) = 0 := by rw [Int32.sub_self]; decide
  rw [e0] at c3
  exact ⟨s₁, some (.int 0), _, _, _, X0, rfl, rfl, rfl, (fun h => by cases h), ⟨rfl, hh0⟩, fun fs hl => c3.trans (X0.ireturnOut hexec hret rfl (Or.inr (Or.inr (Or.inl rfl))) (hb hbytes d8) hl)⟩
end CodL
/-- the String at a is Latin-1 over a new byte[] (the heap's one new cell): the low bytes of the len chars of A from o on; every cell but a is kept -/
def Got (a : Addr) (D : Cell) (fV fC : Field) (A : Cell) (o len : Nat) (r : Option Value) (s u : State) : Prop := r = none ∧ ∃ D' V : Cell, Blank "java/lang/String" a D' u ∧ Same D D' [fV.slot, fC.slot] ∧ D'.slots[fV.slot]? = some (.ref s.heap.size) ∧ D'.slots[fC.slot]? = some (.int 0) ∧ Arr .byte s.heap.size V u ∧ V.vm = .none ∧ u.vm.findClass "[B" = some V.cls ∧ V.slots.size = len ∧ (∀ j, j < len → V.slots[j]? = some (.int (lo8 (cv A (o + j))))) ∧ (∀ (y : Addr) (c : Cell), y ≠ a → s.heap[y]? = some c → u.heap[y]? = some c) ∧ u.heap.size = s.heap.size + 1
theorem Got.mv {a : Addr} {D A : Cell} {fV fC : Field} {o len : Nat} : ∀ r (U U' V V' : State), U'.heap = U.heap → V.vm.Alike V'.vm → V'.heap = V.heap → Got a D fV fC A o len r U V → Got a D fV fC A o len r U' V' :=
  fun r U U' V V' h1 hal h2 ⟨e0, D', X, a1, a2, a3, a4, a5, a6, a7, a8, a9, a10, a11⟩ => ⟨e0, D', X, a1.mv hal h2, a2, by rw [h1]; exact a3, a4, by rw [h1]; exact a5.mv hal h2, a6, by rw [hal.findClass]; exact a7, a8, a9, by rw [h1, h2]; exact a10, by rw [h1, h2]; exact a11⟩
namespace New4
def yN : MethodName := ⟨"java/lang/String", "<init>", "([CIILjava/lang/Void;)V"⟩
abbrev yB : ByteArray := jdk_42_method_149_code
theorem d0 : decode yB 0 = .ok (.aload_n 0, 1) := by decide +kernel
theorem d1 : decode yB 1 = .ok (.invokespecial 1, 3) := by decide +kernel
theorem d4 : decode yB 4 = .ok (.iload_n 3, 1) := by decide +kernel
theorem d5 : decode yB 5 = .ok (.ifCond (.ne) 22, 3) := by decide +kernel
theorem d27 : decode yB 27 = .ok (.getstatic 38, 3) := by decide +kernel
theorem d30 : decode yB 30 = .ok (.ifCond (.eq) 28, 3) := by decide +kernel
theorem d33 : decode yB 33 = .ok (.aload_n 1, 1) := by decide +kernel
theorem d34 : decode yB 34 = .ok (.iload_n 2, 1) := by decide +kernel
theorem d35 : decode yB 35 = .ok (.iload_n 3, 1) := by decide +kernel
theorem d36 : decode yB 36 = .ok (.invokestatic 177, 3) := by decide +kernel
theorem d39 : decode yB 39 = .ok (.astore 5, 2) := by decide +kernel
theorem d41 : decode yB 41 = .ok (.aload_n 0, 1) := by decide +kernel
theorem d42 : decode yB 42 = .ok (.aload 5, 2) := by decide +kernel
theorem d44 : decode yB 44 = .ok (.iload_n 3, 1) := by decide +kernel
theorem d45 : decode yB 45 = .ok (.invokestatic 47, 3) := by decide +kernel
theorem d48 : decode yB 48 = .ok (.putfield 15, 3) := by decide +kernel
theorem d51 : decode yB 51 = .ok (.aload_n 0, 1) := by decide +kernel
theorem d52 : decode yB 52 = .ok (.aload 5, 2) := by decide +kernel
theorem d54 : decode yB 54 = .ok (.putfield 9, 3) := by decide +kernel
theorem d57 : decode yB 57 = .ok (.return_, 1) := by decide +kernel
def site : List Cond := [.fieldLink "java/lang/String" 38 "java/lang/String" "COMPACT_STRINGS" "Z", Cmp3.tab, CodL.tab, .laysFinal "java/lang/String" "java/lang/String" "value" "[B", .fieldLink "java/lang/String" 9 "java/lang/String" "value" "[B", .laysFinal "java/lang/String" "java/lang/String" "coder" "B", .fieldLink "java/lang/String" 15 "java/lang/String" "coder" "B"] ++ objW "java/lang/String" 1 ++ staticW "java/lang/String" 177 Cmp3.yN ++ staticW "java/lang/String" 47 CodL.yN
def tab : Cond := tabOf yN yB 6 none site
def P (a : Addr) (D : Cell) (fV fC : Field) (b : Addr) (A : Cell) (z : Int32) (o len : Nat) (args : Array Value) (s : State) : Prop := args = #[.ref a, .ref b, .int (Int32.ofNat o), .int (Int32.ofNat len), .null] ∧ Blank "java/lang/String" a D s ∧ Found "java/lang/String" "value" "[B" fV s ∧ Found "java/lang/String" "coder" "B" fC s ∧ Ch b A s ∧ StaticIs s "java/lang/String" "COMPACT_STRINGS" "Z" (.int z) ∧ ¬ z = 0 ∧ 0 < len ∧ o + len ≤ A.slots.size ∧ len ≤ 536870912 ∧ ∀ i, i < len → ¬ 255 < cv A (o + i)
def E (a : Addr) (D : Cell) (fV fC : Field) (A : Cell) (o len : Nat) (r : Option Value) (s u : State) : Prop := Got a D fV fC A o len r s u
/-- len > 0, no char of the range above 255: a Latin-1 String of their low bytes -/
theorem law (l : Launch) (a : Addr) (D : Cell) (fV fC : Field) (b : Addr) (A : Cell) (z : Int32) (o len : Nat) : Law l yN 5 4 2 35 yB 6 none site (P a D fV fC b A z o len) (E a D fV fC A o len) [⟨a, fC.slot⟩, ⟨a, fV.slot⟩] 1 len := by
  refine Law.of_walk (plainFor_of_name (by decide +kernel)) (by decide +kernel) (by decide +kernel) (by decide) (fun _ _ h => by rw [h.1]; rfl) (fun _ U U' hal hh h => ⟨h.1, h.2.1.mv hal hh, h.2.2.1.al hal, h.2.2.2.1.al hal, h.2.2.2.2.1.mv hal hh, h.2.2.2.2.2.1.there hal hh, h.2.2.2.2.2.2⟩) (fun r U U' V V' h1 hal h2 h => Got.mv r U U' V V' h1 hal h2 h) ?_
  intro p e s m args below meth c s₁ X0 hexec hbytes hml hret hlk hnm hown hh0 W hP
  obtain ⟨rfl, hB, f1, f2, hA, s1, hz, l0, l1, l2, hp⟩ := hP
  have a31 := hA.1.2.2.2
  have c1 : Steps p.tables e below (s₁.setTop (entryFrame m #[.ref a, .ref b, .int (Int32.ofNat o), .int (Int32.ofNat len), .null] 6)) (s₁.setTop (mkF m 0 #[.val (.ref a), .val (.ref b), .val (.int (Int32.ofNat o)), .val (.int (Int32.ofNat len)), .val .null, .unset] [])) := entry rfl
  have c2 : Steps p.tables e below (s₁.setTop (entryFrame m #[.ref a, .ref b, .int (Int32.ofNat o), .int (Int32.ofNat len), .null] 6)) (s₁.setTop (mkF m 1 #[.val (.ref a), .val (.ref b), .val (.int (Int32.ofNat o)), .val (.int (Int32.ofNat len)), .val .null, .unset] [.ref a])) := c1.trans (by
    refine XS.aloadN X0.here hexec rfl (hb hbytes d0) rfl rfl ?_
    exact Steps.refl _)
  obtain ⟨T3, X3, q3, st3⟩ := X0.oinit hexec hown (wks W (objW "java/lang/String" 1)) (g := (mkF m 1 #[.val (.ref a), .val (.ref b), .val (.int (Int32.ofNat o)), .val (.int (Int32.ofNat len)), .val .null, .unset] [.ref a])) rfl (by rw [hml]; rfl) (rest := []) rfl (hb hbytes d1) (W := 0) (by show 2 * 0 + 0 ≤ _; decide) (Nat.le_of_ble_eq_true rfl) (Nat.le_of_ble_eq_true rfl)
  have hh3 := q3.trans hh0
  have c4 : Steps p.tables e below (s₁.setTop (entryFrame m #[.ref a, .ref b, .int (Int32.ofNat o), .int (Int32.ofNat len), .null] 6)) (T3.setTop (mkF m 27 #[.val (.ref a), .val (.ref b), .val (.int (Int32.ofNat o)), .val (.int (Int32.ofNat len)), .val .null, .unset] [])) := (c2.trans (st3 _ (Steps.refl _))).trans (by
    refine XS.iloadN X3.here hexec rfl (hb hbytes d4) rfl ?_
    refine XS.ifYes X3.here hexec rfl (pc0 := 5) rfl (hb hbytes d5) rfl (i0_ne_t (nz32 (by omega) l0)) (by decide) rfl ?_
    exact Steps.refl _)
  obtain ⟨T5, X5, q5, st5⟩ := X3.sget hexec hown (wk W (.fieldLink "java/lang/String" 38 "java/lang/String" "COMPACT_STRINGS" "Z")) s1 (fun _ _ h => by rw [hh3]; exact h) (g := (mkF m 27 #[.val (.ref a), .val (.ref b), .val (.int (Int32.ofNat o)), .val (.int (Int32.ofNat len)), .val .null, .unset] [])) rfl (hb hbytes d27)
  have hh5 := q5.trans hh3
  have c6 : Steps p.tables e below (s₁.setTop (entryFrame m #[.ref a, .ref b, .int (Int32.ofNat o), .int (Int32.ofNat len), .null] 6)) (T5.setTop (mkF m 30 #[.val (.ref a), .val (.ref b), .val (.int (Int32.ofNat o)), .val (.int (Int32.ofNat len)), .val .null, .unset] [.int z])) := c4.trans (st5 _ (Steps.refl _))
  have c7 : Steps p.tables e below (s₁.setTop (entryFrame m #[.ref a, .ref b, .int (Int32.ofNat o), .int (Int32.ofNat len), .null] 6)) (T5.setTop (mkF m 36 #[.val (.ref a), .val (.ref b), .val (.int (Int32.ofNat o)), .val (.int (Int32.ofNat len)), .val .null, .unset] [.int (Int32.ofNat len), .int (Int32.ofNat o), .ref b])) := c6.trans (by
    refine XS.ifNo X5.here hexec rfl (hb hbytes d30) rfl (i0_eq_f hz) ?_
    refine XS.aloadN X5.here hexec rfl (hb hbytes d33) rfl rfl ?_
    refine XS.iloadN X5.here hexec rfl (hb hbytes d34) rfl ?_
    refine XS.iloadN X5.here hexec rfl (hb hbytes d35) rfl ?_
    exact Steps.refl _)
  obtain ⟨v8, T8, X8, E8, g8⟩ := X5.callS hexec (Cmp3.law l b A o len) hown (wks W (staticW "java/lang/String" 177 Cmp3.yN)) (wk W Cmp3.tab) (W := 0) (Nat.le_of_ble_eq_true rfl) (Nat.le_of_ble_eq_true rfl) (Nat.le_refl _) (by show 0 + len ≤ len; omega) (g := (mkF m 36 #[.val (.ref a), .val (.ref b), .val (.int (Int32.ofNat o)), .val (.int (Int32.ofNat len)), .val .null, .unset] [.int (Int32.ofNat len), .int (Int32.ofNat o), .ref b])) rfl (by rw [hml]; rfl) c7 (argsL := [.ref b, .int (Int32.ofNat o), .int (Int32.ofNat len)]) (rest := []) rfl rfl (by show 2 * 0 + 0 ≤ _; decide) (hb hbytes d36) (⟨rfl, hA.mv X5.warmed.alike hh5, l1, l2, hp⟩)
  obtain ⟨e8, z8⟩ := E8
  obtain ⟨rfl, N, n1, n2, n3, n4, n5, n6⟩ := NewArr.mv _ T5 s _ _ hh5.symm (Vm.Alike.refl _) rfl e8
  rw [hh5] at z8
  have hB1 := hB.keep X8.warmed.alike (n6 _ _ hB.1)
  have hne : s.heap.size ≠ a := (Nat.ne_of_lt (Array.getElem?_eq_some_iff.mp hB.1).1).symm
  have c9 : Steps p.tables e below (s₁.setTop (entryFrame m #[.ref a, .ref b, .int (Int32.ofNat o), .int (Int32.ofNat len), .null] 6)) (T8.setTop (mkF m 39 #[.val (.ref a), .val (.ref b), .val (.int (Int32.ofNat o)), .val (.int (Int32.ofNat len)), .val .null, .unset] [.ref s.heap.size])) := g8
  have c10 : Steps p.tables e below (s₁.setTop (entryFrame m #[.ref a, .ref b, .int (Int32.ofNat o), .int (Int32.ofNat len), .null] 6)) (T8.setTop (mkF m 45 #[.val (.ref a), .val (.ref b), .val (.int (Int32.ofNat o)), .val (.int (Int32.ofNat len)), .val .null, .val (.ref s.heap.size)] [.int (Int32.ofNat N.slots.size), .ref s.heap.size, .ref a])) := by
    have hc : Steps p.tables e below (s₁.setTop (entryFrame m #[.ref a, .ref b, .int (Int32.ofNat o), .int (Int32.ofNat len), .null] 6)) (T8.setTop (mkF m 45 #[.val (.ref a), .val (.ref b), .val (.int (Int32.ofNat o)), .val (.int (Int32.ofNat len)), .val .null, .val (.ref s.heap.size)] [.int (Int32.ofNat len), .ref s.heap.size, .ref a])) := c9.trans (by
      refine XS.astore X8.here hexec rfl (hb hbytes d39) rfl rfl rfl ?_
      refine XS.aloadN X8.here hexec rfl (hb hbytes d41) rfl rfl ?_
      refine XS.aload X8.here hexec rfl (hb hbytes d42) rfl rfl ?_
      refine XS.iloadN X8.here hexec rfl (hb hbytes d44) rfl ?_
      exact Steps.refl _)
    rw [n4]; exact hc
  obtain ⟨v11, T11, X11, E11, g11⟩ := X8.callS hexec (CodL.law l s.heap.size N) hown (wks W (staticW "java/lang/String" 47 CodL.yN)) (wk W CodL.tab) (W := 1) (Nat.le_of_ble_eq_true rfl) (Nat.le_of_ble_eq_true rfl) (Nat.le_refl _) (by show 0 + len + 0 ≤ len; omega) (g := (mkF m 45 #[.val (.ref a), .val (.ref b), .val (.int (Int32.ofNat o)), .val (.int (Int32.ofNat len)), .val .null, .val (.ref s.heap.size)] [.int (Int32.ofNat N.slots.size), .ref s.heap.size, .ref a])) rfl (by rw [hml]; rfl) c10 (argsL := [.ref s.heap.size, .int (Int32.ofNat N.slots.size)]) (rest := [.ref a]) rfl rfl (by show 2 * 0 + (1 + 0) ≤ _; decide) (hb hbytes d45) (⟨rfl, n1⟩)
  obtain ⟨rfl, q11⟩ := E11
  have hB11 := hB1.mv (X8.warmed.alike.symm.trans X11.warmed.alike) q11
  have c12 : Steps p.tables e below (s₁.setTop (entryFrame m #[.ref a, .ref b, .int (Int32.ofNat o), .int (Int32.ofNat len), .null] 6)) (T11.setTop (mkF m 48 #[.val (.ref a), .val (.ref b), .val (.int (Int32.ofNat o)), .val (.int (Int32.ofNat len)), .val .null, .val (.ref s.heap.size)] [.int 0, .ref a])) := g11
  obtain ⟨T13, X13, p13, bl13, sl13, st13⟩ := X11.finit hexec hown (wk W (.fieldLink "java/lang/String" 15 "java/lang/String" "coder" "B")) (Or.inr ⟨_, (wk W (.laysFinal "java/lang/String" "java/lang/String" "coder" "B"))⟩) (Or.inl ⟨rfl, hnm⟩) f2 (Or.inl rfl) hB11 (t := .byte) (by decide +kernel) rfl (g := (mkF m 48 #[.val (.ref a), .val (.ref b), .val (.int (Int32.ofNat o)), .val (.int (Int32.ofNat len)), .val .null, .val (.ref s.heap.size)] [.int 0, .ref a])) rfl (rest := []) rfl (hb hbytes d48)
  have c14 : Steps p.tables e below (s₁.setTop (entryFrame m #[.ref a, .ref b, .int (Int32.ofNat o), .int (Int32.ofNat len), .null] 6)) (T13.setTop (mkF m 54 #[.val (.ref a), .val (.ref b), .val (.int (Int32.ofNat o)), .val (.int (Int32.ofNat len)), .val .null, .val (.ref s.heap.size)] [.ref s.heap.size, .ref a])) := (c12.trans (st13 _ (Steps.refl _))).trans (by
    refine XS.aloadN X13.here hexec rfl (hb hbytes d51) rfl rfl ?_
    refine XS.aload X13.here hexec rfl (hb hbytes d52) rfl rfl ?_
    exact Steps.refl _)
  obtain ⟨T15, X15, p15, bl15, sl15, st15⟩ := X13.finit hexec hown (wk W (.fieldLink "java/lang/String" 9 "java/lang/String" "value" "[B")) (Or.inr ⟨_, (wk W (.laysFinal "java/lang/String" "java/lang/String" "value" "[B"))⟩) (Or.inl ⟨rfl, hnm⟩) f1 (Or.inl rfl) bl13 (t := (.array .byte)) (by decide +kernel) rfl (g := (mkF m 54 #[.val (.ref a), .val (.ref b), .val (.int (Int32.ofNat o)), .val (.int (Int32.ofNat len)), .val .null, .val (.ref s.heap.size)] [.ref s.heap.size, .ref a])) rfl (rest := []) rfl (hb hbytes d54)
  have c16 : Steps p.tables e below (s₁.setTop (entryFrame m #[.ref a, .ref b, .int (Int32.ofNat o), .int (Int32.ofNat len), .null] 6)) (T15.setTop (mkF m 57 #[.val (.ref a), .val (.ref b), .val (.int (Int32.ofNat o)), .val (.int (Int32.ofNat len)), .val .null, .val (.ref s.heap.size)] [])) := c14.trans (st15 _ (Steps.refl _))
  have ap := apart (Or.inr ⟨_, (wk W (.laysFinal "java/lang/String" "java/lang/String" "value" "[B"))⟩) (Or.inr ⟨_, (wk W (.laysFinal "java/lang/String" "java/lang/String" "coder" "B"))⟩) f1 f2 (t₁ := .array .byte) (t₂ := .byte) (by decide +kernel) (by decide +kernel) (by decide)
  have al := X8.warmed.alike.symm.trans X15.warmed.alike
  have n7 : T11.heap[s.heap.size]? = some N := by rw [q11]; exact n1.1
  exact ⟨T15, none, _, _, _, X15, by simp, rfl, by omega, (fun _ => rfl), ⟨rfl, _, N, bl15, ((Same.refl D _).set _ (by simp)).set _ (by simp), sl15, (Cell.slots_setSlot_ne _ ap).trans sl13, n1.keep al (p15.other hne (p13.other hne n7)), n2, by rw [al.findClass]; exact n3, n4, n5, fun y c h1 h2 => p15.other h1 (p13.other h1 (by rw [q11]; exact n6 y c h2)), by rw [p15.2.2, p13.2.2, q11]; exact z8⟩, fun fs hl => c16.trans (X15.returnOut hexec hret (hb hbytes d57) hl)⟩
end New4
namespace New1
def yN : MethodName := ⟨"java/lang/String", "<init>", "([C)V"⟩
abbrev yB : ByteArray := jdk_42_method_3_code
theorem d0 : decode yB 0 = .ok (.aload_n 0, 1) := by decide +kernel
theorem d1 : decode yB 1 = .ok (.aload_n 1, 1) := by decide +kernel
theorem d2 : decode yB 2 = .ok (.iconst 0, 1) := by decide +kernel
theorem d3 : decode yB 3 = .ok (.aload_n 1, 1) := by decide +kernel
theorem d4 : decode yB 4 = .ok (.arraylength, 1) := by decide +kernel
theorem d5 : decode yB 5 = .ok (.aconst_null, 1) := by decide +kernel
theorem d6 : decode yB 6 = .ok (.invokespecial 27, 3) := by decide +kernel
theorem d9 : decode yB 9 = .ok (.return_, 1) := by decide +kernel
def site : List Cond := [New4.tab] ++ initW "java/lang/String" 27 New4.yN
def tab : Cond := tabOf yN yB 2 none site
def P (a : Addr) (D : Cell) (fV fC : Field) (b : Addr) (A : Cell) (z : Int32) (args : Array Value) (s : State) : Prop := args = #[.ref a, .ref b] ∧ Blank "java/lang/String" a D s ∧ Found "java/lang/String" "value" "[B" fV s ∧ Found "java/lang/String" "coder" "B" fC s ∧ Ch b A s ∧ StaticIs s "java/lang/String" "COMPACT_STRINGS" "Z" (.int z) ∧ ¬ z = 0 ∧ 0 < A.slots.size ∧ A.slots.size ≤ 536870912 ∧ ∀ i, i < A.slots.size → ¬ 255 < cv A i
def E (a : Addr) (D : Cell) (fV fC : Field) (A : Cell) (r : Option Value) (s u : State) : Prop := Got a D fV fC A 0 A.slots.size r s u
/-- new String(chars), not empty, no char above 255: a Latin-1 String of their low bytes -/
theorem law (l : Launch) (a : Addr) (D : Cell) (fV fC : Field) (b : Addr) (A : Cell) (z : Int32) : Law l yN 2 1 3 52 yB 2 none site (P a D fV fC b A z) (E a D fV fC A) [⟨a, fC.slot⟩, ⟨a, fV.slot⟩] 1 A.slots.size := by
  refine Law.of_walk (plainFor_of_name (by decide +kernel)) (by decide +kernel) (by decide +kernel) (by decide) (fun _ _ h => by rw [h.1]; rfl) (fun _ U U' hal hh h => ⟨h.1, h.2.1.mv hal hh, h.2.2.1.al hal, h.2.2.2.1.al hal, h.2.2.2.2.1.mv hal hh, h.2.2.2.2.2.1.there hal hh, h.2.2.2.2.2.2⟩) (fun r U U' V V' h1 hal h2 h => Got.mv r U U' V V' h1 hal h2 h) ?_
  intro p e s m args below meth c s₁ X0 hexec hbytes hml hret hlk hnm hown hh0 W hP
  obtain ⟨rfl, hB, f1, f2, hA, s1, hz, l0, l2, hp⟩ := hP
  have c1 : Steps p.tables e below (s₁.setTop (entryFrame m #[.ref a, .ref b] 2)) (s₁.setTop (mkF m 0 #[.val (.ref a), .val (.ref b)] [])) := entry rfl
  have c2 : Steps p.tables e below (s₁.setTop (entryFrame m #[.ref a, .ref b] 2)) (s₁.setTop (mkF m 6 #[.val (.ref a), .val (.ref b)] [.null, .int (Int32.ofNat A.slots.size), .int 0, .ref b, .ref a])) := c1.trans (by
    refine XS.aloadN X0.here hexec rfl (hb hbytes d0) rfl rfl ?_
    refine XS.aloadN X0.here hexec rfl (hb hbytes d1) rfl rfl ?_
    refine iconstV X0.here hexec rfl 0 (hb hbytes d2) (by decide) ?_
    refine XS.aloadN X0.here hexec rfl (hb hbytes d3) rfl rfl ?_
    refine X0.alen hexec (hA.1.mv X0.warmed.alike hh0) rfl rfl (hb hbytes d4) ?_
    refine XS.aconstNull X0.here hexec rfl (hb hbytes d5) ?_
    exact Steps.refl _)
  obtain ⟨v3, T3, X3, E3, g3⟩ := X0.callN hexec (New4.law l a D fV fC b A z 0 A.slots.size) rfl hown (wks W (initW "java/lang/String" 27 New4.yN)) (W New4.tab (by simp only [site, List.mem_cons, List.mem_append, true_or, or_true])) (W := 0) (Nat.le_of_ble_eq_true rfl) (Nat.le_of_ble_eq_true rfl) (Nat.le_refl _) (by show 0 + A.slots.size ≤ A.slots.size; omega) (g := (mkF m 6 #[.val (.ref a), .val (.ref b)] [.null, .int (Int32.ofNat A.slots.size), .int (Int32.ofNat 0), .ref b, .ref a])) rfl (by rw [hml]; rfl) c2 (argsL := [.ref b, .int (Int32.ofNat 0), .int (Int32.ofNat A.slots.size), .null]) (rest := []) rfl rfl (by show 2 * 0 + 0 ≤ _; decide) (hb hbytes d6) (⟨rfl, hB.mv X0.warmed.alike hh0, f1.al X0.warmed.alike, f2.al X0.warmed.alike, hA.mv X0.warmed.alike hh0, s1.there X0.warmed.alike hh0, hz, l0, by omega, l2, fun i hi => by rw [Nat.zero_add]; exact hp i hi⟩)
  have e0 := Got.mv _ s₁ s _ _ hh0.symm (Vm.Alike.refl _) rfl E3
  obtain rfl := e0.1
  have c4 : Steps p.tables e below (s₁.setTop (entryFrame m #[.ref a, .ref b] 2)) (T3.setTop (mkF m 9 #[.val (.ref a), .val (.ref b)] [])) := g3
  exact ⟨T3, none, _, _, _, X3, by simp, rfl, by omega, (fun _ => rfl), e0, fun fs hl => c4.trans (X3.returnOut hexec hret (hb hbytes d9) hl)⟩
theorem pays {l : Launch} {R : Room} {p : Program} {e : Env} {below : List Frame} {s : State} {sargs : Array Value} {len W : Nat} (a : Addr) (D : Cell) (fV fC : Field) (b : Addr) (A : Cell) (z : Int32) (htab : tab.before sargs s = true) (hfr : 4 ≤ R.frames) (hlo : W + 65 ≤ R.locals) :
    Back l R p e below s sargs yN len W (fun A₁ a₁ => A₁.cells + 1 ≤ R.cells ∧ A₁.slots + A.slots.size ≤ R.slots ∧ P a D fV fC b A z a₁ A₁.U) (fun A₁ _ v₁ B₁ => E a D fV fC A v₁ A₁.U B₁.U ∧ B₁.locs = A₁.locs ++ [⟨a, fC.slot⟩, ⟨a, fV.slot⟩] ∧ B₁.cells = A₁.cells + 1 ∧ B₁.slots = A₁.slots + A.slots.size) :=
  (law l a D fV fC b A z).pays htab hfr (by omega)
end New1
/-- the byte, read back as charAt reads it, is the char -/
theorem lo8_mask {x : Int32} (h0 : ¬ x < 0) (h1 : ¬ 255 < x) : lo8 x &&& 255 = x := by
  have t : ∀ k : Fin 256, lo8 (Int32.ofNat k.val) &&& 255 = Int32.ofNat k.val := by decide +kernel
  rw [Int32.lt_iff_toInt_lt] at h0 h1
  have e0 : (0 : Int32).toInt = 0 := rfl
  have e1 : (255 : Int32).toInt = 255 := rfl
  obtain ⟨k, hk⟩ : ∃ k : Nat, x.toInt = k := ⟨x.toInt.toNat, by omega⟩
  have hx : x = Int32.ofNat k := Int32.toInt_inj.mp (by rw [hk, Int32.toInt_ofNat_small (by omega)])
  rw [hx]
  exact t ⟨k, by omega⟩
end StrChars
namespace StrChars.Road
open Jvm Sem ClassFile Op Lib Jvm.Stand Jvm.Free Jvm.Free.XT
open Jvm.Lib.Cold (StaticIs)
abbrev ST : String := "java/lang/String"
/-- every table word that New1's law asks, flat -/
abbrev words : List Jvm.Cond := [.code New1.yN New1.yB 2 none, .initialized ST, .methodLink ST 27 New4.yN, .instanceMethod New4.yN,
  .code New4.yN New4.yB 6 none, .fieldLink ST 38 ST "COMPACT_STRINGS" "Z", .laysFinal ST ST "value" "[B", .fieldLink ST 9 ST "value" "[B", .laysFinal ST ST "coder" "B", .fieldLink ST 15 ST "coder" "B",
  .methodLink ST 1 Lib.objectInit, .instanceMethod Lib.objectInit, .code Lib.objectInit ⟨#[0xb1]⟩ 1 none, .methodLink ST 177 Cmp3.yN, .static Cmp3.yN, .methodLink ST 47 CodL.yN, .static CodL.yN,
  .code Cmp3.yN Cmp3.yB 6 (some (.array .byte)), .initialized U16, .arrayClass .byte, .methodLink U16 115 Cmp5.yN, .static Cmp5.yN, .code Cmp5.yN Cmp5.yB 7 (some .int), .code CodL.yN CodL.yB 2 (some .byte)]
theorem tab_of {a : Array Value} {s : State} (h : ∀ w ∈ words, w.before a s = true) : New1.tab.before a s = true := by
  have h5 : Cmp5.tab.before a s = true := unparts (wk h (.code Cmp5.yN Cmp5.yB 7 (some .int))) (wks h (.initialized Cmp5.yN.cls :: Cmp5.site))
  have hc : CodL.tab.before a s = true := unparts (wk h (.code CodL.yN CodL.yB 2 (some .byte))) (wks h (.initialized CodL.yN.cls :: CodL.site))
  have q5 : ∀ w ∈ Cmp5.tab :: words, w.before a s = true := fun w hw => (List.mem_cons.mp hw).elim (fun e => e ▸ h5) (h w)
  have h3 : Cmp3.tab.before a s = true := unparts (wk q5 (.code Cmp3.yN Cmp3.yB 6 (some (.array .byte)))) (wks q5 (.initialized Cmp3.yN.cls :: Cmp3.site))
  have q3 : ∀ w ∈ Cmp3.tab :: CodL.tab :: words, w.before a s = true := fun w hw => (List.mem_cons.mp hw).elim (fun e => e ▸ h3) fun hw => (List.mem_cons.mp hw).elim (fun e => e ▸ hc) (h w)
  have h4 : New4.tab.before a s = true := unparts (wk q3 (.code New4.yN New4.yB 6 none)) (wks q3 (.initialized New4.yN.cls :: New4.site))
  have q4 : ∀ w ∈ New4.tab :: words, w.before a s = true := fun w hw => (List.mem_cons.mp hw).elim (fun e => e ▸ h4) (h w)
  exact unparts (wk q4 (.code New1.yN New1.yB 2 none)) (wks q4 (.initialized New1.yN.cls :: New1.site))
/-- the words ride from the start Z to the walk's own state -/
theorem moved {Z s : State} {a0 args : Array Value} (hZ : Z.Warmed39 s.vm) (hw : ∀ d ∈ words, d.before a0 Z = true) : ∀ d ∈ words, d.before args s = true := fun d hd => by
  have q := hw d hd
  have t : ∀ d ∈ words, d = .arrayClass .byte ∨ (d.onTables && d.keepsFace) = true := by decide +kernel
  rcases t d hd with rfl | t
  · exact RoadKit.mvA hZ q
  · exact RoadKit.mv hZ q t
/-- WHAT COMES BACK, over the tables of the start Z: h the heap at the call, h' behind it -/
def Q (Z : State) (x : Addr) (A : Cell) (h : Heap) (v : Option Value) (h' : Heap) (L : List Loc) : Prop := v = none ∧ (∀ y ∈ L, y.base = x) ∧ RoadKit.Keep h h' [x] ∧ h'.size = h.size + 1 ∧ RoadKit.Exa Z h' x ST ∧ RoadKit.Fld Z h' x ST "value" "[B" (.ref h.size) ∧ RoadKit.Fld Z h' x ST "coder" "B" (.int 0) ∧
  (∃ V : Cell, RoadKit.Arr Z h' h.size V .byte ∧ V.vm = .none ∧ Z.vm.findClass "[B" = some V.cls ∧ V.slots.size = A.slots.size ∧ ∀ j, j < A.slots.size → V.slots[j]? = some (.int (lo8 (cv A j)))) ∧
  ∀ (O n d : String) (w : Value), RoadKit.Fld Z h x O n d w → RoadKit.slotOf Z O n d ≠ RoadKit.slotOf Z ST "value" "[B" → RoadKit.slotOf Z O n d ≠ RoadKit.slotOf Z ST "coder" "B" → RoadKit.Fld Z h' x O n d w
/-- **new String(chars) AT A CALL, IN THE ROAD'S FORM**: for specialBack behind newO: x the fresh String, b the char[] with the cell A -/
theorem back {p : Program} {l : Launch} {e : Env} {R : Room} {s : State} {args : Array Value} {below : List Frame} {len W : Nat} {Z : State} {a0 : Array Value} {h : Heap} (hZ : Z.Warmed39 s.vm) (hw : ∀ d ∈ words, d.before a0 Z = true) {kI : Nat} (wi : (Jvm.Cond.instantiable ST kI).before a0 Z = true)
    {x b : Addr} {A : Cell} {z : Int32} {v0 c0 : Value} (E : RoadKit.Exa Z h x ST) (V : RoadKit.Fld Z h x ST "value" "[B" v0) (C : RoadKit.Fld Z h x ST "coder" "B" c0) (K : RoadKit.Arr Z h b A .char) (hty : Typed .char A) (S : RoadKit.Sta Z h ST "COMPACT_STRINGS" "Z" (.int z)) (hz : ¬ z = 0)
    (l0 : 0 < A.slots.size) (l2 : A.slots.size ≤ 536870912) (hp : ∀ i, i < A.slots.size → ¬ 255 < cv A i) (hfr : 4 ≤ R.frames) (hlo : W + 65 ≤ R.locals) :
    Back l R p e below s args New1.yN len W (fun P a => a = #[.ref x, .ref b] ∧ P.U.heap = h ∧ P.cells + 1 ≤ R.cells ∧ P.slots + A.slots.size ≤ R.slots)
      (fun P _ v B => ∃ L, Q Z x A h v B.U.heap L ∧ B.locs = P.locs ++ L ∧ B.cells = P.cells + 1 ∧ B.slots = P.slots + A.slots.size) := by
  intro m meth c P g ig mk a X hg hsize hdg hW hn hp'
  obtain ⟨rfl, rfl, r1, r2⟩ := hp'
  have al : Z.vm.Alike P.U.vm := hZ.alike.trans X.warmed.alike
  obtain ⟨D, cfV, kV, iV, fV, hD, gV, stV, knV, obV, asV, slV⟩ := id V
  obtain ⟨D', cfC, kC, iC, fC, hD', gC, stC, -, -, asC, slC⟩ := id C
  cases hD.symm.trans hD'
  obtain ⟨D2, kD, e1, e2, e3, e4, e5⟩ := id E
  cases hD.symm.trans e1
  obtain ⟨c2, k2, i1, i2, i3, -⟩ := Cond.instantiable_spec wi
  cases e2.symm.trans i1
  cases e3.symm.trans i2
  obtain ⟨kU, u1, u2⟩ := al.2.2 _ _ e3
  have hB : Blank ST x D P.U := ⟨hD, ⟨knV, fun q hq => by rw [hq] at obV; cases obV⟩, by rw [al.findClass]; exact e2, kU, u1, by rw [u2]; exact i3, by rw [u2]; exact e5 i3⟩
  have F1 : Found ST "value" "[B" fV P.U := ⟨SBG.found_only al ⟨cfV, kV, iV, gV⟩, stV⟩
  have F2 : Found ST "coder" "B" fC P.U := ⟨SBG.found_only al ⟨cfC, kC, iC, gC⟩, stC⟩
  have hA : Ch b A P.U := ⟨⟨K.1, State.isArrayOf_alike al K.2.1, K.2.2, by omega⟩, hty⟩
  have hS : StaticIs P.U ST "COMPACT_STRINGS" "Z" (.int z) := by
    obtain ⟨cfS, iS, kS, fS, st, cS, t1, t2, t3, t4, t5, t6, t7⟩ := S
    exact StaticIs.there (s := { Z with heap := P.U.heap }) ⟨cfS, iS, kS, fS, st, cS, t1, t2, t3, t4, t5, (fun q => by rw [q] at t6; cases t6), t7⟩ al rfl
  obtain ⟨v, B, X', ⟨⟨hv, E', V', q1, q2, q3, q4, q5, q6, q7, q8, q9, q10, q11⟩, hl, hc, hs⟩, st⟩ := New1.pays x D fV fC b A z (tab_of (moved hZ hw)) hfr hlo m meth c P g ig mk _ X hg hsize hdg hW hn ⟨r1, r2, rfl, hB, F1, F2, hA, hS, hz, l0, l2, hp⟩
  have al' : Z.vm.Alike B.U.vm := hZ.alike.trans X'.warmed.alike
  have hsz : E'.slots.size = D.slots.size := by
    obtain ⟨-, -, -, kB, w1, w2, w3⟩ := q1
    obtain ⟨kB', y1, y2⟩ := al'.2.2 _ _ e3
    rw [q2.2.1] at w1
    cases w1.symm.trans y1
    rw [w3, e5 i3, y2]
  refine ⟨v, B, X', ⟨_, ⟨hv, ?_, ⟨by omega, fun y cy hy hn' => q10 y cy (by simpa using hn') hy, fun y cy hy => ?_⟩, q11, ⟨E', _, q1.1, by rw [q2.2.1]; exact e2, by rw [q2.2.1]; exact e3, by rw [q2.1]; exact obV, fun _ => by rw [hsz]; exact e5 i3⟩,
    ⟨E', cfV, kV, iV, fV, q1.1, gV, stV, by rw [q2.1]; exact knV, by rw [q2.1]; exact obV, by rw [q2.2.1]; exact asV, q3⟩, ⟨E', cfC, kC, iC, fC, q1.1, gC, stC, by rw [q2.1]; exact knV, by rw [q2.1]; exact obV, by rw [q2.2.1]; exact asC, q4⟩,
    ⟨V', ⟨q5.1, State.isArrayOf_alike al'.symm q5.2.1, q5.2.2.1⟩, q6, by rw [← al'.findClass]; exact q7, q8, fun j hj => by have := q9 j hj; rwa [Nat.zero_add] at this⟩, fun O n d w F n1 n2 => ?_⟩, hl, hc, hs⟩, st⟩
  · intro y hy
    simp only [List.mem_cons, List.not_mem_nil, or_false] at hy
    rcases hy with rfl | rfl <;> rfl
  · by_cases q : y = x
    · subst q
      cases hD.symm.trans hy
      exact ⟨E', q1.1, q2.2.1, q2.1, hsz⟩
    · exact ⟨cy, q10 y cy q hy, rfl, rfl, rfl⟩
  · obtain ⟨D3, cf, k, i, f, g1, g2, g3, g4, g5, g6, g7⟩ := F
    cases hD.symm.trans g1
    simp only [RoadKit.slotOf, g2, gV, gC, Option.map_some, Option.getD_some] at n1 n2
    exact ⟨E', cf, k, i, f, q1.1, g2, g3, by rw [q2.1]; exact g4, by rw [q2.1]; exact g5, by rw [q2.2.1]; exact g6, by rw [q2.2.2 f.slot (by simp [n1, n2])]; exact g7⟩
end StrChars.Road
namespace StrChars.Road
open Jvm Sem ClassFile Op Lib Jvm.Stand Jvm.Free Jvm.Free.XT
/-- WHAT COMES BACK, the byte[] as a list of values -/
def QA (Z : State) (x : Addr) (zn : Int32) (cs : List Int32) (h : Heap) (v : Option Value) (h' : Heap) (L : List Loc) : Prop := v = none ∧ (∀ y ∈ L, y.base = x) ∧ RoadKit.Keep h h' [x] ∧ h'.size = h.size + 1 ∧ RoadKit.Exa Z h' x ST ∧ RoadKit.Fld Z h' x ST "value" "[B" (.ref h.size) ∧ RoadKit.Fld Z h' x ST "coder" "B" (.int 0) ∧
  (∃ kb, Z.vm.findClass "[B" = some kb ∧ RoadKit.Arv Z h' h.size kb .byte zn (cs.map fun c => .int (lo8 c)) (.int 0)) ∧
  ∀ (O n d : String) (w : Value), RoadKit.Fld Z h x O n d w → RoadKit.slotOf Z O n d ≠ RoadKit.slotOf Z ST "value" "[B" → RoadKit.slotOf Z O n d ≠ RoadKit.slotOf Z ST "coder" "B" → RoadKit.Fld Z h' x O n d w
/-- **new String(chars) AT A CALL, THE ARRAYS AS LISTS**: the char[] at b holds cs, not empty, no char above 255 -/
theorem backArv {p : Program} {l : Launch} {e : Env} {R : Room} {s : State} {args : Array Value} {below : List Frame} {len W : Nat} {Z : State} {a0 : Array Value} {h : Heap} (hZ : Z.Warmed39 s.vm) (hw : ∀ d ∈ words, d.before a0 Z = true) {kI : Nat} (wi : (Jvm.Cond.instantiable ST kI).before a0 Z = true)
    {x b : Addr} {k : ClassId} {zn z : Int32} {cs : List Int32} {dv v0 c0 : Value} (E : RoadKit.Exa Z h x ST) (V : RoadKit.Fld Z h x ST "value" "[B" v0) (C : RoadKit.Fld Z h x ST "coder" "B" c0) (K : RoadKit.Arv Z h b k .char zn (cs.map Value.int) dv) (S : RoadKit.Sta Z h ST "COMPACT_STRINGS" "Z" (.int z)) (hz : ¬ z = 0)
    (hlen : zn.toNatClampNeg = cs.length) (h0 : 0 < cs.length) (hbig : cs.length ≤ 536870912) (hall : ∀ c ∈ cs, ¬ 255 < c) (hfr : 4 ≤ R.frames) (hlo : W + 65 ≤ R.locals) :
    Back l R p e below s args New1.yN len W (fun P a => a = #[.ref x, .ref b] ∧ P.U.heap = h ∧ P.cells + 1 ≤ R.cells ∧ P.slots + cs.length ≤ R.slots)
      (fun P _ v B => ∃ L, QA Z x zn cs h v B.U.heap L ∧ B.locs = P.locs ++ L ∧ B.cells = P.cells + 1 ∧ B.slots = P.slots + cs.length) := by
  obtain ⟨A, K1, K2, K3, K4, K5, K6⟩ := K
  have e : A.slots.size = cs.length := K3.trans hlen
  have hat : ∀ (i : Nat) (hi : i < cs.length), A.slots[i]? = some (.int cs[i]) := fun i hi => by rw [K5 i (by omega)]; simp [List.getD_eq_getElem?_getD, hi]
  have hcv : ∀ (i : Nat) (hi : i < cs.length), cv A i = cs[i] := fun i hi => by unfold cv; rw [hat i hi]
  have hty : Typed .char A := fun i v hv => by
    have hi : i < A.slots.size := (Array.getElem?_eq_some_iff.mp hv).1
    have q := K5 i hi
    rw [hv] at q
    rw [Option.some.inj q]
    exact K6 i hi
  refine Back.mono (back hZ hw wi E V C K1 hty S hz (by omega) (by omega) (fun i hi => by rw [hcv i (by omega)]; exact hall _ (List.getElem_mem _)) hfr hlo) (fun P a hp => ⟨hp.1, hp.2.1, hp.2.2.1, by rw [e]; exact hp.2.2.2⟩) (fun P a v B hp hq => ?_)
  obtain ⟨L, ⟨q1, q2, q3, q4, q5, q6, q7, ⟨V', v1, v2, v3, v4, v5⟩, q9⟩, hl, hc, hs⟩ := hq
  refine ⟨L, ⟨q1, q2, q3, q4, q5, q6, q7, ⟨V'.cls, v3, V', v1, rfl, by rw [v4, e, hlen], K4, fun i hi => ?_, fun i hi => ?_⟩, q9⟩, hl, hc, by rw [hs, e]⟩
  · have hi' : i < cs.length := by omega
    rw [v5 i (by omega), hcv i hi']; simp [List.getD_eq_getElem?_getD, hi']
  · have hi' : i < cs.length := by omega
    simp only [List.getD_eq_getElem?_getD, List.getElem?_map, List.getElem?_eq_getElem hi', Option.map_some, Option.getD_some]
    exact fits_lo8 _
end StrChars.Road
namespace StrChars.Road
open Jvm Sem ClassFile Op Lib Jvm.Stand Jvm.Free Jvm.Free.XT
/-- WHAT COMES BACK, in the writer's own shape -/
def QV (Z : State) (x : Addr) (N : Int32) (bs : List Int32) (h : Heap) (n0 : Nat) (v : Option Value) (h' : Heap) (L : List Loc) : Prop := v = none ∧ RoadKit.Fr n0 L ∧ RoadKit.Keep h h' [x] ∧ RoadKit.Exa Z h' x ST ∧ RoadKit.Fld Z h' x ST "coder" "B" (.int 0) ∧
  ∃ (t : Addr) (kb : ClassId), n0 ≤ t ∧ h.size ≤ t ∧ ¬ t = x ∧ RoadKit.Fld Z h' x ST "value" "[B" (.ref t) ∧ RoadKit.Arv Z h' t kb .byte N (bs.map Value.int) (.int 0)
/-- **new String(chars) AT A CALL, FOR THE WRITER**: a char[] of n known ints, each 0 to 255 -/
theorem backV {p : Program} {l : Launch} {e : Env} {R : Room} {s : State} {args : Array Value} {below : List Frame} {len W : Nat} {Z : State} {a0 : Array Value} {h : Heap} (hZ : Z.Warmed39 s.vm) (hw : ∀ d ∈ words, d.before a0 Z = true) {kI : Nat} (wi : (Jvm.Cond.instantiable ST kI).before a0 Z = true)
    {x b : Addr} {kC : ClassId} {cs bs : List Int32} {d v0 c0 : Value} {z N : Int32} {n n0 : Nat} (hx0 : n0 ≤ x) (hh0 : n0 ≤ h.size) (E : RoadKit.Exa Z h x ST) (V : RoadKit.Fld Z h x ST "value" "[B" v0) (C : RoadKit.Fld Z h x ST "coder" "B" c0) (K : RoadKit.Arv Z h b kC .char N (cs.map Value.int) d) (S : RoadKit.Sta Z h ST "COMPACT_STRINGS" "Z" (.int z)) (hz : ¬ z = 0)
    (hn : cs.length = n) (hN : N = Int32.ofNat n) (l0 : 0 < n) (l2 : n ≤ 4000) (hp : ∀ c ∈ cs, ¬ c < 0 ∧ ¬ (255 : Int32) < c) (hb : bs = cs.map (fun c => c.toInt8.toInt32)) (hfr : 4 ≤ R.frames) (hlo : W + 65 ≤ R.locals) :
    Back l R p e below s args (⟨"java/lang/String", "<init>", "([C)V"⟩ : MethodName) len W (fun P a => a = #[.ref x, .ref b] ∧ P.U.heap = h ∧ P.cells + 1 ≤ R.cells ∧ P.slots + n ≤ R.slots)
      (fun P _ v B => ∃ L, QV Z x N bs h n0 v B.U.heap L ∧ B.locs = P.locs ++ L ∧ B.cells = P.cells + 1 ∧ B.slots = P.slots + n) := by
  subst hn hN hb
  refine Back.mono (backArv hZ hw wi E V C K S hz (n32 (by omega)) l0 (by omega) (fun c hc => (hp c hc).2) hfr hlo) (fun P a hp => hp) (fun P a v B hp hq => ?_)
  obtain ⟨L, ⟨q1, q2, q3, q4, q5, q6, q7, ⟨kb, v1, v2⟩, q9⟩, hl, hc, hs⟩ := hq
  exact ⟨L, ⟨q1, fun y hy => by rw [q2 y hy]; exact hx0, q3, q5, q7, h.size, kb, hh0, Nat.le_refl _, Nat.ne_of_gt E.lt, q6, by rw [List.map_map]; exact v2⟩, hl, hc, hs⟩
end StrChars.Road
namespace StrChars
open Jvm Sem ClassFile Op Lib Jvm.Stand Jvm.Free.XT Jvm.Free.ALB Jvm.Free.JM Jvm.Free
open Jvm.Lib.Cold (StaticIs)
def hi8 (x : Int32) : Int32 := lo8 (x >>> ((8 : Int32) &&& 31))
/-- what StringUTF16.getChar makes of two bytes -/
def pairCh (u v : Int32) : Int32 := (((u &&& 255) <<< ((0 : Int32) &&& 31)) ||| ((v &&& 255) <<< ((8 : Int32) &&& 31))).toUInt32.toUInt16.toUInt32.toInt32
theorem lo8_and (x : Int32) : (lo8 x &&& 255).toBitVec.toNat = x.toBitVec.toNat % 256 := by
  have h : (lo8 x).toBitVec = (x.toBitVec.signExtend 8).signExtend 32 := by rw [lo8, Int8.toBitVec_toInt32, Int32.toBitVec_toInt8]
  rw [Int32.toBitVec_and, BitVec.toNat_and, h]
  have e : ((x.toBitVec.signExtend 8).signExtend 32).toNat % 256 = x.toBitVec.toNat % 256 := by
    rw [BitVec.toNat_signExtend]
    have hlt := x.toBitVec.isLt
    simp only [BitVec.toNat_setWidth, BitVec.toNat_signExtend]
    split <;> split <;> omega
  rw [← e]
  exact Nat.and_two_pow_sub_one_eq_mod _ 8
theorem pair_says {c : Int32} (h0 : ¬ c < 0) (h1 : ¬ 65535 < c) : pairCh (lo8 c) (hi8 c) = c := by
  rw [Int32.lt_iff_toInt_lt] at h0 h1
  have e0 : (0 : Int32).toInt = 0 := rfl
  have e1 : (65535 : Int32).toInt = 65535 := rfl
  have hc : c.toInt = c.toBitVec.toNat := by
    have := c.toBitVec.isLt
    have e : c.toInt = c.toBitVec.toInt := rfl
    rw [e] at h0 h1
    rw [e]
    rw [BitVec.toInt_eq_toNat_cond] at h0 h1 ⊢
    split at h0 <;> split <;> omega
  have hn : c.toBitVec.toNat < 65536 := by omega
  have a1 := lo8_and c
  have a2 : (hi8 c &&& 255).toBitVec.toNat = c.toBitVec.toNat / 256 := by
    rw [hi8, lo8_and]
    have e : ((8 : Int32) &&& 31) = 8 := by decide
    rw [e, Int32.toBitVec_shiftRight]
    have e2 : ((8 : Int32).toBitVec.smod 32) = 8#32 := by decide
    rw [e2, BitVec.sshiftRight_eq', BitVec.toNat_sshiftRight_of_msb_false (by rw [BitVec.msb_eq_false_iff_two_mul_lt]; omega)]
    show c.toBitVec.toNat >>> 8 % 256 = _
    rw [Nat.shiftRight_eq_div_pow]
    omega
  unfold pairCh
  apply Int32.toBitVec_inj.mp
  apply BitVec.eq_of_toNat_eq
  have f0 : ((0 : Int32) &&& 31) = 0 := by decide
  have f8 : ((8 : Int32) &&& 31) = 8 := by decide
  rw [f0, f8]
  have g : (((lo8 c &&& 255) <<< (0 : Int32)) ||| ((hi8 c &&& 255) <<< (8 : Int32))).toBitVec.toNat = c.toBitVec.toNat := by
    rw [Int32.toBitVec_or, Int32.toBitVec_shiftLeft, Int32.toBitVec_shiftLeft]
    have s0 : ((0 : Int32).toBitVec.smod 32) = 0#32 := by decide
    have s8 : ((8 : Int32).toBitVec.smod 32) = 8#32 := by decide
    rw [s0, s8, BitVec.toNat_or]
    simp only [BitVec.shiftLeft_eq', BitVec.toNat_shiftLeft, a1, a2]
    show (c.toBitVec.toNat % 256) <<< 0 % 2 ^ 32 ||| (c.toBitVec.toNat / 256) <<< 8 % 2 ^ 32 = _
    rw [Nat.shiftLeft_zero, Nat.mod_eq_of_lt (show c.toBitVec.toNat % 256 < 2 ^ 32 by omega), Nat.mod_eq_of_lt (show (c.toBitVec.toNat / 256) <<< 8 < 2 ^ 32 by rw [Nat.shiftLeft_eq]; omega), Nat.or_comm, ← Nat.shiftLeft_add_eq_or_of_lt (by omega), Nat.shiftLeft_eq]
    omega
  show BitVec.toNat (((((lo8 c &&& 255) <<< (0 : Int32)) ||| ((hi8 c &&& 255) <<< (8 : Int32))).toBitVec.setWidth 16).setWidth 32) = _
  rw [BitVec.toNat_setWidth, BitVec.toNat_setWidth, g]
  omega
end StrChars
namespace StrChars
open Jvm Sem ClassFile Op Lib Jvm.Stand Jvm.Free.XT Jvm.Free.ALB Jvm.Free.JM Jvm.Free
open Jvm.Lib.Cold (StaticIs)
/-- the array's cell V codes the n chars f 0 .. f (n - 1) by the coder cd, as the JDK does: coder 1 just where some char is above 255 -/
def Cod (cd : Int32) (n : Nat) (f : Nat → Int32) (V : Cell) : Prop := (cd = 0 ∧ V.slots.size = n ∧ ∀ j, j < n → V.slots[j]? = some (.int (lo8 (f j))) ∧ ¬ 255 < f j) ∨ (cd = 1 ∧ V.slots.size = 2 * n ∧ (∀ j, j < n → V.slots[2 * j]? = some (.int (lo8 (f j))) ∧ V.slots[2 * j + 1]? = some (.int (hi8 (f j)))) ∧ ∃ j, j < n ∧ 255 < f j)
/-- **x is a String of the n chars f 0 .. f (n - 1)**, Latin-1 or UTF-16; its array at t has the cell V -/
def Txt (x t : Addr) (V : Cell) (cd : Int32) (n : Nat) (f : Nat → Int32) (U : State) : Prop := Exact "java/lang/String" x U ∧ Has x "java/lang/String" "value" "[B" (.ref t) U ∧ Has x "java/lang/String" "coder" "B" (.int cd) U ∧ XT.Arr .byte t V U ∧ Cod cd n f V ∧ ∀ j, j < n → ¬ f j < 0 ∧ ¬ 65535 < f j
theorem Txt.mv {x t : Addr} {V : Cell} {cd : Int32} {n : Nat} {f : Nat → Int32} {U U' : State} (h : Txt x t V cd n f U) (hal : U.vm.Alike U'.vm) (hh : U'.heap = U.heap) : Txt x t V cd n f U' := ⟨h.1.mv hal hh, h.2.1.mv hal hh, h.2.2.1.mv hal hh, h.2.2.2.1.mv hal hh, h.2.2.2.2⟩
end StrChars
namespace StrChars.Road
open Jvm Sem ClassFile Op Lib Jvm.Stand Jvm.Free Jvm.Free.XT
open Jvm.Lib.Cold (StaticIs)
theorem consq {a : Array Value} {s : State} {c : Jvm.Cond} {L : List Jvm.Cond} (h0 : c.before a s = true) (h : ∀ w ∈ L, w.before a s = true) : ∀ w ∈ c :: L, w.before a s = true := fun w hw => (List.mem_cons.mp hw).elim (fun e => e ▸ h0) (h w)
/-- the bytes of the chars cs, low before high -/
def wideBytes : List Int32 → List Value
  | [] => []
  | c :: cs => .int (lo8 c) :: .int (hi8 c) :: wideBytes cs
theorem wide_lo (d : Value) : ∀ (cs : List Int32) (j : Nat), j < cs.length → (wideBytes cs).getD (2 * j) d = .int (lo8 (cs.getD j 0))
  | [], j, h => absurd h (Nat.not_lt_zero j)
  | c :: cs, 0, _ => rfl
  | c :: cs, j + 1, h => by
    have q := wide_lo d cs j (by simpa using h)
    rw [show 2 * (j + 1) = 2 * j + 1 + 1 from by omega]
    simpa [wideBytes] using q
theorem wide_hi (d : Value) : ∀ (cs : List Int32) (j : Nat), j < cs.length → (wideBytes cs).getD (2 * j + 1) d = .int (hi8 (cs.getD j 0))
  | [], j, h => absurd h (Nat.not_lt_zero j)
  | c :: cs, 0, _ => rfl
  | c :: cs, j + 1, h => by
    have q := wide_hi d cs j (by simpa using h)
    rw [show 2 * (j + 1) + 1 = 2 * j + 1 + 1 + 1 from by omega]
    simpa [wideBytes] using q
theorem low_at (d : Value) (cs : List Int32) (j : Nat) (h : j < cs.length) : (cs.map fun c => Value.int (lo8 c)).getD j d = .int (lo8 (cs.getD j 0)) := by
  simp [List.getD_eq_getElem?_getD, h]
/-- an array of N2 bytes vs codes the chars cs by the coder cd -/
def CodA (cs : List Int32) (cd N2 : Int32) (vs : List Value) : Prop := (cd = 0 ∧ N2 = Int32.ofNat cs.length ∧ vs = (cs.map fun c => Value.int (lo8 c)) ∧ ∀ c ∈ cs, ¬ 255 < c) ∨ (cd = 1 ∧ N2 = Int32.ofNat (2 * cs.length) ∧ vs = wideBytes cs ∧ ∃ c ∈ cs, 255 < c)
theorem CodA.cod {cs : List Int32} {cd N2 : Int32} {vs : List Value} {V : Cell} (h : CodA cs cd N2 vs) (hn : 2 * cs.length < 2 ^ 31) (hs : V.slots.size = N2.toNatClampNeg) (hv : RoadKit.Has V vs (.int 0)) : Cod cd cs.length (fun j => cs.getD j 0) V := by
  rcases h with ⟨rfl, rfl, rfl, h⟩ | ⟨rfl, rfl, rfl, c, hc, hw⟩
  · rw [n32 (by omega)] at hs
    exact Or.inl ⟨rfl, hs, fun j hj => ⟨by rw [hv j (by omega), low_at _ _ _ hj], by
      have e : cs.getD j 0 = cs[j] := by simp [List.getD_eq_getElem?_getD, hj]
      show ¬ 255 < cs.getD j 0
      rw [e]; exact h _ (List.getElem_mem _)⟩⟩
  · rw [n32 (by omega)] at hs
    obtain ⟨j, hj, rfl⟩ := List.getElem_of_mem hc
    exact Or.inr ⟨rfl, hs, fun j hj => ⟨by rw [hv _ (by omega), wide_lo _ _ _ hj], by rw [hv _ (by omega), wide_hi _ _ _ hj]⟩, j, hj, by
      have e : cs.getD j 0 = cs[j] := by simp [List.getD_eq_getElem?_getD, hj]
      show 255 < cs.getD j 0
      rw [e]; exact hw⟩
/-- an object of exactly java/lang/String, its two fields found: as the laws ask it -/
theorem strObj {Z U : State} {a0 : Array Value} {kI : Nat} (wi : (Jvm.Cond.instantiable ST kI).before a0 Z = true) (al : Z.vm.Alike U.vm) {x : Addr} {v0 c0 : Value} (E : RoadKit.Exa Z U.heap x ST) (V : RoadKit.Fld Z U.heap x ST "value" "[B" v0) (C : RoadKit.Fld Z U.heap x ST "coder" "B" c0) :
    ∃ (D : Cell) (fV fC : Field), Blank ST x D U ∧ Found ST "value" "[B" fV U ∧ Found ST "coder" "B" fC U ∧ D.slots[fV.slot]? = some v0 ∧ D.slots[fC.slot]? = some c0 ∧ RoadKit.slotOf Z ST "value" "[B" = fV.slot ∧ RoadKit.slotOf Z ST "coder" "B" = fC.slot := by
  obtain ⟨D, cfV, kV, iV, fV, hD, gV, stV, knV, obV, asV, slV⟩ := V
  obtain ⟨D', cfC, kC, iC, fC, hD', gC, stC, -, -, asC, slC⟩ := C
  cases hD.symm.trans hD'
  obtain ⟨D2, kD, e1, e2, e3, e4, e5⟩ := E
  cases hD.symm.trans e1
  obtain ⟨c2, k2, i1, i2, i3, -⟩ := Cond.instantiable_spec wi
  cases e2.symm.trans i1
  cases e3.symm.trans i2
  obtain ⟨kU, u1, u2⟩ := al.2.2 _ _ e3
  exact ⟨D, fV, fC, ⟨hD, ⟨knV, fun q hq => by rw [hq] at obV; cases obV⟩, by rw [al.findClass]; exact e2, kU, u1, by rw [u2]; exact i3, by rw [u2]; exact e5 i3⟩, ⟨SBG.found_only al ⟨cfV, kV, iV, gV⟩, stV⟩, ⟨SBG.found_only al ⟨cfC, kC, iC, gC⟩, stC⟩, slV, slC, by simp [RoadKit.slotOf, gV], by simp [RoadKit.slotOf, gC]⟩
theorem sta_is {Z U : State} (al : Z.vm.Alike U.vm) {C n d : String} {v : Value} (S : RoadKit.Sta Z U.heap C n d v) : StaticIs U C n d v := by
  obtain ⟨cfS, iS, kS, fS, st, cS, t1, t2, t3, t4, t5, t6, t7⟩ := S
  exact StaticIs.there (s := { Z with heap := U.heap }) ⟨cfS, iS, kS, fS, st, cS, t1, t2, t3, t4, t5, (fun q => by rw [q] at t6; cases t6), t7⟩ al rfl
end StrChars.Road
namespace StrChars
open Jvm Sem ClassFile Op Lib Jvm.Stand Jvm.Free.XT Jvm.Free.ALB Jvm.Free.JM Jvm.Free
open Jvm.Lib.Cold (StaticIs)
/-- what place i of a byte[]'s cell holds -/
def yv (A : Cell) (i : Nat) : Int32 := match A.slots[i]? with | some (.int x) => x | _ => 0
theorem yv_get {a : Addr} {A : Cell} {U : State} (h : XT.Arr .byte a A U) (ht : Typed .byte A) {i : Nat} (hi : i < A.slots.size) : A.slots[i]? = some (.int (yv A i)) := by
  have e := Array.getElem?_eq_getElem hi
  have f := ht i _ e
  unfold yv; rw [e]
  generalize A.slots[i] = v at f
  cases v <;> simp [fits] at f ⊢
/-- the two arrays are equal, place for place -/
def EqC (A B : Cell) : Prop := A.slots.size = B.slots.size ∧ ∀ i, i < A.slots.size → yv A i = yv B i
/-- a boolean that says whether p -/
def Says01 (q : Prop) (r : Option Value) (s u : State) : Prop := ∃ v : Int32, r = some (.int v) ∧ u.heap = s.heap ∧ ((v = 1 ∧ q) ∨ (v = 0 ∧ ¬ q))
theorem Says01.mv {q : Prop} : ∀ r (U U' V V' : State), U'.heap = U.heap → V.vm.Alike V'.vm → V'.heap = V.heap → Says01 q r U V → Says01 q r U' V' :=
  fun r U U' V V' h1 _ h2 ⟨v, a, b, c⟩ => ⟨v, a, by rw [h1, h2]; exact b, c⟩
namespace LEq
def yN : MethodName := ⟨"java/lang/StringLatin1", "equals", "([B[B)Z"⟩
abbrev yB : ByteArray := jdk_43_method_13_code
theorem d0 : decode yB 0 = .ok (.aload_n 0, 1) := by decide +kernel
theorem d1 : decode yB 1 = .ok (.arraylength, 1) := by decide +kernel
theorem d2 : decode yB 2 = .ok (.aload_n 1, 1) := by decide +kernel
theorem d3 : decode yB 3 = .ok (.arraylength, 1) := by decide +kernel
theorem d4 : decode yB 4 = .ok (.if_icmp (.ne) 30, 3) := by decide +kernel
theorem d7 : decode yB 7 = .ok (.iconst 0, 1) := by decide +kernel
theorem d8 : decode yB 8 = .ok (.istore_n 2, 1) := by decide +kernel
theorem d9 : decode yB 9 = .ok (.iload_n 2, 1) := by decide +kernel
theorem d10 : decode yB 10 = .ok (.aload_n 0, 1) := by decide +kernel
theorem d11 : decode yB 11 = .ok (.arraylength, 1) := by decide +kernel
theorem d12 : decode yB 12 = .ok (.if_icmp (.ge) 20, 3) := by decide +kernel
theorem d15 : decode yB 15 = .ok (.aload_n 0, 1) := by decide +kernel
theorem d16 : decode yB 16 = .ok (.iload_n 2, 1) := by decide +kernel
theorem d17 : decode yB 17 = .ok (.baload, 1) := by decide +kernel
theorem d18 : decode yB 18 = .ok (.aload_n 1, 1) := by decide +kernel
theorem d19 : decode yB 19 = .ok (.iload_n 2, 1) := by decide +kernel
theorem d20 : decode yB 20 = .ok (.baload, 1) := by decide +kernel
theorem d21 : decode yB 21 = .ok (.if_icmp (.eq) 5, 3) := by decide +kernel
theorem d24 : decode yB 24 = .ok (.iconst 0, 1) := by decide +kernel
theorem d25 : decode yB 25 = .ok (.ireturn, 1) := by decide +kernel
theorem d26 : decode yB 26 = .ok (.iinc 2 1, 3) := by decide +kernel
theorem d29 : decode yB 29 = .ok (.goto (-20), 3) := by decide +kernel
theorem d32 : decode yB 32 = .ok (.iconst 1, 1) := by decide +kernel
theorem d33 : decode yB 33 = .ok (.ireturn, 1) := by decide +kernel
theorem d34 : decode yB 34 = .ok (.iconst 0, 1) := by decide +kernel
theorem d35 : decode yB 35 = .ok (.ireturn, 1) := by decide +kernel
def site : List Cond := []
def tab : Cond := tabOf yN yB 3 (some .boolean) site
def P (a : Addr) (A : Cell) (b : Addr) (B : Cell) (args : Array Value) (s : State) : Prop := args = #[.ref a, .ref b] ∧ XT.Arr .byte a A s ∧ Typed .byte A ∧ XT.Arr .byte b B s ∧ Typed .byte B
/-- whether two byte[] are equal, place for place -/
theorem law (l : Launch) (a : Addr) (A : Cell) (b : Addr) (B : Cell) : Law l yN 2 2 0 0 yB 3 (some .boolean) site (P a A b B) (Says01 (EqC A B)) [] 0 0 := by
  refine Law.of_walk (plainFor_of_name (by decide +kernel)) (by decide +kernel) (by decide +kernel) (by decide) (fun _ _ h => by rw [h.1]; rfl) (fun _ U U' hal hh h => ⟨h.1, h.2.1.mv hal hh, h.2.2.1, h.2.2.2.1.mv hal hh, h.2.2.2.2⟩) (fun r U U' V V' h1 hal h2 h => Says01.mv r U U' V V' h1 hal h2 h) ?_
  intro p e s m args below meth c s₁ X0 hexec hbytes hml hret hlk hnm hown hh0 W hP
  obtain ⟨rfl, hA, tA, hB, tB⟩ := hP
  have a31 := hA.2.2.2
  have b31 := hB.2.2.2
  have hA0 := hA.mv X0.warmed.alike hh0
  have hB0 := hB.mv X0.warmed.alike hh0
  have c1 : Steps p.tables e below (s₁.setTop (entryFrame m #[.ref a, .ref b] 3)) (s₁.setTop (mkF m 0 #[.val (.ref a), .val (.ref b), .unset] [])) := entry rfl
  have c2 : Steps p.tables e below (s₁.setTop (entryFrame m #[.ref a, .ref b] 3)) (s₁.setTop (mkF m 4 #[.val (.ref a), .val (.ref b), .unset] [.int (Int32.ofNat B.slots.size), .int (Int32.ofNat A.slots.size)])) := c1.trans (by
    refine XS.aloadN X0.here hexec rfl (hb hbytes d0) rfl rfl ?_
    refine X0.alen hexec hA0 rfl rfl (hb hbytes d1) ?_
    refine XS.aloadN X0.here hexec rfl (hb hbytes d2) rfl rfl ?_
    refine X0.alen hexec hB0 rfl rfl (hb hbytes d3) ?_
    exact Steps.refl _)
  by_cases hs : A.slots.size = B.slots.size
  · have c3 : Steps p.tables e below (s₁.setTop (entryFrame m #[.ref a, .ref b] 3)) (s₁.setTop (mkF m 9 #[.val (.ref a), .val (.ref b), .val (.int 0)] [])) := c2.trans (by
      refine XS.icmpNo X0.here hexec rfl (hb hbytes d4) rfl (ii_ne_f (by rw [hs])) ?_
      refine iconstV X0.here hexec rfl 0 (hb hbytes d7) (by decide) ?_
      refine XS.istoreN X0.here hexec rfl (hb hbytes d8) rfl rfl ?_
      exact Steps.refl _)
    have loop : ∀ (r i : Nat), i + r = A.slots.size → (∀ j, j < i → yv A j = yv B j) → Steps p.tables e below (s₁.setTop (entryFrame m #[.ref a, .ref b] 3)) (s₁.setTop (mkF m 9 #[.val (.ref a), .val (.ref b), .val (.int (Int32.ofNat i))] [])) → ∃ (pc : Nat) (Ls : Array Slot) (v : Int32), (pc = 25 ∨ pc = 33) ∧ ((v = 1 ∧ EqC A B) ∨ (v = 0 ∧ ¬ EqC A B)) ∧ Steps p.tables e below (s₁.setTop (entryFrame m #[.ref a, .ref b] 3)) (s₁.setTop (mkF m pc Ls [.int v])) := by
      intro r
      induction r with
      | zero =>
        intro i hi he cl
        exact ⟨33, _, 1, Or.inr rfl, Or.inl ⟨rfl, hs, fun j hj => he j (by omega)⟩, cl.trans (by
          refine XS.iloadN X0.here hexec rfl (hb hbytes d9) rfl ?_
          refine XS.aloadN X0.here hexec rfl (hb hbytes d10) rfl rfl ?_
          refine X0.alen hexec hA0 rfl rfl (hb hbytes d11) ?_
          refine XS.icmpYes X0.here hexec rfl (pc0 := 12) rfl (hb hbytes d12) rfl (ii_ge_t (nlt32 (by omega) (by omega))) (by decide) rfl ?_
          refine iconstV X0.here hexec rfl 1 (hb hbytes d32) (by decide) ?_
          exact Steps.refl _)⟩
      | succ r ih =>
        intro i hi he cl
        have c4 : Steps p.tables e below (s₁.setTop (entryFrame m #[.ref a, .ref b] 3)) (s₁.setTop (mkF m 21 #[.val (.ref a), .val (.ref b), .val (.int (Int32.ofNat i))] [.int (yv B i), .int (yv A i)])) := cl.trans (by
          refine XS.iloadN X0.here hexec rfl (hb hbytes d9) rfl ?_
          refine XS.aloadN X0.here hexec rfl (hb hbytes d10) rfl rfl ?_
          refine X0.alen hexec hA0 rfl rfl (hb hbytes d11) ?_
          refine XS.icmpNo X0.here hexec rfl (hb hbytes d12) rfl (ii_ge_f (lt32 (by omega) (by omega))) ?_
          refine XS.aloadN X0.here hexec rfl (hb hbytes d15) rfl rfl ?_
          refine XS.iloadN X0.here hexec rfl (hb hbytes d16) rfl ?_
          refine X0.aget hexec hA0 rfl (yv_get hA tA (i := i) (by omega)) rfl rfl (hb hbytes d17) ?_
          refine XS.aloadN X0.here hexec rfl (hb hbytes d18) rfl rfl ?_
          refine XS.iloadN X0.here hexec rfl (hb hbytes d19) rfl ?_
          refine X0.aget hexec hB0 rfl (yv_get hB tB (i := i) (by omega)) rfl rfl (hb hbytes d20) ?_
          exact Steps.refl _)
        by_cases hv : yv A i = yv B i
        · have c5 : Steps p.tables e below (s₁.setTop (entryFrame m #[.ref a, .ref b] 3)) (s₁.setTop (mkF m 9 #[.val (.ref a), .val (.ref b), .val (.int (Int32.ofNat i + 1))] [])) := c4.trans (by
            refine XS.icmpYes X0.here hexec rfl (pc0 := 21) rfl (hb hbytes d21) rfl (ii_eq_t hv) (by decide) rfl ?_
            refine iincV X0.here hexec rfl 1 (hb hbytes d26) (by decide) rfl rfl ?_
            refine XS.goto X0.here hexec rfl (pc0 := 29) rfl (hb hbytes d29) (by decide) rfl ?_
            exact Steps.refl _)
          rw [succ32] at c5
          exact ih (i + 1) (by omega) (fun j hj => by
            by_cases e : j = i
            · rw [e]; exact hv
            · exact he j (by omega)) c5
        · exact ⟨25, _, 0, Or.inl rfl, Or.inr ⟨rfl, fun q => hv (q.2 i (by omega))⟩, c4.trans (by
            refine XS.icmpNo X0.here hexec rfl (hb hbytes d21) rfl (ii_eq_f hv) ?_
            refine iconstV X0.here hexec rfl 0 (hb hbytes d24) (by decide) ?_
            exact Steps.refl _)⟩
    obtain ⟨pc, Ls, v, hpc, hv, cz⟩ := loop A.slots.size 0 (by omega) (fun j hj => absurd hj (Nat.not_lt_zero j)) c3
    have nv : narrow .boolean (.int v) = .int v := by rcases hv with ⟨rfl, -⟩ | ⟨rfl, -⟩ <;> rfl
    rcases hpc with rfl | rfl
    · exact ⟨s₁, some (.int v), _, _, _, X0, rfl, rfl, rfl, (fun h => by cases h), ⟨v, rfl, hh0, hv⟩, fun fs hl => cz.trans (X0.ireturnOut hexec hret nv (Or.inr (Or.inl rfl)) (hb hbytes d25) hl)⟩
    · exact ⟨s₁, some (.int v), _, _, _, X0, rfl, rfl, rfl, (fun h => by cases h), ⟨v, rfl, hh0, hv⟩, fun fs hl => cz.trans (X0.ireturnOut hexec hret nv (Or.inr (Or.inl rfl)) (hb hbytes d33) hl)⟩
  · have c3 : Steps p.tables e below (s₁.setTop (entryFrame m #[.ref a, .ref b] 3)) (s₁.setTop (mkF m 35 #[.val (.ref a), .val (.ref b), .unset] [.int 0])) := c2.trans (by
      refine XS.icmpYes X0.here hexec rfl (pc0 := 4) rfl (hb hbytes d4) rfl (ii_ne_t (ne32 a31 b31 hs)) (by decide) rfl ?_
      refine iconstV X0.here hexec rfl 0 (hb hbytes d34) (by decide) ?_
      exact Steps.refl _)
    exact ⟨s₁, some (.int 0), _, _, _, X0, rfl, rfl, rfl, (fun h => by cases h), ⟨0, rfl, hh0, Or.inr ⟨rfl, fun q => hs q.1⟩⟩, fun fs hl => c3.trans (X0.ireturnOut hexec hret rfl (Or.inr (Or.inl rfl)) (hb hbytes d35) hl)⟩
end LEq
theorem Cod.ty {cd : Int32} {n : Nat} {f : Nat → Int32} {V : Cell} (h : Cod cd n f V) : Typed .byte V := fun i v hv => by
  have hi : i < V.slots.size := (Array.getElem?_eq_some_iff.mp hv).1
  rcases h with ⟨-, k1, k2⟩ | ⟨-, k1, k2, -⟩
  · rw [(k2 i (by omega)).1] at hv; cases hv; exact fits_lo8 _
  · rcases Nat.mod_two_eq_zero_or_one i with e | e
    · obtain ⟨j, rfl⟩ : ∃ j, i = 2 * j := ⟨i / 2, by omega⟩
      rw [(k2 j (by omega)).1] at hv; cases hv; exact fits_lo8 _
    · obtain ⟨j, rfl⟩ : ∃ j, i = 2 * j + 1 := ⟨i / 2, by omega⟩
      rw [(k2 j (by omega)).2] at hv; cases hv; exact fits_lo8 _
/-- the same text -/
def SameT (n : Nat) (f : Nat → Int32) (k : Nat) (g : Nat → Int32) : Prop := n = k ∧ ∀ j, j < n → f j = g j
theorem lo8_inj {x y : Int32} (h0 : ¬ x < 0) (h1 : ¬ 255 < x) (k0 : ¬ y < 0) (k1 : ¬ 255 < y) (h : lo8 x = lo8 y) : x = y := by
  rw [← lo8_mask h0 h1, ← lo8_mask k0 k1, h]
/-- arrays coded by one coder are equal just where the texts are -/
theorem Cod.eqv {cd : Int32} {n k : Nat} {f g : Nat → Int32} {V V' : Cell} (h : Cod cd n f V) (h' : Cod cd k g V') (hf : ∀ j, j < n → ¬ f j < 0 ∧ ¬ 65535 < f j) (hg : ∀ j, j < k → ¬ g j < 0 ∧ ¬ 65535 < g j) : EqC V V' ↔ SameT n f k g := by
  have yvv : ∀ {W : Cell} {i : Nat} {x : Int32}, W.slots[i]? = some (.int x) → yv W i = x := fun q => by unfold yv; rw [q]
  rcases h with ⟨rfl, k1, k2⟩ | ⟨rfl, k1, k2, -⟩
  · rcases h' with ⟨-, m1, m2⟩ | ⟨e, -⟩
    · constructor
      · rintro ⟨e1, e2⟩
        refine ⟨by omega, fun j hj => ?_⟩
        have q := e2 j (by omega)
        rw [yvv (k2 j hj).1, yvv (m2 j (by omega)).1] at q
        exact lo8_inj (hf j hj).1 (k2 j hj).2 (hg j (by omega)).1 (m2 j (by omega)).2 q
      · rintro ⟨rfl, e2⟩
        refine ⟨by omega, fun j hj => ?_⟩
        rw [yvv (k2 j (by omega)).1, yvv (m2 j (by omega)).1, e2 j (by omega)]
    · exact absurd e (by decide)
  · rcases h' with ⟨e, -⟩ | ⟨-, m1, m2, -⟩
    · exact absurd e (by decide)
    · constructor
      · rintro ⟨e1, e2⟩
        refine ⟨by omega, fun j hj => ?_⟩
        have q1 := e2 (2 * j) (by omega)
        have q2 := e2 (2 * j + 1) (by omega)
        rw [yvv (k2 j hj).1, yvv (m2 j (by omega)).1] at q1
        rw [yvv (k2 j hj).2, yvv (m2 j (by omega)).2] at q2
        rw [← pair_says (hf j hj).1 (hf j hj).2, ← pair_says (hg j (by omega)).1 (hg j (by omega)).2, q1, q2]
      · rintro ⟨rfl, e2⟩
        refine ⟨by omega, fun i hi => ?_⟩
        rcases Nat.mod_two_eq_zero_or_one i with e | e
        · obtain ⟨j, rfl⟩ : ∃ j, i = 2 * j := ⟨i / 2, by omega⟩
          rw [yvv (k2 j (by omega)).1, yvv (m2 j (by omega)).1, e2 j (by omega)]
        · obtain ⟨j, rfl⟩ : ∃ j, i = 2 * j + 1 := ⟨i / 2, by omega⟩
          rw [yvv (k2 j (by omega)).2, yvv (m2 j (by omega)).2, e2 j (by omega)]
/-- two codings differ: so do the texts -/
theorem Cod.dif {cd cd' : Int32} {n k : Nat} {f g : Nat → Int32} {V V' : Cell} (h : Cod cd n f V) (h' : Cod cd' k g V') (hne : ¬ cd = cd') : ¬ SameT n f k g := by
  rintro ⟨rfl, e⟩
  rcases h with ⟨rfl, -, k2⟩ | ⟨rfl, -, -, j, hj, hw⟩
  · rcases h' with ⟨rfl, -⟩ | ⟨-, -, -, j, hj, hw⟩
    · exact hne rfl
    · exact (k2 j hj).2 (by rw [e j hj]; exact hw)
  · rcases h' with ⟨-, -, m2⟩ | ⟨rfl, -⟩
    · exact (m2 j hj).2 (by rw [← e j hj]; exact hw)
    · exact hne rfl
/-- an object of exactly C is an instance of C -/
theorem cinst {p : Program} {l : Launch} {e : Env} {R : Room} {s : State} {m : MethodId} {args : Array Value} {below : List Frame} {meth : Method} {c : Code} {T : State} {locs : List Loc} {cells slots : Nat} (X : Stand p l e R s m args below meth c T locs cells slots) (hexec : p.tables.exec = Jvm.exec) {own C : String} {index : Nat} (hown : s.vm.findClass own = some m.cls) (hlink : (Cond.classLink own index C).before args s = true) {a : Addr} (hE : Exact C a T)
    {g : JFrame} (hg : g.method = m) {rest : List Value} (hstack : g.stack = .ref a :: rest) (hdg : decode c.code g.pc = .ok (.instanceof index, 3)) :
    ∃ T', Stand p l e R s m args below meth c T' locs cells slots ∧ T'.heap = T.heap ∧ ∀ target, Steps p.tables e below (T'.setTop { g with pc := g.pc + 3, stack := .int 1 :: rest }) target → Steps p.tables e below (T.setTop g) target := by
  obtain ⟨cB, h1, D, h2, h3, h4⟩ := hE
  have h1' : s.vm.findClass C = some cB := by rw [← X.warmed.alike.findClass]; exact h1
  obtain ⟨vm', X', st⟩ := X.instanceofYes hexec hown hlink h2 h4 h1' (by rw [h3]; exact Jvm.Free.SB.assignable_self _ _) hg hstack hdg
  exact ⟨_, X', rfl, st⟩
theorem cself {p : Program} {l : Launch} {e : Env} {R : Room} {s : State} {m : MethodId} {args : Array Value} {below : List Frame} {meth : Method} {c : Code} {T : State} {locs : List Loc} {cells slots : Nat} (X : Stand p l e R s m args below meth c T locs cells slots) (hexec : p.tables.exec = Jvm.exec) {own C : String} {index : Nat} (hown : s.vm.findClass own = some m.cls) (hlink : (Cond.classLink own index C).before args s = true) {a : Addr} (hE : Exact C a T)
    {g : JFrame} (hg : g.method = m) {rest : List Value} (hstack : g.stack = .ref a :: rest) (hdg : decode c.code g.pc = .ok (.checkcast index, 3)) :
    ∃ T', Stand p l e R s m args below meth c T' locs cells slots ∧ T'.heap = T.heap ∧ ∀ target, Steps p.tables e below (T'.setTop { g with pc := g.pc + 3, stack := .ref a :: rest }) target → Steps p.tables e below (T.setTop g) target := by
  obtain ⟨cB, h1, D, h2, h3, h4⟩ := hE
  have h1' : s.vm.findClass C = some cB := by rw [← X.warmed.alike.findClass]; exact h1
  obtain ⟨vm', X', st⟩ := X.checkcastYes hexec hown hlink h2 h4 h1' (by rw [h3]; exact Jvm.Free.SB.assignable_self _ _) hg hstack hdg
  exact ⟨_, X', rfl, fun t h => st t (by rw [← hstack] at h; exact h)⟩
namespace SEq
def yN : MethodName := ⟨"java/lang/String", "equals", "(Ljava/lang/Object;)Z"⟩
abbrev yB : ByteArray := jdk_42_method_66_code
theorem d0 : decode yB 0 = .ok (.aload_n 0, 1) := by decide +kernel
theorem d1 : decode yB 1 = .ok (.aload_n 1, 1) := by decide +kernel
theorem d2 : decode yB 2 = .ok (.if_acmp (.ne) 5, 3) := by decide +kernel
theorem d5 : decode yB 5 = .ok (.iconst 1, 1) := by decide +kernel
theorem d6 : decode yB 6 = .ok (.ireturn, 1) := by decide +kernel
theorem d7 : decode yB 7 = .ok (.aload_n 1, 1) := by decide +kernel
theorem d8 : decode yB 8 = .ok (.instanceof 10, 3) := by decide +kernel
theorem d11 : decode yB 11 = .ok (.ifCond (.eq) 43, 3) := by decide +kernel
theorem d14 : decode yB 14 = .ok (.aload_n 1, 1) := by decide +kernel
theorem d15 : decode yB 15 = .ok (.checkcast 10, 3) := by decide +kernel
theorem d18 : decode yB 18 = .ok (.astore_n 2, 1) := by decide +kernel
theorem d19 : decode yB 19 = .ok (.getstatic 38, 3) := by decide +kernel
theorem d22 : decode yB 22 = .ok (.ifCond (.eq) 14, 3) := by decide +kernel
theorem d25 : decode yB 25 = .ok (.aload_n 0, 1) := by decide +kernel
theorem d26 : decode yB 26 = .ok (.getfield 15, 3) := by decide +kernel
theorem d29 : decode yB 29 = .ok (.aload_n 2, 1) := by decide +kernel
theorem d30 : decode yB 30 = .ok (.getfield 15, 3) := by decide +kernel
theorem d33 : decode yB 33 = .ok (.if_icmp (.ne) 21, 3) := by decide +kernel
theorem d36 : decode yB 36 = .ok (.aload_n 0, 1) := by decide +kernel
theorem d37 : decode yB 37 = .ok (.getfield 9, 3) := by decide +kernel
theorem d40 : decode yB 40 = .ok (.aload_n 2, 1) := by decide +kernel
theorem d41 : decode yB 41 = .ok (.getfield 9, 3) := by decide +kernel
theorem d44 : decode yB 44 = .ok (.invokestatic 541, 3) := by decide +kernel
theorem d47 : decode yB 47 = .ok (.ifCond (.eq) 7, 3) := by decide +kernel
theorem d50 : decode yB 50 = .ok (.iconst 1, 1) := by decide +kernel
theorem d51 : decode yB 51 = .ok (.goto 4, 3) := by decide +kernel
theorem d54 : decode yB 54 = .ok (.iconst 0, 1) := by decide +kernel
theorem d55 : decode yB 55 = .ok (.ireturn, 1) := by decide +kernel
def site : List Cond := [.classLink "java/lang/String" 10 "java/lang/String", .fieldLink "java/lang/String" 38 "java/lang/String" "COMPACT_STRINGS" "Z", .fieldLink "java/lang/String" 15 "java/lang/String" "coder" "B", .fieldLink "java/lang/String" 9 "java/lang/String" "value" "[B", LEq.tab] ++ staticW "java/lang/String" 541 LEq.yN
def tab : Cond := tabOf yN yB 3 (some .boolean) site
def P (x t : Addr) (V : Cell) (cd : Int32) (n : Nat) (f : Nat → Int32) (y t' : Addr) (V' : Cell) (cd' : Int32) (k : Nat) (g : Nat → Int32) (z : Int32) (args : Array Value) (s : State) : Prop := args = #[.ref x, .ref y] ∧ Txt x t V cd n f s ∧ Txt y t' V' cd' k g s ∧ StaticIs s "java/lang/String" "COMPACT_STRINGS" "Z" (.int z) ∧ ¬ z = 0
/-- equals(Object) of two Strings: whether the texts are the same -/
theorem law (l : Launch) (x t : Addr) (V : Cell) (cd : Int32) (n : Nat) (f : Nat → Int32) (y t' : Addr) (V' : Cell) (cd' : Int32) (k : Nat) (g : Nat → Int32) (z : Int32) : Law l yN 2 1 1 14 yB 3 (some .boolean) site (P x t V cd n f y t' V' cd' k g z) (Says01 (SameT n f k g)) [] 0 0 := by
  refine Law.of_walk (plainFor_of_name (by decide +kernel)) (by decide +kernel) (by decide +kernel) (by decide) (fun _ _ h => by rw [h.1]; rfl) (fun _ U U' hal hh h => ⟨h.1, h.2.1.mv hal hh, h.2.2.1.mv hal hh, h.2.2.2.1.there hal hh, h.2.2.2.2⟩) (fun r U U' V V' h1 hal h2 h => Says01.mv r U U' V V' h1 hal h2 h) ?_
  intro p e s m args below meth c s₁ X0 hexec hbytes hml hret hlk hnm hown hh0 W hP
  obtain ⟨rfl, hx, hy, s1, hz⟩ := hP
  have c1 : Steps p.tables e below (s₁.setTop (entryFrame m #[.ref x, .ref y] 3)) (s₁.setTop (mkF m 2 #[.val (.ref x), .val (.ref y), .unset] [.ref y, .ref x])) := Steps.trans (entry rfl) (by
    show Steps p.tables e below (s₁.setTop (mkF m 0 #[.val (.ref x), .val (.ref y), .unset] [])) _
    refine XS.aloadN X0.here hexec rfl (hb hbytes d0) rfl rfl ?_
    refine XS.aloadN X0.here hexec rfl (hb hbytes d1) rfl rfl ?_
    exact Steps.refl _)
  by_cases hxy : x = y
  · have c2 : Steps p.tables e below (s₁.setTop (entryFrame m #[.ref x, .ref y] 3)) (s₁.setTop (mkF m 6 #[.val (.ref x), .val (.ref y), .unset] [.int 1])) := c1.trans (by
      refine acmpNo X0.here hexec rfl (hb hbytes d2) rfl rfl rfl (by simp [acmp, hxy]) ?_
      refine iconstV X0.here hexec rfl 1 (hb hbytes d5) (by decide) ?_
      exact Steps.refl _)
    subst hxy
    have ec : cd = cd' := by
      obtain ⟨D, fd, a1, a2, a3⟩ := hx.2.2.1
      obtain ⟨D', fd', b1, b2, b3⟩ := hy.2.2.1
      cases a1.symm.trans b1
      obtain ⟨q1, q2, q3, q4⟩ := a2.1
      obtain ⟨r1, r2, r3, r4⟩ := b2.1
      cases q4.symm.trans r4
      cases a3.symm.trans b3; rfl
    have et : t = t' := by
      obtain ⟨D, fd, a1, a2, a3⟩ := hx.2.1
      obtain ⟨D', fd', b1, b2, b3⟩ := hy.2.1
      cases a1.symm.trans b1
      obtain ⟨q1, q2, q3, q4⟩ := a2.1
      obtain ⟨r1, r2, r3, r4⟩ := b2.1
      cases q4.symm.trans r4
      cases a3.symm.trans b3; rfl
    subst ec et
    have ev : V = V' := by cases hx.2.2.2.1.1.symm.trans hy.2.2.2.1.1; rfl
    subst ev
    have hs : SameT n f k g := (Cod.eqv hx.2.2.2.2.1 hy.2.2.2.2.1 hx.2.2.2.2.2 hy.2.2.2.2.2).mp ⟨rfl, fun _ _ => rfl⟩
    exact ⟨s₁, some (.int 1), _, _, _, X0, rfl, rfl, rfl, (fun h => by cases h), ⟨1, rfl, hh0, Or.inl ⟨rfl, hs⟩⟩, fun fs hl => c2.trans (X0.ireturnOut hexec hret rfl (Or.inr (Or.inl rfl)) (hb hbytes d6) hl)⟩
  · have c2 : Steps p.tables e below (s₁.setTop (entryFrame m #[.ref x, .ref y] 3)) (s₁.setTop (mkF m 8 #[.val (.ref x), .val (.ref y), .unset] [.ref y])) := c1.trans (by
      refine acmpYes X0.here hexec rfl (pc0 := 2) rfl (hb hbytes d2) rfl rfl rfl (by simp [acmp, hxy]) (by decide) rfl ?_
      refine XS.aloadN X0.here hexec rfl (hb hbytes d7) rfl rfl ?_
      exact Steps.refl _)
    obtain ⟨T3, X3, q3, st3⟩ := cinst X0 hexec hown (wk W (.classLink "java/lang/String" 10 "java/lang/String")) (hy.mv X0.warmed.alike hh0).1 (g := (mkF m 8 #[.val (.ref x), .val (.ref y), .unset] [.ref y])) rfl (rest := []) rfl (hb hbytes d8)
    have hh3 := q3.trans hh0
    have c4 : Steps p.tables e below (s₁.setTop (entryFrame m #[.ref x, .ref y] 3)) (T3.setTop (mkF m 15 #[.val (.ref x), .val (.ref y), .unset] [.ref y])) := (c2.trans (st3 _ (Steps.refl _))).trans (by
      refine XS.ifNo X3.here hexec rfl (hb hbytes d11) rfl (i0_eq_f (by decide)) ?_
      refine XS.aloadN X3.here hexec rfl (hb hbytes d14) rfl rfl ?_
      exact Steps.refl _)
    obtain ⟨T5, X5, q5, st5⟩ := cself X3 hexec hown (wk W (.classLink "java/lang/String" 10 "java/lang/String")) (hy.mv X3.warmed.alike hh3).1 (g := (mkF m 15 #[.val (.ref x), .val (.ref y), .unset] [.ref y])) rfl (rest := []) rfl (hb hbytes d15)
    have hh5 := q5.trans hh3
    have c6 : Steps p.tables e below (s₁.setTop (entryFrame m #[.ref x, .ref y] 3)) (T5.setTop (mkF m 19 #[.val (.ref x), .val (.ref y), .val (.ref y)] [])) := (c4.trans (st5 _ (Steps.refl _))).trans (by
      refine XS.astoreN X5.here hexec rfl (hb hbytes d18) rfl rfl rfl ?_
      exact Steps.refl _)
    obtain ⟨T7, X7, q7, st7⟩ := X5.sget hexec hown (wk W (.fieldLink "java/lang/String" 38 "java/lang/String" "COMPACT_STRINGS" "Z")) s1 (fun _ _ h => by rw [hh5]; exact h) (g := (mkF m 19 #[.val (.ref x), .val (.ref y), .val (.ref y)] [])) rfl (hb hbytes d19)
    have hh7 := q7.trans hh5
    have c8 : Steps p.tables e below (s₁.setTop (entryFrame m #[.ref x, .ref y] 3)) (T7.setTop (mkF m 26 #[.val (.ref x), .val (.ref y), .val (.ref y)] [.ref x])) := (c6.trans (st7 _ (Steps.refl _))).trans (by
      refine XS.ifNo X7.here hexec rfl (hb hbytes d22) rfl (i0_eq_f hz) ?_
      refine XS.aloadN X7.here hexec rfl (hb hbytes d25) rfl rfl ?_
      exact Steps.refl _)
    obtain ⟨T9, X9, q9, st9⟩ := X7.hget hexec hown (wk W (.fieldLink "java/lang/String" 15 "java/lang/String" "coder" "B")) (hx.mv X7.warmed.alike hh7).2.2.1 (g := (mkF m 26 #[.val (.ref x), .val (.ref y), .val (.ref y)] [.ref x])) rfl (rest := []) rfl (hb hbytes d26)
    have hh9 := q9.trans hh7
    have c10 : Steps p.tables e below (s₁.setTop (entryFrame m #[.ref x, .ref y] 3)) (T9.setTop (mkF m 30 #[.val (.ref x), .val (.ref y), .val (.ref y)] [.ref y, .int cd])) := (c8.trans (st9 _ (Steps.refl _))).trans (by
      refine XS.aloadN X9.here hexec rfl (hb hbytes d29) rfl rfl ?_
      exact Steps.refl _)
    obtain ⟨T11, X11, q11, st11⟩ := X9.hget hexec hown (wk W (.fieldLink "java/lang/String" 15 "java/lang/String" "coder" "B")) (hy.mv X9.warmed.alike hh9).2.2.1 (g := (mkF m 30 #[.val (.ref x), .val (.ref y), .val (.ref y)] [.ref y, .int cd])) rfl (rest := [.int cd]) rfl (hb hbytes d30)
    have hh11 := q11.trans hh9
    have c12 : Steps p.tables e below (s₁.setTop (entryFrame m #[.ref x, .ref y] 3)) (T11.setTop (mkF m 33 #[.val (.ref x), .val (.ref y), .val (.ref y)] [.int cd', .int cd])) := c10.trans (st11 _ (Steps.refl _))
    by_cases hcd : cd = cd'
    · subst hcd
      have c13 : Steps p.tables e below (s₁.setTop (entryFrame m #[.ref x, .ref y] 3)) (T11.setTop (mkF m 37 #[.val (.ref x), .val (.ref y), .val (.ref y)] [.ref x])) := c12.trans (by
        refine XS.icmpNo X11.here hexec rfl (hb hbytes d33) rfl (ii_ne_f rfl) ?_
        refine XS.aloadN X11.here hexec rfl (hb hbytes d36) rfl rfl ?_
        exact Steps.refl _)
      obtain ⟨T14, X14, q14, st14⟩ := X11.hget hexec hown (wk W (.fieldLink "java/lang/String" 9 "java/lang/String" "value" "[B")) (hx.mv X11.warmed.alike hh11).2.1 (g := (mkF m 37 #[.val (.ref x), .val (.ref y), .val (.ref y)] [.ref x])) rfl (rest := []) rfl (hb hbytes d37)
      have hh14 := q14.trans hh11
      have c15 : Steps p.tables e below (s₁.setTop (entryFrame m #[.ref x, .ref y] 3)) (T14.setTop (mkF m 41 #[.val (.ref x), .val (.ref y), .val (.ref y)] [.ref y, .ref t])) := (c13.trans (st14 _ (Steps.refl _))).trans (by
        refine XS.aloadN X14.here hexec rfl (hb hbytes d40) rfl rfl ?_
        exact Steps.refl _)
      obtain ⟨T16, X16, q16, st16⟩ := X14.hget hexec hown (wk W (.fieldLink "java/lang/String" 9 "java/lang/String" "value" "[B")) (hy.mv X14.warmed.alike hh14).2.1 (g := (mkF m 41 #[.val (.ref x), .val (.ref y), .val (.ref y)] [.ref y, .ref t])) rfl (rest := [.ref t]) rfl (hb hbytes d41)
      have hh16 := q16.trans hh14
      have c17 : Steps p.tables e below (s₁.setTop (entryFrame m #[.ref x, .ref y] 3)) (T16.setTop (mkF m 44 #[.val (.ref x), .val (.ref y), .val (.ref y)] [.ref t', .ref t])) := c15.trans (st16 _ (Steps.refl _))
      obtain ⟨v18, T18, X18, E18, g18⟩ := X16.callS hexec (LEq.law l t V t' V') hown (wks W (staticW "java/lang/String" 541 LEq.yN)) (wk W LEq.tab) (W := 0) (Nat.le_of_ble_eq_true rfl) (Nat.le_of_ble_eq_true rfl) (Nat.le_refl _) (Nat.le_refl _) (g := (mkF m 44 #[.val (.ref x), .val (.ref y), .val (.ref y)] [.ref t', .ref t])) rfl (by rw [hml]; rfl) c17 (argsL := [.ref t, .ref t']) (rest := []) rfl rfl (by show 2 * 0 + 0 ≤ _; decide) (hb hbytes d44) (⟨rfl, hx.2.2.2.1.mv X16.warmed.alike hh16, hx.2.2.2.2.1.ty, hy.2.2.2.1.mv X16.warmed.alike hh16, hy.2.2.2.2.1.ty⟩)
      obtain ⟨v, rfl, q18, hv⟩ := E18
      have iff := Cod.eqv hx.2.2.2.2.1 hy.2.2.2.2.1 hx.2.2.2.2.2 hy.2.2.2.2.2
      rcases hv with ⟨rfl, he⟩ | ⟨rfl, he⟩
      · have c19 : Steps p.tables e below (s₁.setTop (entryFrame m #[.ref x, .ref y] 3)) (T18.setTop (mkF m 55 #[.val (.ref x), .val (.ref y), .val (.ref y)] [.int 1])) := Steps.trans g18 (by
          refine XS.ifNo X18.here hexec rfl (hb hbytes d47) rfl (i0_eq_f (by decide)) ?_
          refine iconstV X18.here hexec rfl 1 (hb hbytes d50) (by decide) ?_
          refine XS.goto X18.here hexec rfl (pc0 := 51) rfl (hb hbytes d51) (by decide) rfl ?_
          exact Steps.refl _)
        exact ⟨T18, some (.int 1), _, _, _, X18, rfl, rfl, rfl, (fun h => by cases h), ⟨1, rfl, q18.trans hh16, Or.inl ⟨rfl, iff.mp he⟩⟩, fun fs hl => c19.trans (X18.ireturnOut hexec hret rfl (Or.inr (Or.inl rfl)) (hb hbytes d55) hl)⟩
      · have c19 : Steps p.tables e below (s₁.setTop (entryFrame m #[.ref x, .ref y] 3)) (T18.setTop (mkF m 55 #[.val (.ref x), .val (.ref y), .val (.ref y)] [.int 0])) := Steps.trans g18 (by
          refine XS.ifYes X18.here hexec rfl (pc0 := 47) rfl (hb hbytes d47) rfl (i0_eq_t rfl) (by decide) rfl ?_
          refine iconstV X18.here hexec rfl 0 (hb hbytes d54) (by decide) ?_
          exact Steps.refl _)
        exact ⟨T18, some (.int 0), _, _, _, X18, rfl, rfl, rfl, (fun h => by cases h), ⟨0, rfl, q18.trans hh16, Or.inr ⟨rfl, fun q => he (iff.mpr q)⟩⟩, fun fs hl => c19.trans (X18.ireturnOut hexec hret rfl (Or.inr (Or.inl rfl)) (hb hbytes d55) hl)⟩
    · have c13 : Steps p.tables e below (s₁.setTop (entryFrame m #[.ref x, .ref y] 3)) (T11.setTop (mkF m 55 #[.val (.ref x), .val (.ref y), .val (.ref y)] [.int 0])) := c12.trans (by
        refine XS.icmpYes X11.here hexec rfl (pc0 := 33) rfl (hb hbytes d33) rfl (ii_ne_t hcd) (by decide) rfl ?_
        refine iconstV X11.here hexec rfl 0 (hb hbytes d54) (by decide) ?_
        exact Steps.refl _)
      exact ⟨T11, some (.int 0), _, _, _, X11, rfl, rfl, rfl, (fun h => by cases h), ⟨0, rfl, hh11, Or.inr ⟨rfl, Cod.dif hx.2.2.2.2.1 hy.2.2.2.2.1 hcd⟩⟩, fun fs hl => c13.trans (X11.ireturnOut hexec hret rfl (Or.inr (Or.inl rfl)) (hb hbytes d55) hl)⟩
theorem pays {l : Launch} {R : Room} {p : Program} {e : Env} {below : List Frame} {s : State} {sargs : Array Value} {len W : Nat} (x t : Addr) (V : Cell) (cd : Int32) (n : Nat) (f : Nat → Int32) (y t' : Addr) (V' : Cell) (cd' : Int32) (k : Nat) (g : Nat → Int32) (z : Int32) (htab : tab.before sargs s = true) (hfr : 2 ≤ R.frames) (hlo : W + 28 ≤ R.locals) :
    Back l R p e below s sargs yN len W (fun A₁ a₁ => A₁.cells + 0 ≤ R.cells ∧ A₁.slots + 0 ≤ R.slots ∧ P x t V cd n f y t' V' cd' k g z a₁ A₁.U) (fun A₁ _ v₁ B₁ => Says01 (SameT n f k g) v₁ A₁.U B₁.U ∧ B₁.locs = A₁.locs ++ [] ∧ B₁.cells = A₁.cells + 0 ∧ B₁.slots = A₁.slots + 0) :=
  (law l x t V cd n f y t' V' cd' k g z).pays htab hfr (by omega)
end SEq
end StrChars
namespace StrChars.Road
open Jvm Sem ClassFile Op Lib Jvm.Stand Jvm.Free Jvm.Free.XT
open Jvm.Lib.Cold (StaticIs)
/-- the words of String.equals(Object) -/
abbrev wordsEq : List Jvm.Cond := [.code SEq.yN SEq.yB 3 (some .boolean), .initialized ST, .classLink ST 10 ST, .fieldLink ST 38 ST "COMPACT_STRINGS" "Z", .fieldLink ST 15 ST "coder" "B", .fieldLink ST 9 ST "value" "[B", .methodLink ST 541 LEq.yN, .static LEq.yN, .code LEq.yN LEq.yB 3 (some .boolean), .initialized "java/lang/StringLatin1"]
theorem tabEq_of {a : Array Value} {s : State} (h : ∀ w ∈ wordsEq, w.before a s = true) : SEq.tab.before a s = true := by
  have hl : LEq.tab.before a s = true := unparts (wk h (.code LEq.yN LEq.yB 3 (some .boolean))) (wks h (.initialized LEq.yN.cls :: LEq.site))
  have q := consq hl h
  exact unparts (wk q (.code SEq.yN SEq.yB 3 (some .boolean))) (wks q (.initialized SEq.yN.cls :: SEq.site))
theorem movedEq {Z s : State} {a0 args : Array Value} (hZ : Z.Warmed39 s.vm) (hw : ∀ d ∈ wordsEq, d.before a0 Z = true) : ∀ d ∈ wordsEq, d.before args s = true := fun d hd => by
  have t : ∀ d ∈ wordsEq, (d.onTables && d.keepsFace) = true := by decide +kernel
  exact RoadKit.mv hZ (hw d hd) (t d hd)
/-- the road's facts of a String, as the laws ask it -/
theorem txt_of {Z U : State} {a0 : Array Value} {kI : Nat} (wi : (Jvm.Cond.instantiable ST kI).before a0 Z = true) (al : Z.vm.Alike U.vm) {x t : Addr} {kb : ClassId} {cs : List Int32} {cd N2 : Int32} {vs : List Value} (E : RoadKit.Exa Z U.heap x ST) (V : RoadKit.Fld Z U.heap x ST "value" "[B" (.ref t)) (C : RoadKit.Fld Z U.heap x ST "coder" "B" (.int cd)) (K : RoadKit.Arv Z U.heap t kb .byte N2 vs (.int 0)) (hc : CodA cs cd N2 vs) (hb : ∀ c ∈ cs, ¬ c < 0 ∧ ¬ (65535 : Int32) < c) (l2 : cs.length ≤ 4000) :
    ∃ A, Txt x t A cd cs.length (fun j => cs.getD j 0) U := by
  obtain ⟨A, K1, K2, K3, K4, K5, K6⟩ := K
  have hcod := hc.cod (by omega) K3 K5
  obtain ⟨D, fV, fC, hB, F1, F2, g1, g2, -, -⟩ := strObj wi al E V C
  exact ⟨A, ⟨_, hB.2.2.1, D, hB.1, rfl, by cases q : D.vm <;> first | rfl | exact absurd q (hB.2.1.2 _)⟩, Has.of hB F1 g1, Has.of hB F2 g2, ⟨K1.1, State.isArrayOf_alike al K1.2.1, K1.2.2, by rcases hcod with ⟨-, q, -⟩ | ⟨-, q, -⟩ <;> omega⟩, hcod, fun j hj => by
    have e : cs.getD j 0 = cs[j] := by simp [List.getD_eq_getElem?_getD, hj]
    show ¬ cs.getD j 0 < 0 ∧ ¬ 65535 < cs.getD j 0
    rw [e]; exact hb _ (List.getElem_mem _)⟩
theorem same_list (cs ds : List Int32) : SameT cs.length (fun j => cs.getD j 0) ds.length (fun j => ds.getD j 0) ↔ cs = ds := by
  constructor
  · rintro ⟨e, q⟩
    refine List.ext_getElem e fun j h1 h2 => ?_
    have := q j h1
    simpa [List.getD_eq_getElem?_getD, h1, h2] using this
  · rintro rfl
    exact ⟨rfl, fun _ _ => rfl⟩
/-- **equals(Object) OF TWO SUCH STRINGS**: 1 just where the chars are the same -/
theorem eqW {p : Program} {l : Launch} {e : Env} {R : Room} {s : State} {args : Array Value} {below : List Frame} {len W : Nat} {Z : State} {a0 : Array Value} {h : Heap} (hZ : Z.Warmed39 s.vm) (hw : ∀ d ∈ wordsEq, d.before a0 Z = true) {kI : Nat} (wi : (Jvm.Cond.instantiable ST kI).before a0 Z = true)
    {x t : Addr} {kb : ClassId} {cs : List Int32} {cd N2 : Int32} {vs : List Value} (E : RoadKit.Exa Z h x ST) (V : RoadKit.Fld Z h x ST "value" "[B" (.ref t)) (C : RoadKit.Fld Z h x ST "coder" "B" (.int cd)) (K : RoadKit.Arv Z h t kb .byte N2 vs (.int 0)) (hc : CodA cs cd N2 vs) (hb : ∀ c ∈ cs, ¬ c < 0 ∧ ¬ (65535 : Int32) < c) (l2 : cs.length ≤ 4000)
    {y t' : Addr} {kb' : ClassId} {ds : List Int32} {cd' N2' : Int32} {vs' : List Value} (E' : RoadKit.Exa Z h y ST) (V' : RoadKit.Fld Z h y ST "value" "[B" (.ref t')) (C' : RoadKit.Fld Z h y ST "coder" "B" (.int cd')) (K' : RoadKit.Arv Z h t' kb' .byte N2' vs' (.int 0)) (hc' : CodA ds cd' N2' vs') (hb' : ∀ c ∈ ds, ¬ c < 0 ∧ ¬ (65535 : Int32) < c) (l2' : ds.length ≤ 4000)
    {z : Int32} (S : RoadKit.Sta Z h ST "COMPACT_STRINGS" "Z" (.int z)) (hz : ¬ z = 0) (hfr : 2 ≤ R.frames) (hlo : W + 28 ≤ R.locals) :
    Back l R p e below s args (⟨"java/lang/String", "equals", "(Ljava/lang/Object;)Z"⟩ : MethodName) len W (fun P a => a = #[.ref x, .ref y] ∧ P.U.heap = h ∧ P.cells + 0 ≤ R.cells ∧ P.slots + 0 ≤ R.slots)
      (fun P _ v B => ∃ L, (((v = some (.int 1) ∧ cs = ds) ∨ (v = some (.int 0) ∧ ¬ cs = ds)) ∧ L = [] ∧ B.U.heap = h) ∧ B.locs = P.locs ++ L ∧ B.cells = P.cells + 0 ∧ B.slots = P.slots + 0) := by
  intro m meth c P g ig mk a X hg hsize hdg hW hn hp'
  obtain ⟨rfl, rfl, r1, r2⟩ := hp'
  have al : Z.vm.Alike P.U.vm := hZ.alike.trans X.warmed.alike
  obtain ⟨A, hx⟩ := txt_of wi al E V C K hc hb l2
  obtain ⟨A', hy⟩ := txt_of wi al E' V' C' K' hc' hb' l2'
  obtain ⟨v, B, X', ⟨⟨w, hv, hh, hq⟩, hl, hk, hs⟩, st⟩ := SEq.pays x t A cd cs.length (fun j => cs.getD j 0) y t' A' cd' ds.length (fun j => ds.getD j 0) z (tabEq_of (movedEq hZ hw)) hfr hlo m meth c P g ig mk _ X hg hsize hdg hW hn ⟨r1, r2, rfl, hx, hy, sta_is al S, hz⟩
  refine ⟨v, B, X', ⟨[], ⟨?_, rfl, hh⟩, hl, hk, hs⟩, st⟩
  rcases hq with ⟨rfl, q⟩ | ⟨rfl, q⟩
  · exact Or.inl ⟨hv, (same_list cs ds).mp q⟩
  · exact Or.inr ⟨hv, fun e => q ((same_list cs ds).mpr e)⟩
end StrChars.Road
namespace StrChars.Road
open Jvm Sem ClassFile Op Lib Jvm.Stand Jvm.Free Jvm.Free.XT
open Jvm.Lib.Cold (StaticIs)
/-- what backV says of its String, as the contracts of this text ask it: cs's low bytes, coder 0 -/
theorem codOf {cs : List Int32} {n : Nat} (hn : cs.length = n) (hb : ∀ c ∈ cs, ¬ 255 < c) : CodA cs 0 (Int32.ofNat n) ((cs.map lo8).map Value.int) := Or.inl ⟨rfl, by rw [hn], by simp [List.map_map, Function.comp_def], hb⟩
end StrChars.Road
end Jvm.Pilot.@@N@@

namespace Jvm.Pilot.@@N@@
open Jvm Jvm.ClassFile Sem Op Lib Jvm.Free Jvm.Stand Jvm.LawKit Jvm.RoadKit Bundle Jvm.Pilot.@@N@@.Jvm.D
theorem own_nar {t : FieldType} {v : Value} (h : v.isRef = true) (ht : t.isReference = true) : narrow t v = v := by
  rcases ref_cases h with rfl | ⟨a, rfl⟩ <;> cases t <;> first | rfl | cases ht
theorem own_fits {t : FieldType} {v : Value} (h : v.isRef = true) (ht : t.isReference = true) : fits t v = true := by
  rcases ref_cases h with rfl | ⟨a, rfl⟩ <;> cases t <;> first | rfl | cases ht
theorem own_and255 (x : Int32) : ¬ nar .char ((x &&& (255 : Int32)).toUInt32.toUInt16.toUInt32.toInt32) < 0 ∧ ¬ (255 : Int32) < nar .char ((x &&& (255 : Int32)).toUInt32.toUInt16.toUInt32.toInt32) := by
  have t : ∀ k : Fin 256, ¬ nar .char ((Int32.ofNat k.val).toUInt32.toUInt16.toUInt32.toInt32) < 0 ∧ ¬ (255 : Int32) < nar .char ((Int32.ofNat k.val).toUInt32.toUInt16.toUInt32.toInt32) := by decide +kernel
  have h : (x &&& 255).toBitVec.toNat < 256 := by
    simp only [Int32.toBitVec_and, BitVec.toNat_and]
    exact Nat.lt_succ_of_le Nat.and_le_right
  have e : (x &&& 255) = Int32.ofNat (x &&& 255).toBitVec.toNat := by
    apply Int32.toBitVec_inj.mp
    show _ = BitVec.ofNat 32 _
    rw [BitVec.ofNat_toNat]; simp
  rw [e]
  exact t ⟨_, h⟩
theorem own_narb (x : Int32) : nar .byte (x.toInt8.toInt32) = x.toInt8.toInt32 := by simp [nar]
theorem own_words {a0 : Array Value} {Z : State} (hw : ∀ d ∈ tables_1, d.before a0 Z = true) : ∀ d ∈ StrChars.Road.words, d.before a0 Z = true := fun d hd => hw d ((by decide +kernel : ∀ d ∈ StrChars.Road.words, d ∈ tables_1) d hd)
theorem own_wordsEq {a0 : Array Value} {Z : State} (hw : ∀ d ∈ tables_1, d.before a0 Z = true) : ∀ d ∈ StrChars.Road.wordsEq, d.before a0 Z = true := fun d hd => hw d ((by decide +kernel : ∀ d ∈ StrChars.Road.wordsEq, d ∈ tables_1) d hd)
theorem own_atoms {a0 : Array Value} {Z : State} (hw : ∀ d ∈ tables_1, d.before a0 Z = true) : ∀ d ∈ Bundle.stringAtoms, d.before a0 Z = true := fun d hd => hw d ((by decide +kernel : ∀ d ∈ Bundle.stringAtoms, d ∈ tables_1) d hd)
theorem own_up (cs : List Int32) (h : ∀ c ∈ cs, ¬ c < 0 ∧ ¬ (255 : Int32) < c) : ∀ c ∈ cs, ¬ c < 0 ∧ ¬ (65535 : Int32) < c := fun c hc => ⟨(h c hc).1, fun q => (h c hc).2 (by rw [Int32.lt_iff_toInt_lt] at q ⊢; have e1 : (65535 : Int32).toInt = 65535 := rfl; have e2 : (255 : Int32).toInt = 255 := rfl; omega)⟩
theorem own_toInt {n : Nat} (h : n ≤ 100) : (Int32.ofNat n).toInt = n := Int32.toInt_ofNat_small (by omega)
theorem own_lt {n t : Nat} (hn : n ≤ 100) (ht : t ≤ 100) : Int32.ofNat n < Int32.ofNat t ↔ n < t := by
  rw [Int32.lt_iff_toInt_lt, own_toInt hn, own_toInt ht]; omega
theorem own_inj {n t : Nat} (hn : n ≤ 100) (ht : t ≤ 100) : Int32.ofNat n = Int32.ofNat t ↔ n = t := by
  rw [← Int32.toInt_inj, own_toInt hn, own_toInt ht]; omega
theorem own_mod3 (x : Int32) : ∃ f : Nat, f ≤ 2 ∧ (x &&& (3 : Int32)) % (3 : Int32) = Int32.ofNat f := by
  have h := c_and x 3 (by decide)
  have g := (c_irem (x &&& 3) 3 3 rfl).1 h.1
  refine ⟨((x &&& 3) % 3 : Int32).toInt.toNat, ?_, ?_⟩
  · omega
  · apply Int32.toInt_inj.mp
    rw [own_toInt (by omega)]; omega
abbrev own_r (c : Int32) : Prop := ¬ c < 0 ∧ ¬ (255 : Int32) < c
theorem own_r255 (x : Int32) : own_r (x &&& (255 : Int32)) := by
  have q := c_mask x 255 8 (by decide) (by decide)
  have e1 : (0 : Int32).toInt = 0 := rfl
  have e2 : (255 : Int32).toInt = 255 := rfl
  have e3 : ((2 ^ 8 : Nat) : Int) = 256 := rfl
  rw [e3] at q
  constructor
  · rw [Int32.lt_iff_toInt_lt]; omega
  · rw [Int32.lt_iff_toInt_lt]; omega
theorem own_i2c {c : Int32} (h : own_r c) : c.toUInt32.toUInt16.toUInt32.toInt32 = c := by
  have e : c = c &&& 255 := by
    apply Int32.toInt_inj.mp
    rw [c_mask c 255 8 (by decide) (by decide)]
    have h1 := h.1; have h2 := h.2
    rw [Int32.lt_iff_toInt_lt] at h1 h2
    have e1 : (0 : Int32).toInt = 0 := rfl
    have e2 : (255 : Int32).toInt = 255 := rfl
    omega
  rw [e]; exact i2c_mask c
theorem own_narc {c : Int32} (h : own_r c) : nar .char c = c := own_i2c h
def own_mk : Nat → Int32 → Int32 → List Int32
  | 0, _, _ => []
  | 1, a, _ => [a]
  | _, a, b => [a, b]
theorem own_three {A : Nat} (h : A ≤ 2) : A = 0 ∨ A = 1 ∨ A = 2 := by omega
theorem own_mk_len {A : Nat} {a b : Int32} (h : A ≤ 2) : (own_mk A a b).length = A := by
  rcases own_three h with rfl | rfl | rfl <;> rfl
theorem own_mk_r {A : Nat} {a b : Int32} (h : A ≤ 2) (h0 : own_r a) (h1 : own_r b) : ∀ c ∈ own_mk A a b, own_r c := by
  intro c hc
  rcases own_three h with rfl | rfl | rfl
  · cases hc
  · simp only [own_mk, List.mem_cons, List.not_mem_nil, or_false] at hc; subst hc; exact h0
  · simp only [own_mk, List.mem_cons, List.not_mem_nil, or_false] at hc
    rcases hc with rfl | rfl
    · exact h0
    · exact h1
theorem own_s0 {A B : Nat} {a0 a1 b0 b1 : Int32} (hA : A ≤ 2) (hB : B ≤ 2) (h : ¬ A = B) : ¬ own_mk A a0 a1 = own_mk B b0 b1 := fun q => h (by
  have e := congrArg List.length q
  rw [own_mk_len hA, own_mk_len hB] at e; exact e)
theorem own_s1 {A : Nat} {a0 a1 b0 b1 : Int32} (hA : A ≤ 2) (h1 : ¬ A < 1) (h : ¬ a0 = b0) : ¬ own_mk A a0 a1 = own_mk A b0 b1 := fun q => by
  rcases own_three hA with rfl | rfl | rfl
  · exact h1 (by decide)
  · simp [own_mk] at q; exact h q
  · simp [own_mk] at q; exact h q.1
theorem own_s2 {A : Nat} {a0 a1 b0 b1 : Int32} (hA : A ≤ 2) (h1 : ¬ A < 2) (h : ¬ a1 = b1) : ¬ own_mk A a0 a1 = own_mk A b0 b1 := fun q => by
  rcases own_three hA with rfl | rfl | rfl
  · exact h1 (by decide)
  · exact h1 (by decide)
  · simp [own_mk] at q; exact h q.2
theorem own_s3 {A : Nat} {a0 a1 b0 b1 : Int32} (hA : A ≤ 2) (h0 : A < 1 ∨ a0 = b0) (h1 : A < 2 ∨ a1 = b1) : own_mk A a0 a1 = own_mk A b0 b1 := by
  rcases own_three hA with rfl | rfl | rfl
  · rfl
  · rcases h0 with q | rfl
    · omega
    · rfl
  · rcases h0 with q | rfl
    · omega
    · rcases h1 with q | rfl
      · omega
      · rfl
theorem own_EW {a0 : Array Value} {Z : State} (hw : ∀ d ∈ tables_1, d.before a0 Z = true) : EW Z a0 consts_1 := EW.cons (text := "docno") (hw _ (List.mem_of_getElem? (i := 36) rfl)) (by decide) (EW.cons (text := "text") (hw _ (List.mem_of_getElem? (i := 44) rfl)) (by decide) (EW.cons (text := "") (hw _ (List.mem_of_getElem? (i := 24) rfl)) (by decide) EW.nil))
def Q_canEnc (Z : State) (x : Int32) (h0 : Heap) (n0 : Nat) (v : Option Value) (h : Heap) (L : List Loc) : Prop := v = some (.int 1) ∧ Fr n0 L ∧ h = h0
theorem pn_0 : plainName "java/lang/StringLatin1" = true := by first | (simp [plainName, overriddenIn]; done) | decide +kernel
theorem ef_canEnc (m : MethodId) (x : Int32) : entryFrame m #[(.int x)] 1 = mkF m 0 #[.val (.int x)] [] := by first | (simp [entryFrame, mkF, argsToLocals, Value.category]; done) | rfl
theorem d_jdk_43_method_3_code_0 : decode jdk_43_method_3_code 0 = .ok (.iload_n 0, 1) := by decide +kernel
theorem d_jdk_43_method_3_code_1 : decode jdk_43_method_3_code 1 = .ok (.sipush 255, 3) := by decide +kernel
theorem d_jdk_43_method_3_code_4 : decode jdk_43_method_3_code 4 = .ok (.if_icmp .gt 7, 3) := by decide +kernel
theorem d_jdk_43_method_3_code_7 : decode jdk_43_method_3_code 7 = .ok (.iconst 1, 1) := by decide +kernel
theorem d_jdk_43_method_3_code_8 : decode jdk_43_method_3_code 8 = .ok (.goto 4, 3) := by decide +kernel
theorem d_jdk_43_method_3_code_12 : decode jdk_43_method_3_code 12 = .ok (.ireturn, 1) := by decide +kernel
set_option maxRecDepth 65536 in
set_option maxHeartbeats 40000000 in
theorem rm_canEnc (l : Launch) (Z : State) (a0 : Array Value) (hw : ∀ d ∈ tables_1, d.before a0 Z = true) (ws : List Jvm.Cond) (x : Int32) (h0 : Heap) (n0 : Nat) (X00 : Old Z n0 h0) (hx255 : ¬ ((255 : Int32) < x)) :
    MetFree l (⟨"java/lang/StringLatin1", "canEncode", "(C)Z"⟩ : MethodName) (head1 (Jvm.Cond.code (⟨"java/lang/StringLatin1", "canEncode", "(C)Z"⟩ : MethodName) jdk_43_method_3_code 1 (some .boolean) :: ws) ({ frames := 0, cells := 0, slots := 0, locals := 0 } : Room)) (fun aa_ U => aa_ = #[(.int x)] ∧ Z.Warmed39 U.vm ∧ U.heap = h0) (fun _ _ _ _ _ => True) (fun _ U o U' => ∃ v L, o = .returned v ∧ Q_canEnc Z x h0 n0 v U'.heap L ∧ FrameEnd U o U' L ({ frames := 0, cells := 0, slots := 0, locals := 0 } : Room).cells ({ frames := 0, cells := 0, slots := 0, locals := 0 } : Room).slots) := by
  refine MetFree.of_bodySF (plainFor_of_name pn_0) hisR ?_
  intro p e s m args below meth c s₁ Bd hml0 hP hK
  obtain ⟨rfl, hZ, hh⟩ := hP
  have hx := Bd.exec
  have hby := Bd.bytes
  have hml : c.maxLocals = 1 := hml0
  have hown : s.vm.findClass "java/lang/StringLatin1" = some m.cls := findClass_of_methodNamed Bd.named
  have hnm := (name_of_methodNamed Bd.named Bd.method).1
  have hlk : meth.locks = false := BodyLoose.notSynchronized Bd
  have X0 : Stand p l e ({ frames := 0, cells := 0, slots := 0, locals := 0 } : Room) s m #[(.int x)] below meth c s₁ [] 0 0 := Stand.of_body Bd
  have e0 : s₁.heap = h0 := by rw [← hh, Bd.state]; rfl
  have N0 := Fr.nil n0
  suffices G : Go p e below s (Q_canEnc Z x h0 n0) 0 0 s₁ (mkF m 0 #[.val (.int x)] []) by
    obtain ⟨s2, o, h1, h2⟩ := G
    exact ⟨s2, o, castTop (ef_canEnc m x) h1, h2⟩
  refine Go.by (T' := s₁) (g' := (mkF m 1 #[.val (.int x)] [(.int x)])) (fun t_ k_ => XS.iloadN X0.here hx rfl (hb hby d_jdk_43_method_3_code_0) rfl k_) ?_
  refine Go.by (T' := s₁) (g' := (mkF m 4 #[.val (.int x)] [(.int (255 : Int32)), (.int x)])) (fun t_ k_ => XS.sipush X0.here hx rfl (hb hby d_jdk_43_method_3_code_1) k_) ?_
  refine Go.by (T' := s₁) (g' := (mkF m 7 #[.val (.int x)] [])) (fun t_ k_ => XS.icmpNo X0.here hx rfl (hb hby d_jdk_43_method_3_code_4) rfl (flt hx255).2.2.1 k_) ?_
  refine Go.by (T' := s₁) (g' := (mkF m 8 #[.val (.int x)] [(.int (1 : Int32))])) (fun t_ k_ => XS.iconst X0.here hx rfl (hb hby d_jdk_43_method_3_code_7) k_) ?_
  refine Go.by (T' := s₁) (g' := (mkF m 12 #[.val (.int x)] [(.int (1 : Int32))])) (fun t_ k_ => XS.goto X0.here hx rfl (pc0 := 8) (pc' := 12) rfl (hb hby d_jdk_43_method_3_code_8) (by decide) (by decide) k_) ?_
  refine Go.fin X0 (v := some (.int (nar .boolean (1 : Int32)))) (fun h => by rw [Bd.returns] at h; cases h) hlk (by decide) (by decide) ?_ (fun fs hr => retN X0 hx (t := .boolean) Bd.returns (by simp) (hb hby d_jdk_43_method_3_code_12) hr)
  show Q_canEnc Z x h0 n0 _ s₁.heap _
  rw [e0]
  exact ⟨rfl, N0, rfl⟩
def Q_toBytes (Z : State) (x : Int32) (h0 : Heap) (n0 : Nat) (v : Option Value) (h : Heap) (L : List Loc) : Prop := ∃ (t : Addr) (kb : ClassId), v = some (.ref t) ∧ Fr n0 L ∧ Keep h0 h [] ∧ h0.size ≤ t ∧ Arv Z h t kb .byte (1 : Int32) [(.int (x.toInt8.toInt32))] (.int (0 : Int32))
theorem ef_toBytes (m : MethodId) (x : Int32) : entryFrame m #[(.int x)] 1 = mkF m 0 #[.val (.int x)] [] := by first | (simp [entryFrame, mkF, argsToLocals, Value.category]; done) | rfl
theorem d_jdk_43_method_46_code_0 : decode jdk_43_method_46_code 0 = .ok (.iconst 1, 1) := by decide +kernel
theorem d_jdk_43_method_46_code_1 : decode jdk_43_method_46_code 1 = .ok (.newarray .byte, 2) := by decide +kernel
theorem d_jdk_43_method_46_code_3 : decode jdk_43_method_46_code 3 = .ok (.dup, 1) := by decide +kernel
theorem d_jdk_43_method_46_code_4 : decode jdk_43_method_46_code 4 = .ok (.iconst 0, 1) := by decide +kernel
theorem d_jdk_43_method_46_code_5 : decode jdk_43_method_46_code 5 = .ok (.iload_n 0, 1) := by decide +kernel
theorem d_jdk_43_method_46_code_6 : decode jdk_43_method_46_code 6 = .ok (.i2b, 1) := by decide +kernel
theorem d_jdk_43_method_46_code_7 : decode jdk_43_method_46_code 7 = .ok (.bastore, 1) := by decide +kernel
theorem d_jdk_43_method_46_code_8 : decode jdk_43_method_46_code 8 = .ok (.areturn, 1) := by decide +kernel
set_option maxRecDepth 65536 in
set_option maxHeartbeats 40000000 in
theorem rm_toBytes (l : Launch) (Z : State) (a0 : Array Value) (hw : ∀ d ∈ tables_1, d.before a0 Z = true) (ws : List Jvm.Cond) (x : Int32) (h0 : Heap) (n0 : Nat) (X00 : Old Z n0 h0)  :
    MetFree l (⟨"java/lang/StringLatin1", "toBytes", "(C)[B"⟩ : MethodName) (head1 (Jvm.Cond.code (⟨"java/lang/StringLatin1", "toBytes", "(C)[B"⟩ : MethodName) jdk_43_method_46_code 1 (some (.array .byte)) :: ws) ({ frames := 0, cells := 1, slots := 1, locals := 0 } : Room)) (fun aa_ U => aa_ = #[(.int x)] ∧ Z.Warmed39 U.vm ∧ U.heap = h0) (fun _ _ _ _ _ => True) (fun _ U o U' => ∃ v L, o = .returned v ∧ Q_toBytes Z x h0 n0 v U'.heap L ∧ FrameEnd U o U' L ({ frames := 0, cells := 1, slots := 1, locals := 0 } : Room).cells ({ frames := 0, cells := 1, slots := 1, locals := 0 } : Room).slots) := by
  refine MetFree.of_bodySF (plainFor_of_name pn_0) hisR ?_
  intro p e s m args below meth c s₁ Bd hml0 hP hK
  obtain ⟨rfl, hZ, hh⟩ := hP
  have hx := Bd.exec
  have hby := Bd.bytes
  have hml : c.maxLocals = 1 := hml0
  have hown : s.vm.findClass "java/lang/StringLatin1" = some m.cls := findClass_of_methodNamed Bd.named
  have hnm := (name_of_methodNamed Bd.named Bd.method).1
  have hlk : meth.locks = false := BodyLoose.notSynchronized Bd
  have X0 : Stand p l e ({ frames := 0, cells := 1, slots := 1, locals := 0 } : Room) s m #[(.int x)] below meth c s₁ [] 0 0 := Stand.of_body Bd
  have e0 : s₁.heap = h0 := by rw [← hh, Bd.state]; rfl
  have N0 := Fr.nil n0
  suffices G : Go p e below s (Q_toBytes Z x h0 n0) 1 1 s₁ (mkF m 0 #[.val (.int x)] []) by
    obtain ⟨s2, o, h1, h2⟩ := G
    exact ⟨s2, o, castTop (ef_toBytes m x) h1, h2⟩
  refine Go.by (T' := s₁) (g' := (mkF m 1 #[.val (.int x)] [(.int (1 : Int32))])) (fun t_ k_ => XS.iconst X0.here hx rfl (hb hby d_jdk_43_method_46_code_0) k_) ?_
  obtain ⟨T101, h101, kc101, X101, e101, E101, A101, st101⟩ := newP X0 hx hZ (hw _ (List.mem_of_getElem? (i := 25) rfl)) e0 (g := (mkF m 1 #[.val (.int x)] [(.int (1 : Int32))])) rfl (hb hby d_jdk_43_method_46_code_1) rfl (by decide) (cap := 1) (by decide) (by decide) (by decide) (by decide)
  obtain ⟨b101, g101⟩ : ∃ z, z = h0.size := ⟨_, rfl⟩
  rw [← g101] at A101 st101
  have ge_b101 : n0 ≤ b101 := Nat.le_trans X00.sz (Nat.le_of_eq g101.symm)
  have sz_b101 : h0.size ≤ b101 := Nat.le_trans (Keep.refl h0 []).1 (Nat.le_of_eq g101.symm)
  have V101 : Arv Z h101 b101 kc101 .byte (1 : Int32) [(.int (0 : Int32))] (.int (0 : Int32)) := (Arv.new A101 (by decide)).pad (pad_rep [] (.int (0 : Int32)) 1)
  refine Go.by (T' := T101) (g' := (mkF m 3 #[.val (.int x)] [(.ref b101)])) (fun t_ k_ => st101 _ k_) ?_
  refine Go.by (T' := T101) (g' := (mkF m 4 #[.val (.int x)] [(.ref b101), (.ref b101)])) (fun t_ k_ => XS.dup X101.here hx rfl (hb hby d_jdk_43_method_46_code_3) rfl rfl k_) ?_
  refine Go.by (T' := T101) (g' := (mkF m 5 #[.val (.int x)] [(.int (0 : Int32)), (.ref b101), (.ref b101)])) (fun t_ k_ => XS.iconst X101.here hx rfl (hb hby d_jdk_43_method_46_code_4) k_) ?_
  refine Go.by (T' := T101) (g' := (mkF m 6 #[.val (.int x)] [(.int x), (.int (0 : Int32)), (.ref b101), (.ref b101)])) (fun t_ k_ => XS.iloadN X101.here hx rfl (hb hby d_jdk_43_method_46_code_5) rfl k_) ?_
  refine Go.by (T' := T101) (g' := (mkF m 7 #[.val (.int x)] [(.int (x.toInt8.toInt32)), (.int (0 : Int32)), (.ref b101), (.ref b101)])) (fun t_ k_ => XS.i2b X101.here hx rfl (hb hby d_jdk_43_method_46_code_6) rfl k_) ?_
  have Od103 : Old Z n0 h101 := (X00.ext E101)
  have Kp104 : Keep h0 h101 [] := ((Keep.refl h0 []).ext E101)
  obtain ⟨cl102, Ar102, q102, Sz102, Ng102, Hs102, Gs102⟩ := id V101
  obtain ⟨T105, h105, X105, e105, W105, st105⟩ := stB X101 hx hZ e101 Ar102 (j := (0 : Int32)) (inb_of Sz102 ⟨by decide, by decide⟩) (g := (mkF m 7 #[.val (.int x)] [(.int (x.toInt8.toInt32)), (.int (0 : Int32)), (.ref b101), (.ref b101)])) rfl rfl (hb hby d_jdk_43_method_46_code_7)
  have V105 : Arv Z h105 b101 kc101 .byte (1 : Int32) [(.int (nar .byte (x.toInt8.toInt32)))] (.int (0 : Int32)) := Arv.set Ar102 q102 Sz102 Ng102 Hs102 Gs102 (fits_nar_byte _) W105 0 rfl (Nat.le_of_ble_eq_true rfl)
  have N105 := Fr.snoc X105 N0 ge_b101
  refine Go.by (T' := T105) (g' := (mkF m 8 #[.val (.int x)] [(.ref b101)])) (fun t_ k_ => st105 _ k_) ?_
  have V106 : Arv Z h105 b101 kc101 .byte (1 : Int32) [(.int (x.toInt8.toInt32))] (.int (0 : Int32)) := by have q := V105; rw [own_narb] at q; exact q
  have Kp107 : Keep h0 h105 [] := (Kp104.wr W105 (Or.inr sz_b101))
  refine Go.fin X105 (v := some (.ref b101)) (fun h => by rw [Bd.returns] at h; cases h) hlk (by decide) (by decide) ?_ (fun fs hr => retR X105 hx (w := (.ref b101)) Bd.returns rfl rfl rfl (hb hby d_jdk_43_method_46_code_8) hr)
  show Q_toBytes Z x h0 n0 _ T105.heap _
  rw [e105]
  exact ⟨b101, kc101, rfl, N105, Kp107, sz_b101, V106⟩
def Q_strBB (Z : State) (a : Addr) (t : Addr) (u1 : Value) (u2 : Value) (h0 : Heap) (n0 : Nat) (v : Option Value) (h : Heap) (L : List Loc) : Prop := v = none ∧ Fr n0 L ∧ Keep h0 h [a] ∧ Exa Z h a "java/lang/String" ∧ Fld Z h a "java/lang/String" "value" "[B" (.ref t) ∧ Fld Z h a "java/lang/String" "coder" "B" (.int (0 : Int32))
theorem pn_1 : plainName "java/lang/String" = true := by first | (simp [plainName, overriddenIn]; done) | decide +kernel
theorem ef_strBB (m : MethodId) (a : Addr) (t : Addr) : entryFrame m #[(.ref a), (.ref t), (.int (0 : Int32))] 3 = mkF m 0 #[.val (.ref a), .val (.ref t), .val (.int (0 : Int32))] [] := by first | (simp [entryFrame, mkF, argsToLocals, Value.category]; done) | rfl
theorem d_jdk_42_method_151_code_0 : decode jdk_42_method_151_code 0 = .ok (.aload_n 0, 1) := by decide +kernel
theorem d_jdk_42_method_151_code_1 : decode jdk_42_method_151_code 1 = .ok (.invokespecial 1, 3) := by decide +kernel
theorem d_jdk_42_method_151_code_4 : decode jdk_42_method_151_code 4 = .ok (.aload_n 0, 1) := by decide +kernel
theorem d_jdk_42_method_151_code_5 : decode jdk_42_method_151_code 5 = .ok (.aload_n 1, 1) := by decide +kernel
theorem d_jdk_42_method_151_code_6 : decode jdk_42_method_151_code 6 = .ok (.putfield 9, 3) := by decide +kernel
theorem d_jdk_42_method_151_code_9 : decode jdk_42_method_151_code 9 = .ok (.aload_n 0, 1) := by decide +kernel
theorem d_jdk_42_method_151_code_10 : decode jdk_42_method_151_code 10 = .ok (.iload_n 2, 1) := by decide +kernel
theorem d_jdk_42_method_151_code_11 : decode jdk_42_method_151_code 11 = .ok (.putfield 15, 3) := by decide +kernel
theorem d_jdk_42_method_151_code_14 : decode jdk_42_method_151_code 14 = .ok (.return_, 1) := by decide +kernel
set_option maxRecDepth 65536 in
set_option maxHeartbeats 40000000 in
theorem rm_strBB (l : Launch) (Z : State) (a0 : Array Value) (hw : ∀ d ∈ tables_1, d.before a0 Z = true) (ws : List Jvm.Cond) (a : Addr) (t : Addr) (u1 : Value) (u2 : Value) (h0 : Heap) (n0 : Nat) (X00 : Old Z n0 h0) (P0 : Exa Z h0 a "java/lang/String") (P1 : Fld Z h0 a "java/lang/String" "value" "[B" (u1)) (P2 : Fld Z h0 a "java/lang/String" "coder" "B" (u2)) (P3 : n0 ≤ a) :
    MetFree l (⟨"java/lang/String", "<init>", "([BB)V"⟩ : MethodName) (head1 (Jvm.Cond.code (⟨"java/lang/String", "<init>", "([BB)V"⟩ : MethodName) jdk_42_method_151_code 3 none :: ws) ({ frames := 1, cells := 0, slots := 0, locals := 12 } : Room)) (fun aa_ U => aa_ = #[(.ref a), (.ref t), (.int (0 : Int32))] ∧ Z.Warmed39 U.vm ∧ U.heap = h0) (fun _ _ _ _ _ => True) (fun _ U o U' => ∃ v L, o = .returned v ∧ Q_strBB Z a t u1 u2 h0 n0 v U'.heap L ∧ FrameEnd U o U' L ({ frames := 1, cells := 0, slots := 0, locals := 12 } : Room).cells ({ frames := 1, cells := 0, slots := 0, locals := 12 } : Room).slots) := by
  refine MetFree.of_bodySF (plainFor_of_name pn_1) hisR ?_
  intro p e s m args below meth c s₁ Bd hml0 hP hK
  obtain ⟨rfl, hZ, hh⟩ := hP
  have hx := Bd.exec
  have hby := Bd.bytes
  have hml : c.maxLocals = 3 := hml0
  have hown : s.vm.findClass "java/lang/String" = some m.cls := findClass_of_methodNamed Bd.named
  have hnm := (name_of_methodNamed Bd.named Bd.method).1
  have hlk : meth.locks = false := BodyLoose.notSynchronized Bd
  have X0 : Stand p l e ({ frames := 1, cells := 0, slots := 0, locals := 12 } : Room) s m #[(.ref a), (.ref t), (.int (0 : Int32))] below meth c s₁ [] 0 0 := Stand.of_body Bd
  have e0 : s₁.heap = h0 := by rw [← hh, Bd.state]; rfl
  have N0 := Fr.nil n0
  suffices G : Go p e below s (Q_strBB Z a t u1 u2 h0 n0) 0 0 s₁ (mkF m 0 #[.val (.ref a), .val (.ref t), .val (.int (0 : Int32))] []) by
    obtain ⟨s2, o, h1, h2⟩ := G
    exact ⟨s2, o, castTop (ef_strBB m a t) h1, h2⟩
  refine Go.by (T' := s₁) (g' := (mkF m 1 #[.val (.ref a), .val (.ref t), .val (.int (0 : Int32))] [(.ref a)])) (fun t_ k_ => XS.aloadN X0.here hx rfl (hb hby d_jdk_42_method_151_code_0) rfl rfl k_) ?_
  obtain ⟨T101, X101, e101, st101⟩ := initO X0 hx hZ hown (hw _ (List.mem_of_getElem? (i := 21) rfl)) (hw _ (List.mem_of_getElem? (i := 22) rfl)) (hw _ (List.mem_of_getElem? (i := 23) rfl)) e0 (g := (mkF m 1 #[.val (.ref a), .val (.ref t), .val (.int (0 : Int32))] [(.ref a)])) rfl (by rw [hml]; rfl) rfl (hb hby d_jdk_42_method_151_code_1) (by decide) (W := 0) (by show 2 * 0 + _ ≤ _; exact Nat.le_of_eq rfl) (by decide)
  refine Go.by (T' := T101) (g' := (mkF m 4 #[.val (.ref a), .val (.ref t), .val (.int (0 : Int32))] [])) (fun t_ k_ => st101 _ k_) ?_
  refine Go.by (T' := T101) (g' := (mkF m 5 #[.val (.ref a), .val (.ref t), .val (.int (0 : Int32))] [(.ref a)])) (fun t_ k_ => XS.aloadN X101.here hx rfl (hb hby d_jdk_42_method_151_code_4) rfl rfl k_) ?_
  refine Go.by (T' := T101) (g' := (mkF m 6 #[.val (.ref a), .val (.ref t), .val (.int (0 : Int32))] [(.ref t), (.ref a)])) (fun t_ k_ => XS.aloadN X101.here hx rfl (hb hby d_jdk_42_method_151_code_5) rfl rfl k_) ?_
  obtain ⟨T102, h102, X102, e102, W102, st102⟩ := putF X101 hx hZ hown (host := "") (Or.inl (hw _ (List.mem_of_getElem? (i := 30) rfl))) Via.refl e101 P1 P0 (Or.inr ⟨(hw _ (List.mem_of_getElem? (i := 26) rfl)), rfl, hnm⟩) (hw _ (List.mem_of_getElem? (i := 11) rfl)) (ty := (.array .byte)) (by decide) rfl rfl (g := (mkF m 6 #[.val (.ref a), .val (.ref t), .val (.int (0 : Int32))] [(.ref t), (.ref a)])) rfl rfl (hb hby d_jdk_42_method_151_code_6)
  have Fw102 : Fld Z h102 a "java/lang/String" "value" "[B" (.ref t) := P1.same W102
  have N102 := Fr.snoc X102 N0 P3
  refine Go.by (T' := T102) (g' := (mkF m 9 #[.val (.ref a), .val (.ref t), .val (.int (0 : Int32))] [])) (fun t_ k_ => st102 _ k_) ?_
  refine Go.by (T' := T102) (g' := (mkF m 10 #[.val (.ref a), .val (.ref t), .val (.int (0 : Int32))] [(.ref a)])) (fun t_ k_ => XS.aloadN X102.here hx rfl (hb hby d_jdk_42_method_151_code_9) rfl rfl k_) ?_
  refine Go.by (T' := T102) (g' := (mkF m 11 #[.val (.ref a), .val (.ref t), .val (.int (0 : Int32))] [(.int (0 : Int32)), (.ref a)])) (fun t_ k_ => XS.iloadN X102.here hx rfl (hb hby d_jdk_42_method_151_code_10) rfl k_) ?_
  have F103 : Fld Z h102 a "java/lang/String" "coder" "B" (u2) := (P2.other W102 (Or.inr (slot_ne (Or.inr (hw _ (List.mem_of_getElem? (i := 27) rfl))) (Or.inr (hw _ (List.mem_of_getElem? (i := 26) rfl))) (by decide) (t := .byte) (t' := (.array .byte)) (by decide) (by decide))))
  have F104 : Exa Z h102 a "java/lang/String" := (P0.wr W102)
  have Od105 : Old Z n0 h102 := (X00.wr W102 P3)
  have Kp106 : Keep h0 h102 [a] := ((Keep.refl h0 [a]).wr W102 (Or.inl (List.mem_of_getElem? (i := 0) rfl)))
  obtain ⟨T107, h107, X107, e107, W107, st107⟩ := putFN X102 hx hZ hown (hw _ (List.mem_of_getElem? (i := 31) rfl)) Via.refl e102 F103 F104 (Or.inr ⟨(hw _ (List.mem_of_getElem? (i := 27) rfl)), rfl, hnm⟩) (hw _ (List.mem_of_getElem? (i := 11) rfl)) (ty := .byte) (v' := (.int (0 : Int32))) (by decide) rfl rfl (g := (mkF m 11 #[.val (.ref a), .val (.ref t), .val (.int (0 : Int32))] [(.int (0 : Int32)), (.ref a)])) rfl rfl (hb hby d_jdk_42_method_151_code_11)
  have Fw107 : Fld Z h107 a "java/lang/String" "coder" "B" (.int (0 : Int32)) := F103.same W107
  have N107 := Fr.snoc X107 N102 P3
  refine Go.by (T' := T107) (g' := (mkF m 14 #[.val (.ref a), .val (.ref t), .val (.int (0 : Int32))] [])) (fun t_ k_ => st107 _ k_) ?_
  have F108 : Exa Z h107 a "java/lang/String" := (F104.wr W107)
  have F109 : Fld Z h107 a "java/lang/String" "value" "[B" (.ref t) := (Fw102.other W107 (Or.inr (slot_ne (Or.inr (hw _ (List.mem_of_getElem? (i := 26) rfl))) (Or.inr (hw _ (List.mem_of_getElem? (i := 27) rfl))) (by decide) (t := (.array .byte)) (t' := .byte) (by decide) (by decide))))
  have Kp110 : Keep h0 h107 [a] := (Kp106.wr W107 (Or.inl (List.mem_of_getElem? (i := 0) rfl)))
  refine Go.fin X107 (v := none) (fun _ => rfl) hlk (by decide) (by decide) ?_ (fun fs hr => X107.returnOut hx Bd.returns (hb hby d_jdk_42_method_151_code_14) hr)
  show Q_strBB Z a t u1 u2 h0 n0 _ T107.heap _
  rw [e107]
  exact ⟨rfl, N107, Kp110, F108, F109, Fw107⟩
def Q_valueOf (Z : State) (x : Int32) (G1 : Int32) (h0 : Heap) (n0 : Nat) (v : Option Value) (h : Heap) (L : List Loc) : Prop := ∃ (b : Addr) (t : Addr) (kb : ClassId), v = some (.ref b) ∧ Fr n0 L ∧ Keep h0 h [] ∧ h0.size ≤ b ∧ h0.size ≤ t ∧ ¬ (t = b) ∧ Exa Z h b "java/lang/String" ∧ Fld Z h b "java/lang/String" "value" "[B" (.ref t) ∧ Fld Z h b "java/lang/String" "coder" "B" (.int (0 : Int32)) ∧ Arv Z h t kb .byte (1 : Int32) [(.int (x.toInt8.toInt32))] (.int (0 : Int32))
theorem ef_valueOf (m : MethodId) (x : Int32) : entryFrame m #[(.int x)] 1 = mkF m 0 #[.val (.int x)] [] := by first | (simp [entryFrame, mkF, argsToLocals, Value.category]; done) | rfl
theorem d_jdk_42_method_139_code_0 : decode jdk_42_method_139_code 0 = .ok (.getstatic 38, 3) := by decide +kernel
theorem d_jdk_42_method_139_code_3 : decode jdk_42_method_139_code 3 = .ok (.ifCond .eq 23, 3) := by decide +kernel
theorem d_jdk_42_method_139_code_6 : decode jdk_42_method_139_code 6 = .ok (.iload_n 0, 1) := by decide +kernel
theorem d_jdk_42_method_139_code_7 : decode jdk_42_method_139_code 7 = .ok (.invokestatic 1015, 3) := by decide +kernel
theorem pd_0 : parseMethodDescriptor "(C)Z" = some ⟨[.char], some .boolean⟩ := by decide +kernel
theorem d_jdk_42_method_139_code_10 : decode jdk_42_method_139_code 10 = .ok (.ifCond .eq 16, 3) := by decide +kernel
theorem d_jdk_42_method_139_code_13 : decode jdk_42_method_139_code 13 = .ok (.new 10, 3) := by decide +kernel
theorem d_jdk_42_method_139_code_16 : decode jdk_42_method_139_code 16 = .ok (.dup, 1) := by decide +kernel
theorem d_jdk_42_method_139_code_17 : decode jdk_42_method_139_code 17 = .ok (.iload_n 0, 1) := by decide +kernel
theorem d_jdk_42_method_139_code_18 : decode jdk_42_method_139_code 18 = .ok (.invokestatic 1018, 3) := by decide +kernel
theorem pd_1 : parseMethodDescriptor "(C)[B" = some ⟨[.char], some (.array .byte)⟩ := by decide +kernel
theorem d_jdk_42_method_139_code_21 : decode jdk_42_method_139_code 21 = .ok (.iconst 0, 1) := by decide +kernel
theorem d_jdk_42_method_139_code_22 : decode jdk_42_method_139_code 22 = .ok (.invokespecial 209, 3) := by decide +kernel
theorem pd_2 : parseMethodDescriptor "([BB)V" = some ⟨[(.array .byte), .byte], none⟩ := by decide +kernel
theorem d_jdk_42_method_139_code_25 : decode jdk_42_method_139_code 25 = .ok (.areturn, 1) := by decide +kernel
set_option maxRecDepth 65536 in
set_option maxHeartbeats 40000000 in
theorem rm_valueOf (l : Launch) (Z : State) (a0 : Array Value) (hw : ∀ d ∈ tables_1, d.before a0 Z = true) (ws : List Jvm.Cond) (x : Int32) (G1 : Int32) (h0 : Heap) (n0 : Nat) (X00 : Old Z n0 h0) (P0 : Sta Z Z.heap "java/lang/String" "COMPACT_STRINGS" "Z" (.int G1)) (hCS : ¬ (G1 = (0 : Int32))) (hx255 : ¬ ((255 : Int32) < x)) :
    MetFree l (⟨"java/lang/String", "valueOf", "(C)Ljava/lang/String;"⟩ : MethodName) (head1 (Jvm.Cond.code (⟨"java/lang/String", "valueOf", "(C)Ljava/lang/String;"⟩ : MethodName) jdk_42_method_139_code 1 (some (.object "java/lang/String")) :: ws) ({ frames := 2, cells := 2, slots := 5, locals := 40 } : Room)) (fun aa_ U => aa_ = #[(.int x)] ∧ Z.Warmed39 U.vm ∧ U.heap = h0) (fun _ _ _ _ _ => True) (fun _ U o U' => ∃ v L, o = .returned v ∧ Q_valueOf Z x G1 h0 n0 v U'.heap L ∧ FrameEnd U o U' L ({ frames := 2, cells := 2, slots := 5, locals := 40 } : Room).cells ({ frames := 2, cells := 2, slots := 5, locals := 40 } : Room).slots) := by
  refine MetFree.of_bodySF (plainFor_of_name pn_1) hisR ?_
  intro p e s m args below meth c s₁ Bd hml0 hP hK
  obtain ⟨rfl, hZ, hh⟩ := hP
  have hx := Bd.exec
  have hby := Bd.bytes
  have hml : c.maxLocals = 1 := hml0
  have hown : s.vm.findClass "java/lang/String" = some m.cls := findClass_of_methodNamed Bd.named
  have hnm := (name_of_methodNamed Bd.named Bd.method).1
  have hlk : meth.locks = false := BodyLoose.notSynchronized Bd
  have X0 : Stand p l e ({ frames := 2, cells := 2, slots := 5, locals := 40 } : Room) s m #[(.int x)] below meth c s₁ [] 0 0 := Stand.of_body Bd
  have e0 : s₁.heap = h0 := by rw [← hh, Bd.state]; rfl
  have N0 := Fr.nil n0
  suffices G : Go p e below s (Q_valueOf Z x G1 h0 n0) 2 5 s₁ (mkF m 0 #[.val (.int x)] []) by
    obtain ⟨s2, o, h1, h2⟩ := G
    exact ⟨s2, o, castTop (ef_valueOf m x) h1, h2⟩
  obtain ⟨T101, X101, e101, st101⟩ := getS2 X0 hx hZ hown (host := "") (Or.inl (hw _ (List.mem_of_getElem? (i := 63) rfl))) Via.refl e0 (P0.ext X00.2) (g := (mkF m 0 #[.val (.int x)] [])) rfl (hb hby d_jdk_42_method_139_code_0)
  refine Go.by (T' := T101) (g' := (mkF m 3 #[.val (.int x)] [(.int G1)])) (fun t_ k_ => st101 _ k_) ?_
  refine Go.by (T' := T101) (g' := (mkF m 6 #[.val (.int x)] [])) (fun t_ k_ => XS.ifNo X101.here hx rfl (hb hby d_jdk_42_method_139_code_3) rfl ((if0 _ _).trans (feq hCS).1) k_) ?_
  refine Go.by (T' := T101) (g' := (mkF m 7 #[.val (.int x)] [(.int x)])) (fun t_ k_ => XS.iloadN X101.here hx rfl (hb hby d_jdk_42_method_139_code_6) rfl k_) ?_
  obtain ⟨_, _, ⟨T102, L102, k102, n102⟩, -, X102, ⟨Lc102, hQ102, l102, y102, z102⟩, st102⟩ := Jvm.LawKit.callS X101 hx (y := (⟨"java/lang/StringLatin1", "canEncode", "(C)Z"⟩ : MethodName)) hown (mvT hZ (hw _ (List.mem_of_getElem? (i := 81) rfl))) (mvT hZ (hw _ (List.mem_of_getElem? (i := 82) rfl))) (mvT hZ (hw _ (List.mem_of_getElem? (i := 66) rfl))) (mvT hZ (hw _ (List.mem_of_getElem? (i := 83) rfl))) (by decide) (backOf (W := 0) (rm_canEnc l Z a0 hw [] x h0 n0 X00 hx255) hZ (hw _ (List.mem_of_getElem? (i := 83) rfl)) (hw _ (List.mem_of_getElem? (i := 66) rfl)) (by decide) (by decide)) (g := (mkF m 7 #[.val (.int x)] [(.int x)])) rfl (by rw [hml]; rfl) (argsL := [(.int x)]) (rest := []) (lenOf pd_0 rfl) rfl (by show 2 * 0 + _ ≤ _; exact Nat.le_of_eq rfl) (hb hby d_jdk_42_method_139_code_7) (fun _ _ => ⟨rfl, e101, (by decide : 0 + 0 ≤ _), (by decide : 0 + 0 ≤ _)⟩)
  dsimp only [Pt.U, Pt.locs, Pt.cells, Pt.slots] at X102 l102 y102 z102 st102 hQ102
  subst l102 y102 z102
  obtain ⟨rfl, N102q, e102⟩ := hQ102
  have N102 := Fr.app N0 N102q
  refine Go.by (T' := T102) (g' := (mkF m 10 #[.val (.int x)] [(.int 1)])) (fun t_ k_ => st102 _ k_) ?_
  refine Go.by (T' := T102) (g' := (mkF m 13 #[.val (.int x)] [])) (fun t_ k_ => XS.ifNo X102.here hx rfl (hb hby d_jdk_42_method_139_code_10) rfl ((if0 _ _).trans (feq (by decide)).1) k_) ?_
  obtain ⟨T103, h103, X103, e103, E103, A103, Df103, -, st103⟩ := newO X102 hx hZ hown (hw _ (List.mem_of_getElem? (i := 62) rfl)) (hw _ (List.mem_of_getElem? (i := 11) rfl)) (hw _ (List.mem_of_getElem? (i := 12) rfl)) e102 (g := (mkF m 13 #[.val (.int x)] [])) rfl (hb hby d_jdk_42_method_139_code_13) (by decide) (by decide)
  obtain ⟨b103, g103⟩ : ∃ z, z = h0.size := ⟨_, rfl⟩
  rw [← g103] at A103 Df103 st103
  have ge_b103 : n0 ≤ b103 := Nat.le_trans X00.sz (Nat.le_of_eq g103.symm)
  have sz_b103 : h0.size ≤ b103 := Nat.le_trans (Keep.refl h0 []).1 (Nat.le_of_eq g103.symm)
  have F104 : Fld Z h103 b103 "java/lang/String" "value" "[B" .null := Df103 (Or.inr (hw _ (List.mem_of_getElem? (i := 26) rfl))) (ty := (.array .byte)) (by decide)
  have F105 : Fld Z h103 b103 "java/lang/String" "coder" "B" (.int (0 : Int32)) := Df103 (Or.inr (hw _ (List.mem_of_getElem? (i := 27) rfl))) (ty := .byte) (by decide)
  refine Go.by (T' := T103) (g' := (mkF m 16 #[.val (.int x)] [(.ref b103)])) (fun t_ k_ => st103 _ k_) ?_
  refine Go.by (T' := T103) (g' := (mkF m 17 #[.val (.int x)] [(.ref b103), (.ref b103)])) (fun t_ k_ => XS.dup X103.here hx rfl (hb hby d_jdk_42_method_139_code_16) rfl rfl k_) ?_
  refine Go.by (T' := T103) (g' := (mkF m 18 #[.val (.int x)] [(.int x), (.ref b103), (.ref b103)])) (fun t_ k_ => XS.iloadN X103.here hx rfl (hb hby d_jdk_42_method_139_code_17) rfl k_) ?_
  have Od106 : Old Z n0 h103 := (X00.ext E103)
  obtain ⟨_, _, ⟨T107, L107, k107, n107⟩, -, X107, ⟨Lc107, hQ107, l107, y107, z107⟩, st107⟩ := Jvm.LawKit.callS X103 hx (y := (⟨"java/lang/StringLatin1", "toBytes", "(C)[B"⟩ : MethodName)) hown (mvT hZ (hw _ (List.mem_of_getElem? (i := 84) rfl))) (mvT hZ (hw _ (List.mem_of_getElem? (i := 85) rfl))) (mvT hZ (hw _ (List.mem_of_getElem? (i := 66) rfl))) (mvT hZ (hw _ (List.mem_of_getElem? (i := 86) rfl))) (by decide) (backOf (W := 2) (rm_toBytes l Z a0 hw [] x h103 n0 Od106 ) hZ (hw _ (List.mem_of_getElem? (i := 86) rfl)) (hw _ (List.mem_of_getElem? (i := 66) rfl)) (by decide) (by decide)) (g := (mkF m 18 #[.val (.int x)] [(.int x), (.ref b103), (.ref b103)])) rfl (by rw [hml]; rfl) (argsL := [(.int x)]) (rest := [(.ref b103), (.ref b103)]) (lenOf pd_1 rfl) rfl (by show 2 * 0 + _ ≤ _; exact Nat.le_of_eq rfl) (hb hby d_jdk_42_method_139_code_18) (fun _ _ => ⟨rfl, e103, (by decide : 1 + 1 ≤ _), (by decide : 4 + 1 ≤ _)⟩)
  dsimp only [Pt.U, Pt.locs, Pt.cells, Pt.slots] at X107 l107 y107 z107 st107 hQ107
  subst l107 y107 z107
  obtain ⟨t_107, kb_107, rfl, N107q, K107, G107_0, G107_1⟩ := hQ107
  have N107 := Fr.app N102 N107q
  have ge_t_107 : n0 ≤ t_107 := Nat.le_trans Od106.sz G107_0
  have Kp108 : Keep h0 h103 [] := ((Keep.refl h0 []).ext E103)
  have sz_t_107 : h0.size ≤ t_107 := Nat.le_trans Kp108.1 G107_0
  have ne_b103_t_107 : ¬ (b103 = t_107) := Nat.ne_of_lt (Nat.lt_of_lt_of_le A103.lt G107_0)
  refine Go.by (T' := T107) (g' := (mkF m 21 #[.val (.int x)] [(.ref t_107), (.ref b103), (.ref b103)])) (fun t_ k_ => st107 _ k_) ?_
  refine Go.by (T' := T107) (g' := (mkF m 22 #[.val (.int x)] [(.int (0 : Int32)), (.ref t_107), (.ref b103), (.ref b103)])) (fun t_ k_ => XS.iconst X107.here hx rfl (hb hby d_jdk_42_method_139_code_21) k_) ?_
  have F109 : Exa Z T107.heap b103 "java/lang/String" := (A103.keep K107)
  have F110 : Fld Z T107.heap b103 "java/lang/String" "value" "[B" .null := (F104.keep K107 nin0)
  have F111 : Fld Z T107.heap b103 "java/lang/String" "coder" "B" (.int (0 : Int32)) := (F105.keep K107 nin0)
  have Od112 : Old Z n0 T107.heap := (Od106.keep K107 all0)
  have Kp113 : Keep h0 T107.heap [] := (Kp108.trans K107 all0)
  obtain ⟨_, _, ⟨T114, L114, k114, n114⟩, -, X114, ⟨Lc114, hQ114, l114, y114, z114⟩, st114⟩ := X107.specialBack hx (y := (⟨"java/lang/String", "<init>", "([BB)V"⟩ : MethodName)) rfl hown (mvT hZ (hw _ (List.mem_of_getElem? (i := 87) rfl))) (mvT hZ (hw _ (List.mem_of_getElem? (i := 88) rfl))) (mvT hZ (hw _ (List.mem_of_getElem? (i := 89) rfl))) (by decide) (backOf (W := 1) (rm_strBB l Z a0 hw [] b103 t_107 .null (.int (0 : Int32)) T107.heap n0 Od112 F109 F110 F111 ge_b103) hZ (hw _ (List.mem_of_getElem? (i := 89) rfl)) (hw _ (List.mem_of_getElem? (i := 12) rfl)) (by decide) (by decide)) (g := (mkF m 22 #[.val (.int x)] [(.int (0 : Int32)), (.ref t_107), (.ref b103), (.ref b103)])) rfl (by rw [hml]; rfl) (Steps.refl _) (a := b103) (argsL := [(.ref t_107), (.int (0 : Int32))]) (rest := [(.ref b103)]) (lenOf pd_2 rfl) rfl (by show 2 * 0 + _ ≤ _; exact Nat.le_of_eq rfl) (hb hby d_jdk_42_method_139_code_22) (fun _ _ => ⟨rfl, rfl, (by decide : 2 + 0 ≤ _), (by decide : 5 + 0 ≤ _)⟩)
  dsimp only [Pt.U, Pt.locs, Pt.cells, Pt.slots] at X114 l114 y114 z114 st114 hQ114
  subst l114 y114 z114
  obtain ⟨rfl, N114q, K114, G114_0, G114_1, G114_2⟩ := hQ114
  have N114 := Fr.app N107 N114q
  refine Go.by (T' := T114) (g' := (mkF m 25 #[.val (.int x)] [(.ref b103)])) (fun t_ k_ => st114.trans k_) ?_
  have F115 : Arv Z T114.heap t_107 kb_107 .byte (1 : Int32) [(.int (x.toInt8.toInt32))] (.int (0 : Int32)) := (G107_1.keep K114 (ninS (Ne.symm ne_b103_t_107) nin0))
  have Kp116 : Keep h0 T114.heap [] := (Kp113.trans K114 (allS (Or.inr sz_b103) all0))
  refine Go.fin X114 (v := some (.ref b103)) (fun h => by rw [Bd.returns] at h; cases h) hlk (by decide) (by decide) ?_ (fun fs hr => retR X114 hx (w := (.ref b103)) Bd.returns rfl rfl rfl (hb hby d_jdk_42_method_139_code_25) hr)
  show Q_valueOf Z x G1 h0 n0 _ T114.heap _
  exact ⟨b103, t_107, kb_107, rfl, N114, Kp116, sz_b103, sz_t_107, (Ne.symm ne_b103_t_107), G114_0, G114_1, G114_2, F115⟩
def Q_len (Z : State) (q : Int32) (h0 : Heap) (n0 : Nat) (v : Option Value) (h : Heap) (L : List Loc) : Prop := ∃ (N : Nat), v = some (.int (Int32.ofNat N)) ∧ Fr n0 L ∧ h = h0 ∧ N ≤ 2
theorem pn_2 : plainName "com/example/lorikeet/lorikeet/formats/TrecDocumentEqualsPinLaw" = true := by first | (simp [plainName, overriddenIn]; done) | decide +kernel
theorem ef_len (m : MethodId) (q : Int32) : entryFrame m #[(.int q)] 1 = mkF m 0 #[.val (.int q)] [] := by first | (simp [entryFrame, mkF, argsToLocals, Value.category]; done) | rfl
theorem d_method_2_code_0 : decode method_2_code 0 = .ok (.iload_n 0, 1) := by decide +kernel
theorem d_method_2_code_1 : decode method_2_code 1 = .ok (.bipush 16, 2) := by decide +kernel
theorem d_method_2_code_3 : decode method_2_code 3 = .ok (.iushr, 1) := by decide +kernel
theorem d_method_2_code_4 : decode method_2_code 4 = .ok (.iconst 3, 1) := by decide +kernel
theorem d_method_2_code_5 : decode method_2_code 5 = .ok (.iand, 1) := by decide +kernel
theorem d_method_2_code_6 : decode method_2_code 6 = .ok (.iconst 3, 1) := by decide +kernel
theorem d_method_2_code_7 : decode method_2_code 7 = .ok (.irem, 1) := by decide +kernel
theorem d_method_2_code_8 : decode method_2_code 8 = .ok (.ireturn, 1) := by decide +kernel
set_option maxRecDepth 65536 in
set_option maxHeartbeats 40000000 in
theorem rm_len (l : Launch) (Z : State) (a0 : Array Value) (hw : ∀ d ∈ tables_1, d.before a0 Z = true) (ws : List Jvm.Cond) (q : Int32) (h0 : Heap) (n0 : Nat) (X00 : Old Z n0 h0)  :
    MetFree l (⟨"com/example/lorikeet/lorikeet/formats/TrecDocumentEqualsPinLaw", "len", "(I)I"⟩ : MethodName) (head1 (Jvm.Cond.code (⟨"com/example/lorikeet/lorikeet/formats/TrecDocumentEqualsPinLaw", "len", "(I)I"⟩ : MethodName) method_2_code 1 (some .int) :: ws) ({ frames := 0, cells := 0, slots := 0, locals := 0 } : Room)) (fun aa_ U => aa_ = #[(.int q)] ∧ Z.Warmed39 U.vm ∧ U.heap = h0) (fun _ _ _ _ _ => True) (fun _ U o U' => ∃ v L, o = .returned v ∧ Q_len Z q h0 n0 v U'.heap L ∧ FrameEnd U o U' L ({ frames := 0, cells := 0, slots := 0, locals := 0 } : Room).cells ({ frames := 0, cells := 0, slots := 0, locals := 0 } : Room).slots) := by
  refine MetFree.of_bodySF (plainFor_of_name pn_2) hisR ?_
  intro p e s m args below meth c s₁ Bd hml0 hP hK
  obtain ⟨rfl, hZ, hh⟩ := hP
  have hx := Bd.exec
  have hby := Bd.bytes
  have hml : c.maxLocals = 1 := hml0
  have hown : s.vm.findClass "com/example/lorikeet/lorikeet/formats/TrecDocumentEqualsPinLaw" = some m.cls := findClass_of_methodNamed Bd.named
  have hnm := (name_of_methodNamed Bd.named Bd.method).1
  have hlk : meth.locks = false := BodyLoose.notSynchronized Bd
  have X0 : Stand p l e ({ frames := 0, cells := 0, slots := 0, locals := 0 } : Room) s m #[(.int q)] below meth c s₁ [] 0 0 := Stand.of_body Bd
  have e0 : s₁.heap = h0 := by rw [← hh, Bd.state]; rfl
  have N0 := Fr.nil n0
  suffices G : Go p e below s (Q_len Z q h0 n0) 0 0 s₁ (mkF m 0 #[.val (.int q)] []) by
    obtain ⟨s2, o, h1, h2⟩ := G
    exact ⟨s2, o, castTop (ef_len m q) h1, h2⟩
  refine Go.by (T' := s₁) (g' := (mkF m 1 #[.val (.int q)] [(.int q)])) (fun t_ k_ => XS.iloadN X0.here hx rfl (hb hby d_method_2_code_0) rfl k_) ?_
  refine Go.by (T' := s₁) (g' := (mkF m 3 #[.val (.int q)] [(.int (16 : Int32)), (.int q)])) (fun t_ k_ => XS.bipush X0.here hx rfl (hb hby d_method_2_code_1) k_) ?_
  refine Go.by (T' := s₁) (g' := (mkF m 4 #[.val (.int q)] [(.int ((q.toUInt32 >>> ((16 : Int32) &&& 31).toUInt32).toInt32))])) (fun t_ k_ => XS.iushr X0.here hx rfl (hb hby d_method_2_code_3) rfl k_) ?_
  refine Go.by (T' := s₁) (g' := (mkF m 5 #[.val (.int q)] [(.int (3 : Int32)), (.int ((q.toUInt32 >>> ((16 : Int32) &&& 31).toUInt32).toInt32))])) (fun t_ k_ => XS.iconst X0.here hx rfl (hb hby d_method_2_code_4) k_) ?_
  refine Go.by (T' := s₁) (g' := (mkF m 6 #[.val (.int q)] [(.int (((q.toUInt32 >>> ((16 : Int32) &&& 31).toUInt32).toInt32) &&& (3 : Int32)))])) (fun t_ k_ => XS.iand X0.here hx rfl (hb hby d_method_2_code_5) rfl k_) ?_
  refine Go.by (T' := s₁) (g' := (mkF m 7 #[.val (.int q)] [(.int (3 : Int32)), (.int (((q.toUInt32 >>> ((16 : Int32) &&& 31).toUInt32).toInt32) &&& (3 : Int32)))])) (fun t_ k_ => XS.iconst X0.here hx rfl (hb hby d_method_2_code_6) k_) ?_
  refine Go.by (T' := s₁) (g' := (mkF m 8 #[.val (.int q)] [(.int ((((q.toUInt32 >>> ((16 : Int32) &&& 31).toUInt32).toInt32) &&& (3 : Int32)) % (3 : Int32)))])) (fun t_ k_ => iremM X0 hx rfl (hb hby d_method_2_code_7) rfl (by decide) k_) ?_
  obtain ⟨N, hN, eN⟩ := own_mod3 ((q.toUInt32 >>> ((16 : Int32) &&& 31).toUInt32).toInt32)
  rw [eN]
  refine Go.fin X0 (v := some (.int (Int32.ofNat N))) (fun h => by rw [Bd.returns] at h; cases h) hlk (by decide) (by decide) ?_ (fun fs hr => retI X0 hx Bd.returns (hb hby d_method_2_code_8) hr)
  show Q_len Z q h0 n0 _ s₁.heap _
  rw [e0]
  exact ⟨N, rfl, N0, rfl, hN⟩
def Q_strE (Z : State) (xa : Addr) (cb : Addr) (h0 : Heap) (n0 : Nat) (v : Option Value) (h : Heap) (L : List Loc) : Prop := ∃ (t : Addr) (kb : ClassId), v = none ∧ Fr n0 L ∧ Keep h0 h [xa] ∧ Exa Z h xa "java/lang/String" ∧ Fld Z h xa "java/lang/String" "value" "[B" (.ref t) ∧ Fld Z h xa "java/lang/String" "coder" "B" (.int (0 : Int32)) ∧ Arv Z h t kb .byte (0 : Int32) [] (.int (0 : Int32))
theorem ef_strE (m : MethodId) (xa : Addr) (cb : Addr) : entryFrame m #[(.ref xa), (.ref cb), (.int (0 : Int32)), (.int (0 : Int32)), .null] 6 = mkF m 0 #[.val (.ref xa), .val (.ref cb), .val (.int (0 : Int32)), .val (.int (0 : Int32)), .val .null, .unset] [] := by first | (simp [entryFrame, mkF, argsToLocals, Value.category]; done) | rfl
theorem d_jdk_42_method_149_code_0 : decode jdk_42_method_149_code 0 = .ok (.aload_n 0, 1) := by decide +kernel
theorem d_jdk_42_method_149_code_1 : decode jdk_42_method_149_code 1 = .ok (.invokespecial 1, 3) := by decide +kernel
theorem d_jdk_42_method_149_code_4 : decode jdk_42_method_149_code 4 = .ok (.iload_n 3, 1) := by decide +kernel
theorem d_jdk_42_method_149_code_5 : decode jdk_42_method_149_code 5 = .ok (.ifCond .ne 22, 3) := by decide +kernel
theorem d_jdk_42_method_149_code_8 : decode jdk_42_method_149_code 8 = .ok (.aload_n 0, 1) := by decide +kernel
theorem d_jdk_42_method_149_code_9 : decode jdk_42_method_149_code 9 = .ok (.ldc 7, 2) := by decide +kernel
theorem d_jdk_42_method_149_code_11 : decode jdk_42_method_149_code 11 = .ok (.getfield 9, 3) := by decide +kernel
theorem d_jdk_42_method_149_code_14 : decode jdk_42_method_149_code 14 = .ok (.putfield 9, 3) := by decide +kernel
theorem d_jdk_42_method_149_code_17 : decode jdk_42_method_149_code 17 = .ok (.aload_n 0, 1) := by decide +kernel
theorem d_jdk_42_method_149_code_18 : decode jdk_42_method_149_code 18 = .ok (.ldc 7, 2) := by decide +kernel
theorem d_jdk_42_method_149_code_20 : decode jdk_42_method_149_code 20 = .ok (.getfield 15, 3) := by decide +kernel
theorem d_jdk_42_method_149_code_23 : decode jdk_42_method_149_code 23 = .ok (.putfield 15, 3) := by decide +kernel
theorem d_jdk_42_method_149_code_26 : decode jdk_42_method_149_code 26 = .ok (.return_, 1) := by decide +kernel
set_option maxRecDepth 65536 in
set_option maxHeartbeats 40000000 in
theorem rm_strE (l : Launch) (Z : State) (a0 : Array Value) (hw : ∀ d ∈ tables_1, d.before a0 Z = true) (ws : List Jvm.Cond) (xa : Addr) (cb : Addr) (h0 : Heap) (n0 : Nat) (X00 : Old Z n0 h0) (P0 : Exa Z h0 xa "java/lang/String") (P1 : Fld Z h0 xa "java/lang/String" "value" "[B" .null) (P2 : Fld Z h0 xa "java/lang/String" "coder" "B" (.int (0 : Int32))) (P3 : n0 ≤ xa) :
    MetFree l (⟨"java/lang/String", "<init>", "([CIILjava/lang/Void;)V"⟩ : MethodName) (head1 (Jvm.Cond.code (⟨"java/lang/String", "<init>", "([CIILjava/lang/Void;)V"⟩ : MethodName) jdk_42_method_149_code 6 none :: ws) ({ frames := 1, cells := 4, slots := 8, locals := 12 } : Room)) (fun aa_ U => aa_ = #[(.ref xa), (.ref cb), (.int (0 : Int32)), (.int (0 : Int32)), .null] ∧ Z.Warmed39 U.vm ∧ U.heap = h0 ∧ CHv Z consts_1 U.vm h0) (fun _ _ _ _ _ => True) (fun _ U o U' => ∃ v L, o = .returned v ∧ Q_strE Z xa cb h0 n0 v U'.heap L ∧ CHr Z consts_1 U.vm U.heap U'.vm U'.heap ∧ ReturnedEndW U o U' L ({ frames := 1, cells := 4, slots := 8, locals := 12 } : Room).cells ({ frames := 1, cells := 4, slots := 8, locals := 12 } : Room).slots) := by
  refine MetFree.of_bodySF (plainFor_of_name pn_1) hisR ?_
  intro p e s m args below meth c s₁ Bd hml0 hP hK
  obtain ⟨rfl, hZ, hh, hC0⟩ := hP
  have hx := Bd.exec
  have hby := Bd.bytes
  have hml : c.maxLocals = 6 := hml0
  have hown : s.vm.findClass "java/lang/String" = some m.cls := findClass_of_methodNamed Bd.named
  have hnm := (name_of_methodNamed Bd.named Bd.method).1
  have hlk : meth.locks = false := BodyLoose.notSynchronized Bd
  have X0 : Stand p l e ({ frames := 1, cells := 4, slots := 8, locals := 12 } : Room) s m #[(.ref xa), (.ref cb), (.int (0 : Int32)), (.int (0 : Int32)), .null] below meth c s₁ [] 0 0 := Stand.of_body Bd
  have e0 : s₁.heap = h0 := by rw [← hh, Bd.state]; rfl
  have N0 := Fr.nil n0
  suffices G : GoH Z consts_1 p e below s (Q_strE Z xa cb h0 n0) 4 8 s₁ (mkF m 0 #[.val (.ref xa), .val (.ref cb), .val (.int (0 : Int32)), .val (.int (0 : Int32)), .val .null, .unset] []) by
    obtain ⟨s2, o, h1, h2⟩ := G
    exact ⟨s2, o, castTop (ef_strE m xa cb) h1, h2⟩
  have hS : s.Since s.vm 0 := (State.WarmedH.refl s).since 0
  have hC00 : CHr Z consts_1 s.vm h0 s.vm h0 := CHr.refl hC0
  have SX : Safe Z consts_1 s.vm h0 xa := own_safe hZ.alike P0 (hw _ (List.mem_of_getElem? (i := 11) rfl)) P1
  refine GoH.by (T' := s₁) (g' := (mkF m 1 #[.val (.ref xa), .val (.ref cb), .val (.int (0 : Int32)), .val (.int (0 : Int32)), .val .null, .unset] [(.ref xa)])) (fun t_ k_ => XS.aloadN X0.here hx rfl (hb hby d_jdk_42_method_149_code_0) rfl rfl k_) ?_
  obtain ⟨T101, X101, e101, st101⟩ := initO X0 hx hZ hown (hw _ (List.mem_of_getElem? (i := 21) rfl)) (hw _ (List.mem_of_getElem? (i := 22) rfl)) (hw _ (List.mem_of_getElem? (i := 23) rfl)) e0 (g := (mkF m 1 #[.val (.ref xa), .val (.ref cb), .val (.int (0 : Int32)), .val (.int (0 : Int32)), .val .null, .unset] [(.ref xa)])) rfl (by rw [hml]; rfl) rfl (hb hby d_jdk_42_method_149_code_1) (by decide) (W := 0) (by show 2 * 0 + _ ≤ _; exact Nat.le_of_eq rfl) (by decide)
  refine GoH.by (T' := T101) (g' := (mkF m 4 #[.val (.ref xa), .val (.ref cb), .val (.int (0 : Int32)), .val (.int (0 : Int32)), .val .null, .unset] [])) (fun t_ k_ => st101 _ k_) ?_
  refine GoH.by (T' := T101) (g' := (mkF m 5 #[.val (.ref xa), .val (.ref cb), .val (.int (0 : Int32)), .val (.int (0 : Int32)), .val .null, .unset] [(.int (0 : Int32))])) (fun t_ k_ => XS.iloadN X101.here hx rfl (hb hby d_jdk_42_method_149_code_4) rfl k_) ?_
  refine GoH.by (T' := T101) (g' := (mkF m 8 #[.val (.ref xa), .val (.ref cb), .val (.int (0 : Int32)), .val (.int (0 : Int32)), .val .null, .unset] [])) (fun t_ k_ => XS.ifNo X101.here hx rfl (hb hby d_jdk_42_method_149_code_5) rfl ((if0 _ _).trans (teq rfl).2) k_) ?_
  refine GoH.by (T' := T101) (g' := (mkF m 9 #[.val (.ref xa), .val (.ref cb), .val (.int (0 : Int32)), .val (.int (0 : Int32)), .val .null, .unset] [(.ref xa)])) (fun t_ k_ => XS.aloadN X101.here hx rfl (hb hby d_jdk_42_method_149_code_8) rfl rfl k_) ?_
  obtain ⟨r102, T102, h102, k1_102, t102, kk102, X102, e102, E102, hS102, hk102, hZ102, hown102, Ex102, Fc102, Fv102, Av102, lr102, lt102, hC102, Lt102, hne102, st102⟩ := ldcCH (s := s) (vm0 := s.vm) X101 hx hZ hown (hw _ (List.mem_of_getElem? (i := 24) rfl)) (own_atoms hw) e101 hS (Nat.zero_le _) (own_EW hw) (by simp [consts_1]) hC00.1 (vs := []) (z := (0 : Int32)) ⟨by decide, by decide⟩ (by decide) (by decide) (g := (mkF m 9 #[.val (.ref xa), .val (.ref cb), .val (.int (0 : Int32)), .val (.int (0 : Int32)), .val .null, .unset] [(.ref xa)])) rfl (hb hby d_jdk_42_method_149_code_9) (n := 0) (by decide) (by decide) (by decide) (by decide)
  have hS := hS102; have hZ := hZ102; have hown := hown102
  have hC102 := CHr.trans hC00 hC102
  refine GoH.by (T' := T102) (g' := (mkF m 11 #[.val (.ref xa), .val (.ref cb), .val (.int (0 : Int32)), .val (.int (0 : Int32)), .val .null, .unset] [(.ref r102), (.ref xa)])) (fun t_ k_ => st102 _ k_) ?_
  have F103 : Exa Z h102 xa "java/lang/String" := (P0.ext E102)
  have ne_t : ¬ (t102 = xa) := Ne.symm (Exa.neArv F103 Av102 (hw _ (List.mem_of_getElem? (i := 11) rfl)))
  obtain ⟨T104, X104, e104, st104⟩ := getF X102 hx hZ hown (host := "") (Or.inl (hw _ (List.mem_of_getElem? (i := 30) rfl))) Via.refl e102 Fv102 (g := (mkF m 11 #[.val (.ref xa), .val (.ref cb), .val (.int (0 : Int32)), .val (.int (0 : Int32)), .val .null, .unset] [(.ref r102), (.ref xa)])) rfl rfl (hb hby d_jdk_42_method_149_code_11)
  refine GoH.by (T' := T104) (g' := (mkF m 14 #[.val (.ref xa), .val (.ref cb), .val (.int (0 : Int32)), .val (.int (0 : Int32)), .val .null, .unset] [(.ref t102), (.ref xa)])) (fun t_ k_ => st104 _ k_) ?_
  have F105 : Fld Z h102 xa "java/lang/String" "value" "[B" .null := (P1.ext E102)
  have Od106 : Old Z n0 h102 := (X00.ext E102)
  have Kp107 : Keep h0 h102 [xa] := ((Keep.refl h0 [xa]).ext E102)
  have sf108 : Safe Z consts_1 T102.vm h102 xa := (CHr.safe hC102 P0.lt SX)
  obtain ⟨T109, h109, X109, e109, W109, st109⟩ := putF X104 hx hZ hown (host := "") (Or.inl (hw _ (List.mem_of_getElem? (i := 30) rfl))) Via.refl e104 F105 F103 (Or.inr ⟨(hw _ (List.mem_of_getElem? (i := 26) rfl)), rfl, hnm⟩) (hw _ (List.mem_of_getElem? (i := 11) rfl)) (ty := (.array .byte)) (by decide) rfl rfl (g := (mkF m 14 #[.val (.ref xa), .val (.ref cb), .val (.int (0 : Int32)), .val (.int (0 : Int32)), .val .null, .unset] [(.ref t102), (.ref xa)])) rfl rfl (hb hby d_jdk_42_method_149_code_14)
  have Fw109 : Fld Z h109 xa "java/lang/String" "value" "[B" (.ref t102) := F105.same W109
  have N109 := Fr.snoc X109 N0 P3
  refine GoH.by (T' := T109) (g' := (mkF m 17 #[.val (.ref xa), .val (.ref cb), .val (.int (0 : Int32)), .val (.int (0 : Int32)), .val .null, .unset] [])) (fun t_ k_ => st109 _ k_) ?_
  refine GoH.by (T' := T109) (g' := (mkF m 18 #[.val (.ref xa), .val (.ref cb), .val (.int (0 : Int32)), .val (.int (0 : Int32)), .val .null, .unset] [(.ref xa)])) (fun t_ k_ => XS.aloadN X109.here hx rfl (hb hby d_jdk_42_method_149_code_17) rfl rfl k_) ?_
  have hC110 := CHr.trans hC102 (CHr.wr W109 sf108 hC102.1)
  obtain ⟨r111, T111, h111, k1_111, t111, kk111, X111, e111, E111, hS111, hk111, hZ111, hown111, Ex111, Fc111, Fv111, Av111, lr111, lt111, hC111, Lt111, hne111, st111⟩ := ldcCH (s := s) (vm0 := T102.vm) X109 hx hZ hown (hw _ (List.mem_of_getElem? (i := 24) rfl)) (own_atoms hw) e109 hS (Nat.le_trans hk102 (Keep.of_wr W109).1) (own_EW hw) (by simp [consts_1]) hC110.1 (vs := []) (z := (0 : Int32)) ⟨by decide, by decide⟩ (by decide) (by decide) (g := (mkF m 18 #[.val (.ref xa), .val (.ref cb), .val (.int (0 : Int32)), .val (.int (0 : Int32)), .val .null, .unset] [(.ref xa)])) rfl (hb hby d_jdk_42_method_149_code_18) (n := 0) (by decide) (by decide) (by decide) (by decide)
  have hS := hS111; have hZ := hZ111; have hown := hown111
  have hC111 := CHr.trans hC110 hC111
  refine GoH.by (T' := T111) (g' := (mkF m 20 #[.val (.ref xa), .val (.ref cb), .val (.int (0 : Int32)), .val (.int (0 : Int32)), .val .null, .unset] [(.ref r111), (.ref xa)])) (fun t_ k_ => st111 _ k_) ?_
  obtain ⟨T112, X112, e112, st112⟩ := getF X111 hx hZ hown (host := "") (Or.inl (hw _ (List.mem_of_getElem? (i := 31) rfl))) Via.refl e111 Fc111 (g := (mkF m 20 #[.val (.ref xa), .val (.ref cb), .val (.int (0 : Int32)), .val (.int (0 : Int32)), .val .null, .unset] [(.ref r111), (.ref xa)])) rfl rfl (hb hby d_jdk_42_method_149_code_20)
  refine GoH.by (T' := T112) (g' := (mkF m 23 #[.val (.ref xa), .val (.ref cb), .val (.int (0 : Int32)), .val (.int (0 : Int32)), .val .null, .unset] [(.int (0 : Int32)), (.ref xa)])) (fun t_ k_ => st112 _ k_) ?_
  have F113 : Fld Z h111 xa "java/lang/String" "coder" "B" (.int (0 : Int32)) := (((P2.ext E102).other W109 (Or.inr (slot_ne (Or.inr (hw _ (List.mem_of_getElem? (i := 27) rfl))) (Or.inr (hw _ (List.mem_of_getElem? (i := 26) rfl))) (by decide) (t := .byte) (t' := (.array .byte)) (by decide) (by decide)))).ext E111)
  have F114 : Exa Z h111 xa "java/lang/String" := ((F103.wr W109).ext E111)
  have Od115 : Old Z n0 h111 := ((Od106.wr W109 P3).ext E111)
  have Kp116 : Keep h0 h111 [xa] := ((Kp107.wr W109 (Or.inl (List.mem_of_getElem? (i := 0) rfl))).ext E111)
  have sf117 : Safe Z consts_1 T111.vm h111 xa := (CHr.safe hC111 P0.lt SX)
  obtain ⟨T118, h118, X118, e118, W118, st118⟩ := putFN X112 hx hZ hown (hw _ (List.mem_of_getElem? (i := 31) rfl)) Via.refl e112 F113 F114 (Or.inr ⟨(hw _ (List.mem_of_getElem? (i := 27) rfl)), rfl, hnm⟩) (hw _ (List.mem_of_getElem? (i := 11) rfl)) (ty := .byte) (v' := (.int (0 : Int32))) (by decide) rfl rfl (g := (mkF m 23 #[.val (.ref xa), .val (.ref cb), .val (.int (0 : Int32)), .val (.int (0 : Int32)), .val .null, .unset] [(.int (0 : Int32)), (.ref xa)])) rfl rfl (hb hby d_jdk_42_method_149_code_23)
  have Fw118 : Fld Z h118 xa "java/lang/String" "coder" "B" (.int (0 : Int32)) := F113.same W118
  have N118 := Fr.snoc X118 N109 P3
  refine GoH.by (T' := T118) (g' := (mkF m 26 #[.val (.ref xa), .val (.ref cb), .val (.int (0 : Int32)), .val (.int (0 : Int32)), .val .null, .unset] [])) (fun t_ k_ => st118 _ k_) ?_
  have F119 : Exa Z h118 xa "java/lang/String" := (F114.wr W118)
  have F120 : Fld Z h118 xa "java/lang/String" "value" "[B" (.ref t102) := ((Fw109.ext E111).other W118 (Or.inr (slot_ne (Or.inr (hw _ (List.mem_of_getElem? (i := 26) rfl))) (Or.inr (hw _ (List.mem_of_getElem? (i := 27) rfl))) (by decide) (t := (.array .byte)) (t' := .byte) (by decide) (by decide))))
  have F121 : Arv Z h118 t102 kk102 .byte (0 : Int32) [] (.int (0 : Int32)) := (((Av102.other W109 ne_t).ext E111).other W118 ne_t)
  have Kp122 : Keep h0 h118 [xa] := (Kp116.wr W118 (Or.inl (List.mem_of_getElem? (i := 0) rfl)))
  have hC123 := CHr.trans hC111 (CHr.wr W118 sf117 hC111.1)
  refine GoH.fin hS X118 (by rw [e118]; exact (Nat.le_trans hk111 (Keep.of_wr W118).1)) (by rw [hh, e118]; exact CHr.trans hC123 (CHv.at (s := s) (vm0 := T111.vm) X118 hZ (own_EW hw) hC123.1)) (v := none) (fun _ => rfl) hlk (by decide) (by decide) ?_ (fun fs hr => X118.returnOut hx Bd.returns (hb hby d_jdk_42_method_149_code_26) hr)
  show Q_strE Z xa cb h0 n0 _ T118.heap _
  rw [e118]
  exact ⟨t102, kk102, rfl, N118, Kp122, F119, F120, Fw118, F121⟩
def Q_strC (Z : State) (xa : Addr) (cb : Addr) (kc : ClassId) (h0 : Heap) (n0 : Nat) (v : Option Value) (h : Heap) (L : List Loc) : Prop := ∃ (t : Addr) (kb : ClassId), v = none ∧ Fr n0 L ∧ Keep h0 h [xa] ∧ Exa Z h xa "java/lang/String" ∧ Fld Z h xa "java/lang/String" "value" "[B" (.ref t) ∧ Fld Z h xa "java/lang/String" "coder" "B" (.int (0 : Int32)) ∧ Arv Z h t kb .byte (0 : Int32) [] (.int (0 : Int32))
theorem ef_strC (m : MethodId) (xa : Addr) (cb : Addr) : entryFrame m #[(.ref xa), (.ref cb)] 2 = mkF m 0 #[.val (.ref xa), .val (.ref cb)] [] := by first | (simp [entryFrame, mkF, argsToLocals, Value.category]; done) | rfl
theorem d_jdk_42_method_3_code_0 : decode jdk_42_method_3_code 0 = .ok (.aload_n 0, 1) := by decide +kernel
theorem d_jdk_42_method_3_code_1 : decode jdk_42_method_3_code 1 = .ok (.aload_n 1, 1) := by decide +kernel
theorem d_jdk_42_method_3_code_2 : decode jdk_42_method_3_code 2 = .ok (.iconst 0, 1) := by decide +kernel
theorem d_jdk_42_method_3_code_3 : decode jdk_42_method_3_code 3 = .ok (.aload_n 1, 1) := by decide +kernel
theorem d_jdk_42_method_3_code_4 : decode jdk_42_method_3_code 4 = .ok (.arraylength, 1) := by decide +kernel
theorem d_jdk_42_method_3_code_5 : decode jdk_42_method_3_code 5 = .ok (.aconst_null, 1) := by decide +kernel
theorem d_jdk_42_method_3_code_6 : decode jdk_42_method_3_code 6 = .ok (.invokespecial 27, 3) := by decide +kernel
theorem pd_3 : parseMethodDescriptor "([CIILjava/lang/Void;)V" = some ⟨[(.array .char), .int, .int, (.object "java/lang/Void")], none⟩ := by decide +kernel
theorem d_jdk_42_method_3_code_9 : decode jdk_42_method_3_code 9 = .ok (.return_, 1) := by decide +kernel
set_option maxRecDepth 65536 in
set_option maxHeartbeats 40000000 in
theorem rm_strC (l : Launch) (Z : State) (a0 : Array Value) (hw : ∀ d ∈ tables_1, d.before a0 Z = true) (ws : List Jvm.Cond) (xa : Addr) (cb : Addr) (kc : ClassId) (h0 : Heap) (n0 : Nat) (X00 : Old Z n0 h0) (P0 : Exa Z h0 xa "java/lang/String") (P1 : Fld Z h0 xa "java/lang/String" "value" "[B" .null) (P2 : Fld Z h0 xa "java/lang/String" "coder" "B" (.int (0 : Int32))) (P3 : n0 ≤ xa) (P4 : Arv Z h0 cb kc .char (0 : Int32) [] (.int (0 : Int32))) :
    MetFree l (⟨"java/lang/String", "<init>", "([C)V"⟩ : MethodName) (head1 (Jvm.Cond.code (⟨"java/lang/String", "<init>", "([C)V"⟩ : MethodName) jdk_42_method_3_code 2 none :: ws) ({ frames := 2, cells := 4, slots := 8, locals := 29 } : Room)) (fun aa_ U => aa_ = #[(.ref xa), (.ref cb)] ∧ Z.Warmed39 U.vm ∧ U.heap = h0 ∧ CHv Z consts_1 U.vm h0) (fun _ _ _ _ _ => True) (fun _ U o U' => ∃ v L, o = .returned v ∧ Q_strC Z xa cb kc h0 n0 v U'.heap L ∧ CHr Z consts_1 U.vm U.heap U'.vm U'.heap ∧ ReturnedEndW U o U' L ({ frames := 2, cells := 4, slots := 8, locals := 29 } : Room).cells ({ frames := 2, cells := 4, slots := 8, locals := 29 } : Room).slots) := by
  refine MetFree.of_bodySF (plainFor_of_name pn_1) hisR ?_
  intro p e s m args below meth c s₁ Bd hml0 hP hK
  obtain ⟨rfl, hZ, hh, hC0⟩ := hP
  have hx := Bd.exec
  have hby := Bd.bytes
  have hml : c.maxLocals = 2 := hml0
  have hown : s.vm.findClass "java/lang/String" = some m.cls := findClass_of_methodNamed Bd.named
  have hnm := (name_of_methodNamed Bd.named Bd.method).1
  have hlk : meth.locks = false := BodyLoose.notSynchronized Bd
  have X0 : Stand p l e ({ frames := 2, cells := 4, slots := 8, locals := 29 } : Room) s m #[(.ref xa), (.ref cb)] below meth c s₁ [] 0 0 := Stand.of_body Bd
  have e0 : s₁.heap = h0 := by rw [← hh, Bd.state]; rfl
  have N0 := Fr.nil n0
  suffices G : GoH Z consts_1 p e below s (Q_strC Z xa cb kc h0 n0) 4 8 s₁ (mkF m 0 #[.val (.ref xa), .val (.ref cb)] []) by
    obtain ⟨s2, o, h1, h2⟩ := G
    exact ⟨s2, o, castTop (ef_strC m xa cb) h1, h2⟩
  have hS : s.Since s.vm 0 := (State.WarmedH.refl s).since 0
  have hC00 : CHr Z consts_1 s.vm h0 s.vm h0 := CHr.refl hC0
  refine GoH.by (T' := s₁) (g' := (mkF m 1 #[.val (.ref xa), .val (.ref cb)] [(.ref xa)])) (fun t_ k_ => XS.aloadN X0.here hx rfl (hb hby d_jdk_42_method_3_code_0) rfl rfl k_) ?_
  refine GoH.by (T' := s₁) (g' := (mkF m 2 #[.val (.ref xa), .val (.ref cb)] [(.ref cb), (.ref xa)])) (fun t_ k_ => XS.aloadN X0.here hx rfl (hb hby d_jdk_42_method_3_code_1) rfl rfl k_) ?_
  refine GoH.by (T' := s₁) (g' := (mkF m 3 #[.val (.ref xa), .val (.ref cb)] [(.int (0 : Int32)), (.ref cb), (.ref xa)])) (fun t_ k_ => XS.iconst X0.here hx rfl (hb hby d_jdk_42_method_3_code_2) k_) ?_
  refine GoH.by (T' := s₁) (g' := (mkF m 4 #[.val (.ref xa), .val (.ref cb)] [(.ref cb), (.int (0 : Int32)), (.ref cb), (.ref xa)])) (fun t_ k_ => XS.aloadN X0.here hx rfl (hb hby d_jdk_42_method_3_code_3) rfl rfl k_) ?_
  obtain ⟨cl101, Ar101, -, Sz101, Ng101, -, -⟩ := id P4
  refine GoH.by (T' := s₁) (g' := (mkF m 5 #[.val (.ref xa), .val (.ref cb)] [(.int (0 : Int32)), (.int (0 : Int32)), (.ref cb), (.ref xa)])) (fun t_ k_ => X0.arraylength hx (by rw [e0]; exact Ar101.1) (State.isArrayOf_alike hZ.alike Ar101.2.1) (g := (mkF m 4 #[.val (.ref xa), .val (.ref cb)] [(.ref cb), (.int (0 : Int32)), (.ref cb), (.ref xa)])) rfl rfl (hb hby d_jdk_42_method_3_code_4) _ (by rw [len_of Sz101 Ng101]; exact k_)) ?_
  refine GoH.by (T' := s₁) (g' := (mkF m 6 #[.val (.ref xa), .val (.ref cb)] [.null, (.int (0 : Int32)), (.int (0 : Int32)), (.ref cb), (.ref xa)])) (fun t_ k_ => XS.aconstNull X0.here hx rfl (hb hby d_jdk_42_method_3_code_5) k_) ?_
  obtain ⟨_, _, ⟨T102, L102, k102, n102⟩, -, X102, hS102, gr102, ⟨Lc102, hQ102, l102, y102, z102, hCc102⟩, st102⟩ := X0.specialBackS hx (y := (⟨"java/lang/String", "<init>", "([CIILjava/lang/Void;)V"⟩ : MethodName)) rfl hown (mvT hZ (hw _ (List.mem_of_getElem? (i := 17) rfl))) (mvT hZ (hw _ (List.mem_of_getElem? (i := 18) rfl))) (mvT hZ (hw _ (List.mem_of_getElem? (i := 20) rfl))) (by decide) (backOfSH (s := s) (vm0 := s.vm) (W := 0) (rm_strE l Z a0 hw [] xa cb h0 n0 X00 P0 P1 P2 P3) hZ (hw _ (List.mem_of_getElem? (i := 20) rfl)) (hw _ (List.mem_of_getElem? (i := 12) rfl)) (by decide) (by decide) (own_EW hw) hC00.1) (g := (mkF m 6 #[.val (.ref xa), .val (.ref cb)] [.null, (.int (0 : Int32)), (.int (0 : Int32)), (.ref cb), (.ref xa)])) rfl (by rw [hml]; rfl) (Steps.refl _) (a := xa) (argsL := [(.ref cb), (.int (0 : Int32)), (.int (0 : Int32)), .null]) (rest := []) (lenOf pd_3 rfl) rfl (by show 2 * 0 + _ ≤ _; exact Nat.le_of_eq rfl) (hb hby d_jdk_42_method_3_code_6) (fun _ _ => ⟨rfl, e0, (by decide : 0 + 4 ≤ _), (by decide : 0 + 8 ≤ _)⟩)
  dsimp only [Pt.U, Pt.locs, Pt.cells, Pt.slots] at X102 hS102 gr102 hCc102 l102 y102 z102 st102 hQ102
  subst l102 y102 z102
  obtain ⟨X102, hS, hZ, hown⟩ := rebS hS (Nat.zero_le _) X102 hS102 gr102 hZ hown
  obtain ⟨t_102, kb_102, rfl, N102q, K102, G102_0, G102_1, G102_2, G102_3⟩ := hQ102
  have N102 := Fr.app N0 N102q
  have hC102 := CHr.trans hC00 hCc102
  refine GoH.by (T' := T102) (g' := (mkF m 9 #[.val (.ref xa), .val (.ref cb)] [])) (fun t_ k_ => st102.trans k_) ?_
  have Kp103 : Keep h0 T102.heap [xa] := ((Keep.refl h0 [xa]).trans K102 (allS (Or.inl (List.mem_of_getElem? (i := 0) rfl)) all0))
  refine GoH.fin hS X102 (Nat.le_refl _) (by rw [hh]; exact CHr.trans hC102 (CHv.at (s := s) (vm0 := T102.vm) X102 hZ (own_EW hw) hC102.1)) (v := none) (fun _ => rfl) hlk (by decide) (by decide) ?_ (fun fs hr => X102.returnOut hx Bd.returns (hb hby d_jdk_42_method_3_code_9) hr)
  show Q_strC Z xa cb kc h0 n0 _ T102.heap _
  exact ⟨t_102, kb_102, rfl, N102, Kp103, G102_0, G102_1, G102_2, G102_3⟩
def Q_mk (Z : State) (A : Nat) (c0 : Int32) (c1 : Int32) (G1 : Int32) (h0 : Heap) (n0 : Nat) (v : Option Value) (h : Heap) (L : List Loc) : Prop := ∃ (b : Addr) (t : Addr) (kb : ClassId), v = some (.ref b) ∧ Fr n0 L ∧ Keep h0 h [] ∧ h0.size ≤ b ∧ Exa Z h b "java/lang/String" ∧ Fld Z h b "java/lang/String" "value" "[B" (.ref t) ∧ Fld Z h b "java/lang/String" "coder" "B" (.int (0 : Int32)) ∧ Arv Z h t kb .byte (Int32.ofNat (own_mk A c0 c1).length) (((own_mk A c0 c1).map (fun c => c.toInt8.toInt32)).map Value.int) (.int (0 : Int32))
theorem ef_mk (m : MethodId) (c0 : Int32) (c1 : Int32) : entryFrame m #[(.int (Int32.ofNat A)), (.int c0), (.int c1)] 4 = mkF m 0 #[.val (.int (Int32.ofNat A)), .val (.int c0), .val (.int c1), .unset] [] := by first | (simp [entryFrame, mkF, argsToLocals, Value.category]; done) | rfl
theorem d_method_3_code_0 : decode method_3_code 0 = .ok (.iload_n 0, 1) := by decide +kernel
theorem d_method_3_code_1 : decode method_3_code 1 = .ok (.ifCond .ne 14, 3) := by decide +kernel
theorem d_method_3_code_4 : decode method_3_code 4 = .ok (.new 7, 3) := by decide +kernel
theorem d_method_3_code_7 : decode method_3_code 7 = .ok (.dup, 1) := by decide +kernel
theorem d_method_3_code_8 : decode method_3_code 8 = .ok (.iconst 0, 1) := by decide +kernel
theorem d_method_3_code_9 : decode method_3_code 9 = .ok (.newarray .char, 2) := by decide +kernel
theorem d_method_3_code_11 : decode method_3_code 11 = .ok (.invokespecial 9, 3) := by decide +kernel
theorem pd_4 : parseMethodDescriptor "([C)V" = some ⟨[(.array .char)], none⟩ := by decide +kernel
theorem d_method_3_code_14 : decode method_3_code 14 = .ok (.areturn, 1) := by decide +kernel
theorem d_method_3_code_15 : decode method_3_code 15 = .ok (.iload_n 0, 1) := by decide +kernel
theorem d_method_3_code_16 : decode method_3_code 16 = .ok (.iconst 1, 1) := by decide +kernel
theorem d_method_3_code_17 : decode method_3_code 17 = .ok (.if_icmp .ne 9, 3) := by decide +kernel
theorem d_method_3_code_20 : decode method_3_code 20 = .ok (.iload_n 1, 1) := by decide +kernel
theorem d_method_3_code_21 : decode method_3_code 21 = .ok (.i2c, 1) := by decide +kernel
theorem d_method_3_code_22 : decode method_3_code 22 = .ok (.invokestatic 12, 3) := by decide +kernel
theorem pd_5 : parseMethodDescriptor "(C)Ljava/lang/String;" = some ⟨[.char], some (.object "java/lang/String")⟩ := by decide +kernel
theorem d_method_3_code_25 : decode method_3_code 25 = .ok (.areturn, 1) := by decide +kernel
theorem d_method_3_code_26 : decode method_3_code 26 = .ok (.iconst 2, 1) := by decide +kernel
theorem d_method_3_code_27 : decode method_3_code 27 = .ok (.newarray .char, 2) := by decide +kernel
theorem d_method_3_code_29 : decode method_3_code 29 = .ok (.astore_n 3, 1) := by decide +kernel
theorem d_method_3_code_30 : decode method_3_code 30 = .ok (.aload_n 3, 1) := by decide +kernel
theorem d_method_3_code_31 : decode method_3_code 31 = .ok (.iconst 0, 1) := by decide +kernel
theorem d_method_3_code_32 : decode method_3_code 32 = .ok (.iload_n 1, 1) := by decide +kernel
theorem d_method_3_code_33 : decode method_3_code 33 = .ok (.i2c, 1) := by decide +kernel
theorem d_method_3_code_34 : decode method_3_code 34 = .ok (.castore, 1) := by decide +kernel
theorem d_method_3_code_35 : decode method_3_code 35 = .ok (.aload_n 3, 1) := by decide +kernel
theorem d_method_3_code_36 : decode method_3_code 36 = .ok (.iconst 1, 1) := by decide +kernel
theorem d_method_3_code_37 : decode method_3_code 37 = .ok (.iload_n 2, 1) := by decide +kernel
theorem d_method_3_code_38 : decode method_3_code 38 = .ok (.i2c, 1) := by decide +kernel
theorem d_method_3_code_39 : decode method_3_code 39 = .ok (.castore, 1) := by decide +kernel
theorem d_method_3_code_40 : decode method_3_code 40 = .ok (.new 7, 3) := by decide +kernel
theorem d_method_3_code_43 : decode method_3_code 43 = .ok (.dup, 1) := by decide +kernel
theorem d_method_3_code_44 : decode method_3_code 44 = .ok (.aload_n 3, 1) := by decide +kernel
theorem d_method_3_code_45 : decode method_3_code 45 = .ok (.invokespecial 9, 3) := by decide +kernel
theorem d_method_3_code_48 : decode method_3_code 48 = .ok (.areturn, 1) := by decide +kernel
set_option maxRecDepth 65536 in
set_option maxHeartbeats 40000000 in
theorem rm_mk (l : Launch) (Z : State) (a0 : Array Value) (hw : ∀ d ∈ tables_1, d.before a0 Z = true) (ws : List Jvm.Cond) (A : Nat) (c0 : Int32) (c1 : Int32) (G1 : Int32) (h0 : Heap) (n0 : Nat) (X00 : Old Z n0 h0) (P0 : Sta Z Z.heap "java/lang/String" "COMPACT_STRINGS" "Z" (.int G1)) (hCS : ¬ (G1 = (0 : Int32))) (hA : A ≤ 2) (hr0 : own_r c0) (hr1 : own_r c1) :
    MetFree l (⟨"com/example/lorikeet/lorikeet/formats/TrecDocumentEqualsPinLaw", "mk", "(III)Ljava/lang/String;"⟩ : MethodName) (head1 (Jvm.Cond.code (⟨"com/example/lorikeet/lorikeet/formats/TrecDocumentEqualsPinLaw", "mk", "(III)Ljava/lang/String;"⟩ : MethodName) method_3_code 4 (some (.object "java/lang/String")) :: ws) ({ frames := 4, cells := 6, slots := 12, locals := 66 } : Room)) (fun aa_ U => aa_ = #[(.int (Int32.ofNat A)), (.int c0), (.int c1)] ∧ Z.Warmed39 U.vm ∧ U.heap = h0 ∧ CHv Z consts_1 U.vm h0) (fun _ _ _ _ _ => True) (fun _ U o U' => ∃ v L, o = .returned v ∧ Q_mk Z A c0 c1 G1 h0 n0 v U'.heap L ∧ CHr Z consts_1 U.vm U.heap U'.vm U'.heap ∧ ReturnedEndW U o U' L ({ frames := 4, cells := 6, slots := 12, locals := 66 } : Room).cells ({ frames := 4, cells := 6, slots := 12, locals := 66 } : Room).slots) := by
  refine MetFree.of_bodySF (plainFor_of_name pn_2) hisR ?_
  intro p e s m args below meth c s₁ Bd hml0 hP hK
  obtain ⟨rfl, hZ, hh, hC0⟩ := hP
  have hx := Bd.exec
  have hby := Bd.bytes
  have hml : c.maxLocals = 4 := hml0
  have hown : s.vm.findClass "com/example/lorikeet/lorikeet/formats/TrecDocumentEqualsPinLaw" = some m.cls := findClass_of_methodNamed Bd.named
  have hnm := (name_of_methodNamed Bd.named Bd.method).1
  have hlk : meth.locks = false := BodyLoose.notSynchronized Bd
  have X0 : Stand p l e ({ frames := 4, cells := 6, slots := 12, locals := 66 } : Room) s m #[(.int (Int32.ofNat A)), (.int c0), (.int c1)] below meth c s₁ [] 0 0 := Stand.of_body Bd
  have e0 : s₁.heap = h0 := by rw [← hh, Bd.state]; rfl
  have N0 := Fr.nil n0
  suffices G : GoH Z consts_1 p e below s (Q_mk Z A c0 c1 G1 h0 n0) 6 12 s₁ (mkF m 0 #[.val (.int (Int32.ofNat A)), .val (.int c0), .val (.int c1), .unset] []) by
    obtain ⟨s2, o, h1, h2⟩ := G
    exact ⟨s2, o, castTop (ef_mk m c0 c1) h1, h2⟩
  have hS : s.Since s.vm 0 := (State.WarmedH.refl s).since 0
  have hC00 : CHr Z consts_1 s.vm h0 s.vm h0 := CHr.refl hC0
  refine GoH.by (T' := s₁) (g' := (mkF m 1 #[.val (.int (Int32.ofNat A)), .val (.int c0), .val (.int c1), .unset] [(.int (Int32.ofNat A))])) (fun t_ k_ => XS.iloadN X0.here hx rfl (hb hby d_method_3_code_0) rfl k_) ?_
  by_cases hz : A = 0
  · skip
    refine GoH.by (T' := s₁) (g' := (mkF m 4 #[.val (.int (Int32.ofNat A)), .val (.int c0), .val (.int c1), .unset] [])) (fun t_ k_ => XS.ifNo X0.here hx rfl (hb hby d_method_3_code_1) rfl ((if0 _ _).trans (teq (by rw [hz]; rfl)).2) k_) ?_
    obtain ⟨T101, h101, X101, e101, E101, A101, Df101, -, st101⟩ := newO X0 hx hZ hown (hw _ (List.mem_of_getElem? (i := 10) rfl)) (hw _ (List.mem_of_getElem? (i := 11) rfl)) (hw _ (List.mem_of_getElem? (i := 12) rfl)) e0 (g := (mkF m 4 #[.val (.int (Int32.ofNat A)), .val (.int c0), .val (.int c1), .unset] [])) rfl (hb hby d_method_3_code_4) (by decide) (by decide)
    obtain ⟨b101, g101⟩ : ∃ z, z = h0.size := ⟨_, rfl⟩
    rw [← g101] at A101 Df101 st101
    have ge_b101 : n0 ≤ b101 := Nat.le_trans X00.sz (Nat.le_of_eq g101.symm)
    have sz_b101 : h0.size ≤ b101 := Nat.le_trans (Keep.refl h0 []).1 (Nat.le_of_eq g101.symm)
    have F102 : Fld Z h101 b101 "java/lang/String" "value" "[B" .null := Df101 (Or.inr (hw _ (List.mem_of_getElem? (i := 26) rfl))) (ty := (.array .byte)) (by decide)
    have F103 : Fld Z h101 b101 "java/lang/String" "coder" "B" (.int (0 : Int32)) := Df101 (Or.inr (hw _ (List.mem_of_getElem? (i := 27) rfl))) (ty := .byte) (by decide)
    refine GoH.by (T' := T101) (g' := (mkF m 7 #[.val (.int (Int32.ofNat A)), .val (.int c0), .val (.int c1), .unset] [(.ref b101)])) (fun t_ k_ => st101 _ k_) ?_
    refine GoH.by (T' := T101) (g' := (mkF m 8 #[.val (.int (Int32.ofNat A)), .val (.int c0), .val (.int c1), .unset] [(.ref b101), (.ref b101)])) (fun t_ k_ => XS.dup X101.here hx rfl (hb hby d_method_3_code_7) rfl rfl k_) ?_
    refine GoH.by (T' := T101) (g' := (mkF m 9 #[.val (.int (Int32.ofNat A)), .val (.int c0), .val (.int c1), .unset] [(.int (0 : Int32)), (.ref b101), (.ref b101)])) (fun t_ k_ => XS.iconst X101.here hx rfl (hb hby d_method_3_code_8) k_) ?_
    obtain ⟨T104, h104, kc104, X104, e104, E104, A104, st104⟩ := newP X101 hx hZ (hw _ (List.mem_of_getElem? (i := 13) rfl)) e101 (g := (mkF m 9 #[.val (.int (Int32.ofNat A)), .val (.int c0), .val (.int c1), .unset] [(.int (0 : Int32)), (.ref b101), (.ref b101)])) rfl (hb hby d_method_3_code_9) rfl (by decide) (cap := 0) (by decide) (by decide) (by decide) (by decide)
    obtain ⟨b104, g104⟩ : ∃ z, z = h101.size := ⟨_, rfl⟩
    rw [← g104] at A104 st104
    have Od105 : Old Z n0 h101 := (X00.ext E101)
    have ge_b104 : n0 ≤ b104 := Nat.le_trans Od105.sz (Nat.le_of_eq g104.symm)
    have Kp106 : Keep h0 h101 [] := ((Keep.refl h0 []).ext E101)
    have sz_b104 : h0.size ≤ b104 := Nat.le_trans Kp106.1 (Nat.le_of_eq g104.symm)
    have ne_b101_b104 : ¬ (b101 = b104) := Nat.ne_of_lt (Nat.lt_of_lt_of_le A101.lt (Nat.le_of_eq g104.symm))
    have V104 : Arv Z h104 b104 kc104 .char (0 : Int32) [] (.int (0 : Int32)) := Arv.new A104 (by decide)
    refine GoH.by (T' := T104) (g' := (mkF m 11 #[.val (.int (Int32.ofNat A)), .val (.int c0), .val (.int c1), .unset] [(.ref b104), (.ref b101), (.ref b101)])) (fun t_ k_ => st104 _ k_) ?_
    have F107 : Exa Z h104 b101 "java/lang/String" := (A101.ext E104)
    have F108 : Fld Z h104 b101 "java/lang/String" "value" "[B" .null := (F102.ext E104)
    have F109 : Fld Z h104 b101 "java/lang/String" "coder" "B" (.int (0 : Int32)) := (F103.ext E104)
    have Od110 : Old Z n0 h104 := (Od105.ext E104)
    have Kp111 : Keep h0 h104 [] := (Kp106.ext E104)
    have hC112 := CHr.trans hC00 (CHr.ext E101 hC00.1)
    have hC113 := CHr.trans hC112 (CHr.ext E104 hC112.1)
    obtain ⟨_, _, ⟨T114, L114, k114, n114⟩, -, X114, hS114, gr114, ⟨Lc114, hQ114, l114, y114, z114, hCc114⟩, st114⟩ := X104.specialBackS hx (y := (⟨"java/lang/String", "<init>", "([C)V"⟩ : MethodName)) rfl hown (mvT hZ (hw _ (List.mem_of_getElem? (i := 14) rfl))) (mvT hZ (hw _ (List.mem_of_getElem? (i := 15) rfl))) (mvT hZ (hw _ (List.mem_of_getElem? (i := 16) rfl))) (by decide) (backOfSH (s := s) (vm0 := s.vm) (W := 1) (rm_strC l Z a0 hw [] b101 b104 kc104 h104 n0 Od110 F107 F108 F109 ge_b101 V104) hZ (hw _ (List.mem_of_getElem? (i := 16) rfl)) (hw _ (List.mem_of_getElem? (i := 12) rfl)) (by decide) (by decide) (own_EW hw) hC113.1) (g := (mkF m 11 #[.val (.int (Int32.ofNat A)), .val (.int c0), .val (.int c1), .unset] [(.ref b104), (.ref b101), (.ref b101)])) rfl (by rw [hml]; rfl) (Steps.refl _) (a := b101) (argsL := [(.ref b104)]) (rest := [(.ref b101)]) (lenOf pd_4 rfl) rfl (by show 2 * 0 + _ ≤ _; exact Nat.le_of_eq rfl) (hb hby d_method_3_code_11) (fun _ _ => ⟨rfl, e104, (by decide : 2 + 4 ≤ _), (by decide : 4 + 8 ≤ _)⟩)
    dsimp only [Pt.U, Pt.locs, Pt.cells, Pt.slots] at X114 hS114 gr114 hCc114 l114 y114 z114 st114 hQ114
    subst l114 y114 z114
    obtain ⟨X114, hS, hZ, hown⟩ := rebS hS (Nat.zero_le _) X114 hS114 gr114 hZ hown
    obtain ⟨t_114, kb_114, rfl, N114q, K114, G114_0, G114_1, G114_2, G114_3⟩ := hQ114
    have N114 := Fr.app N0 N114q
    have hC114 := CHr.trans hC113 hCc114
    refine GoH.by (T' := T114) (g' := (mkF m 14 #[.val (.int (Int32.ofNat A)), .val (.int c0), .val (.int c1), .unset] [(.ref b101)])) (fun t_ k_ => st114.trans k_) ?_
    have V115 : Arv Z T114.heap t_114 kb_114 .byte (Int32.ofNat (own_mk A c0 c1).length) (((own_mk A c0 c1).map (fun c => c.toInt8.toInt32)).map Value.int) (.int (0 : Int32)) := by rw [hz]; exact G114_3
    have Kp116 : Keep h0 T114.heap [] := (Kp111.trans K114 (allS (Or.inr sz_b101) all0))
    refine GoH.fin hS X114 (Nat.le_refl _) (by rw [hh]; exact CHr.trans hC114 (CHv.at (s := s) (vm0 := T114.vm) X114 hZ (own_EW hw) hC114.1)) (v := some (.ref b101)) (fun h => by rw [Bd.returns] at h; cases h) hlk (by decide) (by decide) ?_ (fun fs hr => retR X114 hx (w := (.ref b101)) Bd.returns rfl rfl rfl (hb hby d_method_3_code_14) hr)
    show Q_mk Z A c0 c1 G1 h0 n0 _ T114.heap _
    exact ⟨b101, t_114, kb_114, rfl, N114, Kp116, sz_b101, G114_0, G114_1, G114_2, V115⟩
  · skip
    refine GoH.by (T' := s₁) (g' := (mkF m 15 #[.val (.int (Int32.ofNat A)), .val (.int c0), .val (.int c1), .unset] [])) (fun t_ k_ => XS.ifYes X0.here hx rfl (pc0 := 1) (pc' := 15) rfl (hb hby d_method_3_code_1) rfl ((if0 _ _).trans (feq (by rw [show (0 : Int32) = Int32.ofNat 0 from rfl, own_inj (by omega) (by omega)]; exact hz)).2) (by decide) (by decide) k_) ?_
    refine GoH.by (T' := s₁) (g' := (mkF m 16 #[.val (.int (Int32.ofNat A)), .val (.int c0), .val (.int c1), .unset] [(.int (Int32.ofNat A))])) (fun t_ k_ => XS.iloadN X0.here hx rfl (hb hby d_method_3_code_15) rfl k_) ?_
    refine GoH.by (T' := s₁) (g' := (mkF m 17 #[.val (.int (Int32.ofNat A)), .val (.int c0), .val (.int c1), .unset] [(.int (1 : Int32)), (.int (Int32.ofNat A))])) (fun t_ k_ => XS.iconst X0.here hx rfl (hb hby d_method_3_code_16) k_) ?_
    by_cases hz : A = 1
    · skip
      refine GoH.by (T' := s₁) (g' := (mkF m 20 #[.val (.int (Int32.ofNat A)), .val (.int c0), .val (.int c1), .unset] [])) (fun t_ k_ => XS.icmpNo X0.here hx rfl (hb hby d_method_3_code_17) rfl (teq (by rw [hz]; rfl)).2 k_) ?_
      refine GoH.by (T' := s₁) (g' := (mkF m 21 #[.val (.int (Int32.ofNat A)), .val (.int c0), .val (.int c1), .unset] [(.int c0)])) (fun t_ k_ => XS.iloadN X0.here hx rfl (hb hby d_method_3_code_20) rfl k_) ?_
      refine GoH.by (T' := s₁) (g' := (mkF m 22 #[.val (.int (Int32.ofNat A)), .val (.int c0), .val (.int c1), .unset] [(.int (c0.toUInt32.toUInt16.toUInt32.toInt32))])) (fun t_ k_ => XS.i2c X0.here hx rfl (hb hby d_method_3_code_21) rfl k_) ?_
      rw [own_i2c hr0]
      obtain ⟨_, _, ⟨T117, L117, k117, n117⟩, -, X117, ⟨Lc117, hQ117, l117, y117, z117⟩, st117⟩ := Jvm.LawKit.callS X0 hx (y := (⟨"java/lang/String", "valueOf", "(C)Ljava/lang/String;"⟩ : MethodName)) hown (mvT hZ (hw _ (List.mem_of_getElem? (i := 78) rfl))) (mvT hZ (hw _ (List.mem_of_getElem? (i := 79) rfl))) (mvT hZ (hw _ (List.mem_of_getElem? (i := 12) rfl))) (mvT hZ (hw _ (List.mem_of_getElem? (i := 80) rfl))) (by decide) (backOf (W := 0) (rm_valueOf l Z a0 hw [] c0 G1 h0 n0 X00 P0 hCS hr0.2) hZ (hw _ (List.mem_of_getElem? (i := 80) rfl)) (hw _ (List.mem_of_getElem? (i := 12) rfl)) (by decide) (by decide)) (g := (mkF m 22 #[.val (.int (Int32.ofNat A)), .val (.int c0), .val (.int c1), .unset] [(.int c0)])) rfl (by rw [hml]; rfl) (argsL := [(.int c0)]) (rest := []) (lenOf pd_5 rfl) rfl (by show 2 * 0 + _ ≤ _; exact Nat.le_of_eq rfl) (hb hby d_method_3_code_22) (fun _ _ => ⟨rfl, e0, (by decide : 0 + 2 ≤ _), (by decide : 0 + 5 ≤ _)⟩)
      dsimp only [Pt.U, Pt.locs, Pt.cells, Pt.slots] at X117 l117 y117 z117 st117 hQ117
      subst l117 y117 z117
      obtain ⟨b_117, t_117, kb_117, rfl, N117q, K117, G117_0, G117_1, G117_2, G117_3, G117_4, G117_5, G117_6⟩ := hQ117
      have N117 := Fr.app N0 N117q
      have ge_b_117 : n0 ≤ b_117 := Nat.le_trans X00.sz G117_0
      have sz_b_117 : h0.size ≤ b_117 := Nat.le_trans (Keep.refl h0 []).1 G117_0
      have ge_t_117 : n0 ≤ t_117 := Nat.le_trans X00.sz G117_1
      have sz_t_117 : h0.size ≤ t_117 := Nat.le_trans (Keep.refl h0 []).1 G117_1
      refine GoH.by (T' := T117) (g' := (mkF m 25 #[.val (.int (Int32.ofNat A)), .val (.int c0), .val (.int c1), .unset] [(.ref b_117)])) (fun t_ k_ => st117 _ k_) ?_
      have V118 : Arv Z T117.heap t_117 kb_117 .byte (Int32.ofNat (own_mk A c0 c1).length) (((own_mk A c0 c1).map (fun c => c.toInt8.toInt32)).map Value.int) (.int (0 : Int32)) := by rw [hz]; exact G117_6
      have Kp119 : Keep h0 T117.heap [] := ((Keep.refl h0 []).trans K117 all0)
      have hC120 := CHr.trans hC00 (CHr.keep K117 sf0 hC00.1)
      refine GoH.fin hS X117 (Nat.zero_le _) (by rw [hh]; exact CHr.trans hC120 (CHv.at (s := s) (vm0 := s.vm) X117 hZ (own_EW hw) hC120.1)) (v := some (.ref b_117)) (fun h => by rw [Bd.returns] at h; cases h) hlk (by decide) (by decide) ?_ (fun fs hr => retR X117 hx (w := (.ref b_117)) Bd.returns rfl rfl rfl (hb hby d_method_3_code_25) hr)
      show Q_mk Z A c0 c1 G1 h0 n0 _ T117.heap _
      exact ⟨b_117, t_117, kb_117, rfl, N117, Kp119, sz_b_117, G117_3, G117_4, G117_5, V118⟩
    · skip
      refine GoH.by (T' := s₁) (g' := (mkF m 26 #[.val (.int (Int32.ofNat A)), .val (.int c0), .val (.int c1), .unset] [])) (fun t_ k_ => XS.icmpYes X0.here hx rfl (pc0 := 17) (pc' := 26) rfl (hb hby d_method_3_code_17) rfl (feq (by rw [show (1 : Int32) = Int32.ofNat 1 from rfl, own_inj (by omega) (by omega)]; exact hz)).2 (by decide) (by decide) k_) ?_
      have hz : A = 2 := by omega
      refine GoH.by (T' := s₁) (g' := (mkF m 27 #[.val (.int (Int32.ofNat A)), .val (.int c0), .val (.int c1), .unset] [(.int (2 : Int32))])) (fun t_ k_ => XS.iconst X0.here hx rfl (hb hby d_method_3_code_26) k_) ?_
      obtain ⟨T121, h121, kc121, X121, e121, E121, A121, st121⟩ := newP X0 hx hZ (hw _ (List.mem_of_getElem? (i := 13) rfl)) e0 (g := (mkF m 27 #[.val (.int (Int32.ofNat A)), .val (.int c0), .val (.int c1), .unset] [(.int (2 : Int32))])) rfl (hb hby d_method_3_code_27) rfl (by decide) (cap := 2) (by decide) (by decide) (by decide) (by decide)
      obtain ⟨b121, g121⟩ : ∃ z, z = h0.size := ⟨_, rfl⟩
      rw [← g121] at A121 st121
      have ge_b121 : n0 ≤ b121 := Nat.le_trans X00.sz (Nat.le_of_eq g121.symm)
      have sz_b121 : h0.size ≤ b121 := Nat.le_trans (Keep.refl h0 []).1 (Nat.le_of_eq g121.symm)
      have V121 : Arv Z h121 b121 kc121 .char (2 : Int32) [(.int (0 : Int32)), (.int (0 : Int32))] (.int (0 : Int32)) := (Arv.new A121 (by decide)).pad (pad_rep [] (.int (0 : Int32)) 2)
      refine GoH.by (T' := T121) (g' := (mkF m 29 #[.val (.int (Int32.ofNat A)), .val (.int c0), .val (.int c1), .unset] [(.ref b121)])) (fun t_ k_ => st121 _ k_) ?_
      refine GoH.by (T' := T121) (g' := (mkF m 30 #[.val (.int (Int32.ofNat A)), .val (.int c0), .val (.int c1), .val (.ref b121)] [])) (fun t_ k_ => XS.astoreN X121.here hx rfl (hb hby d_method_3_code_29) rfl rfl (l' := #[.val (.int (Int32.ofNat A)), .val (.int c0), .val (.int c1), .val (.ref b121)]) rfl k_) ?_
      refine GoH.by (T' := T121) (g' := (mkF m 31 #[.val (.int (Int32.ofNat A)), .val (.int c0), .val (.int c1), .val (.ref b121)] [(.ref b121)])) (fun t_ k_ => XS.aloadN X121.here hx rfl (hb hby d_method_3_code_30) rfl rfl k_) ?_
      refine GoH.by (T' := T121) (g' := (mkF m 32 #[.val (.int (Int32.ofNat A)), .val (.int c0), .val (.int c1), .val (.ref b121)] [(.int (0 : Int32)), (.ref b121)])) (fun t_ k_ => XS.iconst X121.here hx rfl (hb hby d_method_3_code_31) k_) ?_
      refine GoH.by (T' := T121) (g' := (mkF m 33 #[.val (.int (Int32.ofNat A)), .val (.int c0), .val (.int c1), .val (.ref b121)] [(.int c0), (.int (0 : Int32)), (.ref b121)])) (fun t_ k_ => XS.iloadN X121.here hx rfl (hb hby d_method_3_code_32) rfl k_) ?_
      refine GoH.by (T' := T121) (g' := (mkF m 34 #[.val (.int (Int32.ofNat A)), .val (.int c0), .val (.int c1), .val (.ref b121)] [(.int (c0.toUInt32.toUInt16.toUInt32.toInt32)), (.int (0 : Int32)), (.ref b121)])) (fun t_ k_ => XS.i2c X121.here hx rfl (hb hby d_method_3_code_33) rfl k_) ?_
      rw [own_i2c hr0]
      have Od123 : Old Z n0 h121 := (X00.ext E121)
      have Kp124 : Keep h0 h121 [] := ((Keep.refl h0 []).ext E121)
      have hC125 := CHr.trans hC00 (CHr.ext E121 hC00.1)
      have sf126 : Safe Z consts_1 s.vm h121 b121 := (Safe.arv hZ.alike V121 (fun q => nomatch q))
      obtain ⟨cl122, Ar122, q122, Sz122, Ng122, Hs122, Gs122⟩ := id V121
      obtain ⟨T127, h127, X127, e127, W127, st127⟩ := stC X121 hx hZ e121 Ar122 (j := (0 : Int32)) (inb_of Sz122 ⟨by decide, by decide⟩) (g := (mkF m 34 #[.val (.int (Int32.ofNat A)), .val (.int c0), .val (.int c1), .val (.ref b121)] [(.int c0), (.int (0 : Int32)), (.ref b121)])) rfl rfl (hb hby d_method_3_code_34)
      have V127 : Arv Z h127 b121 kc121 .char (2 : Int32) [(.int (nar .char c0)), (.int (0 : Int32))] (.int (0 : Int32)) := Arv.set Ar122 q122 Sz122 Ng122 Hs122 Gs122 (fits_nar_char _) W127 0 rfl (Nat.le_of_ble_eq_true rfl)
      have N127 := Fr.snoc X127 N0 ge_b121
      refine GoH.by (T' := T127) (g' := (mkF m 35 #[.val (.int (Int32.ofNat A)), .val (.int c0), .val (.int c1), .val (.ref b121)] [])) (fun t_ k_ => st127 _ k_) ?_
      refine GoH.by (T' := T127) (g' := (mkF m 36 #[.val (.int (Int32.ofNat A)), .val (.int c0), .val (.int c1), .val (.ref b121)] [(.ref b121)])) (fun t_ k_ => XS.aloadN X127.here hx rfl (hb hby d_method_3_code_35) rfl rfl k_) ?_
      refine GoH.by (T' := T127) (g' := (mkF m 37 #[.val (.int (Int32.ofNat A)), .val (.int c0), .val (.int c1), .val (.ref b121)] [(.int (1 : Int32)), (.ref b121)])) (fun t_ k_ => XS.iconst X127.here hx rfl (hb hby d_method_3_code_36) k_) ?_
      refine GoH.by (T' := T127) (g' := (mkF m 38 #[.val (.int (Int32.ofNat A)), .val (.int c0), .val (.int c1), .val (.ref b121)] [(.int c1), (.int (1 : Int32)), (.ref b121)])) (fun t_ k_ => XS.iloadN X127.here hx rfl (hb hby d_method_3_code_37) rfl k_) ?_
      refine GoH.by (T' := T127) (g' := (mkF m 39 #[.val (.int (Int32.ofNat A)), .val (.int c0), .val (.int c1), .val (.ref b121)] [(.int (c1.toUInt32.toUInt16.toUInt32.toInt32)), (.int (1 : Int32)), (.ref b121)])) (fun t_ k_ => XS.i2c X127.here hx rfl (hb hby d_method_3_code_38) rfl k_) ?_
      rw [own_i2c hr1]
      have Od129 : Old Z n0 h127 := (Od123.wr W127 ge_b121)
      have Kp130 : Keep h0 h127 [] := (Kp124.wr W127 (Or.inr sz_b121))
      have hC131 := CHr.trans hC125 (CHr.wr W127 sf126 hC125.1)
      have sf132 : Safe Z consts_1 s.vm h127 b121 := (Safe.arv hZ.alike V127 (fun q => nomatch q))
      obtain ⟨cl128, Ar128, q128, Sz128, Ng128, Hs128, Gs128⟩ := id V127
      obtain ⟨T133, h133, X133, e133, W133, st133⟩ := stC X127 hx hZ e127 Ar128 (j := (1 : Int32)) (inb_of Sz128 ⟨by decide, by decide⟩) (g := (mkF m 39 #[.val (.int (Int32.ofNat A)), .val (.int c0), .val (.int c1), .val (.ref b121)] [(.int c1), (.int (1 : Int32)), (.ref b121)])) rfl rfl (hb hby d_method_3_code_39)
      have V133 : Arv Z h133 b121 kc121 .char (2 : Int32) [(.int (nar .char c0)), (.int (nar .char c1))] (.int (0 : Int32)) := Arv.set Ar128 q128 Sz128 Ng128 Hs128 Gs128 (fits_nar_char _) W133 1 rfl (Nat.le_of_ble_eq_true rfl)
      have N133 := Fr.snoc X133 N127 ge_b121
      refine GoH.by (T' := T133) (g' := (mkF m 40 #[.val (.int (Int32.ofNat A)), .val (.int c0), .val (.int c1), .val (.ref b121)] [])) (fun t_ k_ => st133 _ k_) ?_
      have V134 : Arv Z h133 b121 kc121 .char (2 : Int32) [(.int c0), (.int c1)] (.int (0 : Int32)) := by have q := V133; rw [own_narc hr0, own_narc hr1] at q; exact q
      obtain ⟨T135, h135, X135, e135, E135, A135, Df135, -, st135⟩ := newO X133 hx hZ hown (hw _ (List.mem_of_getElem? (i := 10) rfl)) (hw _ (List.mem_of_getElem? (i := 11) rfl)) (hw _ (List.mem_of_getElem? (i := 12) rfl)) e133 (g := (mkF m 40 #[.val (.int (Int32.ofNat A)), .val (.int c0), .val (.int c1), .val (.ref b121)] [])) rfl (hb hby d_method_3_code_40) (by decide) (by decide)
      obtain ⟨b135, g135⟩ : ∃ z, z = h133.size := ⟨_, rfl⟩
      rw [← g135] at A135 Df135 st135
      have Od136 : Old Z n0 h133 := (Od129.wr W133 ge_b121)
      have ge_b135 : n0 ≤ b135 := Nat.le_trans Od136.sz (Nat.le_of_eq g135.symm)
      have Kp137 : Keep h0 h133 [] := (Kp130.wr W133 (Or.inr sz_b121))
      have sz_b135 : h0.size ≤ b135 := Nat.le_trans Kp137.1 (Nat.le_of_eq g135.symm)
      have ne_b121_b135 : ¬ (b121 = b135) := Nat.ne_of_lt (Nat.lt_of_lt_of_le V134.lt (Nat.le_of_eq g135.symm))
      have F138 : Fld Z h135 b135 "java/lang/String" "value" "[B" .null := Df135 (Or.inr (hw _ (List.mem_of_getElem? (i := 26) rfl))) (ty := (.array .byte)) (by decide)
      have F139 : Fld Z h135 b135 "java/lang/String" "coder" "B" (.int (0 : Int32)) := Df135 (Or.inr (hw _ (List.mem_of_getElem? (i := 27) rfl))) (ty := .byte) (by decide)
      refine GoH.by (T' := T135) (g' := (mkF m 43 #[.val (.int (Int32.ofNat A)), .val (.int c0), .val (.int c1), .val (.ref b121)] [(.ref b135)])) (fun t_ k_ => st135 _ k_) ?_
      refine GoH.by (T' := T135) (g' := (mkF m 44 #[.val (.int (Int32.ofNat A)), .val (.int c0), .val (.int c1), .val (.ref b121)] [(.ref b135), (.ref b135)])) (fun t_ k_ => XS.dup X135.here hx rfl (hb hby d_method_3_code_43) rfl rfl k_) ?_
      refine GoH.by (T' := T135) (g' := (mkF m 45 #[.val (.int (Int32.ofNat A)), .val (.int c0), .val (.int c1), .val (.ref b121)] [(.ref b121), (.ref b135), (.ref b135)])) (fun t_ k_ => XS.aloadN X135.here hx rfl (hb hby d_method_3_code_44) rfl rfl k_) ?_
      have F140 : Arv Z h135 b121 kc121 .char (2 : Int32) [(.int c0), (.int c1)] (.int (0 : Int32)) := (V134.ext E135)
      have Od141 : Old Z n0 h135 := (Od136.ext E135)
      have Kp142 : Keep h0 h135 [] := (Kp137.ext E135)
      have hC143 := CHr.trans hC131 (CHr.wr W133 sf132 hC131.1)
      have hC144 := CHr.trans hC143 (CHr.ext E135 hC143.1)
      have sf145 : Safe Z consts_1 s.vm h135 b135 := (own_safe hZ.alike A135 (hw _ (List.mem_of_getElem? (i := 11) rfl)) F138)
      have hp146 : ∀ c ∈ ([c0, c1] : List Int32), ¬ c < 0 ∧ ¬ (255 : Int32) < c := by
          intro c hc
          simp only [List.mem_cons, List.not_mem_nil, or_false] at hc
          rcases hc with rfl | rfl
          · exact hr0
          · exact hr1
      obtain ⟨_, _, ⟨T147, L147, k147, n147⟩, -, X147, ⟨Lc147, hQ147, l147, y147, z147⟩, st147⟩ := X135.specialBack hx (y := (⟨"java/lang/String", "<init>", "([C)V"⟩ : MethodName)) rfl hown (mvT hZ (hw _ (List.mem_of_getElem? (i := 14) rfl))) (mvT hZ (hw _ (List.mem_of_getElem? (i := 15) rfl))) (mvT hZ (hw _ (List.mem_of_getElem? (i := 16) rfl))) (by decide) (StrChars.Road.backV (W := 1) hZ (own_words hw) (kI := 4) (hw _ (List.mem_of_getElem? (i := 11) rfl)) (cs := ([c0, c1] : List Int32)) (bs := ([c0, c1] : List Int32).map (fun c => c.toInt8.toInt32)) (n := 2) ge_b135 Od141.sz A135 F138 F139 F140 (P0.ext Od141.2) hCS rfl rfl (by decide) (by decide) hp146 rfl (by decide) (by decide)) (g := (mkF m 45 #[.val (.int (Int32.ofNat A)), .val (.int c0), .val (.int c1), .val (.ref b121)] [(.ref b121), (.ref b135), (.ref b135)])) rfl (by rw [hml]; rfl) (Steps.refl _) (a := b135) (argsL := [(.ref b121)]) (rest := [(.ref b135)]) (lenOf pd_4 rfl) rfl (by show 2 * 0 + _ ≤ _; exact Nat.le_of_eq rfl) (hb hby d_method_3_code_45) (fun _ _ => ⟨rfl, e135, (by decide : 2 + 1 ≤ _), (by decide : 6 + 2 ≤ _)⟩)
      dsimp only [Pt.U, Pt.locs, Pt.cells, Pt.slots] at X147 l147 y147 z147 st147 hQ147
      subst l147 y147 z147
      obtain ⟨rfl, N147q, K147, Ea147, Fc147, t147, kb147, ge_t147, nw147, nx147, Fv147, Va147⟩ := hQ147
      have N147 := Fr.app N133 N147q
      have sz_t147 : h0.size ≤ t147 := Nat.le_trans Kp142.1 nw147
      have ne_b121_t147 : ¬ (b121 = t147) := Nat.ne_of_lt (Nat.lt_of_lt_of_le F140.lt nw147)
      refine GoH.by (T' := T147) (g' := (mkF m 48 #[.val (.int (Int32.ofNat A)), .val (.int c0), .val (.int c1), .val (.ref b121)] [(.ref b135)])) (fun t_ k_ => st147.trans k_) ?_
      have V148 : Arv Z T147.heap t147 kb147 .byte (Int32.ofNat (own_mk A c0 c1).length) (((own_mk A c0 c1).map (fun c => c.toInt8.toInt32)).map Value.int) (.int (0 : Int32)) := by rw [hz]; exact Va147
      have Kp149 : Keep h0 T147.heap [] := (Kp142.trans K147 (allS (Or.inr sz_b135) all0))
      have hC150 := CHr.trans hC144 (CHr.keep K147 (sfS sf145 sf0) hC144.1)
      refine GoH.fin hS X147 (Nat.zero_le _) (by rw [hh]; exact CHr.trans hC150 (CHv.at (s := s) (vm0 := s.vm) X147 hZ (own_EW hw) hC150.1)) (v := some (.ref b135)) (fun h => by rw [Bd.returns] at h; cases h) hlk (by decide) (by decide) ?_ (fun fs hr => retR X147 hx (w := (.ref b135)) Bd.returns rfl rfl rfl (hb hby d_method_3_code_48) hr)
      show Q_mk Z A c0 c1 G1 h0 n0 _ T147.heap _
      exact ⟨b135, t147, kb147, rfl, N147, Kp149, sz_b135, Ea147, Fv147, Fc147, V148⟩
def Q_rnn (Z : State) (ra : Addr) (rb : Addr) (h0 : Heap) (n0 : Nat) (v : Option Value) (h : Heap) (L : List Loc) : Prop := v = some (.ref ra) ∧ Fr n0 L ∧ h = h0
theorem pn_3 : plainName "java/util/Objects" = true := by first | (simp [plainName, overriddenIn]; done) | decide +kernel
theorem ef_rnn (m : MethodId) (ra : Addr) (rb : Addr) : entryFrame m #[(.ref ra), (.ref rb)] 2 = mkF m 0 #[.val (.ref ra), .val (.ref rb)] [] := by first | (simp [entryFrame, mkF, argsToLocals, Value.category]; done) | rfl
theorem d_jdk_31_method_11_code_0 : decode jdk_31_method_11_code 0 = .ok (.aload_n 0, 1) := by decide +kernel
theorem d_jdk_31_method_11_code_1 : decode jdk_31_method_11_code 1 = .ok (.ifnonnull 12, 3) := by decide +kernel
theorem d_jdk_31_method_11_code_13 : decode jdk_31_method_11_code 13 = .ok (.aload_n 0, 1) := by decide +kernel
theorem d_jdk_31_method_11_code_14 : decode jdk_31_method_11_code 14 = .ok (.areturn, 1) := by decide +kernel
set_option maxRecDepth 65536 in
set_option maxHeartbeats 40000000 in
theorem rm_rnn (l : Launch) (Z : State) (a0 : Array Value) (hw : ∀ d ∈ tables_1, d.before a0 Z = true) (ws : List Jvm.Cond) (ra : Addr) (rb : Addr) (h0 : Heap) (n0 : Nat) (X00 : Old Z n0 h0)  :
    MetFree l (⟨"java/util/Objects", "requireNonNull", "(Ljava/lang/Object;Ljava/lang/String;)Ljava/lang/Object;"⟩ : MethodName) (head1 (Jvm.Cond.code (⟨"java/util/Objects", "requireNonNull", "(Ljava/lang/Object;Ljava/lang/String;)Ljava/lang/Object;"⟩ : MethodName) jdk_31_method_11_code 2 (some (.object "java/lang/Object")) :: ws) ({ frames := 0, cells := 0, slots := 0, locals := 0 } : Room)) (fun aa_ U => aa_ = #[(.ref ra), (.ref rb)] ∧ Z.Warmed39 U.vm ∧ U.heap = h0) (fun _ _ _ _ _ => True) (fun _ U o U' => ∃ v L, o = .returned v ∧ Q_rnn Z ra rb h0 n0 v U'.heap L ∧ FrameEnd U o U' L ({ frames := 0, cells := 0, slots := 0, locals := 0 } : Room).cells ({ frames := 0, cells := 0, slots := 0, locals := 0 } : Room).slots) := by
  refine MetFree.of_bodySF (plainFor_of_name pn_3) hisR ?_
  intro p e s m args below meth c s₁ Bd hml0 hP hK
  obtain ⟨rfl, hZ, hh⟩ := hP
  have hx := Bd.exec
  have hby := Bd.bytes
  have hml : c.maxLocals = 2 := hml0
  have hown : s.vm.findClass "java/util/Objects" = some m.cls := findClass_of_methodNamed Bd.named
  have hnm := (name_of_methodNamed Bd.named Bd.method).1
  have hlk : meth.locks = false := BodyLoose.notSynchronized Bd
  have X0 : Stand p l e ({ frames := 0, cells := 0, slots := 0, locals := 0 } : Room) s m #[(.ref ra), (.ref rb)] below meth c s₁ [] 0 0 := Stand.of_body Bd
  have e0 : s₁.heap = h0 := by rw [← hh, Bd.state]; rfl
  have N0 := Fr.nil n0
  suffices G : Go p e below s (Q_rnn Z ra rb h0 n0) 0 0 s₁ (mkF m 0 #[.val (.ref ra), .val (.ref rb)] []) by
    obtain ⟨s2, o, h1, h2⟩ := G
    exact ⟨s2, o, castTop (ef_rnn m ra rb) h1, h2⟩
  refine Go.by (T' := s₁) (g' := (mkF m 1 #[.val (.ref ra), .val (.ref rb)] [(.ref ra)])) (fun t_ k_ => XS.aloadN X0.here hx rfl (hb hby d_jdk_31_method_11_code_0) rfl rfl k_) ?_
  refine Go.by (T' := s₁) (g' := (mkF m 13 #[.val (.ref ra), .val (.ref rb)] [])) (fun t_ k_ => XS.ifnonnullYes X0.here hx rfl (pc0 := 1) (pc' := 13) rfl (hb hby d_jdk_31_method_11_code_1) rfl (by decide) (by decide) k_) ?_
  refine Go.by (T' := s₁) (g' := (mkF m 14 #[.val (.ref ra), .val (.ref rb)] [(.ref ra)])) (fun t_ k_ => XS.aloadN X0.here hx rfl (hb hby d_jdk_31_method_11_code_13) rfl rfl k_) ?_
  refine Go.fin X0 (v := some (.ref ra)) (fun h => by rw [Bd.returns] at h; cases h) hlk (by decide) (by decide) ?_ (fun fs hr => retR X0 hx (w := (.ref ra)) Bd.returns rfl rfl rfl (hb hby d_jdk_31_method_11_code_14) hr)
  show Q_rnn Z ra rb h0 n0 _ s₁.heap _
  rw [e0]
  exact ⟨rfl, N0, rfl⟩
def Q_tinit (Z : State) (xa : Addr) (ra : Addr) (rb : Addr) (h0 : Heap) (n0 : Nat) (v : Option Value) (h : Heap) (L : List Loc) : Prop := v = none ∧ Fr n0 L ∧ Keep h0 h [xa] ∧ Fld Z h xa "com/example/lorikeet/lorikeet/formats/TrecDocument" "docno" "Ljava/lang/String;" (.ref ra) ∧ Fld Z h xa "com/example/lorikeet/lorikeet/formats/TrecDocument" "text" "Ljava/lang/String;" (.ref rb)
theorem pn_4 : plainName "com/example/lorikeet/lorikeet/formats/TrecDocument" = true := by first | (simp [plainName, overriddenIn]; done) | decide +kernel
theorem ef_tinit (m : MethodId) (xa : Addr) (ra : Addr) (rb : Addr) : entryFrame m #[(.ref xa), (.ref ra), (.ref rb)] 3 = mkF m 0 #[.val (.ref xa), .val (.ref ra), .val (.ref rb)] [] := by first | (simp [entryFrame, mkF, argsToLocals, Value.category]; done) | rfl
theorem d_prog_30_method_1_code_0 : decode prog_30_method_1_code 0 = .ok (.aload_n 0, 1) := by decide +kernel
theorem d_prog_30_method_1_code_1 : decode prog_30_method_1_code 1 = .ok (.invokespecial 1, 3) := by decide +kernel
theorem d_prog_30_method_1_code_4 : decode prog_30_method_1_code 4 = .ok (.aload_n 0, 1) := by decide +kernel
theorem d_prog_30_method_1_code_5 : decode prog_30_method_1_code 5 = .ok (.aload_n 1, 1) := by decide +kernel
theorem d_prog_30_method_1_code_6 : decode prog_30_method_1_code 6 = .ok (.ldc 7, 2) := by decide +kernel
theorem d_prog_30_method_1_code_8 : decode prog_30_method_1_code 8 = .ok (.invokestatic 9, 3) := by decide +kernel
theorem pd_6 : parseMethodDescriptor "(Ljava/lang/Object;Ljava/lang/String;)Ljava/lang/Object;" = some ⟨[(.object "java/lang/Object"), (.object "java/lang/String")], some (.object "java/lang/Object")⟩ := by decide +kernel
theorem d_prog_30_method_1_code_11 : decode prog_30_method_1_code 11 = .ok (.checkcast 15, 3) := by decide +kernel
theorem d_prog_30_method_1_code_14 : decode prog_30_method_1_code 14 = .ok (.putfield 17, 3) := by decide +kernel
theorem d_prog_30_method_1_code_17 : decode prog_30_method_1_code 17 = .ok (.aload_n 0, 1) := by decide +kernel
theorem d_prog_30_method_1_code_18 : decode prog_30_method_1_code 18 = .ok (.aload_n 2, 1) := by decide +kernel
theorem d_prog_30_method_1_code_19 : decode prog_30_method_1_code 19 = .ok (.ldc 22, 2) := by decide +kernel
theorem d_prog_30_method_1_code_21 : decode prog_30_method_1_code 21 = .ok (.invokestatic 9, 3) := by decide +kernel
theorem d_prog_30_method_1_code_24 : decode prog_30_method_1_code 24 = .ok (.checkcast 15, 3) := by decide +kernel
theorem d_prog_30_method_1_code_27 : decode prog_30_method_1_code 27 = .ok (.putfield 24, 3) := by decide +kernel
theorem d_prog_30_method_1_code_30 : decode prog_30_method_1_code 30 = .ok (.return_, 1) := by decide +kernel
set_option maxRecDepth 65536 in
set_option maxHeartbeats 40000000 in
theorem rm_tinit (l : Launch) (Z : State) (a0 : Array Value) (hw : ∀ d ∈ tables_1, d.before a0 Z = true) (ws : List Jvm.Cond) (xa : Addr) (ra : Addr) (rb : Addr) (h0 : Heap) (n0 : Nat) (X00 : Old Z n0 h0) (P0 : Exa Z h0 xa "com/example/lorikeet/lorikeet/formats/TrecDocument") (P1 : Fld Z h0 xa "com/example/lorikeet/lorikeet/formats/TrecDocument" "docno" "Ljava/lang/String;" .null) (P2 : Fld Z h0 xa "com/example/lorikeet/lorikeet/formats/TrecDocument" "text" "Ljava/lang/String;" .null) (P3 : n0 ≤ xa) (P4 : Exa Z h0 ra "java/lang/String") (P5 : Exa Z h0 rb "java/lang/String") :
    MetFree l (⟨"com/example/lorikeet/lorikeet/formats/TrecDocument", "<init>", "(Ljava/lang/String;Ljava/lang/String;)V"⟩ : MethodName) (head1 (Jvm.Cond.code (⟨"com/example/lorikeet/lorikeet/formats/TrecDocument", "<init>", "(Ljava/lang/String;Ljava/lang/String;)V"⟩ : MethodName) prog_30_method_1_code 3 none :: ws) ({ frames := 1, cells := 4, slots := 44, locals := 14 } : Room)) (fun aa_ U => aa_ = #[(.ref xa), (.ref ra), (.ref rb)] ∧ Z.Warmed39 U.vm ∧ U.heap = h0 ∧ CHv Z consts_1 U.vm h0) (fun _ _ _ _ _ => True) (fun _ U o U' => ∃ v L, o = .returned v ∧ Q_tinit Z xa ra rb h0 n0 v U'.heap L ∧ CHr Z consts_1 U.vm U.heap U'.vm U'.heap ∧ ReturnedEndW U o U' L ({ frames := 1, cells := 4, slots := 44, locals := 14 } : Room).cells ({ frames := 1, cells := 4, slots := 44, locals := 14 } : Room).slots) := by
  refine MetFree.of_bodySF (plainFor_of_name pn_4) hisR ?_
  intro p e s m args below meth c s₁ Bd hml0 hP hK
  obtain ⟨rfl, hZ, hh, hC0⟩ := hP
  have hx := Bd.exec
  have hby := Bd.bytes
  have hml : c.maxLocals = 3 := hml0
  have hown : s.vm.findClass "com/example/lorikeet/lorikeet/formats/TrecDocument" = some m.cls := findClass_of_methodNamed Bd.named
  have hnm := (name_of_methodNamed Bd.named Bd.method).1
  have hlk : meth.locks = false := BodyLoose.notSynchronized Bd
  have X0 : Stand p l e ({ frames := 1, cells := 4, slots := 44, locals := 14 } : Room) s m #[(.ref xa), (.ref ra), (.ref rb)] below meth c s₁ [] 0 0 := Stand.of_body Bd
  have e0 : s₁.heap = h0 := by rw [← hh, Bd.state]; rfl
  have N0 := Fr.nil n0
  suffices G : GoH Z consts_1 p e below s (Q_tinit Z xa ra rb h0 n0) 4 44 s₁ (mkF m 0 #[.val (.ref xa), .val (.ref ra), .val (.ref rb)] []) by
    obtain ⟨s2, o, h1, h2⟩ := G
    exact ⟨s2, o, castTop (ef_tinit m xa ra rb) h1, h2⟩
  have hS : s.Since s.vm 0 := (State.WarmedH.refl s).since 0
  have hC00 : CHr Z consts_1 s.vm h0 s.vm h0 := CHr.refl hC0
  refine GoH.by (T' := s₁) (g' := (mkF m 1 #[.val (.ref xa), .val (.ref ra), .val (.ref rb)] [(.ref xa)])) (fun t_ k_ => XS.aloadN X0.here hx rfl (hb hby d_prog_30_method_1_code_0) rfl rfl k_) ?_
  obtain ⟨T101, X101, e101, st101⟩ := initO X0 hx hZ hown (hw _ (List.mem_of_getElem? (i := 35) rfl)) (hw _ (List.mem_of_getElem? (i := 22) rfl)) (hw _ (List.mem_of_getElem? (i := 23) rfl)) e0 (g := (mkF m 1 #[.val (.ref xa), .val (.ref ra), .val (.ref rb)] [(.ref xa)])) rfl (by rw [hml]; rfl) rfl (hb hby d_prog_30_method_1_code_1) (by decide) (W := 0) (by show 2 * 0 + _ ≤ _; exact Nat.le_of_eq rfl) (by decide)
  refine GoH.by (T' := T101) (g' := (mkF m 4 #[.val (.ref xa), .val (.ref ra), .val (.ref rb)] [])) (fun t_ k_ => st101 _ k_) ?_
  refine GoH.by (T' := T101) (g' := (mkF m 5 #[.val (.ref xa), .val (.ref ra), .val (.ref rb)] [(.ref xa)])) (fun t_ k_ => XS.aloadN X101.here hx rfl (hb hby d_prog_30_method_1_code_4) rfl rfl k_) ?_
  refine GoH.by (T' := T101) (g' := (mkF m 6 #[.val (.ref xa), .val (.ref ra), .val (.ref rb)] [(.ref ra), (.ref xa)])) (fun t_ k_ => XS.aloadN X101.here hx rfl (hb hby d_prog_30_method_1_code_5) rfl rfl k_) ?_
  obtain ⟨r102, T102, h102, k1_102, X102, e102, E102, hS102, hk102, hZ102, hown102, hC102, Lt102, st102⟩ := ldcOH (s := s) (vm0 := s.vm) X101 hx hZ hown (hw _ (List.mem_of_getElem? (i := 36) rfl)) (own_atoms hw) e101 hS (Nat.zero_le _) (own_EW hw) hC00.1 (g := (mkF m 6 #[.val (.ref xa), .val (.ref ra), .val (.ref rb)] [(.ref ra), (.ref xa)])) rfl (hb hby d_prog_30_method_1_code_6) (n := 20) (by decide) (by decide) (by decide) (by decide)
  have hS := hS102; have hZ := hZ102; have hown := hown102
  have hC102 := CHr.trans hC00 hC102
  refine GoH.by (T' := T102) (g' := (mkF m 8 #[.val (.ref xa), .val (.ref ra), .val (.ref rb)] [(.ref r102), (.ref ra), (.ref xa)])) (fun t_ k_ => st102 _ k_) ?_
  have Od103 : Old Z n0 h102 := (X00.ext E102)
  obtain ⟨_, _, ⟨T104, L104, k104, n104⟩, -, X104, ⟨Lc104, hQ104, l104, y104, z104⟩, st104⟩ := Jvm.LawKit.callS X102 hx (y := (⟨"java/util/Objects", "requireNonNull", "(Ljava/lang/Object;Ljava/lang/String;)Ljava/lang/Object;"⟩ : MethodName)) hown (mvT hZ (hw _ (List.mem_of_getElem? (i := 37) rfl))) (mvT hZ (hw _ (List.mem_of_getElem? (i := 38) rfl))) (mvT hZ (hw _ (List.mem_of_getElem? (i := 39) rfl))) (mvT hZ (hw _ (List.mem_of_getElem? (i := 40) rfl))) (by decide) (backOf (W := 1) (rm_rnn l Z a0 hw [] ra r102 h102 n0 Od103 ) hZ (hw _ (List.mem_of_getElem? (i := 40) rfl)) (hw _ (List.mem_of_getElem? (i := 39) rfl)) (by decide) (by decide)) (g := (mkF m 8 #[.val (.ref xa), .val (.ref ra), .val (.ref rb)] [(.ref r102), (.ref ra), (.ref xa)])) rfl (by rw [hml]; rfl) (argsL := [(.ref ra), (.ref r102)]) (rest := [(.ref xa)]) (lenOf pd_6 rfl) rfl (by show 2 * 0 + _ ≤ _; exact Nat.le_of_eq rfl) (hb hby d_prog_30_method_1_code_8) (fun _ _ => ⟨rfl, e102, (by decide : 2 + 0 ≤ _), (by decide : 24 + 0 ≤ _)⟩)
  dsimp only [Pt.U, Pt.locs, Pt.cells, Pt.slots] at X104 l104 y104 z104 st104 hQ104
  subst l104 y104 z104
  obtain ⟨rfl, N104q, e104⟩ := hQ104
  have N104 := Fr.app N0 N104q
  refine GoH.by (T' := T104) (g' := (mkF m 11 #[.val (.ref xa), .val (.ref ra), .val (.ref rb)] [(.ref ra), (.ref xa)])) (fun t_ k_ => st104 _ k_) ?_
  have F105 : Exa Z h102 ra "java/lang/String" := (P4.ext E102)
  obtain ⟨T106, X106, e106, st106⟩ := castY X104 hx hZ hown (hw _ (List.mem_of_getElem? (i := 41) rfl)) e104 (Ins.self F105) (g := (mkF m 11 #[.val (.ref xa), .val (.ref ra), .val (.ref rb)] [(.ref ra), (.ref xa)])) rfl rfl (hb hby d_prog_30_method_1_code_11)
  refine GoH.by (T' := T106) (g' := (mkF m 14 #[.val (.ref xa), .val (.ref ra), .val (.ref rb)] [(.ref ra), (.ref xa)])) (fun t_ k_ => st106 _ k_) ?_
  have F107 : Fld Z h102 xa "com/example/lorikeet/lorikeet/formats/TrecDocument" "docno" "Ljava/lang/String;" .null := (P1.ext E102)
  have F108 : Exa Z h102 xa "com/example/lorikeet/lorikeet/formats/TrecDocument" := (P0.ext E102)
  have Kp109 : Keep h0 h102 [xa] := ((Keep.refl h0 [xa]).ext E102)
  have sf110 : Safe Z consts_1 T102.vm h102 xa := (Safe.exa hZ.alike F108 (by decide) (by decide))
  obtain ⟨T111, h111, X111, e111, W111, st111⟩ := putF X106 hx hZ hown (host := "") (Or.inl (hw _ (List.mem_of_getElem? (i := 42) rfl))) Via.refl e106 F107 F108 (Or.inr ⟨(hw _ (List.mem_of_getElem? (i := 43) rfl)), rfl, hnm⟩) (hw _ (List.mem_of_getElem? (i := 5) rfl)) (ty := (.object "java/lang/String")) (by decide) rfl rfl (g := (mkF m 14 #[.val (.ref xa), .val (.ref ra), .val (.ref rb)] [(.ref ra), (.ref xa)])) rfl rfl (hb hby d_prog_30_method_1_code_14)
  have Fw111 : Fld Z h111 xa "com/example/lorikeet/lorikeet/formats/TrecDocument" "docno" "Ljava/lang/String;" (.ref ra) := F107.same W111
  have N111 := Fr.snoc X111 N104 P3
  refine GoH.by (T' := T111) (g' := (mkF m 17 #[.val (.ref xa), .val (.ref ra), .val (.ref rb)] [])) (fun t_ k_ => st111 _ k_) ?_
  refine GoH.by (T' := T111) (g' := (mkF m 18 #[.val (.ref xa), .val (.ref ra), .val (.ref rb)] [(.ref xa)])) (fun t_ k_ => XS.aloadN X111.here hx rfl (hb hby d_prog_30_method_1_code_17) rfl rfl k_) ?_
  refine GoH.by (T' := T111) (g' := (mkF m 19 #[.val (.ref xa), .val (.ref ra), .val (.ref rb)] [(.ref rb), (.ref xa)])) (fun t_ k_ => XS.aloadN X111.here hx rfl (hb hby d_prog_30_method_1_code_18) rfl rfl k_) ?_
  have hC112 := CHr.trans hC102 (CHr.wr W111 sf110 hC102.1)
  obtain ⟨r113, T113, h113, k1_113, X113, e113, E113, hS113, hk113, hZ113, hown113, hC113, Lt113, st113⟩ := ldcOH (s := s) (vm0 := T102.vm) X111 hx hZ hown (hw _ (List.mem_of_getElem? (i := 44) rfl)) (own_atoms hw) e111 hS (Nat.le_trans hk102 (Keep.of_wr W111).1) (own_EW hw) hC112.1 (g := (mkF m 19 #[.val (.ref xa), .val (.ref ra), .val (.ref rb)] [(.ref rb), (.ref xa)])) rfl (hb hby d_prog_30_method_1_code_19) (n := 16) (by decide) (by decide) (by decide) (by decide)
  have hS := hS113; have hZ := hZ113; have hown := hown113
  have hC113 := CHr.trans hC112 hC113
  refine GoH.by (T' := T113) (g' := (mkF m 21 #[.val (.ref xa), .val (.ref ra), .val (.ref rb)] [(.ref r113), (.ref rb), (.ref xa)])) (fun t_ k_ => st113 _ k_) ?_
  have Od114 : Old Z n0 h113 := ((Od103.wr W111 P3).ext E113)
  obtain ⟨_, _, ⟨T115, L115, k115, n115⟩, -, X115, ⟨Lc115, hQ115, l115, y115, z115⟩, st115⟩ := Jvm.LawKit.callS X113 hx (y := (⟨"java/util/Objects", "requireNonNull", "(Ljava/lang/Object;Ljava/lang/String;)Ljava/lang/Object;"⟩ : MethodName)) hown (mvT hZ (hw _ (List.mem_of_getElem? (i := 37) rfl))) (mvT hZ (hw _ (List.mem_of_getElem? (i := 38) rfl))) (mvT hZ (hw _ (List.mem_of_getElem? (i := 39) rfl))) (mvT hZ (hw _ (List.mem_of_getElem? (i := 40) rfl))) (by decide) (backOf (W := 1) (rm_rnn l Z a0 hw [] rb r113 h113 n0 Od114 ) hZ (hw _ (List.mem_of_getElem? (i := 40) rfl)) (hw _ (List.mem_of_getElem? (i := 39) rfl)) (by decide) (by decide)) (g := (mkF m 21 #[.val (.ref xa), .val (.ref ra), .val (.ref rb)] [(.ref r113), (.ref rb), (.ref xa)])) rfl (by rw [hml]; rfl) (argsL := [(.ref rb), (.ref r113)]) (rest := [(.ref xa)]) (lenOf pd_6 rfl) rfl (by show 2 * 0 + _ ≤ _; exact Nat.le_of_eq rfl) (hb hby d_prog_30_method_1_code_21) (fun _ _ => ⟨rfl, e113, (by decide : 4 + 0 ≤ _), (by decide : 44 + 0 ≤ _)⟩)
  dsimp only [Pt.U, Pt.locs, Pt.cells, Pt.slots] at X115 l115 y115 z115 st115 hQ115
  subst l115 y115 z115
  obtain ⟨rfl, N115q, e115⟩ := hQ115
  have N115 := Fr.app N111 N115q
  refine GoH.by (T' := T115) (g' := (mkF m 24 #[.val (.ref xa), .val (.ref ra), .val (.ref rb)] [(.ref rb), (.ref xa)])) (fun t_ k_ => st115 _ k_) ?_
  have F116 : Exa Z h113 rb "java/lang/String" := (((P5.ext E102).wr W111).ext E113)
  obtain ⟨T117, X117, e117, st117⟩ := castY X115 hx hZ hown (hw _ (List.mem_of_getElem? (i := 41) rfl)) e115 (Ins.self F116) (g := (mkF m 24 #[.val (.ref xa), .val (.ref ra), .val (.ref rb)] [(.ref rb), (.ref xa)])) rfl rfl (hb hby d_prog_30_method_1_code_24)
  refine GoH.by (T' := T117) (g' := (mkF m 27 #[.val (.ref xa), .val (.ref ra), .val (.ref rb)] [(.ref rb), (.ref xa)])) (fun t_ k_ => st117 _ k_) ?_
  have F118 : Fld Z h113 xa "com/example/lorikeet/lorikeet/formats/TrecDocument" "text" "Ljava/lang/String;" .null := (((P2.ext E102).other W111 (Or.inr (slot_ne (Or.inr (hw _ (List.mem_of_getElem? (i := 46) rfl))) (Or.inr (hw _ (List.mem_of_getElem? (i := 43) rfl))) (by decide) (t := (.object "java/lang/String")) (t' := (.object "java/lang/String")) (by decide) (by decide)))).ext E113)
  have F119 : Exa Z h113 xa "com/example/lorikeet/lorikeet/formats/TrecDocument" := ((F108.wr W111).ext E113)
  have Kp120 : Keep h0 h113 [xa] := ((Kp109.wr W111 (Or.inl (List.mem_of_getElem? (i := 0) rfl))).ext E113)
  have sf121 : Safe Z consts_1 T113.vm h113 xa := (Safe.exa hZ.alike F119 (by decide) (by decide))
  obtain ⟨T122, h122, X122, e122, W122, st122⟩ := putF X117 hx hZ hown (host := "") (Or.inl (hw _ (List.mem_of_getElem? (i := 45) rfl))) Via.refl e117 F118 F119 (Or.inr ⟨(hw _ (List.mem_of_getElem? (i := 46) rfl)), rfl, hnm⟩) (hw _ (List.mem_of_getElem? (i := 5) rfl)) (ty := (.object "java/lang/String")) (by decide) rfl rfl (g := (mkF m 27 #[.val (.ref xa), .val (.ref ra), .val (.ref rb)] [(.ref rb), (.ref xa)])) rfl rfl (hb hby d_prog_30_method_1_code_27)
  have Fw122 : Fld Z h122 xa "com/example/lorikeet/lorikeet/formats/TrecDocument" "text" "Ljava/lang/String;" (.ref rb) := F118.same W122
  have N122 := Fr.snoc X122 N115 P3
  refine GoH.by (T' := T122) (g' := (mkF m 30 #[.val (.ref xa), .val (.ref ra), .val (.ref rb)] [])) (fun t_ k_ => st122 _ k_) ?_
  have F123 : Fld Z h122 xa "com/example/lorikeet/lorikeet/formats/TrecDocument" "docno" "Ljava/lang/String;" (.ref ra) := ((Fw111.ext E113).other W122 (Or.inr (slot_ne (Or.inr (hw _ (List.mem_of_getElem? (i := 43) rfl))) (Or.inr (hw _ (List.mem_of_getElem? (i := 46) rfl))) (by decide) (t := (.object "java/lang/String")) (t' := (.object "java/lang/String")) (by decide) (by decide))))
  have Kp124 : Keep h0 h122 [xa] := (Kp120.wr W122 (Or.inl (List.mem_of_getElem? (i := 0) rfl)))
  have hC125 := CHr.trans hC113 (CHr.wr W122 sf121 hC113.1)
  refine GoH.fin hS X122 (by rw [e122]; exact (Nat.le_trans hk113 (Keep.of_wr W122).1)) (by rw [hh, e122]; exact CHr.trans hC125 (CHv.at (s := s) (vm0 := T113.vm) X122 hZ (own_EW hw) hC125.1)) (v := none) (fun _ => rfl) hlk (by decide) (by decide) ?_ (fun fs hr => X122.returnOut hx Bd.returns (hb hby d_prog_30_method_1_code_30) hr)
  show Q_tinit Z xa ra rb h0 n0 _ T122.heap _
  rw [e122]
  exact ⟨rfl, N122, Kp124, F123, Fw122⟩
def Q_same (Z : State) (A : Nat) (a0_ : Int32) (a1_ : Int32) (B : Nat) (b0_ : Int32) (b1_ : Int32) (h0 : Heap) (n0 : Nat) (v : Option Value) (h : Heap) (L : List Loc) : Prop := v = some (.int (if (own_mk A a0_ a1_) = (own_mk B b0_ b1_) then 1 else 0)) ∧ Fr n0 L ∧ h = h0
theorem ef_same (m : MethodId) (a0_ : Int32) (a1_ : Int32) (b0_ : Int32) (b1_ : Int32) : entryFrame m #[(.int (Int32.ofNat A)), (.int a0_), (.int a1_), (.int (Int32.ofNat B)), (.int b0_), (.int b1_)] 6 = mkF m 0 #[.val (.int (Int32.ofNat A)), .val (.int a0_), .val (.int a1_), .val (.int (Int32.ofNat B)), .val (.int b0_), .val (.int b1_)] [] := by first | (simp [entryFrame, mkF, argsToLocals, Value.category]; done) | rfl
theorem d_method_4_code_0 : decode method_4_code 0 = .ok (.iload_n 0, 1) := by decide +kernel
theorem d_method_4_code_1 : decode method_4_code 1 = .ok (.iload_n 3, 1) := by decide +kernel
theorem d_method_4_code_2 : decode method_4_code 2 = .ok (.if_icmp .eq 5, 3) := by decide +kernel
theorem d_method_4_code_7 : decode method_4_code 7 = .ok (.iload_n 0, 1) := by decide +kernel
theorem d_method_4_code_8 : decode method_4_code 8 = .ok (.iconst 1, 1) := by decide +kernel
theorem d_method_4_code_9 : decode method_4_code 9 = .ok (.if_icmp .lt 11, 3) := by decide +kernel
theorem d_method_4_code_20 : decode method_4_code 20 = .ok (.iload_n 0, 1) := by decide +kernel
theorem d_method_4_code_21 : decode method_4_code 21 = .ok (.iconst 2, 1) := by decide +kernel
theorem d_method_4_code_22 : decode method_4_code 22 = .ok (.if_icmp .lt 11, 3) := by decide +kernel
theorem d_method_4_code_33 : decode method_4_code 33 = .ok (.iconst 1, 1) := by decide +kernel
theorem d_method_4_code_34 : decode method_4_code 34 = .ok (.ireturn, 1) := by decide +kernel
theorem d_method_4_code_25 : decode method_4_code 25 = .ok (.iload_n 2, 1) := by decide +kernel
theorem d_method_4_code_26 : decode method_4_code 26 = .ok (.iload 5, 2) := by decide +kernel
theorem d_method_4_code_28 : decode method_4_code 28 = .ok (.if_icmp .eq 5, 3) := by decide +kernel
theorem d_method_4_code_31 : decode method_4_code 31 = .ok (.iconst 0, 1) := by decide +kernel
theorem d_method_4_code_32 : decode method_4_code 32 = .ok (.ireturn, 1) := by decide +kernel
theorem d_method_4_code_12 : decode method_4_code 12 = .ok (.iload_n 1, 1) := by decide +kernel
theorem d_method_4_code_13 : decode method_4_code 13 = .ok (.iload 4, 2) := by decide +kernel
theorem d_method_4_code_15 : decode method_4_code 15 = .ok (.if_icmp .eq 5, 3) := by decide +kernel
theorem d_method_4_code_18 : decode method_4_code 18 = .ok (.iconst 0, 1) := by decide +kernel
theorem d_method_4_code_19 : decode method_4_code 19 = .ok (.ireturn, 1) := by decide +kernel
theorem d_method_4_code_5 : decode method_4_code 5 = .ok (.iconst 0, 1) := by decide +kernel
theorem d_method_4_code_6 : decode method_4_code 6 = .ok (.ireturn, 1) := by decide +kernel
set_option maxRecDepth 65536 in
set_option maxHeartbeats 40000000 in
theorem rm_same (l : Launch) (Z : State) (a0 : Array Value) (hw : ∀ d ∈ tables_1, d.before a0 Z = true) (ws : List Jvm.Cond) (A : Nat) (a0_ : Int32) (a1_ : Int32) (B : Nat) (b0_ : Int32) (b1_ : Int32) (h0 : Heap) (n0 : Nat) (X00 : Old Z n0 h0) (hA : A ≤ 2) (hB : B ≤ 2) :
    MetFree l (⟨"com/example/lorikeet/lorikeet/formats/TrecDocumentEqualsPinLaw", "same", "(IIIIII)Z"⟩ : MethodName) (head1 (Jvm.Cond.code (⟨"com/example/lorikeet/lorikeet/formats/TrecDocumentEqualsPinLaw", "same", "(IIIIII)Z"⟩ : MethodName) method_4_code 6 (some .boolean) :: ws) ({ frames := 0, cells := 0, slots := 0, locals := 0 } : Room)) (fun aa_ U => aa_ = #[(.int (Int32.ofNat A)), (.int a0_), (.int a1_), (.int (Int32.ofNat B)), (.int b0_), (.int b1_)] ∧ Z.Warmed39 U.vm ∧ U.heap = h0) (fun _ _ _ _ _ => True) (fun _ U o U' => ∃ v L, o = .returned v ∧ Q_same Z A a0_ a1_ B b0_ b1_ h0 n0 v U'.heap L ∧ FrameEnd U o U' L ({ frames := 0, cells := 0, slots := 0, locals := 0 } : Room).cells ({ frames := 0, cells := 0, slots := 0, locals := 0 } : Room).slots) := by
  refine MetFree.of_bodySF (plainFor_of_name pn_2) hisR ?_
  intro p e s m args below meth c s₁ Bd hml0 hP hK
  obtain ⟨rfl, hZ, hh⟩ := hP
  have hx := Bd.exec
  have hby := Bd.bytes
  have hml : c.maxLocals = 6 := hml0
  have hown : s.vm.findClass "com/example/lorikeet/lorikeet/formats/TrecDocumentEqualsPinLaw" = some m.cls := findClass_of_methodNamed Bd.named
  have hnm := (name_of_methodNamed Bd.named Bd.method).1
  have hlk : meth.locks = false := BodyLoose.notSynchronized Bd
  have X0 : Stand p l e ({ frames := 0, cells := 0, slots := 0, locals := 0 } : Room) s m #[(.int (Int32.ofNat A)), (.int a0_), (.int a1_), (.int (Int32.ofNat B)), (.int b0_), (.int b1_)] below meth c s₁ [] 0 0 := Stand.of_body Bd
  have e0 : s₁.heap = h0 := by rw [← hh, Bd.state]; rfl
  have N0 := Fr.nil n0
  suffices G : Go p e below s (Q_same Z A a0_ a1_ B b0_ b1_ h0 n0) 0 0 s₁ (mkF m 0 #[.val (.int (Int32.ofNat A)), .val (.int a0_), .val (.int a1_), .val (.int (Int32.ofNat B)), .val (.int b0_), .val (.int b1_)] []) by
    obtain ⟨s2, o, h1, h2⟩ := G
    exact ⟨s2, o, castTop (ef_same m a0_ a1_ b0_ b1_) h1, h2⟩
  refine Go.by (T' := s₁) (g' := (mkF m 1 #[.val (.int (Int32.ofNat A)), .val (.int a0_), .val (.int a1_), .val (.int (Int32.ofNat B)), .val (.int b0_), .val (.int b1_)] [(.int (Int32.ofNat A))])) (fun t_ k_ => XS.iloadN X0.here hx rfl (hb hby d_method_4_code_0) rfl k_) ?_
  refine Go.by (T' := s₁) (g' := (mkF m 2 #[.val (.int (Int32.ofNat A)), .val (.int a0_), .val (.int a1_), .val (.int (Int32.ofNat B)), .val (.int b0_), .val (.int b1_)] [(.int (Int32.ofNat B)), (.int (Int32.ofNat A))])) (fun t_ k_ => XS.iloadN X0.here hx rfl (hb hby d_method_4_code_1) rfl k_) ?_
  by_cases hAB : A = B
  · skip
    refine Go.by (T' := s₁) (g' := (mkF m 7 #[.val (.int (Int32.ofNat A)), .val (.int a0_), .val (.int a1_), .val (.int (Int32.ofNat B)), .val (.int b0_), .val (.int b1_)] [])) (fun t_ k_ => XS.icmpYes X0.here hx rfl (pc0 := 2) (pc' := 7) rfl (hb hby d_method_4_code_2) rfl (teq (by rw [own_inj (by omega) (by omega)]; exact hAB)).1 (by decide) (by decide) k_) ?_
    refine Go.by (T' := s₁) (g' := (mkF m 8 #[.val (.int (Int32.ofNat A)), .val (.int a0_), .val (.int a1_), .val (.int (Int32.ofNat B)), .val (.int b0_), .val (.int b1_)] [(.int (Int32.ofNat A))])) (fun t_ k_ => XS.iloadN X0.here hx rfl (hb hby d_method_4_code_7) rfl k_) ?_
    refine Go.by (T' := s₁) (g' := (mkF m 9 #[.val (.int (Int32.ofNat A)), .val (.int a0_), .val (.int a1_), .val (.int (Int32.ofNat B)), .val (.int b0_), .val (.int b1_)] [(.int (1 : Int32)), (.int (Int32.ofNat A))])) (fun t_ k_ => XS.iconst X0.here hx rfl (hb hby d_method_4_code_8) k_) ?_
    by_cases h1 : A < 1
    · skip
      refine Go.by (T' := s₁) (g' := (mkF m 20 #[.val (.int (Int32.ofNat A)), .val (.int a0_), .val (.int a1_), .val (.int (Int32.ofNat B)), .val (.int b0_), .val (.int b1_)] [])) (fun t_ k_ => XS.icmpYes X0.here hx rfl (pc0 := 9) (pc' := 20) rfl (hb hby d_method_4_code_9) rfl (tlt (by rw [show (1 : Int32) = Int32.ofNat 1 from rfl, own_lt (by omega) (by omega)]; exact h1)).1 (by decide) (by decide) k_) ?_
      refine Go.by (T' := s₁) (g' := (mkF m 21 #[.val (.int (Int32.ofNat A)), .val (.int a0_), .val (.int a1_), .val (.int (Int32.ofNat B)), .val (.int b0_), .val (.int b1_)] [(.int (Int32.ofNat A))])) (fun t_ k_ => XS.iloadN X0.here hx rfl (hb hby d_method_4_code_20) rfl k_) ?_
      refine Go.by (T' := s₁) (g' := (mkF m 22 #[.val (.int (Int32.ofNat A)), .val (.int a0_), .val (.int a1_), .val (.int (Int32.ofNat B)), .val (.int b0_), .val (.int b1_)] [(.int (2 : Int32)), (.int (Int32.ofNat A))])) (fun t_ k_ => XS.iconst X0.here hx rfl (hb hby d_method_4_code_21) k_) ?_
      by_cases h2 : A < 2
      · skip
        refine Go.by (T' := s₁) (g' := (mkF m 33 #[.val (.int (Int32.ofNat A)), .val (.int a0_), .val (.int a1_), .val (.int (Int32.ofNat B)), .val (.int b0_), .val (.int b1_)] [])) (fun t_ k_ => XS.icmpYes X0.here hx rfl (pc0 := 22) (pc' := 33) rfl (hb hby d_method_4_code_22) rfl (tlt (by rw [show (2 : Int32) = Int32.ofNat 2 from rfl, own_lt (by omega) (by omega)]; exact h2)).1 (by decide) (by decide) k_) ?_
        refine Go.by (T' := s₁) (g' := (mkF m 34 #[.val (.int (Int32.ofNat A)), .val (.int a0_), .val (.int a1_), .val (.int (Int32.ofNat B)), .val (.int b0_), .val (.int b1_)] [(.int (1 : Int32))])) (fun t_ k_ => XS.iconst X0.here hx rfl (hb hby d_method_4_code_33) k_) ?_
        refine Go.fin X0 (v := some (.int (nar .boolean (1 : Int32)))) (fun h => by rw [Bd.returns] at h; cases h) hlk (by decide) (by decide) ?_ (fun fs hr => retN X0 hx (t := .boolean) Bd.returns (by simp) (hb hby d_method_4_code_34) hr)
        show Q_same Z A a0_ a1_ B b0_ b1_ h0 n0 _ s₁.heap _
        rw [e0]
        exact ⟨by rw [if_pos (by rw [← hAB]; exact own_s3 hA (Or.inl h1) (Or.inl h2))]; rfl, N0, rfl⟩
      · skip
        refine Go.by (T' := s₁) (g' := (mkF m 25 #[.val (.int (Int32.ofNat A)), .val (.int a0_), .val (.int a1_), .val (.int (Int32.ofNat B)), .val (.int b0_), .val (.int b1_)] [])) (fun t_ k_ => XS.icmpNo X0.here hx rfl (hb hby d_method_4_code_22) rfl (flt (by rw [show (2 : Int32) = Int32.ofNat 2 from rfl, own_lt (by omega) (by omega)]; exact h2)).1 k_) ?_
        refine Go.by (T' := s₁) (g' := (mkF m 26 #[.val (.int (Int32.ofNat A)), .val (.int a0_), .val (.int a1_), .val (.int (Int32.ofNat B)), .val (.int b0_), .val (.int b1_)] [(.int a1_)])) (fun t_ k_ => XS.iloadN X0.here hx rfl (hb hby d_method_4_code_25) rfl k_) ?_
        refine Go.by (T' := s₁) (g' := (mkF m 28 #[.val (.int (Int32.ofNat A)), .val (.int a0_), .val (.int a1_), .val (.int (Int32.ofNat B)), .val (.int b0_), .val (.int b1_)] [(.int b1_), (.int a1_)])) (fun t_ k_ => XS.iload X0.here hx rfl (hb hby d_method_4_code_26) rfl k_) ?_
        by_cases hc101 : a1_ = b1_
        · skip
          refine Go.by (T' := s₁) (g' := (mkF m 33 #[.val (.int (Int32.ofNat A)), .val (.int a0_), .val (.int a1_), .val (.int (Int32.ofNat B)), .val (.int b0_), .val (.int b1_)] [])) (fun t_ k_ => XS.icmpYes X0.here hx rfl (pc0 := 28) (pc' := 33) rfl (hb hby d_method_4_code_28) rfl (teq hc101).1 (by decide) (by decide) k_) ?_
          refine Go.by (T' := s₁) (g' := (mkF m 34 #[.val (.int (Int32.ofNat A)), .val (.int a0_), .val (.int a1_), .val (.int (Int32.ofNat B)), .val (.int b0_), .val (.int b1_)] [(.int (1 : Int32))])) (fun t_ k_ => XS.iconst X0.here hx rfl (hb hby d_method_4_code_33) k_) ?_
          refine Go.fin X0 (v := some (.int (nar .boolean (1 : Int32)))) (fun h => by rw [Bd.returns] at h; cases h) hlk (by decide) (by decide) ?_ (fun fs hr => retN X0 hx (t := .boolean) Bd.returns (by simp) (hb hby d_method_4_code_34) hr)
          show Q_same Z A a0_ a1_ B b0_ b1_ h0 n0 _ s₁.heap _
          rw [e0]
          exact ⟨by rw [if_pos (by rw [← hAB]; exact own_s3 hA (Or.inl h1) (Or.inr hc101))]; rfl, N0, rfl⟩
        · skip
          refine Go.by (T' := s₁) (g' := (mkF m 31 #[.val (.int (Int32.ofNat A)), .val (.int a0_), .val (.int a1_), .val (.int (Int32.ofNat B)), .val (.int b0_), .val (.int b1_)] [])) (fun t_ k_ => XS.icmpNo X0.here hx rfl (hb hby d_method_4_code_28) rfl (feq hc101).1 k_) ?_
          refine Go.by (T' := s₁) (g' := (mkF m 32 #[.val (.int (Int32.ofNat A)), .val (.int a0_), .val (.int a1_), .val (.int (Int32.ofNat B)), .val (.int b0_), .val (.int b1_)] [(.int (0 : Int32))])) (fun t_ k_ => XS.iconst X0.here hx rfl (hb hby d_method_4_code_31) k_) ?_
          refine Go.fin X0 (v := some (.int (nar .boolean (0 : Int32)))) (fun h => by rw [Bd.returns] at h; cases h) hlk (by decide) (by decide) ?_ (fun fs hr => retN X0 hx (t := .boolean) Bd.returns (by simp) (hb hby d_method_4_code_32) hr)
          show Q_same Z A a0_ a1_ B b0_ b1_ h0 n0 _ s₁.heap _
          rw [e0]
          exact ⟨by rw [if_neg (by rw [← hAB]; exact own_s2 hA h2 hc101)]; rfl, N0, rfl⟩
    · skip
      refine Go.by (T' := s₁) (g' := (mkF m 12 #[.val (.int (Int32.ofNat A)), .val (.int a0_), .val (.int a1_), .val (.int (Int32.ofNat B)), .val (.int b0_), .val (.int b1_)] [])) (fun t_ k_ => XS.icmpNo X0.here hx rfl (hb hby d_method_4_code_9) rfl (flt (by rw [show (1 : Int32) = Int32.ofNat 1 from rfl, own_lt (by omega) (by omega)]; exact h1)).1 k_) ?_
      refine Go.by (T' := s₁) (g' := (mkF m 13 #[.val (.int (Int32.ofNat A)), .val (.int a0_), .val (.int a1_), .val (.int (Int32.ofNat B)), .val (.int b0_), .val (.int b1_)] [(.int a0_)])) (fun t_ k_ => XS.iloadN X0.here hx rfl (hb hby d_method_4_code_12) rfl k_) ?_
      refine Go.by (T' := s₁) (g' := (mkF m 15 #[.val (.int (Int32.ofNat A)), .val (.int a0_), .val (.int a1_), .val (.int (Int32.ofNat B)), .val (.int b0_), .val (.int b1_)] [(.int b0_), (.int a0_)])) (fun t_ k_ => XS.iload X0.here hx rfl (hb hby d_method_4_code_13) rfl k_) ?_
      by_cases hc102 : a0_ = b0_
      · skip
        refine Go.by (T' := s₁) (g' := (mkF m 20 #[.val (.int (Int32.ofNat A)), .val (.int a0_), .val (.int a1_), .val (.int (Int32.ofNat B)), .val (.int b0_), .val (.int b1_)] [])) (fun t_ k_ => XS.icmpYes X0.here hx rfl (pc0 := 15) (pc' := 20) rfl (hb hby d_method_4_code_15) rfl (teq hc102).1 (by decide) (by decide) k_) ?_
        refine Go.by (T' := s₁) (g' := (mkF m 21 #[.val (.int (Int32.ofNat A)), .val (.int a0_), .val (.int a1_), .val (.int (Int32.ofNat B)), .val (.int b0_), .val (.int b1_)] [(.int (Int32.ofNat A))])) (fun t_ k_ => XS.iloadN X0.here hx rfl (hb hby d_method_4_code_20) rfl k_) ?_
        refine Go.by (T' := s₁) (g' := (mkF m 22 #[.val (.int (Int32.ofNat A)), .val (.int a0_), .val (.int a1_), .val (.int (Int32.ofNat B)), .val (.int b0_), .val (.int b1_)] [(.int (2 : Int32)), (.int (Int32.ofNat A))])) (fun t_ k_ => XS.iconst X0.here hx rfl (hb hby d_method_4_code_21) k_) ?_
        by_cases h2 : A < 2
        · skip
          refine Go.by (T' := s₁) (g' := (mkF m 33 #[.val (.int (Int32.ofNat A)), .val (.int a0_), .val (.int a1_), .val (.int (Int32.ofNat B)), .val (.int b0_), .val (.int b1_)] [])) (fun t_ k_ => XS.icmpYes X0.here hx rfl (pc0 := 22) (pc' := 33) rfl (hb hby d_method_4_code_22) rfl (tlt (by rw [show (2 : Int32) = Int32.ofNat 2 from rfl, own_lt (by omega) (by omega)]; exact h2)).1 (by decide) (by decide) k_) ?_
          refine Go.by (T' := s₁) (g' := (mkF m 34 #[.val (.int (Int32.ofNat A)), .val (.int a0_), .val (.int a1_), .val (.int (Int32.ofNat B)), .val (.int b0_), .val (.int b1_)] [(.int (1 : Int32))])) (fun t_ k_ => XS.iconst X0.here hx rfl (hb hby d_method_4_code_33) k_) ?_
          refine Go.fin X0 (v := some (.int (nar .boolean (1 : Int32)))) (fun h => by rw [Bd.returns] at h; cases h) hlk (by decide) (by decide) ?_ (fun fs hr => retN X0 hx (t := .boolean) Bd.returns (by simp) (hb hby d_method_4_code_34) hr)
          show Q_same Z A a0_ a1_ B b0_ b1_ h0 n0 _ s₁.heap _
          rw [e0]
          exact ⟨by rw [if_pos (by rw [← hAB]; exact own_s3 hA (Or.inr hc102) (Or.inl h2))]; rfl, N0, rfl⟩
        · skip
          refine Go.by (T' := s₁) (g' := (mkF m 25 #[.val (.int (Int32.ofNat A)), .val (.int a0_), .val (.int a1_), .val (.int (Int32.ofNat B)), .val (.int b0_), .val (.int b1_)] [])) (fun t_ k_ => XS.icmpNo X0.here hx rfl (hb hby d_method_4_code_22) rfl (flt (by rw [show (2 : Int32) = Int32.ofNat 2 from rfl, own_lt (by omega) (by omega)]; exact h2)).1 k_) ?_
          refine Go.by (T' := s₁) (g' := (mkF m 26 #[.val (.int (Int32.ofNat A)), .val (.int a0_), .val (.int a1_), .val (.int (Int32.ofNat B)), .val (.int b0_), .val (.int b1_)] [(.int a1_)])) (fun t_ k_ => XS.iloadN X0.here hx rfl (hb hby d_method_4_code_25) rfl k_) ?_
          refine Go.by (T' := s₁) (g' := (mkF m 28 #[.val (.int (Int32.ofNat A)), .val (.int a0_), .val (.int a1_), .val (.int (Int32.ofNat B)), .val (.int b0_), .val (.int b1_)] [(.int b1_), (.int a1_)])) (fun t_ k_ => XS.iload X0.here hx rfl (hb hby d_method_4_code_26) rfl k_) ?_
          by_cases hc103 : a1_ = b1_
          · skip
            refine Go.by (T' := s₁) (g' := (mkF m 33 #[.val (.int (Int32.ofNat A)), .val (.int a0_), .val (.int a1_), .val (.int (Int32.ofNat B)), .val (.int b0_), .val (.int b1_)] [])) (fun t_ k_ => XS.icmpYes X0.here hx rfl (pc0 := 28) (pc' := 33) rfl (hb hby d_method_4_code_28) rfl (teq hc103).1 (by decide) (by decide) k_) ?_
            refine Go.by (T' := s₁) (g' := (mkF m 34 #[.val (.int (Int32.ofNat A)), .val (.int a0_), .val (.int a1_), .val (.int (Int32.ofNat B)), .val (.int b0_), .val (.int b1_)] [(.int (1 : Int32))])) (fun t_ k_ => XS.iconst X0.here hx rfl (hb hby d_method_4_code_33) k_) ?_
            refine Go.fin X0 (v := some (.int (nar .boolean (1 : Int32)))) (fun h => by rw [Bd.returns] at h; cases h) hlk (by decide) (by decide) ?_ (fun fs hr => retN X0 hx (t := .boolean) Bd.returns (by simp) (hb hby d_method_4_code_34) hr)
            show Q_same Z A a0_ a1_ B b0_ b1_ h0 n0 _ s₁.heap _
            rw [e0]
            exact ⟨by rw [if_pos (by rw [← hAB]; exact own_s3 hA (Or.inr hc102) (Or.inr hc103))]; rfl, N0, rfl⟩
          · skip
            refine Go.by (T' := s₁) (g' := (mkF m 31 #[.val (.int (Int32.ofNat A)), .val (.int a0_), .val (.int a1_), .val (.int (Int32.ofNat B)), .val (.int b0_), .val (.int b1_)] [])) (fun t_ k_ => XS.icmpNo X0.here hx rfl (hb hby d_method_4_code_28) rfl (feq hc103).1 k_) ?_
            refine Go.by (T' := s₁) (g' := (mkF m 32 #[.val (.int (Int32.ofNat A)), .val (.int a0_), .val (.int a1_), .val (.int (Int32.ofNat B)), .val (.int b0_), .val (.int b1_)] [(.int (0 : Int32))])) (fun t_ k_ => XS.iconst X0.here hx rfl (hb hby d_method_4_code_31) k_) ?_
            refine Go.fin X0 (v := some (.int (nar .boolean (0 : Int32)))) (fun h => by rw [Bd.returns] at h; cases h) hlk (by decide) (by decide) ?_ (fun fs hr => retN X0 hx (t := .boolean) Bd.returns (by simp) (hb hby d_method_4_code_32) hr)
            show Q_same Z A a0_ a1_ B b0_ b1_ h0 n0 _ s₁.heap _
            rw [e0]
            exact ⟨by rw [if_neg (by rw [← hAB]; exact own_s2 hA h2 hc103)]; rfl, N0, rfl⟩
      · skip
        refine Go.by (T' := s₁) (g' := (mkF m 18 #[.val (.int (Int32.ofNat A)), .val (.int a0_), .val (.int a1_), .val (.int (Int32.ofNat B)), .val (.int b0_), .val (.int b1_)] [])) (fun t_ k_ => XS.icmpNo X0.here hx rfl (hb hby d_method_4_code_15) rfl (feq hc102).1 k_) ?_
        refine Go.by (T' := s₁) (g' := (mkF m 19 #[.val (.int (Int32.ofNat A)), .val (.int a0_), .val (.int a1_), .val (.int (Int32.ofNat B)), .val (.int b0_), .val (.int b1_)] [(.int (0 : Int32))])) (fun t_ k_ => XS.iconst X0.here hx rfl (hb hby d_method_4_code_18) k_) ?_
        refine Go.fin X0 (v := some (.int (nar .boolean (0 : Int32)))) (fun h => by rw [Bd.returns] at h; cases h) hlk (by decide) (by decide) ?_ (fun fs hr => retN X0 hx (t := .boolean) Bd.returns (by simp) (hb hby d_method_4_code_19) hr)
        show Q_same Z A a0_ a1_ B b0_ b1_ h0 n0 _ s₁.heap _
        rw [e0]
        exact ⟨by rw [if_neg (by rw [← hAB]; exact own_s1 hA h1 hc102)]; rfl, N0, rfl⟩
  · skip
    refine Go.by (T' := s₁) (g' := (mkF m 5 #[.val (.int (Int32.ofNat A)), .val (.int a0_), .val (.int a1_), .val (.int (Int32.ofNat B)), .val (.int b0_), .val (.int b1_)] [])) (fun t_ k_ => XS.icmpNo X0.here hx rfl (hb hby d_method_4_code_2) rfl (feq (by rw [own_inj (by omega) (by omega)]; exact hAB)).1 k_) ?_
    refine Go.by (T' := s₁) (g' := (mkF m 6 #[.val (.int (Int32.ofNat A)), .val (.int a0_), .val (.int a1_), .val (.int (Int32.ofNat B)), .val (.int b0_), .val (.int b1_)] [(.int (0 : Int32))])) (fun t_ k_ => XS.iconst X0.here hx rfl (hb hby d_method_4_code_5) k_) ?_
    refine Go.fin X0 (v := some (.int (nar .boolean (0 : Int32)))) (fun h => by rw [Bd.returns] at h; cases h) hlk (by decide) (by decide) ?_ (fun fs hr => retN X0 hx (t := .boolean) Bd.returns (by simp) (hb hby d_method_4_code_6) hr)
    show Q_same Z A a0_ a1_ B b0_ b1_ h0 n0 _ s₁.heap _
    rw [e0]
    exact ⟨by rw [if_neg (own_s0 hA hB hAB)]; rfl, N0, rfl⟩
def Q_teq (Z : State) (xa : Addr) (ya : Addr) (G1 : Int32) (r11 : Addr) (t11 : Addr) (k11 : ClassId) (cs11 : List Int32) (r12 : Addr) (t12 : Addr) (k12 : ClassId) (cs12 : List Int32) (r21 : Addr) (t21 : Addr) (k21 : ClassId) (cs21 : List Int32) (r22 : Addr) (t22 : Addr) (k22 : ClassId) (cs22 : List Int32) (h0 : Heap) (n0 : Nat) (v : Option Value) (h : Heap) (L : List Loc) : Prop := v = some (.int (if cs11 = cs21 ∧ cs12 = cs22 then 1 else 0)) ∧ Fr n0 L ∧ h = h0
theorem ef_teq (m : MethodId) (xa : Addr) (ya : Addr) : entryFrame m #[(.ref xa), (.ref ya)] 3 = mkF m 0 #[.val (.ref xa), .val (.ref ya), .unset] [] := by first | (simp [entryFrame, mkF, argsToLocals, Value.category]; done) | rfl
theorem d_prog_30_method_4_code_0 : decode prog_30_method_4_code 0 = .ok (.aload_n 1, 1) := by decide +kernel
theorem d_prog_30_method_4_code_1 : decode prog_30_method_4_code 1 = .ok (.instanceof 18, 3) := by decide +kernel
theorem d_prog_30_method_4_code_4 : decode prog_30_method_4_code 4 = .ok (.ifCond .eq 11, 3) := by decide +kernel
theorem d_prog_30_method_4_code_7 : decode prog_30_method_4_code 7 = .ok (.aload_n 1, 1) := by decide +kernel
theorem d_prog_30_method_4_code_8 : decode prog_30_method_4_code 8 = .ok (.checkcast 18, 3) := by decide +kernel
theorem d_prog_30_method_4_code_11 : decode prog_30_method_4_code 11 = .ok (.astore_n 2, 1) := by decide +kernel
theorem d_prog_30_method_4_code_12 : decode prog_30_method_4_code 12 = .ok (.goto 5, 3) := by decide +kernel
theorem d_prog_30_method_4_code_17 : decode prog_30_method_4_code 17 = .ok (.aload_n 0, 1) := by decide +kernel
theorem d_prog_30_method_4_code_18 : decode prog_30_method_4_code 18 = .ok (.getfield 17, 3) := by decide +kernel
theorem d_prog_30_method_4_code_21 : decode prog_30_method_4_code 21 = .ok (.aload_n 2, 1) := by decide +kernel
theorem d_prog_30_method_4_code_22 : decode prog_30_method_4_code 22 = .ok (.getfield 17, 3) := by decide +kernel
theorem d_prog_30_method_4_code_25 : decode prog_30_method_4_code 25 = .ok (.invokevirtual 26, 3) := by decide +kernel
theorem pd_7 : parseMethodDescriptor "(Ljava/lang/Object;)Z" = some ⟨[(.object "java/lang/Object")], some .boolean⟩ := by decide +kernel
theorem d_prog_30_method_4_code_28 : decode prog_30_method_4_code 28 = .ok (.ifCond .eq 21, 3) := by decide +kernel
theorem d_prog_30_method_4_code_31 : decode prog_30_method_4_code 31 = .ok (.aload_n 0, 1) := by decide +kernel
theorem d_prog_30_method_4_code_32 : decode prog_30_method_4_code 32 = .ok (.getfield 24, 3) := by decide +kernel
theorem d_prog_30_method_4_code_35 : decode prog_30_method_4_code 35 = .ok (.aload_n 2, 1) := by decide +kernel
theorem d_prog_30_method_4_code_36 : decode prog_30_method_4_code 36 = .ok (.getfield 24, 3) := by decide +kernel
theorem d_prog_30_method_4_code_39 : decode prog_30_method_4_code 39 = .ok (.invokevirtual 26, 3) := by decide +kernel
theorem d_prog_30_method_4_code_42 : decode prog_30_method_4_code 42 = .ok (.ifCond .eq 7, 3) := by decide +kernel
theorem d_prog_30_method_4_code_45 : decode prog_30_method_4_code 45 = .ok (.iconst 1, 1) := by decide +kernel
theorem d_prog_30_method_4_code_46 : decode prog_30_method_4_code 46 = .ok (.goto 4, 3) := by decide +kernel
theorem d_prog_30_method_4_code_50 : decode prog_30_method_4_code 50 = .ok (.ireturn, 1) := by decide +kernel
theorem d_prog_30_method_4_code_49 : decode prog_30_method_4_code 49 = .ok (.iconst 0, 1) := by decide +kernel
set_option maxRecDepth 65536 in
set_option maxHeartbeats 40000000 in
theorem rm_teq (l : Launch) (Z : State) (a0 : Array Value) (hw : ∀ d ∈ tables_1, d.before a0 Z = true) (ws : List Jvm.Cond) (xa : Addr) (ya : Addr) (G1 : Int32) (r11 : Addr) (t11 : Addr) (k11 : ClassId) (cs11 : List Int32) (r12 : Addr) (t12 : Addr) (k12 : ClassId) (cs12 : List Int32) (r21 : Addr) (t21 : Addr) (k21 : ClassId) (cs21 : List Int32) (r22 : Addr) (t22 : Addr) (k22 : ClassId) (cs22 : List Int32) (h0 : Heap) (n0 : Nat) (X00 : Old Z n0 h0) (P0 : Sta Z Z.heap "java/lang/String" "COMPACT_STRINGS" "Z" (.int G1)) (hCS : ¬ (G1 = (0 : Int32))) (P2 : Exa Z h0 xa "com/example/lorikeet/lorikeet/formats/TrecDocument") (P3 : Exa Z h0 ya "com/example/lorikeet/lorikeet/formats/TrecDocument") (P4 : Fld Z h0 xa "com/example/lorikeet/lorikeet/formats/TrecDocument" "docno" "Ljava/lang/String;" (.ref r11)) (P5 : Fld Z h0 xa "com/example/lorikeet/lorikeet/formats/TrecDocument" "text" "Ljava/lang/String;" (.ref r12)) (P6 : Fld Z h0 ya "com/example/lorikeet/lorikeet/formats/TrecDocument" "docno" "Ljava/lang/String;" (.ref r21)) (P7 : Fld Z h0 ya "com/example/lorikeet/lorikeet/formats/TrecDocument" "text" "Ljava/lang/String;" (.ref r22)) (P8 : Exa Z h0 r11 "java/lang/String") (P9 : Fld Z h0 r11 "java/lang/String" "value" "[B" (.ref t11)) (P10 : Fld Z h0 r11 "java/lang/String" "coder" "B" (.int (0 : Int32))) (P11 : Arv Z h0 t11 k11 .byte (Int32.ofNat cs11.length) ((cs11.map (fun c => c.toInt8.toInt32)).map Value.int) (.int (0 : Int32))) (P12 : Exa Z h0 r12 "java/lang/String") (P13 : Fld Z h0 r12 "java/lang/String" "value" "[B" (.ref t12)) (P14 : Fld Z h0 r12 "java/lang/String" "coder" "B" (.int (0 : Int32))) (P15 : Arv Z h0 t12 k12 .byte (Int32.ofNat cs12.length) ((cs12.map (fun c => c.toInt8.toInt32)).map Value.int) (.int (0 : Int32))) (P16 : Exa Z h0 r21 "java/lang/String") (P17 : Fld Z h0 r21 "java/lang/String" "value" "[B" (.ref t21)) (P18 : Fld Z h0 r21 "java/lang/String" "coder" "B" (.int (0 : Int32))) (P19 : Arv Z h0 t21 k21 .byte (Int32.ofNat cs21.length) ((cs21.map (fun c => c.toInt8.toInt32)).map Value.int) (.int (0 : Int32))) (P20 : Exa Z h0 r22 "java/lang/String") (P21 : Fld Z h0 r22 "java/lang/String" "value" "[B" (.ref t22)) (P22 : Fld Z h0 r22 "java/lang/String" "coder" "B" (.int (0 : Int32))) (P23 : Arv Z h0 t22 k22 .byte (Int32.ofNat cs22.length) ((cs22.map (fun c => c.toInt8.toInt32)).map Value.int) (.int (0 : Int32))) (hp11 : ∀ c ∈ cs11, own_r c) (hl11 : cs11.length ≤ 2) (hp12 : ∀ c ∈ cs12, own_r c) (hl12 : cs12.length ≤ 2) (hp21 : ∀ c ∈ cs21, own_r c) (hl21 : cs21.length ≤ 2) (hp22 : ∀ c ∈ cs22, own_r c) (hl22 : cs22.length ≤ 2) :
    MetFree l (⟨"com/example/lorikeet/lorikeet/formats/TrecDocument", "equals", "(Ljava/lang/Object;)Z"⟩ : MethodName) (head1 (Jvm.Cond.code (⟨"com/example/lorikeet/lorikeet/formats/TrecDocument", "equals", "(Ljava/lang/Object;)Z"⟩ : MethodName) prog_30_method_4_code 3 (some .boolean) :: ws) ({ frames := 2, cells := 0, slots := 0, locals := 28 } : Room)) (fun aa_ U => aa_ = #[(.ref xa), (.ref ya)] ∧ Z.Warmed39 U.vm ∧ U.heap = h0) (fun _ _ _ _ _ => True) (fun _ U o U' => ∃ v L, o = .returned v ∧ Q_teq Z xa ya G1 r11 t11 k11 cs11 r12 t12 k12 cs12 r21 t21 k21 cs21 r22 t22 k22 cs22 h0 n0 v U'.heap L ∧ FrameEnd U o U' L ({ frames := 2, cells := 0, slots := 0, locals := 28 } : Room).cells ({ frames := 2, cells := 0, slots := 0, locals := 28 } : Room).slots) := by
  refine MetFree.of_bodySF (plainFor_of_name pn_4) hisR ?_
  intro p e s m args below meth c s₁ Bd hml0 hP hK
  obtain ⟨rfl, hZ, hh⟩ := hP
  have hx := Bd.exec
  have hby := Bd.bytes
  have hml : c.maxLocals = 3 := hml0
  have hown : s.vm.findClass "com/example/lorikeet/lorikeet/formats/TrecDocument" = some m.cls := findClass_of_methodNamed Bd.named
  have hnm := (name_of_methodNamed Bd.named Bd.method).1
  have hlk : meth.locks = false := BodyLoose.notSynchronized Bd
  have X0 : Stand p l e ({ frames := 2, cells := 0, slots := 0, locals := 28 } : Room) s m #[(.ref xa), (.ref ya)] below meth c s₁ [] 0 0 := Stand.of_body Bd
  have e0 : s₁.heap = h0 := by rw [← hh, Bd.state]; rfl
  have N0 := Fr.nil n0
  suffices G : Go p e below s (Q_teq Z xa ya G1 r11 t11 k11 cs11 r12 t12 k12 cs12 r21 t21 k21 cs21 r22 t22 k22 cs22 h0 n0) 0 0 s₁ (mkF m 0 #[.val (.ref xa), .val (.ref ya), .unset] []) by
    obtain ⟨s2, o, h1, h2⟩ := G
    exact ⟨s2, o, castTop (ef_teq m xa ya) h1, h2⟩
  refine Go.by (T' := s₁) (g' := (mkF m 1 #[.val (.ref xa), .val (.ref ya), .unset] [(.ref ya)])) (fun t_ k_ => XS.aloadN X0.here hx rfl (hb hby d_prog_30_method_4_code_0) rfl rfl k_) ?_
  obtain ⟨T101, X101, e101, st101⟩ := instY X0 hx hZ hown (hw _ (List.mem_of_getElem? (i := 55) rfl)) e0 (Ins.self P3) (g := (mkF m 1 #[.val (.ref xa), .val (.ref ya), .unset] [(.ref ya)])) rfl rfl (hb hby d_prog_30_method_4_code_1)
  refine Go.by (T' := T101) (g' := (mkF m 4 #[.val (.ref xa), .val (.ref ya), .unset] [(.int (1 : Int32))])) (fun t_ k_ => st101 _ k_) ?_
  refine Go.by (T' := T101) (g' := (mkF m 7 #[.val (.ref xa), .val (.ref ya), .unset] [])) (fun t_ k_ => XS.ifNo X101.here hx rfl (hb hby d_prog_30_method_4_code_4) rfl ((if0 _ _).trans (feq (by decide)).1) k_) ?_
  refine Go.by (T' := T101) (g' := (mkF m 8 #[.val (.ref xa), .val (.ref ya), .unset] [(.ref ya)])) (fun t_ k_ => XS.aloadN X101.here hx rfl (hb hby d_prog_30_method_4_code_7) rfl rfl k_) ?_
  obtain ⟨T102, X102, e102, st102⟩ := castY X101 hx hZ hown (hw _ (List.mem_of_getElem? (i := 55) rfl)) e101 (Ins.self P3) (g := (mkF m 8 #[.val (.ref xa), .val (.ref ya), .unset] [(.ref ya)])) rfl rfl (hb hby d_prog_30_method_4_code_8)
  refine Go.by (T' := T102) (g' := (mkF m 11 #[.val (.ref xa), .val (.ref ya), .unset] [(.ref ya)])) (fun t_ k_ => st102 _ k_) ?_
  refine Go.by (T' := T102) (g' := (mkF m 12 #[.val (.ref xa), .val (.ref ya), .val (.ref ya)] [])) (fun t_ k_ => XS.astoreN X102.here hx rfl (hb hby d_prog_30_method_4_code_11) rfl rfl (l' := #[.val (.ref xa), .val (.ref ya), .val (.ref ya)]) rfl k_) ?_
  refine Go.by (T' := T102) (g' := (mkF m 17 #[.val (.ref xa), .val (.ref ya), .val (.ref ya)] [])) (fun t_ k_ => XS.goto X102.here hx rfl (pc0 := 12) (pc' := 17) rfl (hb hby d_prog_30_method_4_code_12) (by decide) (by decide) k_) ?_
  refine Go.by (T' := T102) (g' := (mkF m 18 #[.val (.ref xa), .val (.ref ya), .val (.ref ya)] [(.ref xa)])) (fun t_ k_ => XS.aloadN X102.here hx rfl (hb hby d_prog_30_method_4_code_17) rfl rfl k_) ?_
  obtain ⟨T103, X103, e103, st103⟩ := getF X102 hx hZ hown (host := "") (Or.inl (hw _ (List.mem_of_getElem? (i := 42) rfl))) Via.refl e102 P4 (g := (mkF m 18 #[.val (.ref xa), .val (.ref ya), .val (.ref ya)] [(.ref xa)])) rfl rfl (hb hby d_prog_30_method_4_code_18)
  refine Go.by (T' := T103) (g' := (mkF m 21 #[.val (.ref xa), .val (.ref ya), .val (.ref ya)] [(.ref r11)])) (fun t_ k_ => st103 _ k_) ?_
  refine Go.by (T' := T103) (g' := (mkF m 22 #[.val (.ref xa), .val (.ref ya), .val (.ref ya)] [(.ref ya), (.ref r11)])) (fun t_ k_ => XS.aloadN X103.here hx rfl (hb hby d_prog_30_method_4_code_21) rfl rfl k_) ?_
  obtain ⟨T104, X104, e104, st104⟩ := getF X103 hx hZ hown (host := "") (Or.inl (hw _ (List.mem_of_getElem? (i := 42) rfl))) Via.refl e103 P6 (g := (mkF m 22 #[.val (.ref xa), .val (.ref ya), .val (.ref ya)] [(.ref ya), (.ref r11)])) rfl rfl (hb hby d_prog_30_method_4_code_22)
  refine Go.by (T' := T104) (g' := (mkF m 25 #[.val (.ref xa), .val (.ref ya), .val (.ref ya)] [(.ref r21), (.ref r11)])) (fun t_ k_ => st104 _ k_) ?_
  obtain ⟨cq105, kq105, q105a, q105b, q105c⟩ := isOf hZ e104 P8
  obtain ⟨_, _, ⟨T105, L105, k105, n105⟩, -, X105, ⟨Lc105, hQ105, l105, y105, z105⟩, st105⟩ := X104.virtualBack hx (y := (⟨"java/lang/String", "equals", "(Ljava/lang/Object;)Z"⟩ : MethodName)) (z := (⟨"java/lang/String", "equals", "(Ljava/lang/Object;)Z"⟩ : MethodName)) hown (mvT hZ (hw _ (List.mem_of_getElem? (i := 57) rfl))) (mvT hZ (hw _ (List.mem_of_getElem? (i := 58) rfl))) (notFace_of_selects (args := #[]) (mvT hZ (hw _ (List.mem_of_getElem? (i := 60) rfl)))) (mvT hZ (hw _ (List.mem_of_getElem? (i := 60) rfl))) (mvT hZ (hw _ (List.mem_of_getElem? (i := 59) rfl))) (by decide) (StrChars.Road.eqW (W := 0) hZ (own_wordsEq hw) (kI := 4) (hw _ (List.mem_of_getElem? (i := 11) rfl)) (cs := cs11) P8 P9 P10 P11 (StrChars.Road.codOf rfl (fun x hx => (hp11 x hx).2)) (own_up _ hp11) (by omega) (ds := cs21) P16 P17 P18 P19 (StrChars.Road.codOf rfl (fun x hx => (hp21 x hx).2)) (own_up _ hp21) (by omega) (P0.ext X00.2) hCS (by decide) (by decide)) q105a q105c (g := (mkF m 25 #[.val (.ref xa), .val (.ref ya), .val (.ref ya)] [(.ref r21), (.ref r11)])) rfl (by rw [hml]; rfl) (Steps.refl _) (argsL := [(.ref r21)]) (rest := []) (lenOf pd_7 rfl) rfl (by show 2 * 0 + _ ≤ _; exact Nat.le_of_eq rfl) (hb hby d_prog_30_method_4_code_25) (fun _ _ => ⟨rfl, e104, (by decide : 0 + 0 ≤ _), (by decide : 0 + 0 ≤ _)⟩)
  dsimp only [Pt.U, Pt.locs, Pt.cells, Pt.slots] at X105 l105 y105 z105 st105 hQ105
  subst l105 y105 z105
  obtain ⟨hv105, rfl, e105⟩ := hQ105
  obtain rfl := own_eqv hv105
  have N105 := Fr.app N0 (Fr.nil n0)
  refine Go.by (T' := T105) (g' := (mkF m 28 #[.val (.ref xa), .val (.ref ya), .val (.ref ya)] [(.int (if cs11 = cs21 then 1 else 0))])) (fun t_ k_ => st105.trans k_) ?_
  by_cases h1 : cs11 = cs21
  · skip
    refine Go.by (T' := T105) (g' := (mkF m 31 #[.val (.ref xa), .val (.ref ya), .val (.ref ya)] [])) (fun t_ k_ => XS.ifNo X105.here hx rfl (hb hby d_prog_30_method_4_code_28) rfl ((if0 _ _).trans (feq (by rw [if_pos h1]; decide)).1) k_) ?_
    refine Go.by (T' := T105) (g' := (mkF m 32 #[.val (.ref xa), .val (.ref ya), .val (.ref ya)] [(.ref xa)])) (fun t_ k_ => XS.aloadN X105.here hx rfl (hb hby d_prog_30_method_4_code_31) rfl rfl k_) ?_
    obtain ⟨T106, X106, e106, st106⟩ := getF X105 hx hZ hown (host := "") (Or.inl (hw _ (List.mem_of_getElem? (i := 45) rfl))) Via.refl e105 P5 (g := (mkF m 32 #[.val (.ref xa), .val (.ref ya), .val (.ref ya)] [(.ref xa)])) rfl rfl (hb hby d_prog_30_method_4_code_32)
    refine Go.by (T' := T106) (g' := (mkF m 35 #[.val (.ref xa), .val (.ref ya), .val (.ref ya)] [(.ref r12)])) (fun t_ k_ => st106 _ k_) ?_
    refine Go.by (T' := T106) (g' := (mkF m 36 #[.val (.ref xa), .val (.ref ya), .val (.ref ya)] [(.ref ya), (.ref r12)])) (fun t_ k_ => XS.aloadN X106.here hx rfl (hb hby d_prog_30_method_4_code_35) rfl rfl k_) ?_
    obtain ⟨T107, X107, e107, st107⟩ := getF X106 hx hZ hown (host := "") (Or.inl (hw _ (List.mem_of_getElem? (i := 45) rfl))) Via.refl e106 P7 (g := (mkF m 36 #[.val (.ref xa), .val (.ref ya), .val (.ref ya)] [(.ref ya), (.ref r12)])) rfl rfl (hb hby d_prog_30_method_4_code_36)
    refine Go.by (T' := T107) (g' := (mkF m 39 #[.val (.ref xa), .val (.ref ya), .val (.ref ya)] [(.ref r22), (.ref r12)])) (fun t_ k_ => st107 _ k_) ?_
    obtain ⟨cq108, kq108, q108a, q108b, q108c⟩ := isOf hZ e107 P12
    obtain ⟨_, _, ⟨T108, L108, k108, n108⟩, -, X108, ⟨Lc108, hQ108, l108, y108, z108⟩, st108⟩ := X107.virtualBack hx (y := (⟨"java/lang/String", "equals", "(Ljava/lang/Object;)Z"⟩ : MethodName)) (z := (⟨"java/lang/String", "equals", "(Ljava/lang/Object;)Z"⟩ : MethodName)) hown (mvT hZ (hw _ (List.mem_of_getElem? (i := 57) rfl))) (mvT hZ (hw _ (List.mem_of_getElem? (i := 58) rfl))) (notFace_of_selects (args := #[]) (mvT hZ (hw _ (List.mem_of_getElem? (i := 60) rfl)))) (mvT hZ (hw _ (List.mem_of_getElem? (i := 60) rfl))) (mvT hZ (hw _ (List.mem_of_getElem? (i := 59) rfl))) (by decide) (StrChars.Road.eqW (W := 0) hZ (own_wordsEq hw) (kI := 4) (hw _ (List.mem_of_getElem? (i := 11) rfl)) (cs := cs12) P12 P13 P14 P15 (StrChars.Road.codOf rfl (fun x hx => (hp12 x hx).2)) (own_up _ hp12) (by omega) (ds := cs22) P20 P21 P22 P23 (StrChars.Road.codOf rfl (fun x hx => (hp22 x hx).2)) (own_up _ hp22) (by omega) (P0.ext X00.2) hCS (by decide) (by decide)) q108a q108c (g := (mkF m 39 #[.val (.ref xa), .val (.ref ya), .val (.ref ya)] [(.ref r22), (.ref r12)])) rfl (by rw [hml]; rfl) (Steps.refl _) (argsL := [(.ref r22)]) (rest := []) (lenOf pd_7 rfl) rfl (by show 2 * 0 + _ ≤ _; exact Nat.le_of_eq rfl) (hb hby d_prog_30_method_4_code_39) (fun _ _ => ⟨rfl, e107, (by decide : 0 + 0 ≤ _), (by decide : 0 + 0 ≤ _)⟩)
    dsimp only [Pt.U, Pt.locs, Pt.cells, Pt.slots] at X108 l108 y108 z108 st108 hQ108
    subst l108 y108 z108
    obtain ⟨hv108, rfl, e108⟩ := hQ108
    obtain rfl := own_eqv hv108
    have N108 := Fr.app N105 (Fr.nil n0)
    refine Go.by (T' := T108) (g' := (mkF m 42 #[.val (.ref xa), .val (.ref ya), .val (.ref ya)] [(.int (if cs12 = cs22 then 1 else 0))])) (fun t_ k_ => st108.trans k_) ?_
    by_cases h2 : cs12 = cs22
    · skip
      refine Go.by (T' := T108) (g' := (mkF m 45 #[.val (.ref xa), .val (.ref ya), .val (.ref ya)] [])) (fun t_ k_ => XS.ifNo X108.here hx rfl (hb hby d_prog_30_method_4_code_42) rfl ((if0 _ _).trans (feq (by rw [if_pos h2]; decide)).1) k_) ?_
      refine Go.by (T' := T108) (g' := (mkF m 46 #[.val (.ref xa), .val (.ref ya), .val (.ref ya)] [(.int (1 : Int32))])) (fun t_ k_ => XS.iconst X108.here hx rfl (hb hby d_prog_30_method_4_code_45) k_) ?_
      refine Go.by (T' := T108) (g' := (mkF m 50 #[.val (.ref xa), .val (.ref ya), .val (.ref ya)] [(.int (1 : Int32))])) (fun t_ k_ => XS.goto X108.here hx rfl (pc0 := 46) (pc' := 50) rfl (hb hby d_prog_30_method_4_code_46) (by decide) (by decide) k_) ?_
      refine Go.fin X108 (v := some (.int (nar .boolean (1 : Int32)))) (fun h => by rw [Bd.returns] at h; cases h) hlk (by decide) (by decide) ?_ (fun fs hr => retN X108 hx (t := .boolean) Bd.returns (by simp) (hb hby d_prog_30_method_4_code_50) hr)
      show Q_teq Z xa ya G1 r11 t11 k11 cs11 r12 t12 k12 cs12 r21 t21 k21 cs21 r22 t22 k22 cs22 h0 n0 _ T108.heap _
      rw [e108]
      exact ⟨by rw [if_pos ⟨h1, h2⟩]; rfl, N108, rfl⟩
    · skip
      refine Go.by (T' := T108) (g' := (mkF m 49 #[.val (.ref xa), .val (.ref ya), .val (.ref ya)] [])) (fun t_ k_ => XS.ifYes X108.here hx rfl (pc0 := 42) (pc' := 49) rfl (hb hby d_prog_30_method_4_code_42) rfl ((if0 _ _).trans (teq (if_neg h2)).1) (by decide) (by decide) k_) ?_
      refine Go.by (T' := T108) (g' := (mkF m 50 #[.val (.ref xa), .val (.ref ya), .val (.ref ya)] [(.int (0 : Int32))])) (fun t_ k_ => XS.iconst X108.here hx rfl (hb hby d_prog_30_method_4_code_49) k_) ?_
      refine Go.fin X108 (v := some (.int (nar .boolean (0 : Int32)))) (fun h => by rw [Bd.returns] at h; cases h) hlk (by decide) (by decide) ?_ (fun fs hr => retN X108 hx (t := .boolean) Bd.returns (by simp) (hb hby d_prog_30_method_4_code_50) hr)
      show Q_teq Z xa ya G1 r11 t11 k11 cs11 r12 t12 k12 cs12 r21 t21 k21 cs21 r22 t22 k22 cs22 h0 n0 _ T108.heap _
      rw [e108]
      exact ⟨by rw [if_neg (fun q => h2 q.2)]; rfl, N108, rfl⟩
  · skip
    refine Go.by (T' := T105) (g' := (mkF m 49 #[.val (.ref xa), .val (.ref ya), .val (.ref ya)] [])) (fun t_ k_ => XS.ifYes X105.here hx rfl (pc0 := 28) (pc' := 49) rfl (hb hby d_prog_30_method_4_code_28) rfl ((if0 _ _).trans (teq (if_neg h1)).1) (by decide) (by decide) k_) ?_
    refine Go.by (T' := T105) (g' := (mkF m 50 #[.val (.ref xa), .val (.ref ya), .val (.ref ya)] [(.int (0 : Int32))])) (fun t_ k_ => XS.iconst X105.here hx rfl (hb hby d_prog_30_method_4_code_49) k_) ?_
    refine Go.fin X105 (v := some (.int (nar .boolean (0 : Int32)))) (fun h => by rw [Bd.returns] at h; cases h) hlk (by decide) (by decide) ?_ (fun fs hr => retN X105 hx (t := .boolean) Bd.returns (by simp) (hb hby d_prog_30_method_4_code_50) hr)
    show Q_teq Z xa ya G1 r11 t11 k11 cs11 r12 t12 k12 cs12 r21 t21 k21 cs21 r22 t22 k22 cs22 h0 n0 _ T105.heap _
    rw [e105]
    exact ⟨by rw [if_neg (fun q => h1 q.1)]; rfl, N105, rfl⟩
def Q_tnull (Z : State) (xa : Addr) (h0 : Heap) (n0 : Nat) (v : Option Value) (h : Heap) (L : List Loc) : Prop := v = some (.int 0) ∧ Fr n0 L ∧ h = h0
theorem ef_tnull (m : MethodId) (xa : Addr) : entryFrame m #[(.ref xa), .null] 3 = mkF m 0 #[.val (.ref xa), .val .null, .unset] [] := by first | (simp [entryFrame, mkF, argsToLocals, Value.category]; done) | rfl
theorem d_prog_30_method_4_code_15 : decode prog_30_method_4_code 15 = .ok (.iconst 0, 1) := by decide +kernel
theorem d_prog_30_method_4_code_16 : decode prog_30_method_4_code 16 = .ok (.ireturn, 1) := by decide +kernel
set_option maxRecDepth 65536 in
set_option maxHeartbeats 40000000 in
theorem rm_tnull (l : Launch) (Z : State) (a0 : Array Value) (hw : ∀ d ∈ tables_1, d.before a0 Z = true) (ws : List Jvm.Cond) (xa : Addr) (h0 : Heap) (n0 : Nat) (X00 : Old Z n0 h0)  :
    MetFree l (⟨"com/example/lorikeet/lorikeet/formats/TrecDocument", "equals", "(Ljava/lang/Object;)Z"⟩ : MethodName) (head1 (Jvm.Cond.code (⟨"com/example/lorikeet/lorikeet/formats/TrecDocument", "equals", "(Ljava/lang/Object;)Z"⟩ : MethodName) prog_30_method_4_code 3 (some .boolean) :: ws) ({ frames := 0, cells := 0, slots := 0, locals := 0 } : Room)) (fun aa_ U => aa_ = #[(.ref xa), .null] ∧ Z.Warmed39 U.vm ∧ U.heap = h0) (fun _ _ _ _ _ => True) (fun _ U o U' => ∃ v L, o = .returned v ∧ Q_tnull Z xa h0 n0 v U'.heap L ∧ FrameEnd U o U' L ({ frames := 0, cells := 0, slots := 0, locals := 0 } : Room).cells ({ frames := 0, cells := 0, slots := 0, locals := 0 } : Room).slots) := by
  refine MetFree.of_bodySF (plainFor_of_name pn_4) hisR ?_
  intro p e s m args below meth c s₁ Bd hml0 hP hK
  obtain ⟨rfl, hZ, hh⟩ := hP
  have hx := Bd.exec
  have hby := Bd.bytes
  have hml : c.maxLocals = 3 := hml0
  have hown : s.vm.findClass "com/example/lorikeet/lorikeet/formats/TrecDocument" = some m.cls := findClass_of_methodNamed Bd.named
  have hnm := (name_of_methodNamed Bd.named Bd.method).1
  have hlk : meth.locks = false := BodyLoose.notSynchronized Bd
  have X0 : Stand p l e ({ frames := 0, cells := 0, slots := 0, locals := 0 } : Room) s m #[(.ref xa), .null] below meth c s₁ [] 0 0 := Stand.of_body Bd
  have e0 : s₁.heap = h0 := by rw [← hh, Bd.state]; rfl
  have N0 := Fr.nil n0
  suffices G : Go p e below s (Q_tnull Z xa h0 n0) 0 0 s₁ (mkF m 0 #[.val (.ref xa), .val .null, .unset] []) by
    obtain ⟨s2, o, h1, h2⟩ := G
    exact ⟨s2, o, castTop (ef_tnull m xa) h1, h2⟩
  refine Go.by (T' := s₁) (g' := (mkF m 1 #[.val (.ref xa), .val .null, .unset] [.null])) (fun t_ k_ => XS.aloadN X0.here hx rfl (hb hby d_prog_30_method_4_code_0) rfl rfl k_) ?_
  refine Go.by (T' := s₁) (g' := (mkF m 4 #[.val (.ref xa), .val .null, .unset] [(.int (0 : Int32))])) (fun t_ k_ => X0.instanceofNull hx (g := (mkF m 1 #[.val (.ref xa), .val .null, .unset] [.null])) rfl rfl (hb hby d_prog_30_method_4_code_1) _ k_) ?_
  refine Go.by (T' := s₁) (g' := (mkF m 15 #[.val (.ref xa), .val .null, .unset] [])) (fun t_ k_ => XS.ifYes X0.here hx rfl (pc0 := 4) (pc' := 15) rfl (hb hby d_prog_30_method_4_code_4) rfl ((if0 _ _).trans (teq rfl).1) (by decide) (by decide) k_) ?_
  refine Go.by (T' := s₁) (g' := (mkF m 16 #[.val (.ref xa), .val .null, .unset] [(.int (0 : Int32))])) (fun t_ k_ => XS.iconst X0.here hx rfl (hb hby d_prog_30_method_4_code_15) k_) ?_
  refine Go.fin X0 (v := some (.int (nar .boolean (0 : Int32)))) (fun h => by rw [Bd.returns] at h; cases h) hlk (by decide) (by decide) ?_ (fun fs hr => retN X0 hx (t := .boolean) Bd.returns (by simp) (hb hby d_prog_30_method_4_code_16) hr)
  show Q_tnull Z xa h0 n0 _ s₁.heap _
  rw [e0]
  exact ⟨rfl, N0, rfl⟩
def Q_tstr (Z : State) (xa : Addr) (ra : Addr) (h0 : Heap) (n0 : Nat) (v : Option Value) (h : Heap) (L : List Loc) : Prop := v = some (.int 0) ∧ Fr n0 L ∧ h = h0
theorem ef_tstr (m : MethodId) (xa : Addr) (ra : Addr) : entryFrame m #[(.ref xa), (.ref ra)] 3 = mkF m 0 #[.val (.ref xa), .val (.ref ra), .unset] [] := by first | (simp [entryFrame, mkF, argsToLocals, Value.category]; done) | rfl
set_option maxRecDepth 65536 in
set_option maxHeartbeats 40000000 in
theorem rm_tstr (l : Launch) (Z : State) (a0 : Array Value) (hw : ∀ d ∈ tables_1, d.before a0 Z = true) (ws : List Jvm.Cond) (xa : Addr) (ra : Addr) (h0 : Heap) (n0 : Nat) (X00 : Old Z n0 h0) (P0 : Exa Z h0 ra "java/lang/String") :
    MetFree l (⟨"com/example/lorikeet/lorikeet/formats/TrecDocument", "equals", "(Ljava/lang/Object;)Z"⟩ : MethodName) (head1 (Jvm.Cond.code (⟨"com/example/lorikeet/lorikeet/formats/TrecDocument", "equals", "(Ljava/lang/Object;)Z"⟩ : MethodName) prog_30_method_4_code 3 (some .boolean) :: ws) ({ frames := 0, cells := 0, slots := 0, locals := 0 } : Room)) (fun aa_ U => aa_ = #[(.ref xa), (.ref ra)] ∧ Z.Warmed39 U.vm ∧ U.heap = h0) (fun _ _ _ _ _ => True) (fun _ U o U' => ∃ v L, o = .returned v ∧ Q_tstr Z xa ra h0 n0 v U'.heap L ∧ FrameEnd U o U' L ({ frames := 0, cells := 0, slots := 0, locals := 0 } : Room).cells ({ frames := 0, cells := 0, slots := 0, locals := 0 } : Room).slots) := by
  refine MetFree.of_bodySF (plainFor_of_name pn_4) hisR ?_
  intro p e s m args below meth c s₁ Bd hml0 hP hK
  obtain ⟨rfl, hZ, hh⟩ := hP
  have hx := Bd.exec
  have hby := Bd.bytes
  have hml : c.maxLocals = 3 := hml0
  have hown : s.vm.findClass "com/example/lorikeet/lorikeet/formats/TrecDocument" = some m.cls := findClass_of_methodNamed Bd.named
  have hnm := (name_of_methodNamed Bd.named Bd.method).1
  have hlk : meth.locks = false := BodyLoose.notSynchronized Bd
  have X0 : Stand p l e ({ frames := 0, cells := 0, slots := 0, locals := 0 } : Room) s m #[(.ref xa), (.ref ra)] below meth c s₁ [] 0 0 := Stand.of_body Bd
  have e0 : s₁.heap = h0 := by rw [← hh, Bd.state]; rfl
  have N0 := Fr.nil n0
  suffices G : Go p e below s (Q_tstr Z xa ra h0 n0) 0 0 s₁ (mkF m 0 #[.val (.ref xa), .val (.ref ra), .unset] []) by
    obtain ⟨s2, o, h1, h2⟩ := G
    exact ⟨s2, o, castTop (ef_tstr m xa ra) h1, h2⟩
  refine Go.by (T' := s₁) (g' := (mkF m 1 #[.val (.ref xa), .val (.ref ra), .unset] [(.ref ra)])) (fun t_ k_ => XS.aloadN X0.here hx rfl (hb hby d_prog_30_method_4_code_0) rfl rfl k_) ?_
  obtain ⟨T101, X101, e101, st101⟩ := instNo X0 hx hZ hown (hw _ (List.mem_of_getElem? (i := 55) rfl)) e0 P0 (own_no (hw _ (List.mem_of_getElem? (i := 90) rfl)) (hw _ (List.mem_of_getElem? (i := 91) rfl)) (hw _ (List.mem_of_getElem? (i := 5) rfl)) (by decide) (by decide)) (g := (mkF m 1 #[.val (.ref xa), .val (.ref ra), .unset] [(.ref ra)])) rfl rfl (hb hby d_prog_30_method_4_code_1)
  refine Go.by (T' := T101) (g' := (mkF m 4 #[.val (.ref xa), .val (.ref ra), .unset] [(.int (0 : Int32))])) (fun t_ k_ => st101 _ k_) ?_
  refine Go.by (T' := T101) (g' := (mkF m 15 #[.val (.ref xa), .val (.ref ra), .unset] [])) (fun t_ k_ => XS.ifYes X101.here hx rfl (pc0 := 4) (pc' := 15) rfl (hb hby d_prog_30_method_4_code_4) rfl ((if0 _ _).trans (teq rfl).1) (by decide) (by decide) k_) ?_
  refine Go.by (T' := T101) (g' := (mkF m 16 #[.val (.ref xa), .val (.ref ra), .unset] [(.int (0 : Int32))])) (fun t_ k_ => XS.iconst X101.here hx rfl (hb hby d_prog_30_method_4_code_15) k_) ?_
  refine Go.fin X101 (v := some (.int (nar .boolean (0 : Int32)))) (fun h => by rw [Bd.returns] at h; cases h) hlk (by decide) (by decide) ?_ (fun fs hr => retN X101 hx (t := .boolean) Bd.returns (by simp) (hb hby d_prog_30_method_4_code_16) hr)
  show Q_tstr Z xa ra h0 n0 _ T101.heap _
  rw [e101]
  exact ⟨rfl, N0, rfl⟩
def Q_law (Z : State) (x0 : Int32) (x1 : Int32) (x2 : Int32) (x3 : Int32) (x4 : Int32) (G1 : Int32) (h0 : Heap) (n0 : Nat) (v : Option Value) (h : Heap) (L : List Loc) : Prop := v = some (.int 1) ∧ Fr n0 L
theorem ef_law (m : MethodId) (x0 : Int32) (x1 : Int32) (x2 : Int32) (x3 : Int32) (x4 : Int32) : entryFrame m #[(.int x0), (.int x1), (.int x2), (.int x3), (.int x4)] maxLocals = mkF m 0 #[.val (.int x0), .val (.int x1), .val (.int x2), .val (.int x3), .val (.int x4), .unset, .unset, .unset, .unset, .unset, .unset, .unset, .unset, .unset, .unset, .unset, .unset, .unset, .unset, .unset, .unset] [] := by first | (simp [entryFrame, mkF, argsToLocals, Value.category, maxLocals]; done) | rfl
theorem pd_8 : parseMethodDescriptor "(I)I" = some ⟨[.int], some .int⟩ := by decide +kernel
theorem pd_9 : parseMethodDescriptor "(III)Ljava/lang/String;" = some ⟨[.int, .int, .int], some (.object "java/lang/String")⟩ := by decide +kernel
theorem pd_10 : parseMethodDescriptor "(Ljava/lang/String;Ljava/lang/String;)V" = some ⟨[(.object "java/lang/String"), (.object "java/lang/String")], none⟩ := by decide +kernel
theorem pd_11 : parseMethodDescriptor "(IIIIII)Z" = some ⟨[.int, .int, .int, .int, .int, .int], some .boolean⟩ := by decide +kernel
set_option maxRecDepth 65536 in
set_option maxHeartbeats 40000000 in
theorem rm_law (l : Launch) (Z : State) (a0 : Array Value) (hw : ∀ d ∈ tables_1, d.before a0 Z = true) (ws : List Jvm.Cond) (x0 : Int32) (x1 : Int32) (x2 : Int32) (x3 : Int32) (x4 : Int32) (G1 : Int32) (h0 : Heap) (n0 : Nat) (X00 : Old Z n0 h0) (P0 : Sta Z Z.heap "java/lang/String" "COMPACT_STRINGS" "Z" (.int G1)) (hCS : ¬ (G1 = (0 : Int32))) :
    MetFree l x (head1 (Jvm.Cond.code x code maxLocals ret :: ws) room_1) (fun aa_ U => aa_ = #[(.int x0), (.int x1), (.int x2), (.int x3), (.int x4)] ∧ Z.Warmed39 U.vm ∧ U.heap = h0 ∧ CHv Z consts_1 U.vm h0) (fun _ _ _ _ _ => True) (fun _ U o U' => ∃ v L, o = .returned v ∧ Q_law Z x0 x1 x2 x3 x4 G1 h0 n0 v U'.heap L ∧ CHr Z consts_1 U.vm U.heap U'.vm U'.heap ∧ ReturnedEndW U o U' L 48 3264) := by
  refine MetFree.of_bodySF (plainFor_of_name pn_2) hisR ?_
  intro p e s m args below meth c s₁ Bd hml0 hP hK
  obtain ⟨rfl, hZ, hh, hC0⟩ := hP
  have hx := Bd.exec
  have hby := Bd.bytes
  have hml : c.maxLocals = 21 := hml0
  have hown : s.vm.findClass "com/example/lorikeet/lorikeet/formats/TrecDocumentEqualsPinLaw" = some m.cls := findClass_of_methodNamed Bd.named
  have hnm := (name_of_methodNamed Bd.named Bd.method).1
  have hlk : meth.locks = false := BodyLoose.notSynchronized Bd
  have X0 : Stand p l e room_1 s m #[(.int x0), (.int x1), (.int x2), (.int x3), (.int x4)] below meth c s₁ [] 0 0 := Stand.of_body Bd
  have e0 : s₁.heap = h0 := by rw [← hh, Bd.state]; rfl
  have N0 := Fr.nil n0
  suffices G : GoH Z consts_1 p e below s (Q_law Z x0 x1 x2 x3 x4 G1 h0 n0) 48 3264 s₁ (mkF m 0 #[.val (.int x0), .val (.int x1), .val (.int x2), .val (.int x3), .val (.int x4), .unset, .unset, .unset, .unset, .unset, .unset, .unset, .unset, .unset, .unset, .unset, .unset, .unset, .unset, .unset, .unset] []) by
    obtain ⟨s2, o, h1, h2⟩ := G
    exact ⟨s2, o, castTop (ef_law m x0 x1 x2 x3 x4) h1, h2⟩
  have hS : s.Since s.vm 0 := (State.WarmedH.refl s).since 0
  have hC00 : CHr Z consts_1 s.vm h0 s.vm h0 := CHr.refl hC0
  refine GoH.by (T' := s₁) (g' := (mkF m 1 #[.val (.int x0), .val (.int x1), .val (.int x2), .val (.int x3), .val (.int x4), .unset, .unset, .unset, .unset, .unset, .unset, .unset, .unset, .unset, .unset, .unset, .unset, .unset, .unset, .unset, .unset] [(.int x0)])) (fun t_ k_ => XS.iloadN X0.here hx rfl (hb hby at_0) rfl k_) ?_
  obtain ⟨_, _, ⟨T101, L101, k101, n101⟩, -, X101, ⟨Lc101, hQ101, l101, y101, z101⟩, st101⟩ := Jvm.LawKit.callS X0 hx (y := (⟨"com/example/lorikeet/lorikeet/formats/TrecDocumentEqualsPinLaw", "len", "(I)I"⟩ : MethodName)) hown (mvT hZ (hw _ (List.mem_of_getElem? (i := 0) rfl))) (mvT hZ (hw _ (List.mem_of_getElem? (i := 1) rfl))) (mvT hZ (hw _ (List.mem_of_getElem? (i := 2) rfl))) (mvT hZ (hw _ (List.mem_of_getElem? (i := 3) rfl))) (by decide) (backOf (W := 0) (rm_len l Z a0 hw [] x0 h0 n0 X00 ) hZ (hw _ (List.mem_of_getElem? (i := 3) rfl)) (hw _ (List.mem_of_getElem? (i := 2) rfl)) (by decide) (by decide)) (g := (mkF m 1 #[.val (.int x0), .val (.int x1), .val (.int x2), .val (.int x3), .val (.int x4), .unset, .unset, .unset, .unset, .unset, .unset, .unset, .unset, .unset, .unset, .unset, .unset, .unset, .unset, .unset, .unset] [(.int x0)])) rfl (by rw [hml]; rfl) (argsL := [(.int x0)]) (rest := []) (lenOf pd_8 rfl) rfl (by show 2 * 0 + _ ≤ _; exact Nat.le_of_eq rfl) (hb hby at_1) (fun _ _ => ⟨rfl, e0, (by decide : 0 + 0 ≤ _), (by decide : 0 + 0 ≤ _)⟩)
  dsimp only [Pt.U, Pt.locs, Pt.cells, Pt.slots] at X101 l101 y101 z101 st101 hQ101
  subst l101 y101 z101
  obtain ⟨N_101, rfl, N101q, e101, G101_0⟩ := hQ101
  have N101 := Fr.app N0 N101q
  refine GoH.by (T' := T101) (g' := (mkF m 4 #[.val (.int x0), .val (.int x1), .val (.int x2), .val (.int x3), .val (.int x4), .unset, .unset, .unset, .unset, .unset, .unset, .unset, .unset, .unset, .unset, .unset, .unset, .unset, .unset, .unset, .unset] [(.int (Int32.ofNat N_101))])) (fun t_ k_ => st101 _ k_) ?_
  refine GoH.by (T' := T101) (g' := (mkF m 6 #[.val (.int x0), .val (.int x1), .val (.int x2), .val (.int x3), .val (.int x4), .val (.int (Int32.ofNat N_101)), .unset, .unset, .unset, .unset, .unset, .unset, .unset, .unset, .unset, .unset, .unset, .unset, .unset, .unset, .unset] [])) (fun t_ k_ => XS.istore X101.here hx rfl (hb hby at_4) rfl (l' := #[.val (.int x0), .val (.int x1), .val (.int x2), .val (.int x3), .val (.int x4), .val (.int (Int32.ofNat N_101)), .unset, .unset, .unset, .unset, .unset, .unset, .unset, .unset, .unset, .unset, .unset, .unset, .unset, .unset, .unset]) rfl k_) ?_
  refine GoH.by (T' := T101) (g' := (mkF m 7 #[.val (.int x0), .val (.int x1), .val (.int x2), .val (.int x3), .val (.int x4), .val (.int (Int32.ofNat N_101)), .unset, .unset, .unset, .unset, .unset, .unset, .unset, .unset, .unset, .unset, .unset, .unset, .unset, .unset, .unset] [(.int x0)])) (fun t_ k_ => XS.iloadN X101.here hx rfl (hb hby at_6) rfl k_) ?_
  refine GoH.by (T' := T101) (g' := (mkF m 10 #[.val (.int x0), .val (.int x1), .val (.int x2), .val (.int x3), .val (.int x4), .val (.int (Int32.ofNat N_101)), .unset, .unset, .unset, .unset, .unset, .unset, .unset, .unset, .unset, .unset, .unset, .unset, .unset, .unset, .unset] [(.int (255 : Int32)), (.int x0)])) (fun t_ k_ => XS.sipush X101.here hx rfl (hb hby at_7) k_) ?_
  refine GoH.by (T' := T101) (g' := (mkF m 11 #[.val (.int x0), .val (.int x1), .val (.int x2), .val (.int x3), .val (.int x4), .val (.int (Int32.ofNat N_101)), .unset, .unset, .unset, .unset, .unset, .unset, .unset, .unset, .unset, .unset, .unset, .unset, .unset, .unset, .unset] [(.int (x0 &&& (255 : Int32)))])) (fun t_ k_ => XS.iand X101.here hx rfl (hb hby at_10) rfl k_) ?_
  obtain ⟨dd102, hdd102⟩ : ∃ z : Int32, z = (x0 &&& (255 : Int32)) := ⟨_, rfl⟩
  rw [← hdd102]
  have hr_dd102 : own_r dd102 := by rw [hdd102]; exact own_r255 _
  refine GoH.by (T' := T101) (g' := (mkF m 13 #[.val (.int x0), .val (.int x1), .val (.int x2), .val (.int x3), .val (.int x4), .val (.int (Int32.ofNat N_101)), .val (.int dd102), .unset, .unset, .unset, .unset, .unset, .unset, .unset, .unset, .unset, .unset, .unset, .unset, .unset, .unset] [])) (fun t_ k_ => XS.istore X101.here hx rfl (hb hby at_11) rfl (l' := #[.val (.int x0), .val (.int x1), .val (.int x2), .val (.int x3), .val (.int x4), .val (.int (Int32.ofNat N_101)), .val (.int dd102), .unset, .unset, .unset, .unset, .unset, .unset, .unset, .unset, .unset, .unset, .unset, .unset, .unset, .unset]) rfl k_) ?_
  refine GoH.by (T' := T101) (g' := (mkF m 14 #[.val (.int x0), .val (.int x1), .val (.int x2), .val (.int x3), .val (.int x4), .val (.int (Int32.ofNat N_101)), .val (.int dd102), .unset, .unset, .unset, .unset, .unset, .unset, .unset, .unset, .unset, .unset, .unset, .unset, .unset, .unset] [(.int x0)])) (fun t_ k_ => XS.iloadN X101.here hx rfl (hb hby at_13) rfl k_) ?_
  refine GoH.by (T' := T101) (g' := (mkF m 16 #[.val (.int x0), .val (.int x1), .val (.int x2), .val (.int x3), .val (.int x4), .val (.int (Int32.ofNat N_101)), .val (.int dd102), .unset, .unset, .unset, .unset, .unset, .unset, .unset, .unset, .unset, .unset, .unset, .unset, .unset, .unset] [(.int (8 : Int32)), (.int x0)])) (fun t_ k_ => XS.bipush X101.here hx rfl (hb hby at_14) k_) ?_
  refine GoH.by (T' := T101) (g' := (mkF m 17 #[.val (.int x0), .val (.int x1), .val (.int x2), .val (.int x3), .val (.int x4), .val (.int (Int32.ofNat N_101)), .val (.int dd102), .unset, .unset, .unset, .unset, .unset, .unset, .unset, .unset, .unset, .unset, .unset, .unset, .unset, .unset] [(.int ((x0.toUInt32 >>> ((8 : Int32) &&& 31).toUInt32).toInt32))])) (fun t_ k_ => XS.iushr X101.here hx rfl (hb hby at_16) rfl k_) ?_
  refine GoH.by (T' := T101) (g' := (mkF m 20 #[.val (.int x0), .val (.int x1), .val (.int x2), .val (.int x3), .val (.int x4), .val (.int (Int32.ofNat N_101)), .val (.int dd102), .unset, .unset, .unset, .unset, .unset, .unset, .unset, .unset, .unset, .unset, .unset, .unset, .unset, .unset] [(.int (255 : Int32)), (.int ((x0.toUInt32 >>> ((8 : Int32) &&& 31).toUInt32).toInt32))])) (fun t_ k_ => XS.sipush X101.here hx rfl (hb hby at_17) k_) ?_
  refine GoH.by (T' := T101) (g' := (mkF m 21 #[.val (.int x0), .val (.int x1), .val (.int x2), .val (.int x3), .val (.int x4), .val (.int (Int32.ofNat N_101)), .val (.int dd102), .unset, .unset, .unset, .unset, .unset, .unset, .unset, .unset, .unset, .unset, .unset, .unset, .unset, .unset] [(.int (((x0.toUInt32 >>> ((8 : Int32) &&& 31).toUInt32).toInt32) &&& (255 : Int32)))])) (fun t_ k_ => XS.iand X101.here hx rfl (hb hby at_20) rfl k_) ?_
  obtain ⟨dd103, hdd103⟩ : ∃ z : Int32, z = (((x0.toUInt32 >>> ((8 : Int32) &&& 31).toUInt32).toInt32) &&& (255 : Int32)) := ⟨_, rfl⟩
  rw [← hdd103]
  have hr_dd103 : own_r dd103 := by rw [hdd103]; exact own_r255 _
  refine GoH.by (T' := T101) (g' := (mkF m 23 #[.val (.int x0), .val (.int x1), .val (.int x2), .val (.int x3), .val (.int x4), .val (.int (Int32.ofNat N_101)), .val (.int dd102), .val (.int dd103), .unset, .unset, .unset, .unset, .unset, .unset, .unset, .unset, .unset, .unset, .unset, .unset, .unset] [])) (fun t_ k_ => XS.istore X101.here hx rfl (hb hby at_21) rfl (l' := #[.val (.int x0), .val (.int x1), .val (.int x2), .val (.int x3), .val (.int x4), .val (.int (Int32.ofNat N_101)), .val (.int dd102), .val (.int dd103), .unset, .unset, .unset, .unset, .unset, .unset, .unset, .unset, .unset, .unset, .unset, .unset, .unset]) rfl k_) ?_
  refine GoH.by (T' := T101) (g' := (mkF m 24 #[.val (.int x0), .val (.int x1), .val (.int x2), .val (.int x3), .val (.int x4), .val (.int (Int32.ofNat N_101)), .val (.int dd102), .val (.int dd103), .unset, .unset, .unset, .unset, .unset, .unset, .unset, .unset, .unset, .unset, .unset, .unset, .unset] [(.int x1)])) (fun t_ k_ => XS.iloadN X101.here hx rfl (hb hby at_23) rfl k_) ?_
  obtain ⟨_, _, ⟨T104, L104, k104, n104⟩, -, X104, ⟨Lc104, hQ104, l104, y104, z104⟩, st104⟩ := Jvm.LawKit.callS X101 hx (y := (⟨"com/example/lorikeet/lorikeet/formats/TrecDocumentEqualsPinLaw", "len", "(I)I"⟩ : MethodName)) hown (mvT hZ (hw _ (List.mem_of_getElem? (i := 0) rfl))) (mvT hZ (hw _ (List.mem_of_getElem? (i := 1) rfl))) (mvT hZ (hw _ (List.mem_of_getElem? (i := 2) rfl))) (mvT hZ (hw _ (List.mem_of_getElem? (i := 3) rfl))) (by decide) (backOf (W := 0) (rm_len l Z a0 hw [] x1 h0 n0 X00 ) hZ (hw _ (List.mem_of_getElem? (i := 3) rfl)) (hw _ (List.mem_of_getElem? (i := 2) rfl)) (by decide) (by decide)) (g := (mkF m 24 #[.val (.int x0), .val (.int x1), .val (.int x2), .val (.int x3), .val (.int x4), .val (.int (Int32.ofNat N_101)), .val (.int dd102), .val (.int dd103), .unset, .unset, .unset, .unset, .unset, .unset, .unset, .unset, .unset, .unset, .unset, .unset, .unset] [(.int x1)])) rfl (by rw [hml]; rfl) (argsL := [(.int x1)]) (rest := []) (lenOf pd_8 rfl) rfl (by show 2 * 0 + _ ≤ _; exact Nat.le_of_eq rfl) (hb hby at_24) (fun _ _ => ⟨rfl, e101, (by decide : 0 + 0 ≤ _), (by decide : 0 + 0 ≤ _)⟩)
  dsimp only [Pt.U, Pt.locs, Pt.cells, Pt.slots] at X104 l104 y104 z104 st104 hQ104
  subst l104 y104 z104
  obtain ⟨N_104, rfl, N104q, e104, G104_0⟩ := hQ104
  have N104 := Fr.app N101 N104q
  refine GoH.by (T' := T104) (g' := (mkF m 27 #[.val (.int x0), .val (.int x1), .val (.int x2), .val (.int x3), .val (.int x4), .val (.int (Int32.ofNat N_101)), .val (.int dd102), .val (.int dd103), .unset, .unset, .unset, .unset, .unset, .unset, .unset, .unset, .unset, .unset, .unset, .unset, .unset] [(.int (Int32.ofNat N_104))])) (fun t_ k_ => st104 _ k_) ?_
  refine GoH.by (T' := T104) (g' := (mkF m 29 #[.val (.int x0), .val (.int x1), .val (.int x2), .val (.int x3), .val (.int x4), .val (.int (Int32.ofNat N_101)), .val (.int dd102), .val (.int dd103), .val (.int (Int32.ofNat N_104)), .unset, .unset, .unset, .unset, .unset, .unset, .unset, .unset, .unset, .unset, .unset, .unset] [])) (fun t_ k_ => XS.istore X104.here hx rfl (hb hby at_27) rfl (l' := #[.val (.int x0), .val (.int x1), .val (.int x2), .val (.int x3), .val (.int x4), .val (.int (Int32.ofNat N_101)), .val (.int dd102), .val (.int dd103), .val (.int (Int32.ofNat N_104)), .unset, .unset, .unset, .unset, .unset, .unset, .unset, .unset, .unset, .unset, .unset, .unset]) rfl k_) ?_
  refine GoH.by (T' := T104) (g' := (mkF m 30 #[.val (.int x0), .val (.int x1), .val (.int x2), .val (.int x3), .val (.int x4), .val (.int (Int32.ofNat N_101)), .val (.int dd102), .val (.int dd103), .val (.int (Int32.ofNat N_104)), .unset, .unset, .unset, .unset, .unset, .unset, .unset, .unset, .unset, .unset, .unset, .unset] [(.int x1)])) (fun t_ k_ => XS.iloadN X104.here hx rfl (hb hby at_29) rfl k_) ?_
  refine GoH.by (T' := T104) (g' := (mkF m 33 #[.val (.int x0), .val (.int x1), .val (.int x2), .val (.int x3), .val (.int x4), .val (.int (Int32.ofNat N_101)), .val (.int dd102), .val (.int dd103), .val (.int (Int32.ofNat N_104)), .unset, .unset, .unset, .unset, .unset, .unset, .unset, .unset, .unset, .unset, .unset, .unset] [(.int (255 : Int32)), (.int x1)])) (fun t_ k_ => XS.sipush X104.here hx rfl (hb hby at_30) k_) ?_
  refine GoH.by (T' := T104) (g' := (mkF m 34 #[.val (.int x0), .val (.int x1), .val (.int x2), .val (.int x3), .val (.int x4), .val (.int (Int32.ofNat N_101)), .val (.int dd102), .val (.int dd103), .val (.int (Int32.ofNat N_104)), .unset, .unset, .unset, .unset, .unset, .unset, .unset, .unset, .unset, .unset, .unset, .unset] [(.int (x1 &&& (255 : Int32)))])) (fun t_ k_ => XS.iand X104.here hx rfl (hb hby at_33) rfl k_) ?_
  obtain ⟨dd105, hdd105⟩ : ∃ z : Int32, z = (x1 &&& (255 : Int32)) := ⟨_, rfl⟩
  rw [← hdd105]
  have hr_dd105 : own_r dd105 := by rw [hdd105]; exact own_r255 _
  refine GoH.by (T' := T104) (g' := (mkF m 36 #[.val (.int x0), .val (.int x1), .val (.int x2), .val (.int x3), .val (.int x4), .val (.int (Int32.ofNat N_101)), .val (.int dd102), .val (.int dd103), .val (.int (Int32.ofNat N_104)), .val (.int dd105), .unset, .unset, .unset, .unset, .unset, .unset, .unset, .unset, .unset, .unset, .unset] [])) (fun t_ k_ => XS.istore X104.here hx rfl (hb hby at_34) rfl (l' := #[.val (.int x0), .val (.int x1), .val (.int x2), .val (.int x3), .val (.int x4), .val (.int (Int32.ofNat N_101)), .val (.int dd102), .val (.int dd103), .val (.int (Int32.ofNat N_104)), .val (.int dd105), .unset, .unset, .unset, .unset, .unset, .unset, .unset, .unset, .unset, .unset, .unset]) rfl k_) ?_
  refine GoH.by (T' := T104) (g' := (mkF m 37 #[.val (.int x0), .val (.int x1), .val (.int x2), .val (.int x3), .val (.int x4), .val (.int (Int32.ofNat N_101)), .val (.int dd102), .val (.int dd103), .val (.int (Int32.ofNat N_104)), .val (.int dd105), .unset, .unset, .unset, .unset, .unset, .unset, .unset, .unset, .unset, .unset, .unset] [(.int x1)])) (fun t_ k_ => XS.iloadN X104.here hx rfl (hb hby at_36) rfl k_) ?_
  refine GoH.by (T' := T104) (g' := (mkF m 39 #[.val (.int x0), .val (.int x1), .val (.int x2), .val (.int x3), .val (.int x4), .val (.int (Int32.ofNat N_101)), .val (.int dd102), .val (.int dd103), .val (.int (Int32.ofNat N_104)), .val (.int dd105), .unset, .unset, .unset, .unset, .unset, .unset, .unset, .unset, .unset, .unset, .unset] [(.int (8 : Int32)), (.int x1)])) (fun t_ k_ => XS.bipush X104.here hx rfl (hb hby at_37) k_) ?_
  refine GoH.by (T' := T104) (g' := (mkF m 40 #[.val (.int x0), .val (.int x1), .val (.int x2), .val (.int x3), .val (.int x4), .val (.int (Int32.ofNat N_101)), .val (.int dd102), .val (.int dd103), .val (.int (Int32.ofNat N_104)), .val (.int dd105), .unset, .unset, .unset, .unset, .unset, .unset, .unset, .unset, .unset, .unset, .unset] [(.int ((x1.toUInt32 >>> ((8 : Int32) &&& 31).toUInt32).toInt32))])) (fun t_ k_ => XS.iushr X104.here hx rfl (hb hby at_39) rfl k_) ?_
  refine GoH.by (T' := T104) (g' := (mkF m 43 #[.val (.int x0), .val (.int x1), .val (.int x2), .val (.int x3), .val (.int x4), .val (.int (Int32.ofNat N_101)), .val (.int dd102), .val (.int dd103), .val (.int (Int32.ofNat N_104)), .val (.int dd105), .unset, .unset, .unset, .unset, .unset, .unset, .unset, .unset, .unset, .unset, .unset] [(.int (255 : Int32)), (.int ((x1.toUInt32 >>> ((8 : Int32) &&& 31).toUInt32).toInt32))])) (fun t_ k_ => XS.sipush X104.here hx rfl (hb hby at_40) k_) ?_
  refine GoH.by (T' := T104) (g' := (mkF m 44 #[.val (.int x0), .val (.int x1), .val (.int x2), .val (.int x3), .val (.int x4), .val (.int (Int32.ofNat N_101)), .val (.int dd102), .val (.int dd103), .val (.int (Int32.ofNat N_104)), .val (.int dd105), .unset, .unset, .unset, .unset, .unset, .unset, .unset, .unset, .unset, .unset, .unset] [(.int (((x1.toUInt32 >>> ((8 : Int32) &&& 31).toUInt32).toInt32) &&& (255 : Int32)))])) (fun t_ k_ => XS.iand X104.here hx rfl (hb hby at_43) rfl k_) ?_
  obtain ⟨dd106, hdd106⟩ : ∃ z : Int32, z = (((x1.toUInt32 >>> ((8 : Int32) &&& 31).toUInt32).toInt32) &&& (255 : Int32)) := ⟨_, rfl⟩
  rw [← hdd106]
  have hr_dd106 : own_r dd106 := by rw [hdd106]; exact own_r255 _
  refine GoH.by (T' := T104) (g' := (mkF m 46 #[.val (.int x0), .val (.int x1), .val (.int x2), .val (.int x3), .val (.int x4), .val (.int (Int32.ofNat N_101)), .val (.int dd102), .val (.int dd103), .val (.int (Int32.ofNat N_104)), .val (.int dd105), .val (.int dd106), .unset, .unset, .unset, .unset, .unset, .unset, .unset, .unset, .unset, .unset] [])) (fun t_ k_ => XS.istore X104.here hx rfl (hb hby at_44) rfl (l' := #[.val (.int x0), .val (.int x1), .val (.int x2), .val (.int x3), .val (.int x4), .val (.int (Int32.ofNat N_101)), .val (.int dd102), .val (.int dd103), .val (.int (Int32.ofNat N_104)), .val (.int dd105), .val (.int dd106), .unset, .unset, .unset, .unset, .unset, .unset, .unset, .unset, .unset, .unset]) rfl k_) ?_
  refine GoH.by (T' := T104) (g' := (mkF m 47 #[.val (.int x0), .val (.int x1), .val (.int x2), .val (.int x3), .val (.int x4), .val (.int (Int32.ofNat N_101)), .val (.int dd102), .val (.int dd103), .val (.int (Int32.ofNat N_104)), .val (.int dd105), .val (.int dd106), .unset, .unset, .unset, .unset, .unset, .unset, .unset, .unset, .unset, .unset] [(.int x2)])) (fun t_ k_ => XS.iloadN X104.here hx rfl (hb hby at_46) rfl k_) ?_
  refine GoH.by (T' := T104) (g' := (mkF m 48 #[.val (.int x0), .val (.int x1), .val (.int x2), .val (.int x3), .val (.int x4), .val (.int (Int32.ofNat N_101)), .val (.int dd102), .val (.int dd103), .val (.int (Int32.ofNat N_104)), .val (.int dd105), .val (.int dd106), .unset, .unset, .unset, .unset, .unset, .unset, .unset, .unset, .unset, .unset] [(.int (1 : Int32)), (.int x2)])) (fun t_ k_ => XS.iconst X104.here hx rfl (hb hby at_47) k_) ?_
  refine GoH.by (T' := T104) (g' := (mkF m 49 #[.val (.int x0), .val (.int x1), .val (.int x2), .val (.int x3), .val (.int x4), .val (.int (Int32.ofNat N_101)), .val (.int dd102), .val (.int dd103), .val (.int (Int32.ofNat N_104)), .val (.int dd105), .val (.int dd106), .unset, .unset, .unset, .unset, .unset, .unset, .unset, .unset, .unset, .unset] [(.int (x2 &&& (1 : Int32)))])) (fun t_ k_ => XS.iand X104.here hx rfl (hb hby at_48) rfl k_) ?_
  have J172 : ∀ {T : State} {h : Heap} {L : List Loc} (EA : Nat) (e0_ : Int32) (e1_ : Int32) (UA : Nat) (u0_ : Int32) (u1_ : Int32), Stand p l e room_1 s m #[(.int x0), (.int x1), (.int x2), (.int x3), (.int x4)] below meth c T L 0 0 → T.heap = h → Fr n0 L → Old Z n0 h → Keep h0 h [] → CHr Z consts_1 s.vm h0 s.vm h → EA ≤ 2 → own_r e0_ → own_r e1_ → UA ≤ 2 → own_r u0_ → own_r u1_ → GoH Z consts_1 p e below s (Q_law Z x0 x1 x2 x3 x4 G1 h0 n0) 48 3264 T (mkF m 172 #[.val (.int x0), .val (.int x1), .val (.int x2), .val (.int x3), .val (.int x4), .val (.int (Int32.ofNat N_101)), .val (.int dd102), .val (.int dd103), .val (.int (Int32.ofNat N_104)), .val (.int dd105), .val (.int dd106), .val (.int (Int32.ofNat EA)), .val (.int e0_), .val (.int e1_), .val (.int (Int32.ofNat UA)), .val (.int u0_), .unset, .unset, .unset, .unset, .unset] [(.int u1_)]) := by
    intro T h L EA e0_ e1_ UA u0_ u1_ XJ eJ NJ OJ KJ CJ  hEA he0 he1 hUA hu0 hu1
    refine GoH.by (T' := T) (g' := (mkF m 174 #[.val (.int x0), .val (.int x1), .val (.int x2), .val (.int x3), .val (.int x4), .val (.int (Int32.ofNat N_101)), .val (.int dd102), .val (.int dd103), .val (.int (Int32.ofNat N_104)), .val (.int dd105), .val (.int dd106), .val (.int (Int32.ofNat EA)), .val (.int e0_), .val (.int e1_), .val (.int (Int32.ofNat UA)), .val (.int u0_), .val (.int u1_), .unset, .unset, .unset, .unset] [])) (fun t_ k_ => XS.istore XJ.here hx rfl (hb hby at_172) rfl (l' := #[.val (.int x0), .val (.int x1), .val (.int x2), .val (.int x3), .val (.int x4), .val (.int (Int32.ofNat N_101)), .val (.int dd102), .val (.int dd103), .val (.int (Int32.ofNat N_104)), .val (.int dd105), .val (.int dd106), .val (.int (Int32.ofNat EA)), .val (.int e0_), .val (.int e1_), .val (.int (Int32.ofNat UA)), .val (.int u0_), .val (.int u1_), .unset, .unset, .unset, .unset]) rfl k_) ?_
    obtain ⟨T107, h107, X107, e107, E107, A107, Df107, -, st107⟩ := newO XJ hx hZ hown (hw _ (List.mem_of_getElem? (i := 4) rfl)) (hw _ (List.mem_of_getElem? (i := 5) rfl)) (hw _ (List.mem_of_getElem? (i := 6) rfl)) eJ (g := (mkF m 174 #[.val (.int x0), .val (.int x1), .val (.int x2), .val (.int x3), .val (.int x4), .val (.int (Int32.ofNat N_101)), .val (.int dd102), .val (.int dd103), .val (.int (Int32.ofNat N_104)), .val (.int dd105), .val (.int dd106), .val (.int (Int32.ofNat EA)), .val (.int e0_), .val (.int e1_), .val (.int (Int32.ofNat UA)), .val (.int u0_), .val (.int u1_), .unset, .unset, .unset, .unset] [])) rfl (hb hby at_174) (by decide) (by decide)
    obtain ⟨b107, g107⟩ : ∃ z, z = h.size := ⟨_, rfl⟩
    rw [← g107] at A107 Df107 st107
    have ge_b107 : n0 ≤ b107 := Nat.le_trans OJ.sz (Nat.le_of_eq g107.symm)
    have sz_b107 : h0.size ≤ b107 := Nat.le_trans KJ.1 (Nat.le_of_eq g107.symm)
    have F108 : Fld Z h107 b107 "com/example/lorikeet/lorikeet/formats/TrecDocument" "docno" "Ljava/lang/String;" .null := Df107 (Or.inr (hw _ (List.mem_of_getElem? (i := 43) rfl))) (ty := (.object "java/lang/String")) (by decide)
    have F109 : Fld Z h107 b107 "com/example/lorikeet/lorikeet/formats/TrecDocument" "text" "Ljava/lang/String;" .null := Df107 (Or.inr (hw _ (List.mem_of_getElem? (i := 46) rfl))) (ty := (.object "java/lang/String")) (by decide)
    refine GoH.by (T' := T107) (g' := (mkF m 177 #[.val (.int x0), .val (.int x1), .val (.int x2), .val (.int x3), .val (.int x4), .val (.int (Int32.ofNat N_101)), .val (.int dd102), .val (.int dd103), .val (.int (Int32.ofNat N_104)), .val (.int dd105), .val (.int dd106), .val (.int (Int32.ofNat EA)), .val (.int e0_), .val (.int e1_), .val (.int (Int32.ofNat UA)), .val (.int u0_), .val (.int u1_), .unset, .unset, .unset, .unset] [(.ref b107)])) (fun t_ k_ => st107 _ k_) ?_
    refine GoH.by (T' := T107) (g' := (mkF m 178 #[.val (.int x0), .val (.int x1), .val (.int x2), .val (.int x3), .val (.int x4), .val (.int (Int32.ofNat N_101)), .val (.int dd102), .val (.int dd103), .val (.int (Int32.ofNat N_104)), .val (.int dd105), .val (.int dd106), .val (.int (Int32.ofNat EA)), .val (.int e0_), .val (.int e1_), .val (.int (Int32.ofNat UA)), .val (.int u0_), .val (.int u1_), .unset, .unset, .unset, .unset] [(.ref b107), (.ref b107)])) (fun t_ k_ => XS.dup X107.here hx rfl (hb hby at_177) rfl rfl k_) ?_
    refine GoH.by (T' := T107) (g' := (mkF m 180 #[.val (.int x0), .val (.int x1), .val (.int x2), .val (.int x3), .val (.int x4), .val (.int (Int32.ofNat N_101)), .val (.int dd102), .val (.int dd103), .val (.int (Int32.ofNat N_104)), .val (.int dd105), .val (.int dd106), .val (.int (Int32.ofNat EA)), .val (.int e0_), .val (.int e1_), .val (.int (Int32.ofNat UA)), .val (.int u0_), .val (.int u1_), .unset, .unset, .unset, .unset] [(.int (Int32.ofNat N_101)), (.ref b107), (.ref b107)])) (fun t_ k_ => XS.iload X107.here hx rfl (hb hby at_178) rfl k_) ?_
    refine GoH.by (T' := T107) (g' := (mkF m 182 #[.val (.int x0), .val (.int x1), .val (.int x2), .val (.int x3), .val (.int x4), .val (.int (Int32.ofNat N_101)), .val (.int dd102), .val (.int dd103), .val (.int (Int32.ofNat N_104)), .val (.int dd105), .val (.int dd106), .val (.int (Int32.ofNat EA)), .val (.int e0_), .val (.int e1_), .val (.int (Int32.ofNat UA)), .val (.int u0_), .val (.int u1_), .unset, .unset, .unset, .unset] [(.int dd102), (.int (Int32.ofNat N_101)), (.ref b107), (.ref b107)])) (fun t_ k_ => XS.iload X107.here hx rfl (hb hby at_180) rfl k_) ?_
    refine GoH.by (T' := T107) (g' := (mkF m 184 #[.val (.int x0), .val (.int x1), .val (.int x2), .val (.int x3), .val (.int x4), .val (.int (Int32.ofNat N_101)), .val (.int dd102), .val (.int dd103), .val (.int (Int32.ofNat N_104)), .val (.int dd105), .val (.int dd106), .val (.int (Int32.ofNat EA)), .val (.int e0_), .val (.int e1_), .val (.int (Int32.ofNat UA)), .val (.int u0_), .val (.int u1_), .unset, .unset, .unset, .unset] [(.int dd103), (.int dd102), (.int (Int32.ofNat N_101)), (.ref b107), (.ref b107)])) (fun t_ k_ => XS.iload X107.here hx rfl (hb hby at_182) rfl k_) ?_
    have Od110 : Old Z n0 h107 := (OJ.ext E107)
    have hC111 := CHr.trans CJ (CHr.ext E107 CJ.1)
    obtain ⟨_, _, ⟨T112, L112, k112, n112⟩, -, X112, hS112, gr112, ⟨Lc112, hQ112, l112, y112, z112, hCc112⟩, st112⟩ := callSS X107 hx (y := (⟨"com/example/lorikeet/lorikeet/formats/TrecDocumentEqualsPinLaw", "mk", "(III)Ljava/lang/String;"⟩ : MethodName)) hown (mvT hZ (hw _ (List.mem_of_getElem? (i := 7) rfl))) (mvT hZ (hw _ (List.mem_of_getElem? (i := 8) rfl))) (mvT hZ (hw _ (List.mem_of_getElem? (i := 2) rfl))) (mvT hZ (hw _ (List.mem_of_getElem? (i := 9) rfl))) (by decide) (backOfSH (s := s) (vm0 := s.vm) (W := 2) (rm_mk l Z a0 hw [] N_101 dd102 dd103 G1 h107 n0 Od110 P0 hCS G101_0 hr_dd102 hr_dd103) hZ (hw _ (List.mem_of_getElem? (i := 9) rfl)) (hw _ (List.mem_of_getElem? (i := 2) rfl)) (by decide) (by decide) (own_EW hw) hC111.1) (g := (mkF m 184 #[.val (.int x0), .val (.int x1), .val (.int x2), .val (.int x3), .val (.int x4), .val (.int (Int32.ofNat N_101)), .val (.int dd102), .val (.int dd103), .val (.int (Int32.ofNat N_104)), .val (.int dd105), .val (.int dd106), .val (.int (Int32.ofNat EA)), .val (.int e0_), .val (.int e1_), .val (.int (Int32.ofNat UA)), .val (.int u0_), .val (.int u1_), .unset, .unset, .unset, .unset] [(.int dd103), (.int dd102), (.int (Int32.ofNat N_101)), (.ref b107), (.ref b107)])) rfl (by rw [hml]; rfl) (argsL := [(.int (Int32.ofNat N_101)), (.int dd102), (.int dd103)]) (rest := [(.ref b107), (.ref b107)]) (lenOf pd_9 rfl) rfl (by show 2 * 0 + _ ≤ _; exact Nat.le_of_eq rfl) (hb hby at_184) (fun _ _ => ⟨rfl, e107, (by decide : 1 + 6 ≤ _), (by decide : 2 + 12 ≤ _)⟩)
    dsimp only [Pt.U, Pt.locs, Pt.cells, Pt.slots] at X112 hS112 gr112 hCc112 l112 y112 z112 st112 hQ112
    subst l112 y112 z112
    obtain ⟨X112, hS, hZ, hown⟩ := rebS hS (Nat.zero_le _) X112 hS112 gr112 hZ hown
    obtain ⟨b_112, t_112, kb_112, rfl, N112q, K112, G112_0, G112_1, G112_2, G112_3, G112_4⟩ := hQ112
    have N112 := Fr.app NJ N112q
    have ge_b_112 : n0 ≤ b_112 := Nat.le_trans Od110.sz G112_0
    have Kp113 : Keep h0 h107 [] := (KJ.ext E107)
    have sz_b_112 : h0.size ≤ b_112 := Nat.le_trans Kp113.1 G112_0
    have ne_b107_b_112 : ¬ (b107 = b_112) := Nat.ne_of_lt (Nat.lt_of_lt_of_le A107.lt G112_0)
    have hC112 := CHr.trans hC111 hCc112
    refine GoH.by (T' := T112) (g' := (mkF m 187 #[.val (.int x0), .val (.int x1), .val (.int x2), .val (.int x3), .val (.int x4), .val (.int (Int32.ofNat N_101)), .val (.int dd102), .val (.int dd103), .val (.int (Int32.ofNat N_104)), .val (.int dd105), .val (.int dd106), .val (.int (Int32.ofNat EA)), .val (.int e0_), .val (.int e1_), .val (.int (Int32.ofNat UA)), .val (.int u0_), .val (.int u1_), .unset, .unset, .unset, .unset] [(.ref b_112), (.ref b107), (.ref b107)])) (fun t_ k_ => st112.trans k_) ?_
    have F115 : Exa Z T112.heap b107 "com/example/lorikeet/lorikeet/formats/TrecDocument" := (A107.keep K112)
    have nt114 : ¬ (t_112 = b107) := Ne.symm (Exa.neArv F115 G112_4 (hw _ (List.mem_of_getElem? (i := 5) rfl)))
    refine GoH.by (T' := T112) (g' := (mkF m 189 #[.val (.int x0), .val (.int x1), .val (.int x2), .val (.int x3), .val (.int x4), .val (.int (Int32.ofNat N_101)), .val (.int dd102), .val (.int dd103), .val (.int (Int32.ofNat N_104)), .val (.int dd105), .val (.int dd106), .val (.int (Int32.ofNat EA)), .val (.int e0_), .val (.int e1_), .val (.int (Int32.ofNat UA)), .val (.int u0_), .val (.int u1_), .unset, .unset, .unset, .unset] [(.int (Int32.ofNat N_104)), (.ref b_112), (.ref b107), (.ref b107)])) (fun t_ k_ => XS.iload X112.here hx rfl (hb hby at_187) rfl k_) ?_
    refine GoH.by (T' := T112) (g' := (mkF m 191 #[.val (.int x0), .val (.int x1), .val (.int x2), .val (.int x3), .val (.int x4), .val (.int (Int32.ofNat N_101)), .val (.int dd102), .val (.int dd103), .val (.int (Int32.ofNat N_104)), .val (.int dd105), .val (.int dd106), .val (.int (Int32.ofNat EA)), .val (.int e0_), .val (.int e1_), .val (.int (Int32.ofNat UA)), .val (.int u0_), .val (.int u1_), .unset, .unset, .unset, .unset] [(.int dd105), (.int (Int32.ofNat N_104)), (.ref b_112), (.ref b107), (.ref b107)])) (fun t_ k_ => XS.iload X112.here hx rfl (hb hby at_189) rfl k_) ?_
    refine GoH.by (T' := T112) (g' := (mkF m 193 #[.val (.int x0), .val (.int x1), .val (.int x2), .val (.int x3), .val (.int x4), .val (.int (Int32.ofNat N_101)), .val (.int dd102), .val (.int dd103), .val (.int (Int32.ofNat N_104)), .val (.int dd105), .val (.int dd106), .val (.int (Int32.ofNat EA)), .val (.int e0_), .val (.int e1_), .val (.int (Int32.ofNat UA)), .val (.int u0_), .val (.int u1_), .unset, .unset, .unset, .unset] [(.int dd106), (.int dd105), (.int (Int32.ofNat N_104)), (.ref b_112), (.ref b107), (.ref b107)])) (fun t_ k_ => XS.iload X112.here hx rfl (hb hby at_191) rfl k_) ?_
    have Od116 : Old Z n0 T112.heap := (Od110.keep K112 all0)
    obtain ⟨_, _, ⟨T117, L117, k117, n117⟩, -, X117, hS117, gr117, ⟨Lc117, hQ117, l117, y117, z117, hCc117⟩, st117⟩ := callSS X112 hx (y := (⟨"com/example/lorikeet/lorikeet/formats/TrecDocumentEqualsPinLaw", "mk", "(III)Ljava/lang/String;"⟩ : MethodName)) hown (mvT hZ (hw _ (List.mem_of_getElem? (i := 7) rfl))) (mvT hZ (hw _ (List.mem_of_getElem? (i := 8) rfl))) (mvT hZ (hw _ (List.mem_of_getElem? (i := 2) rfl))) (mvT hZ (hw _ (List.mem_of_getElem? (i := 9) rfl))) (by decide) (backOfSH (s := s) (vm0 := T112.vm) (W := 3) (rm_mk l Z a0 hw [] N_104 dd105 dd106 G1 T112.heap n0 Od116 P0 hCS G104_0 hr_dd105 hr_dd106) hZ (hw _ (List.mem_of_getElem? (i := 9) rfl)) (hw _ (List.mem_of_getElem? (i := 2) rfl)) (by decide) (by decide) (own_EW hw) hC112.1) (g := (mkF m 193 #[.val (.int x0), .val (.int x1), .val (.int x2), .val (.int x3), .val (.int x4), .val (.int (Int32.ofNat N_101)), .val (.int dd102), .val (.int dd103), .val (.int (Int32.ofNat N_104)), .val (.int dd105), .val (.int dd106), .val (.int (Int32.ofNat EA)), .val (.int e0_), .val (.int e1_), .val (.int (Int32.ofNat UA)), .val (.int u0_), .val (.int u1_), .unset, .unset, .unset, .unset] [(.int dd106), (.int dd105), (.int (Int32.ofNat N_104)), (.ref b_112), (.ref b107), (.ref b107)])) rfl (by rw [hml]; rfl) (argsL := [(.int (Int32.ofNat N_104)), (.int dd105), (.int dd106)]) (rest := [(.ref b_112), (.ref b107), (.ref b107)]) (lenOf pd_9 rfl) rfl (by show 2 * 0 + _ ≤ _; exact Nat.le_of_eq rfl) (hb hby at_193) (fun _ _ => ⟨rfl, rfl, (by decide : 7 + 6 ≤ _), (by decide : 14 + 12 ≤ _)⟩)
    dsimp only [Pt.U, Pt.locs, Pt.cells, Pt.slots] at X117 hS117 gr117 hCc117 l117 y117 z117 st117 hQ117
    subst l117 y117 z117
    obtain ⟨X117, hS, hZ, hown⟩ := rebS hS (Nat.le_refl _) X117 hS117 gr117 hZ hown
    obtain ⟨b_117, t_117, kb_117, rfl, N117q, K117, G117_0, G117_1, G117_2, G117_3, G117_4⟩ := hQ117
    have N117 := Fr.app N112 N117q
    have ge_b_117 : n0 ≤ b_117 := Nat.le_trans Od116.sz G117_0
    have Kp118 : Keep h0 T112.heap [] := (Kp113.trans K112 all0)
    have sz_b_117 : h0.size ≤ b_117 := Nat.le_trans Kp118.1 G117_0
    have ne_b107_b_117 : ¬ (b107 = b_117) := Nat.ne_of_lt (Nat.lt_of_lt_of_le F115.lt G117_0)
    have ne_b_112_b_117 : ¬ (b_112 = b_117) := Nat.ne_of_lt (Nat.lt_of_lt_of_le G112_1.lt G117_0)
    have ne_t_112_b_117 : ¬ (t_112 = b_117) := Nat.ne_of_lt (Nat.lt_of_lt_of_le G112_4.lt G117_0)
    have hC117 := CHr.trans hC112 hCc117
    refine GoH.by (T' := T117) (g' := (mkF m 196 #[.val (.int x0), .val (.int x1), .val (.int x2), .val (.int x3), .val (.int x4), .val (.int (Int32.ofNat N_101)), .val (.int dd102), .val (.int dd103), .val (.int (Int32.ofNat N_104)), .val (.int dd105), .val (.int dd106), .val (.int (Int32.ofNat EA)), .val (.int e0_), .val (.int e1_), .val (.int (Int32.ofNat UA)), .val (.int u0_), .val (.int u1_), .unset, .unset, .unset, .unset] [(.ref b_117), (.ref b_112), (.ref b107), (.ref b107)])) (fun t_ k_ => st117.trans k_) ?_
    have F120 : Exa Z T117.heap b107 "com/example/lorikeet/lorikeet/formats/TrecDocument" := (F115.keep K117)
    have nt119 : ¬ (t_117 = b107) := Ne.symm (Exa.neArv F120 G117_4 (hw _ (List.mem_of_getElem? (i := 5) rfl)))
    have F121 : Fld Z T117.heap b107 "com/example/lorikeet/lorikeet/formats/TrecDocument" "docno" "Ljava/lang/String;" .null := ((F108.keep K112 nin0).keep K117 nin0)
    have F122 : Fld Z T117.heap b107 "com/example/lorikeet/lorikeet/formats/TrecDocument" "text" "Ljava/lang/String;" .null := ((F109.keep K112 nin0).keep K117 nin0)
    have F123 : Exa Z T117.heap b_112 "java/lang/String" := (G112_1.keep K117)
    have Od124 : Old Z n0 T117.heap := (Od116.keep K117 all0)
    have Kp125 : Keep h0 T117.heap [] := (Kp118.trans K117 all0)
    obtain ⟨_, _, ⟨T126, L126, k126, n126⟩, -, X126, hS126, gr126, ⟨Lc126, hQ126, l126, y126, z126, hCc126⟩, st126⟩ := X117.specialBackS hx (y := (⟨"com/example/lorikeet/lorikeet/formats/TrecDocument", "<init>", "(Ljava/lang/String;Ljava/lang/String;)V"⟩ : MethodName)) rfl hown (mvT hZ (hw _ (List.mem_of_getElem? (i := 32) rfl))) (mvT hZ (hw _ (List.mem_of_getElem? (i := 33) rfl))) (mvT hZ (hw _ (List.mem_of_getElem? (i := 34) rfl))) (by decide) (backOfSH (s := s) (vm0 := T117.vm) (W := 1) (rm_tinit l Z a0 hw [] b107 b_112 b_117 T117.heap n0 Od124 F120 F121 F122 ge_b107 F123 G117_1) hZ (hw _ (List.mem_of_getElem? (i := 34) rfl)) (hw _ (List.mem_of_getElem? (i := 6) rfl)) (by decide) (by decide) (own_EW hw) hC117.1) (g := (mkF m 196 #[.val (.int x0), .val (.int x1), .val (.int x2), .val (.int x3), .val (.int x4), .val (.int (Int32.ofNat N_101)), .val (.int dd102), .val (.int dd103), .val (.int (Int32.ofNat N_104)), .val (.int dd105), .val (.int dd106), .val (.int (Int32.ofNat EA)), .val (.int e0_), .val (.int e1_), .val (.int (Int32.ofNat UA)), .val (.int u0_), .val (.int u1_), .unset, .unset, .unset, .unset] [(.ref b_117), (.ref b_112), (.ref b107), (.ref b107)])) rfl (by rw [hml]; rfl) (Steps.refl _) (a := b107) (argsL := [(.ref b_112), (.ref b_117)]) (rest := [(.ref b107)]) (lenOf pd_10 rfl) rfl (by show 2 * 0 + _ ≤ _; exact Nat.le_of_eq rfl) (hb hby at_196) (fun _ _ => ⟨rfl, rfl, (by decide : 13 + 4 ≤ _), (by decide : 26 + 44 ≤ _)⟩)
    dsimp only [Pt.U, Pt.locs, Pt.cells, Pt.slots] at X126 hS126 gr126 hCc126 l126 y126 z126 st126 hQ126
    subst l126 y126 z126
    obtain ⟨X126, hS, hZ, hown⟩ := rebS hS (Nat.le_refl _) X126 hS126 gr126 hZ hown
    obtain ⟨rfl, N126q, K126, G126_0, G126_1⟩ := hQ126
    have N126 := Fr.app N117 N126q
    have hC126 := CHr.trans hC117 hCc126
    refine GoH.by (T' := T126) (g' := (mkF m 199 #[.val (.int x0), .val (.int x1), .val (.int x2), .val (.int x3), .val (.int x4), .val (.int (Int32.ofNat N_101)), .val (.int dd102), .val (.int dd103), .val (.int (Int32.ofNat N_104)), .val (.int dd105), .val (.int dd106), .val (.int (Int32.ofNat EA)), .val (.int e0_), .val (.int e1_), .val (.int (Int32.ofNat UA)), .val (.int u0_), .val (.int u1_), .unset, .unset, .unset, .unset] [(.ref b107)])) (fun t_ k_ => st126.trans k_) ?_
    refine GoH.by (T' := T126) (g' := (mkF m 201 #[.val (.int x0), .val (.int x1), .val (.int x2), .val (.int x3), .val (.int x4), .val (.int (Int32.ofNat N_101)), .val (.int dd102), .val (.int dd103), .val (.int (Int32.ofNat N_104)), .val (.int dd105), .val (.int dd106), .val (.int (Int32.ofNat EA)), .val (.int e0_), .val (.int e1_), .val (.int (Int32.ofNat UA)), .val (.int u0_), .val (.int u1_), .val (.ref b107), .unset, .unset, .unset] [])) (fun t_ k_ => XS.astore X126.here hx rfl (hb hby at_199) rfl rfl (l' := #[.val (.int x0), .val (.int x1), .val (.int x2), .val (.int x3), .val (.int x4), .val (.int (Int32.ofNat N_101)), .val (.int dd102), .val (.int dd103), .val (.int (Int32.ofNat N_104)), .val (.int dd105), .val (.int dd106), .val (.int (Int32.ofNat EA)), .val (.int e0_), .val (.int e1_), .val (.int (Int32.ofNat UA)), .val (.int u0_), .val (.int u1_), .val (.ref b107), .unset, .unset, .unset]) rfl k_) ?_
    refine GoH.by (T' := T126) (g' := (mkF m 203 #[.val (.int x0), .val (.int x1), .val (.int x2), .val (.int x3), .val (.int x4), .val (.int (Int32.ofNat N_101)), .val (.int dd102), .val (.int dd103), .val (.int (Int32.ofNat N_104)), .val (.int dd105), .val (.int dd106), .val (.int (Int32.ofNat EA)), .val (.int e0_), .val (.int e1_), .val (.int (Int32.ofNat UA)), .val (.int u0_), .val (.int u1_), .val (.ref b107), .unset, .unset, .unset] [(.int x4)])) (fun t_ k_ => XS.iload X126.here hx rfl (hb hby at_201) rfl k_) ?_
    refine GoH.by (T' := T126) (g' := (mkF m 204 #[.val (.int x0), .val (.int x1), .val (.int x2), .val (.int x3), .val (.int x4), .val (.int (Int32.ofNat N_101)), .val (.int dd102), .val (.int dd103), .val (.int (Int32.ofNat N_104)), .val (.int dd105), .val (.int dd106), .val (.int (Int32.ofNat EA)), .val (.int e0_), .val (.int e1_), .val (.int (Int32.ofNat UA)), .val (.int u0_), .val (.int u1_), .val (.ref b107), .unset, .unset, .unset] [(.int (3 : Int32)), (.int x4)])) (fun t_ k_ => XS.iconst X126.here hx rfl (hb hby at_203) k_) ?_
    refine GoH.by (T' := T126) (g' := (mkF m 205 #[.val (.int x0), .val (.int x1), .val (.int x2), .val (.int x3), .val (.int x4), .val (.int (Int32.ofNat N_101)), .val (.int dd102), .val (.int dd103), .val (.int (Int32.ofNat N_104)), .val (.int dd105), .val (.int dd106), .val (.int (Int32.ofNat EA)), .val (.int e0_), .val (.int e1_), .val (.int (Int32.ofNat UA)), .val (.int u0_), .val (.int u1_), .val (.ref b107), .unset, .unset, .unset] [(.int (x4 &&& (3 : Int32)))])) (fun t_ k_ => XS.iand X126.here hx rfl (hb hby at_204) rfl k_) ?_
    refine GoH.by (T' := T126) (g' := (mkF m 207 #[.val (.int x0), .val (.int x1), .val (.int x2), .val (.int x3), .val (.int x4), .val (.int (Int32.ofNat N_101)), .val (.int dd102), .val (.int dd103), .val (.int (Int32.ofNat N_104)), .val (.int dd105), .val (.int dd106), .val (.int (Int32.ofNat EA)), .val (.int e0_), .val (.int e1_), .val (.int (Int32.ofNat UA)), .val (.int u0_), .val (.int u1_), .val (.ref b107), .val (.int (x4 &&& (3 : Int32))), .unset, .unset] [])) (fun t_ k_ => XS.istore X126.here hx rfl (hb hby at_205) rfl (l' := #[.val (.int x0), .val (.int x1), .val (.int x2), .val (.int x3), .val (.int x4), .val (.int (Int32.ofNat N_101)), .val (.int dd102), .val (.int dd103), .val (.int (Int32.ofNat N_104)), .val (.int dd105), .val (.int dd106), .val (.int (Int32.ofNat EA)), .val (.int e0_), .val (.int e1_), .val (.int (Int32.ofNat UA)), .val (.int u0_), .val (.int u1_), .val (.ref b107), .val (.int (x4 &&& (3 : Int32))), .unset, .unset]) rfl k_) ?_
    refine GoH.by (T' := T126) (g' := (mkF m 209 #[.val (.int x0), .val (.int x1), .val (.int x2), .val (.int x3), .val (.int x4), .val (.int (Int32.ofNat N_101)), .val (.int dd102), .val (.int dd103), .val (.int (Int32.ofNat N_104)), .val (.int dd105), .val (.int dd106), .val (.int (Int32.ofNat EA)), .val (.int e0_), .val (.int e1_), .val (.int (Int32.ofNat UA)), .val (.int u0_), .val (.int u1_), .val (.ref b107), .val (.int (x4 &&& (3 : Int32))), .unset, .unset] [(.int (x4 &&& (3 : Int32)))])) (fun t_ k_ => XS.iload X126.here hx rfl (hb hby at_207) rfl k_) ?_
    by_cases hc127 : (x4 &&& (3 : Int32)) = (0 : Int32)
    · skip
      refine GoH.by (T' := T126) (g' := (mkF m 212 #[.val (.int x0), .val (.int x1), .val (.int x2), .val (.int x3), .val (.int x4), .val (.int (Int32.ofNat N_101)), .val (.int dd102), .val (.int dd103), .val (.int (Int32.ofNat N_104)), .val (.int dd105), .val (.int dd106), .val (.int (Int32.ofNat EA)), .val (.int e0_), .val (.int e1_), .val (.int (Int32.ofNat UA)), .val (.int u0_), .val (.int u1_), .val (.ref b107), .val (.int (x4 &&& (3 : Int32))), .unset, .unset] [])) (fun t_ k_ => XS.ifNo X126.here hx rfl (hb hby at_209) rfl ((if0 _ _).trans (teq hc127).2) k_) ?_
      obtain ⟨T128, h128, X128, e128, E128, A128, Df128, -, st128⟩ := newO X126 hx hZ hown (hw _ (List.mem_of_getElem? (i := 4) rfl)) (hw _ (List.mem_of_getElem? (i := 5) rfl)) (hw _ (List.mem_of_getElem? (i := 6) rfl)) rfl (g := (mkF m 212 #[.val (.int x0), .val (.int x1), .val (.int x2), .val (.int x3), .val (.int x4), .val (.int (Int32.ofNat N_101)), .val (.int dd102), .val (.int dd103), .val (.int (Int32.ofNat N_104)), .val (.int dd105), .val (.int dd106), .val (.int (Int32.ofNat EA)), .val (.int e0_), .val (.int e1_), .val (.int (Int32.ofNat UA)), .val (.int u0_), .val (.int u1_), .val (.ref b107), .val (.int (x4 &&& (3 : Int32))), .unset, .unset] [])) rfl (hb hby at_212) (by decide) (by decide)
      obtain ⟨b128, g128⟩ : ∃ z, z = T126.heap.size := ⟨_, rfl⟩
      rw [← g128] at A128 Df128 st128
      have Od129 : Old Z n0 T126.heap := (Od124.keep K126 (allS ge_b107 all0))
      have ge_b128 : n0 ≤ b128 := Nat.le_trans Od129.sz (Nat.le_of_eq g128.symm)
      have Kp130 : Keep h0 T126.heap [] := (Kp125.trans K126 (allS (Or.inr sz_b107) all0))
      have sz_b128 : h0.size ≤ b128 := Nat.le_trans Kp130.1 (Nat.le_of_eq g128.symm)
      have F131 : Exa Z T126.heap b107 "com/example/lorikeet/lorikeet/formats/TrecDocument" := (F120.keep K126)
      have ne_b107_b128 : ¬ (b107 = b128) := Nat.ne_of_lt (Nat.lt_of_lt_of_le F131.lt (Nat.le_of_eq g128.symm))
      have F132 : Exa Z T126.heap b_112 "java/lang/String" := (F123.keep K126)
      have ne_b_112_b128 : ¬ (b_112 = b128) := Nat.ne_of_lt (Nat.lt_of_lt_of_le F132.lt (Nat.le_of_eq g128.symm))
      have F133 : Arv Z T126.heap t_112 kb_112 .byte (Int32.ofNat (own_mk N_101 dd102 dd103).length) (((own_mk N_101 dd102 dd103).map (fun c => c.toInt8.toInt32)).map Value.int) (.int (0 : Int32)) := ((G112_4.keep K117 nin0).keep K126 (ninS nt114 nin0))
      have ne_t_112_b128 : ¬ (t_112 = b128) := Nat.ne_of_lt (Nat.lt_of_lt_of_le F133.lt (Nat.le_of_eq g128.symm))
      have F134 : Exa Z T126.heap b_117 "java/lang/String" := (G117_1.keep K126)
      have ne_b_117_b128 : ¬ (b_117 = b128) := Nat.ne_of_lt (Nat.lt_of_lt_of_le F134.lt (Nat.le_of_eq g128.symm))
      have F135 : Arv Z T126.heap t_117 kb_117 .byte (Int32.ofNat (own_mk N_104 dd105 dd106).length) (((own_mk N_104 dd105 dd106).map (fun c => c.toInt8.toInt32)).map Value.int) (.int (0 : Int32)) := (G117_4.keep K126 (ninS nt119 nin0))
      have ne_t_117_b128 : ¬ (t_117 = b128) := Nat.ne_of_lt (Nat.lt_of_lt_of_le F135.lt (Nat.le_of_eq g128.symm))
      have F136 : Fld Z h128 b128 "com/example/lorikeet/lorikeet/formats/TrecDocument" "docno" "Ljava/lang/String;" .null := Df128 (Or.inr (hw _ (List.mem_of_getElem? (i := 43) rfl))) (ty := (.object "java/lang/String")) (by decide)
      have F137 : Fld Z h128 b128 "com/example/lorikeet/lorikeet/formats/TrecDocument" "text" "Ljava/lang/String;" .null := Df128 (Or.inr (hw _ (List.mem_of_getElem? (i := 46) rfl))) (ty := (.object "java/lang/String")) (by decide)
      refine GoH.by (T' := T128) (g' := (mkF m 215 #[.val (.int x0), .val (.int x1), .val (.int x2), .val (.int x3), .val (.int x4), .val (.int (Int32.ofNat N_101)), .val (.int dd102), .val (.int dd103), .val (.int (Int32.ofNat N_104)), .val (.int dd105), .val (.int dd106), .val (.int (Int32.ofNat EA)), .val (.int e0_), .val (.int e1_), .val (.int (Int32.ofNat UA)), .val (.int u0_), .val (.int u1_), .val (.ref b107), .val (.int (x4 &&& (3 : Int32))), .unset, .unset] [(.ref b128)])) (fun t_ k_ => st128 _ k_) ?_
      refine GoH.by (T' := T128) (g' := (mkF m 216 #[.val (.int x0), .val (.int x1), .val (.int x2), .val (.int x3), .val (.int x4), .val (.int (Int32.ofNat N_101)), .val (.int dd102), .val (.int dd103), .val (.int (Int32.ofNat N_104)), .val (.int dd105), .val (.int dd106), .val (.int (Int32.ofNat EA)), .val (.int e0_), .val (.int e1_), .val (.int (Int32.ofNat UA)), .val (.int u0_), .val (.int u1_), .val (.ref b107), .val (.int (x4 &&& (3 : Int32))), .unset, .unset] [(.ref b128), (.ref b128)])) (fun t_ k_ => XS.dup X128.here hx rfl (hb hby at_215) rfl rfl k_) ?_
      refine GoH.by (T' := T128) (g' := (mkF m 218 #[.val (.int x0), .val (.int x1), .val (.int x2), .val (.int x3), .val (.int x4), .val (.int (Int32.ofNat N_101)), .val (.int dd102), .val (.int dd103), .val (.int (Int32.ofNat N_104)), .val (.int dd105), .val (.int dd106), .val (.int (Int32.ofNat EA)), .val (.int e0_), .val (.int e1_), .val (.int (Int32.ofNat UA)), .val (.int u0_), .val (.int u1_), .val (.ref b107), .val (.int (x4 &&& (3 : Int32))), .unset, .unset] [(.int (Int32.ofNat EA)), (.ref b128), (.ref b128)])) (fun t_ k_ => XS.iload X128.here hx rfl (hb hby at_216) rfl k_) ?_
      refine GoH.by (T' := T128) (g' := (mkF m 220 #[.val (.int x0), .val (.int x1), .val (.int x2), .val (.int x3), .val (.int x4), .val (.int (Int32.ofNat N_101)), .val (.int dd102), .val (.int dd103), .val (.int (Int32.ofNat N_104)), .val (.int dd105), .val (.int dd106), .val (.int (Int32.ofNat EA)), .val (.int e0_), .val (.int e1_), .val (.int (Int32.ofNat UA)), .val (.int u0_), .val (.int u1_), .val (.ref b107), .val (.int (x4 &&& (3 : Int32))), .unset, .unset] [(.int e0_), (.int (Int32.ofNat EA)), (.ref b128), (.ref b128)])) (fun t_ k_ => XS.iload X128.here hx rfl (hb hby at_218) rfl k_) ?_
      refine GoH.by (T' := T128) (g' := (mkF m 222 #[.val (.int x0), .val (.int x1), .val (.int x2), .val (.int x3), .val (.int x4), .val (.int (Int32.ofNat N_101)), .val (.int dd102), .val (.int dd103), .val (.int (Int32.ofNat N_104)), .val (.int dd105), .val (.int dd106), .val (.int (Int32.ofNat EA)), .val (.int e0_), .val (.int e1_), .val (.int (Int32.ofNat UA)), .val (.int u0_), .val (.int u1_), .val (.ref b107), .val (.int (x4 &&& (3 : Int32))), .unset, .unset] [(.int e1_), (.int e0_), (.int (Int32.ofNat EA)), (.ref b128), (.ref b128)])) (fun t_ k_ => XS.iload X128.here hx rfl (hb hby at_220) rfl k_) ?_
      have Od138 : Old Z n0 h128 := (Od129.ext E128)
      have hC139 := CHr.trans hC126 (CHr.ext E128 hC126.1)
      obtain ⟨_, _, ⟨T140, L140, k140, n140⟩, -, X140, hS140, gr140, ⟨Lc140, hQ140, l140, y140, z140, hCc140⟩, st140⟩ := callSS X128 hx (y := (⟨"com/example/lorikeet/lorikeet/formats/TrecDocumentEqualsPinLaw", "mk", "(III)Ljava/lang/String;"⟩ : MethodName)) hown (mvT hZ (hw _ (List.mem_of_getElem? (i := 7) rfl))) (mvT hZ (hw _ (List.mem_of_getElem? (i := 8) rfl))) (mvT hZ (hw _ (List.mem_of_getElem? (i := 2) rfl))) (mvT hZ (hw _ (List.mem_of_getElem? (i := 9) rfl))) (by decide) (backOfSH (s := s) (vm0 := T126.vm) (W := 2) (rm_mk l Z a0 hw [] EA e0_ e1_ G1 h128 n0 Od138 P0 hCS hEA he0 he1) hZ (hw _ (List.mem_of_getElem? (i := 9) rfl)) (hw _ (List.mem_of_getElem? (i := 2) rfl)) (by decide) (by decide) (own_EW hw) hC139.1) (g := (mkF m 222 #[.val (.int x0), .val (.int x1), .val (.int x2), .val (.int x3), .val (.int x4), .val (.int (Int32.ofNat N_101)), .val (.int dd102), .val (.int dd103), .val (.int (Int32.ofNat N_104)), .val (.int dd105), .val (.int dd106), .val (.int (Int32.ofNat EA)), .val (.int e0_), .val (.int e1_), .val (.int (Int32.ofNat UA)), .val (.int u0_), .val (.int u1_), .val (.ref b107), .val (.int (x4 &&& (3 : Int32))), .unset, .unset] [(.int e1_), (.int e0_), (.int (Int32.ofNat EA)), (.ref b128), (.ref b128)])) rfl (by rw [hml]; rfl) (argsL := [(.int (Int32.ofNat EA)), (.int e0_), (.int e1_)]) (rest := [(.ref b128), (.ref b128)]) (lenOf pd_9 rfl) rfl (by show 2 * 0 + _ ≤ _; exact Nat.le_of_eq rfl) (hb hby at_222) (fun _ _ => ⟨rfl, e128, (by decide : 18 + 6 ≤ _), (by decide : 72 + 12 ≤ _)⟩)
      dsimp only [Pt.U, Pt.locs, Pt.cells, Pt.slots] at X140 hS140 gr140 hCc140 l140 y140 z140 st140 hQ140
      subst l140 y140 z140
      obtain ⟨X140, hS, hZ, hown⟩ := rebS hS (by rw [e128]; exact (Nat.le_trans (Nat.le_refl _) E128.1)) X140 hS140 gr140 hZ hown
      obtain ⟨b_140, t_140, kb_140, rfl, N140q, K140, G140_0, G140_1, G140_2, G140_3, G140_4⟩ := hQ140
      have N140 := Fr.app N126 N140q
      have ge_b_140 : n0 ≤ b_140 := Nat.le_trans Od138.sz G140_0
      have Kp141 : Keep h0 h128 [] := (Kp130.ext E128)
      have sz_b_140 : h0.size ≤ b_140 := Nat.le_trans Kp141.1 G140_0
      have F142 : Exa Z h128 b107 "com/example/lorikeet/lorikeet/formats/TrecDocument" := (F131.ext E128)
      have ne_b107_b_140 : ¬ (b107 = b_140) := Nat.ne_of_lt (Nat.lt_of_lt_of_le F142.lt G140_0)
      have F143 : Exa Z h128 b_112 "java/lang/String" := (F132.ext E128)
      have ne_b_112_b_140 : ¬ (b_112 = b_140) := Nat.ne_of_lt (Nat.lt_of_lt_of_le F143.lt G140_0)
      have F144 : Arv Z h128 t_112 kb_112 .byte (Int32.ofNat (own_mk N_101 dd102 dd103).length) (((own_mk N_101 dd102 dd103).map (fun c => c.toInt8.toInt32)).map Value.int) (.int (0 : Int32)) := (F133.ext E128)
      have ne_t_112_b_140 : ¬ (t_112 = b_140) := Nat.ne_of_lt (Nat.lt_of_lt_of_le F144.lt G140_0)
      have F145 : Exa Z h128 b_117 "java/lang/String" := (F134.ext E128)
      have ne_b_117_b_140 : ¬ (b_117 = b_140) := Nat.ne_of_lt (Nat.lt_of_lt_of_le F145.lt G140_0)
      have F146 : Arv Z h128 t_117 kb_117 .byte (Int32.ofNat (own_mk N_104 dd105 dd106).length) (((own_mk N_104 dd105 dd106).map (fun c => c.toInt8.toInt32)).map Value.int) (.int (0 : Int32)) := (F135.ext E128)
      have ne_t_117_b_140 : ¬ (t_117 = b_140) := Nat.ne_of_lt (Nat.lt_of_lt_of_le F146.lt G140_0)
      have ne_b128_b_140 : ¬ (b128 = b_140) := Nat.ne_of_lt (Nat.lt_of_lt_of_le A128.lt G140_0)
      have hC140 := CHr.trans hC139 hCc140
      refine GoH.by (T' := T140) (g' := (mkF m 225 #[.val (.int x0), .val (.int x1), .val (.int x2), .val (.int x3), .val (.int x4), .val (.int (Int32.ofNat N_101)), .val (.int dd102), .val (.int dd103), .val (.int (Int32.ofNat N_104)), .val (.int dd105), .val (.int dd106), .val (.int (Int32.ofNat EA)), .val (.int e0_), .val (.int e1_), .val (.int (Int32.ofNat UA)), .val (.int u0_), .val (.int u1_), .val (.ref b107), .val (.int (x4 &&& (3 : Int32))), .unset, .unset] [(.ref b_140), (.ref b128), (.ref b128)])) (fun t_ k_ => st140.trans k_) ?_
      have F148 : Exa Z T140.heap b128 "com/example/lorikeet/lorikeet/formats/TrecDocument" := (A128.keep K140)
      have nt147 : ¬ (t_140 = b128) := Ne.symm (Exa.neArv F148 G140_4 (hw _ (List.mem_of_getElem? (i := 5) rfl)))
      refine GoH.by (T' := T140) (g' := (mkF m 227 #[.val (.int x0), .val (.int x1), .val (.int x2), .val (.int x3), .val (.int x4), .val (.int (Int32.ofNat N_101)), .val (.int dd102), .val (.int dd103), .val (.int (Int32.ofNat N_104)), .val (.int dd105), .val (.int dd106), .val (.int (Int32.ofNat EA)), .val (.int e0_), .val (.int e1_), .val (.int (Int32.ofNat UA)), .val (.int u0_), .val (.int u1_), .val (.ref b107), .val (.int (x4 &&& (3 : Int32))), .unset, .unset] [(.int (Int32.ofNat UA)), (.ref b_140), (.ref b128), (.ref b128)])) (fun t_ k_ => XS.iload X140.here hx rfl (hb hby at_225) rfl k_) ?_
      refine GoH.by (T' := T140) (g' := (mkF m 229 #[.val (.int x0), .val (.int x1), .val (.int x2), .val (.int x3), .val (.int x4), .val (.int (Int32.ofNat N_101)), .val (.int dd102), .val (.int dd103), .val (.int (Int32.ofNat N_104)), .val (.int dd105), .val (.int dd106), .val (.int (Int32.ofNat EA)), .val (.int e0_), .val (.int e1_), .val (.int (Int32.ofNat UA)), .val (.int u0_), .val (.int u1_), .val (.ref b107), .val (.int (x4 &&& (3 : Int32))), .unset, .unset] [(.int u0_), (.int (Int32.ofNat UA)), (.ref b_140), (.ref b128), (.ref b128)])) (fun t_ k_ => XS.iload X140.here hx rfl (hb hby at_227) rfl k_) ?_
      refine GoH.by (T' := T140) (g' := (mkF m 231 #[.val (.int x0), .val (.int x1), .val (.int x2), .val (.int x3), .val (.int x4), .val (.int (Int32.ofNat N_101)), .val (.int dd102), .val (.int dd103), .val (.int (Int32.ofNat N_104)), .val (.int dd105), .val (.int dd106), .val (.int (Int32.ofNat EA)), .val (.int e0_), .val (.int e1_), .val (.int (Int32.ofNat UA)), .val (.int u0_), .val (.int u1_), .val (.ref b107), .val (.int (x4 &&& (3 : Int32))), .unset, .unset] [(.int u1_), (.int u0_), (.int (Int32.ofNat UA)), (.ref b_140), (.ref b128), (.ref b128)])) (fun t_ k_ => XS.iload X140.here hx rfl (hb hby at_229) rfl k_) ?_
      have Od149 : Old Z n0 T140.heap := (Od138.keep K140 all0)
      obtain ⟨_, _, ⟨T150, L150, k150, n150⟩, -, X150, hS150, gr150, ⟨Lc150, hQ150, l150, y150, z150, hCc150⟩, st150⟩ := callSS X140 hx (y := (⟨"com/example/lorikeet/lorikeet/formats/TrecDocumentEqualsPinLaw", "mk", "(III)Ljava/lang/String;"⟩ : MethodName)) hown (mvT hZ (hw _ (List.mem_of_getElem? (i := 7) rfl))) (mvT hZ (hw _ (List.mem_of_getElem? (i := 8) rfl))) (mvT hZ (hw _ (List.mem_of_getElem? (i := 2) rfl))) (mvT hZ (hw _ (List.mem_of_getElem? (i := 9) rfl))) (by decide) (backOfSH (s := s) (vm0 := T140.vm) (W := 3) (rm_mk l Z a0 hw [] UA u0_ u1_ G1 T140.heap n0 Od149 P0 hCS hUA hu0 hu1) hZ (hw _ (List.mem_of_getElem? (i := 9) rfl)) (hw _ (List.mem_of_getElem? (i := 2) rfl)) (by decide) (by decide) (own_EW hw) hC140.1) (g := (mkF m 231 #[.val (.int x0), .val (.int x1), .val (.int x2), .val (.int x3), .val (.int x4), .val (.int (Int32.ofNat N_101)), .val (.int dd102), .val (.int dd103), .val (.int (Int32.ofNat N_104)), .val (.int dd105), .val (.int dd106), .val (.int (Int32.ofNat EA)), .val (.int e0_), .val (.int e1_), .val (.int (Int32.ofNat UA)), .val (.int u0_), .val (.int u1_), .val (.ref b107), .val (.int (x4 &&& (3 : Int32))), .unset, .unset] [(.int u1_), (.int u0_), (.int (Int32.ofNat UA)), (.ref b_140), (.ref b128), (.ref b128)])) rfl (by rw [hml]; rfl) (argsL := [(.int (Int32.ofNat UA)), (.int u0_), (.int u1_)]) (rest := [(.ref b_140), (.ref b128), (.ref b128)]) (lenOf pd_9 rfl) rfl (by show 2 * 0 + _ ≤ _; exact Nat.le_of_eq rfl) (hb hby at_231) (fun _ _ => ⟨rfl, rfl, (by decide : 24 + 6 ≤ _), (by decide : 84 + 12 ≤ _)⟩)
      dsimp only [Pt.U, Pt.locs, Pt.cells, Pt.slots] at X150 hS150 gr150 hCc150 l150 y150 z150 st150 hQ150
      subst l150 y150 z150
      obtain ⟨X150, hS, hZ, hown⟩ := rebS hS (Nat.le_refl _) X150 hS150 gr150 hZ hown
      obtain ⟨b_150, t_150, kb_150, rfl, N150q, K150, G150_0, G150_1, G150_2, G150_3, G150_4⟩ := hQ150
      have N150 := Fr.app N140 N150q
      have ge_b_150 : n0 ≤ b_150 := Nat.le_trans Od149.sz G150_0
      have Kp151 : Keep h0 T140.heap [] := (Kp141.trans K140 all0)
      have sz_b_150 : h0.size ≤ b_150 := Nat.le_trans Kp151.1 G150_0
      have F152 : Exa Z T140.heap b107 "com/example/lorikeet/lorikeet/formats/TrecDocument" := (F142.keep K140)
      have ne_b107_b_150 : ¬ (b107 = b_150) := Nat.ne_of_lt (Nat.lt_of_lt_of_le F152.lt G150_0)
      have F153 : Exa Z T140.heap b_112 "java/lang/String" := (F143.keep K140)
      have ne_b_112_b_150 : ¬ (b_112 = b_150) := Nat.ne_of_lt (Nat.lt_of_lt_of_le F153.lt G150_0)
      have F154 : Arv Z T140.heap t_112 kb_112 .byte (Int32.ofNat (own_mk N_101 dd102 dd103).length) (((own_mk N_101 dd102 dd103).map (fun c => c.toInt8.toInt32)).map Value.int) (.int (0 : Int32)) := (F144.keep K140 nin0)
      have ne_t_112_b_150 : ¬ (t_112 = b_150) := Nat.ne_of_lt (Nat.lt_of_lt_of_le F154.lt G150_0)
      have F155 : Exa Z T140.heap b_117 "java/lang/String" := (F145.keep K140)
      have ne_b_117_b_150 : ¬ (b_117 = b_150) := Nat.ne_of_lt (Nat.lt_of_lt_of_le F155.lt G150_0)
      have F156 : Arv Z T140.heap t_117 kb_117 .byte (Int32.ofNat (own_mk N_104 dd105 dd106).length) (((own_mk N_104 dd105 dd106).map (fun c => c.toInt8.toInt32)).map Value.int) (.int (0 : Int32)) := (F146.keep K140 nin0)
      have ne_t_117_b_150 : ¬ (t_117 = b_150) := Nat.ne_of_lt (Nat.lt_of_lt_of_le F156.lt G150_0)
      have ne_b128_b_150 : ¬ (b128 = b_150) := Nat.ne_of_lt (Nat.lt_of_lt_of_le F148.lt G150_0)
      have ne_b_140_b_150 : ¬ (b_140 = b_150) := Nat.ne_of_lt (Nat.lt_of_lt_of_le G140_1.lt G150_0)
      have ne_t_140_b_150 : ¬ (t_140 = b_150) := Nat.ne_of_lt (Nat.lt_of_lt_of_le G140_4.lt G150_0)
      have hC150 := CHr.trans hC140 hCc150
      refine GoH.by (T' := T150) (g' := (mkF m 234 #[.val (.int x0), .val (.int x1), .val (.int x2), .val (.int x3), .val (.int x4), .val (.int (Int32.ofNat N_101)), .val (.int dd102), .val (.int dd103), .val (.int (Int32.ofNat N_104)), .val (.int dd105), .val (.int dd106), .val (.int (Int32.ofNat EA)), .val (.int e0_), .val (.int e1_), .val (.int (Int32.ofNat UA)), .val (.int u0_), .val (.int u1_), .val (.ref b107), .val (.int (x4 &&& (3 : Int32))), .unset, .unset] [(.ref b_150), (.ref b_140), (.ref b128), (.ref b128)])) (fun t_ k_ => st150.trans k_) ?_
      have F158 : Exa Z T150.heap b128 "com/example/lorikeet/lorikeet/formats/TrecDocument" := (F148.keep K150)
      have nt157 : ¬ (t_150 = b128) := Ne.symm (Exa.neArv F158 G150_4 (hw _ (List.mem_of_getElem? (i := 5) rfl)))
      have F159 : Fld Z T150.heap b128 "com/example/lorikeet/lorikeet/formats/TrecDocument" "docno" "Ljava/lang/String;" .null := ((F136.keep K140 nin0).keep K150 nin0)
      have F160 : Fld Z T150.heap b128 "com/example/lorikeet/lorikeet/formats/TrecDocument" "text" "Ljava/lang/String;" .null := ((F137.keep K140 nin0).keep K150 nin0)
      have F161 : Exa Z T150.heap b_140 "java/lang/String" := (G140_1.keep K150)
      have Od162 : Old Z n0 T150.heap := (Od149.keep K150 all0)
      have Kp163 : Keep h0 T150.heap [] := (Kp151.trans K150 all0)
      obtain ⟨_, _, ⟨T164, L164, k164, n164⟩, -, X164, hS164, gr164, ⟨Lc164, hQ164, l164, y164, z164, hCc164⟩, st164⟩ := X150.specialBackS hx (y := (⟨"com/example/lorikeet/lorikeet/formats/TrecDocument", "<init>", "(Ljava/lang/String;Ljava/lang/String;)V"⟩ : MethodName)) rfl hown (mvT hZ (hw _ (List.mem_of_getElem? (i := 32) rfl))) (mvT hZ (hw _ (List.mem_of_getElem? (i := 33) rfl))) (mvT hZ (hw _ (List.mem_of_getElem? (i := 34) rfl))) (by decide) (backOfSH (s := s) (vm0 := T150.vm) (W := 1) (rm_tinit l Z a0 hw [] b128 b_140 b_150 T150.heap n0 Od162 F158 F159 F160 ge_b128 F161 G150_1) hZ (hw _ (List.mem_of_getElem? (i := 34) rfl)) (hw _ (List.mem_of_getElem? (i := 6) rfl)) (by decide) (by decide) (own_EW hw) hC150.1) (g := (mkF m 234 #[.val (.int x0), .val (.int x1), .val (.int x2), .val (.int x3), .val (.int x4), .val (.int (Int32.ofNat N_101)), .val (.int dd102), .val (.int dd103), .val (.int (Int32.ofNat N_104)), .val (.int dd105), .val (.int dd106), .val (.int (Int32.ofNat EA)), .val (.int e0_), .val (.int e1_), .val (.int (Int32.ofNat UA)), .val (.int u0_), .val (.int u1_), .val (.ref b107), .val (.int (x4 &&& (3 : Int32))), .unset, .unset] [(.ref b_150), (.ref b_140), (.ref b128), (.ref b128)])) rfl (by rw [hml]; rfl) (Steps.refl _) (a := b128) (argsL := [(.ref b_140), (.ref b_150)]) (rest := [(.ref b128)]) (lenOf pd_10 rfl) rfl (by show 2 * 0 + _ ≤ _; exact Nat.le_of_eq rfl) (hb hby at_234) (fun _ _ => ⟨rfl, rfl, (by decide : 30 + 4 ≤ _), (by decide : 96 + 44 ≤ _)⟩)
      dsimp only [Pt.U, Pt.locs, Pt.cells, Pt.slots] at X164 hS164 gr164 hCc164 l164 y164 z164 st164 hQ164
      subst l164 y164 z164
      obtain ⟨X164, hS, hZ, hown⟩ := rebS hS (Nat.le_refl _) X164 hS164 gr164 hZ hown
      obtain ⟨rfl, N164q, K164, G164_0, G164_1⟩ := hQ164
      have N164 := Fr.app N150 N164q
      have hC164 := CHr.trans hC150 hCc164
      refine GoH.by (T' := T164) (g' := (mkF m 237 #[.val (.int x0), .val (.int x1), .val (.int x2), .val (.int x3), .val (.int x4), .val (.int (Int32.ofNat N_101)), .val (.int dd102), .val (.int dd103), .val (.int (Int32.ofNat N_104)), .val (.int dd105), .val (.int dd106), .val (.int (Int32.ofNat EA)), .val (.int e0_), .val (.int e1_), .val (.int (Int32.ofNat UA)), .val (.int u0_), .val (.int u1_), .val (.ref b107), .val (.int (x4 &&& (3 : Int32))), .unset, .unset] [(.ref b128)])) (fun t_ k_ => st164.trans k_) ?_
      refine GoH.by (T' := T164) (g' := (mkF m 239 #[.val (.int x0), .val (.int x1), .val (.int x2), .val (.int x3), .val (.int x4), .val (.int (Int32.ofNat N_101)), .val (.int dd102), .val (.int dd103), .val (.int (Int32.ofNat N_104)), .val (.int dd105), .val (.int dd106), .val (.int (Int32.ofNat EA)), .val (.int e0_), .val (.int e1_), .val (.int (Int32.ofNat UA)), .val (.int u0_), .val (.int u1_), .val (.ref b107), .val (.int (x4 &&& (3 : Int32))), .val (.ref b128), .unset] [])) (fun t_ k_ => XS.astore X164.here hx rfl (hb hby at_237) rfl rfl (l' := #[.val (.int x0), .val (.int x1), .val (.int x2), .val (.int x3), .val (.int x4), .val (.int (Int32.ofNat N_101)), .val (.int dd102), .val (.int dd103), .val (.int (Int32.ofNat N_104)), .val (.int dd105), .val (.int dd106), .val (.int (Int32.ofNat EA)), .val (.int e0_), .val (.int e1_), .val (.int (Int32.ofNat UA)), .val (.int u0_), .val (.int u1_), .val (.ref b107), .val (.int (x4 &&& (3 : Int32))), .val (.ref b128), .unset]) rfl k_) ?_
      refine GoH.by (T' := T164) (g' := (mkF m 241 #[.val (.int x0), .val (.int x1), .val (.int x2), .val (.int x3), .val (.int x4), .val (.int (Int32.ofNat N_101)), .val (.int dd102), .val (.int dd103), .val (.int (Int32.ofNat N_104)), .val (.int dd105), .val (.int dd106), .val (.int (Int32.ofNat EA)), .val (.int e0_), .val (.int e1_), .val (.int (Int32.ofNat UA)), .val (.int u0_), .val (.int u1_), .val (.ref b107), .val (.int (x4 &&& (3 : Int32))), .val (.ref b128), .unset] [(.int (Int32.ofNat N_101))])) (fun t_ k_ => XS.iload X164.here hx rfl (hb hby at_239) rfl k_) ?_
      refine GoH.by (T' := T164) (g' := (mkF m 243 #[.val (.int x0), .val (.int x1), .val (.int x2), .val (.int x3), .val (.int x4), .val (.int (Int32.ofNat N_101)), .val (.int dd102), .val (.int dd103), .val (.int (Int32.ofNat N_104)), .val (.int dd105), .val (.int dd106), .val (.int (Int32.ofNat EA)), .val (.int e0_), .val (.int e1_), .val (.int (Int32.ofNat UA)), .val (.int u0_), .val (.int u1_), .val (.ref b107), .val (.int (x4 &&& (3 : Int32))), .val (.ref b128), .unset] [(.int dd102), (.int (Int32.ofNat N_101))])) (fun t_ k_ => XS.iload X164.here hx rfl (hb hby at_241) rfl k_) ?_
      refine GoH.by (T' := T164) (g' := (mkF m 245 #[.val (.int x0), .val (.int x1), .val (.int x2), .val (.int x3), .val (.int x4), .val (.int (Int32.ofNat N_101)), .val (.int dd102), .val (.int dd103), .val (.int (Int32.ofNat N_104)), .val (.int dd105), .val (.int dd106), .val (.int (Int32.ofNat EA)), .val (.int e0_), .val (.int e1_), .val (.int (Int32.ofNat UA)), .val (.int u0_), .val (.int u1_), .val (.ref b107), .val (.int (x4 &&& (3 : Int32))), .val (.ref b128), .unset] [(.int dd103), (.int dd102), (.int (Int32.ofNat N_101))])) (fun t_ k_ => XS.iload X164.here hx rfl (hb hby at_243) rfl k_) ?_
      refine GoH.by (T' := T164) (g' := (mkF m 247 #[.val (.int x0), .val (.int x1), .val (.int x2), .val (.int x3), .val (.int x4), .val (.int (Int32.ofNat N_101)), .val (.int dd102), .val (.int dd103), .val (.int (Int32.ofNat N_104)), .val (.int dd105), .val (.int dd106), .val (.int (Int32.ofNat EA)), .val (.int e0_), .val (.int e1_), .val (.int (Int32.ofNat UA)), .val (.int u0_), .val (.int u1_), .val (.ref b107), .val (.int (x4 &&& (3 : Int32))), .val (.ref b128), .unset] [(.int (Int32.ofNat EA)), (.int dd103), (.int dd102), (.int (Int32.ofNat N_101))])) (fun t_ k_ => XS.iload X164.here hx rfl (hb hby at_245) rfl k_) ?_
      refine GoH.by (T' := T164) (g' := (mkF m 249 #[.val (.int x0), .val (.int x1), .val (.int x2), .val (.int x3), .val (.int x4), .val (.int (Int32.ofNat N_101)), .val (.int dd102), .val (.int dd103), .val (.int (Int32.ofNat N_104)), .val (.int dd105), .val (.int dd106), .val (.int (Int32.ofNat EA)), .val (.int e0_), .val (.int e1_), .val (.int (Int32.ofNat UA)), .val (.int u0_), .val (.int u1_), .val (.ref b107), .val (.int (x4 &&& (3 : Int32))), .val (.ref b128), .unset] [(.int e0_), (.int (Int32.ofNat EA)), (.int dd103), (.int dd102), (.int (Int32.ofNat N_101))])) (fun t_ k_ => XS.iload X164.here hx rfl (hb hby at_247) rfl k_) ?_
      refine GoH.by (T' := T164) (g' := (mkF m 251 #[.val (.int x0), .val (.int x1), .val (.int x2), .val (.int x3), .val (.int x4), .val (.int (Int32.ofNat N_101)), .val (.int dd102), .val (.int dd103), .val (.int (Int32.ofNat N_104)), .val (.int dd105), .val (.int dd106), .val (.int (Int32.ofNat EA)), .val (.int e0_), .val (.int e1_), .val (.int (Int32.ofNat UA)), .val (.int u0_), .val (.int u1_), .val (.ref b107), .val (.int (x4 &&& (3 : Int32))), .val (.ref b128), .unset] [(.int e1_), (.int e0_), (.int (Int32.ofNat EA)), (.int dd103), (.int dd102), (.int (Int32.ofNat N_101))])) (fun t_ k_ => XS.iload X164.here hx rfl (hb hby at_249) rfl k_) ?_
      have Od165 : Old Z n0 T164.heap := (Od162.keep K164 (allS ge_b128 all0))
      obtain ⟨_, _, ⟨T166, L166, k166, n166⟩, -, X166, ⟨Lc166, hQ166, l166, y166, z166⟩, st166⟩ := Jvm.LawKit.callS X164 hx (y := (⟨"com/example/lorikeet/lorikeet/formats/TrecDocumentEqualsPinLaw", "same", "(IIIIII)Z"⟩ : MethodName)) hown (mvT hZ (hw _ (List.mem_of_getElem? (i := 47) rfl))) (mvT hZ (hw _ (List.mem_of_getElem? (i := 48) rfl))) (mvT hZ (hw _ (List.mem_of_getElem? (i := 2) rfl))) (mvT hZ (hw _ (List.mem_of_getElem? (i := 49) rfl))) (by decide) (backOf (W := 0) (rm_same l Z a0 hw [] N_101 dd102 dd103 EA e0_ e1_ T164.heap n0 Od165 G101_0 hEA) hZ (hw _ (List.mem_of_getElem? (i := 49) rfl)) (hw _ (List.mem_of_getElem? (i := 2) rfl)) (by decide) (by decide)) (g := (mkF m 251 #[.val (.int x0), .val (.int x1), .val (.int x2), .val (.int x3), .val (.int x4), .val (.int (Int32.ofNat N_101)), .val (.int dd102), .val (.int dd103), .val (.int (Int32.ofNat N_104)), .val (.int dd105), .val (.int dd106), .val (.int (Int32.ofNat EA)), .val (.int e0_), .val (.int e1_), .val (.int (Int32.ofNat UA)), .val (.int u0_), .val (.int u1_), .val (.ref b107), .val (.int (x4 &&& (3 : Int32))), .val (.ref b128), .unset] [(.int e1_), (.int e0_), (.int (Int32.ofNat EA)), (.int dd103), (.int dd102), (.int (Int32.ofNat N_101))])) rfl (by rw [hml]; rfl) (argsL := [(.int (Int32.ofNat N_101)), (.int dd102), (.int dd103), (.int (Int32.ofNat EA)), (.int e0_), (.int e1_)]) (rest := []) (lenOf pd_11 rfl) rfl (by show 2 * 0 + _ ≤ _; exact Nat.le_of_eq rfl) (hb hby at_251) (fun _ _ => ⟨rfl, rfl, (by decide : 34 + 0 ≤ _), (by decide : 140 + 0 ≤ _)⟩)
      dsimp only [Pt.U, Pt.locs, Pt.cells, Pt.slots] at X166 l166 y166 z166 st166 hQ166
      subst l166 y166 z166
      obtain ⟨rfl, N166q, e166⟩ := hQ166
      have N166 := Fr.app N164 N166q
      refine GoH.by (T' := T166) (g' := (mkF m 254 #[.val (.int x0), .val (.int x1), .val (.int x2), .val (.int x3), .val (.int x4), .val (.int (Int32.ofNat N_101)), .val (.int dd102), .val (.int dd103), .val (.int (Int32.ofNat N_104)), .val (.int dd105), .val (.int dd106), .val (.int (Int32.ofNat EA)), .val (.int e0_), .val (.int e1_), .val (.int (Int32.ofNat UA)), .val (.int u0_), .val (.int u1_), .val (.ref b107), .val (.int (x4 &&& (3 : Int32))), .val (.ref b128), .unset] [(.int (if (own_mk N_101 dd102 dd103) = (own_mk EA e0_ e1_) then 1 else 0))])) (fun t_ k_ => st166 _ k_) ?_
      by_cases q1 : (own_mk N_101 dd102 dd103) = (own_mk EA e0_ e1_)
      · skip
        refine GoH.by (T' := T166) (g' := (mkF m 257 #[.val (.int x0), .val (.int x1), .val (.int x2), .val (.int x3), .val (.int x4), .val (.int (Int32.ofNat N_101)), .val (.int dd102), .val (.int dd103), .val (.int (Int32.ofNat N_104)), .val (.int dd105), .val (.int dd106), .val (.int (Int32.ofNat EA)), .val (.int e0_), .val (.int e1_), .val (.int (Int32.ofNat UA)), .val (.int u0_), .val (.int u1_), .val (.ref b107), .val (.int (x4 &&& (3 : Int32))), .val (.ref b128), .unset] [])) (fun t_ k_ => XS.ifNo X166.here hx rfl (hb hby at_254) rfl ((if0 _ _).trans (feq (by rw [if_pos q1]; decide)).1) k_) ?_
        refine GoH.by (T' := T166) (g' := (mkF m 259 #[.val (.int x0), .val (.int x1), .val (.int x2), .val (.int x3), .val (.int x4), .val (.int (Int32.ofNat N_101)), .val (.int dd102), .val (.int dd103), .val (.int (Int32.ofNat N_104)), .val (.int dd105), .val (.int dd106), .val (.int (Int32.ofNat EA)), .val (.int e0_), .val (.int e1_), .val (.int (Int32.ofNat UA)), .val (.int u0_), .val (.int u1_), .val (.ref b107), .val (.int (x4 &&& (3 : Int32))), .val (.ref b128), .unset] [(.int (Int32.ofNat N_104))])) (fun t_ k_ => XS.iload X166.here hx rfl (hb hby at_257) rfl k_) ?_
        refine GoH.by (T' := T166) (g' := (mkF m 261 #[.val (.int x0), .val (.int x1), .val (.int x2), .val (.int x3), .val (.int x4), .val (.int (Int32.ofNat N_101)), .val (.int dd102), .val (.int dd103), .val (.int (Int32.ofNat N_104)), .val (.int dd105), .val (.int dd106), .val (.int (Int32.ofNat EA)), .val (.int e0_), .val (.int e1_), .val (.int (Int32.ofNat UA)), .val (.int u0_), .val (.int u1_), .val (.ref b107), .val (.int (x4 &&& (3 : Int32))), .val (.ref b128), .unset] [(.int dd105), (.int (Int32.ofNat N_104))])) (fun t_ k_ => XS.iload X166.here hx rfl (hb hby at_259) rfl k_) ?_
        refine GoH.by (T' := T166) (g' := (mkF m 263 #[.val (.int x0), .val (.int x1), .val (.int x2), .val (.int x3), .val (.int x4), .val (.int (Int32.ofNat N_101)), .val (.int dd102), .val (.int dd103), .val (.int (Int32.ofNat N_104)), .val (.int dd105), .val (.int dd106), .val (.int (Int32.ofNat EA)), .val (.int e0_), .val (.int e1_), .val (.int (Int32.ofNat UA)), .val (.int u0_), .val (.int u1_), .val (.ref b107), .val (.int (x4 &&& (3 : Int32))), .val (.ref b128), .unset] [(.int dd106), (.int dd105), (.int (Int32.ofNat N_104))])) (fun t_ k_ => XS.iload X166.here hx rfl (hb hby at_261) rfl k_) ?_
        refine GoH.by (T' := T166) (g' := (mkF m 265 #[.val (.int x0), .val (.int x1), .val (.int x2), .val (.int x3), .val (.int x4), .val (.int (Int32.ofNat N_101)), .val (.int dd102), .val (.int dd103), .val (.int (Int32.ofNat N_104)), .val (.int dd105), .val (.int dd106), .val (.int (Int32.ofNat EA)), .val (.int e0_), .val (.int e1_), .val (.int (Int32.ofNat UA)), .val (.int u0_), .val (.int u1_), .val (.ref b107), .val (.int (x4 &&& (3 : Int32))), .val (.ref b128), .unset] [(.int (Int32.ofNat UA)), (.int dd106), (.int dd105), (.int (Int32.ofNat N_104))])) (fun t_ k_ => XS.iload X166.here hx rfl (hb hby at_263) rfl k_) ?_
        refine GoH.by (T' := T166) (g' := (mkF m 267 #[.val (.int x0), .val (.int x1), .val (.int x2), .val (.int x3), .val (.int x4), .val (.int (Int32.ofNat N_101)), .val (.int dd102), .val (.int dd103), .val (.int (Int32.ofNat N_104)), .val (.int dd105), .val (.int dd106), .val (.int (Int32.ofNat EA)), .val (.int e0_), .val (.int e1_), .val (.int (Int32.ofNat UA)), .val (.int u0_), .val (.int u1_), .val (.ref b107), .val (.int (x4 &&& (3 : Int32))), .val (.ref b128), .unset] [(.int u0_), (.int (Int32.ofNat UA)), (.int dd106), (.int dd105), (.int (Int32.ofNat N_104))])) (fun t_ k_ => XS.iload X166.here hx rfl (hb hby at_265) rfl k_) ?_
        refine GoH.by (T' := T166) (g' := (mkF m 269 #[.val (.int x0), .val (.int x1), .val (.int x2), .val (.int x3), .val (.int x4), .val (.int (Int32.ofNat N_101)), .val (.int dd102), .val (.int dd103), .val (.int (Int32.ofNat N_104)), .val (.int dd105), .val (.int dd106), .val (.int (Int32.ofNat EA)), .val (.int e0_), .val (.int e1_), .val (.int (Int32.ofNat UA)), .val (.int u0_), .val (.int u1_), .val (.ref b107), .val (.int (x4 &&& (3 : Int32))), .val (.ref b128), .unset] [(.int u1_), (.int u0_), (.int (Int32.ofNat UA)), (.int dd106), (.int dd105), (.int (Int32.ofNat N_104))])) (fun t_ k_ => XS.iload X166.here hx rfl (hb hby at_267) rfl k_) ?_
        obtain ⟨_, _, ⟨T167, L167, k167, n167⟩, -, X167, ⟨Lc167, hQ167, l167, y167, z167⟩, st167⟩ := Jvm.LawKit.callS X166 hx (y := (⟨"com/example/lorikeet/lorikeet/formats/TrecDocumentEqualsPinLaw", "same", "(IIIIII)Z"⟩ : MethodName)) hown (mvT hZ (hw _ (List.mem_of_getElem? (i := 47) rfl))) (mvT hZ (hw _ (List.mem_of_getElem? (i := 48) rfl))) (mvT hZ (hw _ (List.mem_of_getElem? (i := 2) rfl))) (mvT hZ (hw _ (List.mem_of_getElem? (i := 49) rfl))) (by decide) (backOf (W := 0) (rm_same l Z a0 hw [] N_104 dd105 dd106 UA u0_ u1_ T164.heap n0 Od165 G104_0 hUA) hZ (hw _ (List.mem_of_getElem? (i := 49) rfl)) (hw _ (List.mem_of_getElem? (i := 2) rfl)) (by decide) (by decide)) (g := (mkF m 269 #[.val (.int x0), .val (.int x1), .val (.int x2), .val (.int x3), .val (.int x4), .val (.int (Int32.ofNat N_101)), .val (.int dd102), .val (.int dd103), .val (.int (Int32.ofNat N_104)), .val (.int dd105), .val (.int dd106), .val (.int (Int32.ofNat EA)), .val (.int e0_), .val (.int e1_), .val (.int (Int32.ofNat UA)), .val (.int u0_), .val (.int u1_), .val (.ref b107), .val (.int (x4 &&& (3 : Int32))), .val (.ref b128), .unset] [(.int u1_), (.int u0_), (.int (Int32.ofNat UA)), (.int dd106), (.int dd105), (.int (Int32.ofNat N_104))])) rfl (by rw [hml]; rfl) (argsL := [(.int (Int32.ofNat N_104)), (.int dd105), (.int dd106), (.int (Int32.ofNat UA)), (.int u0_), (.int u1_)]) (rest := []) (lenOf pd_11 rfl) rfl (by show 2 * 0 + _ ≤ _; exact Nat.le_of_eq rfl) (hb hby at_269) (fun _ _ => ⟨rfl, e166, (by decide : 34 + 0 ≤ _), (by decide : 140 + 0 ≤ _)⟩)
        dsimp only [Pt.U, Pt.locs, Pt.cells, Pt.slots] at X167 l167 y167 z167 st167 hQ167
        subst l167 y167 z167
        obtain ⟨rfl, N167q, e167⟩ := hQ167
        have N167 := Fr.app N166 N167q
        refine GoH.by (T' := T167) (g' := (mkF m 272 #[.val (.int x0), .val (.int x1), .val (.int x2), .val (.int x3), .val (.int x4), .val (.int (Int32.ofNat N_101)), .val (.int dd102), .val (.int dd103), .val (.int (Int32.ofNat N_104)), .val (.int dd105), .val (.int dd106), .val (.int (Int32.ofNat EA)), .val (.int e0_), .val (.int e1_), .val (.int (Int32.ofNat UA)), .val (.int u0_), .val (.int u1_), .val (.ref b107), .val (.int (x4 &&& (3 : Int32))), .val (.ref b128), .unset] [(.int (if (own_mk N_104 dd105 dd106) = (own_mk UA u0_ u1_) then 1 else 0))])) (fun t_ k_ => st167 _ k_) ?_
        by_cases q2 : (own_mk N_104 dd105 dd106) = (own_mk UA u0_ u1_)
        · skip
          refine GoH.by (T' := T167) (g' := (mkF m 275 #[.val (.int x0), .val (.int x1), .val (.int x2), .val (.int x3), .val (.int x4), .val (.int (Int32.ofNat N_101)), .val (.int dd102), .val (.int dd103), .val (.int (Int32.ofNat N_104)), .val (.int dd105), .val (.int dd106), .val (.int (Int32.ofNat EA)), .val (.int e0_), .val (.int e1_), .val (.int (Int32.ofNat UA)), .val (.int u0_), .val (.int u1_), .val (.ref b107), .val (.int (x4 &&& (3 : Int32))), .val (.ref b128), .unset] [])) (fun t_ k_ => XS.ifNo X167.here hx rfl (hb hby at_272) rfl ((if0 _ _).trans (feq (by rw [if_pos q2]; decide)).1) k_) ?_
          refine GoH.by (T' := T167) (g' := (mkF m 276 #[.val (.int x0), .val (.int x1), .val (.int x2), .val (.int x3), .val (.int x4), .val (.int (Int32.ofNat N_101)), .val (.int dd102), .val (.int dd103), .val (.int (Int32.ofNat N_104)), .val (.int dd105), .val (.int dd106), .val (.int (Int32.ofNat EA)), .val (.int e0_), .val (.int e1_), .val (.int (Int32.ofNat UA)), .val (.int u0_), .val (.int u1_), .val (.ref b107), .val (.int (x4 &&& (3 : Int32))), .val (.ref b128), .unset] [(.int (1 : Int32))])) (fun t_ k_ => XS.iconst X167.here hx rfl (hb hby at_275) k_) ?_
          refine GoH.by (T' := T167) (g' := (mkF m 280 #[.val (.int x0), .val (.int x1), .val (.int x2), .val (.int x3), .val (.int x4), .val (.int (Int32.ofNat N_101)), .val (.int dd102), .val (.int dd103), .val (.int (Int32.ofNat N_104)), .val (.int dd105), .val (.int dd106), .val (.int (Int32.ofNat EA)), .val (.int e0_), .val (.int e1_), .val (.int (Int32.ofNat UA)), .val (.int u0_), .val (.int u1_), .val (.ref b107), .val (.int (x4 &&& (3 : Int32))), .val (.ref b128), .unset] [(.int (1 : Int32))])) (fun t_ k_ => XS.goto X167.here hx rfl (pc0 := 276) (pc' := 280) rfl (hb hby at_276) (by decide) (by decide) k_) ?_
          refine GoH.by (T' := T167) (g' := (mkF m 282 #[.val (.int x0), .val (.int x1), .val (.int x2), .val (.int x3), .val (.int x4), .val (.int (Int32.ofNat N_101)), .val (.int dd102), .val (.int dd103), .val (.int (Int32.ofNat N_104)), .val (.int dd105), .val (.int dd106), .val (.int (Int32.ofNat EA)), .val (.int e0_), .val (.int e1_), .val (.int (Int32.ofNat UA)), .val (.int u0_), .val (.int u1_), .val (.ref b107), .val (.int (x4 &&& (3 : Int32))), .val (.ref b128), .val (.int (1 : Int32))] [])) (fun t_ k_ => XS.istore X167.here hx rfl (hb hby at_280) rfl (l' := #[.val (.int x0), .val (.int x1), .val (.int x2), .val (.int x3), .val (.int x4), .val (.int (Int32.ofNat N_101)), .val (.int dd102), .val (.int dd103), .val (.int (Int32.ofNat N_104)), .val (.int dd105), .val (.int dd106), .val (.int (Int32.ofNat EA)), .val (.int e0_), .val (.int e1_), .val (.int (Int32.ofNat UA)), .val (.int u0_), .val (.int u1_), .val (.ref b107), .val (.int (x4 &&& (3 : Int32))), .val (.ref b128), .val (.int (1 : Int32))]) rfl k_) ?_
          refine GoH.by (T' := T167) (g' := (mkF m 330 #[.val (.int x0), .val (.int x1), .val (.int x2), .val (.int x3), .val (.int x4), .val (.int (Int32.ofNat N_101)), .val (.int dd102), .val (.int dd103), .val (.int (Int32.ofNat N_104)), .val (.int dd105), .val (.int dd106), .val (.int (Int32.ofNat EA)), .val (.int e0_), .val (.int e1_), .val (.int (Int32.ofNat UA)), .val (.int u0_), .val (.int u1_), .val (.ref b107), .val (.int (x4 &&& (3 : Int32))), .val (.ref b128), .val (.int (1 : Int32))] [])) (fun t_ k_ => XS.goto X167.here hx rfl (pc0 := 282) (pc' := 330) rfl (hb hby at_282) (by decide) (by decide) k_) ?_
          refine GoH.by (T' := T167) (g' := (mkF m 332 #[.val (.int x0), .val (.int x1), .val (.int x2), .val (.int x3), .val (.int x4), .val (.int (Int32.ofNat N_101)), .val (.int dd102), .val (.int dd103), .val (.int (Int32.ofNat N_104)), .val (.int dd105), .val (.int dd106), .val (.int (Int32.ofNat EA)), .val (.int e0_), .val (.int e1_), .val (.int (Int32.ofNat UA)), .val (.int u0_), .val (.int u1_), .val (.ref b107), .val (.int (x4 &&& (3 : Int32))), .val (.ref b128), .val (.int (1 : Int32))] [(.ref b107)])) (fun t_ k_ => XS.aload X167.here hx rfl (hb hby at_330) rfl rfl k_) ?_
          refine GoH.by (T' := T167) (g' := (mkF m 334 #[.val (.int x0), .val (.int x1), .val (.int x2), .val (.int x3), .val (.int x4), .val (.int (Int32.ofNat N_101)), .val (.int dd102), .val (.int dd103), .val (.int (Int32.ofNat N_104)), .val (.int dd105), .val (.int dd106), .val (.int (Int32.ofNat EA)), .val (.int e0_), .val (.int e1_), .val (.int (Int32.ofNat UA)), .val (.int u0_), .val (.int u1_), .val (.ref b107), .val (.int (x4 &&& (3 : Int32))), .val (.ref b128), .val (.int (1 : Int32))] [(.ref b128), (.ref b107)])) (fun t_ k_ => XS.aload X167.here hx rfl (hb hby at_332) rfl rfl k_) ?_
          have F168 : Exa Z T164.heap b107 "com/example/lorikeet/lorikeet/formats/TrecDocument" := ((F152.keep K150).keep K164)
          have F169 : Exa Z T164.heap b128 "com/example/lorikeet/lorikeet/formats/TrecDocument" := (F158.keep K164)
          have F170 : Fld Z T164.heap b107 "com/example/lorikeet/lorikeet/formats/TrecDocument" "docno" "Ljava/lang/String;" (.ref b_112) := ((((G126_0.ext E128).keep K140 nin0).keep K150 nin0).keep K164 (ninS ne_b107_b128 nin0))
          have F171 : Fld Z T164.heap b107 "com/example/lorikeet/lorikeet/formats/TrecDocument" "text" "Ljava/lang/String;" (.ref b_117) := ((((G126_1.ext E128).keep K140 nin0).keep K150 nin0).keep K164 (ninS ne_b107_b128 nin0))
          have F172 : Exa Z T164.heap b_112 "java/lang/String" := ((F153.keep K150).keep K164)
          have F173 : Fld Z T164.heap b_112 "java/lang/String" "value" "[B" (.ref t_112) := ((((((G112_2.keep K117 nin0).keep K126 (ninS (Ne.symm ne_b107_b_112) nin0)).ext E128).keep K140 nin0).keep K150 nin0).keep K164 (ninS ne_b_112_b128 nin0))
          have F174 : Fld Z T164.heap b_112 "java/lang/String" "coder" "B" (.int (0 : Int32)) := ((((((G112_3.keep K117 nin0).keep K126 (ninS (Ne.symm ne_b107_b_112) nin0)).ext E128).keep K140 nin0).keep K150 nin0).keep K164 (ninS ne_b_112_b128 nin0))
          have F175 : Arv Z T164.heap t_112 kb_112 .byte (Int32.ofNat (own_mk N_101 dd102 dd103).length) (((own_mk N_101 dd102 dd103).map (fun c => c.toInt8.toInt32)).map Value.int) (.int (0 : Int32)) := ((F154.keep K150 nin0).keep K164 (ninS ne_t_112_b128 nin0))
          have F176 : Exa Z T164.heap b_117 "java/lang/String" := ((F155.keep K150).keep K164)
          have F177 : Fld Z T164.heap b_117 "java/lang/String" "value" "[B" (.ref t_117) := (((((G117_2.keep K126 (ninS (Ne.symm ne_b107_b_117) nin0)).ext E128).keep K140 nin0).keep K150 nin0).keep K164 (ninS ne_b_117_b128 nin0))
          have F178 : Fld Z T164.heap b_117 "java/lang/String" "coder" "B" (.int (0 : Int32)) := (((((G117_3.keep K126 (ninS (Ne.symm ne_b107_b_117) nin0)).ext E128).keep K140 nin0).keep K150 nin0).keep K164 (ninS ne_b_117_b128 nin0))
          have F179 : Arv Z T164.heap t_117 kb_117 .byte (Int32.ofNat (own_mk N_104 dd105 dd106).length) (((own_mk N_104 dd105 dd106).map (fun c => c.toInt8.toInt32)).map Value.int) (.int (0 : Int32)) := ((F156.keep K150 nin0).keep K164 (ninS ne_t_117_b128 nin0))
          have F180 : Exa Z T164.heap b_140 "java/lang/String" := (F161.keep K164)
          have F181 : Fld Z T164.heap b_140 "java/lang/String" "value" "[B" (.ref t_140) := ((G140_2.keep K150 nin0).keep K164 (ninS (Ne.symm ne_b128_b_140) nin0))
          have F182 : Fld Z T164.heap b_140 "java/lang/String" "coder" "B" (.int (0 : Int32)) := ((G140_3.keep K150 nin0).keep K164 (ninS (Ne.symm ne_b128_b_140) nin0))
          have F183 : Arv Z T164.heap t_140 kb_140 .byte (Int32.ofNat (own_mk EA e0_ e1_).length) (((own_mk EA e0_ e1_).map (fun c => c.toInt8.toInt32)).map Value.int) (.int (0 : Int32)) := ((G140_4.keep K150 nin0).keep K164 (ninS nt147 nin0))
          have F184 : Exa Z T164.heap b_150 "java/lang/String" := (G150_1.keep K164)
          have F185 : Fld Z T164.heap b_150 "java/lang/String" "value" "[B" (.ref t_150) := (G150_2.keep K164 (ninS (Ne.symm ne_b128_b_150) nin0))
          have F186 : Fld Z T164.heap b_150 "java/lang/String" "coder" "B" (.int (0 : Int32)) := (G150_3.keep K164 (ninS (Ne.symm ne_b128_b_150) nin0))
          have F187 : Arv Z T164.heap t_150 kb_150 .byte (Int32.ofNat (own_mk UA u0_ u1_).length) (((own_mk UA u0_ u1_).map (fun c => c.toInt8.toInt32)).map Value.int) (.int (0 : Int32)) := (G150_4.keep K164 (ninS nt157 nin0))
          obtain ⟨cq188, kq188, q188a, q188b, q188c⟩ := isOf hZ e167 F168
          obtain ⟨_, _, ⟨T188, L188, k188, n188⟩, -, X188, ⟨Lc188, hQ188, l188, y188, z188⟩, st188⟩ := X167.virtualBack hx (y := (⟨"com/example/lorikeet/lorikeet/formats/TrecDocument", "equals", "(Ljava/lang/Object;)Z"⟩ : MethodName)) (z := (⟨"com/example/lorikeet/lorikeet/formats/TrecDocument", "equals", "(Ljava/lang/Object;)Z"⟩ : MethodName)) hown (mvT hZ (hw _ (List.mem_of_getElem? (i := 50) rfl))) (mvT hZ (hw _ (List.mem_of_getElem? (i := 51) rfl))) (notFace_of_selects (args := #[]) (mvT hZ (hw _ (List.mem_of_getElem? (i := 53) rfl)))) (mvT hZ (hw _ (List.mem_of_getElem? (i := 53) rfl))) (mvT hZ (hw _ (List.mem_of_getElem? (i := 52) rfl))) (by decide) (backOf (W := 0) (rm_teq l Z a0 hw [] b107 b128 G1 b_112 t_112 kb_112 (own_mk N_101 dd102 dd103) b_117 t_117 kb_117 (own_mk N_104 dd105 dd106) b_140 t_140 kb_140 (own_mk EA e0_ e1_) b_150 t_150 kb_150 (own_mk UA u0_ u1_) T164.heap n0 Od165 P0 hCS F168 F169 F170 F171 G164_0 G164_1 F172 F173 F174 F175 F176 F177 F178 F179 F180 F181 F182 F183 F184 F185 F186 F187 (own_mk_r G101_0 hr_dd102 hr_dd103) (by rw [own_mk_len G101_0]; exact G101_0) (own_mk_r G104_0 hr_dd105 hr_dd106) (by rw [own_mk_len G104_0]; exact G104_0) (own_mk_r hEA he0 he1) (by rw [own_mk_len hEA]; exact hEA) (own_mk_r hUA hu0 hu1) (by rw [own_mk_len hUA]; exact hUA)) hZ (hw _ (List.mem_of_getElem? (i := 54) rfl)) (hw _ (List.mem_of_getElem? (i := 6) rfl)) (by decide) (by decide)) q188a q188c (g := (mkF m 334 #[.val (.int x0), .val (.int x1), .val (.int x2), .val (.int x3), .val (.int x4), .val (.int (Int32.ofNat N_101)), .val (.int dd102), .val (.int dd103), .val (.int (Int32.ofNat N_104)), .val (.int dd105), .val (.int dd106), .val (.int (Int32.ofNat EA)), .val (.int e0_), .val (.int e1_), .val (.int (Int32.ofNat UA)), .val (.int u0_), .val (.int u1_), .val (.ref b107), .val (.int (x4 &&& (3 : Int32))), .val (.ref b128), .val (.int (1 : Int32))] [(.ref b128), (.ref b107)])) rfl (by rw [hml]; rfl) (Steps.refl _) (argsL := [(.ref b128)]) (rest := []) (lenOf pd_7 rfl) rfl (by show 2 * 0 + _ ≤ _; exact Nat.le_of_eq rfl) (hb hby at_334) (fun _ _ => ⟨rfl, e167, (by decide : 34 + 0 ≤ _), (by decide : 140 + 0 ≤ _)⟩)
          dsimp only [Pt.U, Pt.locs, Pt.cells, Pt.slots] at X188 l188 y188 z188 st188 hQ188
          subst l188 y188 z188
          obtain ⟨rfl, N188q, e188⟩ := hQ188
          have N188 := Fr.app N167 N188q
          refine GoH.by (T' := T188) (g' := (mkF m 337 #[.val (.int x0), .val (.int x1), .val (.int x2), .val (.int x3), .val (.int x4), .val (.int (Int32.ofNat N_101)), .val (.int dd102), .val (.int dd103), .val (.int (Int32.ofNat N_104)), .val (.int dd105), .val (.int dd106), .val (.int (Int32.ofNat EA)), .val (.int e0_), .val (.int e1_), .val (.int (Int32.ofNat UA)), .val (.int u0_), .val (.int u1_), .val (.ref b107), .val (.int (x4 &&& (3 : Int32))), .val (.ref b128), .val (.int (1 : Int32))] [(.int (if (own_mk N_101 dd102 dd103) = (own_mk EA e0_ e1_) ∧ (own_mk N_104 dd105 dd106) = (own_mk UA u0_ u1_) then 1 else 0))])) (fun t_ k_ => st188.trans k_) ?_
          refine GoH.by (T' := T188) (g' := (mkF m 339 #[.val (.int x0), .val (.int x1), .val (.int x2), .val (.int x3), .val (.int x4), .val (.int (Int32.ofNat N_101)), .val (.int dd102), .val (.int dd103), .val (.int (Int32.ofNat N_104)), .val (.int dd105), .val (.int dd106), .val (.int (Int32.ofNat EA)), .val (.int e0_), .val (.int e1_), .val (.int (Int32.ofNat UA)), .val (.int u0_), .val (.int u1_), .val (.ref b107), .val (.int (x4 &&& (3 : Int32))), .val (.ref b128), .val (.int (1 : Int32))] [(.int (1 : Int32)), (.int (if (own_mk N_101 dd102 dd103) = (own_mk EA e0_ e1_) ∧ (own_mk N_104 dd105 dd106) = (own_mk UA u0_ u1_) then 1 else 0))])) (fun t_ k_ => XS.iload X188.here hx rfl (hb hby at_337) rfl k_) ?_
          refine GoH.by (T' := T188) (g' := (mkF m 342 #[.val (.int x0), .val (.int x1), .val (.int x2), .val (.int x3), .val (.int x4), .val (.int (Int32.ofNat N_101)), .val (.int dd102), .val (.int dd103), .val (.int (Int32.ofNat N_104)), .val (.int dd105), .val (.int dd106), .val (.int (Int32.ofNat EA)), .val (.int e0_), .val (.int e1_), .val (.int (Int32.ofNat UA)), .val (.int u0_), .val (.int u1_), .val (.ref b107), .val (.int (x4 &&& (3 : Int32))), .val (.ref b128), .val (.int (1 : Int32))] [])) (fun t_ k_ => XS.icmpNo X188.here hx rfl (hb hby at_339) rfl (teq (if_pos ⟨q1, q2⟩)).2 k_) ?_
          refine GoH.by (T' := T188) (g' := (mkF m 343 #[.val (.int x0), .val (.int x1), .val (.int x2), .val (.int x3), .val (.int x4), .val (.int (Int32.ofNat N_101)), .val (.int dd102), .val (.int dd103), .val (.int (Int32.ofNat N_104)), .val (.int dd105), .val (.int dd106), .val (.int (Int32.ofNat EA)), .val (.int e0_), .val (.int e1_), .val (.int (Int32.ofNat UA)), .val (.int u0_), .val (.int u1_), .val (.ref b107), .val (.int (x4 &&& (3 : Int32))), .val (.ref b128), .val (.int (1 : Int32))] [(.int (1 : Int32))])) (fun t_ k_ => XS.iconst X188.here hx rfl (hb hby at_342) k_) ?_
          refine GoH.by (T' := T188) (g' := (mkF m 347 #[.val (.int x0), .val (.int x1), .val (.int x2), .val (.int x3), .val (.int x4), .val (.int (Int32.ofNat N_101)), .val (.int dd102), .val (.int dd103), .val (.int (Int32.ofNat N_104)), .val (.int dd105), .val (.int dd106), .val (.int (Int32.ofNat EA)), .val (.int e0_), .val (.int e1_), .val (.int (Int32.ofNat UA)), .val (.int u0_), .val (.int u1_), .val (.ref b107), .val (.int (x4 &&& (3 : Int32))), .val (.ref b128), .val (.int (1 : Int32))] [(.int (1 : Int32))])) (fun t_ k_ => XS.goto X188.here hx rfl (pc0 := 343) (pc' := 347) rfl (hb hby at_343) (by decide) (by decide) k_) ?_
          refine GoH.fin hS X188 (by rw [e188]; exact (Nat.le_refl _)) (by rw [hh, e188]; exact CHr.trans hC164 (CHv.at (s := s) (vm0 := T164.vm) X188 hZ (own_EW hw) hC164.1)) (v := some (.int (nar .boolean (1 : Int32)))) (fun h => by rw [Bd.returns] at h; cases h) hlk (by decide) (by decide) ?_ (fun fs hr => retN X188 hx (t := .boolean) Bd.returns (by simp) (hb hby at_347) hr)
          show Q_law Z x0 x1 x2 x3 x4 G1 h0 n0 _ T188.heap _
          rw [e188]
          exact ⟨rfl, N188⟩
        · skip
          refine GoH.by (T' := T167) (g' := (mkF m 279 #[.val (.int x0), .val (.int x1), .val (.int x2), .val (.int x3), .val (.int x4), .val (.int (Int32.ofNat N_101)), .val (.int dd102), .val (.int dd103), .val (.int (Int32.ofNat N_104)), .val (.int dd105), .val (.int dd106), .val (.int (Int32.ofNat EA)), .val (.int e0_), .val (.int e1_), .val (.int (Int32.ofNat UA)), .val (.int u0_), .val (.int u1_), .val (.ref b107), .val (.int (x4 &&& (3 : Int32))), .val (.ref b128), .unset] [])) (fun t_ k_ => XS.ifYes X167.here hx rfl (pc0 := 272) (pc' := 279) rfl (hb hby at_272) rfl ((if0 _ _).trans (teq (if_neg q2)).1) (by decide) (by decide) k_) ?_
          refine GoH.by (T' := T167) (g' := (mkF m 280 #[.val (.int x0), .val (.int x1), .val (.int x2), .val (.int x3), .val (.int x4), .val (.int (Int32.ofNat N_101)), .val (.int dd102), .val (.int dd103), .val (.int (Int32.ofNat N_104)), .val (.int dd105), .val (.int dd106), .val (.int (Int32.ofNat EA)), .val (.int e0_), .val (.int e1_), .val (.int (Int32.ofNat UA)), .val (.int u0_), .val (.int u1_), .val (.ref b107), .val (.int (x4 &&& (3 : Int32))), .val (.ref b128), .unset] [(.int (0 : Int32))])) (fun t_ k_ => XS.iconst X167.here hx rfl (hb hby at_279) k_) ?_
          refine GoH.by (T' := T167) (g' := (mkF m 282 #[.val (.int x0), .val (.int x1), .val (.int x2), .val (.int x3), .val (.int x4), .val (.int (Int32.ofNat N_101)), .val (.int dd102), .val (.int dd103), .val (.int (Int32.ofNat N_104)), .val (.int dd105), .val (.int dd106), .val (.int (Int32.ofNat EA)), .val (.int e0_), .val (.int e1_), .val (.int (Int32.ofNat UA)), .val (.int u0_), .val (.int u1_), .val (.ref b107), .val (.int (x4 &&& (3 : Int32))), .val (.ref b128), .val (.int (0 : Int32))] [])) (fun t_ k_ => XS.istore X167.here hx rfl (hb hby at_280) rfl (l' := #[.val (.int x0), .val (.int x1), .val (.int x2), .val (.int x3), .val (.int x4), .val (.int (Int32.ofNat N_101)), .val (.int dd102), .val (.int dd103), .val (.int (Int32.ofNat N_104)), .val (.int dd105), .val (.int dd106), .val (.int (Int32.ofNat EA)), .val (.int e0_), .val (.int e1_), .val (.int (Int32.ofNat UA)), .val (.int u0_), .val (.int u1_), .val (.ref b107), .val (.int (x4 &&& (3 : Int32))), .val (.ref b128), .val (.int (0 : Int32))]) rfl k_) ?_
          refine GoH.by (T' := T167) (g' := (mkF m 330 #[.val (.int x0), .val (.int x1), .val (.int x2), .val (.int x3), .val (.int x4), .val (.int (Int32.ofNat N_101)), .val (.int dd102), .val (.int dd103), .val (.int (Int32.ofNat N_104)), .val (.int dd105), .val (.int dd106), .val (.int (Int32.ofNat EA)), .val (.int e0_), .val (.int e1_), .val (.int (Int32.ofNat UA)), .val (.int u0_), .val (.int u1_), .val (.ref b107), .val (.int (x4 &&& (3 : Int32))), .val (.ref b128), .val (.int (0 : Int32))] [])) (fun t_ k_ => XS.goto X167.here hx rfl (pc0 := 282) (pc' := 330) rfl (hb hby at_282) (by decide) (by decide) k_) ?_
          refine GoH.by (T' := T167) (g' := (mkF m 332 #[.val (.int x0), .val (.int x1), .val (.int x2), .val (.int x3), .val (.int x4), .val (.int (Int32.ofNat N_101)), .val (.int dd102), .val (.int dd103), .val (.int (Int32.ofNat N_104)), .val (.int dd105), .val (.int dd106), .val (.int (Int32.ofNat EA)), .val (.int e0_), .val (.int e1_), .val (.int (Int32.ofNat UA)), .val (.int u0_), .val (.int u1_), .val (.ref b107), .val (.int (x4 &&& (3 : Int32))), .val (.ref b128), .val (.int (0 : Int32))] [(.ref b107)])) (fun t_ k_ => XS.aload X167.here hx rfl (hb hby at_330) rfl rfl k_) ?_
          refine GoH.by (T' := T167) (g' := (mkF m 334 #[.val (.int x0), .val (.int x1), .val (.int x2), .val (.int x3), .val (.int x4), .val (.int (Int32.ofNat N_101)), .val (.int dd102), .val (.int dd103), .val (.int (Int32.ofNat N_104)), .val (.int dd105), .val (.int dd106), .val (.int (Int32.ofNat EA)), .val (.int e0_), .val (.int e1_), .val (.int (Int32.ofNat UA)), .val (.int u0_), .val (.int u1_), .val (.ref b107), .val (.int (x4 &&& (3 : Int32))), .val (.ref b128), .val (.int (0 : Int32))] [(.ref b128), (.ref b107)])) (fun t_ k_ => XS.aload X167.here hx rfl (hb hby at_332) rfl rfl k_) ?_
          have F189 : Exa Z T164.heap b107 "com/example/lorikeet/lorikeet/formats/TrecDocument" := ((F152.keep K150).keep K164)
          have F190 : Exa Z T164.heap b128 "com/example/lorikeet/lorikeet/formats/TrecDocument" := (F158.keep K164)
          have F191 : Fld Z T164.heap b107 "com/example/lorikeet/lorikeet/formats/TrecDocument" "docno" "Ljava/lang/String;" (.ref b_112) := ((((G126_0.ext E128).keep K140 nin0).keep K150 nin0).keep K164 (ninS ne_b107_b128 nin0))
          have F192 : Fld Z T164.heap b107 "com/example/lorikeet/lorikeet/formats/TrecDocument" "text" "Ljava/lang/String;" (.ref b_117) := ((((G126_1.ext E128).keep K140 nin0).keep K150 nin0).keep K164 (ninS ne_b107_b128 nin0))
          have F193 : Exa Z T164.heap b_112 "java/lang/String" := ((F153.keep K150).keep K164)
          have F194 : Fld Z T164.heap b_112 "java/lang/String" "value" "[B" (.ref t_112) := ((((((G112_2.keep K117 nin0).keep K126 (ninS (Ne.symm ne_b107_b_112) nin0)).ext E128).keep K140 nin0).keep K150 nin0).keep K164 (ninS ne_b_112_b128 nin0))
          have F195 : Fld Z T164.heap b_112 "java/lang/String" "coder" "B" (.int (0 : Int32)) := ((((((G112_3.keep K117 nin0).keep K126 (ninS (Ne.symm ne_b107_b_112) nin0)).ext E128).keep K140 nin0).keep K150 nin0).keep K164 (ninS ne_b_112_b128 nin0))
          have F196 : Arv Z T164.heap t_112 kb_112 .byte (Int32.ofNat (own_mk N_101 dd102 dd103).length) (((own_mk N_101 dd102 dd103).map (fun c => c.toInt8.toInt32)).map Value.int) (.int (0 : Int32)) := ((F154.keep K150 nin0).keep K164 (ninS ne_t_112_b128 nin0))
          have F197 : Exa Z T164.heap b_117 "java/lang/String" := ((F155.keep K150).keep K164)
          have F198 : Fld Z T164.heap b_117 "java/lang/String" "value" "[B" (.ref t_117) := (((((G117_2.keep K126 (ninS (Ne.symm ne_b107_b_117) nin0)).ext E128).keep K140 nin0).keep K150 nin0).keep K164 (ninS ne_b_117_b128 nin0))
          have F199 : Fld Z T164.heap b_117 "java/lang/String" "coder" "B" (.int (0 : Int32)) := (((((G117_3.keep K126 (ninS (Ne.symm ne_b107_b_117) nin0)).ext E128).keep K140 nin0).keep K150 nin0).keep K164 (ninS ne_b_117_b128 nin0))
          have F200 : Arv Z T164.heap t_117 kb_117 .byte (Int32.ofNat (own_mk N_104 dd105 dd106).length) (((own_mk N_104 dd105 dd106).map (fun c => c.toInt8.toInt32)).map Value.int) (.int (0 : Int32)) := ((F156.keep K150 nin0).keep K164 (ninS ne_t_117_b128 nin0))
          have F201 : Exa Z T164.heap b_140 "java/lang/String" := (F161.keep K164)
          have F202 : Fld Z T164.heap b_140 "java/lang/String" "value" "[B" (.ref t_140) := ((G140_2.keep K150 nin0).keep K164 (ninS (Ne.symm ne_b128_b_140) nin0))
          have F203 : Fld Z T164.heap b_140 "java/lang/String" "coder" "B" (.int (0 : Int32)) := ((G140_3.keep K150 nin0).keep K164 (ninS (Ne.symm ne_b128_b_140) nin0))
          have F204 : Arv Z T164.heap t_140 kb_140 .byte (Int32.ofNat (own_mk EA e0_ e1_).length) (((own_mk EA e0_ e1_).map (fun c => c.toInt8.toInt32)).map Value.int) (.int (0 : Int32)) := ((G140_4.keep K150 nin0).keep K164 (ninS nt147 nin0))
          have F205 : Exa Z T164.heap b_150 "java/lang/String" := (G150_1.keep K164)
          have F206 : Fld Z T164.heap b_150 "java/lang/String" "value" "[B" (.ref t_150) := (G150_2.keep K164 (ninS (Ne.symm ne_b128_b_150) nin0))
          have F207 : Fld Z T164.heap b_150 "java/lang/String" "coder" "B" (.int (0 : Int32)) := (G150_3.keep K164 (ninS (Ne.symm ne_b128_b_150) nin0))
          have F208 : Arv Z T164.heap t_150 kb_150 .byte (Int32.ofNat (own_mk UA u0_ u1_).length) (((own_mk UA u0_ u1_).map (fun c => c.toInt8.toInt32)).map Value.int) (.int (0 : Int32)) := (G150_4.keep K164 (ninS nt157 nin0))
          obtain ⟨cq209, kq209, q209a, q209b, q209c⟩ := isOf hZ e167 F189
          obtain ⟨_, _, ⟨T209, L209, k209, n209⟩, -, X209, ⟨Lc209, hQ209, l209, y209, z209⟩, st209⟩ := X167.virtualBack hx (y := (⟨"com/example/lorikeet/lorikeet/formats/TrecDocument", "equals", "(Ljava/lang/Object;)Z"⟩ : MethodName)) (z := (⟨"com/example/lorikeet/lorikeet/formats/TrecDocument", "equals", "(Ljava/lang/Object;)Z"⟩ : MethodName)) hown (mvT hZ (hw _ (List.mem_of_getElem? (i := 50) rfl))) (mvT hZ (hw _ (List.mem_of_getElem? (i := 51) rfl))) (notFace_of_selects (args := #[]) (mvT hZ (hw _ (List.mem_of_getElem? (i := 53) rfl)))) (mvT hZ (hw _ (List.mem_of_getElem? (i := 53) rfl))) (mvT hZ (hw _ (List.mem_of_getElem? (i := 52) rfl))) (by decide) (backOf (W := 0) (rm_teq l Z a0 hw [] b107 b128 G1 b_112 t_112 kb_112 (own_mk N_101 dd102 dd103) b_117 t_117 kb_117 (own_mk N_104 dd105 dd106) b_140 t_140 kb_140 (own_mk EA e0_ e1_) b_150 t_150 kb_150 (own_mk UA u0_ u1_) T164.heap n0 Od165 P0 hCS F189 F190 F191 F192 G164_0 G164_1 F193 F194 F195 F196 F197 F198 F199 F200 F201 F202 F203 F204 F205 F206 F207 F208 (own_mk_r G101_0 hr_dd102 hr_dd103) (by rw [own_mk_len G101_0]; exact G101_0) (own_mk_r G104_0 hr_dd105 hr_dd106) (by rw [own_mk_len G104_0]; exact G104_0) (own_mk_r hEA he0 he1) (by rw [own_mk_len hEA]; exact hEA) (own_mk_r hUA hu0 hu1) (by rw [own_mk_len hUA]; exact hUA)) hZ (hw _ (List.mem_of_getElem? (i := 54) rfl)) (hw _ (List.mem_of_getElem? (i := 6) rfl)) (by decide) (by decide)) q209a q209c (g := (mkF m 334 #[.val (.int x0), .val (.int x1), .val (.int x2), .val (.int x3), .val (.int x4), .val (.int (Int32.ofNat N_101)), .val (.int dd102), .val (.int dd103), .val (.int (Int32.ofNat N_104)), .val (.int dd105), .val (.int dd106), .val (.int (Int32.ofNat EA)), .val (.int e0_), .val (.int e1_), .val (.int (Int32.ofNat UA)), .val (.int u0_), .val (.int u1_), .val (.ref b107), .val (.int (x4 &&& (3 : Int32))), .val (.ref b128), .val (.int (0 : Int32))] [(.ref b128), (.ref b107)])) rfl (by rw [hml]; rfl) (Steps.refl _) (argsL := [(.ref b128)]) (rest := []) (lenOf pd_7 rfl) rfl (by show 2 * 0 + _ ≤ _; exact Nat.le_of_eq rfl) (hb hby at_334) (fun _ _ => ⟨rfl, e167, (by decide : 34 + 0 ≤ _), (by decide : 140 + 0 ≤ _)⟩)
          dsimp only [Pt.U, Pt.locs, Pt.cells, Pt.slots] at X209 l209 y209 z209 st209 hQ209
          subst l209 y209 z209
          obtain ⟨rfl, N209q, e209⟩ := hQ209
          have N209 := Fr.app N167 N209q
          refine GoH.by (T' := T209) (g' := (mkF m 337 #[.val (.int x0), .val (.int x1), .val (.int x2), .val (.int x3), .val (.int x4), .val (.int (Int32.ofNat N_101)), .val (.int dd102), .val (.int dd103), .val (.int (Int32.ofNat N_104)), .val (.int dd105), .val (.int dd106), .val (.int (Int32.ofNat EA)), .val (.int e0_), .val (.int e1_), .val (.int (Int32.ofNat UA)), .val (.int u0_), .val (.int u1_), .val (.ref b107), .val (.int (x4 &&& (3 : Int32))), .val (.ref b128), .val (.int (0 : Int32))] [(.int (if (own_mk N_101 dd102 dd103) = (own_mk EA e0_ e1_) ∧ (own_mk N_104 dd105 dd106) = (own_mk UA u0_ u1_) then 1 else 0))])) (fun t_ k_ => st209.trans k_) ?_
          refine GoH.by (T' := T209) (g' := (mkF m 339 #[.val (.int x0), .val (.int x1), .val (.int x2), .val (.int x3), .val (.int x4), .val (.int (Int32.ofNat N_101)), .val (.int dd102), .val (.int dd103), .val (.int (Int32.ofNat N_104)), .val (.int dd105), .val (.int dd106), .val (.int (Int32.ofNat EA)), .val (.int e0_), .val (.int e1_), .val (.int (Int32.ofNat UA)), .val (.int u0_), .val (.int u1_), .val (.ref b107), .val (.int (x4 &&& (3 : Int32))), .val (.ref b128), .val (.int (0 : Int32))] [(.int (0 : Int32)), (.int (if (own_mk N_101 dd102 dd103) = (own_mk EA e0_ e1_) ∧ (own_mk N_104 dd105 dd106) = (own_mk UA u0_ u1_) then 1 else 0))])) (fun t_ k_ => XS.iload X209.here hx rfl (hb hby at_337) rfl k_) ?_
          refine GoH.by (T' := T209) (g' := (mkF m 342 #[.val (.int x0), .val (.int x1), .val (.int x2), .val (.int x3), .val (.int x4), .val (.int (Int32.ofNat N_101)), .val (.int dd102), .val (.int dd103), .val (.int (Int32.ofNat N_104)), .val (.int dd105), .val (.int dd106), .val (.int (Int32.ofNat EA)), .val (.int e0_), .val (.int e1_), .val (.int (Int32.ofNat UA)), .val (.int u0_), .val (.int u1_), .val (.ref b107), .val (.int (x4 &&& (3 : Int32))), .val (.ref b128), .val (.int (0 : Int32))] [])) (fun t_ k_ => XS.icmpNo X209.here hx rfl (hb hby at_339) rfl (teq (if_neg (fun q => q2 q.2))).2 k_) ?_
          refine GoH.by (T' := T209) (g' := (mkF m 343 #[.val (.int x0), .val (.int x1), .val (.int x2), .val (.int x3), .val (.int x4), .val (.int (Int32.ofNat N_101)), .val (.int dd102), .val (.int dd103), .val (.int (Int32.ofNat N_104)), .val (.int dd105), .val (.int dd106), .val (.int (Int32.ofNat EA)), .val (.int e0_), .val (.int e1_), .val (.int (Int32.ofNat UA)), .val (.int u0_), .val (.int u1_), .val (.ref b107), .val (.int (x4 &&& (3 : Int32))), .val (.ref b128), .val (.int (0 : Int32))] [(.int (1 : Int32))])) (fun t_ k_ => XS.iconst X209.here hx rfl (hb hby at_342) k_) ?_
          refine GoH.by (T' := T209) (g' := (mkF m 347 #[.val (.int x0), .val (.int x1), .val (.int x2), .val (.int x3), .val (.int x4), .val (.int (Int32.ofNat N_101)), .val (.int dd102), .val (.int dd103), .val (.int (Int32.ofNat N_104)), .val (.int dd105), .val (.int dd106), .val (.int (Int32.ofNat EA)), .val (.int e0_), .val (.int e1_), .val (.int (Int32.ofNat UA)), .val (.int u0_), .val (.int u1_), .val (.ref b107), .val (.int (x4 &&& (3 : Int32))), .val (.ref b128), .val (.int (0 : Int32))] [(.int (1 : Int32))])) (fun t_ k_ => XS.goto X209.here hx rfl (pc0 := 343) (pc' := 347) rfl (hb hby at_343) (by decide) (by decide) k_) ?_
          refine GoH.fin hS X209 (by rw [e209]; exact (Nat.le_refl _)) (by rw [hh, e209]; exact CHr.trans hC164 (CHv.at (s := s) (vm0 := T164.vm) X209 hZ (own_EW hw) hC164.1)) (v := some (.int (nar .boolean (1 : Int32)))) (fun h => by rw [Bd.returns] at h; cases h) hlk (by decide) (by decide) ?_ (fun fs hr => retN X209 hx (t := .boolean) Bd.returns (by simp) (hb hby at_347) hr)
          show Q_law Z x0 x1 x2 x3 x4 G1 h0 n0 _ T209.heap _
          rw [e209]
          exact ⟨rfl, N209⟩
      · skip
        refine GoH.by (T' := T166) (g' := (mkF m 279 #[.val (.int x0), .val (.int x1), .val (.int x2), .val (.int x3), .val (.int x4), .val (.int (Int32.ofNat N_101)), .val (.int dd102), .val (.int dd103), .val (.int (Int32.ofNat N_104)), .val (.int dd105), .val (.int dd106), .val (.int (Int32.ofNat EA)), .val (.int e0_), .val (.int e1_), .val (.int (Int32.ofNat UA)), .val (.int u0_), .val (.int u1_), .val (.ref b107), .val (.int (x4 &&& (3 : Int32))), .val (.ref b128), .unset] [])) (fun t_ k_ => XS.ifYes X166.here hx rfl (pc0 := 254) (pc' := 279) rfl (hb hby at_254) rfl ((if0 _ _).trans (teq (if_neg q1)).1) (by decide) (by decide) k_) ?_
        refine GoH.by (T' := T166) (g' := (mkF m 280 #[.val (.int x0), .val (.int x1), .val (.int x2), .val (.int x3), .val (.int x4), .val (.int (Int32.ofNat N_101)), .val (.int dd102), .val (.int dd103), .val (.int (Int32.ofNat N_104)), .val (.int dd105), .val (.int dd106), .val (.int (Int32.ofNat EA)), .val (.int e0_), .val (.int e1_), .val (.int (Int32.ofNat UA)), .val (.int u0_), .val (.int u1_), .val (.ref b107), .val (.int (x4 &&& (3 : Int32))), .val (.ref b128), .unset] [(.int (0 : Int32))])) (fun t_ k_ => XS.iconst X166.here hx rfl (hb hby at_279) k_) ?_
        refine GoH.by (T' := T166) (g' := (mkF m 282 #[.val (.int x0), .val (.int x1), .val (.int x2), .val (.int x3), .val (.int x4), .val (.int (Int32.ofNat N_101)), .val (.int dd102), .val (.int dd103), .val (.int (Int32.ofNat N_104)), .val (.int dd105), .val (.int dd106), .val (.int (Int32.ofNat EA)), .val (.int e0_), .val (.int e1_), .val (.int (Int32.ofNat UA)), .val (.int u0_), .val (.int u1_), .val (.ref b107), .val (.int (x4 &&& (3 : Int32))), .val (.ref b128), .val (.int (0 : Int32))] [])) (fun t_ k_ => XS.istore X166.here hx rfl (hb hby at_280) rfl (l' := #[.val (.int x0), .val (.int x1), .val (.int x2), .val (.int x3), .val (.int x4), .val (.int (Int32.ofNat N_101)), .val (.int dd102), .val (.int dd103), .val (.int (Int32.ofNat N_104)), .val (.int dd105), .val (.int dd106), .val (.int (Int32.ofNat EA)), .val (.int e0_), .val (.int e1_), .val (.int (Int32.ofNat UA)), .val (.int u0_), .val (.int u1_), .val (.ref b107), .val (.int (x4 &&& (3 : Int32))), .val (.ref b128), .val (.int (0 : Int32))]) rfl k_) ?_
        refine GoH.by (T' := T166) (g' := (mkF m 330 #[.val (.int x0), .val (.int x1), .val (.int x2), .val (.int x3), .val (.int x4), .val (.int (Int32.ofNat N_101)), .val (.int dd102), .val (.int dd103), .val (.int (Int32.ofNat N_104)), .val (.int dd105), .val (.int dd106), .val (.int (Int32.ofNat EA)), .val (.int e0_), .val (.int e1_), .val (.int (Int32.ofNat UA)), .val (.int u0_), .val (.int u1_), .val (.ref b107), .val (.int (x4 &&& (3 : Int32))), .val (.ref b128), .val (.int (0 : Int32))] [])) (fun t_ k_ => XS.goto X166.here hx rfl (pc0 := 282) (pc' := 330) rfl (hb hby at_282) (by decide) (by decide) k_) ?_
        refine GoH.by (T' := T166) (g' := (mkF m 332 #[.val (.int x0), .val (.int x1), .val (.int x2), .val (.int x3), .val (.int x4), .val (.int (Int32.ofNat N_101)), .val (.int dd102), .val (.int dd103), .val (.int (Int32.ofNat N_104)), .val (.int dd105), .val (.int dd106), .val (.int (Int32.ofNat EA)), .val (.int e0_), .val (.int e1_), .val (.int (Int32.ofNat UA)), .val (.int u0_), .val (.int u1_), .val (.ref b107), .val (.int (x4 &&& (3 : Int32))), .val (.ref b128), .val (.int (0 : Int32))] [(.ref b107)])) (fun t_ k_ => XS.aload X166.here hx rfl (hb hby at_330) rfl rfl k_) ?_
        refine GoH.by (T' := T166) (g' := (mkF m 334 #[.val (.int x0), .val (.int x1), .val (.int x2), .val (.int x3), .val (.int x4), .val (.int (Int32.ofNat N_101)), .val (.int dd102), .val (.int dd103), .val (.int (Int32.ofNat N_104)), .val (.int dd105), .val (.int dd106), .val (.int (Int32.ofNat EA)), .val (.int e0_), .val (.int e1_), .val (.int (Int32.ofNat UA)), .val (.int u0_), .val (.int u1_), .val (.ref b107), .val (.int (x4 &&& (3 : Int32))), .val (.ref b128), .val (.int (0 : Int32))] [(.ref b128), (.ref b107)])) (fun t_ k_ => XS.aload X166.here hx rfl (hb hby at_332) rfl rfl k_) ?_
        have F210 : Exa Z T164.heap b107 "com/example/lorikeet/lorikeet/formats/TrecDocument" := ((F152.keep K150).keep K164)
        have F211 : Exa Z T164.heap b128 "com/example/lorikeet/lorikeet/formats/TrecDocument" := (F158.keep K164)
        have F212 : Fld Z T164.heap b107 "com/example/lorikeet/lorikeet/formats/TrecDocument" "docno" "Ljava/lang/String;" (.ref b_112) := ((((G126_0.ext E128).keep K140 nin0).keep K150 nin0).keep K164 (ninS ne_b107_b128 nin0))
        have F213 : Fld Z T164.heap b107 "com/example/lorikeet/lorikeet/formats/TrecDocument" "text" "Ljava/lang/String;" (.ref b_117) := ((((G126_1.ext E128).keep K140 nin0).keep K150 nin0).keep K164 (ninS ne_b107_b128 nin0))
        have F214 : Exa Z T164.heap b_112 "java/lang/String" := ((F153.keep K150).keep K164)
        have F215 : Fld Z T164.heap b_112 "java/lang/String" "value" "[B" (.ref t_112) := ((((((G112_2.keep K117 nin0).keep K126 (ninS (Ne.symm ne_b107_b_112) nin0)).ext E128).keep K140 nin0).keep K150 nin0).keep K164 (ninS ne_b_112_b128 nin0))
        have F216 : Fld Z T164.heap b_112 "java/lang/String" "coder" "B" (.int (0 : Int32)) := ((((((G112_3.keep K117 nin0).keep K126 (ninS (Ne.symm ne_b107_b_112) nin0)).ext E128).keep K140 nin0).keep K150 nin0).keep K164 (ninS ne_b_112_b128 nin0))
        have F217 : Arv Z T164.heap t_112 kb_112 .byte (Int32.ofNat (own_mk N_101 dd102 dd103).length) (((own_mk N_101 dd102 dd103).map (fun c => c.toInt8.toInt32)).map Value.int) (.int (0 : Int32)) := ((F154.keep K150 nin0).keep K164 (ninS ne_t_112_b128 nin0))
        have F218 : Exa Z T164.heap b_117 "java/lang/String" := ((F155.keep K150).keep K164)
        have F219 : Fld Z T164.heap b_117 "java/lang/String" "value" "[B" (.ref t_117) := (((((G117_2.keep K126 (ninS (Ne.symm ne_b107_b_117) nin0)).ext E128).keep K140 nin0).keep K150 nin0).keep K164 (ninS ne_b_117_b128 nin0))
        have F220 : Fld Z T164.heap b_117 "java/lang/String" "coder" "B" (.int (0 : Int32)) := (((((G117_3.keep K126 (ninS (Ne.symm ne_b107_b_117) nin0)).ext E128).keep K140 nin0).keep K150 nin0).keep K164 (ninS ne_b_117_b128 nin0))
        have F221 : Arv Z T164.heap t_117 kb_117 .byte (Int32.ofNat (own_mk N_104 dd105 dd106).length) (((own_mk N_104 dd105 dd106).map (fun c => c.toInt8.toInt32)).map Value.int) (.int (0 : Int32)) := ((F156.keep K150 nin0).keep K164 (ninS ne_t_117_b128 nin0))
        have F222 : Exa Z T164.heap b_140 "java/lang/String" := (F161.keep K164)
        have F223 : Fld Z T164.heap b_140 "java/lang/String" "value" "[B" (.ref t_140) := ((G140_2.keep K150 nin0).keep K164 (ninS (Ne.symm ne_b128_b_140) nin0))
        have F224 : Fld Z T164.heap b_140 "java/lang/String" "coder" "B" (.int (0 : Int32)) := ((G140_3.keep K150 nin0).keep K164 (ninS (Ne.symm ne_b128_b_140) nin0))
        have F225 : Arv Z T164.heap t_140 kb_140 .byte (Int32.ofNat (own_mk EA e0_ e1_).length) (((own_mk EA e0_ e1_).map (fun c => c.toInt8.toInt32)).map Value.int) (.int (0 : Int32)) := ((G140_4.keep K150 nin0).keep K164 (ninS nt147 nin0))
        have F226 : Exa Z T164.heap b_150 "java/lang/String" := (G150_1.keep K164)
        have F227 : Fld Z T164.heap b_150 "java/lang/String" "value" "[B" (.ref t_150) := (G150_2.keep K164 (ninS (Ne.symm ne_b128_b_150) nin0))
        have F228 : Fld Z T164.heap b_150 "java/lang/String" "coder" "B" (.int (0 : Int32)) := (G150_3.keep K164 (ninS (Ne.symm ne_b128_b_150) nin0))
        have F229 : Arv Z T164.heap t_150 kb_150 .byte (Int32.ofNat (own_mk UA u0_ u1_).length) (((own_mk UA u0_ u1_).map (fun c => c.toInt8.toInt32)).map Value.int) (.int (0 : Int32)) := (G150_4.keep K164 (ninS nt157 nin0))
        obtain ⟨cq230, kq230, q230a, q230b, q230c⟩ := isOf hZ e166 F210
        obtain ⟨_, _, ⟨T230, L230, k230, n230⟩, -, X230, ⟨Lc230, hQ230, l230, y230, z230⟩, st230⟩ := X166.virtualBack hx (y := (⟨"com/example/lorikeet/lorikeet/formats/TrecDocument", "equals", "(Ljava/lang/Object;)Z"⟩ : MethodName)) (z := (⟨"com/example/lorikeet/lorikeet/formats/TrecDocument", "equals", "(Ljava/lang/Object;)Z"⟩ : MethodName)) hown (mvT hZ (hw _ (List.mem_of_getElem? (i := 50) rfl))) (mvT hZ (hw _ (List.mem_of_getElem? (i := 51) rfl))) (notFace_of_selects (args := #[]) (mvT hZ (hw _ (List.mem_of_getElem? (i := 53) rfl)))) (mvT hZ (hw _ (List.mem_of_getElem? (i := 53) rfl))) (mvT hZ (hw _ (List.mem_of_getElem? (i := 52) rfl))) (by decide) (backOf (W := 0) (rm_teq l Z a0 hw [] b107 b128 G1 b_112 t_112 kb_112 (own_mk N_101 dd102 dd103) b_117 t_117 kb_117 (own_mk N_104 dd105 dd106) b_140 t_140 kb_140 (own_mk EA e0_ e1_) b_150 t_150 kb_150 (own_mk UA u0_ u1_) T164.heap n0 Od165 P0 hCS F210 F211 F212 F213 G164_0 G164_1 F214 F215 F216 F217 F218 F219 F220 F221 F222 F223 F224 F225 F226 F227 F228 F229 (own_mk_r G101_0 hr_dd102 hr_dd103) (by rw [own_mk_len G101_0]; exact G101_0) (own_mk_r G104_0 hr_dd105 hr_dd106) (by rw [own_mk_len G104_0]; exact G104_0) (own_mk_r hEA he0 he1) (by rw [own_mk_len hEA]; exact hEA) (own_mk_r hUA hu0 hu1) (by rw [own_mk_len hUA]; exact hUA)) hZ (hw _ (List.mem_of_getElem? (i := 54) rfl)) (hw _ (List.mem_of_getElem? (i := 6) rfl)) (by decide) (by decide)) q230a q230c (g := (mkF m 334 #[.val (.int x0), .val (.int x1), .val (.int x2), .val (.int x3), .val (.int x4), .val (.int (Int32.ofNat N_101)), .val (.int dd102), .val (.int dd103), .val (.int (Int32.ofNat N_104)), .val (.int dd105), .val (.int dd106), .val (.int (Int32.ofNat EA)), .val (.int e0_), .val (.int e1_), .val (.int (Int32.ofNat UA)), .val (.int u0_), .val (.int u1_), .val (.ref b107), .val (.int (x4 &&& (3 : Int32))), .val (.ref b128), .val (.int (0 : Int32))] [(.ref b128), (.ref b107)])) rfl (by rw [hml]; rfl) (Steps.refl _) (argsL := [(.ref b128)]) (rest := []) (lenOf pd_7 rfl) rfl (by show 2 * 0 + _ ≤ _; exact Nat.le_of_eq rfl) (hb hby at_334) (fun _ _ => ⟨rfl, e166, (by decide : 34 + 0 ≤ _), (by decide : 140 + 0 ≤ _)⟩)
        dsimp only [Pt.U, Pt.locs, Pt.cells, Pt.slots] at X230 l230 y230 z230 st230 hQ230
        subst l230 y230 z230
        obtain ⟨rfl, N230q, e230⟩ := hQ230
        have N230 := Fr.app N166 N230q
        refine GoH.by (T' := T230) (g' := (mkF m 337 #[.val (.int x0), .val (.int x1), .val (.int x2), .val (.int x3), .val (.int x4), .val (.int (Int32.ofNat N_101)), .val (.int dd102), .val (.int dd103), .val (.int (Int32.ofNat N_104)), .val (.int dd105), .val (.int dd106), .val (.int (Int32.ofNat EA)), .val (.int e0_), .val (.int e1_), .val (.int (Int32.ofNat UA)), .val (.int u0_), .val (.int u1_), .val (.ref b107), .val (.int (x4 &&& (3 : Int32))), .val (.ref b128), .val (.int (0 : Int32))] [(.int (if (own_mk N_101 dd102 dd103) = (own_mk EA e0_ e1_) ∧ (own_mk N_104 dd105 dd106) = (own_mk UA u0_ u1_) then 1 else 0))])) (fun t_ k_ => st230.trans k_) ?_
        refine GoH.by (T' := T230) (g' := (mkF m 339 #[.val (.int x0), .val (.int x1), .val (.int x2), .val (.int x3), .val (.int x4), .val (.int (Int32.ofNat N_101)), .val (.int dd102), .val (.int dd103), .val (.int (Int32.ofNat N_104)), .val (.int dd105), .val (.int dd106), .val (.int (Int32.ofNat EA)), .val (.int e0_), .val (.int e1_), .val (.int (Int32.ofNat UA)), .val (.int u0_), .val (.int u1_), .val (.ref b107), .val (.int (x4 &&& (3 : Int32))), .val (.ref b128), .val (.int (0 : Int32))] [(.int (0 : Int32)), (.int (if (own_mk N_101 dd102 dd103) = (own_mk EA e0_ e1_) ∧ (own_mk N_104 dd105 dd106) = (own_mk UA u0_ u1_) then 1 else 0))])) (fun t_ k_ => XS.iload X230.here hx rfl (hb hby at_337) rfl k_) ?_
        refine GoH.by (T' := T230) (g' := (mkF m 342 #[.val (.int x0), .val (.int x1), .val (.int x2), .val (.int x3), .val (.int x4), .val (.int (Int32.ofNat N_101)), .val (.int dd102), .val (.int dd103), .val (.int (Int32.ofNat N_104)), .val (.int dd105), .val (.int dd106), .val (.int (Int32.ofNat EA)), .val (.int e0_), .val (.int e1_), .val (.int (Int32.ofNat UA)), .val (.int u0_), .val (.int u1_), .val (.ref b107), .val (.int (x4 &&& (3 : Int32))), .val (.ref b128), .val (.int (0 : Int32))] [])) (fun t_ k_ => XS.icmpNo X230.here hx rfl (hb hby at_339) rfl (teq (if_neg (fun q => q1 q.1))).2 k_) ?_
        refine GoH.by (T' := T230) (g' := (mkF m 343 #[.val (.int x0), .val (.int x1), .val (.int x2), .val (.int x3), .val (.int x4), .val (.int (Int32.ofNat N_101)), .val (.int dd102), .val (.int dd103), .val (.int (Int32.ofNat N_104)), .val (.int dd105), .val (.int dd106), .val (.int (Int32.ofNat EA)), .val (.int e0_), .val (.int e1_), .val (.int (Int32.ofNat UA)), .val (.int u0_), .val (.int u1_), .val (.ref b107), .val (.int (x4 &&& (3 : Int32))), .val (.ref b128), .val (.int (0 : Int32))] [(.int (1 : Int32))])) (fun t_ k_ => XS.iconst X230.here hx rfl (hb hby at_342) k_) ?_
        refine GoH.by (T' := T230) (g' := (mkF m 347 #[.val (.int x0), .val (.int x1), .val (.int x2), .val (.int x3), .val (.int x4), .val (.int (Int32.ofNat N_101)), .val (.int dd102), .val (.int dd103), .val (.int (Int32.ofNat N_104)), .val (.int dd105), .val (.int dd106), .val (.int (Int32.ofNat EA)), .val (.int e0_), .val (.int e1_), .val (.int (Int32.ofNat UA)), .val (.int u0_), .val (.int u1_), .val (.ref b107), .val (.int (x4 &&& (3 : Int32))), .val (.ref b128), .val (.int (0 : Int32))] [(.int (1 : Int32))])) (fun t_ k_ => XS.goto X230.here hx rfl (pc0 := 343) (pc' := 347) rfl (hb hby at_343) (by decide) (by decide) k_) ?_
        refine GoH.fin hS X230 (by rw [e230]; exact (Nat.le_refl _)) (by rw [hh, e230]; exact CHr.trans hC164 (CHv.at (s := s) (vm0 := T164.vm) X230 hZ (own_EW hw) hC164.1)) (v := some (.int (nar .boolean (1 : Int32)))) (fun h => by rw [Bd.returns] at h; cases h) hlk (by decide) (by decide) ?_ (fun fs hr => retN X230 hx (t := .boolean) Bd.returns (by simp) (hb hby at_347) hr)
        show Q_law Z x0 x1 x2 x3 x4 G1 h0 n0 _ T230.heap _
        rw [e230]
        exact ⟨rfl, N230⟩
    · skip
      refine GoH.by (T' := T126) (g' := (mkF m 285 #[.val (.int x0), .val (.int x1), .val (.int x2), .val (.int x3), .val (.int x4), .val (.int (Int32.ofNat N_101)), .val (.int dd102), .val (.int dd103), .val (.int (Int32.ofNat N_104)), .val (.int dd105), .val (.int dd106), .val (.int (Int32.ofNat EA)), .val (.int e0_), .val (.int e1_), .val (.int (Int32.ofNat UA)), .val (.int u0_), .val (.int u1_), .val (.ref b107), .val (.int (x4 &&& (3 : Int32))), .unset, .unset] [])) (fun t_ k_ => XS.ifYes X126.here hx rfl (pc0 := 209) (pc' := 285) rfl (hb hby at_209) rfl ((if0 _ _).trans (feq hc127).2) (by decide) (by decide) k_) ?_
      refine GoH.by (T' := T126) (g' := (mkF m 287 #[.val (.int x0), .val (.int x1), .val (.int x2), .val (.int x3), .val (.int x4), .val (.int (Int32.ofNat N_101)), .val (.int dd102), .val (.int dd103), .val (.int (Int32.ofNat N_104)), .val (.int dd105), .val (.int dd106), .val (.int (Int32.ofNat EA)), .val (.int e0_), .val (.int e1_), .val (.int (Int32.ofNat UA)), .val (.int u0_), .val (.int u1_), .val (.ref b107), .val (.int (x4 &&& (3 : Int32))), .unset, .unset] [(.int (x4 &&& (3 : Int32)))])) (fun t_ k_ => XS.iload X126.here hx rfl (hb hby at_285) rfl k_) ?_
      refine GoH.by (T' := T126) (g' := (mkF m 288 #[.val (.int x0), .val (.int x1), .val (.int x2), .val (.int x3), .val (.int x4), .val (.int (Int32.ofNat N_101)), .val (.int dd102), .val (.int dd103), .val (.int (Int32.ofNat N_104)), .val (.int dd105), .val (.int dd106), .val (.int (Int32.ofNat EA)), .val (.int e0_), .val (.int e1_), .val (.int (Int32.ofNat UA)), .val (.int u0_), .val (.int u1_), .val (.ref b107), .val (.int (x4 &&& (3 : Int32))), .unset, .unset] [(.int (1 : Int32)), (.int (x4 &&& (3 : Int32)))])) (fun t_ k_ => XS.iconst X126.here hx rfl (hb hby at_287) k_) ?_
      by_cases hc231 : (x4 &&& (3 : Int32)) = (1 : Int32)
      · skip
        refine GoH.by (T' := T126) (g' := (mkF m 291 #[.val (.int x0), .val (.int x1), .val (.int x2), .val (.int x3), .val (.int x4), .val (.int (Int32.ofNat N_101)), .val (.int dd102), .val (.int dd103), .val (.int (Int32.ofNat N_104)), .val (.int dd105), .val (.int dd106), .val (.int (Int32.ofNat EA)), .val (.int e0_), .val (.int e1_), .val (.int (Int32.ofNat UA)), .val (.int u0_), .val (.int u1_), .val (.ref b107), .val (.int (x4 &&& (3 : Int32))), .unset, .unset] [])) (fun t_ k_ => XS.icmpNo X126.here hx rfl (hb hby at_288) rfl (teq hc231).2 k_) ?_
        refine GoH.by (T' := T126) (g' := (mkF m 292 #[.val (.int x0), .val (.int x1), .val (.int x2), .val (.int x3), .val (.int x4), .val (.int (Int32.ofNat N_101)), .val (.int dd102), .val (.int dd103), .val (.int (Int32.ofNat N_104)), .val (.int dd105), .val (.int dd106), .val (.int (Int32.ofNat EA)), .val (.int e0_), .val (.int e1_), .val (.int (Int32.ofNat UA)), .val (.int u0_), .val (.int u1_), .val (.ref b107), .val (.int (x4 &&& (3 : Int32))), .unset, .unset] [.null])) (fun t_ k_ => XS.aconstNull X126.here hx rfl (hb hby at_291) k_) ?_
        refine GoH.by (T' := T126) (g' := (mkF m 294 #[.val (.int x0), .val (.int x1), .val (.int x2), .val (.int x3), .val (.int x4), .val (.int (Int32.ofNat N_101)), .val (.int dd102), .val (.int dd103), .val (.int (Int32.ofNat N_104)), .val (.int dd105), .val (.int dd106), .val (.int (Int32.ofNat EA)), .val (.int e0_), .val (.int e1_), .val (.int (Int32.ofNat UA)), .val (.int u0_), .val (.int u1_), .val (.ref b107), .val (.int (x4 &&& (3 : Int32))), .val .null, .unset] [])) (fun t_ k_ => XS.astore X126.here hx rfl (hb hby at_292) rfl rfl (l' := #[.val (.int x0), .val (.int x1), .val (.int x2), .val (.int x3), .val (.int x4), .val (.int (Int32.ofNat N_101)), .val (.int dd102), .val (.int dd103), .val (.int (Int32.ofNat N_104)), .val (.int dd105), .val (.int dd106), .val (.int (Int32.ofNat EA)), .val (.int e0_), .val (.int e1_), .val (.int (Int32.ofNat UA)), .val (.int u0_), .val (.int u1_), .val (.ref b107), .val (.int (x4 &&& (3 : Int32))), .val .null, .unset]) rfl k_) ?_
        refine GoH.by (T' := T126) (g' := (mkF m 295 #[.val (.int x0), .val (.int x1), .val (.int x2), .val (.int x3), .val (.int x4), .val (.int (Int32.ofNat N_101)), .val (.int dd102), .val (.int dd103), .val (.int (Int32.ofNat N_104)), .val (.int dd105), .val (.int dd106), .val (.int (Int32.ofNat EA)), .val (.int e0_), .val (.int e1_), .val (.int (Int32.ofNat UA)), .val (.int u0_), .val (.int u1_), .val (.ref b107), .val (.int (x4 &&& (3 : Int32))), .val .null, .unset] [(.int (0 : Int32))])) (fun t_ k_ => XS.iconst X126.here hx rfl (hb hby at_294) k_) ?_
        refine GoH.by (T' := T126) (g' := (mkF m 297 #[.val (.int x0), .val (.int x1), .val (.int x2), .val (.int x3), .val (.int x4), .val (.int (Int32.ofNat N_101)), .val (.int dd102), .val (.int dd103), .val (.int (Int32.ofNat N_104)), .val (.int dd105), .val (.int dd106), .val (.int (Int32.ofNat EA)), .val (.int e0_), .val (.int e1_), .val (.int (Int32.ofNat UA)), .val (.int u0_), .val (.int u1_), .val (.ref b107), .val (.int (x4 &&& (3 : Int32))), .val .null, .val (.int (0 : Int32))] [])) (fun t_ k_ => XS.istore X126.here hx rfl (hb hby at_295) rfl (l' := #[.val (.int x0), .val (.int x1), .val (.int x2), .val (.int x3), .val (.int x4), .val (.int (Int32.ofNat N_101)), .val (.int dd102), .val (.int dd103), .val (.int (Int32.ofNat N_104)), .val (.int dd105), .val (.int dd106), .val (.int (Int32.ofNat EA)), .val (.int e0_), .val (.int e1_), .val (.int (Int32.ofNat UA)), .val (.int u0_), .val (.int u1_), .val (.ref b107), .val (.int (x4 &&& (3 : Int32))), .val .null, .val (.int (0 : Int32))]) rfl k_) ?_
        refine GoH.by (T' := T126) (g' := (mkF m 330 #[.val (.int x0), .val (.int x1), .val (.int x2), .val (.int x3), .val (.int x4), .val (.int (Int32.ofNat N_101)), .val (.int dd102), .val (.int dd103), .val (.int (Int32.ofNat N_104)), .val (.int dd105), .val (.int dd106), .val (.int (Int32.ofNat EA)), .val (.int e0_), .val (.int e1_), .val (.int (Int32.ofNat UA)), .val (.int u0_), .val (.int u1_), .val (.ref b107), .val (.int (x4 &&& (3 : Int32))), .val .null, .val (.int (0 : Int32))] [])) (fun t_ k_ => XS.goto X126.here hx rfl (pc0 := 297) (pc' := 330) rfl (hb hby at_297) (by decide) (by decide) k_) ?_
        refine GoH.by (T' := T126) (g' := (mkF m 332 #[.val (.int x0), .val (.int x1), .val (.int x2), .val (.int x3), .val (.int x4), .val (.int (Int32.ofNat N_101)), .val (.int dd102), .val (.int dd103), .val (.int (Int32.ofNat N_104)), .val (.int dd105), .val (.int dd106), .val (.int (Int32.ofNat EA)), .val (.int e0_), .val (.int e1_), .val (.int (Int32.ofNat UA)), .val (.int u0_), .val (.int u1_), .val (.ref b107), .val (.int (x4 &&& (3 : Int32))), .val .null, .val (.int (0 : Int32))] [(.ref b107)])) (fun t_ k_ => XS.aload X126.here hx rfl (hb hby at_330) rfl rfl k_) ?_
        refine GoH.by (T' := T126) (g' := (mkF m 334 #[.val (.int x0), .val (.int x1), .val (.int x2), .val (.int x3), .val (.int x4), .val (.int (Int32.ofNat N_101)), .val (.int dd102), .val (.int dd103), .val (.int (Int32.ofNat N_104)), .val (.int dd105), .val (.int dd106), .val (.int (Int32.ofNat EA)), .val (.int e0_), .val (.int e1_), .val (.int (Int32.ofNat UA)), .val (.int u0_), .val (.int u1_), .val (.ref b107), .val (.int (x4 &&& (3 : Int32))), .val .null, .val (.int (0 : Int32))] [.null, (.ref b107)])) (fun t_ k_ => XS.aload X126.here hx rfl (hb hby at_332) rfl rfl k_) ?_
        have Od232 : Old Z n0 T126.heap := (Od124.keep K126 (allS ge_b107 all0))
        have F234 : Exa Z T126.heap b107 "com/example/lorikeet/lorikeet/formats/TrecDocument" := (F120.keep K126)
        obtain ⟨cq233, kq233, q233a, q233b, q233c⟩ := isOf hZ rfl F234
        obtain ⟨_, _, ⟨T233, L233, k233, n233⟩, -, X233, ⟨Lc233, hQ233, l233, y233, z233⟩, st233⟩ := X126.virtualBack hx (y := (⟨"com/example/lorikeet/lorikeet/formats/TrecDocument", "equals", "(Ljava/lang/Object;)Z"⟩ : MethodName)) (z := (⟨"com/example/lorikeet/lorikeet/formats/TrecDocument", "equals", "(Ljava/lang/Object;)Z"⟩ : MethodName)) hown (mvT hZ (hw _ (List.mem_of_getElem? (i := 50) rfl))) (mvT hZ (hw _ (List.mem_of_getElem? (i := 51) rfl))) (notFace_of_selects (args := #[]) (mvT hZ (hw _ (List.mem_of_getElem? (i := 53) rfl)))) (mvT hZ (hw _ (List.mem_of_getElem? (i := 53) rfl))) (mvT hZ (hw _ (List.mem_of_getElem? (i := 52) rfl))) (by decide) (backOf (W := 0) (rm_tnull l Z a0 hw [] b107 T126.heap n0 Od232 ) hZ (hw _ (List.mem_of_getElem? (i := 54) rfl)) (hw _ (List.mem_of_getElem? (i := 6) rfl)) (by decide) (by decide)) q233a q233c (g := (mkF m 334 #[.val (.int x0), .val (.int x1), .val (.int x2), .val (.int x3), .val (.int x4), .val (.int (Int32.ofNat N_101)), .val (.int dd102), .val (.int dd103), .val (.int (Int32.ofNat N_104)), .val (.int dd105), .val (.int dd106), .val (.int (Int32.ofNat EA)), .val (.int e0_), .val (.int e1_), .val (.int (Int32.ofNat UA)), .val (.int u0_), .val (.int u1_), .val (.ref b107), .val (.int (x4 &&& (3 : Int32))), .val .null, .val (.int (0 : Int32))] [.null, (.ref b107)])) rfl (by rw [hml]; rfl) (Steps.refl _) (argsL := [.null]) (rest := []) (lenOf pd_7 rfl) rfl (by show 2 * 0 + _ ≤ _; exact Nat.le_of_eq rfl) (hb hby at_334) (fun _ _ => ⟨rfl, rfl, (by decide : 17 + 0 ≤ _), (by decide : 70 + 0 ≤ _)⟩)
        dsimp only [Pt.U, Pt.locs, Pt.cells, Pt.slots] at X233 l233 y233 z233 st233 hQ233
        subst l233 y233 z233
        obtain ⟨rfl, N233q, e233⟩ := hQ233
        have N233 := Fr.app N126 N233q
        refine GoH.by (T' := T233) (g' := (mkF m 337 #[.val (.int x0), .val (.int x1), .val (.int x2), .val (.int x3), .val (.int x4), .val (.int (Int32.ofNat N_101)), .val (.int dd102), .val (.int dd103), .val (.int (Int32.ofNat N_104)), .val (.int dd105), .val (.int dd106), .val (.int (Int32.ofNat EA)), .val (.int e0_), .val (.int e1_), .val (.int (Int32.ofNat UA)), .val (.int u0_), .val (.int u1_), .val (.ref b107), .val (.int (x4 &&& (3 : Int32))), .val .null, .val (.int (0 : Int32))] [(.int 0)])) (fun t_ k_ => st233.trans k_) ?_
        refine GoH.by (T' := T233) (g' := (mkF m 339 #[.val (.int x0), .val (.int x1), .val (.int x2), .val (.int x3), .val (.int x4), .val (.int (Int32.ofNat N_101)), .val (.int dd102), .val (.int dd103), .val (.int (Int32.ofNat N_104)), .val (.int dd105), .val (.int dd106), .val (.int (Int32.ofNat EA)), .val (.int e0_), .val (.int e1_), .val (.int (Int32.ofNat UA)), .val (.int u0_), .val (.int u1_), .val (.ref b107), .val (.int (x4 &&& (3 : Int32))), .val .null, .val (.int (0 : Int32))] [(.int (0 : Int32)), (.int 0)])) (fun t_ k_ => XS.iload X233.here hx rfl (hb hby at_337) rfl k_) ?_
        refine GoH.by (T' := T233) (g' := (mkF m 342 #[.val (.int x0), .val (.int x1), .val (.int x2), .val (.int x3), .val (.int x4), .val (.int (Int32.ofNat N_101)), .val (.int dd102), .val (.int dd103), .val (.int (Int32.ofNat N_104)), .val (.int dd105), .val (.int dd106), .val (.int (Int32.ofNat EA)), .val (.int e0_), .val (.int e1_), .val (.int (Int32.ofNat UA)), .val (.int u0_), .val (.int u1_), .val (.ref b107), .val (.int (x4 &&& (3 : Int32))), .val .null, .val (.int (0 : Int32))] [])) (fun t_ k_ => XS.icmpNo X233.here hx rfl (hb hby at_339) rfl (teq rfl).2 k_) ?_
        refine GoH.by (T' := T233) (g' := (mkF m 343 #[.val (.int x0), .val (.int x1), .val (.int x2), .val (.int x3), .val (.int x4), .val (.int (Int32.ofNat N_101)), .val (.int dd102), .val (.int dd103), .val (.int (Int32.ofNat N_104)), .val (.int dd105), .val (.int dd106), .val (.int (Int32.ofNat EA)), .val (.int e0_), .val (.int e1_), .val (.int (Int32.ofNat UA)), .val (.int u0_), .val (.int u1_), .val (.ref b107), .val (.int (x4 &&& (3 : Int32))), .val .null, .val (.int (0 : Int32))] [(.int (1 : Int32))])) (fun t_ k_ => XS.iconst X233.here hx rfl (hb hby at_342) k_) ?_
        refine GoH.by (T' := T233) (g' := (mkF m 347 #[.val (.int x0), .val (.int x1), .val (.int x2), .val (.int x3), .val (.int x4), .val (.int (Int32.ofNat N_101)), .val (.int dd102), .val (.int dd103), .val (.int (Int32.ofNat N_104)), .val (.int dd105), .val (.int dd106), .val (.int (Int32.ofNat EA)), .val (.int e0_), .val (.int e1_), .val (.int (Int32.ofNat UA)), .val (.int u0_), .val (.int u1_), .val (.ref b107), .val (.int (x4 &&& (3 : Int32))), .val .null, .val (.int (0 : Int32))] [(.int (1 : Int32))])) (fun t_ k_ => XS.goto X233.here hx rfl (pc0 := 343) (pc' := 347) rfl (hb hby at_343) (by decide) (by decide) k_) ?_
        refine GoH.fin hS X233 (by rw [e233]; exact (Nat.le_refl _)) (by rw [hh, e233]; exact CHr.trans hC126 (CHv.at (s := s) (vm0 := T126.vm) X233 hZ (own_EW hw) hC126.1)) (v := some (.int (nar .boolean (1 : Int32)))) (fun h => by rw [Bd.returns] at h; cases h) hlk (by decide) (by decide) ?_ (fun fs hr => retN X233 hx (t := .boolean) Bd.returns (by simp) (hb hby at_347) hr)
        show Q_law Z x0 x1 x2 x3 x4 G1 h0 n0 _ T233.heap _
        rw [e233]
        exact ⟨rfl, N233⟩
      · skip
        refine GoH.by (T' := T126) (g' := (mkF m 300 #[.val (.int x0), .val (.int x1), .val (.int x2), .val (.int x3), .val (.int x4), .val (.int (Int32.ofNat N_101)), .val (.int dd102), .val (.int dd103), .val (.int (Int32.ofNat N_104)), .val (.int dd105), .val (.int dd106), .val (.int (Int32.ofNat EA)), .val (.int e0_), .val (.int e1_), .val (.int (Int32.ofNat UA)), .val (.int u0_), .val (.int u1_), .val (.ref b107), .val (.int (x4 &&& (3 : Int32))), .unset, .unset] [])) (fun t_ k_ => XS.icmpYes X126.here hx rfl (pc0 := 288) (pc' := 300) rfl (hb hby at_288) rfl (feq hc231).2 (by decide) (by decide) k_) ?_
        refine GoH.by (T' := T126) (g' := (mkF m 302 #[.val (.int x0), .val (.int x1), .val (.int x2), .val (.int x3), .val (.int x4), .val (.int (Int32.ofNat N_101)), .val (.int dd102), .val (.int dd103), .val (.int (Int32.ofNat N_104)), .val (.int dd105), .val (.int dd106), .val (.int (Int32.ofNat EA)), .val (.int e0_), .val (.int e1_), .val (.int (Int32.ofNat UA)), .val (.int u0_), .val (.int u1_), .val (.ref b107), .val (.int (x4 &&& (3 : Int32))), .unset, .unset] [(.int (x4 &&& (3 : Int32)))])) (fun t_ k_ => XS.iload X126.here hx rfl (hb hby at_300) rfl k_) ?_
        refine GoH.by (T' := T126) (g' := (mkF m 303 #[.val (.int x0), .val (.int x1), .val (.int x2), .val (.int x3), .val (.int x4), .val (.int (Int32.ofNat N_101)), .val (.int dd102), .val (.int dd103), .val (.int (Int32.ofNat N_104)), .val (.int dd105), .val (.int dd106), .val (.int (Int32.ofNat EA)), .val (.int e0_), .val (.int e1_), .val (.int (Int32.ofNat UA)), .val (.int u0_), .val (.int u1_), .val (.ref b107), .val (.int (x4 &&& (3 : Int32))), .unset, .unset] [(.int (2 : Int32)), (.int (x4 &&& (3 : Int32)))])) (fun t_ k_ => XS.iconst X126.here hx rfl (hb hby at_302) k_) ?_
        by_cases hc235 : (x4 &&& (3 : Int32)) = (2 : Int32)
        · skip
          refine GoH.by (T' := T126) (g' := (mkF m 306 #[.val (.int x0), .val (.int x1), .val (.int x2), .val (.int x3), .val (.int x4), .val (.int (Int32.ofNat N_101)), .val (.int dd102), .val (.int dd103), .val (.int (Int32.ofNat N_104)), .val (.int dd105), .val (.int dd106), .val (.int (Int32.ofNat EA)), .val (.int e0_), .val (.int e1_), .val (.int (Int32.ofNat UA)), .val (.int u0_), .val (.int u1_), .val (.ref b107), .val (.int (x4 &&& (3 : Int32))), .unset, .unset] [])) (fun t_ k_ => XS.icmpNo X126.here hx rfl (hb hby at_303) rfl (teq hc235).2 k_) ?_
          refine GoH.by (T' := T126) (g' := (mkF m 308 #[.val (.int x0), .val (.int x1), .val (.int x2), .val (.int x3), .val (.int x4), .val (.int (Int32.ofNat N_101)), .val (.int dd102), .val (.int dd103), .val (.int (Int32.ofNat N_104)), .val (.int dd105), .val (.int dd106), .val (.int (Int32.ofNat EA)), .val (.int e0_), .val (.int e1_), .val (.int (Int32.ofNat UA)), .val (.int u0_), .val (.int u1_), .val (.ref b107), .val (.int (x4 &&& (3 : Int32))), .unset, .unset] [(.int (Int32.ofNat N_101))])) (fun t_ k_ => XS.iload X126.here hx rfl (hb hby at_306) rfl k_) ?_
          refine GoH.by (T' := T126) (g' := (mkF m 310 #[.val (.int x0), .val (.int x1), .val (.int x2), .val (.int x3), .val (.int x4), .val (.int (Int32.ofNat N_101)), .val (.int dd102), .val (.int dd103), .val (.int (Int32.ofNat N_104)), .val (.int dd105), .val (.int dd106), .val (.int (Int32.ofNat EA)), .val (.int e0_), .val (.int e1_), .val (.int (Int32.ofNat UA)), .val (.int u0_), .val (.int u1_), .val (.ref b107), .val (.int (x4 &&& (3 : Int32))), .unset, .unset] [(.int dd102), (.int (Int32.ofNat N_101))])) (fun t_ k_ => XS.iload X126.here hx rfl (hb hby at_308) rfl k_) ?_
          refine GoH.by (T' := T126) (g' := (mkF m 312 #[.val (.int x0), .val (.int x1), .val (.int x2), .val (.int x3), .val (.int x4), .val (.int (Int32.ofNat N_101)), .val (.int dd102), .val (.int dd103), .val (.int (Int32.ofNat N_104)), .val (.int dd105), .val (.int dd106), .val (.int (Int32.ofNat EA)), .val (.int e0_), .val (.int e1_), .val (.int (Int32.ofNat UA)), .val (.int u0_), .val (.int u1_), .val (.ref b107), .val (.int (x4 &&& (3 : Int32))), .unset, .unset] [(.int dd103), (.int dd102), (.int (Int32.ofNat N_101))])) (fun t_ k_ => XS.iload X126.here hx rfl (hb hby at_310) rfl k_) ?_
          have Od236 : Old Z n0 T126.heap := (Od124.keep K126 (allS ge_b107 all0))
          obtain ⟨_, _, ⟨T237, L237, k237, n237⟩, -, X237, hS237, gr237, ⟨Lc237, hQ237, l237, y237, z237, hCc237⟩, st237⟩ := callSS X126 hx (y := (⟨"com/example/lorikeet/lorikeet/formats/TrecDocumentEqualsPinLaw", "mk", "(III)Ljava/lang/String;"⟩ : MethodName)) hown (mvT hZ (hw _ (List.mem_of_getElem? (i := 7) rfl))) (mvT hZ (hw _ (List.mem_of_getElem? (i := 8) rfl))) (mvT hZ (hw _ (List.mem_of_getElem? (i := 2) rfl))) (mvT hZ (hw _ (List.mem_of_getElem? (i := 9) rfl))) (by decide) (backOfSH (s := s) (vm0 := T126.vm) (W := 0) (rm_mk l Z a0 hw [] N_101 dd102 dd103 G1 T126.heap n0 Od236 P0 hCS G101_0 hr_dd102 hr_dd103) hZ (hw _ (List.mem_of_getElem? (i := 9) rfl)) (hw _ (List.mem_of_getElem? (i := 2) rfl)) (by decide) (by decide) (own_EW hw) hC126.1) (g := (mkF m 312 #[.val (.int x0), .val (.int x1), .val (.int x2), .val (.int x3), .val (.int x4), .val (.int (Int32.ofNat N_101)), .val (.int dd102), .val (.int dd103), .val (.int (Int32.ofNat N_104)), .val (.int dd105), .val (.int dd106), .val (.int (Int32.ofNat EA)), .val (.int e0_), .val (.int e1_), .val (.int (Int32.ofNat UA)), .val (.int u0_), .val (.int u1_), .val (.ref b107), .val (.int (x4 &&& (3 : Int32))), .unset, .unset] [(.int dd103), (.int dd102), (.int (Int32.ofNat N_101))])) rfl (by rw [hml]; rfl) (argsL := [(.int (Int32.ofNat N_101)), (.int dd102), (.int dd103)]) (rest := []) (lenOf pd_9 rfl) rfl (by show 2 * 0 + _ ≤ _; exact Nat.le_of_eq rfl) (hb hby at_312) (fun _ _ => ⟨rfl, rfl, (by decide : 17 + 6 ≤ _), (by decide : 70 + 12 ≤ _)⟩)
          dsimp only [Pt.U, Pt.locs, Pt.cells, Pt.slots] at X237 hS237 gr237 hCc237 l237 y237 z237 st237 hQ237
          subst l237 y237 z237
          obtain ⟨X237, hS, hZ, hown⟩ := rebS hS (Nat.le_refl _) X237 hS237 gr237 hZ hown
          obtain ⟨b_237, t_237, kb_237, rfl, N237q, K237, G237_0, G237_1, G237_2, G237_3, G237_4⟩ := hQ237
          have N237 := Fr.app N126 N237q
          have ge_b_237 : n0 ≤ b_237 := Nat.le_trans Od236.sz G237_0
          have Kp238 : Keep h0 T126.heap [] := (Kp125.trans K126 (allS (Or.inr sz_b107) all0))
          have sz_b_237 : h0.size ≤ b_237 := Nat.le_trans Kp238.1 G237_0
          have F239 : Exa Z T126.heap b107 "com/example/lorikeet/lorikeet/formats/TrecDocument" := (F120.keep K126)
          have ne_b107_b_237 : ¬ (b107 = b_237) := Nat.ne_of_lt (Nat.lt_of_lt_of_le F239.lt G237_0)
          have F240 : Exa Z T126.heap b_112 "java/lang/String" := (F123.keep K126)
          have ne_b_112_b_237 : ¬ (b_112 = b_237) := Nat.ne_of_lt (Nat.lt_of_lt_of_le F240.lt G237_0)
          have F241 : Arv Z T126.heap t_112 kb_112 .byte (Int32.ofNat (own_mk N_101 dd102 dd103).length) (((own_mk N_101 dd102 dd103).map (fun c => c.toInt8.toInt32)).map Value.int) (.int (0 : Int32)) := ((G112_4.keep K117 nin0).keep K126 (ninS nt114 nin0))
          have ne_t_112_b_237 : ¬ (t_112 = b_237) := Nat.ne_of_lt (Nat.lt_of_lt_of_le F241.lt G237_0)
          have F242 : Exa Z T126.heap b_117 "java/lang/String" := (G117_1.keep K126)
          have ne_b_117_b_237 : ¬ (b_117 = b_237) := Nat.ne_of_lt (Nat.lt_of_lt_of_le F242.lt G237_0)
          have F243 : Arv Z T126.heap t_117 kb_117 .byte (Int32.ofNat (own_mk N_104 dd105 dd106).length) (((own_mk N_104 dd105 dd106).map (fun c => c.toInt8.toInt32)).map Value.int) (.int (0 : Int32)) := (G117_4.keep K126 (ninS nt119 nin0))
          have ne_t_117_b_237 : ¬ (t_117 = b_237) := Nat.ne_of_lt (Nat.lt_of_lt_of_le F243.lt G237_0)
          have hC237 := CHr.trans hC126 hCc237
          refine GoH.by (T' := T237) (g' := (mkF m 315 #[.val (.int x0), .val (.int x1), .val (.int x2), .val (.int x3), .val (.int x4), .val (.int (Int32.ofNat N_101)), .val (.int dd102), .val (.int dd103), .val (.int (Int32.ofNat N_104)), .val (.int dd105), .val (.int dd106), .val (.int (Int32.ofNat EA)), .val (.int e0_), .val (.int e1_), .val (.int (Int32.ofNat UA)), .val (.int u0_), .val (.int u1_), .val (.ref b107), .val (.int (x4 &&& (3 : Int32))), .unset, .unset] [(.ref b_237)])) (fun t_ k_ => st237.trans k_) ?_
          refine GoH.by (T' := T237) (g' := (mkF m 317 #[.val (.int x0), .val (.int x1), .val (.int x2), .val (.int x3), .val (.int x4), .val (.int (Int32.ofNat N_101)), .val (.int dd102), .val (.int dd103), .val (.int (Int32.ofNat N_104)), .val (.int dd105), .val (.int dd106), .val (.int (Int32.ofNat EA)), .val (.int e0_), .val (.int e1_), .val (.int (Int32.ofNat UA)), .val (.int u0_), .val (.int u1_), .val (.ref b107), .val (.int (x4 &&& (3 : Int32))), .val (.ref b_237), .unset] [])) (fun t_ k_ => XS.astore X237.here hx rfl (hb hby at_315) rfl rfl (l' := #[.val (.int x0), .val (.int x1), .val (.int x2), .val (.int x3), .val (.int x4), .val (.int (Int32.ofNat N_101)), .val (.int dd102), .val (.int dd103), .val (.int (Int32.ofNat N_104)), .val (.int dd105), .val (.int dd106), .val (.int (Int32.ofNat EA)), .val (.int e0_), .val (.int e1_), .val (.int (Int32.ofNat UA)), .val (.int u0_), .val (.int u1_), .val (.ref b107), .val (.int (x4 &&& (3 : Int32))), .val (.ref b_237), .unset]) rfl k_) ?_
          refine GoH.by (T' := T237) (g' := (mkF m 318 #[.val (.int x0), .val (.int x1), .val (.int x2), .val (.int x3), .val (.int x4), .val (.int (Int32.ofNat N_101)), .val (.int dd102), .val (.int dd103), .val (.int (Int32.ofNat N_104)), .val (.int dd105), .val (.int dd106), .val (.int (Int32.ofNat EA)), .val (.int e0_), .val (.int e1_), .val (.int (Int32.ofNat UA)), .val (.int u0_), .val (.int u1_), .val (.ref b107), .val (.int (x4 &&& (3 : Int32))), .val (.ref b_237), .unset] [(.int (0 : Int32))])) (fun t_ k_ => XS.iconst X237.here hx rfl (hb hby at_317) k_) ?_
          refine GoH.by (T' := T237) (g' := (mkF m 320 #[.val (.int x0), .val (.int x1), .val (.int x2), .val (.int x3), .val (.int x4), .val (.int (Int32.ofNat N_101)), .val (.int dd102), .val (.int dd103), .val (.int (Int32.ofNat N_104)), .val (.int dd105), .val (.int dd106), .val (.int (Int32.ofNat EA)), .val (.int e0_), .val (.int e1_), .val (.int (Int32.ofNat UA)), .val (.int u0_), .val (.int u1_), .val (.ref b107), .val (.int (x4 &&& (3 : Int32))), .val (.ref b_237), .val (.int (0 : Int32))] [])) (fun t_ k_ => XS.istore X237.here hx rfl (hb hby at_318) rfl (l' := #[.val (.int x0), .val (.int x1), .val (.int x2), .val (.int x3), .val (.int x4), .val (.int (Int32.ofNat N_101)), .val (.int dd102), .val (.int dd103), .val (.int (Int32.ofNat N_104)), .val (.int dd105), .val (.int dd106), .val (.int (Int32.ofNat EA)), .val (.int e0_), .val (.int e1_), .val (.int (Int32.ofNat UA)), .val (.int u0_), .val (.int u1_), .val (.ref b107), .val (.int (x4 &&& (3 : Int32))), .val (.ref b_237), .val (.int (0 : Int32))]) rfl k_) ?_
          refine GoH.by (T' := T237) (g' := (mkF m 330 #[.val (.int x0), .val (.int x1), .val (.int x2), .val (.int x3), .val (.int x4), .val (.int (Int32.ofNat N_101)), .val (.int dd102), .val (.int dd103), .val (.int (Int32.ofNat N_104)), .val (.int dd105), .val (.int dd106), .val (.int (Int32.ofNat EA)), .val (.int e0_), .val (.int e1_), .val (.int (Int32.ofNat UA)), .val (.int u0_), .val (.int u1_), .val (.ref b107), .val (.int (x4 &&& (3 : Int32))), .val (.ref b_237), .val (.int (0 : Int32))] [])) (fun t_ k_ => XS.goto X237.here hx rfl (pc0 := 320) (pc' := 330) rfl (hb hby at_320) (by decide) (by decide) k_) ?_
          refine GoH.by (T' := T237) (g' := (mkF m 332 #[.val (.int x0), .val (.int x1), .val (.int x2), .val (.int x3), .val (.int x4), .val (.int (Int32.ofNat N_101)), .val (.int dd102), .val (.int dd103), .val (.int (Int32.ofNat N_104)), .val (.int dd105), .val (.int dd106), .val (.int (Int32.ofNat EA)), .val (.int e0_), .val (.int e1_), .val (.int (Int32.ofNat UA)), .val (.int u0_), .val (.int u1_), .val (.ref b107), .val (.int (x4 &&& (3 : Int32))), .val (.ref b_237), .val (.int (0 : Int32))] [(.ref b107)])) (fun t_ k_ => XS.aload X237.here hx rfl (hb hby at_330) rfl rfl k_) ?_
          refine GoH.by (T' := T237) (g' := (mkF m 334 #[.val (.int x0), .val (.int x1), .val (.int x2), .val (.int x3), .val (.int x4), .val (.int (Int32.ofNat N_101)), .val (.int dd102), .val (.int dd103), .val (.int (Int32.ofNat N_104)), .val (.int dd105), .val (.int dd106), .val (.int (Int32.ofNat EA)), .val (.int e0_), .val (.int e1_), .val (.int (Int32.ofNat UA)), .val (.int u0_), .val (.int u1_), .val (.ref b107), .val (.int (x4 &&& (3 : Int32))), .val (.ref b_237), .val (.int (0 : Int32))] [(.ref b_237), (.ref b107)])) (fun t_ k_ => XS.aload X237.here hx rfl (hb hby at_332) rfl rfl k_) ?_
          have Od244 : Old Z n0 T237.heap := (Od236.keep K237 all0)
          have F246 : Exa Z T237.heap b107 "com/example/lorikeet/lorikeet/formats/TrecDocument" := (F239.keep K237)
          obtain ⟨cq245, kq245, q245a, q245b, q245c⟩ := isOf hZ rfl F246
          obtain ⟨_, _, ⟨T245, L245, k245, n245⟩, -, X245, ⟨Lc245, hQ245, l245, y245, z245⟩, st245⟩ := X237.virtualBack hx (y := (⟨"com/example/lorikeet/lorikeet/formats/TrecDocument", "equals", "(Ljava/lang/Object;)Z"⟩ : MethodName)) (z := (⟨"com/example/lorikeet/lorikeet/formats/TrecDocument", "equals", "(Ljava/lang/Object;)Z"⟩ : MethodName)) hown (mvT hZ (hw _ (List.mem_of_getElem? (i := 50) rfl))) (mvT hZ (hw _ (List.mem_of_getElem? (i := 51) rfl))) (notFace_of_selects (args := #[]) (mvT hZ (hw _ (List.mem_of_getElem? (i := 53) rfl)))) (mvT hZ (hw _ (List.mem_of_getElem? (i := 53) rfl))) (mvT hZ (hw _ (List.mem_of_getElem? (i := 52) rfl))) (by decide) (backOf (W := 0) (rm_tstr l Z a0 hw [] b107 b_237 T237.heap n0 Od244 G237_1) hZ (hw _ (List.mem_of_getElem? (i := 54) rfl)) (hw _ (List.mem_of_getElem? (i := 6) rfl)) (by decide) (by decide)) q245a q245c (g := (mkF m 334 #[.val (.int x0), .val (.int x1), .val (.int x2), .val (.int x3), .val (.int x4), .val (.int (Int32.ofNat N_101)), .val (.int dd102), .val (.int dd103), .val (.int (Int32.ofNat N_104)), .val (.int dd105), .val (.int dd106), .val (.int (Int32.ofNat EA)), .val (.int e0_), .val (.int e1_), .val (.int (Int32.ofNat UA)), .val (.int u0_), .val (.int u1_), .val (.ref b107), .val (.int (x4 &&& (3 : Int32))), .val (.ref b_237), .val (.int (0 : Int32))] [(.ref b_237), (.ref b107)])) rfl (by rw [hml]; rfl) (Steps.refl _) (argsL := [(.ref b_237)]) (rest := []) (lenOf pd_7 rfl) rfl (by show 2 * 0 + _ ≤ _; exact Nat.le_of_eq rfl) (hb hby at_334) (fun _ _ => ⟨rfl, rfl, (by decide : 23 + 0 ≤ _), (by decide : 82 + 0 ≤ _)⟩)
          dsimp only [Pt.U, Pt.locs, Pt.cells, Pt.slots] at X245 l245 y245 z245 st245 hQ245
          subst l245 y245 z245
          obtain ⟨rfl, N245q, e245⟩ := hQ245
          have N245 := Fr.app N237 N245q
          refine GoH.by (T' := T245) (g' := (mkF m 337 #[.val (.int x0), .val (.int x1), .val (.int x2), .val (.int x3), .val (.int x4), .val (.int (Int32.ofNat N_101)), .val (.int dd102), .val (.int dd103), .val (.int (Int32.ofNat N_104)), .val (.int dd105), .val (.int dd106), .val (.int (Int32.ofNat EA)), .val (.int e0_), .val (.int e1_), .val (.int (Int32.ofNat UA)), .val (.int u0_), .val (.int u1_), .val (.ref b107), .val (.int (x4 &&& (3 : Int32))), .val (.ref b_237), .val (.int (0 : Int32))] [(.int 0)])) (fun t_ k_ => st245.trans k_) ?_
          refine GoH.by (T' := T245) (g' := (mkF m 339 #[.val (.int x0), .val (.int x1), .val (.int x2), .val (.int x3), .val (.int x4), .val (.int (Int32.ofNat N_101)), .val (.int dd102), .val (.int dd103), .val (.int (Int32.ofNat N_104)), .val (.int dd105), .val (.int dd106), .val (.int (Int32.ofNat EA)), .val (.int e0_), .val (.int e1_), .val (.int (Int32.ofNat UA)), .val (.int u0_), .val (.int u1_), .val (.ref b107), .val (.int (x4 &&& (3 : Int32))), .val (.ref b_237), .val (.int (0 : Int32))] [(.int (0 : Int32)), (.int 0)])) (fun t_ k_ => XS.iload X245.here hx rfl (hb hby at_337) rfl k_) ?_
          refine GoH.by (T' := T245) (g' := (mkF m 342 #[.val (.int x0), .val (.int x1), .val (.int x2), .val (.int x3), .val (.int x4), .val (.int (Int32.ofNat N_101)), .val (.int dd102), .val (.int dd103), .val (.int (Int32.ofNat N_104)), .val (.int dd105), .val (.int dd106), .val (.int (Int32.ofNat EA)), .val (.int e0_), .val (.int e1_), .val (.int (Int32.ofNat UA)), .val (.int u0_), .val (.int u1_), .val (.ref b107), .val (.int (x4 &&& (3 : Int32))), .val (.ref b_237), .val (.int (0 : Int32))] [])) (fun t_ k_ => XS.icmpNo X245.here hx rfl (hb hby at_339) rfl (teq rfl).2 k_) ?_
          refine GoH.by (T' := T245) (g' := (mkF m 343 #[.val (.int x0), .val (.int x1), .val (.int x2), .val (.int x3), .val (.int x4), .val (.int (Int32.ofNat N_101)), .val (.int dd102), .val (.int dd103), .val (.int (Int32.ofNat N_104)), .val (.int dd105), .val (.int dd106), .val (.int (Int32.ofNat EA)), .val (.int e0_), .val (.int e1_), .val (.int (Int32.ofNat UA)), .val (.int u0_), .val (.int u1_), .val (.ref b107), .val (.int (x4 &&& (3 : Int32))), .val (.ref b_237), .val (.int (0 : Int32))] [(.int (1 : Int32))])) (fun t_ k_ => XS.iconst X245.here hx rfl (hb hby at_342) k_) ?_
          refine GoH.by (T' := T245) (g' := (mkF m 347 #[.val (.int x0), .val (.int x1), .val (.int x2), .val (.int x3), .val (.int x4), .val (.int (Int32.ofNat N_101)), .val (.int dd102), .val (.int dd103), .val (.int (Int32.ofNat N_104)), .val (.int dd105), .val (.int dd106), .val (.int (Int32.ofNat EA)), .val (.int e0_), .val (.int e1_), .val (.int (Int32.ofNat UA)), .val (.int u0_), .val (.int u1_), .val (.ref b107), .val (.int (x4 &&& (3 : Int32))), .val (.ref b_237), .val (.int (0 : Int32))] [(.int (1 : Int32))])) (fun t_ k_ => XS.goto X245.here hx rfl (pc0 := 343) (pc' := 347) rfl (hb hby at_343) (by decide) (by decide) k_) ?_
          refine GoH.fin hS X245 (by rw [e245]; exact (Nat.le_refl _)) (by rw [hh, e245]; exact CHr.trans hC237 (CHv.at (s := s) (vm0 := T237.vm) X245 hZ (own_EW hw) hC237.1)) (v := some (.int (nar .boolean (1 : Int32)))) (fun h => by rw [Bd.returns] at h; cases h) hlk (by decide) (by decide) ?_ (fun fs hr => retN X245 hx (t := .boolean) Bd.returns (by simp) (hb hby at_347) hr)
          show Q_law Z x0 x1 x2 x3 x4 G1 h0 n0 _ T245.heap _
          rw [e245]
          exact ⟨rfl, N245⟩
        · skip
          refine GoH.by (T' := T126) (g' := (mkF m 323 #[.val (.int x0), .val (.int x1), .val (.int x2), .val (.int x3), .val (.int x4), .val (.int (Int32.ofNat N_101)), .val (.int dd102), .val (.int dd103), .val (.int (Int32.ofNat N_104)), .val (.int dd105), .val (.int dd106), .val (.int (Int32.ofNat EA)), .val (.int e0_), .val (.int e1_), .val (.int (Int32.ofNat UA)), .val (.int u0_), .val (.int u1_), .val (.ref b107), .val (.int (x4 &&& (3 : Int32))), .unset, .unset] [])) (fun t_ k_ => XS.icmpYes X126.here hx rfl (pc0 := 303) (pc' := 323) rfl (hb hby at_303) rfl (feq hc235).2 (by decide) (by decide) k_) ?_
          refine GoH.by (T' := T126) (g' := (mkF m 325 #[.val (.int x0), .val (.int x1), .val (.int x2), .val (.int x3), .val (.int x4), .val (.int (Int32.ofNat N_101)), .val (.int dd102), .val (.int dd103), .val (.int (Int32.ofNat N_104)), .val (.int dd105), .val (.int dd106), .val (.int (Int32.ofNat EA)), .val (.int e0_), .val (.int e1_), .val (.int (Int32.ofNat UA)), .val (.int u0_), .val (.int u1_), .val (.ref b107), .val (.int (x4 &&& (3 : Int32))), .unset, .unset] [(.ref b107)])) (fun t_ k_ => XS.aload X126.here hx rfl (hb hby at_323) rfl rfl k_) ?_
          refine GoH.by (T' := T126) (g' := (mkF m 327 #[.val (.int x0), .val (.int x1), .val (.int x2), .val (.int x3), .val (.int x4), .val (.int (Int32.ofNat N_101)), .val (.int dd102), .val (.int dd103), .val (.int (Int32.ofNat N_104)), .val (.int dd105), .val (.int dd106), .val (.int (Int32.ofNat EA)), .val (.int e0_), .val (.int e1_), .val (.int (Int32.ofNat UA)), .val (.int u0_), .val (.int u1_), .val (.ref b107), .val (.int (x4 &&& (3 : Int32))), .val (.ref b107), .unset] [])) (fun t_ k_ => XS.astore X126.here hx rfl (hb hby at_325) rfl rfl (l' := #[.val (.int x0), .val (.int x1), .val (.int x2), .val (.int x3), .val (.int x4), .val (.int (Int32.ofNat N_101)), .val (.int dd102), .val (.int dd103), .val (.int (Int32.ofNat N_104)), .val (.int dd105), .val (.int dd106), .val (.int (Int32.ofNat EA)), .val (.int e0_), .val (.int e1_), .val (.int (Int32.ofNat UA)), .val (.int u0_), .val (.int u1_), .val (.ref b107), .val (.int (x4 &&& (3 : Int32))), .val (.ref b107), .unset]) rfl k_) ?_
          refine GoH.by (T' := T126) (g' := (mkF m 328 #[.val (.int x0), .val (.int x1), .val (.int x2), .val (.int x3), .val (.int x4), .val (.int (Int32.ofNat N_101)), .val (.int dd102), .val (.int dd103), .val (.int (Int32.ofNat N_104)), .val (.int dd105), .val (.int dd106), .val (.int (Int32.ofNat EA)), .val (.int e0_), .val (.int e1_), .val (.int (Int32.ofNat UA)), .val (.int u0_), .val (.int u1_), .val (.ref b107), .val (.int (x4 &&& (3 : Int32))), .val (.ref b107), .unset] [(.int (1 : Int32))])) (fun t_ k_ => XS.iconst X126.here hx rfl (hb hby at_327) k_) ?_
          refine GoH.by (T' := T126) (g' := (mkF m 330 #[.val (.int x0), .val (.int x1), .val (.int x2), .val (.int x3), .val (.int x4), .val (.int (Int32.ofNat N_101)), .val (.int dd102), .val (.int dd103), .val (.int (Int32.ofNat N_104)), .val (.int dd105), .val (.int dd106), .val (.int (Int32.ofNat EA)), .val (.int e0_), .val (.int e1_), .val (.int (Int32.ofNat UA)), .val (.int u0_), .val (.int u1_), .val (.ref b107), .val (.int (x4 &&& (3 : Int32))), .val (.ref b107), .val (.int (1 : Int32))] [])) (fun t_ k_ => XS.istore X126.here hx rfl (hb hby at_328) rfl (l' := #[.val (.int x0), .val (.int x1), .val (.int x2), .val (.int x3), .val (.int x4), .val (.int (Int32.ofNat N_101)), .val (.int dd102), .val (.int dd103), .val (.int (Int32.ofNat N_104)), .val (.int dd105), .val (.int dd106), .val (.int (Int32.ofNat EA)), .val (.int e0_), .val (.int e1_), .val (.int (Int32.ofNat UA)), .val (.int u0_), .val (.int u1_), .val (.ref b107), .val (.int (x4 &&& (3 : Int32))), .val (.ref b107), .val (.int (1 : Int32))]) rfl k_) ?_
          refine GoH.by (T' := T126) (g' := (mkF m 332 #[.val (.int x0), .val (.int x1), .val (.int x2), .val (.int x3), .val (.int x4), .val (.int (Int32.ofNat N_101)), .val (.int dd102), .val (.int dd103), .val (.int (Int32.ofNat N_104)), .val (.int dd105), .val (.int dd106), .val (.int (Int32.ofNat EA)), .val (.int e0_), .val (.int e1_), .val (.int (Int32.ofNat UA)), .val (.int u0_), .val (.int u1_), .val (.ref b107), .val (.int (x4 &&& (3 : Int32))), .val (.ref b107), .val (.int (1 : Int32))] [(.ref b107)])) (fun t_ k_ => XS.aload X126.here hx rfl (hb hby at_330) rfl rfl k_) ?_
          refine GoH.by (T' := T126) (g' := (mkF m 334 #[.val (.int x0), .val (.int x1), .val (.int x2), .val (.int x3), .val (.int x4), .val (.int (Int32.ofNat N_101)), .val (.int dd102), .val (.int dd103), .val (.int (Int32.ofNat N_104)), .val (.int dd105), .val (.int dd106), .val (.int (Int32.ofNat EA)), .val (.int e0_), .val (.int e1_), .val (.int (Int32.ofNat UA)), .val (.int u0_), .val (.int u1_), .val (.ref b107), .val (.int (x4 &&& (3 : Int32))), .val (.ref b107), .val (.int (1 : Int32))] [(.ref b107), (.ref b107)])) (fun t_ k_ => XS.aload X126.here hx rfl (hb hby at_332) rfl rfl k_) ?_
          have F247 : Exa Z T126.heap b107 "com/example/lorikeet/lorikeet/formats/TrecDocument" := (F120.keep K126)
          have F248 : Exa Z T126.heap b_112 "java/lang/String" := (F123.keep K126)
          have F249 : Fld Z T126.heap b_112 "java/lang/String" "value" "[B" (.ref t_112) := ((G112_2.keep K117 nin0).keep K126 (ninS (Ne.symm ne_b107_b_112) nin0))
          have F250 : Fld Z T126.heap b_112 "java/lang/String" "coder" "B" (.int (0 : Int32)) := ((G112_3.keep K117 nin0).keep K126 (ninS (Ne.symm ne_b107_b_112) nin0))
          have F251 : Arv Z T126.heap t_112 kb_112 .byte (Int32.ofNat (own_mk N_101 dd102 dd103).length) (((own_mk N_101 dd102 dd103).map (fun c => c.toInt8.toInt32)).map Value.int) (.int (0 : Int32)) := ((G112_4.keep K117 nin0).keep K126 (ninS nt114 nin0))
          have F252 : Exa Z T126.heap b_117 "java/lang/String" := (G117_1.keep K126)
          have F253 : Fld Z T126.heap b_117 "java/lang/String" "value" "[B" (.ref t_117) := (G117_2.keep K126 (ninS (Ne.symm ne_b107_b_117) nin0))
          have F254 : Fld Z T126.heap b_117 "java/lang/String" "coder" "B" (.int (0 : Int32)) := (G117_3.keep K126 (ninS (Ne.symm ne_b107_b_117) nin0))
          have F255 : Arv Z T126.heap t_117 kb_117 .byte (Int32.ofNat (own_mk N_104 dd105 dd106).length) (((own_mk N_104 dd105 dd106).map (fun c => c.toInt8.toInt32)).map Value.int) (.int (0 : Int32)) := (G117_4.keep K126 (ninS nt119 nin0))
          have Od256 : Old Z n0 T126.heap := (Od124.keep K126 (allS ge_b107 all0))
          obtain ⟨cq257, kq257, q257a, q257b, q257c⟩ := isOf hZ rfl F247
          obtain ⟨_, _, ⟨T257, L257, k257, n257⟩, -, X257, ⟨Lc257, hQ257, l257, y257, z257⟩, st257⟩ := X126.virtualBack hx (y := (⟨"com/example/lorikeet/lorikeet/formats/TrecDocument", "equals", "(Ljava/lang/Object;)Z"⟩ : MethodName)) (z := (⟨"com/example/lorikeet/lorikeet/formats/TrecDocument", "equals", "(Ljava/lang/Object;)Z"⟩ : MethodName)) hown (mvT hZ (hw _ (List.mem_of_getElem? (i := 50) rfl))) (mvT hZ (hw _ (List.mem_of_getElem? (i := 51) rfl))) (notFace_of_selects (args := #[]) (mvT hZ (hw _ (List.mem_of_getElem? (i := 53) rfl)))) (mvT hZ (hw _ (List.mem_of_getElem? (i := 53) rfl))) (mvT hZ (hw _ (List.mem_of_getElem? (i := 52) rfl))) (by decide) (backOf (W := 0) (rm_teq l Z a0 hw [] b107 b107 G1 b_112 t_112 kb_112 (own_mk N_101 dd102 dd103) b_117 t_117 kb_117 (own_mk N_104 dd105 dd106) b_112 t_112 kb_112 (own_mk N_101 dd102 dd103) b_117 t_117 kb_117 (own_mk N_104 dd105 dd106) T126.heap n0 Od256 P0 hCS F247 F247 G126_0 G126_1 G126_0 G126_1 F248 F249 F250 F251 F252 F253 F254 F255 F248 F249 F250 F251 F252 F253 F254 F255 (own_mk_r G101_0 hr_dd102 hr_dd103) (by rw [own_mk_len G101_0]; exact G101_0) (own_mk_r G104_0 hr_dd105 hr_dd106) (by rw [own_mk_len G104_0]; exact G104_0) (own_mk_r G101_0 hr_dd102 hr_dd103) (by rw [own_mk_len G101_0]; exact G101_0) (own_mk_r G104_0 hr_dd105 hr_dd106) (by rw [own_mk_len G104_0]; exact G104_0)) hZ (hw _ (List.mem_of_getElem? (i := 54) rfl)) (hw _ (List.mem_of_getElem? (i := 6) rfl)) (by decide) (by decide)) q257a q257c (g := (mkF m 334 #[.val (.int x0), .val (.int x1), .val (.int x2), .val (.int x3), .val (.int x4), .val (.int (Int32.ofNat N_101)), .val (.int dd102), .val (.int dd103), .val (.int (Int32.ofNat N_104)), .val (.int dd105), .val (.int dd106), .val (.int (Int32.ofNat EA)), .val (.int e0_), .val (.int e1_), .val (.int (Int32.ofNat UA)), .val (.int u0_), .val (.int u1_), .val (.ref b107), .val (.int (x4 &&& (3 : Int32))), .val (.ref b107), .val (.int (1 : Int32))] [(.ref b107), (.ref b107)])) rfl (by rw [hml]; rfl) (Steps.refl _) (argsL := [(.ref b107)]) (rest := []) (lenOf pd_7 rfl) rfl (by show 2 * 0 + _ ≤ _; exact Nat.le_of_eq rfl) (hb hby at_334) (fun _ _ => ⟨rfl, rfl, (by decide : 17 + 0 ≤ _), (by decide : 70 + 0 ≤ _)⟩)
          dsimp only [Pt.U, Pt.locs, Pt.cells, Pt.slots] at X257 l257 y257 z257 st257 hQ257
          subst l257 y257 z257
          obtain ⟨rfl, N257q, e257⟩ := hQ257
          have N257 := Fr.app N126 N257q
          refine GoH.by (T' := T257) (g' := (mkF m 337 #[.val (.int x0), .val (.int x1), .val (.int x2), .val (.int x3), .val (.int x4), .val (.int (Int32.ofNat N_101)), .val (.int dd102), .val (.int dd103), .val (.int (Int32.ofNat N_104)), .val (.int dd105), .val (.int dd106), .val (.int (Int32.ofNat EA)), .val (.int e0_), .val (.int e1_), .val (.int (Int32.ofNat UA)), .val (.int u0_), .val (.int u1_), .val (.ref b107), .val (.int (x4 &&& (3 : Int32))), .val (.ref b107), .val (.int (1 : Int32))] [(.int (if (own_mk N_101 dd102 dd103) = (own_mk N_101 dd102 dd103) ∧ (own_mk N_104 dd105 dd106) = (own_mk N_104 dd105 dd106) then 1 else 0))])) (fun t_ k_ => st257.trans k_) ?_
          refine GoH.by (T' := T257) (g' := (mkF m 339 #[.val (.int x0), .val (.int x1), .val (.int x2), .val (.int x3), .val (.int x4), .val (.int (Int32.ofNat N_101)), .val (.int dd102), .val (.int dd103), .val (.int (Int32.ofNat N_104)), .val (.int dd105), .val (.int dd106), .val (.int (Int32.ofNat EA)), .val (.int e0_), .val (.int e1_), .val (.int (Int32.ofNat UA)), .val (.int u0_), .val (.int u1_), .val (.ref b107), .val (.int (x4 &&& (3 : Int32))), .val (.ref b107), .val (.int (1 : Int32))] [(.int (1 : Int32)), (.int (if (own_mk N_101 dd102 dd103) = (own_mk N_101 dd102 dd103) ∧ (own_mk N_104 dd105 dd106) = (own_mk N_104 dd105 dd106) then 1 else 0))])) (fun t_ k_ => XS.iload X257.here hx rfl (hb hby at_337) rfl k_) ?_
          refine GoH.by (T' := T257) (g' := (mkF m 342 #[.val (.int x0), .val (.int x1), .val (.int x2), .val (.int x3), .val (.int x4), .val (.int (Int32.ofNat N_101)), .val (.int dd102), .val (.int dd103), .val (.int (Int32.ofNat N_104)), .val (.int dd105), .val (.int dd106), .val (.int (Int32.ofNat EA)), .val (.int e0_), .val (.int e1_), .val (.int (Int32.ofNat UA)), .val (.int u0_), .val (.int u1_), .val (.ref b107), .val (.int (x4 &&& (3 : Int32))), .val (.ref b107), .val (.int (1 : Int32))] [])) (fun t_ k_ => XS.icmpNo X257.here hx rfl (hb hby at_339) rfl (teq (if_pos ⟨rfl, rfl⟩)).2 k_) ?_
          refine GoH.by (T' := T257) (g' := (mkF m 343 #[.val (.int x0), .val (.int x1), .val (.int x2), .val (.int x3), .val (.int x4), .val (.int (Int32.ofNat N_101)), .val (.int dd102), .val (.int dd103), .val (.int (Int32.ofNat N_104)), .val (.int dd105), .val (.int dd106), .val (.int (Int32.ofNat EA)), .val (.int e0_), .val (.int e1_), .val (.int (Int32.ofNat UA)), .val (.int u0_), .val (.int u1_), .val (.ref b107), .val (.int (x4 &&& (3 : Int32))), .val (.ref b107), .val (.int (1 : Int32))] [(.int (1 : Int32))])) (fun t_ k_ => XS.iconst X257.here hx rfl (hb hby at_342) k_) ?_
          refine GoH.by (T' := T257) (g' := (mkF m 347 #[.val (.int x0), .val (.int x1), .val (.int x2), .val (.int x3), .val (.int x4), .val (.int (Int32.ofNat N_101)), .val (.int dd102), .val (.int dd103), .val (.int (Int32.ofNat N_104)), .val (.int dd105), .val (.int dd106), .val (.int (Int32.ofNat EA)), .val (.int e0_), .val (.int e1_), .val (.int (Int32.ofNat UA)), .val (.int u0_), .val (.int u1_), .val (.ref b107), .val (.int (x4 &&& (3 : Int32))), .val (.ref b107), .val (.int (1 : Int32))] [(.int (1 : Int32))])) (fun t_ k_ => XS.goto X257.here hx rfl (pc0 := 343) (pc' := 347) rfl (hb hby at_343) (by decide) (by decide) k_) ?_
          refine GoH.fin hS X257 (by rw [e257]; exact (Nat.le_refl _)) (by rw [hh, e257]; exact CHr.trans hC126 (CHv.at (s := s) (vm0 := T126.vm) X257 hZ (own_EW hw) hC126.1)) (v := some (.int (nar .boolean (1 : Int32)))) (fun h => by rw [Bd.returns] at h; cases h) hlk (by decide) (by decide) ?_ (fun fs hr => retN X257 hx (t := .boolean) Bd.returns (by simp) (hb hby at_347) hr)
          show Q_law Z x0 x1 x2 x3 x4 G1 h0 n0 _ T257.heap _
          rw [e257]
          exact ⟨rfl, N257⟩
  have J149 : ∀ {T : State} {h : Heap} {L : List Loc} (EA : Nat) (e0_ : Int32) (e1_ : Int32) (UA : Nat) (u0_ : Int32), Stand p l e room_1 s m #[(.int x0), (.int x1), (.int x2), (.int x3), (.int x4)] below meth c T L 0 0 → T.heap = h → Fr n0 L → Old Z n0 h → Keep h0 h [] → CHr Z consts_1 s.vm h0 s.vm h → EA ≤ 2 → own_r e0_ → own_r e1_ → UA ≤ 2 → own_r u0_ → GoH Z consts_1 p e below s (Q_law Z x0 x1 x2 x3 x4 G1 h0 n0) 48 3264 T (mkF m 149 #[.val (.int x0), .val (.int x1), .val (.int x2), .val (.int x3), .val (.int x4), .val (.int (Int32.ofNat N_101)), .val (.int dd102), .val (.int dd103), .val (.int (Int32.ofNat N_104)), .val (.int dd105), .val (.int dd106), .val (.int (Int32.ofNat EA)), .val (.int e0_), .val (.int e1_), .val (.int (Int32.ofNat UA)), .unset, .unset, .unset, .unset, .unset, .unset] [(.int u0_)]) := by
    intro T h L EA e0_ e1_ UA u0_ XJ eJ NJ OJ KJ CJ  hEA he0 he1 hUA hu0
    refine GoH.by (T' := T) (g' := (mkF m 151 #[.val (.int x0), .val (.int x1), .val (.int x2), .val (.int x3), .val (.int x4), .val (.int (Int32.ofNat N_101)), .val (.int dd102), .val (.int dd103), .val (.int (Int32.ofNat N_104)), .val (.int dd105), .val (.int dd106), .val (.int (Int32.ofNat EA)), .val (.int e0_), .val (.int e1_), .val (.int (Int32.ofNat UA)), .val (.int u0_), .unset, .unset, .unset, .unset, .unset] [])) (fun t_ k_ => XS.istore XJ.here hx rfl (hb hby at_149) rfl (l' := #[.val (.int x0), .val (.int x1), .val (.int x2), .val (.int x3), .val (.int x4), .val (.int (Int32.ofNat N_101)), .val (.int dd102), .val (.int dd103), .val (.int (Int32.ofNat N_104)), .val (.int dd105), .val (.int dd106), .val (.int (Int32.ofNat EA)), .val (.int e0_), .val (.int e1_), .val (.int (Int32.ofNat UA)), .val (.int u0_), .unset, .unset, .unset, .unset, .unset]) rfl k_) ?_
    refine GoH.by (T' := T) (g' := (mkF m 152 #[.val (.int x0), .val (.int x1), .val (.int x2), .val (.int x3), .val (.int x4), .val (.int (Int32.ofNat N_101)), .val (.int dd102), .val (.int dd103), .val (.int (Int32.ofNat N_104)), .val (.int dd105), .val (.int dd106), .val (.int (Int32.ofNat EA)), .val (.int e0_), .val (.int e1_), .val (.int (Int32.ofNat UA)), .val (.int u0_), .unset, .unset, .unset, .unset, .unset] [(.int x3)])) (fun t_ k_ => XS.iloadN XJ.here hx rfl (hb hby at_151) rfl k_) ?_
    refine GoH.by (T' := T) (g' := (mkF m 155 #[.val (.int x0), .val (.int x1), .val (.int x2), .val (.int x3), .val (.int x4), .val (.int (Int32.ofNat N_101)), .val (.int dd102), .val (.int dd103), .val (.int (Int32.ofNat N_104)), .val (.int dd105), .val (.int dd106), .val (.int (Int32.ofNat EA)), .val (.int e0_), .val (.int e1_), .val (.int (Int32.ofNat UA)), .val (.int u0_), .unset, .unset, .unset, .unset, .unset] [(.int (4096 : Int32)), (.int x3)])) (fun t_ k_ => XS.sipush XJ.here hx rfl (hb hby at_152) k_) ?_
    refine GoH.by (T' := T) (g' := (mkF m 156 #[.val (.int x0), .val (.int x1), .val (.int x2), .val (.int x3), .val (.int x4), .val (.int (Int32.ofNat N_101)), .val (.int dd102), .val (.int dd103), .val (.int (Int32.ofNat N_104)), .val (.int dd105), .val (.int dd106), .val (.int (Int32.ofNat EA)), .val (.int e0_), .val (.int e1_), .val (.int (Int32.ofNat UA)), .val (.int u0_), .unset, .unset, .unset, .unset, .unset] [(.int (x3 &&& (4096 : Int32)))])) (fun t_ k_ => XS.iand XJ.here hx rfl (hb hby at_155) rfl k_) ?_
    by_cases hc258 : (x3 &&& (4096 : Int32)) = (0 : Int32)
    · skip
      refine GoH.by (T' := T) (g' := (mkF m 159 #[.val (.int x0), .val (.int x1), .val (.int x2), .val (.int x3), .val (.int x4), .val (.int (Int32.ofNat N_101)), .val (.int dd102), .val (.int dd103), .val (.int (Int32.ofNat N_104)), .val (.int dd105), .val (.int dd106), .val (.int (Int32.ofNat EA)), .val (.int e0_), .val (.int e1_), .val (.int (Int32.ofNat UA)), .val (.int u0_), .unset, .unset, .unset, .unset, .unset] [])) (fun t_ k_ => XS.ifNo XJ.here hx rfl (hb hby at_156) rfl ((if0 _ _).trans (teq hc258).2) k_) ?_
      refine GoH.by (T' := T) (g' := (mkF m 161 #[.val (.int x0), .val (.int x1), .val (.int x2), .val (.int x3), .val (.int x4), .val (.int (Int32.ofNat N_101)), .val (.int dd102), .val (.int dd103), .val (.int (Int32.ofNat N_104)), .val (.int dd105), .val (.int dd106), .val (.int (Int32.ofNat EA)), .val (.int e0_), .val (.int e1_), .val (.int (Int32.ofNat UA)), .val (.int u0_), .unset, .unset, .unset, .unset, .unset] [(.int dd106)])) (fun t_ k_ => XS.iload XJ.here hx rfl (hb hby at_159) rfl k_) ?_
      refine GoH.by (T' := T) (g' := (mkF m 172 #[.val (.int x0), .val (.int x1), .val (.int x2), .val (.int x3), .val (.int x4), .val (.int (Int32.ofNat N_101)), .val (.int dd102), .val (.int dd103), .val (.int (Int32.ofNat N_104)), .val (.int dd105), .val (.int dd106), .val (.int (Int32.ofNat EA)), .val (.int e0_), .val (.int e1_), .val (.int (Int32.ofNat UA)), .val (.int u0_), .unset, .unset, .unset, .unset, .unset] [(.int dd106)])) (fun t_ k_ => XS.goto XJ.here hx rfl (pc0 := 161) (pc' := 172) rfl (hb hby at_161) (by decide) (by decide) k_) ?_
      exact J172 (EA) (e0_) (e1_) (UA) (u0_) (dd106) XJ eJ NJ OJ KJ CJ  (hEA) (he0) (he1) (hUA) (hu0) (hr_dd106)
    · skip
      refine GoH.by (T' := T) (g' := (mkF m 164 #[.val (.int x0), .val (.int x1), .val (.int x2), .val (.int x3), .val (.int x4), .val (.int (Int32.ofNat N_101)), .val (.int dd102), .val (.int dd103), .val (.int (Int32.ofNat N_104)), .val (.int dd105), .val (.int dd106), .val (.int (Int32.ofNat EA)), .val (.int e0_), .val (.int e1_), .val (.int (Int32.ofNat UA)), .val (.int u0_), .unset, .unset, .unset, .unset, .unset] [])) (fun t_ k_ => XS.ifYes XJ.here hx rfl (pc0 := 156) (pc' := 164) rfl (hb hby at_156) rfl ((if0 _ _).trans (feq hc258).2) (by decide) (by decide) k_) ?_
      refine GoH.by (T' := T) (g' := (mkF m 165 #[.val (.int x0), .val (.int x1), .val (.int x2), .val (.int x3), .val (.int x4), .val (.int (Int32.ofNat N_101)), .val (.int dd102), .val (.int dd103), .val (.int (Int32.ofNat N_104)), .val (.int dd105), .val (.int dd106), .val (.int (Int32.ofNat EA)), .val (.int e0_), .val (.int e1_), .val (.int (Int32.ofNat UA)), .val (.int u0_), .unset, .unset, .unset, .unset, .unset] [(.int x3)])) (fun t_ k_ => XS.iloadN XJ.here hx rfl (hb hby at_164) rfl k_) ?_
      refine GoH.by (T' := T) (g' := (mkF m 167 #[.val (.int x0), .val (.int x1), .val (.int x2), .val (.int x3), .val (.int x4), .val (.int (Int32.ofNat N_101)), .val (.int dd102), .val (.int dd103), .val (.int (Int32.ofNat N_104)), .val (.int dd105), .val (.int dd106), .val (.int (Int32.ofNat EA)), .val (.int e0_), .val (.int e1_), .val (.int (Int32.ofNat UA)), .val (.int u0_), .unset, .unset, .unset, .unset, .unset] [(.int (13 : Int32)), (.int x3)])) (fun t_ k_ => XS.bipush XJ.here hx rfl (hb hby at_165) k_) ?_
      refine GoH.by (T' := T) (g' := (mkF m 168 #[.val (.int x0), .val (.int x1), .val (.int x2), .val (.int x3), .val (.int x4), .val (.int (Int32.ofNat N_101)), .val (.int dd102), .val (.int dd103), .val (.int (Int32.ofNat N_104)), .val (.int dd105), .val (.int dd106), .val (.int (Int32.ofNat EA)), .val (.int e0_), .val (.int e1_), .val (.int (Int32.ofNat UA)), .val (.int u0_), .unset, .unset, .unset, .unset, .unset] [(.int ((x3.toUInt32 >>> ((13 : Int32) &&& 31).toUInt32).toInt32))])) (fun t_ k_ => XS.iushr XJ.here hx rfl (hb hby at_167) rfl k_) ?_
      refine GoH.by (T' := T) (g' := (mkF m 171 #[.val (.int x0), .val (.int x1), .val (.int x2), .val (.int x3), .val (.int x4), .val (.int (Int32.ofNat N_101)), .val (.int dd102), .val (.int dd103), .val (.int (Int32.ofNat N_104)), .val (.int dd105), .val (.int dd106), .val (.int (Int32.ofNat EA)), .val (.int e0_), .val (.int e1_), .val (.int (Int32.ofNat UA)), .val (.int u0_), .unset, .unset, .unset, .unset, .unset] [(.int (255 : Int32)), (.int ((x3.toUInt32 >>> ((13 : Int32) &&& 31).toUInt32).toInt32))])) (fun t_ k_ => XS.sipush XJ.here hx rfl (hb hby at_168) k_) ?_
      refine GoH.by (T' := T) (g' := (mkF m 172 #[.val (.int x0), .val (.int x1), .val (.int x2), .val (.int x3), .val (.int x4), .val (.int (Int32.ofNat N_101)), .val (.int dd102), .val (.int dd103), .val (.int (Int32.ofNat N_104)), .val (.int dd105), .val (.int dd106), .val (.int (Int32.ofNat EA)), .val (.int e0_), .val (.int e1_), .val (.int (Int32.ofNat UA)), .val (.int u0_), .unset, .unset, .unset, .unset, .unset] [(.int (((x3.toUInt32 >>> ((13 : Int32) &&& 31).toUInt32).toInt32) &&& (255 : Int32)))])) (fun t_ k_ => XS.iand XJ.here hx rfl (hb hby at_171) rfl k_) ?_
      exact J172 (EA) (e0_) (e1_) (UA) (u0_) ((((x3.toUInt32 >>> ((13 : Int32) &&& 31).toUInt32).toInt32) &&& (255 : Int32))) XJ eJ NJ OJ KJ CJ  (hEA) (he0) (he1) (hUA) (hu0) (own_r255 _)
  have J128 : ∀ {T : State} {h : Heap} {L : List Loc} (EA : Nat) (e0_ : Int32) (e1_ : Int32) (UA : Nat), Stand p l e room_1 s m #[(.int x0), (.int x1), (.int x2), (.int x3), (.int x4)] below meth c T L 0 0 → T.heap = h → Fr n0 L → Old Z n0 h → Keep h0 h [] → CHr Z consts_1 s.vm h0 s.vm h → EA ≤ 2 → own_r e0_ → own_r e1_ → UA ≤ 2 → GoH Z consts_1 p e below s (Q_law Z x0 x1 x2 x3 x4 G1 h0 n0) 48 3264 T (mkF m 128 #[.val (.int x0), .val (.int x1), .val (.int x2), .val (.int x3), .val (.int x4), .val (.int (Int32.ofNat N_101)), .val (.int dd102), .val (.int dd103), .val (.int (Int32.ofNat N_104)), .val (.int dd105), .val (.int dd106), .val (.int (Int32.ofNat EA)), .val (.int e0_), .val (.int e1_), .unset, .unset, .unset, .unset, .unset, .unset, .unset] [(.int (Int32.ofNat UA))]) := by
    intro T h L EA e0_ e1_ UA XJ eJ NJ OJ KJ CJ  hEA he0 he1 hUA
    refine GoH.by (T' := T) (g' := (mkF m 130 #[.val (.int x0), .val (.int x1), .val (.int x2), .val (.int x3), .val (.int x4), .val (.int (Int32.ofNat N_101)), .val (.int dd102), .val (.int dd103), .val (.int (Int32.ofNat N_104)), .val (.int dd105), .val (.int dd106), .val (.int (Int32.ofNat EA)), .val (.int e0_), .val (.int e1_), .val (.int (Int32.ofNat UA)), .unset, .unset, .unset, .unset, .unset, .unset] [])) (fun t_ k_ => XS.istore XJ.here hx rfl (hb hby at_128) rfl (l' := #[.val (.int x0), .val (.int x1), .val (.int x2), .val (.int x3), .val (.int x4), .val (.int (Int32.ofNat N_101)), .val (.int dd102), .val (.int dd103), .val (.int (Int32.ofNat N_104)), .val (.int dd105), .val (.int dd106), .val (.int (Int32.ofNat EA)), .val (.int e0_), .val (.int e1_), .val (.int (Int32.ofNat UA)), .unset, .unset, .unset, .unset, .unset, .unset]) rfl k_) ?_
    refine GoH.by (T' := T) (g' := (mkF m 131 #[.val (.int x0), .val (.int x1), .val (.int x2), .val (.int x3), .val (.int x4), .val (.int (Int32.ofNat N_101)), .val (.int dd102), .val (.int dd103), .val (.int (Int32.ofNat N_104)), .val (.int dd105), .val (.int dd106), .val (.int (Int32.ofNat EA)), .val (.int e0_), .val (.int e1_), .val (.int (Int32.ofNat UA)), .unset, .unset, .unset, .unset, .unset, .unset] [(.int x3)])) (fun t_ k_ => XS.iloadN XJ.here hx rfl (hb hby at_130) rfl k_) ?_
    refine GoH.by (T' := T) (g' := (mkF m 133 #[.val (.int x0), .val (.int x1), .val (.int x2), .val (.int x3), .val (.int x4), .val (.int (Int32.ofNat N_101)), .val (.int dd102), .val (.int dd103), .val (.int (Int32.ofNat N_104)), .val (.int dd105), .val (.int dd106), .val (.int (Int32.ofNat EA)), .val (.int e0_), .val (.int e1_), .val (.int (Int32.ofNat UA)), .unset, .unset, .unset, .unset, .unset, .unset] [(.int (8 : Int32)), (.int x3)])) (fun t_ k_ => XS.bipush XJ.here hx rfl (hb hby at_131) k_) ?_
    refine GoH.by (T' := T) (g' := (mkF m 134 #[.val (.int x0), .val (.int x1), .val (.int x2), .val (.int x3), .val (.int x4), .val (.int (Int32.ofNat N_101)), .val (.int dd102), .val (.int dd103), .val (.int (Int32.ofNat N_104)), .val (.int dd105), .val (.int dd106), .val (.int (Int32.ofNat EA)), .val (.int e0_), .val (.int e1_), .val (.int (Int32.ofNat UA)), .unset, .unset, .unset, .unset, .unset, .unset] [(.int (x3 &&& (8 : Int32)))])) (fun t_ k_ => XS.iand XJ.here hx rfl (hb hby at_133) rfl k_) ?_
    by_cases hc259 : (x3 &&& (8 : Int32)) = (0 : Int32)
    · skip
      refine GoH.by (T' := T) (g' := (mkF m 137 #[.val (.int x0), .val (.int x1), .val (.int x2), .val (.int x3), .val (.int x4), .val (.int (Int32.ofNat N_101)), .val (.int dd102), .val (.int dd103), .val (.int (Int32.ofNat N_104)), .val (.int dd105), .val (.int dd106), .val (.int (Int32.ofNat EA)), .val (.int e0_), .val (.int e1_), .val (.int (Int32.ofNat UA)), .unset, .unset, .unset, .unset, .unset, .unset] [])) (fun t_ k_ => XS.ifNo XJ.here hx rfl (hb hby at_134) rfl ((if0 _ _).trans (teq hc259).2) k_) ?_
      refine GoH.by (T' := T) (g' := (mkF m 139 #[.val (.int x0), .val (.int x1), .val (.int x2), .val (.int x3), .val (.int x4), .val (.int (Int32.ofNat N_101)), .val (.int dd102), .val (.int dd103), .val (.int (Int32.ofNat N_104)), .val (.int dd105), .val (.int dd106), .val (.int (Int32.ofNat EA)), .val (.int e0_), .val (.int e1_), .val (.int (Int32.ofNat UA)), .unset, .unset, .unset, .unset, .unset, .unset] [(.int dd105)])) (fun t_ k_ => XS.iload XJ.here hx rfl (hb hby at_137) rfl k_) ?_
      refine GoH.by (T' := T) (g' := (mkF m 149 #[.val (.int x0), .val (.int x1), .val (.int x2), .val (.int x3), .val (.int x4), .val (.int (Int32.ofNat N_101)), .val (.int dd102), .val (.int dd103), .val (.int (Int32.ofNat N_104)), .val (.int dd105), .val (.int dd106), .val (.int (Int32.ofNat EA)), .val (.int e0_), .val (.int e1_), .val (.int (Int32.ofNat UA)), .unset, .unset, .unset, .unset, .unset, .unset] [(.int dd105)])) (fun t_ k_ => XS.goto XJ.here hx rfl (pc0 := 139) (pc' := 149) rfl (hb hby at_139) (by decide) (by decide) k_) ?_
      exact J149 (EA) (e0_) (e1_) (UA) (dd105) XJ eJ NJ OJ KJ CJ  (hEA) (he0) (he1) (hUA) (hr_dd105)
    · skip
      refine GoH.by (T' := T) (g' := (mkF m 142 #[.val (.int x0), .val (.int x1), .val (.int x2), .val (.int x3), .val (.int x4), .val (.int (Int32.ofNat N_101)), .val (.int dd102), .val (.int dd103), .val (.int (Int32.ofNat N_104)), .val (.int dd105), .val (.int dd106), .val (.int (Int32.ofNat EA)), .val (.int e0_), .val (.int e1_), .val (.int (Int32.ofNat UA)), .unset, .unset, .unset, .unset, .unset, .unset] [])) (fun t_ k_ => XS.ifYes XJ.here hx rfl (pc0 := 134) (pc' := 142) rfl (hb hby at_134) rfl ((if0 _ _).trans (feq hc259).2) (by decide) (by decide) k_) ?_
      refine GoH.by (T' := T) (g' := (mkF m 143 #[.val (.int x0), .val (.int x1), .val (.int x2), .val (.int x3), .val (.int x4), .val (.int (Int32.ofNat N_101)), .val (.int dd102), .val (.int dd103), .val (.int (Int32.ofNat N_104)), .val (.int dd105), .val (.int dd106), .val (.int (Int32.ofNat EA)), .val (.int e0_), .val (.int e1_), .val (.int (Int32.ofNat UA)), .unset, .unset, .unset, .unset, .unset, .unset] [(.int x3)])) (fun t_ k_ => XS.iloadN XJ.here hx rfl (hb hby at_142) rfl k_) ?_
      refine GoH.by (T' := T) (g' := (mkF m 144 #[.val (.int x0), .val (.int x1), .val (.int x2), .val (.int x3), .val (.int x4), .val (.int (Int32.ofNat N_101)), .val (.int dd102), .val (.int dd103), .val (.int (Int32.ofNat N_104)), .val (.int dd105), .val (.int dd106), .val (.int (Int32.ofNat EA)), .val (.int e0_), .val (.int e1_), .val (.int (Int32.ofNat UA)), .unset, .unset, .unset, .unset, .unset, .unset] [(.int (4 : Int32)), (.int x3)])) (fun t_ k_ => XS.iconst XJ.here hx rfl (hb hby at_143) k_) ?_
      refine GoH.by (T' := T) (g' := (mkF m 145 #[.val (.int x0), .val (.int x1), .val (.int x2), .val (.int x3), .val (.int x4), .val (.int (Int32.ofNat N_101)), .val (.int dd102), .val (.int dd103), .val (.int (Int32.ofNat N_104)), .val (.int dd105), .val (.int dd106), .val (.int (Int32.ofNat EA)), .val (.int e0_), .val (.int e1_), .val (.int (Int32.ofNat UA)), .unset, .unset, .unset, .unset, .unset, .unset] [(.int ((x3.toUInt32 >>> ((4 : Int32) &&& 31).toUInt32).toInt32))])) (fun t_ k_ => XS.iushr XJ.here hx rfl (hb hby at_144) rfl k_) ?_
      refine GoH.by (T' := T) (g' := (mkF m 148 #[.val (.int x0), .val (.int x1), .val (.int x2), .val (.int x3), .val (.int x4), .val (.int (Int32.ofNat N_101)), .val (.int dd102), .val (.int dd103), .val (.int (Int32.ofNat N_104)), .val (.int dd105), .val (.int dd106), .val (.int (Int32.ofNat EA)), .val (.int e0_), .val (.int e1_), .val (.int (Int32.ofNat UA)), .unset, .unset, .unset, .unset, .unset, .unset] [(.int (255 : Int32)), (.int ((x3.toUInt32 >>> ((4 : Int32) &&& 31).toUInt32).toInt32))])) (fun t_ k_ => XS.sipush XJ.here hx rfl (hb hby at_145) k_) ?_
      refine GoH.by (T' := T) (g' := (mkF m 149 #[.val (.int x0), .val (.int x1), .val (.int x2), .val (.int x3), .val (.int x4), .val (.int (Int32.ofNat N_101)), .val (.int dd102), .val (.int dd103), .val (.int (Int32.ofNat N_104)), .val (.int dd105), .val (.int dd106), .val (.int (Int32.ofNat EA)), .val (.int e0_), .val (.int e1_), .val (.int (Int32.ofNat UA)), .unset, .unset, .unset, .unset, .unset, .unset] [(.int (((x3.toUInt32 >>> ((4 : Int32) &&& 31).toUInt32).toInt32) &&& (255 : Int32)))])) (fun t_ k_ => XS.iand XJ.here hx rfl (hb hby at_148) rfl k_) ?_
      exact J149 (EA) (e0_) (e1_) (UA) ((((x3.toUInt32 >>> ((4 : Int32) &&& 31).toUInt32).toInt32) &&& (255 : Int32))) XJ eJ NJ OJ KJ CJ  (hEA) (he0) (he1) (hUA) (own_r255 _)
  have J108 : ∀ {T : State} {h : Heap} {L : List Loc} (EA : Nat) (e0_ : Int32) (e1_ : Int32), Stand p l e room_1 s m #[(.int x0), (.int x1), (.int x2), (.int x3), (.int x4)] below meth c T L 0 0 → T.heap = h → Fr n0 L → Old Z n0 h → Keep h0 h [] → CHr Z consts_1 s.vm h0 s.vm h → EA ≤ 2 → own_r e0_ → own_r e1_ → GoH Z consts_1 p e below s (Q_law Z x0 x1 x2 x3 x4 G1 h0 n0) 48 3264 T (mkF m 108 #[.val (.int x0), .val (.int x1), .val (.int x2), .val (.int x3), .val (.int x4), .val (.int (Int32.ofNat N_101)), .val (.int dd102), .val (.int dd103), .val (.int (Int32.ofNat N_104)), .val (.int dd105), .val (.int dd106), .val (.int (Int32.ofNat EA)), .val (.int e0_), .unset, .unset, .unset, .unset, .unset, .unset, .unset, .unset] [(.int e1_)]) := by
    intro T h L EA e0_ e1_ XJ eJ NJ OJ KJ CJ  hEA he0 he1
    refine GoH.by (T' := T) (g' := (mkF m 110 #[.val (.int x0), .val (.int x1), .val (.int x2), .val (.int x3), .val (.int x4), .val (.int (Int32.ofNat N_101)), .val (.int dd102), .val (.int dd103), .val (.int (Int32.ofNat N_104)), .val (.int dd105), .val (.int dd106), .val (.int (Int32.ofNat EA)), .val (.int e0_), .val (.int e1_), .unset, .unset, .unset, .unset, .unset, .unset, .unset] [])) (fun t_ k_ => XS.istore XJ.here hx rfl (hb hby at_108) rfl (l' := #[.val (.int x0), .val (.int x1), .val (.int x2), .val (.int x3), .val (.int x4), .val (.int (Int32.ofNat N_101)), .val (.int dd102), .val (.int dd103), .val (.int (Int32.ofNat N_104)), .val (.int dd105), .val (.int dd106), .val (.int (Int32.ofNat EA)), .val (.int e0_), .val (.int e1_), .unset, .unset, .unset, .unset, .unset, .unset, .unset]) rfl k_) ?_
    refine GoH.by (T' := T) (g' := (mkF m 111 #[.val (.int x0), .val (.int x1), .val (.int x2), .val (.int x3), .val (.int x4), .val (.int (Int32.ofNat N_101)), .val (.int dd102), .val (.int dd103), .val (.int (Int32.ofNat N_104)), .val (.int dd105), .val (.int dd106), .val (.int (Int32.ofNat EA)), .val (.int e0_), .val (.int e1_), .unset, .unset, .unset, .unset, .unset, .unset, .unset] [(.int x3)])) (fun t_ k_ => XS.iloadN XJ.here hx rfl (hb hby at_110) rfl k_) ?_
    refine GoH.by (T' := T) (g' := (mkF m 112 #[.val (.int x0), .val (.int x1), .val (.int x2), .val (.int x3), .val (.int x4), .val (.int (Int32.ofNat N_101)), .val (.int dd102), .val (.int dd103), .val (.int (Int32.ofNat N_104)), .val (.int dd105), .val (.int dd106), .val (.int (Int32.ofNat EA)), .val (.int e0_), .val (.int e1_), .unset, .unset, .unset, .unset, .unset, .unset, .unset] [(.int (1 : Int32)), (.int x3)])) (fun t_ k_ => XS.iconst XJ.here hx rfl (hb hby at_111) k_) ?_
    refine GoH.by (T' := T) (g' := (mkF m 113 #[.val (.int x0), .val (.int x1), .val (.int x2), .val (.int x3), .val (.int x4), .val (.int (Int32.ofNat N_101)), .val (.int dd102), .val (.int dd103), .val (.int (Int32.ofNat N_104)), .val (.int dd105), .val (.int dd106), .val (.int (Int32.ofNat EA)), .val (.int e0_), .val (.int e1_), .unset, .unset, .unset, .unset, .unset, .unset, .unset] [(.int (x3 &&& (1 : Int32)))])) (fun t_ k_ => XS.iand XJ.here hx rfl (hb hby at_112) rfl k_) ?_
    by_cases hc260 : (x3 &&& (1 : Int32)) = (0 : Int32)
    · skip
      refine GoH.by (T' := T) (g' := (mkF m 116 #[.val (.int x0), .val (.int x1), .val (.int x2), .val (.int x3), .val (.int x4), .val (.int (Int32.ofNat N_101)), .val (.int dd102), .val (.int dd103), .val (.int (Int32.ofNat N_104)), .val (.int dd105), .val (.int dd106), .val (.int (Int32.ofNat EA)), .val (.int e0_), .val (.int e1_), .unset, .unset, .unset, .unset, .unset, .unset, .unset] [])) (fun t_ k_ => XS.ifNo XJ.here hx rfl (hb hby at_113) rfl ((if0 _ _).trans (teq hc260).2) k_) ?_
      refine GoH.by (T' := T) (g' := (mkF m 118 #[.val (.int x0), .val (.int x1), .val (.int x2), .val (.int x3), .val (.int x4), .val (.int (Int32.ofNat N_101)), .val (.int dd102), .val (.int dd103), .val (.int (Int32.ofNat N_104)), .val (.int dd105), .val (.int dd106), .val (.int (Int32.ofNat EA)), .val (.int e0_), .val (.int e1_), .unset, .unset, .unset, .unset, .unset, .unset, .unset] [(.int (Int32.ofNat N_104))])) (fun t_ k_ => XS.iload XJ.here hx rfl (hb hby at_116) rfl k_) ?_
      refine GoH.by (T' := T) (g' := (mkF m 128 #[.val (.int x0), .val (.int x1), .val (.int x2), .val (.int x3), .val (.int x4), .val (.int (Int32.ofNat N_101)), .val (.int dd102), .val (.int dd103), .val (.int (Int32.ofNat N_104)), .val (.int dd105), .val (.int dd106), .val (.int (Int32.ofNat EA)), .val (.int e0_), .val (.int e1_), .unset, .unset, .unset, .unset, .unset, .unset, .unset] [(.int (Int32.ofNat N_104))])) (fun t_ k_ => XS.goto XJ.here hx rfl (pc0 := 118) (pc' := 128) rfl (hb hby at_118) (by decide) (by decide) k_) ?_
      exact J128 (EA) (e0_) (e1_) (N_104) XJ eJ NJ OJ KJ CJ  (hEA) (he0) (he1) (G104_0)
    · skip
      refine GoH.by (T' := T) (g' := (mkF m 121 #[.val (.int x0), .val (.int x1), .val (.int x2), .val (.int x3), .val (.int x4), .val (.int (Int32.ofNat N_101)), .val (.int dd102), .val (.int dd103), .val (.int (Int32.ofNat N_104)), .val (.int dd105), .val (.int dd106), .val (.int (Int32.ofNat EA)), .val (.int e0_), .val (.int e1_), .unset, .unset, .unset, .unset, .unset, .unset, .unset] [])) (fun t_ k_ => XS.ifYes XJ.here hx rfl (pc0 := 113) (pc' := 121) rfl (hb hby at_113) rfl ((if0 _ _).trans (feq hc260).2) (by decide) (by decide) k_) ?_
      refine GoH.by (T' := T) (g' := (mkF m 122 #[.val (.int x0), .val (.int x1), .val (.int x2), .val (.int x3), .val (.int x4), .val (.int (Int32.ofNat N_101)), .val (.int dd102), .val (.int dd103), .val (.int (Int32.ofNat N_104)), .val (.int dd105), .val (.int dd106), .val (.int (Int32.ofNat EA)), .val (.int e0_), .val (.int e1_), .unset, .unset, .unset, .unset, .unset, .unset, .unset] [(.int x3)])) (fun t_ k_ => XS.iloadN XJ.here hx rfl (hb hby at_121) rfl k_) ?_
      refine GoH.by (T' := T) (g' := (mkF m 123 #[.val (.int x0), .val (.int x1), .val (.int x2), .val (.int x3), .val (.int x4), .val (.int (Int32.ofNat N_101)), .val (.int dd102), .val (.int dd103), .val (.int (Int32.ofNat N_104)), .val (.int dd105), .val (.int dd106), .val (.int (Int32.ofNat EA)), .val (.int e0_), .val (.int e1_), .unset, .unset, .unset, .unset, .unset, .unset, .unset] [(.int (1 : Int32)), (.int x3)])) (fun t_ k_ => XS.iconst XJ.here hx rfl (hb hby at_122) k_) ?_
      refine GoH.by (T' := T) (g' := (mkF m 124 #[.val (.int x0), .val (.int x1), .val (.int x2), .val (.int x3), .val (.int x4), .val (.int (Int32.ofNat N_101)), .val (.int dd102), .val (.int dd103), .val (.int (Int32.ofNat N_104)), .val (.int dd105), .val (.int dd106), .val (.int (Int32.ofNat EA)), .val (.int e0_), .val (.int e1_), .unset, .unset, .unset, .unset, .unset, .unset, .unset] [(.int ((x3.toUInt32 >>> ((1 : Int32) &&& 31).toUInt32).toInt32))])) (fun t_ k_ => XS.iushr XJ.here hx rfl (hb hby at_123) rfl k_) ?_
      refine GoH.by (T' := T) (g' := (mkF m 125 #[.val (.int x0), .val (.int x1), .val (.int x2), .val (.int x3), .val (.int x4), .val (.int (Int32.ofNat N_101)), .val (.int dd102), .val (.int dd103), .val (.int (Int32.ofNat N_104)), .val (.int dd105), .val (.int dd106), .val (.int (Int32.ofNat EA)), .val (.int e0_), .val (.int e1_), .unset, .unset, .unset, .unset, .unset, .unset, .unset] [(.int (3 : Int32)), (.int ((x3.toUInt32 >>> ((1 : Int32) &&& 31).toUInt32).toInt32))])) (fun t_ k_ => XS.iconst XJ.here hx rfl (hb hby at_124) k_) ?_
      refine GoH.by (T' := T) (g' := (mkF m 126 #[.val (.int x0), .val (.int x1), .val (.int x2), .val (.int x3), .val (.int x4), .val (.int (Int32.ofNat N_101)), .val (.int dd102), .val (.int dd103), .val (.int (Int32.ofNat N_104)), .val (.int dd105), .val (.int dd106), .val (.int (Int32.ofNat EA)), .val (.int e0_), .val (.int e1_), .unset, .unset, .unset, .unset, .unset, .unset, .unset] [(.int (((x3.toUInt32 >>> ((1 : Int32) &&& 31).toUInt32).toInt32) &&& (3 : Int32)))])) (fun t_ k_ => XS.iand XJ.here hx rfl (hb hby at_125) rfl k_) ?_
      refine GoH.by (T' := T) (g' := (mkF m 127 #[.val (.int x0), .val (.int x1), .val (.int x2), .val (.int x3), .val (.int x4), .val (.int (Int32.ofNat N_101)), .val (.int dd102), .val (.int dd103), .val (.int (Int32.ofNat N_104)), .val (.int dd105), .val (.int dd106), .val (.int (Int32.ofNat EA)), .val (.int e0_), .val (.int e1_), .unset, .unset, .unset, .unset, .unset, .unset, .unset] [(.int (3 : Int32)), (.int (((x3.toUInt32 >>> ((1 : Int32) &&& 31).toUInt32).toInt32) &&& (3 : Int32)))])) (fun t_ k_ => XS.iconst XJ.here hx rfl (hb hby at_126) k_) ?_
      refine GoH.by (T' := T) (g' := (mkF m 128 #[.val (.int x0), .val (.int x1), .val (.int x2), .val (.int x3), .val (.int x4), .val (.int (Int32.ofNat N_101)), .val (.int dd102), .val (.int dd103), .val (.int (Int32.ofNat N_104)), .val (.int dd105), .val (.int dd106), .val (.int (Int32.ofNat EA)), .val (.int e0_), .val (.int e1_), .unset, .unset, .unset, .unset, .unset, .unset, .unset] [(.int ((((x3.toUInt32 >>> ((1 : Int32) &&& 31).toUInt32).toInt32) &&& (3 : Int32)) % (3 : Int32)))])) (fun t_ k_ => iremM XJ hx rfl (hb hby at_127) rfl (by decide) k_) ?_
      obtain ⟨NN, hNN, eNN⟩ := own_mod3 ((x3.toUInt32 >>> ((1 : Int32) &&& 31).toUInt32).toInt32)
      rw [eNN]
      exact J128 (EA) (e0_) (e1_) (NN) XJ eJ NJ OJ KJ CJ  (hEA) (he0) (he1) (hNN)
  have J85 : ∀ {T : State} {h : Heap} {L : List Loc} (EA : Nat) (e0_ : Int32), Stand p l e room_1 s m #[(.int x0), (.int x1), (.int x2), (.int x3), (.int x4)] below meth c T L 0 0 → T.heap = h → Fr n0 L → Old Z n0 h → Keep h0 h [] → CHr Z consts_1 s.vm h0 s.vm h → EA ≤ 2 → own_r e0_ → GoH Z consts_1 p e below s (Q_law Z x0 x1 x2 x3 x4 G1 h0 n0) 48 3264 T (mkF m 85 #[.val (.int x0), .val (.int x1), .val (.int x2), .val (.int x3), .val (.int x4), .val (.int (Int32.ofNat N_101)), .val (.int dd102), .val (.int dd103), .val (.int (Int32.ofNat N_104)), .val (.int dd105), .val (.int dd106), .val (.int (Int32.ofNat EA)), .unset, .unset, .unset, .unset, .unset, .unset, .unset, .unset, .unset] [(.int e0_)]) := by
    intro T h L EA e0_ XJ eJ NJ OJ KJ CJ  hEA he0
    refine GoH.by (T' := T) (g' := (mkF m 87 #[.val (.int x0), .val (.int x1), .val (.int x2), .val (.int x3), .val (.int x4), .val (.int (Int32.ofNat N_101)), .val (.int dd102), .val (.int dd103), .val (.int (Int32.ofNat N_104)), .val (.int dd105), .val (.int dd106), .val (.int (Int32.ofNat EA)), .val (.int e0_), .unset, .unset, .unset, .unset, .unset, .unset, .unset, .unset] [])) (fun t_ k_ => XS.istore XJ.here hx rfl (hb hby at_85) rfl (l' := #[.val (.int x0), .val (.int x1), .val (.int x2), .val (.int x3), .val (.int x4), .val (.int (Int32.ofNat N_101)), .val (.int dd102), .val (.int dd103), .val (.int (Int32.ofNat N_104)), .val (.int dd105), .val (.int dd106), .val (.int (Int32.ofNat EA)), .val (.int e0_), .unset, .unset, .unset, .unset, .unset, .unset, .unset, .unset]) rfl k_) ?_
    refine GoH.by (T' := T) (g' := (mkF m 88 #[.val (.int x0), .val (.int x1), .val (.int x2), .val (.int x3), .val (.int x4), .val (.int (Int32.ofNat N_101)), .val (.int dd102), .val (.int dd103), .val (.int (Int32.ofNat N_104)), .val (.int dd105), .val (.int dd106), .val (.int (Int32.ofNat EA)), .val (.int e0_), .unset, .unset, .unset, .unset, .unset, .unset, .unset, .unset] [(.int x2)])) (fun t_ k_ => XS.iloadN XJ.here hx rfl (hb hby at_87) rfl k_) ?_
    refine GoH.by (T' := T) (g' := (mkF m 91 #[.val (.int x0), .val (.int x1), .val (.int x2), .val (.int x3), .val (.int x4), .val (.int (Int32.ofNat N_101)), .val (.int dd102), .val (.int dd103), .val (.int (Int32.ofNat N_104)), .val (.int dd105), .val (.int dd106), .val (.int (Int32.ofNat EA)), .val (.int e0_), .unset, .unset, .unset, .unset, .unset, .unset, .unset, .unset] [(.int (4096 : Int32)), (.int x2)])) (fun t_ k_ => XS.sipush XJ.here hx rfl (hb hby at_88) k_) ?_
    refine GoH.by (T' := T) (g' := (mkF m 92 #[.val (.int x0), .val (.int x1), .val (.int x2), .val (.int x3), .val (.int x4), .val (.int (Int32.ofNat N_101)), .val (.int dd102), .val (.int dd103), .val (.int (Int32.ofNat N_104)), .val (.int dd105), .val (.int dd106), .val (.int (Int32.ofNat EA)), .val (.int e0_), .unset, .unset, .unset, .unset, .unset, .unset, .unset, .unset] [(.int (x2 &&& (4096 : Int32)))])) (fun t_ k_ => XS.iand XJ.here hx rfl (hb hby at_91) rfl k_) ?_
    by_cases hc261 : (x2 &&& (4096 : Int32)) = (0 : Int32)
    · skip
      refine GoH.by (T' := T) (g' := (mkF m 95 #[.val (.int x0), .val (.int x1), .val (.int x2), .val (.int x3), .val (.int x4), .val (.int (Int32.ofNat N_101)), .val (.int dd102), .val (.int dd103), .val (.int (Int32.ofNat N_104)), .val (.int dd105), .val (.int dd106), .val (.int (Int32.ofNat EA)), .val (.int e0_), .unset, .unset, .unset, .unset, .unset, .unset, .unset, .unset] [])) (fun t_ k_ => XS.ifNo XJ.here hx rfl (hb hby at_92) rfl ((if0 _ _).trans (teq hc261).2) k_) ?_
      refine GoH.by (T' := T) (g' := (mkF m 97 #[.val (.int x0), .val (.int x1), .val (.int x2), .val (.int x3), .val (.int x4), .val (.int (Int32.ofNat N_101)), .val (.int dd102), .val (.int dd103), .val (.int (Int32.ofNat N_104)), .val (.int dd105), .val (.int dd106), .val (.int (Int32.ofNat EA)), .val (.int e0_), .unset, .unset, .unset, .unset, .unset, .unset, .unset, .unset] [(.int dd103)])) (fun t_ k_ => XS.iload XJ.here hx rfl (hb hby at_95) rfl k_) ?_
      refine GoH.by (T' := T) (g' := (mkF m 108 #[.val (.int x0), .val (.int x1), .val (.int x2), .val (.int x3), .val (.int x4), .val (.int (Int32.ofNat N_101)), .val (.int dd102), .val (.int dd103), .val (.int (Int32.ofNat N_104)), .val (.int dd105), .val (.int dd106), .val (.int (Int32.ofNat EA)), .val (.int e0_), .unset, .unset, .unset, .unset, .unset, .unset, .unset, .unset] [(.int dd103)])) (fun t_ k_ => XS.goto XJ.here hx rfl (pc0 := 97) (pc' := 108) rfl (hb hby at_97) (by decide) (by decide) k_) ?_
      exact J108 (EA) (e0_) (dd103) XJ eJ NJ OJ KJ CJ  (hEA) (he0) (hr_dd103)
    · skip
      refine GoH.by (T' := T) (g' := (mkF m 100 #[.val (.int x0), .val (.int x1), .val (.int x2), .val (.int x3), .val (.int x4), .val (.int (Int32.ofNat N_101)), .val (.int dd102), .val (.int dd103), .val (.int (Int32.ofNat N_104)), .val (.int dd105), .val (.int dd106), .val (.int (Int32.ofNat EA)), .val (.int e0_), .unset, .unset, .unset, .unset, .unset, .unset, .unset, .unset] [])) (fun t_ k_ => XS.ifYes XJ.here hx rfl (pc0 := 92) (pc' := 100) rfl (hb hby at_92) rfl ((if0 _ _).trans (feq hc261).2) (by decide) (by decide) k_) ?_
      refine GoH.by (T' := T) (g' := (mkF m 101 #[.val (.int x0), .val (.int x1), .val (.int x2), .val (.int x3), .val (.int x4), .val (.int (Int32.ofNat N_101)), .val (.int dd102), .val (.int dd103), .val (.int (Int32.ofNat N_104)), .val (.int dd105), .val (.int dd106), .val (.int (Int32.ofNat EA)), .val (.int e0_), .unset, .unset, .unset, .unset, .unset, .unset, .unset, .unset] [(.int x2)])) (fun t_ k_ => XS.iloadN XJ.here hx rfl (hb hby at_100) rfl k_) ?_
      refine GoH.by (T' := T) (g' := (mkF m 103 #[.val (.int x0), .val (.int x1), .val (.int x2), .val (.int x3), .val (.int x4), .val (.int (Int32.ofNat N_101)), .val (.int dd102), .val (.int dd103), .val (.int (Int32.ofNat N_104)), .val (.int dd105), .val (.int dd106), .val (.int (Int32.ofNat EA)), .val (.int e0_), .unset, .unset, .unset, .unset, .unset, .unset, .unset, .unset] [(.int (13 : Int32)), (.int x2)])) (fun t_ k_ => XS.bipush XJ.here hx rfl (hb hby at_101) k_) ?_
      refine GoH.by (T' := T) (g' := (mkF m 104 #[.val (.int x0), .val (.int x1), .val (.int x2), .val (.int x3), .val (.int x4), .val (.int (Int32.ofNat N_101)), .val (.int dd102), .val (.int dd103), .val (.int (Int32.ofNat N_104)), .val (.int dd105), .val (.int dd106), .val (.int (Int32.ofNat EA)), .val (.int e0_), .unset, .unset, .unset, .unset, .unset, .unset, .unset, .unset] [(.int ((x2.toUInt32 >>> ((13 : Int32) &&& 31).toUInt32).toInt32))])) (fun t_ k_ => XS.iushr XJ.here hx rfl (hb hby at_103) rfl k_) ?_
      refine GoH.by (T' := T) (g' := (mkF m 107 #[.val (.int x0), .val (.int x1), .val (.int x2), .val (.int x3), .val (.int x4), .val (.int (Int32.ofNat N_101)), .val (.int dd102), .val (.int dd103), .val (.int (Int32.ofNat N_104)), .val (.int dd105), .val (.int dd106), .val (.int (Int32.ofNat EA)), .val (.int e0_), .unset, .unset, .unset, .unset, .unset, .unset, .unset, .unset] [(.int (255 : Int32)), (.int ((x2.toUInt32 >>> ((13 : Int32) &&& 31).toUInt32).toInt32))])) (fun t_ k_ => XS.sipush XJ.here hx rfl (hb hby at_104) k_) ?_
      refine GoH.by (T' := T) (g' := (mkF m 108 #[.val (.int x0), .val (.int x1), .val (.int x2), .val (.int x3), .val (.int x4), .val (.int (Int32.ofNat N_101)), .val (.int dd102), .val (.int dd103), .val (.int (Int32.ofNat N_104)), .val (.int dd105), .val (.int dd106), .val (.int (Int32.ofNat EA)), .val (.int e0_), .unset, .unset, .unset, .unset, .unset, .unset, .unset, .unset] [(.int (((x2.toUInt32 >>> ((13 : Int32) &&& 31).toUInt32).toInt32) &&& (255 : Int32)))])) (fun t_ k_ => XS.iand XJ.here hx rfl (hb hby at_107) rfl k_) ?_
      exact J108 (EA) (e0_) ((((x2.toUInt32 >>> ((13 : Int32) &&& 31).toUInt32).toInt32) &&& (255 : Int32))) XJ eJ NJ OJ KJ CJ  (hEA) (he0) (own_r255 _)
  have J64 : ∀ {T : State} {h : Heap} {L : List Loc} (EA : Nat), Stand p l e room_1 s m #[(.int x0), (.int x1), (.int x2), (.int x3), (.int x4)] below meth c T L 0 0 → T.heap = h → Fr n0 L → Old Z n0 h → Keep h0 h [] → CHr Z consts_1 s.vm h0 s.vm h → EA ≤ 2 → GoH Z consts_1 p e below s (Q_law Z x0 x1 x2 x3 x4 G1 h0 n0) 48 3264 T (mkF m 64 #[.val (.int x0), .val (.int x1), .val (.int x2), .val (.int x3), .val (.int x4), .val (.int (Int32.ofNat N_101)), .val (.int dd102), .val (.int dd103), .val (.int (Int32.ofNat N_104)), .val (.int dd105), .val (.int dd106), .unset, .unset, .unset, .unset, .unset, .unset, .unset, .unset, .unset, .unset] [(.int (Int32.ofNat EA))]) := by
    intro T h L EA XJ eJ NJ OJ KJ CJ  hEA
    refine GoH.by (T' := T) (g' := (mkF m 66 #[.val (.int x0), .val (.int x1), .val (.int x2), .val (.int x3), .val (.int x4), .val (.int (Int32.ofNat N_101)), .val (.int dd102), .val (.int dd103), .val (.int (Int32.ofNat N_104)), .val (.int dd105), .val (.int dd106), .val (.int (Int32.ofNat EA)), .unset, .unset, .unset, .unset, .unset, .unset, .unset, .unset, .unset] [])) (fun t_ k_ => XS.istore XJ.here hx rfl (hb hby at_64) rfl (l' := #[.val (.int x0), .val (.int x1), .val (.int x2), .val (.int x3), .val (.int x4), .val (.int (Int32.ofNat N_101)), .val (.int dd102), .val (.int dd103), .val (.int (Int32.ofNat N_104)), .val (.int dd105), .val (.int dd106), .val (.int (Int32.ofNat EA)), .unset, .unset, .unset, .unset, .unset, .unset, .unset, .unset, .unset]) rfl k_) ?_
    refine GoH.by (T' := T) (g' := (mkF m 67 #[.val (.int x0), .val (.int x1), .val (.int x2), .val (.int x3), .val (.int x4), .val (.int (Int32.ofNat N_101)), .val (.int dd102), .val (.int dd103), .val (.int (Int32.ofNat N_104)), .val (.int dd105), .val (.int dd106), .val (.int (Int32.ofNat EA)), .unset, .unset, .unset, .unset, .unset, .unset, .unset, .unset, .unset] [(.int x2)])) (fun t_ k_ => XS.iloadN XJ.here hx rfl (hb hby at_66) rfl k_) ?_
    refine GoH.by (T' := T) (g' := (mkF m 69 #[.val (.int x0), .val (.int x1), .val (.int x2), .val (.int x3), .val (.int x4), .val (.int (Int32.ofNat N_101)), .val (.int dd102), .val (.int dd103), .val (.int (Int32.ofNat N_104)), .val (.int dd105), .val (.int dd106), .val (.int (Int32.ofNat EA)), .unset, .unset, .unset, .unset, .unset, .unset, .unset, .unset, .unset] [(.int (8 : Int32)), (.int x2)])) (fun t_ k_ => XS.bipush XJ.here hx rfl (hb hby at_67) k_) ?_
    refine GoH.by (T' := T) (g' := (mkF m 70 #[.val (.int x0), .val (.int x1), .val (.int x2), .val (.int x3), .val (.int x4), .val (.int (Int32.ofNat N_101)), .val (.int dd102), .val (.int dd103), .val (.int (Int32.ofNat N_104)), .val (.int dd105), .val (.int dd106), .val (.int (Int32.ofNat EA)), .unset, .unset, .unset, .unset, .unset, .unset, .unset, .unset, .unset] [(.int (x2 &&& (8 : Int32)))])) (fun t_ k_ => XS.iand XJ.here hx rfl (hb hby at_69) rfl k_) ?_
    by_cases hc262 : (x2 &&& (8 : Int32)) = (0 : Int32)
    · skip
      refine GoH.by (T' := T) (g' := (mkF m 73 #[.val (.int x0), .val (.int x1), .val (.int x2), .val (.int x3), .val (.int x4), .val (.int (Int32.ofNat N_101)), .val (.int dd102), .val (.int dd103), .val (.int (Int32.ofNat N_104)), .val (.int dd105), .val (.int dd106), .val (.int (Int32.ofNat EA)), .unset, .unset, .unset, .unset, .unset, .unset, .unset, .unset, .unset] [])) (fun t_ k_ => XS.ifNo XJ.here hx rfl (hb hby at_70) rfl ((if0 _ _).trans (teq hc262).2) k_) ?_
      refine GoH.by (T' := T) (g' := (mkF m 75 #[.val (.int x0), .val (.int x1), .val (.int x2), .val (.int x3), .val (.int x4), .val (.int (Int32.ofNat N_101)), .val (.int dd102), .val (.int dd103), .val (.int (Int32.ofNat N_104)), .val (.int dd105), .val (.int dd106), .val (.int (Int32.ofNat EA)), .unset, .unset, .unset, .unset, .unset, .unset, .unset, .unset, .unset] [(.int dd102)])) (fun t_ k_ => XS.iload XJ.here hx rfl (hb hby at_73) rfl k_) ?_
      refine GoH.by (T' := T) (g' := (mkF m 85 #[.val (.int x0), .val (.int x1), .val (.int x2), .val (.int x3), .val (.int x4), .val (.int (Int32.ofNat N_101)), .val (.int dd102), .val (.int dd103), .val (.int (Int32.ofNat N_104)), .val (.int dd105), .val (.int dd106), .val (.int (Int32.ofNat EA)), .unset, .unset, .unset, .unset, .unset, .unset, .unset, .unset, .unset] [(.int dd102)])) (fun t_ k_ => XS.goto XJ.here hx rfl (pc0 := 75) (pc' := 85) rfl (hb hby at_75) (by decide) (by decide) k_) ?_
      exact J85 (EA) (dd102) XJ eJ NJ OJ KJ CJ  (hEA) (hr_dd102)
    · skip
      refine GoH.by (T' := T) (g' := (mkF m 78 #[.val (.int x0), .val (.int x1), .val (.int x2), .val (.int x3), .val (.int x4), .val (.int (Int32.ofNat N_101)), .val (.int dd102), .val (.int dd103), .val (.int (Int32.ofNat N_104)), .val (.int dd105), .val (.int dd106), .val (.int (Int32.ofNat EA)), .unset, .unset, .unset, .unset, .unset, .unset, .unset, .unset, .unset] [])) (fun t_ k_ => XS.ifYes XJ.here hx rfl (pc0 := 70) (pc' := 78) rfl (hb hby at_70) rfl ((if0 _ _).trans (feq hc262).2) (by decide) (by decide) k_) ?_
      refine GoH.by (T' := T) (g' := (mkF m 79 #[.val (.int x0), .val (.int x1), .val (.int x2), .val (.int x3), .val (.int x4), .val (.int (Int32.ofNat N_101)), .val (.int dd102), .val (.int dd103), .val (.int (Int32.ofNat N_104)), .val (.int dd105), .val (.int dd106), .val (.int (Int32.ofNat EA)), .unset, .unset, .unset, .unset, .unset, .unset, .unset, .unset, .unset] [(.int x2)])) (fun t_ k_ => XS.iloadN XJ.here hx rfl (hb hby at_78) rfl k_) ?_
      refine GoH.by (T' := T) (g' := (mkF m 80 #[.val (.int x0), .val (.int x1), .val (.int x2), .val (.int x3), .val (.int x4), .val (.int (Int32.ofNat N_101)), .val (.int dd102), .val (.int dd103), .val (.int (Int32.ofNat N_104)), .val (.int dd105), .val (.int dd106), .val (.int (Int32.ofNat EA)), .unset, .unset, .unset, .unset, .unset, .unset, .unset, .unset, .unset] [(.int (4 : Int32)), (.int x2)])) (fun t_ k_ => XS.iconst XJ.here hx rfl (hb hby at_79) k_) ?_
      refine GoH.by (T' := T) (g' := (mkF m 81 #[.val (.int x0), .val (.int x1), .val (.int x2), .val (.int x3), .val (.int x4), .val (.int (Int32.ofNat N_101)), .val (.int dd102), .val (.int dd103), .val (.int (Int32.ofNat N_104)), .val (.int dd105), .val (.int dd106), .val (.int (Int32.ofNat EA)), .unset, .unset, .unset, .unset, .unset, .unset, .unset, .unset, .unset] [(.int ((x2.toUInt32 >>> ((4 : Int32) &&& 31).toUInt32).toInt32))])) (fun t_ k_ => XS.iushr XJ.here hx rfl (hb hby at_80) rfl k_) ?_
      refine GoH.by (T' := T) (g' := (mkF m 84 #[.val (.int x0), .val (.int x1), .val (.int x2), .val (.int x3), .val (.int x4), .val (.int (Int32.ofNat N_101)), .val (.int dd102), .val (.int dd103), .val (.int (Int32.ofNat N_104)), .val (.int dd105), .val (.int dd106), .val (.int (Int32.ofNat EA)), .unset, .unset, .unset, .unset, .unset, .unset, .unset, .unset, .unset] [(.int (255 : Int32)), (.int ((x2.toUInt32 >>> ((4 : Int32) &&& 31).toUInt32).toInt32))])) (fun t_ k_ => XS.sipush XJ.here hx rfl (hb hby at_81) k_) ?_
      refine GoH.by (T' := T) (g' := (mkF m 85 #[.val (.int x0), .val (.int x1), .val (.int x2), .val (.int x3), .val (.int x4), .val (.int (Int32.ofNat N_101)), .val (.int dd102), .val (.int dd103), .val (.int (Int32.ofNat N_104)), .val (.int dd105), .val (.int dd106), .val (.int (Int32.ofNat EA)), .unset, .unset, .unset, .unset, .unset, .unset, .unset, .unset, .unset] [(.int (((x2.toUInt32 >>> ((4 : Int32) &&& 31).toUInt32).toInt32) &&& (255 : Int32)))])) (fun t_ k_ => XS.iand XJ.here hx rfl (hb hby at_84) rfl k_) ?_
      exact J85 (EA) ((((x2.toUInt32 >>> ((4 : Int32) &&& 31).toUInt32).toInt32) &&& (255 : Int32))) XJ eJ NJ OJ KJ CJ  (hEA) (own_r255 _)
  by_cases hc263 : (x2 &&& (1 : Int32)) = (0 : Int32)
  · skip
    refine GoH.by (T' := T104) (g' := (mkF m 52 #[.val (.int x0), .val (.int x1), .val (.int x2), .val (.int x3), .val (.int x4), .val (.int (Int32.ofNat N_101)), .val (.int dd102), .val (.int dd103), .val (.int (Int32.ofNat N_104)), .val (.int dd105), .val (.int dd106), .unset, .unset, .unset, .unset, .unset, .unset, .unset, .unset, .unset, .unset] [])) (fun t_ k_ => XS.ifNo X104.here hx rfl (hb hby at_49) rfl ((if0 _ _).trans (teq hc263).2) k_) ?_
    refine GoH.by (T' := T104) (g' := (mkF m 54 #[.val (.int x0), .val (.int x1), .val (.int x2), .val (.int x3), .val (.int x4), .val (.int (Int32.ofNat N_101)), .val (.int dd102), .val (.int dd103), .val (.int (Int32.ofNat N_104)), .val (.int dd105), .val (.int dd106), .unset, .unset, .unset, .unset, .unset, .unset, .unset, .unset, .unset, .unset] [(.int (Int32.ofNat N_101))])) (fun t_ k_ => XS.iload X104.here hx rfl (hb hby at_52) rfl k_) ?_
    refine GoH.by (T' := T104) (g' := (mkF m 64 #[.val (.int x0), .val (.int x1), .val (.int x2), .val (.int x3), .val (.int x4), .val (.int (Int32.ofNat N_101)), .val (.int dd102), .val (.int dd103), .val (.int (Int32.ofNat N_104)), .val (.int dd105), .val (.int dd106), .unset, .unset, .unset, .unset, .unset, .unset, .unset, .unset, .unset, .unset] [(.int (Int32.ofNat N_101))])) (fun t_ k_ => XS.goto X104.here hx rfl (pc0 := 54) (pc' := 64) rfl (hb hby at_54) (by decide) (by decide) k_) ?_
    exact J64 (N_101) X104 e104 N104 X00 (Keep.refl h0 []) hC00  (G101_0)
  · skip
    refine GoH.by (T' := T104) (g' := (mkF m 57 #[.val (.int x0), .val (.int x1), .val (.int x2), .val (.int x3), .val (.int x4), .val (.int (Int32.ofNat N_101)), .val (.int dd102), .val (.int dd103), .val (.int (Int32.ofNat N_104)), .val (.int dd105), .val (.int dd106), .unset, .unset, .unset, .unset, .unset, .unset, .unset, .unset, .unset, .unset] [])) (fun t_ k_ => XS.ifYes X104.here hx rfl (pc0 := 49) (pc' := 57) rfl (hb hby at_49) rfl ((if0 _ _).trans (feq hc263).2) (by decide) (by decide) k_) ?_
    refine GoH.by (T' := T104) (g' := (mkF m 58 #[.val (.int x0), .val (.int x1), .val (.int x2), .val (.int x3), .val (.int x4), .val (.int (Int32.ofNat N_101)), .val (.int dd102), .val (.int dd103), .val (.int (Int32.ofNat N_104)), .val (.int dd105), .val (.int dd106), .unset, .unset, .unset, .unset, .unset, .unset, .unset, .unset, .unset, .unset] [(.int x2)])) (fun t_ k_ => XS.iloadN X104.here hx rfl (hb hby at_57) rfl k_) ?_
    refine GoH.by (T' := T104) (g' := (mkF m 59 #[.val (.int x0), .val (.int x1), .val (.int x2), .val (.int x3), .val (.int x4), .val (.int (Int32.ofNat N_101)), .val (.int dd102), .val (.int dd103), .val (.int (Int32.ofNat N_104)), .val (.int dd105), .val (.int dd106), .unset, .unset, .unset, .unset, .unset, .unset, .unset, .unset, .unset, .unset] [(.int (1 : Int32)), (.int x2)])) (fun t_ k_ => XS.iconst X104.here hx rfl (hb hby at_58) k_) ?_
    refine GoH.by (T' := T104) (g' := (mkF m 60 #[.val (.int x0), .val (.int x1), .val (.int x2), .val (.int x3), .val (.int x4), .val (.int (Int32.ofNat N_101)), .val (.int dd102), .val (.int dd103), .val (.int (Int32.ofNat N_104)), .val (.int dd105), .val (.int dd106), .unset, .unset, .unset, .unset, .unset, .unset, .unset, .unset, .unset, .unset] [(.int ((x2.toUInt32 >>> ((1 : Int32) &&& 31).toUInt32).toInt32))])) (fun t_ k_ => XS.iushr X104.here hx rfl (hb hby at_59) rfl k_) ?_
    refine GoH.by (T' := T104) (g' := (mkF m 61 #[.val (.int x0), .val (.int x1), .val (.int x2), .val (.int x3), .val (.int x4), .val (.int (Int32.ofNat N_101)), .val (.int dd102), .val (.int dd103), .val (.int (Int32.ofNat N_104)), .val (.int dd105), .val (.int dd106), .unset, .unset, .unset, .unset, .unset, .unset, .unset, .unset, .unset, .unset] [(.int (3 : Int32)), (.int ((x2.toUInt32 >>> ((1 : Int32) &&& 31).toUInt32).toInt32))])) (fun t_ k_ => XS.iconst X104.here hx rfl (hb hby at_60) k_) ?_
    refine GoH.by (T' := T104) (g' := (mkF m 62 #[.val (.int x0), .val (.int x1), .val (.int x2), .val (.int x3), .val (.int x4), .val (.int (Int32.ofNat N_101)), .val (.int dd102), .val (.int dd103), .val (.int (Int32.ofNat N_104)), .val (.int dd105), .val (.int dd106), .unset, .unset, .unset, .unset, .unset, .unset, .unset, .unset, .unset, .unset] [(.int (((x2.toUInt32 >>> ((1 : Int32) &&& 31).toUInt32).toInt32) &&& (3 : Int32)))])) (fun t_ k_ => XS.iand X104.here hx rfl (hb hby at_61) rfl k_) ?_
    refine GoH.by (T' := T104) (g' := (mkF m 63 #[.val (.int x0), .val (.int x1), .val (.int x2), .val (.int x3), .val (.int x4), .val (.int (Int32.ofNat N_101)), .val (.int dd102), .val (.int dd103), .val (.int (Int32.ofNat N_104)), .val (.int dd105), .val (.int dd106), .unset, .unset, .unset, .unset, .unset, .unset, .unset, .unset, .unset, .unset] [(.int (3 : Int32)), (.int (((x2.toUInt32 >>> ((1 : Int32) &&& 31).toUInt32).toInt32) &&& (3 : Int32)))])) (fun t_ k_ => XS.iconst X104.here hx rfl (hb hby at_62) k_) ?_
    refine GoH.by (T' := T104) (g' := (mkF m 64 #[.val (.int x0), .val (.int x1), .val (.int x2), .val (.int x3), .val (.int x4), .val (.int (Int32.ofNat N_101)), .val (.int dd102), .val (.int dd103), .val (.int (Int32.ofNat N_104)), .val (.int dd105), .val (.int dd106), .unset, .unset, .unset, .unset, .unset, .unset, .unset, .unset, .unset, .unset] [(.int ((((x2.toUInt32 >>> ((1 : Int32) &&& 31).toUInt32).toInt32) &&& (3 : Int32)) % (3 : Int32)))])) (fun t_ k_ => iremM X104 hx rfl (hb hby at_63) rfl (by decide) k_) ?_
    obtain ⟨NN, hNN, eNN⟩ := own_mod3 ((x2.toUInt32 >>> ((1 : Int32) &&& 31).toUInt32).toInt32)
    rw [eNN]
    exact J64 (NN) X104 e104 N104 X00 (Keep.refl h0 []) hC00  (hNN)
set_option maxRecDepth 65536 in
set_option maxHeartbeats 40000000 in
theorem comes_1 {Post : Tables → Env → Array Value → State → Outcome → State → Prop} (hpost : ∀ tb e args s v u, (limb_1_1.after args s (.returned v) u = true ∧ limb_1_2.after args s (.returned v) u = true ∧ True) → ReturnedEndW s (.returned v) u (Jvm.fieldLocs frame_1_writes args s ++ Jvm.arrayLocs frame_1_arrays args s ++ Jvm.staticLocs frame_1_statics s) 48 3264 → Post tb e args s (.returned v) u) :
    ArmFor flags0 classFile x code maxLocals ret World_1 tables_1 room_1 Calls_1 rest_1 Pre_1 Post := by
  intro l hfl _ _ p e ha hc hk s m args below hf hA hF happ hP
  obtain ⟨hcalls, hrest, hpre⟩ := hP
  obtain ⟨-, -, -, hnamed, -, -, -, hat⟩ := (Spec.applies_iff hf).mp happ
  obtain ⟨hg, hn⟩ := and_e (Cond.before_iff.mp (show (Jvm.Cond.and given_1 narrow_1).before args s = true from hpre))
  obtain ⟨hcount, g0⟩ := and_e hg
  obtain ⟨a0, g1⟩ := and_e g0
  obtain ⟨a1, g2⟩ := and_e g1
  obtain ⟨a2, g3⟩ := and_e g2
  obtain ⟨a3, g4⟩ := and_e g3
  have a4 := g4
  obtain ⟨w0, w1, w2, w3, w4, rfl⟩ : ∃ w0 w1 w2 w3 w4 : Value, args = #[w0, w1, w2, w3, w4] := by
    have hs : args.size = 5 := by simpa [Cond.value, given_1] using hcount
    obtain ⟨L⟩ := args
    match L, hs with
    | [w0, w1, w2, w3, w4], _ => exact ⟨w0, w1, w2, w3, w4, rfl⟩
  have hw := fun d (hd : d ∈ tables_1) => atoms_spec (ws := Jvm.Cond.code x code maxLocals ret :: tables_1) hat d (List.mem_cons_of_mem _ hd)
  obtain ⟨hsets, hown0⟩ := atoms_of _ (rest_1_c_eq ▸ (show rest_1_c.before _ s = true from hrest))
  have hr0 := Cond.before_iff.mp hown0
  have hfit : Fit s := fun {y c} hc i hi => by
    obtain ⟨ha, rfl⟩ := Array.getElem?_eq_some_iff.mp hc
    have q := List.all_eq_true.mp ((Array.all_eq_true_iff_forall_mem.mp hF) _ (Array.getElem_mem ha)) i (List.mem_range.mpr hi)
    simpa [Array.getElem?_eq_getElem hi] using q
  obtain ⟨i0, ev0⟩ := is_v a0
  obtain rfl : w0 = (.int i0) := Option.some.inj ev0
  obtain ⟨i1, ev1⟩ := is_v a1
  obtain rfl : w1 = (.int i1) := Option.some.inj ev1
  obtain ⟨i2, ev2⟩ := is_v a2
  obtain rfl : w2 = (.int i2) := Option.some.inj ev2
  obtain ⟨i3, ev3⟩ := is_v a3
  obtain rfl : w3 = (.int i3) := Option.some.inj ev3
  obtain ⟨i4, ev4⟩ := is_v a4
  obtain rfl : w4 = (.int i4) := Option.some.inj ev4
  obtain ⟨G1, e10⟩ := is_v (Cond.before_iff.mp (hsets _ (List.mem_of_getElem? (i := 1) rfl)))
  have SC : Sta s s.heap "java/lang/String" "COMPACT_STRINGS" "Z" (.int G1) := Sta.start e10 (Or.inl (hsets _ (List.mem_of_getElem? (i := 0) rfl)))
  have hCS : ¬ (G1 = (0 : Int32)) := gotF (Cond.eq_ints e10 (Term.int_eval (0))) (not_v (Cond.before_iff.mp (hsets _ (List.mem_of_getElem? (i := 2) rfl))))
  have hcw := hsets _ (List.mem_of_getElem? (i := 2) rfl)
  have hCH : CHv s consts_1 s.vm s.heap := CHv.start (own_EW hw) (fun p hp => hcalls.1 p hp) hcw (hw _ (List.mem_of_getElem? (i := 25) rfl)) (hw _ (List.mem_of_getElem? (i := 11) rfl))
  obtain ⟨n, o, h1, h2, h3, _, L, rfl, ⟨rfl, N⟩, -, hq⟩ := rm_law l s _ hw tables_1 i0 i1 i2 i3 i4 G1 s.heap s.heap.size (Old.start s) SC hCS p e ha hc hk s m _ below hf ((Spec.applies_iff_loose hf).mp happ).1 ⟨rfl, State.Warmed39.refl s, rfl, hCH⟩ trivial
  refine ⟨n, _, h1, h2, h3, hpost _ _ _ _ _ _ ⟨Cond.after_iff.mpr rfl, Cond.after_iff.mpr (eq_i res_at (Term.int_eval (1)) rfl), trivial⟩ ⟨hq.1, hq.2.1, hq.2.2.1, (hq.2.2.2.sift fun y hy => Or.inr (N y hy)).mono (by decide) (by decide)⟩⟩
theorem main_1_1 : Claimed_1_1 := comes_1 fun _ _ _ _ _ _ h hF => ⟨h.1, hF⟩
theorem main_1_2 : Claimed_1_2 := comes_1 fun _ _ _ _ _ _ h hF => ⟨h.2.1, hF⟩
end Jvm.Pilot.@@N@@
namespace Jvm.Pilot.@@N@@
open Jvm Jvm.ClassFile Sem Op Lib Jvm.Free Jvm.Stand Jvm.Pilot.@@N@@.Jvm.D
/-! MADE BY PROGRAM (witnessworld.py) out of the Statement's table words and the real class files: 21 classes; the members and pool entries that the words name. The judged class is class 1, her method 4. -/
namespace start1
open Jvm.ClassFile
def u (s : String) : CpInfo := .utf8 (stringToUtf16 s)
/-- a pool by its gaps: so many unusable entries, then the entry; so many at the end -/
def gap : Nat → List CpInfo → List CpInfo
  | 0, r => r
  | n + 1, r => .unusable :: gap n r
def poolList (es : List (Nat × CpInfo)) (last : Nat) : List CpInfo := es.foldr (fun e r => gap e.1 (e.2 :: r)) (gap last [])
def pool (es : List (Nat × CpInfo)) (last : Nat) : Array CpInfo := ⟨poolList es last⟩
def fileOf (pool : Array CpInfo) (this : Nat) (attrs : Array Attribute := #[]) (ms : Array MethodInfo := #[]) (fl : Nat := 33) (sup : Nat := 0) (ifs : Array Nat := #[]) (fds : Array FieldInfo := #[]) : ClassFile where
  minorVersion := 0
  majorVersion := 65
  constantPool := pool
  accessFlags := fl
  thisClass := this
  superClass := sup
  interfaces := ifs
  fields := fds
  methods := ms
  attributes := attrs
def plain (name : String) (sup : Option ClassId) : Class where
  name := name
  kind := .ordinary
  loader := none
  accessFlags := 33
  super := sup
  interfaces := #[]
  cf := none
  fields := #[]
  methods := #[]
  instanceTypes := #[]
  staticTypes := #[]
  resolved := #[]
  callSites := []
  init := .initialized
  statics := none
  mirror := none

def pool0 : Array CpInfo := pool [(5, u "<init>"), (0, u "()V"), (1, .class_ 10), (1, u "java/lang/Object")] 113

def k0c0 : Code := { maxStack := 0, maxLocals := 1, code := object_method_1_code, exceptionTable := #[], attributes := #[] }
def k0m0 : Method := { name := "<init>", desc := "()V", sig := { parameters := [], returnType := none }, accessFlags := 1, code := some k0c0 }
/-- java/lang/Object -/
def k0 : Class := { plain "java/lang/Object" none with
  accessFlags := 33
  interfaces := #[]
  cf := some (fileOf pool0 8 #[] #[{ accessFlags := 1, nameIndex := 5, descriptorIndex := 6, attributes := #[] }] 33 0 #[] #[])
  fields := #[]
  methods := #[k0m0]
  instanceTypes := #[]
  staticTypes := #[]
  resolved := Array.replicate 124 none
  statics := none }

def pool1 : Array CpInfo := pool [(2, .class_ 4), (1, u "java/lang/Object"), (0, u "<init>"), (0, u "()V"), (0, .class_ 8), (0, u "java/lang/String"), (0, .methodref 7 10), (0, .nameAndType 5 11), (0, u "([C)V"), (0, .methodref 7 13), (0, .nameAndType 14 15), (0, u "valueOf"), (0, u "(C)Ljava/lang/String;"), (0, .methodref 17 18), (0, .class_ 19), (0, .nameAndType 20 21), (0, u "com/example/lorikeet/lorikeet/formats/TrecDocumentEqualsPinLaw"), (0, u "len"), (0, u "(I)I"), (0, .class_ 23), (0, u "com/example/lorikeet/lorikeet/formats/TrecDocument"), (0, .methodref 17 25), (0, .nameAndType 26 27), (0, u "mk"), (0, u "(III)Ljava/lang/String;"), (0, .methodref 22 29), (0, .nameAndType 5 30), (0, u "(Ljava/lang/String;Ljava/lang/String;)V"), (0, .methodref 17 32), (0, .nameAndType 33 34), (0, u "same"), (0, u "(IIIIII)Z"), (0, .methodref 22 36), (0, .nameAndType 37 38), (0, u "equals"), (0, u "(Ljava/lang/Object;)Z"), (3, u "law"), (0, u "(IIIII)Z")] 2

def k1m0 : Method := { name := "<init>", desc := "()V", sig := { parameters := [], returnType := none }, accessFlags := 1, code := none }
def k1c1 : Code := { maxStack := 2, maxLocals := 1, code := method_2_code, exceptionTable := #[], attributes := #[] }
def k1m1 : Method := { name := "len", desc := "(I)I", sig := { parameters := [.int], returnType := some .int }, accessFlags := 10, code := some k1c1 }
def k1c2 : Code := { maxStack := 3, maxLocals := 4, code := method_3_code, exceptionTable := #[], attributes := #[] }
def k1m2 : Method := { name := "mk", desc := "(III)Ljava/lang/String;", sig := { parameters := [.int, .int, .int], returnType := some (.object "java/lang/String") }, accessFlags := 10, code := some k1c2 }
def k1c3 : Code := { maxStack := 2, maxLocals := 6, code := method_4_code, exceptionTable := #[], attributes := #[] }
def k1m3 : Method := { name := "same", desc := "(IIIIII)Z", sig := { parameters := [.int, .int, .int, .int, .int, .int], returnType := some .boolean }, accessFlags := 10, code := some k1c3 }
def k1c4 : Code := { maxStack := 6, maxLocals := 21, code := code, exceptionTable := #[], attributes := #[] }
def k1m4 : Method := { name := "law", desc := "(IIIII)Z", sig := { parameters := [.int, .int, .int, .int, .int], returnType := some .boolean }, accessFlags := 9, code := some k1c4 }
/-- com/example/lorikeet/lorikeet/formats/TrecDocumentEqualsPinLaw -/
def k1 : Class := { plain "com/example/lorikeet/lorikeet/formats/TrecDocumentEqualsPinLaw" (some 0) with
  accessFlags := 49
  interfaces := #[]
  cf := some (fileOf pool1 17 #[] #[{ accessFlags := 1, nameIndex := 5, descriptorIndex := 6, attributes := #[] }, { accessFlags := 10, nameIndex := 20, descriptorIndex := 21, attributes := #[] }, { accessFlags := 10, nameIndex := 26, descriptorIndex := 27, attributes := #[] }, { accessFlags := 10, nameIndex := 33, descriptorIndex := 34, attributes := #[] }, { accessFlags := 9, nameIndex := 42, descriptorIndex := 43, attributes := #[] }] 49 2 #[] #[])
  fields := #[]
  methods := #[k1m0, k1m1, k1m2, k1m3, k1m4]
  instanceTypes := #[]
  staticTypes := #[]
  resolved := Array.replicate 46 none
  statics := none }

def pool2 : Array CpInfo := pool [(1, .methodref 2 3), (0, .class_ 4), (0, .nameAndType 5 6), (0, u "java/lang/Object"), (0, u "<init>"), (0, u "()V"), (0, .string 8), (0, u "docno"), (0, .methodref 10 11), (0, .class_ 12), (0, .nameAndType 13 14), (0, u "java/util/Objects"), (0, u "requireNonNull"), (0, u "(Ljava/lang/Object;Ljava/lang/String;)Ljava/lang/Object;"), (0, .class_ 16), (0, u "java/lang/String"), (0, .fieldref 18 19), (0, .class_ 20), (0, .nameAndType 8 21), (0, u "com/example/lorikeet/lorikeet/formats/TrecDocument"), (0, u "Ljava/lang/String;"), (0, .string 23), (0, u "text"), (0, .fieldref 18 25), (0, .nameAndType 23 21), (0, .methodref 15 27), (0, .nameAndType 28 29), (0, u "equals"), (0, u "(Ljava/lang/Object;)Z"), (8, u "(Ljava/lang/String;Ljava/lang/String;)V")] 26

def k2c0 : Code := { maxStack := 3, maxLocals := 3, code := prog_30_method_1_code, exceptionTable := #[], attributes := #[] }
def k2m0 : Method := { name := "<init>", desc := "(Ljava/lang/String;Ljava/lang/String;)V", sig := { parameters := [(.object "java/lang/String"), (.object "java/lang/String")], returnType := none }, accessFlags := 1, code := some k2c0 }
def k2c1 : Code := { maxStack := 2, maxLocals := 3, code := prog_30_method_4_code, exceptionTable := #[], attributes := #[] }
def k2m1 : Method := { name := "equals", desc := "(Ljava/lang/Object;)Z", sig := { parameters := [(.object "java/lang/Object")], returnType := some .boolean }, accessFlags := 1, code := some k2c1 }
/-- com/example/lorikeet/lorikeet/formats/TrecDocument -/
def k2 : Class := { plain "com/example/lorikeet/lorikeet/formats/TrecDocument" (some 0) with
  accessFlags := 33
  interfaces := #[]
  cf := some (fileOf pool2 18 #[] #[{ accessFlags := 1, nameIndex := 5, descriptorIndex := 38, attributes := #[] }, { accessFlags := 1, nameIndex := 28, descriptorIndex := 29, attributes := #[] }] 33 2 #[] #[{ accessFlags := 18, nameIndex := 8, descriptorIndex := 21, attributes := #[] }, { accessFlags := 18, nameIndex := 23, descriptorIndex := 21, attributes := #[] }])
  fields := #[{ name := "docno", type := (.object "java/lang/String"), accessFlags := 18, slot := 0, constantValue := 0 }, { name := "text", type := (.object "java/lang/String"), accessFlags := 18, slot := 1, constantValue := 0 }]
  methods := #[k2m0, k2m1]
  instanceTypes := #[(.object "java/lang/String"), (.object "java/lang/String")]
  staticTypes := #[]
  resolved := Array.replicate 65 none
  statics := none }

def pool3 : Array CpInfo := pool [(1, .class_ 2), (0, u "java/io/Serializable"), (0, .class_ 4), (0, u "java/lang/Object")] 2

/-- java/io/Serializable -/
def k3 : Class := { plain "java/io/Serializable" (some 0) with
  accessFlags := 1537
  interfaces := #[]
  cf := some (fileOf pool3 1 #[] #[] 1537 3 #[] #[])
  fields := #[]
  methods := #[]
  instanceTypes := #[]
  staticTypes := #[]
  resolved := Array.replicate 7 none
  statics := none }

def pool4 : Array CpInfo := pool [(1, .class_ 2), (0, u "java/lang/Comparable"), (0, .class_ 4), (0, u "java/lang/Object")] 7

/-- java/lang/Comparable -/
def k4 : Class := { plain "java/lang/Comparable" (some 0) with
  accessFlags := 1537
  interfaces := #[]
  cf := some (fileOf pool4 1 #[] #[] 1537 3 #[] #[])
  fields := #[]
  methods := #[]
  instanceTypes := #[]
  staticTypes := #[]
  resolved := Array.replicate 12 none
  statics := none }

def pool5 : Array CpInfo := pool [(2, .class_ 4), (1, u "java/lang/CharSequence"), (42, .class_ 48), (0, u "java/lang/CharSequence$1CodePointIterator"), (10, .class_ 60), (0, u "java/lang/CharSequence$1CharIterator"), (5, .class_ 67), (0, u "java/lang/Object")] 63

/-- java/lang/CharSequence -/
def k5 : Class := { plain "java/lang/CharSequence" (some 0) with
  accessFlags := 1537
  interfaces := #[]
  cf := some (fileOf pool5 2 #[.nestMembers #[47, 59]] #[] 1537 66 #[] #[])
  fields := #[]
  methods := #[]
  instanceTypes := #[]
  staticTypes := #[]
  resolved := Array.replicate 131 none
  statics := none }

def pool6 : Array CpInfo := pool [(1, .class_ 2), (0, u "java/lang/constant/Constable"), (0, .class_ 4), (0, u "java/lang/Object")] 6

/-- java/lang/constant/Constable -/
def k6 : Class := { plain "java/lang/constant/Constable" (some 0) with
  accessFlags := 1537
  interfaces := #[]
  cf := some (fileOf pool6 1 #[] #[] 1537 3 #[] #[])
  fields := #[]
  methods := #[]
  instanceTypes := #[]
  staticTypes := #[]
  resolved := Array.replicate 11 none
  statics := none }

def pool7 : Array CpInfo := pool [(1, .class_ 2), (0, u "java/lang/constant/ConstantDesc"), (0, .class_ 4), (0, u "java/lang/Object")] 32

/-- java/lang/constant/ConstantDesc -/
def k7 : Class := { plain "java/lang/constant/ConstantDesc" (some 0) with
  accessFlags := 1537
  interfaces := #[]
  cf := some (fileOf pool7 1 #[] #[] 1537 3 #[] #[])
  fields := #[]
  methods := #[]
  instanceTypes := #[]
  staticTypes := #[]
  resolved := Array.replicate 37 none
  statics := none }

def pool8 : Array CpInfo := pool [(1, .methodref 2 3), (0, .class_ 4), (0, .nameAndType 5 6), (0, u "java/lang/Object"), (0, u "<init>"), (0, u "()V"), (0, .string 8), (0, u ""), (0, .fieldref 10 11), (0, .class_ 12), (0, .nameAndType 13 14), (0, u "java/lang/String"), (0, u "value"), (0, u "[B"), (0, .fieldref 10 16), (0, .nameAndType 17 18), (0, u "coder"), (0, u "B"), (2, u "hash"), (0, u "I"), (2, u "hashIsZero"), (0, u "Z"), (0, .methodref 10 28), (0, .nameAndType 5 29), (0, u "([CIILjava/lang/Void;)V"), (8, .fieldref 10 39), (0, .nameAndType 40 26), (0, u "COMPACT_STRINGS"), (1, .class_ 44), (1, u "java/lang/StringUTF16"), (0, u "compress"), (1, .methodref 42 48), (0, .nameAndType 49 50), (0, u "coderFromArrayLen"), (0, u "([BI)B"), (2, u "toBytes"), (53, .class_ 109), (1, u "java/lang/StringLatin1"), (67, .methodref 42 178), (0, .nameAndType 45 179), (0, u "([CII)[B"), (29, .methodref 10 210), (0, .nameAndType 5 211), (0, u "([BB)V"), (157, u "(C)Z"), (171, .methodref 107 542), (0, .nameAndType 543 544), (0, u "equals"), (0, u "([B[B)Z"), (28, u "(Ljava/lang/Object;)Z"), (1, .class_ 576), (0, u "java/lang/CharSequence"), (22, u "CASE_INSENSITIVE_ORDER"), (0, u "Ljava/util/Comparator;"), (181, u "valueOf"), (0, u "(C)Ljava/lang/String;"), (226, u "([C)V"), (4, .methodref 107 1016), (0, .nameAndType 1017 369), (0, u "canEncode"), (0, .methodref 107 1019), (0, .nameAndType 53 1020), (0, u "(C)[B"), (80, u "serialPersistentFields"), (0, u "[Ljava/io/ObjectStreamField;"), (0, .class_ 1104), (0, u "java/lang/String$CaseInsensitiveComparator"), (1, .class_ 1107), (0, u "java/io/Serializable"), (0, .class_ 1109), (0, u "java/lang/Comparable"), (0, .class_ 1111), (0, u "java/lang/constant/Constable"), (0, .class_ 1113), (0, u "java/lang/constant/ConstantDesc"), (2, u "serialVersionUID"), (0, u "J"), (3, u "REPL"), (0, u "C"), (2, u "LATIN1"), (1, u "UTF16")] 323

def k8m0 : Method := { name := "<init>", desc := "()V", sig := { parameters := [], returnType := none }, accessFlags := 1, code := none }
def k8c1 : Code := { maxStack := 5, maxLocals := 2, code := jdk_42_method_3_code, exceptionTable := #[], attributes := #[] }
def k8m1 : Method := { name := "<init>", desc := "([C)V", sig := { parameters := [(.array .char)], returnType := none }, accessFlags := 1, code := some k8c1 }
def k8c2 : Code := { maxStack := 2, maxLocals := 3, code := jdk_42_method_66_code, exceptionTable := #[], attributes := #[] }
def k8m2 : Method := { name := "equals", desc := "(Ljava/lang/Object;)Z", sig := { parameters := [(.object "java/lang/Object")], returnType := some .boolean }, accessFlags := 1, code := some k8c2 }
def k8c3 : Code := { maxStack := 4, maxLocals := 1, code := jdk_42_method_139_code, exceptionTable := #[], attributes := #[] }
def k8m3 : Method := { name := "valueOf", desc := "(C)Ljava/lang/String;", sig := { parameters := [.char], returnType := some (.object "java/lang/String") }, accessFlags := 9, code := some k8c3 }
def k8c4 : Code := { maxStack := 4, maxLocals := 6, code := jdk_42_method_149_code, exceptionTable := #[], attributes := #[] }
def k8m4 : Method := { name := "<init>", desc := "([CIILjava/lang/Void;)V", sig := { parameters := [(.array .char), .int, .int, (.object "java/lang/Void")], returnType := none }, accessFlags := 2, code := some k8c4 }
def k8c5 : Code := { maxStack := 2, maxLocals := 3, code := jdk_42_method_151_code, exceptionTable := #[], attributes := #[] }
def k8m5 : Method := { name := "<init>", desc := "([BB)V", sig := { parameters := [(.array .byte), .byte], returnType := none }, accessFlags := 0, code := some k8c5 }
/-- java/lang/String -/
def k8 : Class := { plain "java/lang/String" (some 0) with
  accessFlags := 49
  interfaces := #[3, 4, 5, 6, 7]
  cf := some (fileOf pool8 10 #[.nestMembers #[1103]] #[{ accessFlags := 1, nameIndex := 5, descriptorIndex := 6, attributes := #[] }, { accessFlags := 1, nameIndex := 5, descriptorIndex := 1010, attributes := #[] }, { accessFlags := 1, nameIndex := 543, descriptorIndex := 573, attributes := #[] }, { accessFlags := 9, nameIndex := 782, descriptorIndex := 783, attributes := #[] }, { accessFlags := 2, nameIndex := 5, descriptorIndex := 29, attributes := #[] }, { accessFlags := 0, nameIndex := 5, descriptorIndex := 211, attributes := #[] }] 49 2 #[1106, 1108, 575, 1110, 1112] #[{ accessFlags := 18, nameIndex := 13, descriptorIndex := 14, attributes := #[] }, { accessFlags := 18, nameIndex := 17, descriptorIndex := 18, attributes := #[] }, { accessFlags := 2, nameIndex := 21, descriptorIndex := 22, attributes := #[] }, { accessFlags := 2, nameIndex := 25, descriptorIndex := 26, attributes := #[] }, { accessFlags := 26, nameIndex := 1116, descriptorIndex := 1117, attributes := #[] }, { accessFlags := 24, nameIndex := 40, descriptorIndex := 26, attributes := #[] }, { accessFlags := 26, nameIndex := 1101, descriptorIndex := 1102, attributes := #[] }, { accessFlags := 26, nameIndex := 1121, descriptorIndex := 1122, attributes := #[] }, { accessFlags := 25, nameIndex := 599, descriptorIndex := 600, attributes := #[] }, { accessFlags := 24, nameIndex := 1125, descriptorIndex := 18, attributes := #[] }, { accessFlags := 24, nameIndex := 1127, descriptorIndex := 18, attributes := #[] }])
  fields := #[{ name := "value", type := (.array .byte), accessFlags := 18, slot := 0, constantValue := 0 }, { name := "coder", type := .byte, accessFlags := 18, slot := 1, constantValue := 0 }, { name := "hash", type := .int, accessFlags := 2, slot := 2, constantValue := 0 }, { name := "hashIsZero", type := .boolean, accessFlags := 2, slot := 3, constantValue := 0 }, { name := "serialVersionUID", type := .long, accessFlags := 26, slot := 0, constantValue := 0 }, { name := "COMPACT_STRINGS", type := .boolean, accessFlags := 24, slot := 1, constantValue := 0 }, { name := "serialPersistentFields", type := (.array (.object "java/io/ObjectStreamField")), accessFlags := 26, slot := 2, constantValue := 0 }, { name := "REPL", type := .char, accessFlags := 26, slot := 3, constantValue := 0 }, { name := "CASE_INSENSITIVE_ORDER", type := (.object "java/util/Comparator"), accessFlags := 25, slot := 4, constantValue := 0 }, { name := "LATIN1", type := .byte, accessFlags := 24, slot := 5, constantValue := 0 }, { name := "UTF16", type := .byte, accessFlags := 24, slot := 6, constantValue := 0 }]
  methods := #[k8m0, k8m1, k8m2, k8m3, k8m4, k8m5]
  instanceTypes := #[(.array .byte), .byte, .int, .boolean]
  staticTypes := #[.long, .boolean, (.array (.object "java/io/ObjectStreamField")), .char, (.object "java/util/Comparator"), .byte, .byte]
  resolved := Array.replicate 1451 none
  statics := some 0 }

def pool9 : Array CpInfo := pool [(2, .class_ 4), (1, u "java/lang/Object"), (0, u "<init>"), (0, u "()V"), (35, .class_ 44), (1, u "java/util/Objects"), (0, u "requireNonNull"), (48, u "(Ljava/lang/Object;Ljava/lang/String;)Ljava/lang/Object;")] 89

def k9m0 : Method := { name := "<init>", desc := "()V", sig := { parameters := [], returnType := none }, accessFlags := 2, code := none }
def k9c1 : Code := { maxStack := 3, maxLocals := 2, code := jdk_31_method_11_code, exceptionTable := #[], attributes := #[] }
def k9m1 : Method := { name := "requireNonNull", desc := "(Ljava/lang/Object;Ljava/lang/String;)Ljava/lang/Object;", sig := { parameters := [(.object "java/lang/Object"), (.object "java/lang/String")], returnType := some (.object "java/lang/Object") }, accessFlags := 9, code := some k9c1 }
/-- java/util/Objects -/
def k9 : Class := { plain "java/util/Objects" (some 0) with
  accessFlags := 49
  interfaces := #[]
  cf := some (fileOf pool9 42 #[] #[{ accessFlags := 2, nameIndex := 5, descriptorIndex := 6, attributes := #[] }, { accessFlags := 9, nameIndex := 45, descriptorIndex := 94, attributes := #[] }] 49 2 #[] #[])
  fields := #[]
  methods := #[k9m0, k9m1]
  instanceTypes := #[]
  staticTypes := #[]
  resolved := Array.replicate 184 none
  statics := none }

def pool10 : Array CpInfo := pool [(4, .class_ 6), (1, u "java/lang/Object"), (0, u "<init>"), (0, u "()V"), (5, .class_ 16), (1, u "java/lang/StringLatin1"), (73, u "canEncode"), (14, u "(C)Z"), (15, u "$assertionsDisabled"), (0, u "Z"), (98, .class_ 223), (1, u "java/lang/StringLatin1$LinesSpliterator"), (57, u "equals"), (0, u "([B[B)Z"), (97, u "toBytes"), (1, u "(C)[B"), (7, .class_ 391), (0, u "java/lang/StringLatin1$CharsSpliterator")] 3

def k10m0 : Method := { name := "<init>", desc := "()V", sig := { parameters := [], returnType := none }, accessFlags := 0, code := none }
def k10c1 : Code := { maxStack := 2, maxLocals := 1, code := jdk_43_method_3_code, exceptionTable := #[], attributes := #[] }
def k10m1 : Method := { name := "canEncode", desc := "(C)Z", sig := { parameters := [.char], returnType := some .boolean }, accessFlags := 9, code := some k10c1 }
def k10c2 : Code := { maxStack := 3, maxLocals := 3, code := jdk_43_method_13_code, exceptionTable := #[], attributes := #[] }
def k10m2 : Method := { name := "equals", desc := "([B[B)Z", sig := { parameters := [(.array .byte), (.array .byte)], returnType := some .boolean }, accessFlags := 9, code := some k10c2 }
def k10c3 : Code := { maxStack := 4, maxLocals := 1, code := jdk_43_method_46_code, exceptionTable := #[], attributes := #[] }
def k10m3 : Method := { name := "toBytes", desc := "(C)[B", sig := { parameters := [.char], returnType := some (.array .byte) }, accessFlags := 9, code := some k10c3 }
/-- java/lang/StringLatin1 -/
def k10 : Class := { plain "java/lang/StringLatin1" (some 0) with
  accessFlags := 48
  interfaces := #[]
  cf := some (fileOf pool10 14 #[.nestMembers #[390, 221]] #[{ accessFlags := 0, nameIndex := 7, descriptorIndex := 8, attributes := #[] }, { accessFlags := 9, nameIndex := 90, descriptorIndex := 105, attributes := #[] }, { accessFlags := 9, nameIndex := 281, descriptorIndex := 282, attributes := #[] }, { accessFlags := 9, nameIndex := 380, descriptorIndex := 382, attributes := #[] }] 48 4 #[] #[{ accessFlags := 4120, nameIndex := 121, descriptorIndex := 122, attributes := #[] }])
  fields := #[{ name := "$assertionsDisabled", type := .boolean, accessFlags := 4120, slot := 0, constantValue := 0 }]
  methods := #[k10m0, k10m1, k10m2, k10m3]
  instanceTypes := #[]
  staticTypes := #[.boolean]
  resolved := Array.replicate 395 none
  statics := none }

def pool11 : Array CpInfo := pool [(6, .class_ 8), (1, u "java/lang/Object"), (0, u "<init>"), (0, u "()V"), (1, .class_ 14), (1, u "java/lang/StringUTF16"), (31, u "$assertionsDisabled"), (0, u "Z"), (13, u "HI_BYTE_SHIFT"), (0, u "I"), (2, u "LO_BYTE_SHIFT"), (49, .methodref 12 116), (0, .nameAndType 117 118), (0, u "compress"), (0, u "([CI[BII)I"), (3, u "([CII)[B"), (138, u "coderFromArrayLen"), (0, u "([BI)B"), (106, .class_ 371), (1, u "java/lang/StringUTF16$LinesSpliterator"), (58, u "MAX_LENGTH"), (196, .class_ 628), (0, u "java/lang/StringUTF16$CodePointsSpliterator"), (0, .class_ 630), (0, u "java/lang/StringUTF16$CharsSpliterator")] 4

def k11m0 : Method := { name := "<init>", desc := "()V", sig := { parameters := [], returnType := none }, accessFlags := 0, code := none }
def k11c1 : Code := { maxStack := 2, maxLocals := 2, code := jdk_52_method_15_code, exceptionTable := #[], attributes := #[] }
def k11m1 : Method := { name := "coderFromArrayLen", desc := "([BI)B", sig := { parameters := [(.array .byte), .int], returnType := some .byte }, accessFlags := 8, code := some k11c1 }
def k11c2 : Code := { maxStack := 5, maxLocals := 6, code := jdk_52_method_16_code, exceptionTable := #[], attributes := #[] }
def k11m2 : Method := { name := "compress", desc := "([CII)[B", sig := { parameters := [(.array .char), .int, .int], returnType := some (.array .byte) }, accessFlags := 9, code := some k11c2 }
def k11c3 : Code := { maxStack := 3, maxLocals := 7, code := jdk_52_method_21_code, exceptionTable := #[], attributes := #[] }
def k11m3 : Method := { name := "compress", desc := "([CI[BII)I", sig := { parameters := [(.array .char), .int, (.array .byte), .int, .int], returnType := some .int }, accessFlags := 9, code := some k11c3 }
/-- java/lang/StringUTF16 -/
def k11 : Class := { plain "java/lang/StringUTF16" (some 0) with
  accessFlags := 48
  interfaces := #[]
  cf := some (fileOf pool11 12 #[.nestMembers #[627, 629, 369]] #[{ accessFlags := 0, nameIndex := 9, descriptorIndex := 10, attributes := #[] }, { accessFlags := 8, nameIndex := 261, descriptorIndex := 262, attributes := #[] }, { accessFlags := 9, nameIndex := 117, descriptorIndex := 122, attributes := #[] }, { accessFlags := 9, nameIndex := 117, descriptorIndex := 118, attributes := #[] }] 48 6 #[] #[{ accessFlags := 26, nameIndex := 61, descriptorIndex := 62, attributes := #[] }, { accessFlags := 26, nameIndex := 65, descriptorIndex := 62, attributes := #[] }, { accessFlags := 24, nameIndex := 430, descriptorIndex := 62, attributes := #[] }, { accessFlags := 4120, nameIndex := 46, descriptorIndex := 47, attributes := #[] }])
  fields := #[{ name := "HI_BYTE_SHIFT", type := .int, accessFlags := 26, slot := 0, constantValue := 0 }, { name := "LO_BYTE_SHIFT", type := .int, accessFlags := 26, slot := 1, constantValue := 0 }, { name := "MAX_LENGTH", type := .int, accessFlags := 24, slot := 2, constantValue := 0 }, { name := "$assertionsDisabled", type := .boolean, accessFlags := 4120, slot := 3, constantValue := 0 }]
  methods := #[k11m0, k11m1, k11m2, k11m3]
  instanceTypes := #[]
  staticTypes := #[.int, .int, .int, .boolean]
  resolved := Array.replicate 635 none
  statics := none }

def pool12 : Array CpInfo := pool [(2, .class_ 4), (1, u "java/lang/Object"), (0, u "<init>"), (0, u "()V"), (17, .class_ 26), (1, u "jdk/internal/util/Preconditions"), (28, .class_ 56), (0, u "jdk/internal/util/Preconditions$4"), (57, .class_ 115), (0, u "jdk/internal/util/Preconditions$1"), (7, u "SIOOBE_FORMATTER"), (0, u "Ljava/util/function/BiFunction;"), (0, .class_ 126), (0, u "jdk/internal/util/Preconditions$2"), (3, u "AIOOBE_FORMATTER"), (0, .class_ 132), (0, u "jdk/internal/util/Preconditions$3"), (3, u "IOOBE_FORMATTER")] 57

def k12m0 : Method := { name := "<init>", desc := "()V", sig := { parameters := [], returnType := none }, accessFlags := 1, code := none }
/-- jdk/internal/util/Preconditions -/
def k12 : Class := { plain "jdk/internal/util/Preconditions" (some 0) with
  accessFlags := 33
  interfaces := #[]
  cf := some (fileOf pool12 24 #[.nestMembers #[55, 131, 125, 114]] #[{ accessFlags := 1, nameIndex := 5, descriptorIndex := 6, attributes := #[] }] 33 2 #[] #[{ accessFlags := 25, nameIndex := 123, descriptorIndex := 124, attributes := #[] }, { accessFlags := 25, nameIndex := 130, descriptorIndex := 124, attributes := #[] }, { accessFlags := 25, nameIndex := 136, descriptorIndex := 124, attributes := #[] }])
  fields := #[{ name := "SIOOBE_FORMATTER", type := (.object "java/util/function/BiFunction"), accessFlags := 25, slot := 0, constantValue := 0 }, { name := "AIOOBE_FORMATTER", type := (.object "java/util/function/BiFunction"), accessFlags := 25, slot := 1, constantValue := 0 }, { name := "IOOBE_FORMATTER", type := (.object "java/util/function/BiFunction"), accessFlags := 25, slot := 2, constantValue := 0 }]
  methods := #[k12m0]
  instanceTypes := #[]
  staticTypes := #[(.object "java/util/function/BiFunction"), (.object "java/util/function/BiFunction"), (.object "java/util/function/BiFunction")]
  resolved := Array.replicate 194 none
  statics := some 1 }

def pool13 : Array CpInfo := pool [(9, u "<init>"), (6, .class_ 18), (1, u "java/lang/Object"), (0, u "()V"), (1, .class_ 23), (1, u "jdk/internal/util/ArraysSupport"), (0, u "LOG2_ARRAY_LONG_INDEX_SCALE"), (0, u "I"), (2, u "U"), (0, u "Ljdk/internal/misc/Unsafe;"), (8, u "BIG_ENDIAN"), (0, u "Z"), (8, u "LOG2_BYTE_BIT_SIZE"), (4, u "LOG2_ARRAY_INT_INDEX_SCALE"), (54, u "JLA"), (0, u "Ljdk/internal/access/JavaLangAccess;"), (11, u "LOG2_ARRAY_BOOLEAN_INDEX_SCALE"), (9, u "LOG2_ARRAY_BYTE_INDEX_SCALE"), (5, u "LOG2_ARRAY_CHAR_INDEX_SCALE"), (5, u "LOG2_ARRAY_SHORT_INDEX_SCALE"), (18, u "LOG2_ARRAY_FLOAT_INDEX_SCALE"), (24, u "LOG2_ARRAY_DOUBLE_INDEX_SCALE"), (89, u "T_BOOLEAN"), (2, u "T_CHAR"), (1, u "T_FLOAT"), (1, u "T_DOUBLE"), (1, u "T_BYTE"), (1, u "T_SHORT"), (1, u "T_INT"), (1, u "T_LONG"), (1, u "SOFT_MAX_ARRAY_LENGTH")] 83

def k13m0 : Method := { name := "<init>", desc := "()V", sig := { parameters := [], returnType := none }, accessFlags := 2, code := none }
/-- jdk/internal/util/ArraysSupport -/
def k13 : Class := { plain "jdk/internal/util/ArraysSupport" (some 0) with
  accessFlags := 33
  interfaces := #[]
  cf := some (fileOf pool13 21 #[] #[{ accessFlags := 2, nameIndex := 9, descriptorIndex := 19, attributes := #[] }] 33 16 #[] #[{ accessFlags := 24, nameIndex := 28, descriptorIndex := 29, attributes := #[] }, { accessFlags := 26, nameIndex := 38, descriptorIndex := 39, attributes := #[] }, { accessFlags := 25, nameIndex := 121, descriptorIndex := 25, attributes := #[] }, { accessFlags := 25, nameIndex := 131, descriptorIndex := 25, attributes := #[] }, { accessFlags := 25, nameIndex := 137, descriptorIndex := 25, attributes := #[] }, { accessFlags := 25, nameIndex := 143, descriptorIndex := 25, attributes := #[] }, { accessFlags := 25, nameIndex := 53, descriptorIndex := 25, attributes := #[] }, { accessFlags := 25, nameIndex := 24, descriptorIndex := 25, attributes := #[] }, { accessFlags := 25, nameIndex := 162, descriptorIndex := 25, attributes := #[] }, { accessFlags := 25, nameIndex := 187, descriptorIndex := 25, attributes := #[] }, { accessFlags := 26, nameIndex := 48, descriptorIndex := 25, attributes := #[] }, { accessFlags := 25, nameIndex := 277, descriptorIndex := 25, attributes := #[] }, { accessFlags := 25, nameIndex := 280, descriptorIndex := 25, attributes := #[] }, { accessFlags := 25, nameIndex := 282, descriptorIndex := 25, attributes := #[] }, { accessFlags := 25, nameIndex := 284, descriptorIndex := 25, attributes := #[] }, { accessFlags := 25, nameIndex := 286, descriptorIndex := 25, attributes := #[] }, { accessFlags := 25, nameIndex := 288, descriptorIndex := 25, attributes := #[] }, { accessFlags := 25, nameIndex := 290, descriptorIndex := 25, attributes := #[] }, { accessFlags := 25, nameIndex := 292, descriptorIndex := 25, attributes := #[] }, { accessFlags := 26, nameIndex := 108, descriptorIndex := 109, attributes := #[] }, { accessFlags := 25, nameIndex := 294, descriptorIndex := 25, attributes := #[] }])
  fields := #[{ name := "U", type := (.object "jdk/internal/misc/Unsafe"), accessFlags := 24, slot := 0, constantValue := 0 }, { name := "BIG_ENDIAN", type := .boolean, accessFlags := 26, slot := 1, constantValue := 0 }, { name := "LOG2_ARRAY_BOOLEAN_INDEX_SCALE", type := .int, accessFlags := 25, slot := 2, constantValue := 0 }, { name := "LOG2_ARRAY_BYTE_INDEX_SCALE", type := .int, accessFlags := 25, slot := 3, constantValue := 0 }, { name := "LOG2_ARRAY_CHAR_INDEX_SCALE", type := .int, accessFlags := 25, slot := 4, constantValue := 0 }, { name := "LOG2_ARRAY_SHORT_INDEX_SCALE", type := .int, accessFlags := 25, slot := 5, constantValue := 0 }, { name := "LOG2_ARRAY_INT_INDEX_SCALE", type := .int, accessFlags := 25, slot := 6, constantValue := 0 }, { name := "LOG2_ARRAY_LONG_INDEX_SCALE", type := .int, accessFlags := 25, slot := 7, constantValue := 0 }, { name := "LOG2_ARRAY_FLOAT_INDEX_SCALE", type := .int, accessFlags := 25, slot := 8, constantValue := 0 }, { name := "LOG2_ARRAY_DOUBLE_INDEX_SCALE", type := .int, accessFlags := 25, slot := 9, constantValue := 0 }, { name := "LOG2_BYTE_BIT_SIZE", type := .int, accessFlags := 26, slot := 10, constantValue := 0 }, { name := "T_BOOLEAN", type := .int, accessFlags := 25, slot := 11, constantValue := 0 }, { name := "T_CHAR", type := .int, accessFlags := 25, slot := 12, constantValue := 0 }, { name := "T_FLOAT", type := .int, accessFlags := 25, slot := 13, constantValue := 0 }, { name := "T_DOUBLE", type := .int, accessFlags := 25, slot := 14, constantValue := 0 }, { name := "T_BYTE", type := .int, accessFlags := 25, slot := 15, constantValue := 0 }, { name := "T_SHORT", type := .int, accessFlags := 25, slot := 16, constantValue := 0 }, { name := "T_INT", type := .int, accessFlags := 25, slot := 17, constantValue := 0 }, { name := "T_LONG", type := .int, accessFlags := 25, slot := 18, constantValue := 0 }, { name := "JLA", type := (.object "jdk/internal/access/JavaLangAccess"), accessFlags := 26, slot := 19, constantValue := 0 }, { name := "SOFT_MAX_ARRAY_LENGTH", type := .int, accessFlags := 25, slot := 20, constantValue := 0 }]
  methods := #[k13m0]
  instanceTypes := #[]
  staticTypes := #[(.object "jdk/internal/misc/Unsafe"), .boolean, .int, .int, .int, .int, .int, .int, .int, .int, .int, .int, .int, .int, .int, .int, .int, .int, .int, (.object "jdk/internal/access/JavaLangAccess"), .int]
  resolved := Array.replicate 378 none
  statics := none }

def pool14 : Array CpInfo := pool [(1, u "java/lang/Cloneable"), (0, .class_ 1), (0, u "java/lang/Object"), (0, .class_ 3)] 3

/-- java/lang/Cloneable -/
def k14 : Class := { plain "java/lang/Cloneable" (some 0) with
  accessFlags := 1537
  interfaces := #[]
  cf := some (fileOf pool14 2 #[] #[] 1537 4 #[] #[])
  fields := #[]
  methods := #[]
  instanceTypes := #[]
  staticTypes := #[]
  resolved := Array.replicate 8 none
  statics := none }

/-- the primitive byte -/
def k15 : Class := { plain "byte" none with kind := .primitive 'B', accessFlags := 0x411 }
/-- [B -/
def k16 : Class := { plain "[B" (some 0) with kind := .array 15 .byte, interfaces := #[14, 3], accessFlags := 1041 }

/-- the primitive char -/
def k17 : Class := { plain "char" none with kind := .primitive 'C', accessFlags := 0x411 }
/-- [C -/
def k18 : Class := { plain "[C" (some 0) with kind := .array 17 .char, interfaces := #[14, 3], accessFlags := 1041 }

/-- the primitive int -/
def k19 : Class := { plain "int" none with kind := .primitive 'I', accessFlags := 0x411 }
/-- [I -/
def k20 : Class := { plain "[I" (some 0) with kind := .array 19 .int, interfaces := #[14, 3], accessFlags := 1041 }

def heap : Heap := #[{ cls := 8, slots := #[.long 0, .int 1, .null, .int 0, .null, .int 0, .int 0], vm := .statics 8 },
  { cls := 12, slots := #[.null, .null, .null], vm := .statics 12 }]
def classes : Array Class := #[k0, k1, k2, k3, k4, k5, k6, k7, k8, k9, k10, k11, k12, k13, k14, k15, k16, k17, k18, k19, k20]
def interned : List (Array UInt16 × Addr) := []
def slotsUsed : Nat := 10
def theMethod : MethodId := ⟨1, 4⟩
def args0 : Array Value := #[.int 0, .int 1, .int 2, .int 3, .int 4]
def aboutOver (below : List Frame) : State where
  vm := { classes := classes, interned := interned.toArray }
  heap := heap
  slotsUsed := slotsUsed
  threads := #[{ frames := .invoking theMethod args0 :: below }]
def below0 : List Frame := [.native { method := ⟨0, 0⟩, args := #[] }]
def about1 : State := aboutOver below0
def p0 : Program := .bare "" "" ""
def e0 : Env := launch0.env 0 0 0
theorem w_frames : about1.frames = Frame.invoking theMethod args0 :: below0 := rfl
set_option maxRecDepth 65536 in
theorem w_args : argsFit about1.vm theMethod args0 = true := by decide +kernel
set_option maxRecDepth 65536 in
theorem w_heap : heapFits about1 = true := by decide +kernel
set_option maxRecDepth 65536 in
theorem w_runnable : about1.curStatus? = some .runnable := by decide +kernel
set_option maxRecDepth 65536 in
theorem w_alone : about1.alone = true := by decide +kernel
set_option maxRecDepth 65536 in
theorem w_named : about1.methodNamed? x = some theMethod := by decide +kernel
set_option maxRecDepth 65536 in
theorem w_hears : about1.hears theMethod below0 = true := by decide +kernel
set_option maxRecDepth 65536 in
theorem w_ripe : about1.ripe theMethod args0 below0 = true := by decide +kernel
theorem w_running : about1.status = .running := rfl
set_option maxRecDepth 65536 in
theorem w_room : about1.hasRoom e0.platform room_1 = true :=
  launch0.hasRoom_least _ room_1 (by decide +kernel) (by decide +kernel) (by decide +kernel) (by decide +kernel) (by decide +kernel) (by decide +kernel)
theorem allAtoms_all (ts : List Jvm.Cond) (a : Array Jvm.Value) (st : Jvm.State) : (allAtoms ts).before a st = ts.all (fun c => c.before a st) := by
  induction ts with
  | nil => rfl
  | cons c t ih =>
    show (Jvm.Cond.and c (allAtoms t)).before a st = _
    rw [Jvm.Cond.before_and, ih, List.all_cons]
def words1 : List Jvm.Cond := Jvm.Cond.code x code maxLocals ret :: tables_1
/-- a 'code' word, met by the world's own term for the bytes: nothing is compared byte by byte -/
theorem code_word {y : MethodName} {bytes : ByteArray} {mx : Nat} {rt : Option FieldType} {a : Array Value} {s : State} {m : MethodId} {meth : Method} {c : Code} (h1 : s.methodNamed? y = some m) (h2 : s.vm.method? m = some meth) (h3 : meth.code = some c) (h4 : c.code = bytes)
    (h5 : (c.maxLocals == mx && c.exceptionTable.isEmpty && decide (c.maxStack ≤ mostOperands) && decide (meth.sig.returnType = rt) && !meth.locks && decide (parseMethodDescriptor y.desc = some meth.sig)) = true) : (Jvm.Cond.code y bytes mx rt).before a s = true := by
  simp only [Bool.and_eq_true, beq_iff_eq, Bool.not_eq_true', decide_eq_true_eq] at h5
  obtain ⟨⟨⟨⟨⟨g1, g2⟩, g3⟩, g4⟩, g5⟩, g6⟩ := h5
  simp [Cond.before, Cond.holds, Cond.value, h1, h2, h3, h4, g1, g2, g3, g4, g5, g6]
def isCode : Jvm.Cond → Bool
  | .code _ _ _ _ => true
  | _ => false
theorem all_split {L : List Jvm.Cond} {P : Jvm.Cond → Bool} (h1 : L.all (fun c => isCode c || P c) = true) (h2 : ∀ c ∈ L.filter isCode, P c = true) : L.all P = true := by
  refine List.all_eq_true.mpr fun c hc => ?_
  have h := List.all_eq_true.mp h1 c hc
  rcases Bool.eq_false_or_eq_true (isCode c) with hi | hi
  · exact h2 c (List.mem_filter.mpr ⟨hc, hi⟩)
  · simpa [hi] using h
set_option maxRecDepth 65536 in
theorem w_c0 : (Jvm.Cond.code x code maxLocals ret).before args0 about1 = true := code_word (m := ⟨1, 4⟩) (meth := k1m4) (c := k1c4) (by decide +kernel) rfl rfl rfl (by decide +kernel)
set_option maxRecDepth 65536 in
theorem w_c1 : (Jvm.Cond.code ({ cls := "com/example/lorikeet/lorikeet/formats/TrecDocumentEqualsPinLaw", name := "len", desc := "(I)I" } : Jvm.MethodName) method_2_code (1 : Nat) (Option.some Jvm.ClassFile.FieldType.int)).before args0 about1 = true := code_word (m := ⟨1, 1⟩) (meth := k1m1) (c := k1c1) (by decide +kernel) rfl rfl rfl (by decide +kernel)
set_option maxRecDepth 65536 in
theorem w_c2 : (Jvm.Cond.code ({ cls := "com/example/lorikeet/lorikeet/formats/TrecDocumentEqualsPinLaw", name := "mk", desc := "(III)Ljava/lang/String;" } : Jvm.MethodName) method_3_code (4 : Nat) (Option.some (Jvm.ClassFile.FieldType.object "java/lang/String"))).before args0 about1 = true := code_word (m := ⟨1, 2⟩) (meth := k1m2) (c := k1c2) (by decide +kernel) rfl rfl rfl (by decide +kernel)
set_option maxRecDepth 65536 in
theorem w_c3 : (Jvm.Cond.code ({ cls := "java/lang/String", name := "<init>", desc := "([C)V" } : Jvm.MethodName) jdk_42_method_3_code (2 : Nat) (Option.none : Option Jvm.ClassFile.FieldType)).before args0 about1 = true := code_word (m := ⟨8, 1⟩) (meth := k8m1) (c := k8c1) (by decide +kernel) rfl rfl rfl (by decide +kernel)
set_option maxRecDepth 65536 in
theorem w_c4 : (Jvm.Cond.code ({ cls := "java/lang/String", name := "<init>", desc := "([CIILjava/lang/Void;)V" } : Jvm.MethodName) jdk_42_method_149_code (6 : Nat) (Option.none : Option Jvm.ClassFile.FieldType)).before args0 about1 = true := code_word (m := ⟨8, 4⟩) (meth := k8m4) (c := k8c4) (by decide +kernel) rfl rfl rfl (by decide +kernel)
set_option maxRecDepth 65536 in
theorem w_c5 : (Jvm.Cond.code ({ cls := "java/lang/Object", name := "<init>", desc := "()V" } : Jvm.MethodName) object_method_1_code (1 : Nat) (Option.none : Option Jvm.ClassFile.FieldType)).before args0 about1 = true := code_word (m := ⟨0, 0⟩) (meth := k0m0) (c := k0c0) (by decide +kernel) rfl rfl rfl (by decide +kernel)
set_option maxRecDepth 65536 in
theorem w_c6 : (Jvm.Cond.code ({ cls := "com/example/lorikeet/lorikeet/formats/TrecDocument", name := "<init>", desc := "(Ljava/lang/String;Ljava/lang/String;)V" } : Jvm.MethodName) prog_30_method_1_code (3 : Nat) (Option.none : Option Jvm.ClassFile.FieldType)).before args0 about1 = true := code_word (m := ⟨2, 0⟩) (meth := k2m0) (c := k2c0) (by decide +kernel) rfl rfl rfl (by decide +kernel)
set_option maxRecDepth 65536 in
theorem w_c7 : (Jvm.Cond.code ({ cls := "java/util/Objects", name := "requireNonNull", desc := "(Ljava/lang/Object;Ljava/lang/String;)Ljava/lang/Object;" } : Jvm.MethodName) jdk_31_method_11_code (2 : Nat) (Option.some (Jvm.ClassFile.FieldType.object "java/lang/Object"))).before args0 about1 = true := code_word (m := ⟨9, 1⟩) (meth := k9m1) (c := k9c1) (by decide +kernel) rfl rfl rfl (by decide +kernel)
set_option maxRecDepth 65536 in
theorem w_c8 : (Jvm.Cond.code ({ cls := "com/example/lorikeet/lorikeet/formats/TrecDocumentEqualsPinLaw", name := "same", desc := "(IIIIII)Z" } : Jvm.MethodName) method_4_code (6 : Nat) (Option.some Jvm.ClassFile.FieldType.boolean)).before args0 about1 = true := code_word (m := ⟨1, 3⟩) (meth := k1m3) (c := k1c3) (by decide +kernel) rfl rfl rfl (by decide +kernel)
set_option maxRecDepth 65536 in
theorem w_c9 : (Jvm.Cond.code ({ cls := "com/example/lorikeet/lorikeet/formats/TrecDocument", name := "equals", desc := "(Ljava/lang/Object;)Z" } : Jvm.MethodName) prog_30_method_4_code (3 : Nat) (Option.some Jvm.ClassFile.FieldType.boolean)).before args0 about1 = true := code_word (m := ⟨2, 1⟩) (meth := k2m1) (c := k2c1) (by decide +kernel) rfl rfl rfl (by decide +kernel)
set_option maxRecDepth 65536 in
theorem w_c10 : (Jvm.Cond.code ({ cls := "java/lang/String", name := "equals", desc := "(Ljava/lang/Object;)Z" } : Jvm.MethodName) jdk_42_method_66_code (3 : Nat) (Option.some Jvm.ClassFile.FieldType.boolean)).before args0 about1 = true := code_word (m := ⟨8, 2⟩) (meth := k8m2) (c := k8c2) (by decide +kernel) rfl rfl rfl (by decide +kernel)
set_option maxRecDepth 65536 in
theorem w_c11 : (Jvm.Cond.code ({ cls := "java/lang/StringLatin1", name := "equals", desc := "([B[B)Z" } : Jvm.MethodName) jdk_43_method_13_code (3 : Nat) (Option.some Jvm.ClassFile.FieldType.boolean)).before args0 about1 = true := code_word (m := ⟨10, 2⟩) (meth := k10m2) (c := k10c2) (by decide +kernel) rfl rfl rfl (by decide +kernel)
set_option maxRecDepth 65536 in
theorem w_c12 : (Jvm.Cond.code ({ cls := "java/lang/StringUTF16", name := "compress", desc := "([CII)[B" } : Jvm.MethodName) jdk_52_method_16_code (6 : Nat) (Option.some (Jvm.ClassFile.FieldType.array Jvm.ClassFile.FieldType.byte))).before args0 about1 = true := code_word (m := ⟨11, 2⟩) (meth := k11m2) (c := k11c2) (by decide +kernel) rfl rfl rfl (by decide +kernel)
set_option maxRecDepth 65536 in
theorem w_c13 : (Jvm.Cond.code ({ cls := "java/lang/StringUTF16", name := "compress", desc := "([CI[BII)I" } : Jvm.MethodName) jdk_52_method_21_code (7 : Nat) (Option.some Jvm.ClassFile.FieldType.int)).before args0 about1 = true := code_word (m := ⟨11, 3⟩) (meth := k11m3) (c := k11c3) (by decide +kernel) rfl rfl rfl (by decide +kernel)
set_option maxRecDepth 65536 in
theorem w_c14 : (Jvm.Cond.code ({ cls := "java/lang/StringUTF16", name := "coderFromArrayLen", desc := "([BI)B" } : Jvm.MethodName) jdk_52_method_15_code (2 : Nat) (Option.some Jvm.ClassFile.FieldType.byte)).before args0 about1 = true := code_word (m := ⟨11, 1⟩) (meth := k11m1) (c := k11c1) (by decide +kernel) rfl rfl rfl (by decide +kernel)
set_option maxRecDepth 65536 in
theorem w_c15 : (Jvm.Cond.code ({ cls := "java/lang/String", name := "valueOf", desc := "(C)Ljava/lang/String;" } : Jvm.MethodName) jdk_42_method_139_code (1 : Nat) (Option.some (Jvm.ClassFile.FieldType.object "java/lang/String"))).before args0 about1 = true := code_word (m := ⟨8, 3⟩) (meth := k8m3) (c := k8c3) (by decide +kernel) rfl rfl rfl (by decide +kernel)
set_option maxRecDepth 65536 in
theorem w_c16 : (Jvm.Cond.code ({ cls := "java/lang/StringLatin1", name := "canEncode", desc := "(C)Z" } : Jvm.MethodName) jdk_43_method_3_code (1 : Nat) (Option.some Jvm.ClassFile.FieldType.boolean)).before args0 about1 = true := code_word (m := ⟨10, 1⟩) (meth := k10m1) (c := k10c1) (by decide +kernel) rfl rfl rfl (by decide +kernel)
set_option maxRecDepth 65536 in
theorem w_c17 : (Jvm.Cond.code ({ cls := "java/lang/StringLatin1", name := "toBytes", desc := "(C)[B" } : Jvm.MethodName) jdk_43_method_46_code (1 : Nat) (Option.some (Jvm.ClassFile.FieldType.array Jvm.ClassFile.FieldType.byte))).before args0 about1 = true := code_word (m := ⟨10, 3⟩) (meth := k10m3) (c := k10c3) (by decide +kernel) rfl rfl rfl (by decide +kernel)
set_option maxRecDepth 65536 in
theorem w_c18 : (Jvm.Cond.code ({ cls := "java/lang/String", name := "<init>", desc := "([BB)V" } : Jvm.MethodName) jdk_42_method_151_code (3 : Nat) (Option.none : Option Jvm.ClassFile.FieldType)).before args0 about1 = true := code_word (m := ⟨8, 5⟩) (meth := k8m5) (c := k8c5) (by decide +kernel) rfl rfl rfl (by decide +kernel)
def codes1 : List Jvm.Cond := [Jvm.Cond.code x code maxLocals ret, Jvm.Cond.code ({ cls := "com/example/lorikeet/lorikeet/formats/TrecDocumentEqualsPinLaw", name := "len", desc := "(I)I" } : Jvm.MethodName) method_2_code (1 : Nat) (Option.some Jvm.ClassFile.FieldType.int), Jvm.Cond.code ({ cls := "com/example/lorikeet/lorikeet/formats/TrecDocumentEqualsPinLaw", name := "mk", desc := "(III)Ljava/lang/String;" } : Jvm.MethodName) method_3_code (4 : Nat) (Option.some (Jvm.ClassFile.FieldType.object "java/lang/String")), Jvm.Cond.code ({ cls := "java/lang/String", name := "<init>", desc := "([C)V" } : Jvm.MethodName) jdk_42_method_3_code (2 : Nat) (Option.none : Option Jvm.ClassFile.FieldType), Jvm.Cond.code ({ cls := "java/lang/String", name := "<init>", desc := "([CIILjava/lang/Void;)V" } : Jvm.MethodName) jdk_42_method_149_code (6 : Nat) (Option.none : Option Jvm.ClassFile.FieldType), Jvm.Cond.code ({ cls := "java/lang/Object", name := "<init>", desc := "()V" } : Jvm.MethodName) object_method_1_code (1 : Nat) (Option.none : Option Jvm.ClassFile.FieldType), Jvm.Cond.code ({ cls := "com/example/lorikeet/lorikeet/formats/TrecDocument", name := "<init>", desc := "(Ljava/lang/String;Ljava/lang/String;)V" } : Jvm.MethodName) prog_30_method_1_code (3 : Nat) (Option.none : Option Jvm.ClassFile.FieldType), Jvm.Cond.code ({ cls := "java/util/Objects", name := "requireNonNull", desc := "(Ljava/lang/Object;Ljava/lang/String;)Ljava/lang/Object;" } : Jvm.MethodName) jdk_31_method_11_code (2 : Nat) (Option.some (Jvm.ClassFile.FieldType.object "java/lang/Object")), Jvm.Cond.code ({ cls := "com/example/lorikeet/lorikeet/formats/TrecDocumentEqualsPinLaw", name := "same", desc := "(IIIIII)Z" } : Jvm.MethodName) method_4_code (6 : Nat) (Option.some Jvm.ClassFile.FieldType.boolean), Jvm.Cond.code ({ cls := "com/example/lorikeet/lorikeet/formats/TrecDocument", name := "equals", desc := "(Ljava/lang/Object;)Z" } : Jvm.MethodName) prog_30_method_4_code (3 : Nat) (Option.some Jvm.ClassFile.FieldType.boolean), Jvm.Cond.code ({ cls := "java/lang/String", name := "equals", desc := "(Ljava/lang/Object;)Z" } : Jvm.MethodName) jdk_42_method_66_code (3 : Nat) (Option.some Jvm.ClassFile.FieldType.boolean), Jvm.Cond.code ({ cls := "java/lang/StringLatin1", name := "equals", desc := "([B[B)Z" } : Jvm.MethodName) jdk_43_method_13_code (3 : Nat) (Option.some Jvm.ClassFile.FieldType.boolean), Jvm.Cond.code ({ cls := "java/lang/StringUTF16", name := "compress", desc := "([CII)[B" } : Jvm.MethodName) jdk_52_method_16_code (6 : Nat) (Option.some (Jvm.ClassFile.FieldType.array Jvm.ClassFile.FieldType.byte)), Jvm.Cond.code ({ cls := "java/lang/StringUTF16", name := "compress", desc := "([CI[BII)I" } : Jvm.MethodName) jdk_52_method_21_code (7 : Nat) (Option.some Jvm.ClassFile.FieldType.int), Jvm.Cond.code ({ cls := "java/lang/StringUTF16", name := "coderFromArrayLen", desc := "([BI)B" } : Jvm.MethodName) jdk_52_method_15_code (2 : Nat) (Option.some Jvm.ClassFile.FieldType.byte), Jvm.Cond.code ({ cls := "java/lang/String", name := "valueOf", desc := "(C)Ljava/lang/String;" } : Jvm.MethodName) jdk_42_method_139_code (1 : Nat) (Option.some (Jvm.ClassFile.FieldType.object "java/lang/String")), Jvm.Cond.code ({ cls := "java/lang/StringLatin1", name := "canEncode", desc := "(C)Z" } : Jvm.MethodName) jdk_43_method_3_code (1 : Nat) (Option.some Jvm.ClassFile.FieldType.boolean), Jvm.Cond.code ({ cls := "java/lang/StringLatin1", name := "toBytes", desc := "(C)[B" } : Jvm.MethodName) jdk_43_method_46_code (1 : Nat) (Option.some (Jvm.ClassFile.FieldType.array Jvm.ClassFile.FieldType.byte)), Jvm.Cond.code ({ cls := "java/lang/String", name := "<init>", desc := "([BB)V" } : Jvm.MethodName) jdk_42_method_151_code (3 : Nat) (Option.none : Option Jvm.ClassFile.FieldType)]
set_option maxRecDepth 65536 in
theorem codes_eq : words1.filter isCode = codes1 := rfl
theorem w_codes : ∀ c ∈ words1.filter isCode, c.before args0 about1 = true := by
  rw [codes_eq]
  intro c hc
  simp only [codes1, List.mem_cons, List.not_mem_nil, or_false] at hc
  rcases hc with rfl | rfl | rfl | rfl | rfl | rfl | rfl | rfl | rfl | rfl | rfl | rfl | rfl | rfl | rfl | rfl | rfl | rfl | rfl
  · exact w_c0
  · exact w_c1
  · exact w_c2
  · exact w_c3
  · exact w_c4
  · exact w_c5
  · exact w_c6
  · exact w_c7
  · exact w_c8
  · exact w_c9
  · exact w_c10
  · exact w_c11
  · exact w_c12
  · exact w_c13
  · exact w_c14
  · exact w_c15
  · exact w_c16
  · exact w_c17
  · exact w_c18
set_option maxRecDepth 65536 in
theorem w_t1 : (words1.take 24).all (fun c => isCode c || c.before args0 about1) = true := by decide +kernel
set_option maxRecDepth 65536 in
theorem w_t2 : ((words1.drop 24).take 24).all (fun c => isCode c || c.before args0 about1) = true := by decide +kernel
set_option maxRecDepth 65536 in
theorem w_t3 : (((words1.drop 24).drop 24).take 24).all (fun c => isCode c || c.before args0 about1) = true := by decide +kernel
set_option maxRecDepth 65536 in
theorem w_t4 : (((words1.drop 24).drop 24).drop 24).all (fun c => isCode c || c.before args0 about1) = true := by decide +kernel
theorem w_tables : (allAtoms (Jvm.Cond.code x code maxLocals ret :: tables_1)).before args0 about1 = true := by
  rw [allAtoms_all]
  show words1.all (fun c => c.before args0 about1) = true
  refine all_split ?_ w_codes
  rw [← List.take_append_drop 24 words1, List.all_append, w_t1, ← List.take_append_drop 24 (words1.drop 24), List.all_append, w_t2, ← List.take_append_drop 24 ((words1.drop 24).drop 24), List.all_append, w_t3, w_t4]
  rfl
set_option maxRecDepth 65536 in
theorem w_rest : rest_1_c.before args0 about1 = true := by decide +kernel
set_option maxRecDepth 65536 in
theorem w_case : (Jvm.Cond.and given_1 narrow_1).before args0 about1 = true := by decide +kernel
set_option maxRecDepth 65536 in
theorem w_consts : constsHeld consts_1 about1 := Jvm.Lit.constsHeldB_iff.mp (by decide +kernel)
theorem w_applies : (headSpec (Jvm.Cond.code x code maxLocals ret :: tables_1) room_1).applies x e0.platform about1 = true :=
  (Spec.applies_iff w_frames).mpr ⟨w_running, w_runnable, w_alone, w_named, w_hears, w_ripe, w_room, w_tables⟩
theorem atStart : AtStart classFile x code maxLocals ret World_1 tables_1 room_1 Calls_1 rest_1 Pre_1 launch0 p0 e0 about1 theMethod args0 below0 :=
  ⟨lists_1, trivial, launch0.admits_env _ _ _, launch0.least_env, fairChoices_fair.cas, fairChoices_fair.clock, w_frames, w_args, w_heap, w_applies, ⟨w_consts, trivial⟩, w_rest, w_case⟩
end start1
theorem witness_1 : WitnessClaimed_1 := ⟨start1.p0, start1.e0, start1.about1, start1.theMethod, start1.args0, start1.below0, start1.atStart⟩
end Jvm.Pilot.@@N@@

