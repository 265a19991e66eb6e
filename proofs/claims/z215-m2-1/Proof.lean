import JvmDerived
import JvmDerived.Pilot.@@N@@Statement
import JvmDerived.Pilot.@@N@@Code
set_option linter.unusedVariables false
set_option linter.unusedSimpArgs false
namespace Jvm.RoadKit
open Sem ClassFile Op Lib Jvm.Stand Jvm.Free Jvm.LawKit
section New
variable {p : Program} {l : Launch} {e : Env} {R : Room} {s : State} {m : MethodId} {args : Array Value} {below : List Frame} {meth : Method} {c : Code} {T : State} {locs : List Loc} {cells slots : Nat}
theorem retI (X : Stand p l e R s m args below meth c T locs cells slots) (hx : p.tables.exec = Jvm.exec) {pc : Nat} {Ls : Array Slot} {z : Int32} {rest : List Value} (hret : meth.sig.returnType = some .int) (hd : decode c.code pc = .ok (.ireturn, 1)) {fs : List Frame}
    (hl : ∀ (f : JFrame) (acts : List Action), f.method = m → f.locked = none → f.entered = [] → (doReturn e (T.setTop f) acts (some (.int z))).1 = T.setFrames fs) : Steps p.tables e below (T.setTop (mkF m pc Ls (.int z :: rest))) (T.setFrames fs) := by
  have hm' : T.vm.method? m = some meth := X.method'
  have hn : narrow .int (.int z) = .int z := rfl
  show Steps p.tables e below (T.setTop { method := m, pc := pc, locals := Ls, stack := _ :: rest, locked := none }) _
  jvm_step X.here [X.here.top, hx, hd, hm', hret, hn]
  first | (intro acts; rw [hl _ acts rfl rfl rfl]) | rw [hl _ _ rfl rfl rfl]
  exact Steps.refl _
theorem retR (X : Stand p l e R s m args below meth c T locs cells slots) (hx : p.tables.exec = Jvm.exec) {pc : Nat} {Ls : Array Slot} {w : Value} {t : FieldType} {rest : List Value} (hret : meth.sig.returnType = some t) (hn : narrow t w = w) (ht : t.isReference = true) (hw : w.isRef = true) (hd : decode c.code pc = .ok (.areturn, 1)) {fs : List Frame}
    (hl : ∀ (f : JFrame) (acts : List Action), f.method = m → f.locked = none → f.entered = [] → (doReturn e (T.setTop f) acts (some w)).1 = T.setFrames fs) : Steps p.tables e below (T.setTop (mkF m pc Ls (w :: rest))) (T.setFrames fs) := by
  have hm' : T.vm.method? m = some meth := X.method'
  show Steps p.tables e below (T.setTop { method := m, pc := pc, locals := Ls, stack := _ :: rest, locked := none }) _
  jvm_step X.here [X.here.top, hx, hd, hm', hret, hn, hw]
  try (refine ⟨ht, ?_⟩)
  first | (intro acts; rw [hl _ acts rfl rfl rfl]) | rw [hl _ _ rfl rfl rfl]
  exact Steps.refl _
/-- from here the body ends as Q says, with at most k new cells of n slots in all -/
def Go (p : Program) (e : Env) (below : List Frame) (s : State) (Q : Option Value → Heap → List Loc → Prop) (k n : Nat) (T : State) (g : JFrame) : Prop := ∃ s₂ o, Steps p.tables e below (T.setTop g) s₂ ∧ s₂.status = .running ∧ Ended s₂ below o ∧ ∃ v L, o = .returned v ∧ Q v s₂.heap L ∧ FrameEnd s o s₂ L k n
theorem Go.by {Q : Option Value → Heap → List Loc → Prop} {k n : Nat} {T T' : State} {g g' : JFrame} (st : ∀ t, Steps p.tables e below (T'.setTop g') t → Steps p.tables e below (T.setTop g) t) (h : Go p e below s Q k n T' g') : Go p e below s Q k n T g := by
  obtain ⟨s2, o, h1, h2⟩ := h
  exact ⟨s2, o, st _ h1, h2⟩
theorem Go.fin {Q : Option Value → Heap → List Loc → Prop} {k n : Nat} {g : JFrame} (X : Stand p l e R s m args below meth c T locs cells slots) {v : Option Value} (hv : meth.sig.returnType = none → v = none) (hlk : meth.locks = false) (hk : cells ≤ k) (hn : slots ≤ n) (hq : Q v T.heap locs)
    (hret : ∀ fs : List Frame, (∀ (f : JFrame) (acts : List Action), f.method = m → f.locked = none → f.entered = [] → (doReturn e (T.setTop f) acts v).1 = T.setFrames fs) → Steps p.tables e below (T.setTop g) (T.setFrames fs)) : Go p e below s Q k n T g := by
  obtain ⟨fs, hr, hrun, hended, hW, hsame⟩ := X.leave (v := v) hv hlk
  exact ⟨_, _, hret fs hr, hrun, hended, _, _, rfl, hq, ⟨_, rfl⟩, hW, hsame.mono hk hn⟩
/-- .. where it may have interned String constants -/
def GoW (p : Program) (e : Env) (below : List Frame) (s : State) (Q : Option Value → Heap → List Loc → Prop) (k n : Nat) (T : State) (g : JFrame) : Prop := ∃ s₂ o, Steps p.tables e below (T.setTop g) s₂ ∧ s₂.status = .running ∧ Ended s₂ below o ∧ ∃ v L, o = .returned v ∧ Q v s₂.heap L ∧ ReturnedEndW s o s₂ L k n
theorem GoW.by {Q : Option Value → Heap → List Loc → Prop} {k n : Nat} {T T' : State} {g g' : JFrame} (st : ∀ t, Steps p.tables e below (T'.setTop g') t → Steps p.tables e below (T.setTop g) t) (h : GoW p e below s Q k n T' g') : GoW p e below s Q k n T g := by
  obtain ⟨s2, o, h1, h2⟩ := h
  exact ⟨s2, o, st _ h1, h2⟩
theorem GoW.fin {Q : Option Value → Heap → List Loc → Prop} {k n n1 : Nat} {g : JFrame} {vm₁ : Vm} (hS : s.Since vm₁ n1) (X : Stand p l e R (s.setVm vm₁) m args below meth c T locs cells slots) (hn1 : n1 ≤ T.heap.size) {v : Option Value} (hv : meth.sig.returnType = none → v = none) (hlk : meth.locks = false) (hk : cells ≤ k) (hn : slots ≤ n) (hq : Q v T.heap locs)
    (hret : ∀ fs : List Frame, (∀ (f : JFrame) (acts : List Action), f.method = m → f.locked = none → f.entered = [] → (doReturn e (T.setTop f) acts v).1 = T.setFrames fs) → Steps p.tables e below (T.setTop g) (T.setFrames fs)) : GoW p e below s Q k n T g := by
  obtain ⟨fs, hr, hrun, hended, hE⟩ := X.leaveW hS hn1 (v := v) hv hlk
  exact ⟨_, _, hret fs hr, hrun, hended, _, _, rfl, hq, hE.1, hE.2.1, hE.2.2.1, hE.2.2.2.mono hk hn⟩
theorem backOfI {Z : State} {a0 : Array Value} {h : Heap} {y : MethodName} {bytes : ByteArray} {maxL : Nat} {ret : Option FieldType} {rm : Room} {len W : Nat} {as' : Array Value} {Q : Option Value → Heap → List Loc → Prop} {Ts : List String}
    (hM : MetFree l y (head1 [Cond.code y bytes maxL ret] rm) (fun a U => a = as' ∧ Z.Warmed39 U.vm ∧ U.heap = h ∧ IB Z U.vm Ts) (fun _ _ _ _ _ => True) (fun _ U o U' => ∃ v L, o = .returned v ∧ Q v U'.heap L ∧ ReturnedEndW U o U' L rm.cells rm.slots))
    (hZ : Z.Warmed39 s.vm) (hI : IB Z s.vm Ts) (wc : (Cond.code y bytes maxL ret).before a0 Z = true) (wz : (Cond.initialized y.cls).before a0 Z = true) (hf : rm.frames + 1 ≤ R.frames) (hl : W + (maxL + 11) + rm.locals ≤ R.locals) :
    BackS l R p e below s args y len W (fun A a => a = as' ∧ A.U.heap = h ∧ A.cells + rm.cells ≤ R.cells ∧ A.slots + rm.slots ≤ R.slots)
      (fun A _ v B => ∃ L, Q v B.U.heap L ∧ B.locs = A.locs ++ L ∧ B.cells = A.cells + rm.cells ∧ B.slots = A.slots + rm.slots) :=
  BackS.of_freeW (bytes := bytes) (maxL := maxL) (ret := ret) (E := fun _ _ o t L k n => k = rm.cells ∧ n = rm.slots ∧ ∃ v, o = .returned v ∧ Q v t.heap L) hM hf hl
    (fun m meth c A a Y hp => have hU : Z.Warmed39 A.U.vm := wtrans hZ Y.warmed
      ⟨by show (Cond.and _ .tt).before a A.U = true; rw [Cond.before_and, mv hU wc]; rfl, mv hU wc, mv hU wz, hp.2.2.1, hp.2.2.2⟩)
    (fun m meth c A a g mk Y hp => ⟨hp.1, wtrans hZ Y.warmed, hp.2.1, by obtain ⟨more, q1, q2⟩ := hI; exact ⟨more, Y.warmed.interned_eq.trans q1, q2⟩⟩) (fun _ _ _ _ _ _ _ _ _ => trivial)
    (fun _ _ _ _ ⟨v, L, h1, h2, h3⟩ => ⟨L, _, _, h3, rfl, rfl, v, h1, h2⟩)
    (fun m meth c A a g mk v t L k n Y hp _ _ ⟨e1, e2, v', e3, e4⟩ => by cases e3; subst e1 e2; exact ⟨L, e4, rfl, rfl, rfl⟩)
theorem Old.sz {Z : State} {n0 : Nat} {h : Heap} (X : Old Z n0 h) : n0 ≤ h.size := X.1 ▸ X.2.1
theorem nev {a b : Addr} (h : ¬ a = b) : ¬ Value.ref a = Value.ref b := fun q => h (Value.ref.inj q)
end New
end Jvm.RoadKit

namespace Jvm.Pilot.@@N@@
open Jvm Jvm.ClassFile Sem Op Lib Jvm.Free Jvm.Stand Jvm.LawKit Jvm.RoadKit Bundle Jvm.Pilot.@@N@@.Jvm.D
theorem own_nar {t : FieldType} {v : Value} (h : v.isRef = true) (ht : t.isReference = true) : narrow t v = v := by
  rcases ref_cases h with rfl | ⟨a, rfl⟩ <;> cases t <;> first | rfl | cases ht
theorem own_fits {t : FieldType} {v : Value} (h : v.isRef = true) (ht : t.isReference = true) : fits t v = true := by
  rcases ref_cases h with rfl | ⟨a, rfl⟩ <;> cases t <;> first | rfl | cases ht
theorem own_conv {Z : State} {h : Heap} {a : Addr} {k : ClassId} {ty : FieldType} {z z' : Int32} {vs vs' : List Value} {dv : Value} (F : Arv Z h a k ty z vs dv) (e : vs = vs') (ez : z = z') : Arv Z h a k ty z' vs' dv := e ▸ ez ▸ F
theorem own_toInt {n : Nat} (h : n ≤ 100) : (Int32.ofNat n).toInt = n := Int32.toInt_ofNat_small (by omega)
theorem own_nat {n : Nat} (h : n ≤ 100) : (Int32.ofNat n).toNatClampNeg = n := by simp [Int32.toNatClampNeg, own_toInt h]
theorem own_lt {n t : Nat} (hn : n ≤ 100) (ht : t ≤ 100) : Int32.ofNat n < Int32.ofNat t ↔ n < t := by
  rw [Int32.lt_iff_toInt_lt, own_toInt hn, own_toInt ht]; omega
theorem own_nn {n : Nat} (hn : n ≤ 100) : ¬ (Int32.ofNat n < 0) := by
  rw [Int32.lt_iff_toInt_lt, own_toInt hn]; show ¬ ((n : Int) < 0); omega
theorem own_inj {n t : Nat} (hn : n ≤ 100) (ht : t ≤ 100) : Int32.ofNat n = Int32.ofNat t ↔ n = t := by
  rw [← Int32.toInt_inj, own_toInt hn, own_toInt ht]; omega
theorem own_add (n k : Nat) : Int32.ofNat n + Int32.ofNat k = Int32.ofNat (n + k) := by
  apply Int32.toBitVec_inj.mp
  show BitVec.ofNat 32 n + BitVec.ofNat 32 k = BitVec.ofNat 32 (n + k)
  rw [BitVec.ofNat_add]
theorem own_sub {n k : Nat} (h : k ≤ n) : Int32.ofNat n - Int32.ofNat k = Int32.ofNat (n - k) := by
  have e := own_add (n - k) k
  rw [Nat.sub_add_cancel h] at e
  rw [← e, Int32.add_sub_cancel]
theorem own_inb {i n : Nat} (hi : i < n) (hn : n ≤ 100) : ¬ (Int32.ofNat i < 0) ∧ Int32.ofNat i < Int32.ofNat n := ⟨own_nn (by omega), (own_lt (by omega) hn).mpr hi⟩
theorem own_half {n : Nat} (h1 : 1 ≤ n) (h : n ≤ 5) : Int32.ofNat n >>> ((1 : Int32) &&& 31) = Int32.ofNat (n / 2) := by
  have hn : n = 1 ∨ n = 2 ∨ n = 3 ∨ n = 4 ∨ n = 5 := by omega
  rcases hn with rfl | rfl | rfl | rfl | rfl <;> decide
theorem own_and3 (x : Int32) : ∃ f : Nat, f ≤ 3 ∧ (x &&& (3 : Int32)) = Int32.ofNat f := by
  have h := c_and x 3 (by decide)
  have e : (3 : Int32).toInt = 3 := rfl
  refine ⟨(x &&& 3 : Int32).toInt.toNat, ?_, ?_⟩
  · omega
  · apply Int32.toInt_inj.mp
    rw [own_toInt (by omega)]; omega
theorem own_setdv {Z : State} {h h' : Heap} {a : Addr} {k : ClassId} {ty : FieldType} {z : Int32} {dv : Value} {i : Nat} (F : Arv Z h a k ty z [] dv) (W : Wr h h' a i dv) : Arv Z h' a k ty z [] dv := by
  obtain ⟨cl, A, q1, S, q3, H, G⟩ := F
  refine ⟨cl.setSlot i dv, A.same W, q1, by rw [sz_set]; exact S, q3, fun j hj => ?_, fun j hj => G j (by rw [sz_set] at hj; exact hj)⟩
  rw [sz_set] at hj
  have q := H j hj
  by_cases e : i = j
  · subst e
    show (cl.slots.setIfInBounds i dv)[i]? = _
    simp [hj]
  · show (cl.slots.setIfInBounds i dv)[j]? = _
    rw [Array.getElem?_setIfInBounds_ne e]; exact q
theorem own_nulls (n : Nat) : (List.range n).map (fun i => ([] : List Value).getD (0 + i) .null) = List.replicate n .null := by
  apply List.ext_getElem <;> simp
theorem own_stoL {Z : State} {h : Heap} {b : Addr} (n : Nat) : StoL Z h b (List.replicate n .null) := by
  induction n with
  | zero => exact trivial
  | succ n ih => exact ⟨Or.inl rfl, ih⟩
theorem own_unpad {Z : State} {h : Heap} {a : Addr} {k : ClassId} {ty : FieldType} {z : Int32} {vs : List Value} {dv : Value} (F : Arv Z h a k ty z vs dv) (q : ∀ x ∈ vs, x = dv) : Arv Z h a k ty z [] dv := F.pad fun i => by
  simp only [List.getD_eq_getElem?_getD, List.getElem?_nil, Option.getD_none]
  cases e : vs[i]? with
  | none => rfl
  | some x => exact (q x (List.mem_of_getElem? e)).symm
def own_Mir (Z : State) (C : String) (mr : Addr) : Prop := ∃ c k, Z.vm.findClass C = some c ∧ Z.vm.classes[c]? = some k ∧ k.mirror = some mr
theorem own_mirAt {Z s : State} {C : String} {mr : Addr} (hZ : Z.Warmed39 s.vm) (M : own_Mir Z C mr) : ∃ c k, s.vm.findClass C = some c ∧ s.vm.classes[c]? = some k ∧ k.mirror = some mr := by
  obtain ⟨c, k, h1, h2, h3⟩ := M
  obtain ⟨k', q, ek⟩ := hZ.alike.2.2 _ _ h2
  exact ⟨c, k', by rw [hZ.alike.findClass]; exact h1, q, by rw [ek]; exact h3⟩
theorem own_mirEv {Z s : State} {C : String} {mr : Addr} {args : Array Value} (hZ : Z.Warmed39 s.vm) (M : own_Mir Z C mr) : (Term.mirror C).eval args s none [] s = some (.ref mr) := by
  obtain ⟨c, k, h1, h2, h3⟩ := own_mirAt hZ M
  simp [Term.eval, h1, h2, h3]
theorem own_gc {p : Program} {l : Launch} {e : Env} {R : Room} {s : State} {m : MethodId} {args : Array Value} {below : List Frame} {meth : Method} {c : Code} {T : State} {locs : List Loc} {cells slots : Nat} {Z : State} {a0 : Array Value} {h : Heap}
    (X : Stand p l e R s m args below meth c T locs cells slots) (hx : p.tables.exec = Jvm.exec) (hZ : Z.Warmed39 s.vm) {own C : String} {index : Nat} (hown : s.vm.findClass own = some m.cls)
    (w1 : (Jvm.Cond.methodLink own index ⟨"java/lang/Object", "getClass", "()Ljava/lang/Class;"⟩).before a0 Z = true) (w2 : (Jvm.Cond.declares ⟨"java/lang/Object", "getClass", "()Ljava/lang/Class;"⟩).before a0 Z = true) (w4 : (Jvm.Cond.selects C ⟨"java/lang/Object", "getClass", "()Ljava/lang/Class;"⟩ ⟨"java/lang/Object", "getClass", "()Ljava/lang/Class;"⟩).before a0 Z = true)
    (w5 : (Jvm.Cond.instanceMethod ⟨"java/lang/Object", "getClass", "()Ljava/lang/Class;"⟩).before a0 Z = true) (w6 : (Jvm.Cond.native ⟨"java/lang/Object", "getClass", "()Ljava/lang/Class;"⟩).before a0 Z = true) (eT : T.heap = h) {a : Addr} (E : Exa Z h a C) {mr : Addr} (M : own_Mir Z C mr)
    {g : JFrame} (hg : g.method = m) (hsize : g.locals.size = c.maxLocals) {rest : List Value} (hs : g.stack = .ref a :: rest) (hd : decode c.code g.pc = .ok (.invokevirtual index, 3)) (hf : 1 ≤ R.frames) {W : Nat} (hW : 2 * g.monitorRoom + (rest.map fun v => v.category).sum ≤ W) (hl : W + (nativeFrameWords "java/lang/Object" "getClass" 1 + 11) ≤ R.locals) :
    ∃ T', Stand p l e R s m args below meth c T' locs cells slots ∧ T'.heap = h ∧ ∀ target, Steps p.tables e below (T'.setTop { g with pc := g.pc + 3, stack := .ref mr :: rest }) target → Steps p.tables e below (T.setTop g) target := by
  obtain ⟨cB, kB, i1, i2, i3⟩ := isOf hZ eT E
  obtain ⟨cc, kc, m1, m2, m3⟩ := own_mirAt hZ M
  cases i1.symm.trans m1
  obtain ⟨vm', X', st⟩ := X.getClassOf hx hown (mvT hZ w1) (mvT hZ w2) (notFace_of_selects (args := #[]) (mvT hZ w4)) (mvT hZ w4) (mvT hZ w5) (mvT hZ w6) m1 i3 m2 m3 hg hsize hs hd hf (by omega)
  exact ⟨_, X', eT, st⟩
theorem own_len0 {s : State} {args : Array Value} {t : Term} {a : Addr} {cl : Cell} (ev : t.eval args s none [] s = some (.ref a)) (A : Arr s s.heap a cl .long) (h : (Term.length t).eval args s none [] s = some (.int 0)) : cl.slots.size = (0 : Int32).toNatClampNeg := by
  obtain ⟨x, SA, e1, e2, -⟩ := Term.length_spec h
  cases ev.symm.trans e1
  have h31 := SBG.length_lt e1 e2 h
  have q := A.fin (U := s) (Vm.Alike.refl _)
  have eS : SA = cl := (Option.some.inj (q.symm.trans e2)).symm
  subst eS
  have e : (Term.length t).eval args s none [] s = some (.int (Int32.ofNat SA.slots.size)) := by simp [Term.eval, e1, e2, h31]
  have h2 : Int32.ofNat SA.slots.size = (0 : Int32) := by simpa using Option.some.inj (e.symm.trans h)
  have := congrArg Int32.toInt h2
  rw [Int32.toInt_ofNat_small h31] at this
  show SA.slots.size = 0
  have e0 : (0 : Int32).toInt = 0 := rfl
  omega
def Q_max (Z : State) (u : Nat) (v2 : Nat) (h0 : Heap) (n0 : Nat) (v : Option Value) (h : Heap) (L : List Loc) : Prop := v = some (.int (Int32.ofNat (max u v2))) ∧ Fr n0 L ∧ h = h0
theorem ef_max (m : MethodId) : entryFrame m #[(.int (Int32.ofNat u)), (.int (Int32.ofNat v2))] 2 = mkF m 0 #[.val (.int (Int32.ofNat u)), .val (.int (Int32.ofNat v2))] [] := by first | (simp [entryFrame, mkF, argsToLocals, Value.category]; done) | rfl
theorem d_jdk_29_method_65_code_0 : decode jdk_29_method_65_code 0 = .ok (.iload_n 0, 1) := by decide +kernel
theorem d_jdk_29_method_65_code_1 : decode jdk_29_method_65_code 1 = .ok (.iload_n 1, 1) := by decide +kernel
theorem d_jdk_29_method_65_code_2 : decode jdk_29_method_65_code 2 = .ok (.if_icmp .lt 7, 3) := by decide +kernel
theorem d_jdk_29_method_65_code_9 : decode jdk_29_method_65_code 9 = .ok (.iload_n 1, 1) := by decide +kernel
theorem d_jdk_29_method_65_code_10 : decode jdk_29_method_65_code 10 = .ok (.ireturn, 1) := by decide +kernel
theorem d_jdk_29_method_65_code_5 : decode jdk_29_method_65_code 5 = .ok (.iload_n 0, 1) := by decide +kernel
theorem d_jdk_29_method_65_code_6 : decode jdk_29_method_65_code 6 = .ok (.goto 4, 3) := by decide +kernel
set_option maxRecDepth 65536 in
set_option maxHeartbeats 40000000 in
theorem rm_max (l : Launch) (Z : State) (a0 : Array Value) (hw : ∀ d ∈ tables_1, d.before a0 Z = true) (ws : List Jvm.Cond) (u : Nat) (v2 : Nat) (h0 : Heap) (n0 : Nat) (X00 : Old Z n0 h0) (hu : u ≤ 100) (hv : v2 ≤ 100) :
    MetFree l (⟨"java/lang/Math", "max", "(II)I"⟩ : MethodName) (head1 (Jvm.Cond.code (⟨"java/lang/Math", "max", "(II)I"⟩ : MethodName) jdk_29_method_65_code 2 (some .int) :: ws) ({ frames := 0, cells := 0, slots := 0, locals := 0 } : Room)) (fun aa_ U => aa_ = #[(.int (Int32.ofNat u)), (.int (Int32.ofNat v2))] ∧ Z.Warmed39 U.vm ∧ U.heap = h0) (fun _ _ _ _ _ => True) (fun _ U o U' => ∃ v L, o = .returned v ∧ Q_max Z u v2 h0 n0 v U'.heap L ∧ FrameEnd U o U' L ({ frames := 0, cells := 0, slots := 0, locals := 0 } : Room).cells ({ frames := 0, cells := 0, slots := 0, locals := 0 } : Room).slots) := by
  refine MetFree.of_bodySF (Jvm.Free.JP.mathPlain rfl (by decide +kernel)) hisR ?_
  intro p e s m args below meth c s₁ Bd hml0 hP hK
  obtain ⟨rfl, hZ, hh⟩ := hP
  have hx := Bd.exec
  have hby := Bd.bytes
  have hml : c.maxLocals = 2 := hml0
  have hown : s.vm.findClass "java/lang/Math" = some m.cls := findClass_of_methodNamed Bd.named
  have hnm := (name_of_methodNamed Bd.named Bd.method).1
  have hlk : meth.locks = false := BodyLoose.notSynchronized Bd
  have X0 : Stand p l e ({ frames := 0, cells := 0, slots := 0, locals := 0 } : Room) s m #[(.int (Int32.ofNat u)), (.int (Int32.ofNat v2))] below meth c s₁ [] 0 0 := Stand.of_body Bd
  have e0 : s₁.heap = h0 := by rw [← hh, Bd.state]; rfl
  have N0 := Fr.nil n0
  suffices G : Go p e below s (Q_max Z u v2 h0 n0) 0 0 s₁ (mkF m 0 #[.val (.int (Int32.ofNat u)), .val (.int (Int32.ofNat v2))] []) by
    obtain ⟨s2, o, h1, h2⟩ := G
    exact ⟨s2, o, castTop (ef_max m ) h1, h2⟩
  refine Go.by (T' := s₁) (g' := (mkF m 1 #[.val (.int (Int32.ofNat u)), .val (.int (Int32.ofNat v2))] [(.int (Int32.ofNat u))])) (fun t_ k_ => XS.iloadN X0.here hx rfl (hb hby d_jdk_29_method_65_code_0) rfl k_) ?_
  refine Go.by (T' := s₁) (g' := (mkF m 2 #[.val (.int (Int32.ofNat u)), .val (.int (Int32.ofNat v2))] [(.int (Int32.ofNat v2)), (.int (Int32.ofNat u))])) (fun t_ k_ => XS.iloadN X0.here hx rfl (hb hby d_jdk_29_method_65_code_1) rfl k_) ?_
  by_cases hlt : u < v2
  · skip
    refine Go.by (T' := s₁) (g' := (mkF m 9 #[.val (.int (Int32.ofNat u)), .val (.int (Int32.ofNat v2))] [])) (fun t_ k_ => XS.icmpYes X0.here hx rfl (pc0 := 2) (pc' := 9) rfl (hb hby d_jdk_29_method_65_code_2) rfl (tlt (by rw [own_lt hu hv]; exact hlt)).1 (by decide) (by decide) k_) ?_
    refine Go.by (T' := s₁) (g' := (mkF m 10 #[.val (.int (Int32.ofNat u)), .val (.int (Int32.ofNat v2))] [(.int (Int32.ofNat v2))])) (fun t_ k_ => XS.iloadN X0.here hx rfl (hb hby d_jdk_29_method_65_code_9) rfl k_) ?_
    refine Go.fin X0 (v := some (.int (Int32.ofNat v2))) (fun h => by rw [Bd.returns] at h; cases h) hlk (by decide) (by decide) ?_ (fun fs hr => retI X0 hx Bd.returns (hb hby d_jdk_29_method_65_code_10) hr)
    show Q_max Z u v2 h0 n0 _ s₁.heap _
    rw [e0]
    exact ⟨by rw [show max u v2 = v2 by omega], N0, rfl⟩
  · skip
    refine Go.by (T' := s₁) (g' := (mkF m 5 #[.val (.int (Int32.ofNat u)), .val (.int (Int32.ofNat v2))] [])) (fun t_ k_ => XS.icmpNo X0.here hx rfl (hb hby d_jdk_29_method_65_code_2) rfl (flt (by rw [own_lt hu hv]; exact hlt)).1 k_) ?_
    refine Go.by (T' := s₁) (g' := (mkF m 6 #[.val (.int (Int32.ofNat u)), .val (.int (Int32.ofNat v2))] [(.int (Int32.ofNat u))])) (fun t_ k_ => XS.iloadN X0.here hx rfl (hb hby d_jdk_29_method_65_code_5) rfl k_) ?_
    refine Go.by (T' := s₁) (g' := (mkF m 10 #[.val (.int (Int32.ofNat u)), .val (.int (Int32.ofNat v2))] [(.int (Int32.ofNat u))])) (fun t_ k_ => XS.goto X0.here hx rfl (pc0 := 6) (pc' := 10) rfl (hb hby d_jdk_29_method_65_code_6) (by decide) (by decide) k_) ?_
    refine Go.fin X0 (v := some (.int (Int32.ofNat u))) (fun h => by rw [Bd.returns] at h; cases h) hlk (by decide) (by decide) ?_ (fun fs hr => retI X0 hx Bd.returns (hb hby d_jdk_29_method_65_code_10) hr)
    show Q_max Z u v2 h0 n0 _ s₁.heap _
    rw [e0]
    exact ⟨by rw [show max u v2 = u by omega], N0, rfl⟩
def Q_min (Z : State) (u : Int32) (v2 : Int32) (h0 : Heap) (n0 : Nat) (v : Option Value) (h : Heap) (L : List Loc) : Prop := v = some (.int u) ∧ Fr n0 L ∧ h = h0
theorem ef_min (m : MethodId) (u : Int32) (v2 : Int32) : entryFrame m #[(.int u), (.int v2)] 2 = mkF m 0 #[.val (.int u), .val (.int v2)] [] := by first | (simp [entryFrame, mkF, argsToLocals, Value.category]; done) | rfl
theorem d_jdk_29_method_69_code_0 : decode jdk_29_method_69_code 0 = .ok (.iload_n 0, 1) := by decide +kernel
theorem d_jdk_29_method_69_code_1 : decode jdk_29_method_69_code 1 = .ok (.iload_n 1, 1) := by decide +kernel
theorem d_jdk_29_method_69_code_2 : decode jdk_29_method_69_code 2 = .ok (.if_icmp .gt 7, 3) := by decide +kernel
theorem d_jdk_29_method_69_code_5 : decode jdk_29_method_69_code 5 = .ok (.iload_n 0, 1) := by decide +kernel
theorem d_jdk_29_method_69_code_6 : decode jdk_29_method_69_code 6 = .ok (.goto 4, 3) := by decide +kernel
theorem d_jdk_29_method_69_code_10 : decode jdk_29_method_69_code 10 = .ok (.ireturn, 1) := by decide +kernel
set_option maxRecDepth 65536 in
set_option maxHeartbeats 40000000 in
theorem rm_min (l : Launch) (Z : State) (a0 : Array Value) (hw : ∀ d ∈ tables_1, d.before a0 Z = true) (ws : List Jvm.Cond) (u : Int32) (v2 : Int32) (h0 : Heap) (n0 : Nat) (X00 : Old Z n0 h0) (huv : ¬ v2 < u) :
    MetFree l (⟨"java/lang/Math", "min", "(II)I"⟩ : MethodName) (head1 (Jvm.Cond.code (⟨"java/lang/Math", "min", "(II)I"⟩ : MethodName) jdk_29_method_69_code 2 (some .int) :: ws) ({ frames := 0, cells := 0, slots := 0, locals := 0 } : Room)) (fun aa_ U => aa_ = #[(.int u), (.int v2)] ∧ Z.Warmed39 U.vm ∧ U.heap = h0) (fun _ _ _ _ _ => True) (fun _ U o U' => ∃ v L, o = .returned v ∧ Q_min Z u v2 h0 n0 v U'.heap L ∧ FrameEnd U o U' L ({ frames := 0, cells := 0, slots := 0, locals := 0 } : Room).cells ({ frames := 0, cells := 0, slots := 0, locals := 0 } : Room).slots) := by
  refine MetFree.of_bodySF (Jvm.Free.JP.mathPlain rfl (by decide +kernel)) hisR ?_
  intro p e s m args below meth c s₁ Bd hml0 hP hK
  obtain ⟨rfl, hZ, hh⟩ := hP
  have hx := Bd.exec
  have hby := Bd.bytes
  have hml : c.maxLocals = 2 := hml0
  have hown : s.vm.findClass "java/lang/Math" = some m.cls := findClass_of_methodNamed Bd.named
  have hnm := (name_of_methodNamed Bd.named Bd.method).1
  have hlk : meth.locks = false := BodyLoose.notSynchronized Bd
  have X0 : Stand p l e ({ frames := 0, cells := 0, slots := 0, locals := 0 } : Room) s m #[(.int u), (.int v2)] below meth c s₁ [] 0 0 := Stand.of_body Bd
  have e0 : s₁.heap = h0 := by rw [← hh, Bd.state]; rfl
  have N0 := Fr.nil n0
  suffices G : Go p e below s (Q_min Z u v2 h0 n0) 0 0 s₁ (mkF m 0 #[.val (.int u), .val (.int v2)] []) by
    obtain ⟨s2, o, h1, h2⟩ := G
    exact ⟨s2, o, castTop (ef_min m u v2) h1, h2⟩
  refine Go.by (T' := s₁) (g' := (mkF m 1 #[.val (.int u), .val (.int v2)] [(.int u)])) (fun t_ k_ => XS.iloadN X0.here hx rfl (hb hby d_jdk_29_method_69_code_0) rfl k_) ?_
  refine Go.by (T' := s₁) (g' := (mkF m 2 #[.val (.int u), .val (.int v2)] [(.int v2), (.int u)])) (fun t_ k_ => XS.iloadN X0.here hx rfl (hb hby d_jdk_29_method_69_code_1) rfl k_) ?_
  refine Go.by (T' := s₁) (g' := (mkF m 5 #[.val (.int u), .val (.int v2)] [])) (fun t_ k_ => XS.icmpNo X0.here hx rfl (hb hby d_jdk_29_method_69_code_2) rfl (flt huv).2.2.1 k_) ?_
  refine Go.by (T' := s₁) (g' := (mkF m 6 #[.val (.int u), .val (.int v2)] [(.int u)])) (fun t_ k_ => XS.iloadN X0.here hx rfl (hb hby d_jdk_29_method_69_code_5) rfl k_) ?_
  refine Go.by (T' := s₁) (g' := (mkF m 10 #[.val (.int u), .val (.int v2)] [(.int u)])) (fun t_ k_ => XS.goto X0.here hx rfl (pc0 := 6) (pc' := 10) rfl (hb hby d_jdk_29_method_69_code_6) (by decide) (by decide) k_) ?_
  refine Go.fin X0 (v := some (.int u)) (fun h => by rw [Bd.returns] at h; cases h) hlk (by decide) (by decide) ?_ (fun fs hr => retI X0 hx Bd.returns (hb hby d_jdk_29_method_69_code_10) hr)
  show Q_min Z u v2 h0 n0 _ s₁.heap _
  rw [e0]
  exact ⟨rfl, N0, rfl⟩
def Q_newLen (Z : State) (cap : Nat) (h0 : Heap) (n0 : Nat) (v : Option Value) (h : Heap) (L : List Loc) : Prop := v = some (.int (Int32.ofNat (cap + max 1 (cap / 2)))) ∧ Fr n0 L ∧ h = h0
theorem pn_0 : plainName "jdk/internal/util/ArraysSupport" = true := by first | (simp [plainName, overriddenIn]; done) | decide +kernel
theorem ef_newLen (m : MethodId) : entryFrame m #[(.int (Int32.ofNat cap)), (.int (1 : Int32)), (.int (Int32.ofNat (cap / 2)))] 4 = mkF m 0 #[.val (.int (Int32.ofNat cap)), .val (.int (1 : Int32)), .val (.int (Int32.ofNat (cap / 2))), .unset] [] := by first | (simp [entryFrame, mkF, argsToLocals, Value.category]; done) | rfl
theorem d_jdk_48_method_27_code_0 : decode jdk_48_method_27_code 0 = .ok (.iload_n 0, 1) := by decide +kernel
theorem d_jdk_48_method_27_code_1 : decode jdk_48_method_27_code 1 = .ok (.iload_n 1, 1) := by decide +kernel
theorem d_jdk_48_method_27_code_2 : decode jdk_48_method_27_code 2 = .ok (.iload_n 2, 1) := by decide +kernel
theorem d_jdk_48_method_27_code_3 : decode jdk_48_method_27_code 3 = .ok (.invokestatic 194, 3) := by decide +kernel
theorem pd_0 : parseMethodDescriptor "(II)I" = some ⟨[.int, .int], some .int⟩ := by decide +kernel
theorem d_jdk_48_method_27_code_6 : decode jdk_48_method_27_code 6 = .ok (.iadd, 1) := by decide +kernel
theorem d_jdk_48_method_27_code_7 : decode jdk_48_method_27_code 7 = .ok (.istore_n 3, 1) := by decide +kernel
theorem d_jdk_48_method_27_code_8 : decode jdk_48_method_27_code 8 = .ok (.iconst 0, 1) := by decide +kernel
theorem d_jdk_48_method_27_code_9 : decode jdk_48_method_27_code 9 = .ok (.iload_n 3, 1) := by decide +kernel
theorem d_jdk_48_method_27_code_10 : decode jdk_48_method_27_code 10 = .ok (.if_icmp .ge 11, 3) := by decide +kernel
theorem d_jdk_48_method_27_code_13 : decode jdk_48_method_27_code 13 = .ok (.iload_n 3, 1) := by decide +kernel
theorem d_jdk_48_method_27_code_14 : decode jdk_48_method_27_code 14 = .ok (.ldc 200, 2) := by decide +kernel
theorem d_jdk_48_method_27_code_16 : decode jdk_48_method_27_code 16 = .ok (.if_icmp .gt 5, 3) := by decide +kernel
theorem d_jdk_48_method_27_code_19 : decode jdk_48_method_27_code 19 = .ok (.iload_n 3, 1) := by decide +kernel
theorem d_jdk_48_method_27_code_20 : decode jdk_48_method_27_code 20 = .ok (.ireturn, 1) := by decide +kernel
set_option maxRecDepth 65536 in
set_option maxHeartbeats 40000000 in
theorem rm_newLen (l : Launch) (Z : State) (a0 : Array Value) (hw : ∀ d ∈ tables_1, d.before a0 Z = true) (ws : List Jvm.Cond) (cap : Nat) (h0 : Heap) (n0 : Nat) (X00 : Old Z n0 h0) (h1 : 1 ≤ cap) (h5 : cap ≤ 5) :
    MetFree l (⟨"jdk/internal/util/ArraysSupport", "newLength", "(III)I"⟩ : MethodName) (head1 (Jvm.Cond.code (⟨"jdk/internal/util/ArraysSupport", "newLength", "(III)I"⟩ : MethodName) jdk_48_method_27_code 4 (some .int) :: ws) ({ frames := 1, cells := 0, slots := 0, locals := 20 } : Room)) (fun aa_ U => aa_ = #[(.int (Int32.ofNat cap)), (.int (1 : Int32)), (.int (Int32.ofNat (cap / 2)))] ∧ Z.Warmed39 U.vm ∧ U.heap = h0) (fun _ _ _ _ _ => True) (fun _ U o U' => ∃ v L, o = .returned v ∧ Q_newLen Z cap h0 n0 v U'.heap L ∧ FrameEnd U o U' L ({ frames := 1, cells := 0, slots := 0, locals := 20 } : Room).cells ({ frames := 1, cells := 0, slots := 0, locals := 20 } : Room).slots) := by
  refine MetFree.of_bodySF (plainFor_of_name pn_0) hisR ?_
  intro p e s m args below meth c s₁ Bd hml0 hP hK
  obtain ⟨rfl, hZ, hh⟩ := hP
  have hx := Bd.exec
  have hby := Bd.bytes
  have hml : c.maxLocals = 4 := hml0
  have hown : s.vm.findClass "jdk/internal/util/ArraysSupport" = some m.cls := findClass_of_methodNamed Bd.named
  have hnm := (name_of_methodNamed Bd.named Bd.method).1
  have hlk : meth.locks = false := BodyLoose.notSynchronized Bd
  have X0 : Stand p l e ({ frames := 1, cells := 0, slots := 0, locals := 20 } : Room) s m #[(.int (Int32.ofNat cap)), (.int (1 : Int32)), (.int (Int32.ofNat (cap / 2)))] below meth c s₁ [] 0 0 := Stand.of_body Bd
  have e0 : s₁.heap = h0 := by rw [← hh, Bd.state]; rfl
  have N0 := Fr.nil n0
  suffices G : Go p e below s (Q_newLen Z cap h0 n0) 0 0 s₁ (mkF m 0 #[.val (.int (Int32.ofNat cap)), .val (.int (1 : Int32)), .val (.int (Int32.ofNat (cap / 2))), .unset] []) by
    obtain ⟨s2, o, h1, h2⟩ := G
    exact ⟨s2, o, castTop (ef_newLen m ) h1, h2⟩
  refine Go.by (T' := s₁) (g' := (mkF m 1 #[.val (.int (Int32.ofNat cap)), .val (.int (1 : Int32)), .val (.int (Int32.ofNat (cap / 2))), .unset] [(.int (Int32.ofNat cap))])) (fun t_ k_ => XS.iloadN X0.here hx rfl (hb hby d_jdk_48_method_27_code_0) rfl k_) ?_
  refine Go.by (T' := s₁) (g' := (mkF m 2 #[.val (.int (Int32.ofNat cap)), .val (.int (1 : Int32)), .val (.int (Int32.ofNat (cap / 2))), .unset] [(.int (1 : Int32)), (.int (Int32.ofNat cap))])) (fun t_ k_ => XS.iloadN X0.here hx rfl (hb hby d_jdk_48_method_27_code_1) rfl k_) ?_
  refine Go.by (T' := s₁) (g' := (mkF m 3 #[.val (.int (Int32.ofNat cap)), .val (.int (1 : Int32)), .val (.int (Int32.ofNat (cap / 2))), .unset] [(.int (Int32.ofNat (cap / 2))), (.int (1 : Int32)), (.int (Int32.ofNat cap))])) (fun t_ k_ => XS.iloadN X0.here hx rfl (hb hby d_jdk_48_method_27_code_2) rfl k_) ?_
  obtain ⟨_, _, ⟨T101, L101, k101, n101⟩, -, X101, ⟨Lc101, hQ101, l101, y101, z101⟩, st101⟩ := Jvm.LawKit.callS X0 hx (y := (⟨"java/lang/Math", "max", "(II)I"⟩ : MethodName)) hown (mvT hZ (hw _ (List.mem_of_getElem? (i := 77) rfl))) (mvT hZ (hw _ (List.mem_of_getElem? (i := 78) rfl))) (mvT hZ (hw _ (List.mem_of_getElem? (i := 79) rfl))) (mvT hZ (hw _ (List.mem_of_getElem? (i := 80) rfl))) (by decide) (backOf (W := 1) (rm_max l Z a0 hw [] 1 (cap / 2) h0 n0 X00 (by decide) (by omega)) hZ (hw _ (List.mem_of_getElem? (i := 80) rfl)) (hw _ (List.mem_of_getElem? (i := 79) rfl)) (by decide) (by decide)) (g := (mkF m 3 #[.val (.int (Int32.ofNat cap)), .val (.int (1 : Int32)), .val (.int (Int32.ofNat (cap / 2))), .unset] [(.int (Int32.ofNat (cap / 2))), (.int (1 : Int32)), (.int (Int32.ofNat cap))])) rfl (by rw [hml]; rfl) (argsL := [(.int (1 : Int32)), (.int (Int32.ofNat (cap / 2)))]) (rest := [(.int (Int32.ofNat cap))]) (lenOf pd_0 rfl) rfl (by show 2 * 0 + _ ≤ _; exact Nat.le_of_eq rfl) (hb hby d_jdk_48_method_27_code_3) (fun _ _ => ⟨rfl, e0, (by decide : 0 + 0 ≤ _), (by decide : 0 + 0 ≤ _)⟩)
  dsimp only [Pt.U, Pt.locs, Pt.cells, Pt.slots] at X101 l101 y101 z101 st101 hQ101
  subst l101 y101 z101
  obtain ⟨rfl, N101q, e101⟩ := hQ101
  have N101 := Fr.app N0 N101q
  refine Go.by (T' := T101) (g' := (mkF m 6 #[.val (.int (Int32.ofNat cap)), .val (.int (1 : Int32)), .val (.int (Int32.ofNat (cap / 2))), .unset] [(.int (Int32.ofNat (max 1 (cap / 2)))), (.int (Int32.ofNat cap))])) (fun t_ k_ => st101 _ k_) ?_
  refine Go.by (T' := T101) (g' := (mkF m 7 #[.val (.int (Int32.ofNat cap)), .val (.int (1 : Int32)), .val (.int (Int32.ofNat (cap / 2))), .unset] [(.int ((Int32.ofNat cap) + (Int32.ofNat (max 1 (cap / 2)))))])) (fun t_ k_ => XS.iadd X101.here hx rfl (hb hby d_jdk_48_method_27_code_6) rfl k_) ?_
  rw [own_add]
  refine Go.by (T' := T101) (g' := (mkF m 8 #[.val (.int (Int32.ofNat cap)), .val (.int (1 : Int32)), .val (.int (Int32.ofNat (cap / 2))), .val (.int (Int32.ofNat (cap + max 1 (cap / 2))))] [])) (fun t_ k_ => XS.istoreN X101.here hx rfl (hb hby d_jdk_48_method_27_code_7) rfl (l' := #[.val (.int (Int32.ofNat cap)), .val (.int (1 : Int32)), .val (.int (Int32.ofNat (cap / 2))), .val (.int (Int32.ofNat (cap + max 1 (cap / 2))))]) rfl k_) ?_
  refine Go.by (T' := T101) (g' := (mkF m 9 #[.val (.int (Int32.ofNat cap)), .val (.int (1 : Int32)), .val (.int (Int32.ofNat (cap / 2))), .val (.int (Int32.ofNat (cap + max 1 (cap / 2))))] [(.int (0 : Int32))])) (fun t_ k_ => XS.iconst X101.here hx rfl (hb hby d_jdk_48_method_27_code_8) k_) ?_
  refine Go.by (T' := T101) (g' := (mkF m 10 #[.val (.int (Int32.ofNat cap)), .val (.int (1 : Int32)), .val (.int (Int32.ofNat (cap / 2))), .val (.int (Int32.ofNat (cap + max 1 (cap / 2))))] [(.int (Int32.ofNat (cap + max 1 (cap / 2)))), (.int (0 : Int32))])) (fun t_ k_ => XS.iloadN X101.here hx rfl (hb hby d_jdk_48_method_27_code_9) rfl k_) ?_
  refine Go.by (T' := T101) (g' := (mkF m 13 #[.val (.int (Int32.ofNat cap)), .val (.int (1 : Int32)), .val (.int (Int32.ofNat (cap / 2))), .val (.int (Int32.ofNat (cap + max 1 (cap / 2))))] [])) (fun t_ k_ => XS.icmpNo X101.here hx rfl (hb hby d_jdk_48_method_27_code_10) rfl (tlt (by rw [show (0 : Int32) = Int32.ofNat 0 from rfl, own_lt (by omega) (by omega)]; omega)).2.1 k_) ?_
  refine Go.by (T' := T101) (g' := (mkF m 14 #[.val (.int (Int32.ofNat cap)), .val (.int (1 : Int32)), .val (.int (Int32.ofNat (cap / 2))), .val (.int (Int32.ofNat (cap + max 1 (cap / 2))))] [(.int (Int32.ofNat (cap + max 1 (cap / 2))))])) (fun t_ k_ => XS.iloadN X101.here hx rfl (hb hby d_jdk_48_method_27_code_13) rfl k_) ?_
  refine Go.by (T' := T101) (g' := (mkF m 16 #[.val (.int (Int32.ofNat cap)), .val (.int (1 : Int32)), .val (.int (Int32.ofNat (cap / 2))), .val (.int (Int32.ofNat (cap + max 1 (cap / 2))))] [(.int (2147483639 : Int32)), (.int (Int32.ofNat (cap + max 1 (cap / 2))))])) (fun t_ k_ => ldcI X101 hx hown (mvT hZ (hw _ (List.mem_of_getElem? (i := 81) rfl))) rfl (hb hby d_jdk_48_method_27_code_14) k_) ?_
  refine Go.by (T' := T101) (g' := (mkF m 19 #[.val (.int (Int32.ofNat cap)), .val (.int (1 : Int32)), .val (.int (Int32.ofNat (cap / 2))), .val (.int (Int32.ofNat (cap + max 1 (cap / 2))))] [])) (fun t_ k_ => XS.icmpNo X101.here hx rfl (hb hby d_jdk_48_method_27_code_16) rfl (flt (by rw [Int32.lt_iff_toInt_lt, own_toInt (by omega)]; show ¬ ((2147483639 : Int) < _); omega)).2.2.1 k_) ?_
  refine Go.by (T' := T101) (g' := (mkF m 20 #[.val (.int (Int32.ofNat cap)), .val (.int (1 : Int32)), .val (.int (Int32.ofNat (cap / 2))), .val (.int (Int32.ofNat (cap + max 1 (cap / 2))))] [(.int (Int32.ofNat (cap + max 1 (cap / 2))))])) (fun t_ k_ => XS.iloadN X101.here hx rfl (hb hby d_jdk_48_method_27_code_19) rfl k_) ?_
  refine Go.fin X101 (v := some (.int (Int32.ofNat (cap + max 1 (cap / 2))))) (fun h => by rw [Bd.returns] at h; cases h) hlk (by decide) (by decide) ?_ (fun fs hr => retI X101 hx Bd.returns (hb hby d_jdk_48_method_27_code_20) hr)
  show Q_newLen Z cap h0 n0 _ T101.heap _
  rw [e101]
  exact ⟨rfl, N101, rfl⟩
def Q_cp3 (Z : State) (ea : Addr) (k : ClassId) (cap : Nat) (nc : Nat) (mr : Addr) (h0 : Heap) (n0 : Nat) (v : Option Value) (h : Heap) (L : List Loc) : Prop := ∃ (t : Addr) (k2 : ClassId), v = some (.ref t) ∧ Fr n0 L ∧ Keep h0 h [] ∧ h0.size ≤ t ∧ Exa Z h t "[Ljava/lang/Object;" ∧ Arv Z h t k2 (.object "java/lang/Object") (Int32.ofNat nc) [] .null
theorem pn_1 : plainName "java/util/Arrays" = true := by first | (simp [plainName, overriddenIn]; done) | decide +kernel
theorem ef_cp3 (m : MethodId) (ea : Addr) (mr : Addr) : entryFrame m #[(.ref ea), (.int (Int32.ofNat nc)), (.ref mr)] 4 = mkF m 0 #[.val (.ref ea), .val (.int (Int32.ofNat nc)), .val (.ref mr), .unset] [] := by first | (simp [entryFrame, mkF, argsToLocals, Value.category]; done) | rfl
theorem d_jdk_65_method_120_code_0 : decode jdk_65_method_120_code 0 = .ok (.aload_n 2, 1) := by decide +kernel
theorem d_jdk_65_method_120_code_1 : decode jdk_65_method_120_code 1 = .ok (.ldc 110, 2) := by decide +kernel
theorem d_jdk_65_method_120_code_3 : decode jdk_65_method_120_code 3 = .ok (.if_acmp .ne 10, 3) := by decide +kernel
theorem d_jdk_65_method_120_code_6 : decode jdk_65_method_120_code 6 = .ok (.iload_n 1, 1) := by decide +kernel
theorem d_jdk_65_method_120_code_7 : decode jdk_65_method_120_code 7 = .ok (.anewarray 2, 3) := by decide +kernel
theorem d_jdk_65_method_120_code_10 : decode jdk_65_method_120_code 10 = .ok (.goto 14, 3) := by decide +kernel
theorem d_jdk_65_method_120_code_24 : decode jdk_65_method_120_code 24 = .ok (.astore_n 3, 1) := by decide +kernel
theorem d_jdk_65_method_120_code_25 : decode jdk_65_method_120_code 25 = .ok (.aload_n 0, 1) := by decide +kernel
theorem d_jdk_65_method_120_code_26 : decode jdk_65_method_120_code 26 = .ok (.iconst 0, 1) := by decide +kernel
theorem d_jdk_65_method_120_code_27 : decode jdk_65_method_120_code 27 = .ok (.aload_n 3, 1) := by decide +kernel
theorem d_jdk_65_method_120_code_28 : decode jdk_65_method_120_code 28 = .ok (.iconst 0, 1) := by decide +kernel
theorem d_jdk_65_method_120_code_29 : decode jdk_65_method_120_code 29 = .ok (.aload_n 0, 1) := by decide +kernel
theorem d_jdk_65_method_120_code_30 : decode jdk_65_method_120_code 30 = .ok (.arraylength, 1) := by decide +kernel
theorem d_jdk_65_method_120_code_31 : decode jdk_65_method_120_code 31 = .ok (.iload_n 1, 1) := by decide +kernel
theorem d_jdk_65_method_120_code_32 : decode jdk_65_method_120_code 32 = .ok (.invokestatic 304, 3) := by decide +kernel
theorem d_jdk_65_method_120_code_35 : decode jdk_65_method_120_code 35 = .ok (.invokestatic 150, 3) := by decide +kernel
theorem d_jdk_65_method_120_code_38 : decode jdk_65_method_120_code 38 = .ok (.aload_n 3, 1) := by decide +kernel
theorem d_jdk_65_method_120_code_39 : decode jdk_65_method_120_code 39 = .ok (.areturn, 1) := by decide +kernel
set_option maxRecDepth 65536 in
set_option maxHeartbeats 40000000 in
theorem rm_cp3 (l : Launch) (Z : State) (a0 : Array Value) (hw : ∀ d ∈ tables_1, d.before a0 Z = true) (ws : List Jvm.Cond) (ea : Addr) (k : ClassId) (cap : Nat) (nc : Nat) (mr : Addr) (h0 : Heap) (n0 : Nat) (X00 : Old Z n0 h0) (P0 : Arv Z h0 ea k (.object "java/lang/Object") (Int32.ofNat cap) [] .null) (hc1 : cap ≤ nc) (hc7 : nc ≤ 7) (hM : own_Mir Z "[Ljava/lang/Object;" mr) :
    MetFree l (⟨"java/util/Arrays", "copyOf", "([Ljava/lang/Object;ILjava/lang/Class;)[Ljava/lang/Object;"⟩ : MethodName) (head1 (Jvm.Cond.code (⟨"java/util/Arrays", "copyOf", "([Ljava/lang/Object;ILjava/lang/Class;)[Ljava/lang/Object;"⟩ : MethodName) jdk_65_method_120_code 4 (some (.array (.object "java/lang/Object"))) :: ws) ({ frames := 1, cells := 1, slots := 7, locals := 40 } : Room)) (fun aa_ U => aa_ = #[(.ref ea), (.int (Int32.ofNat nc)), (.ref mr)] ∧ Z.Warmed39 U.vm ∧ U.heap = h0) (fun _ _ _ _ _ => True) (fun _ U o U' => ∃ v L, o = .returned v ∧ Q_cp3 Z ea k cap nc mr h0 n0 v U'.heap L ∧ FrameEnd U o U' L ({ frames := 1, cells := 1, slots := 7, locals := 40 } : Room).cells ({ frames := 1, cells := 1, slots := 7, locals := 40 } : Room).slots) := by
  refine MetFree.of_bodySF (plainFor_of_name pn_1) hisR ?_
  intro p e s m args below meth c s₁ Bd hml0 hP hK
  obtain ⟨rfl, hZ, hh⟩ := hP
  have hx := Bd.exec
  have hby := Bd.bytes
  have hml : c.maxLocals = 4 := hml0
  have hown : s.vm.findClass "java/util/Arrays" = some m.cls := findClass_of_methodNamed Bd.named
  have hnm := (name_of_methodNamed Bd.named Bd.method).1
  have hlk : meth.locks = false := BodyLoose.notSynchronized Bd
  have X0 : Stand p l e ({ frames := 1, cells := 1, slots := 7, locals := 40 } : Room) s m #[(.ref ea), (.int (Int32.ofNat nc)), (.ref mr)] below meth c s₁ [] 0 0 := Stand.of_body Bd
  have e0 : s₁.heap = h0 := by rw [← hh, Bd.state]; rfl
  have N0 := Fr.nil n0
  suffices G : Go p e below s (Q_cp3 Z ea k cap nc mr h0 n0) 1 7 s₁ (mkF m 0 #[.val (.ref ea), .val (.int (Int32.ofNat nc)), .val (.ref mr), .unset] []) by
    obtain ⟨s2, o, h1, h2⟩ := G
    exact ⟨s2, o, castTop (ef_cp3 m ea mr) h1, h2⟩
  refine Go.by (T' := s₁) (g' := (mkF m 1 #[.val (.ref ea), .val (.int (Int32.ofNat nc)), .val (.ref mr), .unset] [(.ref mr)])) (fun t_ k_ => XS.aloadN X0.here hx rfl (hb hby d_jdk_65_method_120_code_0) rfl rfl k_) ?_
  obtain ⟨vm101, X101, st101⟩ := X0.ldcMirror hx hown (mvT hZ (hw _ (List.mem_of_getElem? (i := 95) rfl))) (own_mirEv hZ hM) (g := (mkF m 1 #[.val (.ref ea), .val (.int (Int32.ofNat nc)), .val (.ref mr), .unset] [(.ref mr)])) rfl (hb hby d_jdk_65_method_120_code_1)
  refine Go.by (T' := (s₁.setVm vm101)) (g' := (mkF m 3 #[.val (.ref ea), .val (.int (Int32.ofNat nc)), .val (.ref mr), .unset] [(.ref mr), (.ref mr)])) (fun t_ k_ => st101 _ k_) ?_
  refine Go.by (T' := (s₁.setVm vm101)) (g' := (mkF m 6 #[.val (.ref ea), .val (.int (Int32.ofNat nc)), .val (.ref mr), .unset] [])) (fun t_ k_ => Jvm.RoadKit.acmp (g := (mkF m 3 #[.val (.ref ea), .val (.int (Int32.ofNat nc)), .val (.ref mr), .unset] [(.ref mr), (.ref mr)])) X101 hx rfl rfl rfl (pc0 := 3) (pc' := 6) (same := true) rfl (hb hby d_jdk_65_method_120_code_3) rfl (decide_eq_true rfl) (by decide) (by decide) k_) ?_
  refine Go.by (T' := (s₁.setVm vm101)) (g' := (mkF m 7 #[.val (.ref ea), .val (.int (Int32.ofNat nc)), .val (.ref mr), .unset] [(.int (Int32.ofNat nc))])) (fun t_ k_ => XS.iloadN X101.here hx rfl (hb hby d_jdk_65_method_120_code_6) rfl k_) ?_
  obtain ⟨T102, h102, kc102, X102, e102, E102, A102, Ax102, Ov102, st102⟩ := newRE X101 hx hZ hown (hw _ (List.mem_of_getElem? (i := 96) rfl)) (hw _ (List.mem_of_getElem? (i := 33) rfl)) e0 (g := (mkF m 7 #[.val (.ref ea), .val (.int (Int32.ofNat nc)), .val (.ref mr), .unset] [(.int (Int32.ofNat nc))])) rfl (hb hby d_jdk_65_method_120_code_7) rfl (own_nn (by omega)) (cap := 7) (by rw [own_nat (by omega)]; omega) (by decide) (by decide) (by decide) (ad := "[Ljava/lang/Object;") (by decide +kernel)
  obtain ⟨b102, g102⟩ : ∃ z, z = h0.size := ⟨_, rfl⟩
  rw [← g102] at A102 Ax102 st102
  have ge_b102 : n0 ≤ b102 := Nat.le_trans X00.sz (Nat.le_of_eq g102.symm)
  have sz_b102 : h0.size ≤ b102 := Nat.le_trans (Keep.refl h0 []).1 (Nat.le_of_eq g102.symm)
  have ne_ea_b102 : ¬ (ea = b102) := Nat.ne_of_lt (Nat.lt_of_lt_of_le P0.lt (Nat.le_of_eq g102.symm))
  have V102 : Arv Z h102 b102 kc102 (.object "java/lang/Object") (Int32.ofNat nc) [] .null := Arv.new A102 (own_nn (by omega))
  refine Go.by (T' := T102) (g' := (mkF m 10 #[.val (.ref ea), .val (.int (Int32.ofNat nc)), .val (.ref mr), .unset] [(.ref b102)])) (fun t_ k_ => st102 _ k_) ?_
  refine Go.by (T' := T102) (g' := (mkF m 24 #[.val (.ref ea), .val (.int (Int32.ofNat nc)), .val (.ref mr), .unset] [(.ref b102)])) (fun t_ k_ => XS.goto X102.here hx rfl (pc0 := 10) (pc' := 24) rfl (hb hby d_jdk_65_method_120_code_10) (by decide) (by decide) k_) ?_
  refine Go.by (T' := T102) (g' := (mkF m 25 #[.val (.ref ea), .val (.int (Int32.ofNat nc)), .val (.ref mr), .val (.ref b102)] [])) (fun t_ k_ => XS.astoreN X102.here hx rfl (hb hby d_jdk_65_method_120_code_24) rfl rfl (l' := #[.val (.ref ea), .val (.int (Int32.ofNat nc)), .val (.ref mr), .val (.ref b102)]) rfl k_) ?_
  refine Go.by (T' := T102) (g' := (mkF m 26 #[.val (.ref ea), .val (.int (Int32.ofNat nc)), .val (.ref mr), .val (.ref b102)] [(.ref ea)])) (fun t_ k_ => XS.aloadN X102.here hx rfl (hb hby d_jdk_65_method_120_code_25) rfl rfl k_) ?_
  refine Go.by (T' := T102) (g' := (mkF m 27 #[.val (.ref ea), .val (.int (Int32.ofNat nc)), .val (.ref mr), .val (.ref b102)] [(.int (0 : Int32)), (.ref ea)])) (fun t_ k_ => XS.iconst X102.here hx rfl (hb hby d_jdk_65_method_120_code_26) k_) ?_
  refine Go.by (T' := T102) (g' := (mkF m 28 #[.val (.ref ea), .val (.int (Int32.ofNat nc)), .val (.ref mr), .val (.ref b102)] [(.ref b102), (.int (0 : Int32)), (.ref ea)])) (fun t_ k_ => XS.aloadN X102.here hx rfl (hb hby d_jdk_65_method_120_code_27) rfl rfl k_) ?_
  refine Go.by (T' := T102) (g' := (mkF m 29 #[.val (.ref ea), .val (.int (Int32.ofNat nc)), .val (.ref mr), .val (.ref b102)] [(.int (0 : Int32)), (.ref b102), (.int (0 : Int32)), (.ref ea)])) (fun t_ k_ => XS.iconst X102.here hx rfl (hb hby d_jdk_65_method_120_code_28) k_) ?_
  refine Go.by (T' := T102) (g' := (mkF m 30 #[.val (.ref ea), .val (.int (Int32.ofNat nc)), .val (.ref mr), .val (.ref b102)] [(.ref ea), (.int (0 : Int32)), (.ref b102), (.int (0 : Int32)), (.ref ea)])) (fun t_ k_ => XS.aloadN X102.here hx rfl (hb hby d_jdk_65_method_120_code_29) rfl rfl k_) ?_
  have F103 : Arv Z h102 ea k (.object "java/lang/Object") (Int32.ofNat cap) [] .null := (P0.ext E102)
  obtain ⟨cl104, Ar104, -, Sz104, Ng104, -, -⟩ := id F103
  refine Go.by (T' := T102) (g' := (mkF m 31 #[.val (.ref ea), .val (.int (Int32.ofNat nc)), .val (.ref mr), .val (.ref b102)] [(.int (Int32.ofNat cap)), (.int (0 : Int32)), (.ref b102), (.int (0 : Int32)), (.ref ea)])) (fun t_ k_ => X102.arraylength hx (by rw [e102]; exact Ar104.1) (State.isArrayOf_alike hZ.alike Ar104.2.1) (g := (mkF m 30 #[.val (.ref ea), .val (.int (Int32.ofNat nc)), .val (.ref mr), .val (.ref b102)] [(.ref ea), (.int (0 : Int32)), (.ref b102), (.int (0 : Int32)), (.ref ea)])) rfl rfl (hb hby d_jdk_65_method_120_code_30) _ (by rw [len_of Sz104 Ng104]; exact k_)) ?_
  refine Go.by (T' := T102) (g' := (mkF m 32 #[.val (.ref ea), .val (.int (Int32.ofNat nc)), .val (.ref mr), .val (.ref b102)] [(.int (Int32.ofNat nc)), (.int (Int32.ofNat cap)), (.int (0 : Int32)), (.ref b102), (.int (0 : Int32)), (.ref ea)])) (fun t_ k_ => XS.iloadN X102.here hx rfl (hb hby d_jdk_65_method_120_code_31) rfl k_) ?_
  have Od105 : Old Z n0 h102 := (X00.ext E102)
  obtain ⟨_, _, ⟨T106, L106, k106, n106⟩, -, X106, ⟨Lc106, hQ106, l106, y106, z106⟩, st106⟩ := Jvm.LawKit.callS X102 hx (y := (⟨"java/lang/Math", "min", "(II)I"⟩ : MethodName)) hown (mvT hZ (hw _ (List.mem_of_getElem? (i := 97) rfl))) (mvT hZ (hw _ (List.mem_of_getElem? (i := 98) rfl))) (mvT hZ (hw _ (List.mem_of_getElem? (i := 79) rfl))) (mvT hZ (hw _ (List.mem_of_getElem? (i := 99) rfl))) (by decide) (backOf (W := 4) (rm_min l Z a0 hw [] (Int32.ofNat cap) (Int32.ofNat nc) h102 n0 Od105 (by rw [own_lt (by omega) (by omega)]; omega)) hZ (hw _ (List.mem_of_getElem? (i := 99) rfl)) (hw _ (List.mem_of_getElem? (i := 79) rfl)) (by decide) (by decide)) (g := (mkF m 32 #[.val (.ref ea), .val (.int (Int32.ofNat nc)), .val (.ref mr), .val (.ref b102)] [(.int (Int32.ofNat nc)), (.int (Int32.ofNat cap)), (.int (0 : Int32)), (.ref b102), (.int (0 : Int32)), (.ref ea)])) rfl (by rw [hml]; rfl) (argsL := [(.int (Int32.ofNat cap)), (.int (Int32.ofNat nc))]) (rest := [(.int (0 : Int32)), (.ref b102), (.int (0 : Int32)), (.ref ea)]) (lenOf pd_0 rfl) rfl (by show 2 * 0 + _ ≤ _; exact Nat.le_of_eq rfl) (hb hby d_jdk_65_method_120_code_32) (fun _ _ => ⟨rfl, e102, (by decide : 1 + 0 ≤ _), (by decide : 7 + 0 ≤ _)⟩)
  dsimp only [Pt.U, Pt.locs, Pt.cells, Pt.slots] at X106 l106 y106 z106 st106 hQ106
  subst l106 y106 z106
  obtain ⟨rfl, N106q, e106⟩ := hQ106
  have N106 := Fr.app N0 N106q
  refine Go.by (T' := T106) (g' := (mkF m 35 #[.val (.ref ea), .val (.int (Int32.ofNat nc)), .val (.ref mr), .val (.ref b102)] [(.int (Int32.ofNat cap)), (.int (0 : Int32)), (.ref b102), (.int (0 : Int32)), (.ref ea)])) (fun t_ k_ => st106 _ k_) ?_
  have Kp107 : Keep h0 h102 [] := ((Keep.refl h0 []).ext E102)
  have Pd108 : Arv Z h102 b102 kc102 (.object "java/lang/Object") (Int32.ofNat nc) (List.replicate nc (.null : Value)) .null := V102.pad (by simpa using pad_rep [] .null nc)
  obtain ⟨T109, h109, Lx109, X109, e109, N109, K109, A109, st109⟩ := cpA X106 hx hZ hown (hw _ (List.mem_of_getElem? (i := 100) rfl)) (hw _ (List.mem_of_getElem? (i := 103) rfl)) (hw _ (List.mem_of_getElem? (i := 101) rfl)) (hw _ (List.mem_of_getElem? (i := 102) rfl)) e106 F103 Pd108 (us := (List.replicate cap (.null : Value))) (Or.inr ⟨rfl, rfl, own_stoL cap⟩) (sp := (0 : Int32)) (dp := (0 : Int32)) (nn := (Int32.ofNat cap)) (by decide) (by decide) (own_nn (by omega)) (by rw [own_nat (by omega)]; show 0 + _ ≤ _; omega) (by rw [own_nat (by omega), own_nat (by omega)]; show 0 + _ ≤ _; omega) (by rw [own_nat (by omega)]; exact (own_nulls cap).symm) (by rw [own_nat (by omega)]; show 0 + _ ≤ _; simp; omega) N106 ge_b102 (g := (mkF m 35 #[.val (.ref ea), .val (.int (Int32.ofNat nc)), .val (.ref mr), .val (.ref b102)] [(.int (Int32.ofNat cap)), (.int (0 : Int32)), (.ref b102), (.int (0 : Int32)), (.ref ea)])) rfl (by rw [hml]; rfl) rfl (hb hby d_jdk_65_method_120_code_35) (by decide) (W := 0) (by show 2 * 0 + _ ≤ _; exact Nat.le_of_eq rfl) (by decide)
  have V109 : Arv Z h109 b102 kc102 (.object "java/lang/Object") (Int32.ofNat nc) [] .null := own_unpad A109 (by simp)
  refine Go.by (T' := T109) (g' := (mkF m 38 #[.val (.ref ea), .val (.int (Int32.ofNat nc)), .val (.ref mr), .val (.ref b102)] [])) (fun t_ k_ => st109 _ k_) ?_
  refine Go.by (T' := T109) (g' := (mkF m 39 #[.val (.ref ea), .val (.int (Int32.ofNat nc)), .val (.ref mr), .val (.ref b102)] [(.ref b102)])) (fun t_ k_ => XS.aloadN X109.here hx rfl (hb hby d_jdk_65_method_120_code_38) rfl rfl k_) ?_
  have F110 : Exa Z h109 b102 "[Ljava/lang/Object;" := (Ax102.keep K109)
  have Kp111 : Keep h0 h109 [] := (Kp107.trans K109 (allS (Or.inr sz_b102) all0))
  refine Go.fin X109 (v := some (.ref b102)) (fun h => by rw [Bd.returns] at h; cases h) hlk (by decide) (by decide) ?_ (fun fs hr => retR X109 hx (w := (.ref b102)) Bd.returns rfl rfl rfl (hb hby d_jdk_65_method_120_code_39) hr)
  show Q_cp3 Z ea k cap nc mr h0 n0 _ T109.heap _
  rw [e109]
  exact ⟨b102, kc102, rfl, N109, Kp111, sz_b102, F110, V109⟩
def Q_cp2 (Z : State) (ea : Addr) (k : ClassId) (cap : Nat) (nc : Nat) (mr : Addr) (h0 : Heap) (n0 : Nat) (v : Option Value) (h : Heap) (L : List Loc) : Prop := ∃ (t : Addr) (k2 : ClassId), v = some (.ref t) ∧ Fr n0 L ∧ Keep h0 h [] ∧ h0.size ≤ t ∧ Exa Z h t "[Ljava/lang/Object;" ∧ Arv Z h t k2 (.object "java/lang/Object") (Int32.ofNat nc) [] .null
theorem ef_cp2 (m : MethodId) (ea : Addr) : entryFrame m #[(.ref ea), (.int (Int32.ofNat nc))] 2 = mkF m 0 #[.val (.ref ea), .val (.int (Int32.ofNat nc))] [] := by first | (simp [entryFrame, mkF, argsToLocals, Value.category]; done) | rfl
theorem d_jdk_65_method_119_code_0 : decode jdk_65_method_119_code 0 = .ok (.aload_n 0, 1) := by decide +kernel
theorem d_jdk_65_method_119_code_1 : decode jdk_65_method_119_code 1 = .ok (.iload_n 1, 1) := by decide +kernel
theorem d_jdk_65_method_119_code_2 : decode jdk_65_method_119_code 2 = .ok (.aload_n 0, 1) := by decide +kernel
theorem d_jdk_65_method_119_code_3 : decode jdk_65_method_119_code 3 = .ok (.invokevirtual 86, 3) := by decide +kernel
theorem d_jdk_65_method_119_code_6 : decode jdk_65_method_119_code 6 = .ok (.invokestatic 300, 3) := by decide +kernel
theorem pd_1 : parseMethodDescriptor "([Ljava/lang/Object;ILjava/lang/Class;)[Ljava/lang/Object;" = some ⟨[(.array (.object "java/lang/Object")), .int, (.object "java/lang/Class")], some (.array (.object "java/lang/Object"))⟩ := by decide +kernel
theorem d_jdk_65_method_119_code_9 : decode jdk_65_method_119_code 9 = .ok (.areturn, 1) := by decide +kernel
set_option maxRecDepth 65536 in
set_option maxHeartbeats 40000000 in
theorem rm_cp2 (l : Launch) (Z : State) (a0 : Array Value) (hw : ∀ d ∈ tables_1, d.before a0 Z = true) (ws : List Jvm.Cond) (ea : Addr) (k : ClassId) (cap : Nat) (nc : Nat) (mr : Addr) (h0 : Heap) (n0 : Nat) (X00 : Old Z n0 h0) (P0 : Exa Z h0 ea "[Ljava/lang/Object;") (P1 : Arv Z h0 ea k (.object "java/lang/Object") (Int32.ofNat cap) [] .null) (hc1 : cap ≤ nc) (hc7 : nc ≤ 7) (hM : own_Mir Z "[Ljava/lang/Object;" mr) :
    MetFree l (⟨"java/util/Arrays", "copyOf", "([Ljava/lang/Object;I)[Ljava/lang/Object;"⟩ : MethodName) (head1 (Jvm.Cond.code (⟨"java/util/Arrays", "copyOf", "([Ljava/lang/Object;I)[Ljava/lang/Object;"⟩ : MethodName) jdk_65_method_119_code 2 (some (.array (.object "java/lang/Object"))) :: ws) ({ frames := 2, cells := 1, slots := 7, locals := 60 } : Room)) (fun aa_ U => aa_ = #[(.ref ea), (.int (Int32.ofNat nc))] ∧ Z.Warmed39 U.vm ∧ U.heap = h0) (fun _ _ _ _ _ => True) (fun _ U o U' => ∃ v L, o = .returned v ∧ Q_cp2 Z ea k cap nc mr h0 n0 v U'.heap L ∧ FrameEnd U o U' L ({ frames := 2, cells := 1, slots := 7, locals := 60 } : Room).cells ({ frames := 2, cells := 1, slots := 7, locals := 60 } : Room).slots) := by
  refine MetFree.of_bodySF (plainFor_of_name pn_1) hisR ?_
  intro p e s m args below meth c s₁ Bd hml0 hP hK
  obtain ⟨rfl, hZ, hh⟩ := hP
  have hx := Bd.exec
  have hby := Bd.bytes
  have hml : c.maxLocals = 2 := hml0
  have hown : s.vm.findClass "java/util/Arrays" = some m.cls := findClass_of_methodNamed Bd.named
  have hnm := (name_of_methodNamed Bd.named Bd.method).1
  have hlk : meth.locks = false := BodyLoose.notSynchronized Bd
  have X0 : Stand p l e ({ frames := 2, cells := 1, slots := 7, locals := 60 } : Room) s m #[(.ref ea), (.int (Int32.ofNat nc))] below meth c s₁ [] 0 0 := Stand.of_body Bd
  have e0 : s₁.heap = h0 := by rw [← hh, Bd.state]; rfl
  have N0 := Fr.nil n0
  suffices G : Go p e below s (Q_cp2 Z ea k cap nc mr h0 n0) 1 7 s₁ (mkF m 0 #[.val (.ref ea), .val (.int (Int32.ofNat nc))] []) by
    obtain ⟨s2, o, h1, h2⟩ := G
    exact ⟨s2, o, castTop (ef_cp2 m ea) h1, h2⟩
  refine Go.by (T' := s₁) (g' := (mkF m 1 #[.val (.ref ea), .val (.int (Int32.ofNat nc))] [(.ref ea)])) (fun t_ k_ => XS.aloadN X0.here hx rfl (hb hby d_jdk_65_method_119_code_0) rfl rfl k_) ?_
  refine Go.by (T' := s₁) (g' := (mkF m 2 #[.val (.ref ea), .val (.int (Int32.ofNat nc))] [(.int (Int32.ofNat nc)), (.ref ea)])) (fun t_ k_ => XS.iloadN X0.here hx rfl (hb hby d_jdk_65_method_119_code_1) rfl k_) ?_
  refine Go.by (T' := s₁) (g' := (mkF m 3 #[.val (.ref ea), .val (.int (Int32.ofNat nc))] [(.ref ea), (.int (Int32.ofNat nc)), (.ref ea)])) (fun t_ k_ => XS.aloadN X0.here hx rfl (hb hby d_jdk_65_method_119_code_2) rfl rfl k_) ?_
  obtain ⟨T101, X101, e101, st101⟩ := own_gc X0 hx hZ hown (hw _ (List.mem_of_getElem? (i := 86) rfl)) (hw _ (List.mem_of_getElem? (i := 87) rfl)) (hw _ (List.mem_of_getElem? (i := 89) rfl)) (hw _ (List.mem_of_getElem? (i := 88) rfl)) (hw _ (List.mem_of_getElem? (i := 90) rfl)) e0 P0 hM (g := (mkF m 3 #[.val (.ref ea), .val (.int (Int32.ofNat nc))] [(.ref ea), (.int (Int32.ofNat nc)), (.ref ea)])) rfl (by rw [hml]; rfl) rfl (hb hby d_jdk_65_method_119_code_3) (by decide) (W := 2) (by show 2 * 0 + _ ≤ _; exact Nat.le_of_eq rfl) (by decide)
  refine Go.by (T' := T101) (g' := (mkF m 6 #[.val (.ref ea), .val (.int (Int32.ofNat nc))] [(.ref mr), (.int (Int32.ofNat nc)), (.ref ea)])) (fun t_ k_ => st101 _ k_) ?_
  obtain ⟨_, _, ⟨T102, L102, k102, n102⟩, -, X102, ⟨Lc102, hQ102, l102, y102, z102⟩, st102⟩ := Jvm.LawKit.callS X101 hx (y := (⟨"java/util/Arrays", "copyOf", "([Ljava/lang/Object;ILjava/lang/Class;)[Ljava/lang/Object;"⟩ : MethodName)) hown (mvT hZ (hw _ (List.mem_of_getElem? (i := 92) rfl))) (mvT hZ (hw _ (List.mem_of_getElem? (i := 93) rfl))) (mvT hZ (hw _ (List.mem_of_getElem? (i := 84) rfl))) (mvT hZ (hw _ (List.mem_of_getElem? (i := 94) rfl))) (by decide) (backOf (W := 0) (rm_cp3 l Z a0 hw [] ea k cap nc mr h0 n0 X00 P1 hc1 hc7 hM) hZ (hw _ (List.mem_of_getElem? (i := 94) rfl)) (hw _ (List.mem_of_getElem? (i := 84) rfl)) (by decide) (by decide)) (g := (mkF m 6 #[.val (.ref ea), .val (.int (Int32.ofNat nc))] [(.ref mr), (.int (Int32.ofNat nc)), (.ref ea)])) rfl (by rw [hml]; rfl) (argsL := [(.ref ea), (.int (Int32.ofNat nc)), (.ref mr)]) (rest := []) (lenOf pd_1 rfl) rfl (by show 2 * 0 + _ ≤ _; exact Nat.le_of_eq rfl) (hb hby d_jdk_65_method_119_code_6) (fun _ _ => ⟨rfl, e101, (by decide : 0 + 1 ≤ _), (by decide : 0 + 7 ≤ _)⟩)
  dsimp only [Pt.U, Pt.locs, Pt.cells, Pt.slots] at X102 l102 y102 z102 st102 hQ102
  subst l102 y102 z102
  obtain ⟨t_102, k2_102, rfl, N102q, K102, G102_0, G102_1, G102_2⟩ := hQ102
  have N102 := Fr.app N0 N102q
  have ge_t_102 : n0 ≤ t_102 := Nat.le_trans X00.sz G102_0
  have sz_t_102 : h0.size ≤ t_102 := Nat.le_trans (Keep.refl h0 []).1 G102_0
  have ne_ea_t_102 : ¬ (ea = t_102) := Nat.ne_of_lt (Nat.lt_of_lt_of_le P0.lt G102_0)
  refine Go.by (T' := T102) (g' := (mkF m 9 #[.val (.ref ea), .val (.int (Int32.ofNat nc))] [(.ref t_102)])) (fun t_ k_ => st102 _ k_) ?_
  have Kp103 : Keep h0 T102.heap [] := ((Keep.refl h0 []).trans K102 all0)
  refine Go.fin X102 (v := some (.ref t_102)) (fun h => by rw [Bd.returns] at h; cases h) hlk (by decide) (by decide) ?_ (fun fs hr => retR X102 hx (w := (.ref t_102)) Bd.returns rfl rfl rfl (hb hby d_jdk_65_method_119_code_9) hr)
  show Q_cp2 Z ea k cap nc mr h0 n0 _ T102.heap _
  exact ⟨t_102, k2_102, rfl, N102, Kp103, sz_t_102, G102_1, G102_2⟩
def Q_growI (Z : State) (x : Addr) (ea : Addr) (n : Nat) (cap : Nat) (mc : Int32) (k : ClassId) (mr : Addr) (h0 : Heap) (n0 : Nat) (v : Option Value) (h : Heap) (L : List Loc) : Prop := ∃ (t : Addr) (k2 : ClassId) (c2 : Nat), v = some (.ref t) ∧ Fr n0 L ∧ Keep h0 h [x] ∧ h0.size ≤ t ∧ Exa Z h x "java/util/ArrayList" ∧ Fld Z h x "java/util/AbstractList" "modCount" "I" (.int mc) ∧ Fld Z h x "java/util/ArrayList" "elementData" "[Ljava/lang/Object;" (.ref t) ∧ Fld Z h x "java/util/ArrayList" "size" "I" (.int (Int32.ofNat n)) ∧ Exa Z h t "[Ljava/lang/Object;" ∧ Arv Z h t k2 (.object "java/lang/Object") (Int32.ofNat c2) [] .null ∧ (n + 1 ≤ c2 ∧ c2 ≤ 7)
theorem pn_2 : plainName "java/util/ArrayList" = true := by first | (simp [plainName, overriddenIn]; done) | decide +kernel
theorem ef_growI (m : MethodId) (x : Addr) : entryFrame m #[(.ref x), (.int (Int32.ofNat (n + 1)))] 4 = mkF m 0 #[.val (.ref x), .val (.int (Int32.ofNat (n + 1))), .unset, .unset] [] := by first | (simp [entryFrame, mkF, argsToLocals, Value.category]; done) | rfl
theorem d_jdk_38_method_6_code_0 : decode jdk_38_method_6_code 0 = .ok (.aload_n 0, 1) := by decide +kernel
theorem d_jdk_38_method_6_code_1 : decode jdk_38_method_6_code 1 = .ok (.getfield 9, 3) := by decide +kernel
theorem d_jdk_38_method_6_code_4 : decode jdk_38_method_6_code 4 = .ok (.arraylength, 1) := by decide +kernel
theorem d_jdk_38_method_6_code_5 : decode jdk_38_method_6_code 5 = .ok (.istore_n 2, 1) := by decide +kernel
theorem d_jdk_38_method_6_code_6 : decode jdk_38_method_6_code 6 = .ok (.iload_n 2, 1) := by decide +kernel
theorem d_jdk_38_method_6_code_7 : decode jdk_38_method_6_code 7 = .ok (.ifCond .gt 13, 3) := by decide +kernel
theorem d_jdk_38_method_6_code_20 : decode jdk_38_method_6_code 20 = .ok (.iload_n 2, 1) := by decide +kernel
theorem d_jdk_38_method_6_code_21 : decode jdk_38_method_6_code 21 = .ok (.iload_n 1, 1) := by decide +kernel
theorem d_jdk_38_method_6_code_22 : decode jdk_38_method_6_code 22 = .ok (.iload_n 2, 1) := by decide +kernel
theorem d_jdk_38_method_6_code_23 : decode jdk_38_method_6_code 23 = .ok (.isub, 1) := by decide +kernel
theorem d_jdk_38_method_6_code_24 : decode jdk_38_method_6_code 24 = .ok (.iload_n 2, 1) := by decide +kernel
theorem d_jdk_38_method_6_code_25 : decode jdk_38_method_6_code 25 = .ok (.iconst 1, 1) := by decide +kernel
theorem d_jdk_38_method_6_code_26 : decode jdk_38_method_6_code 26 = .ok (.ishr, 1) := by decide +kernel
theorem d_jdk_38_method_6_code_27 : decode jdk_38_method_6_code 27 = .ok (.invokestatic 73, 3) := by decide +kernel
theorem pd_2 : parseMethodDescriptor "(III)I" = some ⟨[.int, .int, .int], some .int⟩ := by decide +kernel
theorem d_jdk_38_method_6_code_30 : decode jdk_38_method_6_code 30 = .ok (.istore_n 3, 1) := by decide +kernel
theorem d_jdk_38_method_6_code_31 : decode jdk_38_method_6_code 31 = .ok (.aload_n 0, 1) := by decide +kernel
theorem d_jdk_38_method_6_code_32 : decode jdk_38_method_6_code 32 = .ok (.aload_n 0, 1) := by decide +kernel
theorem d_jdk_38_method_6_code_33 : decode jdk_38_method_6_code 33 = .ok (.getfield 9, 3) := by decide +kernel
theorem d_jdk_38_method_6_code_36 : decode jdk_38_method_6_code 36 = .ok (.iload_n 3, 1) := by decide +kernel
theorem d_jdk_38_method_6_code_37 : decode jdk_38_method_6_code 37 = .ok (.invokestatic 66, 3) := by decide +kernel
theorem pd_3 : parseMethodDescriptor "([Ljava/lang/Object;I)[Ljava/lang/Object;" = some ⟨[(.array (.object "java/lang/Object")), .int], some (.array (.object "java/lang/Object"))⟩ := by decide +kernel
theorem d_jdk_38_method_6_code_40 : decode jdk_38_method_6_code 40 = .ok (.dup_x1, 1) := by decide +kernel
theorem d_jdk_38_method_6_code_41 : decode jdk_38_method_6_code 41 = .ok (.putfield 9, 3) := by decide +kernel
theorem d_jdk_38_method_6_code_44 : decode jdk_38_method_6_code 44 = .ok (.areturn, 1) := by decide +kernel
set_option maxRecDepth 65536 in
set_option maxHeartbeats 40000000 in
theorem rm_growI (l : Launch) (Z : State) (a0 : Array Value) (hw : ∀ d ∈ tables_1, d.before a0 Z = true) (ws : List Jvm.Cond) (x : Addr) (ea : Addr) (n : Nat) (cap : Nat) (mc : Int32) (k : ClassId) (mr : Addr) (h0 : Heap) (n0 : Nat) (X00 : Old Z n0 h0) (P0 : Exa Z h0 x "java/util/ArrayList") (P1 : Fld Z h0 x "java/util/AbstractList" "modCount" "I" (.int mc)) (P2 : Fld Z h0 x "java/util/ArrayList" "elementData" "[Ljava/lang/Object;" (.ref ea)) (P3 : Fld Z h0 x "java/util/ArrayList" "size" "I" (.int (Int32.ofNat n))) (P4 : Exa Z h0 ea "[Ljava/lang/Object;") (P5 : Arv Z h0 ea k (.object "java/lang/Object") (Int32.ofNat cap) [] .null) (P6 : n0 ≤ x) (P7 : n0 ≤ ea) (P8 : ¬ (x = ea)) (hn5 : n ≤ 5) (hnc : n ≤ cap) (hc1 : 1 ≤ cap) (hc7 : cap ≤ 7) (hful : n = cap) (hM : own_Mir Z "[Ljava/lang/Object;" mr) :
    MetFree l (⟨"java/util/ArrayList", "grow", "(I)[Ljava/lang/Object;"⟩ : MethodName) (head1 (Jvm.Cond.code (⟨"java/util/ArrayList", "grow", "(I)[Ljava/lang/Object;"⟩ : MethodName) jdk_38_method_6_code 4 (some (.array (.object "java/lang/Object"))) :: ws) ({ frames := 3, cells := 1, slots := 7, locals := 80 } : Room)) (fun aa_ U => aa_ = #[(.ref x), (.int (Int32.ofNat (n + 1)))] ∧ Z.Warmed39 U.vm ∧ U.heap = h0) (fun _ _ _ _ _ => True) (fun _ U o U' => ∃ v L, o = .returned v ∧ Q_growI Z x ea n cap mc k mr h0 n0 v U'.heap L ∧ FrameEnd U o U' L ({ frames := 3, cells := 1, slots := 7, locals := 80 } : Room).cells ({ frames := 3, cells := 1, slots := 7, locals := 80 } : Room).slots) := by
  refine MetFree.of_bodySF (plainFor_of_name pn_2) hisR ?_
  intro p e s m args below meth c s₁ Bd hml0 hP hK
  obtain ⟨rfl, hZ, hh⟩ := hP
  have hx := Bd.exec
  have hby := Bd.bytes
  have hml : c.maxLocals = 4 := hml0
  have hown : s.vm.findClass "java/util/ArrayList" = some m.cls := findClass_of_methodNamed Bd.named
  have hnm := (name_of_methodNamed Bd.named Bd.method).1
  have hlk : meth.locks = false := BodyLoose.notSynchronized Bd
  have X0 : Stand p l e ({ frames := 3, cells := 1, slots := 7, locals := 80 } : Room) s m #[(.ref x), (.int (Int32.ofNat (n + 1)))] below meth c s₁ [] 0 0 := Stand.of_body Bd
  have e0 : s₁.heap = h0 := by rw [← hh, Bd.state]; rfl
  have N0 := Fr.nil n0
  suffices G : Go p e below s (Q_growI Z x ea n cap mc k mr h0 n0) 1 7 s₁ (mkF m 0 #[.val (.ref x), .val (.int (Int32.ofNat (n + 1))), .unset, .unset] []) by
    obtain ⟨s2, o, h1, h2⟩ := G
    exact ⟨s2, o, castTop (ef_growI m x) h1, h2⟩
  refine Go.by (T' := s₁) (g' := (mkF m 1 #[.val (.ref x), .val (.int (Int32.ofNat (n + 1))), .unset, .unset] [(.ref x)])) (fun t_ k_ => XS.aloadN X0.here hx rfl (hb hby d_jdk_38_method_6_code_0) rfl rfl k_) ?_
  obtain ⟨T101, X101, e101, st101⟩ := getF X0 hx hZ hown (host := "") (Or.inl (hw _ (List.mem_of_getElem? (i := 34) rfl))) Via.refl e0 P2 (g := (mkF m 1 #[.val (.ref x), .val (.int (Int32.ofNat (n + 1))), .unset, .unset] [(.ref x)])) rfl rfl (hb hby d_jdk_38_method_6_code_1)
  refine Go.by (T' := T101) (g' := (mkF m 4 #[.val (.ref x), .val (.int (Int32.ofNat (n + 1))), .unset, .unset] [(.ref ea)])) (fun t_ k_ => st101 _ k_) ?_
  obtain ⟨cl102, Ar102, -, Sz102, Ng102, -, -⟩ := id P5
  refine Go.by (T' := T101) (g' := (mkF m 5 #[.val (.ref x), .val (.int (Int32.ofNat (n + 1))), .unset, .unset] [(.int (Int32.ofNat cap))])) (fun t_ k_ => X101.arraylength hx (by rw [e101]; exact Ar102.1) (State.isArrayOf_alike hZ.alike Ar102.2.1) (g := (mkF m 4 #[.val (.ref x), .val (.int (Int32.ofNat (n + 1))), .unset, .unset] [(.ref ea)])) rfl rfl (hb hby d_jdk_38_method_6_code_4) _ (by rw [len_of Sz102 Ng102]; exact k_)) ?_
  refine Go.by (T' := T101) (g' := (mkF m 6 #[.val (.ref x), .val (.int (Int32.ofNat (n + 1))), .val (.int (Int32.ofNat cap)), .unset] [])) (fun t_ k_ => XS.istoreN X101.here hx rfl (hb hby d_jdk_38_method_6_code_5) rfl (l' := #[.val (.ref x), .val (.int (Int32.ofNat (n + 1))), .val (.int (Int32.ofNat cap)), .unset]) rfl k_) ?_
  refine Go.by (T' := T101) (g' := (mkF m 7 #[.val (.ref x), .val (.int (Int32.ofNat (n + 1))), .val (.int (Int32.ofNat cap)), .unset] [(.int (Int32.ofNat cap))])) (fun t_ k_ => XS.iloadN X101.here hx rfl (hb hby d_jdk_38_method_6_code_6) rfl k_) ?_
  refine Go.by (T' := T101) (g' := (mkF m 20 #[.val (.ref x), .val (.int (Int32.ofNat (n + 1))), .val (.int (Int32.ofNat cap)), .unset] [])) (fun t_ k_ => XS.ifYes X101.here hx rfl (pc0 := 7) (pc' := 20) rfl (hb hby d_jdk_38_method_6_code_7) rfl ((if0 _ _).trans (tlt (by rw [show (0 : Int32) = Int32.ofNat 0 from rfl, own_lt (by omega) (by omega)]; omega)).2.2.1) (by decide) (by decide) k_) ?_
  refine Go.by (T' := T101) (g' := (mkF m 21 #[.val (.ref x), .val (.int (Int32.ofNat (n + 1))), .val (.int (Int32.ofNat cap)), .unset] [(.int (Int32.ofNat cap))])) (fun t_ k_ => XS.iloadN X101.here hx rfl (hb hby d_jdk_38_method_6_code_20) rfl k_) ?_
  refine Go.by (T' := T101) (g' := (mkF m 22 #[.val (.ref x), .val (.int (Int32.ofNat (n + 1))), .val (.int (Int32.ofNat cap)), .unset] [(.int (Int32.ofNat (n + 1))), (.int (Int32.ofNat cap))])) (fun t_ k_ => XS.iloadN X101.here hx rfl (hb hby d_jdk_38_method_6_code_21) rfl k_) ?_
  refine Go.by (T' := T101) (g' := (mkF m 23 #[.val (.ref x), .val (.int (Int32.ofNat (n + 1))), .val (.int (Int32.ofNat cap)), .unset] [(.int (Int32.ofNat cap)), (.int (Int32.ofNat (n + 1))), (.int (Int32.ofNat cap))])) (fun t_ k_ => XS.iloadN X101.here hx rfl (hb hby d_jdk_38_method_6_code_22) rfl k_) ?_
  refine Go.by (T' := T101) (g' := (mkF m 24 #[.val (.ref x), .val (.int (Int32.ofNat (n + 1))), .val (.int (Int32.ofNat cap)), .unset] [(.int ((Int32.ofNat (n + 1)) - (Int32.ofNat cap))), (.int (Int32.ofNat cap))])) (fun t_ k_ => XS.isub X101.here hx rfl (hb hby d_jdk_38_method_6_code_23) rfl k_) ?_
  rw [own_sub (show cap ≤ n + 1 by omega), show n + 1 - cap = 1 by omega, show Int32.ofNat 1 = (1 : Int32) from rfl]
  refine Go.by (T' := T101) (g' := (mkF m 25 #[.val (.ref x), .val (.int (Int32.ofNat (n + 1))), .val (.int (Int32.ofNat cap)), .unset] [(.int (Int32.ofNat cap)), (.int (1 : Int32)), (.int (Int32.ofNat cap))])) (fun t_ k_ => XS.iloadN X101.here hx rfl (hb hby d_jdk_38_method_6_code_24) rfl k_) ?_
  refine Go.by (T' := T101) (g' := (mkF m 26 #[.val (.ref x), .val (.int (Int32.ofNat (n + 1))), .val (.int (Int32.ofNat cap)), .unset] [(.int (1 : Int32)), (.int (Int32.ofNat cap)), (.int (1 : Int32)), (.int (Int32.ofNat cap))])) (fun t_ k_ => XS.iconst X101.here hx rfl (hb hby d_jdk_38_method_6_code_25) k_) ?_
  refine Go.by (T' := T101) (g' := (mkF m 27 #[.val (.ref x), .val (.int (Int32.ofNat (n + 1))), .val (.int (Int32.ofNat cap)), .unset] [(.int ((Int32.ofNat cap) >>> ((1 : Int32) &&& 31))), (.int (1 : Int32)), (.int (Int32.ofNat cap))])) (fun t_ k_ => XS.ishr X101.here hx rfl (hb hby d_jdk_38_method_6_code_26) rfl k_) ?_
  rw [own_half hc1 (by omega)]
  obtain ⟨_, _, ⟨T103, L103, k103, n103⟩, -, X103, ⟨Lc103, hQ103, l103, y103, z103⟩, st103⟩ := Jvm.LawKit.callS X101 hx (y := (⟨"jdk/internal/util/ArraysSupport", "newLength", "(III)I"⟩ : MethodName)) hown (mvT hZ (hw _ (List.mem_of_getElem? (i := 73) rfl))) (mvT hZ (hw _ (List.mem_of_getElem? (i := 74) rfl))) (mvT hZ (hw _ (List.mem_of_getElem? (i := 75) rfl))) (mvT hZ (hw _ (List.mem_of_getElem? (i := 76) rfl))) (by decide) (backOf (W := 0) (rm_newLen l Z a0 hw [] cap h0 n0 X00 hc1 (by omega)) hZ (hw _ (List.mem_of_getElem? (i := 76) rfl)) (hw _ (List.mem_of_getElem? (i := 75) rfl)) (by decide) (by decide)) (g := (mkF m 27 #[.val (.ref x), .val (.int (Int32.ofNat (n + 1))), .val (.int (Int32.ofNat cap)), .unset] [(.int (Int32.ofNat (cap / 2))), (.int (1 : Int32)), (.int (Int32.ofNat cap))])) rfl (by rw [hml]; rfl) (argsL := [(.int (Int32.ofNat cap)), (.int (1 : Int32)), (.int (Int32.ofNat (cap / 2)))]) (rest := []) (lenOf pd_2 rfl) rfl (by show 2 * 0 + _ ≤ _; exact Nat.le_of_eq rfl) (hb hby d_jdk_38_method_6_code_27) (fun _ _ => ⟨rfl, e101, (by decide : 0 + 0 ≤ _), (by decide : 0 + 0 ≤ _)⟩)
  dsimp only [Pt.U, Pt.locs, Pt.cells, Pt.slots] at X103 l103 y103 z103 st103 hQ103
  subst l103 y103 z103
  obtain ⟨rfl, N103q, e103⟩ := hQ103
  have N103 := Fr.app N0 N103q
  refine Go.by (T' := T103) (g' := (mkF m 30 #[.val (.ref x), .val (.int (Int32.ofNat (n + 1))), .val (.int (Int32.ofNat cap)), .unset] [(.int (Int32.ofNat (cap + max 1 (cap / 2))))])) (fun t_ k_ => st103 _ k_) ?_
  refine Go.by (T' := T103) (g' := (mkF m 31 #[.val (.ref x), .val (.int (Int32.ofNat (n + 1))), .val (.int (Int32.ofNat cap)), .val (.int (Int32.ofNat (cap + max 1 (cap / 2))))] [])) (fun t_ k_ => XS.istoreN X103.here hx rfl (hb hby d_jdk_38_method_6_code_30) rfl (l' := #[.val (.ref x), .val (.int (Int32.ofNat (n + 1))), .val (.int (Int32.ofNat cap)), .val (.int (Int32.ofNat (cap + max 1 (cap / 2))))]) rfl k_) ?_
  refine Go.by (T' := T103) (g' := (mkF m 32 #[.val (.ref x), .val (.int (Int32.ofNat (n + 1))), .val (.int (Int32.ofNat cap)), .val (.int (Int32.ofNat (cap + max 1 (cap / 2))))] [(.ref x)])) (fun t_ k_ => XS.aloadN X103.here hx rfl (hb hby d_jdk_38_method_6_code_31) rfl rfl k_) ?_
  refine Go.by (T' := T103) (g' := (mkF m 33 #[.val (.ref x), .val (.int (Int32.ofNat (n + 1))), .val (.int (Int32.ofNat cap)), .val (.int (Int32.ofNat (cap + max 1 (cap / 2))))] [(.ref x), (.ref x)])) (fun t_ k_ => XS.aloadN X103.here hx rfl (hb hby d_jdk_38_method_6_code_32) rfl rfl k_) ?_
  obtain ⟨T104, X104, e104, st104⟩ := getF X103 hx hZ hown (host := "") (Or.inl (hw _ (List.mem_of_getElem? (i := 34) rfl))) Via.refl e103 P2 (g := (mkF m 33 #[.val (.ref x), .val (.int (Int32.ofNat (n + 1))), .val (.int (Int32.ofNat cap)), .val (.int (Int32.ofNat (cap + max 1 (cap / 2))))] [(.ref x), (.ref x)])) rfl rfl (hb hby d_jdk_38_method_6_code_33)
  refine Go.by (T' := T104) (g' := (mkF m 36 #[.val (.ref x), .val (.int (Int32.ofNat (n + 1))), .val (.int (Int32.ofNat cap)), .val (.int (Int32.ofNat (cap + max 1 (cap / 2))))] [(.ref ea), (.ref x)])) (fun t_ k_ => st104 _ k_) ?_
  refine Go.by (T' := T104) (g' := (mkF m 37 #[.val (.ref x), .val (.int (Int32.ofNat (n + 1))), .val (.int (Int32.ofNat cap)), .val (.int (Int32.ofNat (cap + max 1 (cap / 2))))] [(.int (Int32.ofNat (cap + max 1 (cap / 2)))), (.ref ea), (.ref x)])) (fun t_ k_ => XS.iloadN X104.here hx rfl (hb hby d_jdk_38_method_6_code_36) rfl k_) ?_
  obtain ⟨_, _, ⟨T105, L105, k105, n105⟩, -, X105, ⟨Lc105, hQ105, l105, y105, z105⟩, st105⟩ := Jvm.LawKit.callS X104 hx (y := (⟨"java/util/Arrays", "copyOf", "([Ljava/lang/Object;I)[Ljava/lang/Object;"⟩ : MethodName)) hown (mvT hZ (hw _ (List.mem_of_getElem? (i := 82) rfl))) (mvT hZ (hw _ (List.mem_of_getElem? (i := 83) rfl))) (mvT hZ (hw _ (List.mem_of_getElem? (i := 84) rfl))) (mvT hZ (hw _ (List.mem_of_getElem? (i := 85) rfl))) (by decide) (backOf (W := 1) (rm_cp2 l Z a0 hw [] ea k cap (cap + max 1 (cap / 2)) mr h0 n0 X00 P4 P5 (by omega) (by omega) hM) hZ (hw _ (List.mem_of_getElem? (i := 85) rfl)) (hw _ (List.mem_of_getElem? (i := 84) rfl)) (by decide) (by decide)) (g := (mkF m 37 #[.val (.ref x), .val (.int (Int32.ofNat (n + 1))), .val (.int (Int32.ofNat cap)), .val (.int (Int32.ofNat (cap + max 1 (cap / 2))))] [(.int (Int32.ofNat (cap + max 1 (cap / 2)))), (.ref ea), (.ref x)])) rfl (by rw [hml]; rfl) (argsL := [(.ref ea), (.int (Int32.ofNat (cap + max 1 (cap / 2))))]) (rest := [(.ref x)]) (lenOf pd_3 rfl) rfl (by show 2 * 0 + _ ≤ _; exact Nat.le_of_eq rfl) (hb hby d_jdk_38_method_6_code_37) (fun _ _ => ⟨rfl, e104, (by decide : 0 + 1 ≤ _), (by decide : 0 + 7 ≤ _)⟩)
  dsimp only [Pt.U, Pt.locs, Pt.cells, Pt.slots] at X105 l105 y105 z105 st105 hQ105
  subst l105 y105 z105
  obtain ⟨t_105, k2_105, rfl, N105q, K105, G105_0, G105_1, G105_2⟩ := hQ105
  have N105 := Fr.app N103 N105q
  have ge_t_105 : n0 ≤ t_105 := Nat.le_trans X00.sz G105_0
  have sz_t_105 : h0.size ≤ t_105 := Nat.le_trans (Keep.refl h0 [x]).1 G105_0
  have ne_x_t_105 : ¬ (x = t_105) := Nat.ne_of_lt (Nat.lt_of_lt_of_le P0.lt G105_0)
  have ne_ea_t_105 : ¬ (ea = t_105) := Nat.ne_of_lt (Nat.lt_of_lt_of_le P4.lt G105_0)
  refine Go.by (T' := T105) (g' := (mkF m 40 #[.val (.ref x), .val (.int (Int32.ofNat (n + 1))), .val (.int (Int32.ofNat cap)), .val (.int (Int32.ofNat (cap + max 1 (cap / 2))))] [(.ref t_105), (.ref x)])) (fun t_ k_ => st105 _ k_) ?_
  refine Go.by (T' := T105) (g' := (mkF m 41 #[.val (.ref x), .val (.int (Int32.ofNat (n + 1))), .val (.int (Int32.ofNat cap)), .val (.int (Int32.ofNat (cap + max 1 (cap / 2))))] [(.ref t_105), (.ref x), (.ref t_105)])) (fun t_ k_ => XS.dupX1 X105.here hx rfl (hb hby d_jdk_38_method_6_code_40) rfl rfl rfl k_) ?_
  have F106 : Fld Z T105.heap x "java/util/ArrayList" "elementData" "[Ljava/lang/Object;" (.ref ea) := (P2.keep K105 nin0)
  have F107 : Exa Z T105.heap x "java/util/ArrayList" := (P0.keep K105)
  have Od108 : Old Z n0 T105.heap := (X00.keep K105 all0)
  have Kp109 : Keep h0 T105.heap [x] := ((Keep.refl h0 [x]).trans K105 all0)
  obtain ⟨T110, h110, X110, e110, W110, st110⟩ := putF X105 hx hZ hown (host := "") (Or.inl (hw _ (List.mem_of_getElem? (i := 34) rfl))) Via.refl rfl F106 F107 (Or.inl (hw _ (List.mem_of_getElem? (i := 35) rfl))) (hw _ (List.mem_of_getElem? (i := 12) rfl)) (ty := (.array (.object "java/lang/Object"))) (by decide) rfl rfl (g := (mkF m 41 #[.val (.ref x), .val (.int (Int32.ofNat (n + 1))), .val (.int (Int32.ofNat cap)), .val (.int (Int32.ofNat (cap + max 1 (cap / 2))))] [(.ref t_105), (.ref x), (.ref t_105)])) rfl rfl (hb hby d_jdk_38_method_6_code_41)
  have Fw110 : Fld Z h110 x "java/util/ArrayList" "elementData" "[Ljava/lang/Object;" (.ref t_105) := F106.same W110
  have N110 := Fr.snoc X110 N105 P6
  refine Go.by (T' := T110) (g' := (mkF m 44 #[.val (.ref x), .val (.int (Int32.ofNat (n + 1))), .val (.int (Int32.ofNat cap)), .val (.int (Int32.ofNat (cap + max 1 (cap / 2))))] [(.ref t_105)])) (fun t_ k_ => st110 _ k_) ?_
  have F111 : Exa Z h110 x "java/util/ArrayList" := (F107.wr W110)
  have F112 : Fld Z h110 x "java/util/AbstractList" "modCount" "I" (.int mc) := ((P1.keep K105 nin0).other W110 (Or.inr (slot_ne (Or.inl (hw _ (List.mem_of_getElem? (i := 31) rfl))) (Or.inl (hw _ (List.mem_of_getElem? (i := 35) rfl))) (by decide) (t := .int) (t' := (.array (.object "java/lang/Object"))) (by decide) (by decide))))
  have F113 : Fld Z h110 x "java/util/ArrayList" "size" "I" (.int (Int32.ofNat n)) := ((P3.keep K105 nin0).other W110 (Or.inr (slot_ne (Or.inl (hw _ (List.mem_of_getElem? (i := 57) rfl))) (Or.inl (hw _ (List.mem_of_getElem? (i := 35) rfl))) (by decide) (t := .int) (t' := (.array (.object "java/lang/Object"))) (by decide) (by decide))))
  have F114 : Exa Z h110 t_105 "[Ljava/lang/Object;" := (G105_1.wr W110)
  have F115 : Arv Z h110 t_105 k2_105 (.object "java/lang/Object") (Int32.ofNat (cap + max 1 (cap / 2))) [] .null := (G105_2.other W110 (Ne.symm ne_x_t_105))
  have Kp116 : Keep h0 h110 [x] := (Kp109.wr W110 (Or.inl (List.mem_of_getElem? (i := 0) rfl)))
  refine Go.fin X110 (v := some (.ref t_105)) (fun h => by rw [Bd.returns] at h; cases h) hlk (by decide) (by decide) ?_ (fun fs hr => retR X110 hx (w := (.ref t_105)) Bd.returns rfl rfl rfl (hb hby d_jdk_38_method_6_code_44) hr)
  show Q_growI Z x ea n cap mc k mr h0 n0 _ T110.heap _
  rw [e110]
  exact ⟨t_105, k2_105, (cap + max 1 (cap / 2)), rfl, N110, Kp116, sz_t_105, F111, F112, Fw110, F113, F114, F115, ⟨by omega, by omega⟩⟩
def Q_grow (Z : State) (x : Addr) (ea : Addr) (n : Nat) (cap : Nat) (mc : Int32) (k : ClassId) (mr : Addr) (h0 : Heap) (n0 : Nat) (v : Option Value) (h : Heap) (L : List Loc) : Prop := ∃ (t : Addr) (k2 : ClassId) (c2 : Nat), v = some (.ref t) ∧ Fr n0 L ∧ Keep h0 h [x] ∧ h0.size ≤ t ∧ Exa Z h x "java/util/ArrayList" ∧ Fld Z h x "java/util/AbstractList" "modCount" "I" (.int mc) ∧ Fld Z h x "java/util/ArrayList" "elementData" "[Ljava/lang/Object;" (.ref t) ∧ Fld Z h x "java/util/ArrayList" "size" "I" (.int (Int32.ofNat n)) ∧ Exa Z h t "[Ljava/lang/Object;" ∧ Arv Z h t k2 (.object "java/lang/Object") (Int32.ofNat c2) [] .null ∧ (n + 1 ≤ c2 ∧ c2 ≤ 7)
theorem ef_grow (m : MethodId) (x : Addr) : entryFrame m #[(.ref x)] 1 = mkF m 0 #[.val (.ref x)] [] := by first | (simp [entryFrame, mkF, argsToLocals, Value.category]; done) | rfl
theorem d_jdk_38_method_7_code_0 : decode jdk_38_method_7_code 0 = .ok (.aload_n 0, 1) := by decide +kernel
theorem d_jdk_38_method_7_code_1 : decode jdk_38_method_7_code 1 = .ok (.aload_n 0, 1) := by decide +kernel
theorem d_jdk_38_method_7_code_2 : decode jdk_38_method_7_code 2 = .ok (.getfield 48, 3) := by decide +kernel
theorem d_jdk_38_method_7_code_5 : decode jdk_38_method_7_code 5 = .ok (.iconst 1, 1) := by decide +kernel
theorem d_jdk_38_method_7_code_6 : decode jdk_38_method_7_code 6 = .ok (.iadd, 1) := by decide +kernel
theorem d_jdk_38_method_7_code_7 : decode jdk_38_method_7_code 7 = .ok (.invokevirtual 69, 3) := by decide +kernel
theorem pd_4 : parseMethodDescriptor "(I)[Ljava/lang/Object;" = some ⟨[.int], some (.array (.object "java/lang/Object"))⟩ := by decide +kernel
theorem d_jdk_38_method_7_code_10 : decode jdk_38_method_7_code 10 = .ok (.areturn, 1) := by decide +kernel
set_option maxRecDepth 65536 in
set_option maxHeartbeats 40000000 in
theorem rm_grow (l : Launch) (Z : State) (a0 : Array Value) (hw : ∀ d ∈ tables_1, d.before a0 Z = true) (ws : List Jvm.Cond) (x : Addr) (ea : Addr) (n : Nat) (cap : Nat) (mc : Int32) (k : ClassId) (mr : Addr) (h0 : Heap) (n0 : Nat) (X00 : Old Z n0 h0) (P0 : Exa Z h0 x "java/util/ArrayList") (P1 : Fld Z h0 x "java/util/AbstractList" "modCount" "I" (.int mc)) (P2 : Fld Z h0 x "java/util/ArrayList" "elementData" "[Ljava/lang/Object;" (.ref ea)) (P3 : Fld Z h0 x "java/util/ArrayList" "size" "I" (.int (Int32.ofNat n))) (P4 : Exa Z h0 ea "[Ljava/lang/Object;") (P5 : Arv Z h0 ea k (.object "java/lang/Object") (Int32.ofNat cap) [] .null) (P6 : n0 ≤ x) (P7 : n0 ≤ ea) (P8 : ¬ (x = ea)) (hn5 : n ≤ 5) (hnc : n ≤ cap) (hc1 : 1 ≤ cap) (hc7 : cap ≤ 7) (hful : n = cap) (hM : own_Mir Z "[Ljava/lang/Object;" mr) :
    MetFree l (⟨"java/util/ArrayList", "grow", "()[Ljava/lang/Object;"⟩ : MethodName) (head1 (Jvm.Cond.code (⟨"java/util/ArrayList", "grow", "()[Ljava/lang/Object;"⟩ : MethodName) jdk_38_method_7_code 1 (some (.array (.object "java/lang/Object"))) :: ws) ({ frames := 4, cells := 1, slots := 7, locals := 100 } : Room)) (fun aa_ U => aa_ = #[(.ref x)] ∧ Z.Warmed39 U.vm ∧ U.heap = h0) (fun _ _ _ _ _ => True) (fun _ U o U' => ∃ v L, o = .returned v ∧ Q_grow Z x ea n cap mc k mr h0 n0 v U'.heap L ∧ FrameEnd U o U' L ({ frames := 4, cells := 1, slots := 7, locals := 100 } : Room).cells ({ frames := 4, cells := 1, slots := 7, locals := 100 } : Room).slots) := by
  refine MetFree.of_bodySF (plainFor_of_name pn_2) hisR ?_
  intro p e s m args below meth c s₁ Bd hml0 hP hK
  obtain ⟨rfl, hZ, hh⟩ := hP
  have hx := Bd.exec
  have hby := Bd.bytes
  have hml : c.maxLocals = 1 := hml0
  have hown : s.vm.findClass "java/util/ArrayList" = some m.cls := findClass_of_methodNamed Bd.named
  have hnm := (name_of_methodNamed Bd.named Bd.method).1
  have hlk : meth.locks = false := BodyLoose.notSynchronized Bd
  have X0 : Stand p l e ({ frames := 4, cells := 1, slots := 7, locals := 100 } : Room) s m #[(.ref x)] below meth c s₁ [] 0 0 := Stand.of_body Bd
  have e0 : s₁.heap = h0 := by rw [← hh, Bd.state]; rfl
  have N0 := Fr.nil n0
  suffices G : Go p e below s (Q_grow Z x ea n cap mc k mr h0 n0) 1 7 s₁ (mkF m 0 #[.val (.ref x)] []) by
    obtain ⟨s2, o, h1, h2⟩ := G
    exact ⟨s2, o, castTop (ef_grow m x) h1, h2⟩
  refine Go.by (T' := s₁) (g' := (mkF m 1 #[.val (.ref x)] [(.ref x)])) (fun t_ k_ => XS.aloadN X0.here hx rfl (hb hby d_jdk_38_method_7_code_0) rfl rfl k_) ?_
  refine Go.by (T' := s₁) (g' := (mkF m 2 #[.val (.ref x)] [(.ref x), (.ref x)])) (fun t_ k_ => XS.aloadN X0.here hx rfl (hb hby d_jdk_38_method_7_code_1) rfl rfl k_) ?_
  obtain ⟨T101, X101, e101, st101⟩ := getF X0 hx hZ hown (host := "") (Or.inl (hw _ (List.mem_of_getElem? (i := 56) rfl))) Via.refl e0 P3 (g := (mkF m 2 #[.val (.ref x)] [(.ref x), (.ref x)])) rfl rfl (hb hby d_jdk_38_method_7_code_2)
  refine Go.by (T' := T101) (g' := (mkF m 5 #[.val (.ref x)] [(.int (Int32.ofNat n)), (.ref x)])) (fun t_ k_ => st101 _ k_) ?_
  refine Go.by (T' := T101) (g' := (mkF m 6 #[.val (.ref x)] [(.int (1 : Int32)), (.int (Int32.ofNat n)), (.ref x)])) (fun t_ k_ => XS.iconst X101.here hx rfl (hb hby d_jdk_38_method_7_code_5) k_) ?_
  refine Go.by (T' := T101) (g' := (mkF m 7 #[.val (.ref x)] [(.int ((Int32.ofNat n) + (1 : Int32))), (.ref x)])) (fun t_ k_ => XS.iadd X101.here hx rfl (hb hby d_jdk_38_method_7_code_6) rfl k_) ?_
  rw [show (1 : Int32) = Int32.ofNat 1 from rfl, own_add]
  obtain ⟨cq102, q102, q102'⟩ := P0.cell
  obtain ⟨_, _, ⟨T102, L102, k102, n102⟩, -, X102, ⟨Lc102, hQ102, l102, y102, z102⟩, st102⟩ := X101.privateBack hx (y := (⟨"java/util/ArrayList", "grow", "(I)[Ljava/lang/Object;"⟩ : MethodName)) hown (mvT hZ (hw _ (List.mem_of_getElem? (i := 68) rfl))) (mvT hZ (hw _ (List.mem_of_getElem? (i := 69) rfl))) (mvT hZ (hw _ (List.mem_of_getElem? (i := 71) rfl))) (Cond.privateMethod_at (mvP hZ (hw _ (List.mem_of_getElem? (i := 70) rfl)) (args := #[]))) (mvT hZ (hw _ (List.mem_of_getElem? (i := 72) rfl))) (by decide) (backOf (W := 0) (rm_growI l Z a0 hw [] x ea n cap mc k mr h0 n0 X00 P0 P1 P2 P3 P4 P5 P6 P7 P8 hn5 hnc hc1 hc7 hful hM) hZ (hw _ (List.mem_of_getElem? (i := 72) rfl)) (hw _ (List.mem_of_getElem? (i := 13) rfl)) (by decide) (by decide)) (g := (mkF m 7 #[.val (.ref x)] [(.int (Int32.ofNat (n + 1))), (.ref x)])) rfl (by rw [hml]; rfl) (Steps.refl _) (a := x) (by rw [e101]; exact q102) q102' (argsL := [(.int (Int32.ofNat (n + 1)))]) (rest := []) (lenOf pd_4 rfl) rfl (by show 2 * 0 + _ ≤ _; exact Nat.le_of_eq rfl) (hb hby d_jdk_38_method_7_code_7) (fun _ _ => ⟨rfl, e101, (by decide : 0 + 1 ≤ _), (by decide : 0 + 7 ≤ _)⟩)
  dsimp only [Pt.U, Pt.locs, Pt.cells, Pt.slots] at X102 l102 y102 z102 st102 hQ102
  subst l102 y102 z102
  obtain ⟨t_102, k2_102, c2_102, rfl, N102q, K102, G102_0, G102_1, G102_2, G102_3, G102_4, G102_5, G102_6, G102_7⟩ := hQ102
  have N102 := Fr.app N0 N102q
  have ge_t_102 : n0 ≤ t_102 := Nat.le_trans X00.sz G102_0
  have sz_t_102 : h0.size ≤ t_102 := Nat.le_trans (Keep.refl h0 [x]).1 G102_0
  have ne_x_t_102 : ¬ (x = t_102) := Nat.ne_of_lt (Nat.lt_of_lt_of_le P0.lt G102_0)
  have ne_ea_t_102 : ¬ (ea = t_102) := Nat.ne_of_lt (Nat.lt_of_lt_of_le P4.lt G102_0)
  refine Go.by (T' := T102) (g' := (mkF m 10 #[.val (.ref x)] [(.ref t_102)])) (fun t_ k_ => st102.trans k_) ?_
  have Kp103 : Keep h0 T102.heap [x] := ((Keep.refl h0 [x]).trans K102 (allS (Or.inl (List.mem_of_getElem? (i := 0) rfl)) all0))
  refine Go.fin X102 (v := some (.ref t_102)) (fun h => by rw [Bd.returns] at h; cases h) hlk (by decide) (by decide) ?_ (fun fs hr => retR X102 hx (w := (.ref t_102)) Bd.returns rfl rfl rfl (hb hby d_jdk_38_method_7_code_10) hr)
  show Q_grow Z x ea n cap mc k mr h0 n0 _ T102.heap _
  exact ⟨t_102, k2_102, c2_102, rfl, N102, Kp103, sz_t_102, G102_1, G102_2, G102_3, G102_4, G102_5, G102_6, G102_7⟩
def Q_addH (Z : State) (x : Addr) (ea : Addr) (n : Nat) (cap : Nat) (mc : Int32) (k : ClassId) (mr : Addr) (h0 : Heap) (n0 : Nat) (v : Option Value) (h : Heap) (L : List Loc) : Prop := ∃ (e2 : Addr) (k2 : ClassId) (c2 : Nat), v = none ∧ Fr n0 L ∧ Keep h0 h [x, ea] ∧ (e2 = ea ∨ h0.size ≤ e2) ∧ Exa Z h x "java/util/ArrayList" ∧ Fld Z h x "java/util/AbstractList" "modCount" "I" (.int mc) ∧ Fld Z h x "java/util/ArrayList" "elementData" "[Ljava/lang/Object;" (.ref e2) ∧ Fld Z h x "java/util/ArrayList" "size" "I" (.int (Int32.ofNat (n + 1))) ∧ Exa Z h e2 "[Ljava/lang/Object;" ∧ Arv Z h e2 k2 (.object "java/lang/Object") (Int32.ofNat c2) [] .null ∧ ¬ (x = e2) ∧ (n + 1 ≤ c2 ∧ c2 ≤ 7)
theorem ef_addH (m : MethodId) (x : Addr) (ea : Addr) : entryFrame m #[(.ref x), .null, (.ref ea), (.int (Int32.ofNat n))] 4 = mkF m 0 #[.val (.ref x), .val .null, .val (.ref ea), .val (.int (Int32.ofNat n))] [] := by first | (simp [entryFrame, mkF, argsToLocals, Value.category]; done) | rfl
theorem d_jdk_38_method_24_code_0 : decode jdk_38_method_24_code 0 = .ok (.iload_n 3, 1) := by decide +kernel
theorem d_jdk_38_method_24_code_1 : decode jdk_38_method_24_code 1 = .ok (.aload_n 2, 1) := by decide +kernel
theorem d_jdk_38_method_24_code_2 : decode jdk_38_method_24_code 2 = .ok (.arraylength, 1) := by decide +kernel
theorem d_jdk_38_method_24_code_3 : decode jdk_38_method_24_code 3 = .ok (.if_icmp .ne 8, 3) := by decide +kernel
theorem d_jdk_38_method_24_code_6 : decode jdk_38_method_24_code 6 = .ok (.aload_n 0, 1) := by decide +kernel
theorem d_jdk_38_method_24_code_7 : decode jdk_38_method_24_code 7 = .ok (.invokevirtual 129, 3) := by decide +kernel
theorem pd_5 : parseMethodDescriptor "()[Ljava/lang/Object;" = some ⟨[], some (.array (.object "java/lang/Object"))⟩ := by decide +kernel
theorem d_jdk_38_method_24_code_10 : decode jdk_38_method_24_code 10 = .ok (.astore_n 2, 1) := by decide +kernel
theorem d_jdk_38_method_24_code_11 : decode jdk_38_method_24_code 11 = .ok (.aload_n 2, 1) := by decide +kernel
theorem d_jdk_38_method_24_code_12 : decode jdk_38_method_24_code 12 = .ok (.iload_n 3, 1) := by decide +kernel
theorem d_jdk_38_method_24_code_13 : decode jdk_38_method_24_code 13 = .ok (.aload_n 1, 1) := by decide +kernel
theorem d_jdk_38_method_24_code_14 : decode jdk_38_method_24_code 14 = .ok (.aastore, 1) := by decide +kernel
theorem d_jdk_38_method_24_code_15 : decode jdk_38_method_24_code 15 = .ok (.aload_n 0, 1) := by decide +kernel
theorem d_jdk_38_method_24_code_16 : decode jdk_38_method_24_code 16 = .ok (.iload_n 3, 1) := by decide +kernel
theorem d_jdk_38_method_24_code_17 : decode jdk_38_method_24_code 17 = .ok (.iconst 1, 1) := by decide +kernel
theorem d_jdk_38_method_24_code_18 : decode jdk_38_method_24_code 18 = .ok (.iadd, 1) := by decide +kernel
theorem d_jdk_38_method_24_code_19 : decode jdk_38_method_24_code 19 = .ok (.putfield 48, 3) := by decide +kernel
theorem d_jdk_38_method_24_code_22 : decode jdk_38_method_24_code 22 = .ok (.return_, 1) := by decide +kernel
set_option maxRecDepth 65536 in
set_option maxHeartbeats 40000000 in
theorem rm_addH (l : Launch) (Z : State) (a0 : Array Value) (hw : ∀ d ∈ tables_1, d.before a0 Z = true) (ws : List Jvm.Cond) (x : Addr) (ea : Addr) (n : Nat) (cap : Nat) (mc : Int32) (k : ClassId) (mr : Addr) (h0 : Heap) (n0 : Nat) (X00 : Old Z n0 h0) (P0 : Exa Z h0 x "java/util/ArrayList") (P1 : Fld Z h0 x "java/util/AbstractList" "modCount" "I" (.int mc)) (P2 : Fld Z h0 x "java/util/ArrayList" "elementData" "[Ljava/lang/Object;" (.ref ea)) (P3 : Fld Z h0 x "java/util/ArrayList" "size" "I" (.int (Int32.ofNat n))) (P4 : Exa Z h0 ea "[Ljava/lang/Object;") (P5 : Arv Z h0 ea k (.object "java/lang/Object") (Int32.ofNat cap) [] .null) (P6 : n0 ≤ x) (P7 : n0 ≤ ea) (P8 : ¬ (x = ea)) (hn5 : n ≤ 5) (hnc : n ≤ cap) (hc1 : 1 ≤ cap) (hc7 : cap ≤ 7) (hM : own_Mir Z "[Ljava/lang/Object;" mr) :
    MetFree l (⟨"java/util/ArrayList", "add", "(Ljava/lang/Object;[Ljava/lang/Object;I)V"⟩ : MethodName) (head1 (Jvm.Cond.code (⟨"java/util/ArrayList", "add", "(Ljava/lang/Object;[Ljava/lang/Object;I)V"⟩ : MethodName) jdk_38_method_24_code 4 none :: ws) ({ frames := 5, cells := 1, slots := 7, locals := 115 } : Room)) (fun aa_ U => aa_ = #[(.ref x), .null, (.ref ea), (.int (Int32.ofNat n))] ∧ Z.Warmed39 U.vm ∧ U.heap = h0) (fun _ _ _ _ _ => True) (fun _ U o U' => ∃ v L, o = .returned v ∧ Q_addH Z x ea n cap mc k mr h0 n0 v U'.heap L ∧ FrameEnd U o U' L ({ frames := 5, cells := 1, slots := 7, locals := 115 } : Room).cells ({ frames := 5, cells := 1, slots := 7, locals := 115 } : Room).slots) := by
  refine MetFree.of_bodySF (plainFor_of_name pn_2) hisR ?_
  intro p e s m args below meth c s₁ Bd hml0 hP hK
  obtain ⟨rfl, hZ, hh⟩ := hP
  have hx := Bd.exec
  have hby := Bd.bytes
  have hml : c.maxLocals = 4 := hml0
  have hown : s.vm.findClass "java/util/ArrayList" = some m.cls := findClass_of_methodNamed Bd.named
  have hnm := (name_of_methodNamed Bd.named Bd.method).1
  have hlk : meth.locks = false := BodyLoose.notSynchronized Bd
  have X0 : Stand p l e ({ frames := 5, cells := 1, slots := 7, locals := 115 } : Room) s m #[(.ref x), .null, (.ref ea), (.int (Int32.ofNat n))] below meth c s₁ [] 0 0 := Stand.of_body Bd
  have e0 : s₁.heap = h0 := by rw [← hh, Bd.state]; rfl
  have N0 := Fr.nil n0
  suffices G : Go p e below s (Q_addH Z x ea n cap mc k mr h0 n0) 1 7 s₁ (mkF m 0 #[.val (.ref x), .val .null, .val (.ref ea), .val (.int (Int32.ofNat n))] []) by
    obtain ⟨s2, o, h1, h2⟩ := G
    exact ⟨s2, o, castTop (ef_addH m x ea) h1, h2⟩
  refine Go.by (T' := s₁) (g' := (mkF m 1 #[.val (.ref x), .val .null, .val (.ref ea), .val (.int (Int32.ofNat n))] [(.int (Int32.ofNat n))])) (fun t_ k_ => XS.iloadN X0.here hx rfl (hb hby d_jdk_38_method_24_code_0) rfl k_) ?_
  refine Go.by (T' := s₁) (g' := (mkF m 2 #[.val (.ref x), .val .null, .val (.ref ea), .val (.int (Int32.ofNat n))] [(.ref ea), (.int (Int32.ofNat n))])) (fun t_ k_ => XS.aloadN X0.here hx rfl (hb hby d_jdk_38_method_24_code_1) rfl rfl k_) ?_
  obtain ⟨cl101, Ar101, -, Sz101, Ng101, -, -⟩ := id P5
  refine Go.by (T' := s₁) (g' := (mkF m 3 #[.val (.ref x), .val .null, .val (.ref ea), .val (.int (Int32.ofNat n))] [(.int (Int32.ofNat cap)), (.int (Int32.ofNat n))])) (fun t_ k_ => X0.arraylength hx (by rw [e0]; exact Ar101.1) (State.isArrayOf_alike hZ.alike Ar101.2.1) (g := (mkF m 2 #[.val (.ref x), .val .null, .val (.ref ea), .val (.int (Int32.ofNat n))] [(.ref ea), (.int (Int32.ofNat n))])) rfl rfl (hb hby d_jdk_38_method_24_code_2) _ (by rw [len_of Sz101 Ng101]; exact k_)) ?_
  by_cases hful : n = cap
  · skip
    refine Go.by (T' := s₁) (g' := (mkF m 6 #[.val (.ref x), .val .null, .val (.ref ea), .val (.int (Int32.ofNat n))] [])) (fun t_ k_ => XS.icmpNo X0.here hx rfl (hb hby d_jdk_38_method_24_code_3) rfl (teq (by rw [own_inj (by omega) (by omega)]; exact hful)).2 k_) ?_
    refine Go.by (T' := s₁) (g' := (mkF m 7 #[.val (.ref x), .val .null, .val (.ref ea), .val (.int (Int32.ofNat n))] [(.ref x)])) (fun t_ k_ => XS.aloadN X0.here hx rfl (hb hby d_jdk_38_method_24_code_6) rfl rfl k_) ?_
    obtain ⟨cq102, q102, q102'⟩ := P0.cell
    obtain ⟨_, _, ⟨T102, L102, k102, n102⟩, -, X102, ⟨Lc102, hQ102, l102, y102, z102⟩, st102⟩ := X0.privateBack hx (y := (⟨"java/util/ArrayList", "grow", "()[Ljava/lang/Object;"⟩ : MethodName)) hown (mvT hZ (hw _ (List.mem_of_getElem? (i := 63) rfl))) (mvT hZ (hw _ (List.mem_of_getElem? (i := 64) rfl))) (mvT hZ (hw _ (List.mem_of_getElem? (i := 66) rfl))) (Cond.privateMethod_at (mvP hZ (hw _ (List.mem_of_getElem? (i := 65) rfl)) (args := #[]))) (mvT hZ (hw _ (List.mem_of_getElem? (i := 67) rfl))) (by decide) (backOf (W := 0) (rm_grow l Z a0 hw [] x ea n cap mc k mr h0 n0 X00 P0 P1 P2 P3 P4 P5 P6 P7 P8 hn5 hnc hc1 hc7 hful hM) hZ (hw _ (List.mem_of_getElem? (i := 67) rfl)) (hw _ (List.mem_of_getElem? (i := 13) rfl)) (by decide) (by decide)) (g := (mkF m 7 #[.val (.ref x), .val .null, .val (.ref ea), .val (.int (Int32.ofNat n))] [(.ref x)])) rfl (by rw [hml]; rfl) (Steps.refl _) (a := x) (by rw [e0]; exact q102) q102' (argsL := []) (rest := []) (lenOf pd_5 rfl) rfl (by show 2 * 0 + _ ≤ _; exact Nat.le_of_eq rfl) (hb hby d_jdk_38_method_24_code_7) (fun _ _ => ⟨rfl, e0, (by decide : 0 + 1 ≤ _), (by decide : 0 + 7 ≤ _)⟩)
    dsimp only [Pt.U, Pt.locs, Pt.cells, Pt.slots] at X102 l102 y102 z102 st102 hQ102
    subst l102 y102 z102
    obtain ⟨t_102, k2_102, c2_102, rfl, N102q, K102, G102_0, G102_1, G102_2, G102_3, G102_4, G102_5, G102_6, G102_7⟩ := hQ102
    have N102 := Fr.app N0 N102q
    have ge_t_102 : n0 ≤ t_102 := Nat.le_trans X00.sz G102_0
    have sz_t_102 : h0.size ≤ t_102 := Nat.le_trans (Keep.refl h0 [x, ea]).1 G102_0
    have ne_x_t_102 : ¬ (x = t_102) := Nat.ne_of_lt (Nat.lt_of_lt_of_le P0.lt G102_0)
    have ne_ea_t_102 : ¬ (ea = t_102) := Nat.ne_of_lt (Nat.lt_of_lt_of_le P4.lt G102_0)
    refine Go.by (T' := T102) (g' := (mkF m 10 #[.val (.ref x), .val .null, .val (.ref ea), .val (.int (Int32.ofNat n))] [(.ref t_102)])) (fun t_ k_ => st102.trans k_) ?_
    refine Go.by (T' := T102) (g' := (mkF m 11 #[.val (.ref x), .val .null, .val (.ref t_102), .val (.int (Int32.ofNat n))] [])) (fun t_ k_ => XS.astoreN X102.here hx rfl (hb hby d_jdk_38_method_24_code_10) rfl rfl (l' := #[.val (.ref x), .val .null, .val (.ref t_102), .val (.int (Int32.ofNat n))]) rfl k_) ?_
    refine Go.by (T' := T102) (g' := (mkF m 12 #[.val (.ref x), .val .null, .val (.ref t_102), .val (.int (Int32.ofNat n))] [(.ref t_102)])) (fun t_ k_ => XS.aloadN X102.here hx rfl (hb hby d_jdk_38_method_24_code_11) rfl rfl k_) ?_
    refine Go.by (T' := T102) (g' := (mkF m 13 #[.val (.ref x), .val .null, .val (.ref t_102), .val (.int (Int32.ofNat n))] [(.int (Int32.ofNat n)), (.ref t_102)])) (fun t_ k_ => XS.iloadN X102.here hx rfl (hb hby d_jdk_38_method_24_code_12) rfl k_) ?_
    refine Go.by (T' := T102) (g' := (mkF m 14 #[.val (.ref x), .val .null, .val (.ref t_102), .val (.int (Int32.ofNat n))] [.null, (.int (Int32.ofNat n)), (.ref t_102)])) (fun t_ k_ => XS.aloadN X102.here hx rfl (hb hby d_jdk_38_method_24_code_13) rfl rfl k_) ?_
    have Od104 : Old Z n0 T102.heap := (X00.keep K102 (allS P6 all0))
    have Kp105 : Keep h0 T102.heap [x, ea] := ((Keep.refl h0 [x, ea]).trans K102 (allS (Or.inl (List.mem_of_getElem? (i := 0) rfl)) all0))
    obtain ⟨cl103, Ar103, q103, Sz103, Ng103, Hs103, Gs103⟩ := id G102_6
    obtain ⟨T106, h106, X106, e106, W106, st106⟩ := stR X102 hx hZ rfl Ar103 (j := (Int32.ofNat n)) (inb_of Sz103 (own_inb (show n < c2_102 by have := G102_7; omega) (by have := G102_7; omega))) rfl (Or.inl rfl) (g := (mkF m 14 #[.val (.ref x), .val .null, .val (.ref t_102), .val (.int (Int32.ofNat n))] [.null, (.int (Int32.ofNat n)), (.ref t_102)])) rfl rfl (hb hby d_jdk_38_method_24_code_14)
    have V106 : Arv Z h106 t_102 k2_102 (.object "java/lang/Object") (Int32.ofNat c2_102) [] .null := own_setdv G102_6 W106
    have N106 := Fr.snoc X106 N102 ge_t_102
    refine Go.by (T' := T106) (g' := (mkF m 15 #[.val (.ref x), .val .null, .val (.ref t_102), .val (.int (Int32.ofNat n))] [])) (fun t_ k_ => st106 _ k_) ?_
    refine Go.by (T' := T106) (g' := (mkF m 16 #[.val (.ref x), .val .null, .val (.ref t_102), .val (.int (Int32.ofNat n))] [(.ref x)])) (fun t_ k_ => XS.aloadN X106.here hx rfl (hb hby d_jdk_38_method_24_code_15) rfl rfl k_) ?_
    refine Go.by (T' := T106) (g' := (mkF m 17 #[.val (.ref x), .val .null, .val (.ref t_102), .val (.int (Int32.ofNat n))] [(.int (Int32.ofNat n)), (.ref x)])) (fun t_ k_ => XS.iloadN X106.here hx rfl (hb hby d_jdk_38_method_24_code_16) rfl k_) ?_
    refine Go.by (T' := T106) (g' := (mkF m 18 #[.val (.ref x), .val .null, .val (.ref t_102), .val (.int (Int32.ofNat n))] [(.int (1 : Int32)), (.int (Int32.ofNat n)), (.ref x)])) (fun t_ k_ => XS.iconst X106.here hx rfl (hb hby d_jdk_38_method_24_code_17) k_) ?_
    refine Go.by (T' := T106) (g' := (mkF m 19 #[.val (.ref x), .val .null, .val (.ref t_102), .val (.int (Int32.ofNat n))] [(.int ((Int32.ofNat n) + (1 : Int32))), (.ref x)])) (fun t_ k_ => XS.iadd X106.here hx rfl (hb hby d_jdk_38_method_24_code_18) rfl k_) ?_
    rw [show (1 : Int32) = Int32.ofNat 1 from rfl, own_add]
    have F107 : Fld Z h106 x "java/util/ArrayList" "size" "I" (.int (Int32.ofNat n)) := (G102_4.other W106 (Or.inl ne_x_t_102))
    have F108 : Exa Z h106 x "java/util/ArrayList" := (G102_1.wr W106)
    have Od109 : Old Z n0 h106 := (Od104.wr W106 ge_t_102)
    have Kp110 : Keep h0 h106 [x, ea] := (Kp105.wr W106 (Or.inr sz_t_102))
    obtain ⟨T111, h111, X111, e111, W111, st111⟩ := putF X106 hx hZ hown (host := "") (Or.inl (hw _ (List.mem_of_getElem? (i := 56) rfl))) Via.refl e106 F107 F108 (Or.inl (hw _ (List.mem_of_getElem? (i := 57) rfl))) (hw _ (List.mem_of_getElem? (i := 12) rfl)) (ty := .int) (by decide) rfl rfl (g := (mkF m 19 #[.val (.ref x), .val .null, .val (.ref t_102), .val (.int (Int32.ofNat n))] [(.int (Int32.ofNat (n + 1))), (.ref x)])) rfl rfl (hb hby d_jdk_38_method_24_code_19)
    have Fw111 : Fld Z h111 x "java/util/ArrayList" "size" "I" (.int (Int32.ofNat (n + 1))) := F107.same W111
    have N111 := Fr.snoc X111 N106 P6
    refine Go.by (T' := T111) (g' := (mkF m 22 #[.val (.ref x), .val .null, .val (.ref t_102), .val (.int (Int32.ofNat n))] [])) (fun t_ k_ => st111 _ k_) ?_
    have F112 : Exa Z h111 x "java/util/ArrayList" := (F108.wr W111)
    have F113 : Fld Z h111 x "java/util/AbstractList" "modCount" "I" (.int mc) := ((G102_2.other W106 (Or.inl ne_x_t_102)).other W111 (Or.inr (slot_ne (Or.inl (hw _ (List.mem_of_getElem? (i := 31) rfl))) (Or.inl (hw _ (List.mem_of_getElem? (i := 57) rfl))) (by decide) (t := .int) (t' := .int) (by decide) (by decide))))
    have F114 : Fld Z h111 x "java/util/ArrayList" "elementData" "[Ljava/lang/Object;" (.ref t_102) := ((G102_3.other W106 (Or.inl ne_x_t_102)).other W111 (Or.inr (slot_ne (Or.inl (hw _ (List.mem_of_getElem? (i := 35) rfl))) (Or.inl (hw _ (List.mem_of_getElem? (i := 57) rfl))) (by decide) (t := (.array (.object "java/lang/Object"))) (t' := .int) (by decide) (by decide))))
    have F115 : Exa Z h111 t_102 "[Ljava/lang/Object;" := ((G102_5.wr W106).wr W111)
    have F116 : Arv Z h111 t_102 k2_102 (.object "java/lang/Object") (Int32.ofNat c2_102) [] .null := (V106.other W111 (Ne.symm ne_x_t_102))
    have Kp117 : Keep h0 h111 [x, ea] := (Kp110.wr W111 (Or.inl (List.mem_of_getElem? (i := 0) rfl)))
    refine Go.fin X111 (v := none) (fun _ => rfl) hlk (by decide) (by decide) ?_ (fun fs hr => X111.returnOut hx Bd.returns (hb hby d_jdk_38_method_24_code_22) hr)
    show Q_addH Z x ea n cap mc k mr h0 n0 _ T111.heap _
    rw [e111]
    exact ⟨t_102, k2_102, c2_102, rfl, N111, Kp117, (Or.inr sz_t_102), F112, F113, F114, Fw111, F115, F116, ne_x_t_102, G102_7⟩
  · skip
    refine Go.by (T' := s₁) (g' := (mkF m 11 #[.val (.ref x), .val .null, .val (.ref ea), .val (.int (Int32.ofNat n))] [])) (fun t_ k_ => XS.icmpYes X0.here hx rfl (pc0 := 3) (pc' := 11) rfl (hb hby d_jdk_38_method_24_code_3) rfl (feq (by rw [own_inj (by omega) (by omega)]; exact hful)).2 (by decide) (by decide) k_) ?_
    refine Go.by (T' := s₁) (g' := (mkF m 12 #[.val (.ref x), .val .null, .val (.ref ea), .val (.int (Int32.ofNat n))] [(.ref ea)])) (fun t_ k_ => XS.aloadN X0.here hx rfl (hb hby d_jdk_38_method_24_code_11) rfl rfl k_) ?_
    refine Go.by (T' := s₁) (g' := (mkF m 13 #[.val (.ref x), .val .null, .val (.ref ea), .val (.int (Int32.ofNat n))] [(.int (Int32.ofNat n)), (.ref ea)])) (fun t_ k_ => XS.iloadN X0.here hx rfl (hb hby d_jdk_38_method_24_code_12) rfl k_) ?_
    refine Go.by (T' := s₁) (g' := (mkF m 14 #[.val (.ref x), .val .null, .val (.ref ea), .val (.int (Int32.ofNat n))] [.null, (.int (Int32.ofNat n)), (.ref ea)])) (fun t_ k_ => XS.aloadN X0.here hx rfl (hb hby d_jdk_38_method_24_code_13) rfl rfl k_) ?_
    obtain ⟨cl118, Ar118, q118, Sz118, Ng118, Hs118, Gs118⟩ := id P5
    obtain ⟨T119, h119, X119, e119, W119, st119⟩ := stR X0 hx hZ e0 Ar118 (j := (Int32.ofNat n)) (inb_of Sz118 (own_inb (show n < cap by omega) (by omega))) rfl (Or.inl rfl) (g := (mkF m 14 #[.val (.ref x), .val .null, .val (.ref ea), .val (.int (Int32.ofNat n))] [.null, (.int (Int32.ofNat n)), (.ref ea)])) rfl rfl (hb hby d_jdk_38_method_24_code_14)
    have V119 : Arv Z h119 ea k (.object "java/lang/Object") (Int32.ofNat cap) [] .null := own_setdv P5 W119
    have N119 := Fr.snoc X119 N0 P7
    refine Go.by (T' := T119) (g' := (mkF m 15 #[.val (.ref x), .val .null, .val (.ref ea), .val (.int (Int32.ofNat n))] [])) (fun t_ k_ => st119 _ k_) ?_
    refine Go.by (T' := T119) (g' := (mkF m 16 #[.val (.ref x), .val .null, .val (.ref ea), .val (.int (Int32.ofNat n))] [(.ref x)])) (fun t_ k_ => XS.aloadN X119.here hx rfl (hb hby d_jdk_38_method_24_code_15) rfl rfl k_) ?_
    refine Go.by (T' := T119) (g' := (mkF m 17 #[.val (.ref x), .val .null, .val (.ref ea), .val (.int (Int32.ofNat n))] [(.int (Int32.ofNat n)), (.ref x)])) (fun t_ k_ => XS.iloadN X119.here hx rfl (hb hby d_jdk_38_method_24_code_16) rfl k_) ?_
    refine Go.by (T' := T119) (g' := (mkF m 18 #[.val (.ref x), .val .null, .val (.ref ea), .val (.int (Int32.ofNat n))] [(.int (1 : Int32)), (.int (Int32.ofNat n)), (.ref x)])) (fun t_ k_ => XS.iconst X119.here hx rfl (hb hby d_jdk_38_method_24_code_17) k_) ?_
    refine Go.by (T' := T119) (g' := (mkF m 19 #[.val (.ref x), .val .null, .val (.ref ea), .val (.int (Int32.ofNat n))] [(.int ((Int32.ofNat n) + (1 : Int32))), (.ref x)])) (fun t_ k_ => XS.iadd X119.here hx rfl (hb hby d_jdk_38_method_24_code_18) rfl k_) ?_
    rw [show (1 : Int32) = Int32.ofNat 1 from rfl, own_add]
    have F120 : Fld Z h119 x "java/util/ArrayList" "size" "I" (.int (Int32.ofNat n)) := (P3.other W119 (Or.inl P8))
    have F121 : Exa Z h119 x "java/util/ArrayList" := (P0.wr W119)
    have Od122 : Old Z n0 h119 := (X00.wr W119 P7)
    have Kp123 : Keep h0 h119 [x, ea] := ((Keep.refl h0 [x, ea]).wr W119 (Or.inl (List.mem_of_getElem? (i := 1) rfl)))
    obtain ⟨T124, h124, X124, e124, W124, st124⟩ := putF X119 hx hZ hown (host := "") (Or.inl (hw _ (List.mem_of_getElem? (i := 56) rfl))) Via.refl e119 F120 F121 (Or.inl (hw _ (List.mem_of_getElem? (i := 57) rfl))) (hw _ (List.mem_of_getElem? (i := 12) rfl)) (ty := .int) (by decide) rfl rfl (g := (mkF m 19 #[.val (.ref x), .val .null, .val (.ref ea), .val (.int (Int32.ofNat n))] [(.int (Int32.ofNat (n + 1))), (.ref x)])) rfl rfl (hb hby d_jdk_38_method_24_code_19)
    have Fw124 : Fld Z h124 x "java/util/ArrayList" "size" "I" (.int (Int32.ofNat (n + 1))) := F120.same W124
    have N124 := Fr.snoc X124 N119 P6
    refine Go.by (T' := T124) (g' := (mkF m 22 #[.val (.ref x), .val .null, .val (.ref ea), .val (.int (Int32.ofNat n))] [])) (fun t_ k_ => st124 _ k_) ?_
    have F125 : Exa Z h124 x "java/util/ArrayList" := (F121.wr W124)
    have F126 : Fld Z h124 x "java/util/AbstractList" "modCount" "I" (.int mc) := ((P1.other W119 (Or.inl P8)).other W124 (Or.inr (slot_ne (Or.inl (hw _ (List.mem_of_getElem? (i := 31) rfl))) (Or.inl (hw _ (List.mem_of_getElem? (i := 57) rfl))) (by decide) (t := .int) (t' := .int) (by decide) (by decide))))
    have F127 : Fld Z h124 x "java/util/ArrayList" "elementData" "[Ljava/lang/Object;" (.ref ea) := ((P2.other W119 (Or.inl P8)).other W124 (Or.inr (slot_ne (Or.inl (hw _ (List.mem_of_getElem? (i := 35) rfl))) (Or.inl (hw _ (List.mem_of_getElem? (i := 57) rfl))) (by decide) (t := (.array (.object "java/lang/Object"))) (t' := .int) (by decide) (by decide))))
    have F128 : Exa Z h124 ea "[Ljava/lang/Object;" := ((P4.wr W119).wr W124)
    have F129 : Arv Z h124 ea k (.object "java/lang/Object") (Int32.ofNat cap) [] .null := (V119.other W124 (Ne.symm P8))
    have Kp130 : Keep h0 h124 [x, ea] := (Kp123.wr W124 (Or.inl (List.mem_of_getElem? (i := 0) rfl)))
    refine Go.fin X124 (v := none) (fun _ => rfl) hlk (by decide) (by decide) ?_ (fun fs hr => X124.returnOut hx Bd.returns (hb hby d_jdk_38_method_24_code_22) hr)
    show Q_addH Z x ea n cap mc k mr h0 n0 _ T124.heap _
    rw [e124]
    exact ⟨ea, k, cap, rfl, N124, Kp130, (Or.inl rfl), F125, F126, F127, Fw124, F128, F129, P8, ⟨by omega, by omega⟩⟩
def Q_add (Z : State) (x : Addr) (ea : Addr) (n : Nat) (cap : Nat) (mc : Int32) (k : ClassId) (mr : Addr) (h0 : Heap) (n0 : Nat) (v : Option Value) (h : Heap) (L : List Loc) : Prop := ∃ (e2 : Addr) (k2 : ClassId) (c2 : Nat), v = some (.int 1) ∧ Fr n0 L ∧ Keep h0 h [x, ea] ∧ (e2 = ea ∨ h0.size ≤ e2) ∧ Exa Z h x "java/util/ArrayList" ∧ Fld Z h x "java/util/AbstractList" "modCount" "I" (.int (mc + (1 : Int32))) ∧ Fld Z h x "java/util/ArrayList" "elementData" "[Ljava/lang/Object;" (.ref e2) ∧ Fld Z h x "java/util/ArrayList" "size" "I" (.int (Int32.ofNat (n + 1))) ∧ Exa Z h e2 "[Ljava/lang/Object;" ∧ Arv Z h e2 k2 (.object "java/lang/Object") (Int32.ofNat c2) [] .null ∧ ¬ (x = e2) ∧ (n + 1 ≤ c2 ∧ c2 ≤ 7)
theorem ef_add (m : MethodId) (x : Addr) : entryFrame m #[(.ref x), .null] 2 = mkF m 0 #[.val (.ref x), .val .null] [] := by first | (simp [entryFrame, mkF, argsToLocals, Value.category]; done) | rfl
theorem d_jdk_38_method_25_code_0 : decode jdk_38_method_25_code 0 = .ok (.aload_n 0, 1) := by decide +kernel
theorem d_jdk_38_method_25_code_1 : decode jdk_38_method_25_code 1 = .ok (.dup, 1) := by decide +kernel
theorem d_jdk_38_method_25_code_2 : decode jdk_38_method_25_code 2 = .ok (.getfield 63, 3) := by decide +kernel
theorem d_jdk_38_method_25_code_5 : decode jdk_38_method_25_code 5 = .ok (.iconst 1, 1) := by decide +kernel
theorem d_jdk_38_method_25_code_6 : decode jdk_38_method_25_code 6 = .ok (.iadd, 1) := by decide +kernel
theorem d_jdk_38_method_25_code_7 : decode jdk_38_method_25_code 7 = .ok (.putfield 63, 3) := by decide +kernel
theorem d_jdk_38_method_25_code_10 : decode jdk_38_method_25_code 10 = .ok (.aload_n 0, 1) := by decide +kernel
theorem d_jdk_38_method_25_code_11 : decode jdk_38_method_25_code 11 = .ok (.aload_n 1, 1) := by decide +kernel
theorem d_jdk_38_method_25_code_12 : decode jdk_38_method_25_code 12 = .ok (.aload_n 0, 1) := by decide +kernel
theorem d_jdk_38_method_25_code_13 : decode jdk_38_method_25_code 13 = .ok (.getfield 9, 3) := by decide +kernel
theorem d_jdk_38_method_25_code_16 : decode jdk_38_method_25_code 16 = .ok (.aload_n 0, 1) := by decide +kernel
theorem d_jdk_38_method_25_code_17 : decode jdk_38_method_25_code 17 = .ok (.getfield 48, 3) := by decide +kernel
theorem d_jdk_38_method_25_code_20 : decode jdk_38_method_25_code 20 = .ok (.invokevirtual 131, 3) := by decide +kernel
theorem pd_6 : parseMethodDescriptor "(Ljava/lang/Object;[Ljava/lang/Object;I)V" = some ⟨[(.object "java/lang/Object"), (.array (.object "java/lang/Object")), .int], none⟩ := by decide +kernel
theorem d_jdk_38_method_25_code_23 : decode jdk_38_method_25_code 23 = .ok (.iconst 1, 1) := by decide +kernel
theorem d_jdk_38_method_25_code_24 : decode jdk_38_method_25_code 24 = .ok (.ireturn, 1) := by decide +kernel
set_option maxRecDepth 65536 in
set_option maxHeartbeats 40000000 in
theorem rm_add (l : Launch) (Z : State) (a0 : Array Value) (hw : ∀ d ∈ tables_1, d.before a0 Z = true) (ws : List Jvm.Cond) (x : Addr) (ea : Addr) (n : Nat) (cap : Nat) (mc : Int32) (k : ClassId) (mr : Addr) (h0 : Heap) (n0 : Nat) (X00 : Old Z n0 h0) (P0 : Exa Z h0 x "java/util/ArrayList") (P1 : Fld Z h0 x "java/util/AbstractList" "modCount" "I" (.int mc)) (P2 : Fld Z h0 x "java/util/ArrayList" "elementData" "[Ljava/lang/Object;" (.ref ea)) (P3 : Fld Z h0 x "java/util/ArrayList" "size" "I" (.int (Int32.ofNat n))) (P4 : Exa Z h0 ea "[Ljava/lang/Object;") (P5 : Arv Z h0 ea k (.object "java/lang/Object") (Int32.ofNat cap) [] .null) (P6 : n0 ≤ x) (P7 : n0 ≤ ea) (P8 : ¬ (x = ea)) (hn5 : n ≤ 5) (hnc : n ≤ cap) (hc1 : 1 ≤ cap) (hc7 : cap ≤ 7) (hM : own_Mir Z "[Ljava/lang/Object;" mr) :
    MetFree l (⟨"java/util/ArrayList", "add", "(Ljava/lang/Object;)Z"⟩ : MethodName) (head1 (Jvm.Cond.code (⟨"java/util/ArrayList", "add", "(Ljava/lang/Object;)Z"⟩ : MethodName) jdk_38_method_25_code 2 (some .boolean) :: ws) ({ frames := 6, cells := 1, slots := 7, locals := 135 } : Room)) (fun aa_ U => aa_ = #[(.ref x), .null] ∧ Z.Warmed39 U.vm ∧ U.heap = h0) (fun _ _ _ _ _ => True) (fun _ U o U' => ∃ v L, o = .returned v ∧ Q_add Z x ea n cap mc k mr h0 n0 v U'.heap L ∧ FrameEnd U o U' L ({ frames := 6, cells := 1, slots := 7, locals := 135 } : Room).cells ({ frames := 6, cells := 1, slots := 7, locals := 135 } : Room).slots) := by
  refine MetFree.of_bodySF (plainFor_of_name pn_2) hisR ?_
  intro p e s m args below meth c s₁ Bd hml0 hP hK
  obtain ⟨rfl, hZ, hh⟩ := hP
  have hx := Bd.exec
  have hby := Bd.bytes
  have hml : c.maxLocals = 2 := hml0
  have hown : s.vm.findClass "java/util/ArrayList" = some m.cls := findClass_of_methodNamed Bd.named
  have hnm := (name_of_methodNamed Bd.named Bd.method).1
  have hlk : meth.locks = false := BodyLoose.notSynchronized Bd
  have X0 : Stand p l e ({ frames := 6, cells := 1, slots := 7, locals := 135 } : Room) s m #[(.ref x), .null] below meth c s₁ [] 0 0 := Stand.of_body Bd
  have e0 : s₁.heap = h0 := by rw [← hh, Bd.state]; rfl
  have N0 := Fr.nil n0
  suffices G : Go p e below s (Q_add Z x ea n cap mc k mr h0 n0) 1 7 s₁ (mkF m 0 #[.val (.ref x), .val .null] []) by
    obtain ⟨s2, o, h1, h2⟩ := G
    exact ⟨s2, o, castTop (ef_add m x) h1, h2⟩
  refine Go.by (T' := s₁) (g' := (mkF m 1 #[.val (.ref x), .val .null] [(.ref x)])) (fun t_ k_ => XS.aloadN X0.here hx rfl (hb hby d_jdk_38_method_25_code_0) rfl rfl k_) ?_
  refine Go.by (T' := s₁) (g' := (mkF m 2 #[.val (.ref x), .val .null] [(.ref x), (.ref x)])) (fun t_ k_ => XS.dup X0.here hx rfl (hb hby d_jdk_38_method_25_code_1) rfl rfl k_) ?_
  obtain ⟨T101, X101, e101, st101⟩ := getF X0 hx hZ hown (host := "") (Or.inl (hw _ (List.mem_of_getElem? (i := 54) rfl))) (Via.of (hw _ (List.mem_of_getElem? (i := 55) rfl))) e0 P1 (g := (mkF m 2 #[.val (.ref x), .val .null] [(.ref x), (.ref x)])) rfl rfl (hb hby d_jdk_38_method_25_code_2)
  refine Go.by (T' := T101) (g' := (mkF m 5 #[.val (.ref x), .val .null] [(.int mc), (.ref x)])) (fun t_ k_ => st101 _ k_) ?_
  refine Go.by (T' := T101) (g' := (mkF m 6 #[.val (.ref x), .val .null] [(.int (1 : Int32)), (.int mc), (.ref x)])) (fun t_ k_ => XS.iconst X101.here hx rfl (hb hby d_jdk_38_method_25_code_5) k_) ?_
  refine Go.by (T' := T101) (g' := (mkF m 7 #[.val (.ref x), .val .null] [(.int (mc + (1 : Int32))), (.ref x)])) (fun t_ k_ => XS.iadd X101.here hx rfl (hb hby d_jdk_38_method_25_code_6) rfl k_) ?_
  obtain ⟨T102, h102, X102, e102, W102, st102⟩ := putF X101 hx hZ hown (host := "") (Or.inl (hw _ (List.mem_of_getElem? (i := 54) rfl))) (Via.of (hw _ (List.mem_of_getElem? (i := 55) rfl))) e101 P1 P0 (Or.inl (hw _ (List.mem_of_getElem? (i := 31) rfl))) (hw _ (List.mem_of_getElem? (i := 12) rfl)) (ty := .int) (by decide) rfl rfl (g := (mkF m 7 #[.val (.ref x), .val .null] [(.int (mc + (1 : Int32))), (.ref x)])) rfl rfl (hb hby d_jdk_38_method_25_code_7)
  have Fw102 : Fld Z h102 x "java/util/AbstractList" "modCount" "I" (.int (mc + (1 : Int32))) := P1.same W102
  have N102 := Fr.snoc X102 N0 P6
  refine Go.by (T' := T102) (g' := (mkF m 10 #[.val (.ref x), .val .null] [])) (fun t_ k_ => st102 _ k_) ?_
  refine Go.by (T' := T102) (g' := (mkF m 11 #[.val (.ref x), .val .null] [(.ref x)])) (fun t_ k_ => XS.aloadN X102.here hx rfl (hb hby d_jdk_38_method_25_code_10) rfl rfl k_) ?_
  refine Go.by (T' := T102) (g' := (mkF m 12 #[.val (.ref x), .val .null] [.null, (.ref x)])) (fun t_ k_ => XS.aloadN X102.here hx rfl (hb hby d_jdk_38_method_25_code_11) rfl rfl k_) ?_
  refine Go.by (T' := T102) (g' := (mkF m 13 #[.val (.ref x), .val .null] [(.ref x), .null, (.ref x)])) (fun t_ k_ => XS.aloadN X102.here hx rfl (hb hby d_jdk_38_method_25_code_12) rfl rfl k_) ?_
  have F103 : Fld Z h102 x "java/util/ArrayList" "elementData" "[Ljava/lang/Object;" (.ref ea) := (P2.other W102 (Or.inr (slot_ne (Or.inl (hw _ (List.mem_of_getElem? (i := 35) rfl))) (Or.inl (hw _ (List.mem_of_getElem? (i := 31) rfl))) (by decide) (t := (.array (.object "java/lang/Object"))) (t' := .int) (by decide) (by decide))))
  obtain ⟨T104, X104, e104, st104⟩ := getF X102 hx hZ hown (host := "") (Or.inl (hw _ (List.mem_of_getElem? (i := 34) rfl))) Via.refl e102 F103 (g := (mkF m 13 #[.val (.ref x), .val .null] [(.ref x), .null, (.ref x)])) rfl rfl (hb hby d_jdk_38_method_25_code_13)
  refine Go.by (T' := T104) (g' := (mkF m 16 #[.val (.ref x), .val .null] [(.ref ea), .null, (.ref x)])) (fun t_ k_ => st104 _ k_) ?_
  refine Go.by (T' := T104) (g' := (mkF m 17 #[.val (.ref x), .val .null] [(.ref x), (.ref ea), .null, (.ref x)])) (fun t_ k_ => XS.aloadN X104.here hx rfl (hb hby d_jdk_38_method_25_code_16) rfl rfl k_) ?_
  have F105 : Fld Z h102 x "java/util/ArrayList" "size" "I" (.int (Int32.ofNat n)) := (P3.other W102 (Or.inr (slot_ne (Or.inl (hw _ (List.mem_of_getElem? (i := 57) rfl))) (Or.inl (hw _ (List.mem_of_getElem? (i := 31) rfl))) (by decide) (t := .int) (t' := .int) (by decide) (by decide))))
  obtain ⟨T106, X106, e106, st106⟩ := getF X104 hx hZ hown (host := "") (Or.inl (hw _ (List.mem_of_getElem? (i := 56) rfl))) Via.refl e104 F105 (g := (mkF m 17 #[.val (.ref x), .val .null] [(.ref x), (.ref ea), .null, (.ref x)])) rfl rfl (hb hby d_jdk_38_method_25_code_17)
  refine Go.by (T' := T106) (g' := (mkF m 20 #[.val (.ref x), .val .null] [(.int (Int32.ofNat n)), (.ref ea), .null, (.ref x)])) (fun t_ k_ => st106 _ k_) ?_
  have F107 : Exa Z h102 x "java/util/ArrayList" := (P0.wr W102)
  have F108 : Exa Z h102 ea "[Ljava/lang/Object;" := (P4.wr W102)
  have F109 : Arv Z h102 ea k (.object "java/lang/Object") (Int32.ofNat cap) [] .null := (P5.other W102 (Ne.symm P8))
  have Od110 : Old Z n0 h102 := (X00.wr W102 P6)
  have Kp111 : Keep h0 h102 [x, ea] := ((Keep.refl h0 [x, ea]).wr W102 (Or.inl (List.mem_of_getElem? (i := 0) rfl)))
  obtain ⟨cq112, q112, q112'⟩ := F107.cell
  obtain ⟨_, _, ⟨T112, L112, k112, n112⟩, -, X112, ⟨Lc112, hQ112, l112, y112, z112⟩, st112⟩ := X106.privateBack hx (y := (⟨"java/util/ArrayList", "add", "(Ljava/lang/Object;[Ljava/lang/Object;I)V"⟩ : MethodName)) hown (mvT hZ (hw _ (List.mem_of_getElem? (i := 58) rfl))) (mvT hZ (hw _ (List.mem_of_getElem? (i := 59) rfl))) (mvT hZ (hw _ (List.mem_of_getElem? (i := 61) rfl))) (Cond.privateMethod_at (mvP hZ (hw _ (List.mem_of_getElem? (i := 60) rfl)) (args := #[]))) (mvT hZ (hw _ (List.mem_of_getElem? (i := 62) rfl))) (by decide) (backOf (W := 0) (rm_addH l Z a0 hw [] x ea n cap (mc + (1 : Int32)) k mr h102 n0 Od110 F107 Fw102 F103 F105 F108 F109 P6 P7 P8 hn5 hnc hc1 hc7 hM) hZ (hw _ (List.mem_of_getElem? (i := 62) rfl)) (hw _ (List.mem_of_getElem? (i := 13) rfl)) (by decide) (by decide)) (g := (mkF m 20 #[.val (.ref x), .val .null] [(.int (Int32.ofNat n)), (.ref ea), .null, (.ref x)])) rfl (by rw [hml]; rfl) (Steps.refl _) (a := x) (by rw [e106]; exact q112) q112' (argsL := [.null, (.ref ea), (.int (Int32.ofNat n))]) (rest := []) (lenOf pd_6 rfl) rfl (by show 2 * 0 + _ ≤ _; exact Nat.le_of_eq rfl) (hb hby d_jdk_38_method_25_code_20) (fun _ _ => ⟨rfl, e106, (by decide : 0 + 1 ≤ _), (by decide : 0 + 7 ≤ _)⟩)
  dsimp only [Pt.U, Pt.locs, Pt.cells, Pt.slots] at X112 l112 y112 z112 st112 hQ112
  subst l112 y112 z112
  obtain ⟨e2_112, k2_112, c2_112, rfl, N112q, K112, G112_0, G112_1, G112_2, G112_3, G112_4, G112_5, G112_6, G112_7, G112_8⟩ := hQ112
  have N112 := Fr.app N102 N112q
  have ge_e2_112 : n0 ≤ e2_112 := G112_0.elim (fun q => q.symm ▸ P7) (fun q => Nat.le_trans Od110.sz q)
  have km_e2_112 : e2_112 ∈ [x, ea] ∨ h0.size ≤ e2_112 := G112_0.elim (fun q => q.symm ▸ (Or.inl (List.mem_of_getElem? (i := 1) rfl))) (fun q => Or.inr (Nat.le_trans Kp111.1 q))
  have fo_e2_112 : e2_112 = ea ∨ h0.size ≤ e2_112 := G112_0.imp id (fun q => Nat.le_trans Kp111.1 q)
  have ne_x_e2_112 : ¬ (x = e2_112) := fun r => G112_0.elim (fun q => P8 (r.trans q)) (fun q => Nat.ne_of_lt (Nat.lt_of_lt_of_le F107.lt q) r)
  refine Go.by (T' := T112) (g' := (mkF m 23 #[.val (.ref x), .val .null] [])) (fun t_ k_ => st112.trans k_) ?_
  refine Go.by (T' := T112) (g' := (mkF m 24 #[.val (.ref x), .val .null] [(.int (1 : Int32))])) (fun t_ k_ => XS.iconst X112.here hx rfl (hb hby d_jdk_38_method_25_code_23) k_) ?_
  have Kp113 : Keep h0 T112.heap [x, ea] := (Kp111.trans K112 (allS (Or.inl (List.mem_of_getElem? (i := 0) rfl)) (allS (Or.inl (List.mem_of_getElem? (i := 1) rfl)) all0)))
  refine Go.fin X112 (v := some (.int (nar .boolean (1 : Int32)))) (fun h => by rw [Bd.returns] at h; cases h) hlk (by decide) (by decide) ?_ (fun fs hr => retN X112 hx (t := .boolean) Bd.returns (by simp) (hb hby d_jdk_38_method_25_code_24) hr)
  show Q_add Z x ea n cap mc k mr h0 n0 _ T112.heap _
  exact ⟨e2_112, k2_112, c2_112, rfl, N112, Kp113, fo_e2_112, G112_1, G112_2, G112_3, G112_4, G112_5, G112_6, G112_7, G112_8⟩
def Q_lsize (Z : State) (x : Addr) (n : Nat) (h0 : Heap) (n0 : Nat) (v : Option Value) (h : Heap) (L : List Loc) : Prop := v = some (.int (Int32.ofNat n)) ∧ Fr n0 L ∧ h = h0
theorem ef_lsize (m : MethodId) (x : Addr) : entryFrame m #[(.ref x)] 1 = mkF m 0 #[.val (.ref x)] [] := by first | (simp [entryFrame, mkF, argsToLocals, Value.category]; done) | rfl
theorem d_jdk_38_method_8_code_0 : decode jdk_38_method_8_code 0 = .ok (.aload_n 0, 1) := by decide +kernel
theorem d_jdk_38_method_8_code_1 : decode jdk_38_method_8_code 1 = .ok (.getfield 48, 3) := by decide +kernel
theorem d_jdk_38_method_8_code_4 : decode jdk_38_method_8_code 4 = .ok (.ireturn, 1) := by decide +kernel
set_option maxRecDepth 65536 in
set_option maxHeartbeats 40000000 in
theorem rm_lsize (l : Launch) (Z : State) (a0 : Array Value) (hw : ∀ d ∈ tables_1, d.before a0 Z = true) (ws : List Jvm.Cond) (x : Addr) (n : Nat) (h0 : Heap) (n0 : Nat) (X00 : Old Z n0 h0) (P0 : Fld Z h0 x "java/util/ArrayList" "size" "I" (.int (Int32.ofNat n))) :
    MetFree l (⟨"java/util/ArrayList", "size", "()I"⟩ : MethodName) (head1 (Jvm.Cond.code (⟨"java/util/ArrayList", "size", "()I"⟩ : MethodName) jdk_38_method_8_code 1 (some .int) :: ws) ({ frames := 0, cells := 0, slots := 0, locals := 0 } : Room)) (fun aa_ U => aa_ = #[(.ref x)] ∧ Z.Warmed39 U.vm ∧ U.heap = h0) (fun _ _ _ _ _ => True) (fun _ U o U' => ∃ v L, o = .returned v ∧ Q_lsize Z x n h0 n0 v U'.heap L ∧ FrameEnd U o U' L ({ frames := 0, cells := 0, slots := 0, locals := 0 } : Room).cells ({ frames := 0, cells := 0, slots := 0, locals := 0 } : Room).slots) := by
  refine MetFree.of_bodySF (plainFor_of_name pn_2) hisR ?_
  intro p e s m args below meth c s₁ Bd hml0 hP hK
  obtain ⟨rfl, hZ, hh⟩ := hP
  have hx := Bd.exec
  have hby := Bd.bytes
  have hml : c.maxLocals = 1 := hml0
  have hown : s.vm.findClass "java/util/ArrayList" = some m.cls := findClass_of_methodNamed Bd.named
  have hnm := (name_of_methodNamed Bd.named Bd.method).1
  have hlk : meth.locks = false := BodyLoose.notSynchronized Bd
  have X0 : Stand p l e ({ frames := 0, cells := 0, slots := 0, locals := 0 } : Room) s m #[(.ref x)] below meth c s₁ [] 0 0 := Stand.of_body Bd
  have e0 : s₁.heap = h0 := by rw [← hh, Bd.state]; rfl
  have N0 := Fr.nil n0
  suffices G : Go p e below s (Q_lsize Z x n h0 n0) 0 0 s₁ (mkF m 0 #[.val (.ref x)] []) by
    obtain ⟨s2, o, h1, h2⟩ := G
    exact ⟨s2, o, castTop (ef_lsize m x) h1, h2⟩
  refine Go.by (T' := s₁) (g' := (mkF m 1 #[.val (.ref x)] [(.ref x)])) (fun t_ k_ => XS.aloadN X0.here hx rfl (hb hby d_jdk_38_method_8_code_0) rfl rfl k_) ?_
  obtain ⟨T101, X101, e101, st101⟩ := getF X0 hx hZ hown (host := "") (Or.inl (hw _ (List.mem_of_getElem? (i := 56) rfl))) Via.refl e0 P0 (g := (mkF m 1 #[.val (.ref x)] [(.ref x)])) rfl rfl (hb hby d_jdk_38_method_8_code_1)
  refine Go.by (T' := T101) (g' := (mkF m 4 #[.val (.ref x)] [(.int (Int32.ofNat n))])) (fun t_ k_ => st101 _ k_) ?_
  refine Go.fin X101 (v := some (.int (Int32.ofNat n))) (fun h => by rw [Bd.returns] at h; cases h) hlk (by decide) (by decide) ?_ (fun fs hr => retI X101 hx Bd.returns (hb hby d_jdk_38_method_8_code_4) hr)
  show Q_lsize Z x n h0 n0 _ T101.heap _
  rw [e101]
  exact ⟨rfl, N0, rfl⟩
def Q_abc (Z : State) (x : Addr) (h0 : Heap) (n0 : Nat) (v : Option Value) (h : Heap) (L : List Loc) : Prop := v = none ∧ Fr n0 L ∧ h = h0
theorem pn_3 : plainName "java/util/AbstractCollection" = true := by first | (simp [plainName, overriddenIn]; done) | decide +kernel
theorem ef_abc (m : MethodId) (x : Addr) : entryFrame m #[(.ref x)] 1 = mkF m 0 #[.val (.ref x)] [] := by first | (simp [entryFrame, mkF, argsToLocals, Value.category]; done) | rfl
theorem d_jdk_22_method_1_code_0 : decode jdk_22_method_1_code 0 = .ok (.aload_n 0, 1) := by decide +kernel
theorem d_jdk_22_method_1_code_1 : decode jdk_22_method_1_code 1 = .ok (.invokespecial 1, 3) := by decide +kernel
theorem d_jdk_22_method_1_code_4 : decode jdk_22_method_1_code 4 = .ok (.return_, 1) := by decide +kernel
set_option maxRecDepth 65536 in
set_option maxHeartbeats 40000000 in
theorem rm_abc (l : Launch) (Z : State) (a0 : Array Value) (hw : ∀ d ∈ tables_1, d.before a0 Z = true) (ws : List Jvm.Cond) (x : Addr) (h0 : Heap) (n0 : Nat) (X00 : Old Z n0 h0)  :
    MetFree l (⟨"java/util/AbstractCollection", "<init>", "()V"⟩ : MethodName) (head1 (Jvm.Cond.code (⟨"java/util/AbstractCollection", "<init>", "()V"⟩ : MethodName) jdk_22_method_1_code 1 none :: ws) ({ frames := 1, cells := 0, slots := 0, locals := 12 } : Room)) (fun aa_ U => aa_ = #[(.ref x)] ∧ Z.Warmed39 U.vm ∧ U.heap = h0) (fun _ _ _ _ _ => True) (fun _ U o U' => ∃ v L, o = .returned v ∧ Q_abc Z x h0 n0 v U'.heap L ∧ FrameEnd U o U' L ({ frames := 1, cells := 0, slots := 0, locals := 12 } : Room).cells ({ frames := 1, cells := 0, slots := 0, locals := 12 } : Room).slots) := by
  refine MetFree.of_bodySF (plainFor_of_name pn_3) hisR ?_
  intro p e s m args below meth c s₁ Bd hml0 hP hK
  obtain ⟨rfl, hZ, hh⟩ := hP
  have hx := Bd.exec
  have hby := Bd.bytes
  have hml : c.maxLocals = 1 := hml0
  have hown : s.vm.findClass "java/util/AbstractCollection" = some m.cls := findClass_of_methodNamed Bd.named
  have hnm := (name_of_methodNamed Bd.named Bd.method).1
  have hlk : meth.locks = false := BodyLoose.notSynchronized Bd
  have X0 : Stand p l e ({ frames := 1, cells := 0, slots := 0, locals := 12 } : Room) s m #[(.ref x)] below meth c s₁ [] 0 0 := Stand.of_body Bd
  have e0 : s₁.heap = h0 := by rw [← hh, Bd.state]; rfl
  have N0 := Fr.nil n0
  suffices G : Go p e below s (Q_abc Z x h0 n0) 0 0 s₁ (mkF m 0 #[.val (.ref x)] []) by
    obtain ⟨s2, o, h1, h2⟩ := G
    exact ⟨s2, o, castTop (ef_abc m x) h1, h2⟩
  refine Go.by (T' := s₁) (g' := (mkF m 1 #[.val (.ref x)] [(.ref x)])) (fun t_ k_ => XS.aloadN X0.here hx rfl (hb hby d_jdk_22_method_1_code_0) rfl rfl k_) ?_
  obtain ⟨T101, X101, e101, st101⟩ := initO X0 hx hZ hown (hw _ (List.mem_of_getElem? (i := 29) rfl)) (hw _ (List.mem_of_getElem? (i := 7) rfl)) (hw _ (List.mem_of_getElem? (i := 8) rfl)) e0 (g := (mkF m 1 #[.val (.ref x)] [(.ref x)])) rfl (by rw [hml]; rfl) rfl (hb hby d_jdk_22_method_1_code_1) (by decide) (W := 0) (by show 2 * 0 + _ ≤ _; exact Nat.le_of_eq rfl) (by decide)
  refine Go.by (T' := T101) (g' := (mkF m 4 #[.val (.ref x)] [])) (fun t_ k_ => st101 _ k_) ?_
  refine Go.fin X101 (v := none) (fun _ => rfl) hlk (by decide) (by decide) ?_ (fun fs hr => X101.returnOut hx Bd.returns (hb hby d_jdk_22_method_1_code_4) hr)
  show Q_abc Z x h0 n0 _ T101.heap _
  rw [e101]
  exact ⟨rfl, N0, rfl⟩
def Q_abl (Z : State) (x : Addr) (h0 : Heap) (n0 : Nat) (v : Option Value) (h : Heap) (L : List Loc) : Prop := v = none ∧ Fr n0 L ∧ Keep h0 h [x] ∧ Exa Z h x "java/util/ArrayList" ∧ Fld Z h x "java/util/AbstractList" "modCount" "I" (.int (0 : Int32)) ∧ Fld Z h x "java/util/ArrayList" "elementData" "[Ljava/lang/Object;" .null ∧ Fld Z h x "java/util/ArrayList" "size" "I" (.int (0 : Int32))
theorem pn_4 : plainName "java/util/AbstractList" = true := by first | (simp [plainName, overriddenIn]; done) | decide +kernel
theorem ef_abl (m : MethodId) (x : Addr) : entryFrame m #[(.ref x)] 1 = mkF m 0 #[.val (.ref x)] [] := by first | (simp [entryFrame, mkF, argsToLocals, Value.category]; done) | rfl
theorem d_jdk_39_method_1_code_0 : decode jdk_39_method_1_code 0 = .ok (.aload_n 0, 1) := by decide +kernel
theorem d_jdk_39_method_1_code_1 : decode jdk_39_method_1_code 1 = .ok (.invokespecial 1, 3) := by decide +kernel
theorem pd_7 : parseMethodDescriptor "()V" = some ⟨[], none⟩ := by decide +kernel
theorem d_jdk_39_method_1_code_4 : decode jdk_39_method_1_code 4 = .ok (.aload_n 0, 1) := by decide +kernel
theorem d_jdk_39_method_1_code_5 : decode jdk_39_method_1_code 5 = .ok (.iconst 0, 1) := by decide +kernel
theorem d_jdk_39_method_1_code_6 : decode jdk_39_method_1_code 6 = .ok (.putfield 7, 3) := by decide +kernel
theorem d_jdk_39_method_1_code_9 : decode jdk_39_method_1_code 9 = .ok (.return_, 1) := by decide +kernel
set_option maxRecDepth 65536 in
set_option maxHeartbeats 40000000 in
theorem rm_abl (l : Launch) (Z : State) (a0 : Array Value) (hw : ∀ d ∈ tables_1, d.before a0 Z = true) (ws : List Jvm.Cond) (x : Addr) (h0 : Heap) (n0 : Nat) (X00 : Old Z n0 h0) (P0 : Exa Z h0 x "java/util/ArrayList") (P1 : Fld Z h0 x "java/util/AbstractList" "modCount" "I" (.int (0 : Int32))) (P2 : Fld Z h0 x "java/util/ArrayList" "elementData" "[Ljava/lang/Object;" .null) (P3 : Fld Z h0 x "java/util/ArrayList" "size" "I" (.int (0 : Int32))) (P4 : n0 ≤ x) :
    MetFree l (⟨"java/util/AbstractList", "<init>", "()V"⟩ : MethodName) (head1 (Jvm.Cond.code (⟨"java/util/AbstractList", "<init>", "()V"⟩ : MethodName) jdk_39_method_1_code 1 none :: ws) ({ frames := 2, cells := 0, slots := 0, locals := 24 } : Room)) (fun aa_ U => aa_ = #[(.ref x)] ∧ Z.Warmed39 U.vm ∧ U.heap = h0) (fun _ _ _ _ _ => True) (fun _ U o U' => ∃ v L, o = .returned v ∧ Q_abl Z x h0 n0 v U'.heap L ∧ FrameEnd U o U' L ({ frames := 2, cells := 0, slots := 0, locals := 24 } : Room).cells ({ frames := 2, cells := 0, slots := 0, locals := 24 } : Room).slots) := by
  refine MetFree.of_bodySF (plainFor_of_name pn_4) hisR ?_
  intro p e s m args below meth c s₁ Bd hml0 hP hK
  obtain ⟨rfl, hZ, hh⟩ := hP
  have hx := Bd.exec
  have hby := Bd.bytes
  have hml : c.maxLocals = 1 := hml0
  have hown : s.vm.findClass "java/util/AbstractList" = some m.cls := findClass_of_methodNamed Bd.named
  have hnm := (name_of_methodNamed Bd.named Bd.method).1
  have hlk : meth.locks = false := BodyLoose.notSynchronized Bd
  have X0 : Stand p l e ({ frames := 2, cells := 0, slots := 0, locals := 24 } : Room) s m #[(.ref x)] below meth c s₁ [] 0 0 := Stand.of_body Bd
  have e0 : s₁.heap = h0 := by rw [← hh, Bd.state]; rfl
  have N0 := Fr.nil n0
  suffices G : Go p e below s (Q_abl Z x h0 n0) 0 0 s₁ (mkF m 0 #[.val (.ref x)] []) by
    obtain ⟨s2, o, h1, h2⟩ := G
    exact ⟨s2, o, castTop (ef_abl m x) h1, h2⟩
  refine Go.by (T' := s₁) (g' := (mkF m 1 #[.val (.ref x)] [(.ref x)])) (fun t_ k_ => XS.aloadN X0.here hx rfl (hb hby d_jdk_39_method_1_code_0) rfl rfl k_) ?_
  obtain ⟨_, _, ⟨T101, L101, k101, n101⟩, -, X101, ⟨Lc101, hQ101, l101, y101, z101⟩, st101⟩ := X0.specialBack hx (y := (⟨"java/util/AbstractCollection", "<init>", "()V"⟩ : MethodName)) rfl hown (mvT hZ (hw _ (List.mem_of_getElem? (i := 23) rfl))) (mvT hZ (hw _ (List.mem_of_getElem? (i := 24) rfl))) (mvT hZ (hw _ (List.mem_of_getElem? (i := 28) rfl))) (by decide) (backOf (W := 0) (rm_abc l Z a0 hw [] x h0 n0 X00 ) hZ (hw _ (List.mem_of_getElem? (i := 28) rfl)) (hw _ (List.mem_of_getElem? (i := 27) rfl)) (by decide) (by decide)) (g := (mkF m 1 #[.val (.ref x)] [(.ref x)])) rfl (by rw [hml]; rfl) (Steps.refl _) (a := x) (argsL := []) (rest := []) (lenOf pd_7 rfl) rfl (by show 2 * 0 + _ ≤ _; exact Nat.le_of_eq rfl) (hb hby d_jdk_39_method_1_code_1) (fun _ _ => ⟨rfl, e0, (by decide : 0 + 0 ≤ _), (by decide : 0 + 0 ≤ _)⟩)
  dsimp only [Pt.U, Pt.locs, Pt.cells, Pt.slots] at X101 l101 y101 z101 st101 hQ101
  subst l101 y101 z101
  obtain ⟨rfl, N101q, e101⟩ := hQ101
  have N101 := Fr.app N0 N101q
  refine Go.by (T' := T101) (g' := (mkF m 4 #[.val (.ref x)] [])) (fun t_ k_ => st101.trans k_) ?_
  refine Go.by (T' := T101) (g' := (mkF m 5 #[.val (.ref x)] [(.ref x)])) (fun t_ k_ => XS.aloadN X101.here hx rfl (hb hby d_jdk_39_method_1_code_4) rfl rfl k_) ?_
  refine Go.by (T' := T101) (g' := (mkF m 6 #[.val (.ref x)] [(.int (0 : Int32)), (.ref x)])) (fun t_ k_ => XS.iconst X101.here hx rfl (hb hby d_jdk_39_method_1_code_5) k_) ?_
  obtain ⟨T102, h102, X102, e102, W102, st102⟩ := putF X101 hx hZ hown (host := "") (Or.inl (hw _ (List.mem_of_getElem? (i := 30) rfl))) Via.refl e101 P1 P0 (Or.inl (hw _ (List.mem_of_getElem? (i := 31) rfl))) (hw _ (List.mem_of_getElem? (i := 12) rfl)) (ty := .int) (by decide) rfl rfl (g := (mkF m 6 #[.val (.ref x)] [(.int (0 : Int32)), (.ref x)])) rfl rfl (hb hby d_jdk_39_method_1_code_6)
  have Fw102 : Fld Z h102 x "java/util/AbstractList" "modCount" "I" (.int (0 : Int32)) := P1.same W102
  have N102 := Fr.snoc X102 N101 P4
  refine Go.by (T' := T102) (g' := (mkF m 9 #[.val (.ref x)] [])) (fun t_ k_ => st102 _ k_) ?_
  have F103 : Exa Z h102 x "java/util/ArrayList" := (P0.wr W102)
  have F104 : Fld Z h102 x "java/util/ArrayList" "elementData" "[Ljava/lang/Object;" .null := (P2.other W102 (Or.inr (slot_ne (Or.inl (hw _ (List.mem_of_getElem? (i := 35) rfl))) (Or.inl (hw _ (List.mem_of_getElem? (i := 31) rfl))) (by decide) (t := (.array (.object "java/lang/Object"))) (t' := .int) (by decide) (by decide))))
  have F105 : Fld Z h102 x "java/util/ArrayList" "size" "I" (.int (0 : Int32)) := (P3.other W102 (Or.inr (slot_ne (Or.inl (hw _ (List.mem_of_getElem? (i := 57) rfl))) (Or.inl (hw _ (List.mem_of_getElem? (i := 31) rfl))) (by decide) (t := .int) (t' := .int) (by decide) (by decide))))
  have Kp106 : Keep h0 h102 [x] := ((Keep.refl h0 [x]).wr W102 (Or.inl (List.mem_of_getElem? (i := 0) rfl)))
  refine Go.fin X102 (v := none) (fun _ => rfl) hlk (by decide) (by decide) ?_ (fun fs hr => X102.returnOut hx Bd.returns (hb hby d_jdk_39_method_1_code_9) hr)
  show Q_abl Z x h0 n0 _ T102.heap _
  rw [e102]
  exact ⟨rfl, N102, Kp106, F103, Fw102, F104, F105⟩
def Q_ali (Z : State) (x : Addr) (q : Nat) (h0 : Heap) (n0 : Nat) (v : Option Value) (h : Heap) (L : List Loc) : Prop := ∃ (t : Addr) (k2 : ClassId), v = none ∧ Fr n0 L ∧ Keep h0 h [x] ∧ h0.size ≤ t ∧ Exa Z h x "java/util/ArrayList" ∧ Fld Z h x "java/util/AbstractList" "modCount" "I" (.int (0 : Int32)) ∧ Fld Z h x "java/util/ArrayList" "elementData" "[Ljava/lang/Object;" (.ref t) ∧ Fld Z h x "java/util/ArrayList" "size" "I" (.int (Int32.ofNat 0)) ∧ Exa Z h t "[Ljava/lang/Object;" ∧ Arv Z h t k2 (.object "java/lang/Object") (Int32.ofNat q) [] .null
theorem ef_ali (m : MethodId) (x : Addr) : entryFrame m #[(.ref x), (.int (Int32.ofNat q))] 2 = mkF m 0 #[.val (.ref x), .val (.int (Int32.ofNat q))] [] := by first | (simp [entryFrame, mkF, argsToLocals, Value.category]; done) | rfl
theorem d_jdk_38_method_1_code_0 : decode jdk_38_method_1_code 0 = .ok (.aload_n 0, 1) := by decide +kernel
theorem d_jdk_38_method_1_code_1 : decode jdk_38_method_1_code 1 = .ok (.invokespecial 1, 3) := by decide +kernel
theorem d_jdk_38_method_1_code_4 : decode jdk_38_method_1_code 4 = .ok (.iload_n 1, 1) := by decide +kernel
theorem d_jdk_38_method_1_code_5 : decode jdk_38_method_1_code 5 = .ok (.ifCond .le 14, 3) := by decide +kernel
theorem d_jdk_38_method_1_code_8 : decode jdk_38_method_1_code 8 = .ok (.aload_n 0, 1) := by decide +kernel
theorem d_jdk_38_method_1_code_9 : decode jdk_38_method_1_code 9 = .ok (.iload_n 1, 1) := by decide +kernel
theorem d_jdk_38_method_1_code_10 : decode jdk_38_method_1_code 10 = .ok (.anewarray 7, 3) := by decide +kernel
theorem d_jdk_38_method_1_code_13 : decode jdk_38_method_1_code 13 = .ok (.putfield 9, 3) := by decide +kernel
theorem d_jdk_38_method_1_code_16 : decode jdk_38_method_1_code 16 = .ok (.goto 44, 3) := by decide +kernel
theorem d_jdk_38_method_1_code_60 : decode jdk_38_method_1_code 60 = .ok (.return_, 1) := by decide +kernel
set_option maxRecDepth 65536 in
set_option maxHeartbeats 40000000 in
theorem rm_ali (l : Launch) (Z : State) (a0 : Array Value) (hw : ∀ d ∈ tables_1, d.before a0 Z = true) (ws : List Jvm.Cond) (x : Addr) (q : Nat) (h0 : Heap) (n0 : Nat) (X00 : Old Z n0 h0) (P0 : Exa Z h0 x "java/util/ArrayList") (P1 : Fld Z h0 x "java/util/AbstractList" "modCount" "I" (.int (0 : Int32))) (P2 : Fld Z h0 x "java/util/ArrayList" "elementData" "[Ljava/lang/Object;" .null) (P3 : Fld Z h0 x "java/util/ArrayList" "size" "I" (.int (0 : Int32))) (P4 : n0 ≤ x) (hq1 : 1 ≤ q) (hq4 : q ≤ 4) :
    MetFree l (⟨"java/util/ArrayList", "<init>", "(I)V"⟩ : MethodName) (head1 (Jvm.Cond.code (⟨"java/util/ArrayList", "<init>", "(I)V"⟩ : MethodName) jdk_38_method_1_code 2 none :: ws) ({ frames := 3, cells := 1, slots := 4, locals := 40 } : Room)) (fun aa_ U => aa_ = #[(.ref x), (.int (Int32.ofNat q))] ∧ Z.Warmed39 U.vm ∧ U.heap = h0) (fun _ _ _ _ _ => True) (fun _ U o U' => ∃ v L, o = .returned v ∧ Q_ali Z x q h0 n0 v U'.heap L ∧ FrameEnd U o U' L ({ frames := 3, cells := 1, slots := 4, locals := 40 } : Room).cells ({ frames := 3, cells := 1, slots := 4, locals := 40 } : Room).slots) := by
  refine MetFree.of_bodySF (plainFor_of_name pn_2) hisR ?_
  intro p e s m args below meth c s₁ Bd hml0 hP hK
  obtain ⟨rfl, hZ, hh⟩ := hP
  have hx := Bd.exec
  have hby := Bd.bytes
  have hml : c.maxLocals = 2 := hml0
  have hown : s.vm.findClass "java/util/ArrayList" = some m.cls := findClass_of_methodNamed Bd.named
  have hnm := (name_of_methodNamed Bd.named Bd.method).1
  have hlk : meth.locks = false := BodyLoose.notSynchronized Bd
  have X0 : Stand p l e ({ frames := 3, cells := 1, slots := 4, locals := 40 } : Room) s m #[(.ref x), (.int (Int32.ofNat q))] below meth c s₁ [] 0 0 := Stand.of_body Bd
  have e0 : s₁.heap = h0 := by rw [← hh, Bd.state]; rfl
  have N0 := Fr.nil n0
  suffices G : Go p e below s (Q_ali Z x q h0 n0) 1 4 s₁ (mkF m 0 #[.val (.ref x), .val (.int (Int32.ofNat q))] []) by
    obtain ⟨s2, o, h1, h2⟩ := G
    exact ⟨s2, o, castTop (ef_ali m x) h1, h2⟩
  refine Go.by (T' := s₁) (g' := (mkF m 1 #[.val (.ref x), .val (.int (Int32.ofNat q))] [(.ref x)])) (fun t_ k_ => XS.aloadN X0.here hx rfl (hb hby d_jdk_38_method_1_code_0) rfl rfl k_) ?_
  obtain ⟨_, _, ⟨T101, L101, k101, n101⟩, -, X101, ⟨Lc101, hQ101, l101, y101, z101⟩, st101⟩ := X0.specialBack hx (y := (⟨"java/util/AbstractList", "<init>", "()V"⟩ : MethodName)) rfl hown (mvT hZ (hw _ (List.mem_of_getElem? (i := 17) rfl))) (mvT hZ (hw _ (List.mem_of_getElem? (i := 18) rfl))) (mvT hZ (hw _ (List.mem_of_getElem? (i := 22) rfl))) (by decide) (backOf (W := 0) (rm_abl l Z a0 hw [] x h0 n0 X00 P0 P1 P2 P3 P4) hZ (hw _ (List.mem_of_getElem? (i := 22) rfl)) (hw _ (List.mem_of_getElem? (i := 21) rfl)) (by decide) (by decide)) (g := (mkF m 1 #[.val (.ref x), .val (.int (Int32.ofNat q))] [(.ref x)])) rfl (by rw [hml]; rfl) (Steps.refl _) (a := x) (argsL := []) (rest := []) (lenOf pd_7 rfl) rfl (by show 2 * 0 + _ ≤ _; exact Nat.le_of_eq rfl) (hb hby d_jdk_38_method_1_code_1) (fun _ _ => ⟨rfl, e0, (by decide : 0 + 0 ≤ _), (by decide : 0 + 0 ≤ _)⟩)
  dsimp only [Pt.U, Pt.locs, Pt.cells, Pt.slots] at X101 l101 y101 z101 st101 hQ101
  subst l101 y101 z101
  obtain ⟨rfl, N101q, K101, G101_0, G101_1, G101_2, G101_3⟩ := hQ101
  have N101 := Fr.app N0 N101q
  refine Go.by (T' := T101) (g' := (mkF m 4 #[.val (.ref x), .val (.int (Int32.ofNat q))] [])) (fun t_ k_ => st101.trans k_) ?_
  refine Go.by (T' := T101) (g' := (mkF m 5 #[.val (.ref x), .val (.int (Int32.ofNat q))] [(.int (Int32.ofNat q))])) (fun t_ k_ => XS.iloadN X101.here hx rfl (hb hby d_jdk_38_method_1_code_4) rfl k_) ?_
  refine Go.by (T' := T101) (g' := (mkF m 8 #[.val (.ref x), .val (.int (Int32.ofNat q))] [])) (fun t_ k_ => XS.ifNo X101.here hx rfl (hb hby d_jdk_38_method_1_code_5) rfl ((if0 _ _).trans (tlt (by rw [show (0 : Int32) = Int32.ofNat 0 from rfl, own_lt (by omega) (by omega)]; omega)).2.2.2) k_) ?_
  refine Go.by (T' := T101) (g' := (mkF m 9 #[.val (.ref x), .val (.int (Int32.ofNat q))] [(.ref x)])) (fun t_ k_ => XS.aloadN X101.here hx rfl (hb hby d_jdk_38_method_1_code_8) rfl rfl k_) ?_
  refine Go.by (T' := T101) (g' := (mkF m 10 #[.val (.ref x), .val (.int (Int32.ofNat q))] [(.int (Int32.ofNat q)), (.ref x)])) (fun t_ k_ => XS.iloadN X101.here hx rfl (hb hby d_jdk_38_method_1_code_9) rfl k_) ?_
  obtain ⟨T102, h102, kc102, X102, e102, E102, A102, Ax102, Ov102, st102⟩ := newRE X101 hx hZ hown (hw _ (List.mem_of_getElem? (i := 32) rfl)) (hw _ (List.mem_of_getElem? (i := 33) rfl)) rfl (g := (mkF m 10 #[.val (.ref x), .val (.int (Int32.ofNat q))] [(.int (Int32.ofNat q)), (.ref x)])) rfl (hb hby d_jdk_38_method_1_code_10) rfl (own_nn (by omega)) (cap := 4) (by rw [own_nat (by omega)]; omega) (by decide) (by decide) (by decide) (ad := "[Ljava/lang/Object;") (by decide +kernel)
  obtain ⟨b102, g102⟩ : ∃ z, z = T101.heap.size := ⟨_, rfl⟩
  rw [← g102] at A102 Ax102 st102
  have Od103 : Old Z n0 T101.heap := (X00.keep K101 (allS P4 all0))
  have ge_b102 : n0 ≤ b102 := Nat.le_trans Od103.sz (Nat.le_of_eq g102.symm)
  have Kp104 : Keep h0 T101.heap [x] := ((Keep.refl h0 [x]).trans K101 (allS (Or.inl (List.mem_of_getElem? (i := 0) rfl)) all0))
  have sz_b102 : h0.size ≤ b102 := Nat.le_trans Kp104.1 (Nat.le_of_eq g102.symm)
  have ne_x_b102 : ¬ (x = b102) := Nat.ne_of_lt (Nat.lt_of_lt_of_le G101_0.lt (Nat.le_of_eq g102.symm))
  have V102 : Arv Z h102 b102 kc102 (.object "java/lang/Object") (Int32.ofNat q) [] .null := Arv.new A102 (own_nn (by omega))
  refine Go.by (T' := T102) (g' := (mkF m 13 #[.val (.ref x), .val (.int (Int32.ofNat q))] [(.ref b102), (.ref x)])) (fun t_ k_ => st102 _ k_) ?_
  have F105 : Fld Z h102 x "java/util/ArrayList" "elementData" "[Ljava/lang/Object;" .null := (G101_2.ext E102)
  have F106 : Exa Z h102 x "java/util/ArrayList" := (G101_0.ext E102)
  have Od107 : Old Z n0 h102 := (Od103.ext E102)
  have Kp108 : Keep h0 h102 [x] := (Kp104.ext E102)
  obtain ⟨T109, h109, X109, e109, W109, st109⟩ := putF X102 hx hZ hown (host := "") (Or.inl (hw _ (List.mem_of_getElem? (i := 34) rfl))) Via.refl e102 F105 F106 (Or.inl (hw _ (List.mem_of_getElem? (i := 35) rfl))) (hw _ (List.mem_of_getElem? (i := 12) rfl)) (ty := (.array (.object "java/lang/Object"))) (by decide) rfl rfl (g := (mkF m 13 #[.val (.ref x), .val (.int (Int32.ofNat q))] [(.ref b102), (.ref x)])) rfl rfl (hb hby d_jdk_38_method_1_code_13)
  have Fw109 : Fld Z h109 x "java/util/ArrayList" "elementData" "[Ljava/lang/Object;" (.ref b102) := F105.same W109
  have N109 := Fr.snoc X109 N101 P4
  refine Go.by (T' := T109) (g' := (mkF m 16 #[.val (.ref x), .val (.int (Int32.ofNat q))] [])) (fun t_ k_ => st109 _ k_) ?_
  refine Go.by (T' := T109) (g' := (mkF m 60 #[.val (.ref x), .val (.int (Int32.ofNat q))] [])) (fun t_ k_ => XS.goto X109.here hx rfl (pc0 := 16) (pc' := 60) rfl (hb hby d_jdk_38_method_1_code_16) (by decide) (by decide) k_) ?_
  have F110 : Exa Z h109 x "java/util/ArrayList" := (F106.wr W109)
  have F111 : Fld Z h109 x "java/util/AbstractList" "modCount" "I" (.int (0 : Int32)) := ((G101_1.ext E102).other W109 (Or.inr (slot_ne (Or.inl (hw _ (List.mem_of_getElem? (i := 31) rfl))) (Or.inl (hw _ (List.mem_of_getElem? (i := 35) rfl))) (by decide) (t := .int) (t' := (.array (.object "java/lang/Object"))) (by decide) (by decide))))
  have F112 : Fld Z h109 x "java/util/ArrayList" "size" "I" (.int (0 : Int32)) := ((G101_3.ext E102).other W109 (Or.inr (slot_ne (Or.inl (hw _ (List.mem_of_getElem? (i := 57) rfl))) (Or.inl (hw _ (List.mem_of_getElem? (i := 35) rfl))) (by decide) (t := .int) (t' := (.array (.object "java/lang/Object"))) (by decide) (by decide))))
  have F113 : Exa Z h109 b102 "[Ljava/lang/Object;" := (Ax102.wr W109)
  have F114 : Arv Z h109 b102 kc102 (.object "java/lang/Object") (Int32.ofNat q) [] .null := (V102.other W109 (Ne.symm ne_x_b102))
  have Kp115 : Keep h0 h109 [x] := (Kp108.wr W109 (Or.inl (List.mem_of_getElem? (i := 0) rfl)))
  refine Go.fin X109 (v := none) (fun _ => rfl) hlk (by decide) (by decide) ?_ (fun fs hr => X109.returnOut hx Bd.returns (hb hby d_jdk_38_method_1_code_60) hr)
  show Q_ali Z x q h0 n0 _ T109.heap _
  rw [e109]
  exact ⟨b102, kc102, rfl, N109, Kp115, sz_b102, F110, F111, Fw109, F112, F113, F114⟩
def Q_binit (Z : State) (b : Addr) (q : Nat) (u1 : Value) (u2 : Value) (u3 : Value) (h0 : Heap) (n0 : Nat) (v : Option Value) (h : Heap) (L : List Loc) : Prop := ∃ (l1 : Addr) (l2 : Addr) (e1 : Addr) (e2 : Addr) (k1 : ClassId) (k2 : ClassId), v = none ∧ Fr n0 L ∧ Keep h0 h [b] ∧ h0.size ≤ l1 ∧ h0.size ≤ l2 ∧ h0.size ≤ e1 ∧ h0.size ≤ e2 ∧ ¬ (l1 = l2) ∧ ¬ (l1 = e1) ∧ ¬ (l1 = e2) ∧ ¬ (l2 = e1) ∧ ¬ (l2 = e2) ∧ ¬ (e1 = e2) ∧ Exa Z h b "com/example/tidegate/tidegate/Batch" ∧ Fld Z h b "com/example/tidegate/tidegate/Batch" "presized" "I" (.int (Int32.ofNat q)) ∧ Fld Z h b "com/example/tidegate/tidegate/Batch" "items" "Ljava/util/List;" (.ref l1) ∧ Fld Z h b "com/example/tidegate/tidegate/Batch" "completions" "Ljava/util/List;" (.ref l2) ∧ Fld Z h b "com/example/tidegate/tidegate/Batch" "acceptedAt" "[J" .null ∧ Fld Z h b "com/example/tidegate/tidegate/Batch" "firstTimed" "I" (.int (0 : Int32)) ∧ Exa Z h l1 "java/util/ArrayList" ∧ Fld Z h l1 "java/util/AbstractList" "modCount" "I" (.int (0 : Int32)) ∧ Fld Z h l1 "java/util/ArrayList" "elementData" "[Ljava/lang/Object;" (.ref e1) ∧ Fld Z h l1 "java/util/ArrayList" "size" "I" (.int (Int32.ofNat 0)) ∧ Exa Z h e1 "[Ljava/lang/Object;" ∧ Arv Z h e1 k1 (.object "java/lang/Object") (Int32.ofNat q) [] .null ∧ Exa Z h l2 "java/util/ArrayList" ∧ Fld Z h l2 "java/util/AbstractList" "modCount" "I" (.int (0 : Int32)) ∧ Fld Z h l2 "java/util/ArrayList" "elementData" "[Ljava/lang/Object;" (.ref e2) ∧ Fld Z h l2 "java/util/ArrayList" "size" "I" (.int (Int32.ofNat 0)) ∧ Exa Z h e2 "[Ljava/lang/Object;" ∧ Arv Z h e2 k2 (.object "java/lang/Object") (Int32.ofNat q) [] .null
theorem pn_5 : plainName "com/example/tidegate/tidegate/Batch" = true := by first | (simp [plainName, overriddenIn]; done) | decide +kernel
theorem ef_binit (m : MethodId) (b : Addr) : entryFrame m #[(.ref b), (.int (Int32.ofNat q))] 2 = mkF m 0 #[.val (.ref b), .val (.int (Int32.ofNat q))] [] := by first | (simp [entryFrame, mkF, argsToLocals, Value.category]; done) | rfl
theorem d_prog_5_method_1_code_0 : decode prog_5_method_1_code 0 = .ok (.aload_n 0, 1) := by decide +kernel
theorem d_prog_5_method_1_code_1 : decode prog_5_method_1_code 1 = .ok (.invokespecial 1, 3) := by decide +kernel
theorem d_prog_5_method_1_code_4 : decode prog_5_method_1_code 4 = .ok (.aload_n 0, 1) := by decide +kernel
theorem d_prog_5_method_1_code_5 : decode prog_5_method_1_code 5 = .ok (.iload_n 1, 1) := by decide +kernel
theorem d_prog_5_method_1_code_6 : decode prog_5_method_1_code 6 = .ok (.putfield 7, 3) := by decide +kernel
theorem d_prog_5_method_1_code_9 : decode prog_5_method_1_code 9 = .ok (.aload_n 0, 1) := by decide +kernel
theorem d_prog_5_method_1_code_10 : decode prog_5_method_1_code 10 = .ok (.new 13, 3) := by decide +kernel
theorem d_prog_5_method_1_code_13 : decode prog_5_method_1_code 13 = .ok (.dup, 1) := by decide +kernel
theorem d_prog_5_method_1_code_14 : decode prog_5_method_1_code 14 = .ok (.iload_n 1, 1) := by decide +kernel
theorem d_prog_5_method_1_code_15 : decode prog_5_method_1_code 15 = .ok (.invokespecial 15, 3) := by decide +kernel
theorem pd_8 : parseMethodDescriptor "(I)V" = some ⟨[.int], none⟩ := by decide +kernel
theorem d_prog_5_method_1_code_18 : decode prog_5_method_1_code 18 = .ok (.putfield 18, 3) := by decide +kernel
theorem d_prog_5_method_1_code_21 : decode prog_5_method_1_code 21 = .ok (.aload_n 0, 1) := by decide +kernel
theorem d_prog_5_method_1_code_22 : decode prog_5_method_1_code 22 = .ok (.new 13, 3) := by decide +kernel
theorem d_prog_5_method_1_code_25 : decode prog_5_method_1_code 25 = .ok (.dup, 1) := by decide +kernel
theorem d_prog_5_method_1_code_26 : decode prog_5_method_1_code 26 = .ok (.iload_n 1, 1) := by decide +kernel
theorem d_prog_5_method_1_code_27 : decode prog_5_method_1_code 27 = .ok (.invokespecial 15, 3) := by decide +kernel
theorem d_prog_5_method_1_code_30 : decode prog_5_method_1_code 30 = .ok (.putfield 22, 3) := by decide +kernel
theorem d_prog_5_method_1_code_33 : decode prog_5_method_1_code 33 = .ok (.return_, 1) := by decide +kernel
set_option maxRecDepth 65536 in
set_option maxHeartbeats 40000000 in
theorem rm_binit (l : Launch) (Z : State) (a0 : Array Value) (hw : ∀ d ∈ tables_1, d.before a0 Z = true) (ws : List Jvm.Cond) (b : Addr) (q : Nat) (u1 : Value) (u2 : Value) (u3 : Value) (h0 : Heap) (n0 : Nat) (X00 : Old Z n0 h0) (P0 : Exa Z h0 b "com/example/tidegate/tidegate/Batch") (P1 : Fld Z h0 b "com/example/tidegate/tidegate/Batch" "presized" "I" (u1)) (P2 : Fld Z h0 b "com/example/tidegate/tidegate/Batch" "items" "Ljava/util/List;" (u2)) (P3 : Fld Z h0 b "com/example/tidegate/tidegate/Batch" "completions" "Ljava/util/List;" (u3)) (P4 : Fld Z h0 b "com/example/tidegate/tidegate/Batch" "acceptedAt" "[J" .null) (P5 : Fld Z h0 b "com/example/tidegate/tidegate/Batch" "firstTimed" "I" (.int (0 : Int32))) (P6 : n0 ≤ b) (hq1 : 1 ≤ q) (hq4 : q ≤ 4) :
    MetFree l (⟨"com/example/tidegate/tidegate/Batch", "<init>", "(I)V"⟩ : MethodName) (head1 (Jvm.Cond.code (⟨"com/example/tidegate/tidegate/Batch", "<init>", "(I)V"⟩ : MethodName) prog_5_method_1_code 2 none :: ws) ({ frames := 4, cells := 4, slots := 14, locals := 60 } : Room)) (fun aa_ U => aa_ = #[(.ref b), (.int (Int32.ofNat q))] ∧ Z.Warmed39 U.vm ∧ U.heap = h0) (fun _ _ _ _ _ => True) (fun _ U o U' => ∃ v L, o = .returned v ∧ Q_binit Z b q u1 u2 u3 h0 n0 v U'.heap L ∧ FrameEnd U o U' L ({ frames := 4, cells := 4, slots := 14, locals := 60 } : Room).cells ({ frames := 4, cells := 4, slots := 14, locals := 60 } : Room).slots) := by
  refine MetFree.of_bodySF (plainFor_of_name pn_5) hisR ?_
  intro p e s m args below meth c s₁ Bd hml0 hP hK
  obtain ⟨rfl, hZ, hh⟩ := hP
  have hx := Bd.exec
  have hby := Bd.bytes
  have hml : c.maxLocals = 2 := hml0
  have hown : s.vm.findClass "com/example/tidegate/tidegate/Batch" = some m.cls := findClass_of_methodNamed Bd.named
  have hnm := (name_of_methodNamed Bd.named Bd.method).1
  have hlk : meth.locks = false := BodyLoose.notSynchronized Bd
  have X0 : Stand p l e ({ frames := 4, cells := 4, slots := 14, locals := 60 } : Room) s m #[(.ref b), (.int (Int32.ofNat q))] below meth c s₁ [] 0 0 := Stand.of_body Bd
  have e0 : s₁.heap = h0 := by rw [← hh, Bd.state]; rfl
  have N0 := Fr.nil n0
  suffices G : Go p e below s (Q_binit Z b q u1 u2 u3 h0 n0) 4 14 s₁ (mkF m 0 #[.val (.ref b), .val (.int (Int32.ofNat q))] []) by
    obtain ⟨s2, o, h1, h2⟩ := G
    exact ⟨s2, o, castTop (ef_binit m b) h1, h2⟩
  refine Go.by (T' := s₁) (g' := (mkF m 1 #[.val (.ref b), .val (.int (Int32.ofNat q))] [(.ref b)])) (fun t_ k_ => XS.aloadN X0.here hx rfl (hb hby d_prog_5_method_1_code_0) rfl rfl k_) ?_
  obtain ⟨T101, X101, e101, st101⟩ := initO X0 hx hZ hown (hw _ (List.mem_of_getElem? (i := 6) rfl)) (hw _ (List.mem_of_getElem? (i := 7) rfl)) (hw _ (List.mem_of_getElem? (i := 8) rfl)) e0 (g := (mkF m 1 #[.val (.ref b), .val (.int (Int32.ofNat q))] [(.ref b)])) rfl (by rw [hml]; rfl) rfl (hb hby d_prog_5_method_1_code_1) (by decide) (W := 0) (by show 2 * 0 + _ ≤ _; exact Nat.le_of_eq rfl) (by decide)
  refine Go.by (T' := T101) (g' := (mkF m 4 #[.val (.ref b), .val (.int (Int32.ofNat q))] [])) (fun t_ k_ => st101 _ k_) ?_
  refine Go.by (T' := T101) (g' := (mkF m 5 #[.val (.ref b), .val (.int (Int32.ofNat q))] [(.ref b)])) (fun t_ k_ => XS.aloadN X101.here hx rfl (hb hby d_prog_5_method_1_code_4) rfl rfl k_) ?_
  refine Go.by (T' := T101) (g' := (mkF m 6 #[.val (.ref b), .val (.int (Int32.ofNat q))] [(.int (Int32.ofNat q)), (.ref b)])) (fun t_ k_ => XS.iloadN X101.here hx rfl (hb hby d_prog_5_method_1_code_5) rfl k_) ?_
  obtain ⟨T102, h102, X102, e102, W102, st102⟩ := putF X101 hx hZ hown (host := "") (Or.inl (hw _ (List.mem_of_getElem? (i := 9) rfl))) Via.refl e101 P1 P0 (Or.inr ⟨(hw _ (List.mem_of_getElem? (i := 10) rfl)), rfl, hnm⟩) (hw _ (List.mem_of_getElem? (i := 1) rfl)) (ty := .int) (by decide) rfl rfl (g := (mkF m 6 #[.val (.ref b), .val (.int (Int32.ofNat q))] [(.int (Int32.ofNat q)), (.ref b)])) rfl rfl (hb hby d_prog_5_method_1_code_6)
  have Fw102 : Fld Z h102 b "com/example/tidegate/tidegate/Batch" "presized" "I" (.int (Int32.ofNat q)) := P1.same W102
  have N102 := Fr.snoc X102 N0 P6
  refine Go.by (T' := T102) (g' := (mkF m 9 #[.val (.ref b), .val (.int (Int32.ofNat q))] [])) (fun t_ k_ => st102 _ k_) ?_
  refine Go.by (T' := T102) (g' := (mkF m 10 #[.val (.ref b), .val (.int (Int32.ofNat q))] [(.ref b)])) (fun t_ k_ => XS.aloadN X102.here hx rfl (hb hby d_prog_5_method_1_code_9) rfl rfl k_) ?_
  obtain ⟨T103, h103, X103, e103, E103, A103, Df103, -, st103⟩ := newO X102 hx hZ hown (hw _ (List.mem_of_getElem? (i := 11) rfl)) (hw _ (List.mem_of_getElem? (i := 12) rfl)) (hw _ (List.mem_of_getElem? (i := 13) rfl)) e102 (g := (mkF m 10 #[.val (.ref b), .val (.int (Int32.ofNat q))] [(.ref b)])) rfl (hb hby d_prog_5_method_1_code_10) (by decide) (by decide)
  obtain ⟨b103, g103⟩ : ∃ z, z = h102.size := ⟨_, rfl⟩
  rw [← g103] at A103 Df103 st103
  have Od104 : Old Z n0 h102 := (X00.wr W102 P6)
  have ge_b103 : n0 ≤ b103 := Nat.le_trans Od104.sz (Nat.le_of_eq g103.symm)
  have Kp105 : Keep h0 h102 [b] := ((Keep.refl h0 [b]).wr W102 (Or.inl (List.mem_of_getElem? (i := 0) rfl)))
  have sz_b103 : h0.size ≤ b103 := Nat.le_trans Kp105.1 (Nat.le_of_eq g103.symm)
  have F106 : Exa Z h102 b "com/example/tidegate/tidegate/Batch" := (P0.wr W102)
  have ne_b_b103 : ¬ (b = b103) := Nat.ne_of_lt (Nat.lt_of_lt_of_le F106.lt (Nat.le_of_eq g103.symm))
  have F107 : Fld Z h103 b103 "java/util/AbstractList" "modCount" "I" (.int (0 : Int32)) := Df103 (Or.inl (hw _ (List.mem_of_getElem? (i := 31) rfl))) (ty := .int) (by decide)
  have F108 : Fld Z h103 b103 "java/util/ArrayList" "elementData" "[Ljava/lang/Object;" .null := Df103 (Or.inl (hw _ (List.mem_of_getElem? (i := 35) rfl))) (ty := (.array (.object "java/lang/Object"))) (by decide)
  have F109 : Fld Z h103 b103 "java/util/ArrayList" "size" "I" (.int (0 : Int32)) := Df103 (Or.inl (hw _ (List.mem_of_getElem? (i := 57) rfl))) (ty := .int) (by decide)
  refine Go.by (T' := T103) (g' := (mkF m 13 #[.val (.ref b), .val (.int (Int32.ofNat q))] [(.ref b103), (.ref b)])) (fun t_ k_ => st103 _ k_) ?_
  refine Go.by (T' := T103) (g' := (mkF m 14 #[.val (.ref b), .val (.int (Int32.ofNat q))] [(.ref b103), (.ref b103), (.ref b)])) (fun t_ k_ => XS.dup X103.here hx rfl (hb hby d_prog_5_method_1_code_13) rfl rfl k_) ?_
  refine Go.by (T' := T103) (g' := (mkF m 15 #[.val (.ref b), .val (.int (Int32.ofNat q))] [(.int (Int32.ofNat q)), (.ref b103), (.ref b103), (.ref b)])) (fun t_ k_ => XS.iloadN X103.here hx rfl (hb hby d_prog_5_method_1_code_14) rfl k_) ?_
  have Od110 : Old Z n0 h103 := (Od104.ext E103)
  have Kp111 : Keep h0 h103 [b] := (Kp105.ext E103)
  obtain ⟨_, _, ⟨T112, L112, k112, n112⟩, -, X112, ⟨Lc112, hQ112, l112, y112, z112⟩, st112⟩ := X103.specialBack hx (y := (⟨"java/util/ArrayList", "<init>", "(I)V"⟩ : MethodName)) rfl hown (mvT hZ (hw _ (List.mem_of_getElem? (i := 14) rfl))) (mvT hZ (hw _ (List.mem_of_getElem? (i := 15) rfl))) (mvT hZ (hw _ (List.mem_of_getElem? (i := 16) rfl))) (by decide) (backOf (W := 2) (rm_ali l Z a0 hw [] b103 q h103 n0 Od110 A103 F107 F108 F109 ge_b103 hq1 hq4) hZ (hw _ (List.mem_of_getElem? (i := 16) rfl)) (hw _ (List.mem_of_getElem? (i := 13) rfl)) (by decide) (by decide)) (g := (mkF m 15 #[.val (.ref b), .val (.int (Int32.ofNat q))] [(.int (Int32.ofNat q)), (.ref b103), (.ref b103), (.ref b)])) rfl (by rw [hml]; rfl) (Steps.refl _) (a := b103) (argsL := [(.int (Int32.ofNat q))]) (rest := [(.ref b103), (.ref b)]) (lenOf pd_8 rfl) rfl (by show 2 * 0 + _ ≤ _; exact Nat.le_of_eq rfl) (hb hby d_prog_5_method_1_code_15) (fun _ _ => ⟨rfl, e103, (by decide : 1 + 1 ≤ _), (by decide : 3 + 4 ≤ _)⟩)
  dsimp only [Pt.U, Pt.locs, Pt.cells, Pt.slots] at X112 l112 y112 z112 st112 hQ112
  subst l112 y112 z112
  obtain ⟨t_112, k2_112, rfl, N112q, K112, G112_0, G112_1, G112_2, G112_3, G112_4, G112_5, G112_6⟩ := hQ112
  have N112 := Fr.app N102 N112q
  have ge_t_112 : n0 ≤ t_112 := Nat.le_trans Od110.sz G112_0
  have sz_t_112 : h0.size ≤ t_112 := Nat.le_trans Kp111.1 G112_0
  have F113 : Exa Z h103 b "com/example/tidegate/tidegate/Batch" := (F106.ext E103)
  have ne_b_t_112 : ¬ (b = t_112) := Nat.ne_of_lt (Nat.lt_of_lt_of_le F113.lt G112_0)
  have ne_b103_t_112 : ¬ (b103 = t_112) := Nat.ne_of_lt (Nat.lt_of_lt_of_le A103.lt G112_0)
  refine Go.by (T' := T112) (g' := (mkF m 18 #[.val (.ref b), .val (.int (Int32.ofNat q))] [(.ref b103), (.ref b)])) (fun t_ k_ => st112.trans k_) ?_
  have F114 : Fld Z T112.heap b "com/example/tidegate/tidegate/Batch" "items" "Ljava/util/List;" (u2) := (((P2.other W102 (Or.inr (slot_ne (Or.inr (hw _ (List.mem_of_getElem? (i := 37) rfl))) (Or.inr (hw _ (List.mem_of_getElem? (i := 10) rfl))) (by decide) (t := (.object "java/util/List")) (t' := .int) (by decide) (by decide)))).ext E103).keep K112 (ninS ne_b_b103 nin0))
  have F115 : Exa Z T112.heap b "com/example/tidegate/tidegate/Batch" := (F113.keep K112)
  have Od116 : Old Z n0 T112.heap := (Od110.keep K112 (allS ge_b103 all0))
  have Kp117 : Keep h0 T112.heap [b] := (Kp111.trans K112 (allS (Or.inr sz_b103) all0))
  obtain ⟨T118, h118, X118, e118, W118, st118⟩ := putF X112 hx hZ hown (host := "") (Or.inl (hw _ (List.mem_of_getElem? (i := 36) rfl))) Via.refl rfl F114 F115 (Or.inr ⟨(hw _ (List.mem_of_getElem? (i := 37) rfl)), rfl, hnm⟩) (hw _ (List.mem_of_getElem? (i := 1) rfl)) (ty := (.object "java/util/List")) (by decide) rfl rfl (g := (mkF m 18 #[.val (.ref b), .val (.int (Int32.ofNat q))] [(.ref b103), (.ref b)])) rfl rfl (hb hby d_prog_5_method_1_code_18)
  have Fw118 : Fld Z h118 b "com/example/tidegate/tidegate/Batch" "items" "Ljava/util/List;" (.ref b103) := F114.same W118
  have N118 := Fr.snoc X118 N112 P6
  refine Go.by (T' := T118) (g' := (mkF m 21 #[.val (.ref b), .val (.int (Int32.ofNat q))] [])) (fun t_ k_ => st118 _ k_) ?_
  refine Go.by (T' := T118) (g' := (mkF m 22 #[.val (.ref b), .val (.int (Int32.ofNat q))] [(.ref b)])) (fun t_ k_ => XS.aloadN X118.here hx rfl (hb hby d_prog_5_method_1_code_21) rfl rfl k_) ?_
  obtain ⟨T119, h119, X119, e119, E119, A119, Df119, -, st119⟩ := newO X118 hx hZ hown (hw _ (List.mem_of_getElem? (i := 11) rfl)) (hw _ (List.mem_of_getElem? (i := 12) rfl)) (hw _ (List.mem_of_getElem? (i := 13) rfl)) e118 (g := (mkF m 22 #[.val (.ref b), .val (.int (Int32.ofNat q))] [(.ref b)])) rfl (hb hby d_prog_5_method_1_code_22) (by decide) (by decide)
  obtain ⟨b119, g119⟩ : ∃ z, z = h118.size := ⟨_, rfl⟩
  rw [← g119] at A119 Df119 st119
  have Od120 : Old Z n0 h118 := (Od116.wr W118 P6)
  have ge_b119 : n0 ≤ b119 := Nat.le_trans Od120.sz (Nat.le_of_eq g119.symm)
  have Kp121 : Keep h0 h118 [b] := (Kp117.wr W118 (Or.inl (List.mem_of_getElem? (i := 0) rfl)))
  have sz_b119 : h0.size ≤ b119 := Nat.le_trans Kp121.1 (Nat.le_of_eq g119.symm)
  have F122 : Exa Z h118 b "com/example/tidegate/tidegate/Batch" := (F115.wr W118)
  have ne_b_b119 : ¬ (b = b119) := Nat.ne_of_lt (Nat.lt_of_lt_of_le F122.lt (Nat.le_of_eq g119.symm))
  have F123 : Exa Z h118 b103 "java/util/ArrayList" := (G112_1.wr W118)
  have ne_b103_b119 : ¬ (b103 = b119) := Nat.ne_of_lt (Nat.lt_of_lt_of_le F123.lt (Nat.le_of_eq g119.symm))
  have F124 : Exa Z h118 t_112 "[Ljava/lang/Object;" := (G112_5.wr W118)
  have ne_t_112_b119 : ¬ (t_112 = b119) := Nat.ne_of_lt (Nat.lt_of_lt_of_le F124.lt (Nat.le_of_eq g119.symm))
  have F125 : Fld Z h119 b119 "java/util/AbstractList" "modCount" "I" (.int (0 : Int32)) := Df119 (Or.inl (hw _ (List.mem_of_getElem? (i := 31) rfl))) (ty := .int) (by decide)
  have F126 : Fld Z h119 b119 "java/util/ArrayList" "elementData" "[Ljava/lang/Object;" .null := Df119 (Or.inl (hw _ (List.mem_of_getElem? (i := 35) rfl))) (ty := (.array (.object "java/lang/Object"))) (by decide)
  have F127 : Fld Z h119 b119 "java/util/ArrayList" "size" "I" (.int (0 : Int32)) := Df119 (Or.inl (hw _ (List.mem_of_getElem? (i := 57) rfl))) (ty := .int) (by decide)
  refine Go.by (T' := T119) (g' := (mkF m 25 #[.val (.ref b), .val (.int (Int32.ofNat q))] [(.ref b119), (.ref b)])) (fun t_ k_ => st119 _ k_) ?_
  refine Go.by (T' := T119) (g' := (mkF m 26 #[.val (.ref b), .val (.int (Int32.ofNat q))] [(.ref b119), (.ref b119), (.ref b)])) (fun t_ k_ => XS.dup X119.here hx rfl (hb hby d_prog_5_method_1_code_25) rfl rfl k_) ?_
  refine Go.by (T' := T119) (g' := (mkF m 27 #[.val (.ref b), .val (.int (Int32.ofNat q))] [(.int (Int32.ofNat q)), (.ref b119), (.ref b119), (.ref b)])) (fun t_ k_ => XS.iloadN X119.here hx rfl (hb hby d_prog_5_method_1_code_26) rfl k_) ?_
  have Od128 : Old Z n0 h119 := (Od120.ext E119)
  have Kp129 : Keep h0 h119 [b] := (Kp121.ext E119)
  obtain ⟨_, _, ⟨T130, L130, k130, n130⟩, -, X130, ⟨Lc130, hQ130, l130, y130, z130⟩, st130⟩ := X119.specialBack hx (y := (⟨"java/util/ArrayList", "<init>", "(I)V"⟩ : MethodName)) rfl hown (mvT hZ (hw _ (List.mem_of_getElem? (i := 14) rfl))) (mvT hZ (hw _ (List.mem_of_getElem? (i := 15) rfl))) (mvT hZ (hw _ (List.mem_of_getElem? (i := 16) rfl))) (by decide) (backOf (W := 2) (rm_ali l Z a0 hw [] b119 q h119 n0 Od128 A119 F125 F126 F127 ge_b119 hq1 hq4) hZ (hw _ (List.mem_of_getElem? (i := 16) rfl)) (hw _ (List.mem_of_getElem? (i := 13) rfl)) (by decide) (by decide)) (g := (mkF m 27 #[.val (.ref b), .val (.int (Int32.ofNat q))] [(.int (Int32.ofNat q)), (.ref b119), (.ref b119), (.ref b)])) rfl (by rw [hml]; rfl) (Steps.refl _) (a := b119) (argsL := [(.int (Int32.ofNat q))]) (rest := [(.ref b119), (.ref b)]) (lenOf pd_8 rfl) rfl (by show 2 * 0 + _ ≤ _; exact Nat.le_of_eq rfl) (hb hby d_prog_5_method_1_code_27) (fun _ _ => ⟨rfl, e119, (by decide : 3 + 1 ≤ _), (by decide : 10 + 4 ≤ _)⟩)
  dsimp only [Pt.U, Pt.locs, Pt.cells, Pt.slots] at X130 l130 y130 z130 st130 hQ130
  subst l130 y130 z130
  obtain ⟨t_130, k2_130, rfl, N130q, K130, G130_0, G130_1, G130_2, G130_3, G130_4, G130_5, G130_6⟩ := hQ130
  have N130 := Fr.app N118 N130q
  have ge_t_130 : n0 ≤ t_130 := Nat.le_trans Od128.sz G130_0
  have sz_t_130 : h0.size ≤ t_130 := Nat.le_trans Kp129.1 G130_0
  have F131 : Exa Z h119 b "com/example/tidegate/tidegate/Batch" := (F122.ext E119)
  have ne_b_t_130 : ¬ (b = t_130) := Nat.ne_of_lt (Nat.lt_of_lt_of_le F131.lt G130_0)
  have F132 : Exa Z h119 b103 "java/util/ArrayList" := (F123.ext E119)
  have ne_b103_t_130 : ¬ (b103 = t_130) := Nat.ne_of_lt (Nat.lt_of_lt_of_le F132.lt G130_0)
  have F133 : Exa Z h119 t_112 "[Ljava/lang/Object;" := (F124.ext E119)
  have ne_t_112_t_130 : ¬ (t_112 = t_130) := Nat.ne_of_lt (Nat.lt_of_lt_of_le F133.lt G130_0)
  have ne_b119_t_130 : ¬ (b119 = t_130) := Nat.ne_of_lt (Nat.lt_of_lt_of_le A119.lt G130_0)
  refine Go.by (T' := T130) (g' := (mkF m 30 #[.val (.ref b), .val (.int (Int32.ofNat q))] [(.ref b119), (.ref b)])) (fun t_ k_ => st130.trans k_) ?_
  have F134 : Fld Z T130.heap b "com/example/tidegate/tidegate/Batch" "completions" "Ljava/util/List;" (u3) := ((((((P3.other W102 (Or.inr (slot_ne (Or.inr (hw _ (List.mem_of_getElem? (i := 39) rfl))) (Or.inr (hw _ (List.mem_of_getElem? (i := 10) rfl))) (by decide) (t := (.object "java/util/List")) (t' := .int) (by decide) (by decide)))).ext E103).keep K112 (ninS ne_b_b103 nin0)).other W118 (Or.inr (slot_ne (Or.inr (hw _ (List.mem_of_getElem? (i := 39) rfl))) (Or.inr (hw _ (List.mem_of_getElem? (i := 37) rfl))) (by decide) (t := (.object "java/util/List")) (t' := (.object "java/util/List")) (by decide) (by decide)))).ext E119).keep K130 (ninS ne_b_b119 nin0))
  have F135 : Exa Z T130.heap b "com/example/tidegate/tidegate/Batch" := (F131.keep K130)
  have Od136 : Old Z n0 T130.heap := (Od128.keep K130 (allS ge_b119 all0))
  have Kp137 : Keep h0 T130.heap [b] := (Kp129.trans K130 (allS (Or.inr sz_b119) all0))
  obtain ⟨T138, h138, X138, e138, W138, st138⟩ := putF X130 hx hZ hown (host := "") (Or.inl (hw _ (List.mem_of_getElem? (i := 38) rfl))) Via.refl rfl F134 F135 (Or.inr ⟨(hw _ (List.mem_of_getElem? (i := 39) rfl)), rfl, hnm⟩) (hw _ (List.mem_of_getElem? (i := 1) rfl)) (ty := (.object "java/util/List")) (by decide) rfl rfl (g := (mkF m 30 #[.val (.ref b), .val (.int (Int32.ofNat q))] [(.ref b119), (.ref b)])) rfl rfl (hb hby d_prog_5_method_1_code_30)
  have Fw138 : Fld Z h138 b "com/example/tidegate/tidegate/Batch" "completions" "Ljava/util/List;" (.ref b119) := F134.same W138
  have N138 := Fr.snoc X138 N130 P6
  refine Go.by (T' := T138) (g' := (mkF m 33 #[.val (.ref b), .val (.int (Int32.ofNat q))] [])) (fun t_ k_ => st138 _ k_) ?_
  have F139 : Exa Z h138 b "com/example/tidegate/tidegate/Batch" := (F135.wr W138)
  have F140 : Fld Z h138 b "com/example/tidegate/tidegate/Batch" "presized" "I" (.int (Int32.ofNat q)) := ((((((Fw102.ext E103).keep K112 (ninS ne_b_b103 nin0)).other W118 (Or.inr (slot_ne (Or.inr (hw _ (List.mem_of_getElem? (i := 10) rfl))) (Or.inr (hw _ (List.mem_of_getElem? (i := 37) rfl))) (by decide) (t := .int) (t' := (.object "java/util/List")) (by decide) (by decide)))).ext E119).keep K130 (ninS ne_b_b119 nin0)).other W138 (Or.inr (slot_ne (Or.inr (hw _ (List.mem_of_getElem? (i := 10) rfl))) (Or.inr (hw _ (List.mem_of_getElem? (i := 39) rfl))) (by decide) (t := .int) (t' := (.object "java/util/List")) (by decide) (by decide))))
  have F141 : Fld Z h138 b "com/example/tidegate/tidegate/Batch" "items" "Ljava/util/List;" (.ref b103) := (((Fw118.ext E119).keep K130 (ninS ne_b_b119 nin0)).other W138 (Or.inr (slot_ne (Or.inr (hw _ (List.mem_of_getElem? (i := 37) rfl))) (Or.inr (hw _ (List.mem_of_getElem? (i := 39) rfl))) (by decide) (t := (.object "java/util/List")) (t' := (.object "java/util/List")) (by decide) (by decide))))
  have F142 : Fld Z h138 b "com/example/tidegate/tidegate/Batch" "acceptedAt" "[J" .null := (((((((P4.other W102 (Or.inr (slot_ne (Or.inl (hw _ (List.mem_of_getElem? (i := 112) rfl))) (Or.inr (hw _ (List.mem_of_getElem? (i := 10) rfl))) (by decide) (t := (.array .long)) (t' := .int) (by decide) (by decide)))).ext E103).keep K112 (ninS ne_b_b103 nin0)).other W118 (Or.inr (slot_ne (Or.inl (hw _ (List.mem_of_getElem? (i := 112) rfl))) (Or.inr (hw _ (List.mem_of_getElem? (i := 37) rfl))) (by decide) (t := (.array .long)) (t' := (.object "java/util/List")) (by decide) (by decide)))).ext E119).keep K130 (ninS ne_b_b119 nin0)).other W138 (Or.inr (slot_ne (Or.inl (hw _ (List.mem_of_getElem? (i := 112) rfl))) (Or.inr (hw _ (List.mem_of_getElem? (i := 39) rfl))) (by decide) (t := (.array .long)) (t' := (.object "java/util/List")) (by decide) (by decide))))
  have F143 : Fld Z h138 b "com/example/tidegate/tidegate/Batch" "firstTimed" "I" (.int (0 : Int32)) := (((((((P5.other W102 (Or.inr (slot_ne (Or.inl (hw _ (List.mem_of_getElem? (i := 133) rfl))) (Or.inr (hw _ (List.mem_of_getElem? (i := 10) rfl))) (by decide) (t := .int) (t' := .int) (by decide) (by decide)))).ext E103).keep K112 (ninS ne_b_b103 nin0)).other W118 (Or.inr (slot_ne (Or.inl (hw _ (List.mem_of_getElem? (i := 133) rfl))) (Or.inr (hw _ (List.mem_of_getElem? (i := 37) rfl))) (by decide) (t := .int) (t' := (.object "java/util/List")) (by decide) (by decide)))).ext E119).keep K130 (ninS ne_b_b119 nin0)).other W138 (Or.inr (slot_ne (Or.inl (hw _ (List.mem_of_getElem? (i := 133) rfl))) (Or.inr (hw _ (List.mem_of_getElem? (i := 39) rfl))) (by decide) (t := .int) (t' := (.object "java/util/List")) (by decide) (by decide))))
  have F144 : Exa Z h138 b103 "java/util/ArrayList" := ((F132.keep K130).wr W138)
  have F145 : Fld Z h138 b103 "java/util/AbstractList" "modCount" "I" (.int (0 : Int32)) := ((((G112_2.other W118 (Or.inl (Ne.symm ne_b_b103))).ext E119).keep K130 (ninS ne_b103_b119 nin0)).other W138 (Or.inl (Ne.symm ne_b_b103)))
  have F146 : Fld Z h138 b103 "java/util/ArrayList" "elementData" "[Ljava/lang/Object;" (.ref t_112) := ((((G112_3.other W118 (Or.inl (Ne.symm ne_b_b103))).ext E119).keep K130 (ninS ne_b103_b119 nin0)).other W138 (Or.inl (Ne.symm ne_b_b103)))
  have F147 : Fld Z h138 b103 "java/util/ArrayList" "size" "I" (.int (Int32.ofNat 0)) := ((((G112_4.other W118 (Or.inl (Ne.symm ne_b_b103))).ext E119).keep K130 (ninS ne_b103_b119 nin0)).other W138 (Or.inl (Ne.symm ne_b_b103)))
  have F148 : Exa Z h138 t_112 "[Ljava/lang/Object;" := ((F133.keep K130).wr W138)
  have F149 : Arv Z h138 t_112 k2_112 (.object "java/lang/Object") (Int32.ofNat q) [] .null := ((((G112_6.other W118 (Ne.symm ne_b_t_112)).ext E119).keep K130 (ninS ne_t_112_b119 nin0)).other W138 (Ne.symm ne_b_t_112))
  have F150 : Exa Z h138 b119 "java/util/ArrayList" := (G130_1.wr W138)
  have F151 : Fld Z h138 b119 "java/util/AbstractList" "modCount" "I" (.int (0 : Int32)) := (G130_2.other W138 (Or.inl (Ne.symm ne_b_b119)))
  have F152 : Fld Z h138 b119 "java/util/ArrayList" "elementData" "[Ljava/lang/Object;" (.ref t_130) := (G130_3.other W138 (Or.inl (Ne.symm ne_b_b119)))
  have F153 : Fld Z h138 b119 "java/util/ArrayList" "size" "I" (.int (Int32.ofNat 0)) := (G130_4.other W138 (Or.inl (Ne.symm ne_b_b119)))
  have F154 : Exa Z h138 t_130 "[Ljava/lang/Object;" := (G130_5.wr W138)
  have F155 : Arv Z h138 t_130 k2_130 (.object "java/lang/Object") (Int32.ofNat q) [] .null := (G130_6.other W138 (Ne.symm ne_b_t_130))
  have Kp156 : Keep h0 h138 [b] := (Kp137.wr W138 (Or.inl (List.mem_of_getElem? (i := 0) rfl)))
  refine Go.fin X138 (v := none) (fun _ => rfl) hlk (by decide) (by decide) ?_ (fun fs hr => X138.returnOut hx Bd.returns (hb hby d_prog_5_method_1_code_33) hr)
  show Q_binit Z b q u1 u2 u3 h0 n0 _ T138.heap _
  rw [e138]
  exact ⟨b103, b119, t_112, t_130, k2_112, k2_130, rfl, N138, Kp156, sz_b103, sz_b119, sz_t_112, sz_t_130, ne_b103_b119, ne_b103_t_112, ne_b103_t_130, (Ne.symm ne_t_112_b119), ne_b119_t_130, ne_t_112_t_130, F139, F140, F141, Fw138, F142, F143, F144, F145, F146, F147, F148, F149, F150, F151, F152, F153, F154, F155⟩
def Q_badd (Z : State) (b : Addr) (l1 : Addr) (l2 : Addr) (e1 : Addr) (e2 : Addr) (n : Nat) (c1 : Nat) (c2 : Nat) (m1 : Int32) (m2 : Int32) (k1 : ClassId) (k2 : ClassId) (mr : Addr) (h0 : Heap) (n0 : Nat) (v : Option Value) (h : Heap) (L : List Loc) : Prop := ∃ (f1 : Addr) (f2 : Addr) (d1 : Nat) (d2 : Nat) (r1 : Int32) (r2 : Int32) (j1 : ClassId) (j2 : ClassId), v = none ∧ Fr n0 L ∧ Keep h0 h [l1, e1, l2, e2] ∧ (f1 = e1 ∨ h0.size ≤ f1) ∧ (f2 = e2 ∨ h0.size ≤ f2) ∧ ¬ (l1 = f1) ∧ ¬ (l2 = f2) ∧ ¬ (l1 = f2) ∧ ¬ (l2 = f1) ∧ ¬ (f1 = f2) ∧ (n + 1 ≤ d1 ∧ d1 ≤ 7 ∧ n + 1 ≤ d2 ∧ d2 ≤ 7) ∧ Exa Z h l1 "java/util/ArrayList" ∧ Fld Z h l1 "java/util/AbstractList" "modCount" "I" (.int r1) ∧ Fld Z h l1 "java/util/ArrayList" "elementData" "[Ljava/lang/Object;" (.ref f1) ∧ Fld Z h l1 "java/util/ArrayList" "size" "I" (.int (Int32.ofNat (n + 1))) ∧ Exa Z h f1 "[Ljava/lang/Object;" ∧ Arv Z h f1 j1 (.object "java/lang/Object") (Int32.ofNat d1) [] .null ∧ Exa Z h l2 "java/util/ArrayList" ∧ Fld Z h l2 "java/util/AbstractList" "modCount" "I" (.int r2) ∧ Fld Z h l2 "java/util/ArrayList" "elementData" "[Ljava/lang/Object;" (.ref f2) ∧ Fld Z h l2 "java/util/ArrayList" "size" "I" (.int (Int32.ofNat (n + 1))) ∧ Exa Z h f2 "[Ljava/lang/Object;" ∧ Arv Z h f2 j2 (.object "java/lang/Object") (Int32.ofNat d2) [] .null
theorem ef_badd (m : MethodId) (b : Addr) : entryFrame m #[(.ref b), .null, .null] 3 = mkF m 0 #[.val (.ref b), .val .null, .val .null] [] := by first | (simp [entryFrame, mkF, argsToLocals, Value.category]; done) | rfl
theorem d_prog_5_method_2_code_0 : decode prog_5_method_2_code 0 = .ok (.aload_n 0, 1) := by decide +kernel
theorem d_prog_5_method_2_code_1 : decode prog_5_method_2_code 1 = .ok (.getfield 18, 3) := by decide +kernel
theorem d_prog_5_method_2_code_4 : decode prog_5_method_2_code 4 = .ok (.aload_n 1, 1) := by decide +kernel
theorem d_prog_5_method_2_code_5 : decode prog_5_method_2_code 5 = .ok (.invokeinterface 25 2, 5) := by decide +kernel
theorem pd_9 : parseMethodDescriptor "(Ljava/lang/Object;)Z" = some ⟨[(.object "java/lang/Object")], some .boolean⟩ := by decide +kernel
theorem d_prog_5_method_2_code_10 : decode prog_5_method_2_code 10 = .ok (.pop, 1) := by decide +kernel
theorem d_prog_5_method_2_code_11 : decode prog_5_method_2_code 11 = .ok (.aload_n 0, 1) := by decide +kernel
theorem d_prog_5_method_2_code_12 : decode prog_5_method_2_code 12 = .ok (.getfield 22, 3) := by decide +kernel
theorem d_prog_5_method_2_code_15 : decode prog_5_method_2_code 15 = .ok (.aload_n 2, 1) := by decide +kernel
theorem d_prog_5_method_2_code_16 : decode prog_5_method_2_code 16 = .ok (.invokeinterface 25 2, 5) := by decide +kernel
theorem d_prog_5_method_2_code_21 : decode prog_5_method_2_code 21 = .ok (.pop, 1) := by decide +kernel
theorem d_prog_5_method_2_code_22 : decode prog_5_method_2_code 22 = .ok (.return_, 1) := by decide +kernel
set_option maxRecDepth 65536 in
set_option maxHeartbeats 40000000 in
theorem rm_badd (l : Launch) (Z : State) (a0 : Array Value) (hw : ∀ d ∈ tables_1, d.before a0 Z = true) (ws : List Jvm.Cond) (b : Addr) (l1 : Addr) (l2 : Addr) (e1 : Addr) (e2 : Addr) (n : Nat) (c1 : Nat) (c2 : Nat) (m1 : Int32) (m2 : Int32) (k1 : ClassId) (k2 : ClassId) (mr : Addr) (h0 : Heap) (n0 : Nat) (X00 : Old Z n0 h0) (P0 : Exa Z h0 b "com/example/tidegate/tidegate/Batch") (P1 : Fld Z h0 b "com/example/tidegate/tidegate/Batch" "items" "Ljava/util/List;" (.ref l1)) (P2 : Fld Z h0 b "com/example/tidegate/tidegate/Batch" "completions" "Ljava/util/List;" (.ref l2)) (P3 : Exa Z h0 l1 "java/util/ArrayList") (P4 : Fld Z h0 l1 "java/util/AbstractList" "modCount" "I" (.int m1)) (P5 : Fld Z h0 l1 "java/util/ArrayList" "elementData" "[Ljava/lang/Object;" (.ref e1)) (P6 : Fld Z h0 l1 "java/util/ArrayList" "size" "I" (.int (Int32.ofNat n))) (P7 : Exa Z h0 e1 "[Ljava/lang/Object;") (P8 : Arv Z h0 e1 k1 (.object "java/lang/Object") (Int32.ofNat c1) [] .null) (P9 : Exa Z h0 l2 "java/util/ArrayList") (P10 : Fld Z h0 l2 "java/util/AbstractList" "modCount" "I" (.int m2)) (P11 : Fld Z h0 l2 "java/util/ArrayList" "elementData" "[Ljava/lang/Object;" (.ref e2)) (P12 : Fld Z h0 l2 "java/util/ArrayList" "size" "I" (.int (Int32.ofNat n))) (P13 : Exa Z h0 e2 "[Ljava/lang/Object;") (P14 : Arv Z h0 e2 k2 (.object "java/lang/Object") (Int32.ofNat c2) [] .null) (P15 : n0 ≤ l1) (P16 : n0 ≤ l2) (P17 : n0 ≤ e1) (P18 : n0 ≤ e2) (P19 : ¬ (b = l1)) (P20 : ¬ (b = l2)) (P21 : ¬ (b = e1)) (P22 : ¬ (b = e2)) (P23 : ¬ (l1 = l2)) (P24 : ¬ (l1 = e1)) (P25 : ¬ (l1 = e2)) (P26 : ¬ (l2 = e1)) (P27 : ¬ (l2 = e2)) (P28 : ¬ (e1 = e2)) (hn5 : n ≤ 5) (hn1 : n ≤ c1) (hc11 : 1 ≤ c1) (hc17 : c1 ≤ 7) (hn2 : n ≤ c2) (hc21 : 1 ≤ c2) (hc27 : c2 ≤ 7) (hM : own_Mir Z "[Ljava/lang/Object;" mr) :
    MetFree l (⟨"com/example/tidegate/tidegate/Batch", "add", "(Ljava/lang/Object;Ljava/util/concurrent/CompletableFuture;)V"⟩ : MethodName) (head1 (Jvm.Cond.code (⟨"com/example/tidegate/tidegate/Batch", "add", "(Ljava/lang/Object;Ljava/util/concurrent/CompletableFuture;)V"⟩ : MethodName) prog_5_method_2_code 3 none :: ws) ({ frames := 7, cells := 2, slots := 14, locals := 150 } : Room)) (fun aa_ U => aa_ = #[(.ref b), .null, .null] ∧ Z.Warmed39 U.vm ∧ U.heap = h0) (fun _ _ _ _ _ => True) (fun _ U o U' => ∃ v L, o = .returned v ∧ Q_badd Z b l1 l2 e1 e2 n c1 c2 m1 m2 k1 k2 mr h0 n0 v U'.heap L ∧ FrameEnd U o U' L ({ frames := 7, cells := 2, slots := 14, locals := 150 } : Room).cells ({ frames := 7, cells := 2, slots := 14, locals := 150 } : Room).slots) := by
  refine MetFree.of_bodySF (plainFor_of_name pn_5) hisR ?_
  intro p e s m args below meth c s₁ Bd hml0 hP hK
  obtain ⟨rfl, hZ, hh⟩ := hP
  have hx := Bd.exec
  have hby := Bd.bytes
  have hml : c.maxLocals = 3 := hml0
  have hown : s.vm.findClass "com/example/tidegate/tidegate/Batch" = some m.cls := findClass_of_methodNamed Bd.named
  have hnm := (name_of_methodNamed Bd.named Bd.method).1
  have hlk : meth.locks = false := BodyLoose.notSynchronized Bd
  have X0 : Stand p l e ({ frames := 7, cells := 2, slots := 14, locals := 150 } : Room) s m #[(.ref b), .null, .null] below meth c s₁ [] 0 0 := Stand.of_body Bd
  have e0 : s₁.heap = h0 := by rw [← hh, Bd.state]; rfl
  have N0 := Fr.nil n0
  suffices G : Go p e below s (Q_badd Z b l1 l2 e1 e2 n c1 c2 m1 m2 k1 k2 mr h0 n0) 2 14 s₁ (mkF m 0 #[.val (.ref b), .val .null, .val .null] []) by
    obtain ⟨s2, o, h1, h2⟩ := G
    exact ⟨s2, o, castTop (ef_badd m b) h1, h2⟩
  refine Go.by (T' := s₁) (g' := (mkF m 1 #[.val (.ref b), .val .null, .val .null] [(.ref b)])) (fun t_ k_ => XS.aloadN X0.here hx rfl (hb hby d_prog_5_method_2_code_0) rfl rfl k_) ?_
  obtain ⟨T101, X101, e101, st101⟩ := getF X0 hx hZ hown (host := "") (Or.inl (hw _ (List.mem_of_getElem? (i := 36) rfl))) Via.refl e0 P1 (g := (mkF m 1 #[.val (.ref b), .val .null, .val .null] [(.ref b)])) rfl rfl (hb hby d_prog_5_method_2_code_1)
  refine Go.by (T' := T101) (g' := (mkF m 4 #[.val (.ref b), .val .null, .val .null] [(.ref l1)])) (fun t_ k_ => st101 _ k_) ?_
  refine Go.by (T' := T101) (g' := (mkF m 5 #[.val (.ref b), .val .null, .val .null] [.null, (.ref l1)])) (fun t_ k_ => XS.aloadN X101.here hx rfl (hb hby d_prog_5_method_2_code_4) rfl rfl k_) ?_
  obtain ⟨cq102, kq102, q102a, q102b, q102c⟩ := isOf hZ e101 P3
  obtain ⟨_, _, ⟨T102, L102, k102, n102⟩, -, X102, ⟨Lc102, hQ102, l102, y102, z102⟩, st102⟩ := X101.interfaceBack hx (xi := (⟨"java/util/List", "add", "(Ljava/lang/Object;)Z"⟩ : MethodName)) (y := (⟨"java/util/ArrayList", "add", "(Ljava/lang/Object;)Z"⟩ : MethodName)) hown (mvT hZ (hw _ (List.mem_of_getElem? (i := 45) rfl))) (mvT hZ (hw _ (List.mem_of_getElem? (i := 46) rfl))) (mvT hZ (hw _ (List.mem_of_getElem? (i := 47) rfl))) (mvT hZ (hw _ (List.mem_of_getElem? (i := 48) rfl))) (mvT hZ (hw _ (List.mem_of_getElem? (i := 49) rfl))) (mvT hZ (hw _ (List.mem_of_getElem? (i := 50) rfl))) (mvT hZ (hw _ (List.mem_of_getElem? (i := 51) rfl))) (mvT hZ (hw _ (List.mem_of_getElem? (i := 52) rfl))) (by decide) (backOf (W := 0) (rm_add l Z a0 hw [] l1 e1 n c1 m1 k1 mr h0 n0 X00 P3 P4 P5 P6 P7 P8 P15 P17 P24 hn5 hn1 hc11 hc17 hM) hZ (hw _ (List.mem_of_getElem? (i := 53) rfl)) (hw _ (List.mem_of_getElem? (i := 13) rfl)) (by decide) (by decide)) q102a q102b q102c (g := (mkF m 5 #[.val (.ref b), .val .null, .val .null] [.null, (.ref l1)])) rfl (by rw [hml]; rfl) (Steps.refl _) (argsL := [.null]) (rest := []) (lenOf pd_9 rfl) rfl (by show 2 * 0 + _ ≤ _; exact Nat.le_of_eq rfl) (hb hby d_prog_5_method_2_code_5) (fun _ _ => ⟨rfl, e101, (by decide : 0 + 1 ≤ _), (by decide : 0 + 7 ≤ _)⟩)
  dsimp only [Pt.U, Pt.locs, Pt.cells, Pt.slots] at X102 l102 y102 z102 st102 hQ102
  subst l102 y102 z102
  obtain ⟨e2_102, k2_102, c2_102, rfl, N102q, K102, G102_0, G102_1, G102_2, G102_3, G102_4, G102_5, G102_6, G102_7, G102_8⟩ := hQ102
  have N102 := Fr.app N0 N102q
  have ge_e2_102 : n0 ≤ e2_102 := G102_0.elim (fun q => q.symm ▸ P17) (fun q => Nat.le_trans X00.sz q)
  have km_e2_102 : e2_102 ∈ [l1, e1, l2, e2] ∨ h0.size ≤ e2_102 := G102_0.elim (fun q => q.symm ▸ (Or.inl (List.mem_of_getElem? (i := 1) rfl))) (fun q => Or.inr (Nat.le_trans (Keep.refl h0 [l1, e1, l2, e2]).1 q))
  have fo_e2_102 : e2_102 = e1 ∨ h0.size ≤ e2_102 := G102_0.imp id (fun q => Nat.le_trans (Keep.refl h0 [l1, e1, l2, e2]).1 q)
  have ne_b_e2_102 : ¬ (b = e2_102) := fun r => G102_0.elim (fun q => P21 (r.trans q)) (fun q => Nat.ne_of_lt (Nat.lt_of_lt_of_le P0.lt q) r)
  have ne_l1_e2_102 : ¬ (l1 = e2_102) := fun r => G102_0.elim (fun q => P24 (r.trans q)) (fun q => Nat.ne_of_lt (Nat.lt_of_lt_of_le P3.lt q) r)
  have ne_l2_e2_102 : ¬ (l2 = e2_102) := fun r => G102_0.elim (fun q => P26 (r.trans q)) (fun q => Nat.ne_of_lt (Nat.lt_of_lt_of_le P9.lt q) r)
  have ne_e2_e2_102 : ¬ (e2 = e2_102) := fun r => G102_0.elim (fun q => (Ne.symm P28) (r.trans q)) (fun q => Nat.ne_of_lt (Nat.lt_of_lt_of_le P13.lt q) r)
  refine Go.by (T' := T102) (g' := (mkF m 10 #[.val (.ref b), .val .null, .val .null] [(.int 1)])) (fun t_ k_ => st102.trans k_) ?_
  refine Go.by (T' := T102) (g' := (mkF m 11 #[.val (.ref b), .val .null, .val .null] [])) (fun t_ k_ => XS.pop X102.here hx rfl (hb hby d_prog_5_method_2_code_10) rfl rfl k_) ?_
  refine Go.by (T' := T102) (g' := (mkF m 12 #[.val (.ref b), .val .null, .val .null] [(.ref b)])) (fun t_ k_ => XS.aloadN X102.here hx rfl (hb hby d_prog_5_method_2_code_11) rfl rfl k_) ?_
  have F103 : Fld Z T102.heap b "com/example/tidegate/tidegate/Batch" "completions" "Ljava/util/List;" (.ref l2) := (P2.keep K102 (ninS P19 (ninS P21 nin0)))
  obtain ⟨T104, X104, e104, st104⟩ := getF X102 hx hZ hown (host := "") (Or.inl (hw _ (List.mem_of_getElem? (i := 38) rfl))) Via.refl rfl F103 (g := (mkF m 12 #[.val (.ref b), .val .null, .val .null] [(.ref b)])) rfl rfl (hb hby d_prog_5_method_2_code_12)
  refine Go.by (T' := T104) (g' := (mkF m 15 #[.val (.ref b), .val .null, .val .null] [(.ref l2)])) (fun t_ k_ => st104 _ k_) ?_
  refine Go.by (T' := T104) (g' := (mkF m 16 #[.val (.ref b), .val .null, .val .null] [.null, (.ref l2)])) (fun t_ k_ => XS.aloadN X104.here hx rfl (hb hby d_prog_5_method_2_code_15) rfl rfl k_) ?_
  have F105 : Exa Z T102.heap l2 "java/util/ArrayList" := (P9.keep K102)
  have F106 : Fld Z T102.heap l2 "java/util/AbstractList" "modCount" "I" (.int m2) := (P10.keep K102 (ninS (Ne.symm P23) (ninS P26 nin0)))
  have F107 : Fld Z T102.heap l2 "java/util/ArrayList" "elementData" "[Ljava/lang/Object;" (.ref e2) := (P11.keep K102 (ninS (Ne.symm P23) (ninS P26 nin0)))
  have F108 : Fld Z T102.heap l2 "java/util/ArrayList" "size" "I" (.int (Int32.ofNat n)) := (P12.keep K102 (ninS (Ne.symm P23) (ninS P26 nin0)))
  have F109 : Exa Z T102.heap e2 "[Ljava/lang/Object;" := (P13.keep K102)
  have F110 : Arv Z T102.heap e2 k2 (.object "java/lang/Object") (Int32.ofNat c2) [] .null := (P14.keep K102 (ninS (Ne.symm P25) (ninS (Ne.symm P28) nin0)))
  have Od111 : Old Z n0 T102.heap := (X00.keep K102 (allS P15 (allS P17 all0)))
  have Kp112 : Keep h0 T102.heap [l1, e1, l2, e2] := ((Keep.refl h0 [l1, e1, l2, e2]).trans K102 (allS (Or.inl (List.mem_of_getElem? (i := 0) rfl)) (allS (Or.inl (List.mem_of_getElem? (i := 1) rfl)) all0)))
  obtain ⟨cq113, kq113, q113a, q113b, q113c⟩ := isOf hZ e104 F105
  obtain ⟨_, _, ⟨T113, L113, k113, n113⟩, -, X113, ⟨Lc113, hQ113, l113, y113, z113⟩, st113⟩ := X104.interfaceBack hx (xi := (⟨"java/util/List", "add", "(Ljava/lang/Object;)Z"⟩ : MethodName)) (y := (⟨"java/util/ArrayList", "add", "(Ljava/lang/Object;)Z"⟩ : MethodName)) hown (mvT hZ (hw _ (List.mem_of_getElem? (i := 45) rfl))) (mvT hZ (hw _ (List.mem_of_getElem? (i := 46) rfl))) (mvT hZ (hw _ (List.mem_of_getElem? (i := 47) rfl))) (mvT hZ (hw _ (List.mem_of_getElem? (i := 48) rfl))) (mvT hZ (hw _ (List.mem_of_getElem? (i := 49) rfl))) (mvT hZ (hw _ (List.mem_of_getElem? (i := 50) rfl))) (mvT hZ (hw _ (List.mem_of_getElem? (i := 51) rfl))) (mvT hZ (hw _ (List.mem_of_getElem? (i := 52) rfl))) (by decide) (backOf (W := 0) (rm_add l Z a0 hw [] l2 e2 n c2 m2 k2 mr T102.heap n0 Od111 F105 F106 F107 F108 F109 F110 P16 P18 P27 hn5 hn2 hc21 hc27 hM) hZ (hw _ (List.mem_of_getElem? (i := 53) rfl)) (hw _ (List.mem_of_getElem? (i := 13) rfl)) (by decide) (by decide)) q113a q113b q113c (g := (mkF m 16 #[.val (.ref b), .val .null, .val .null] [.null, (.ref l2)])) rfl (by rw [hml]; rfl) (Steps.refl _) (argsL := [.null]) (rest := []) (lenOf pd_9 rfl) rfl (by show 2 * 0 + _ ≤ _; exact Nat.le_of_eq rfl) (hb hby d_prog_5_method_2_code_16) (fun _ _ => ⟨rfl, e104, (by decide : 1 + 1 ≤ _), (by decide : 7 + 7 ≤ _)⟩)
  dsimp only [Pt.U, Pt.locs, Pt.cells, Pt.slots] at X113 l113 y113 z113 st113 hQ113
  subst l113 y113 z113
  obtain ⟨e2_113, k2_113, c2_113, rfl, N113q, K113, G113_0, G113_1, G113_2, G113_3, G113_4, G113_5, G113_6, G113_7, G113_8⟩ := hQ113
  have N113 := Fr.app N102 N113q
  have ge_e2_113 : n0 ≤ e2_113 := G113_0.elim (fun q => q.symm ▸ P18) (fun q => Nat.le_trans Od111.sz q)
  have km_e2_113 : e2_113 ∈ [l1, e1, l2, e2] ∨ h0.size ≤ e2_113 := G113_0.elim (fun q => q.symm ▸ (Or.inl (List.mem_of_getElem? (i := 3) rfl))) (fun q => Or.inr (Nat.le_trans Kp112.1 q))
  have fo_e2_113 : e2_113 = e2 ∨ h0.size ≤ e2_113 := G113_0.imp id (fun q => Nat.le_trans Kp112.1 q)
  have F114 : Exa Z T102.heap b "com/example/tidegate/tidegate/Batch" := (P0.keep K102)
  have ne_b_e2_113 : ¬ (b = e2_113) := fun r => G113_0.elim (fun q => P22 (r.trans q)) (fun q => Nat.ne_of_lt (Nat.lt_of_lt_of_le F114.lt q) r)
  have ne_l1_e2_113 : ¬ (l1 = e2_113) := fun r => G113_0.elim (fun q => P25 (r.trans q)) (fun q => Nat.ne_of_lt (Nat.lt_of_lt_of_le G102_1.lt q) r)
  have ne_l2_e2_113 : ¬ (l2 = e2_113) := fun r => G113_0.elim (fun q => P27 (r.trans q)) (fun q => Nat.ne_of_lt (Nat.lt_of_lt_of_le F105.lt q) r)
  have ne_e2_102_e2_113 : ¬ (e2_102 = e2_113) := fun r => G113_0.elim (fun q => (Ne.symm ne_e2_e2_102) (r.trans q)) (fun q => Nat.ne_of_lt (Nat.lt_of_lt_of_le G102_5.lt q) r)
  refine Go.by (T' := T113) (g' := (mkF m 21 #[.val (.ref b), .val .null, .val .null] [(.int 1)])) (fun t_ k_ => st113.trans k_) ?_
  refine Go.by (T' := T113) (g' := (mkF m 22 #[.val (.ref b), .val .null, .val .null] [])) (fun t_ k_ => XS.pop X113.here hx rfl (hb hby d_prog_5_method_2_code_21) rfl rfl k_) ?_
  have F115 : Exa Z T113.heap l1 "java/util/ArrayList" := (G102_1.keep K113)
  have F116 : Fld Z T113.heap l1 "java/util/AbstractList" "modCount" "I" (.int (m1 + (1 : Int32))) := (G102_2.keep K113 (ninS P23 (ninS P25 nin0)))
  have F117 : Fld Z T113.heap l1 "java/util/ArrayList" "elementData" "[Ljava/lang/Object;" (.ref e2_102) := (G102_3.keep K113 (ninS P23 (ninS P25 nin0)))
  have F118 : Fld Z T113.heap l1 "java/util/ArrayList" "size" "I" (.int (Int32.ofNat (n + 1))) := (G102_4.keep K113 (ninS P23 (ninS P25 nin0)))
  have F119 : Exa Z T113.heap e2_102 "[Ljava/lang/Object;" := (G102_5.keep K113)
  have F120 : Arv Z T113.heap e2_102 k2_102 (.object "java/lang/Object") (Int32.ofNat c2_102) [] .null := (G102_6.keep K113 (ninS (Ne.symm ne_l2_e2_102) (ninS (Ne.symm ne_e2_e2_102) nin0)))
  have Kp121 : Keep h0 T113.heap [l1, e1, l2, e2] := (Kp112.trans K113 (allS (Or.inl (List.mem_of_getElem? (i := 2) rfl)) (allS (Or.inl (List.mem_of_getElem? (i := 3) rfl)) all0)))
  refine Go.fin X113 (v := none) (fun _ => rfl) hlk (by decide) (by decide) ?_ (fun fs hr => X113.returnOut hx Bd.returns (hb hby d_prog_5_method_2_code_22) hr)
  show Q_badd Z b l1 l2 e1 e2 n c1 c2 m1 m2 k1 k2 mr h0 n0 _ T113.heap _
  exact ⟨e2_102, e2_113, c2_102, c2_113, (m1 + (1 : Int32)), (m2 + (1 : Int32)), k2_102, k2_113, rfl, N113, Kp121, fo_e2_102, fo_e2_113, G102_7, G113_7, ne_l1_e2_113, ne_l2_e2_102, ne_e2_102_e2_113, ⟨G102_8.1, G102_8.2, G113_8.1, G113_8.2⟩, F115, F116, F117, F118, F119, F120, G113_1, G113_2, G113_3, G113_4, G113_5, G113_6⟩
def Q_bsize (Z : State) (b : Addr) (l2 : Addr) (n : Nat) (h0 : Heap) (n0 : Nat) (v : Option Value) (h : Heap) (L : List Loc) : Prop := v = some (.int (Int32.ofNat n)) ∧ Fr n0 L ∧ h = h0
theorem ef_bsize (m : MethodId) (b : Addr) : entryFrame m #[(.ref b)] 1 = mkF m 0 #[.val (.ref b)] [] := by first | (simp [entryFrame, mkF, argsToLocals, Value.category]; done) | rfl
theorem d_prog_5_method_5_code_0 : decode prog_5_method_5_code 0 = .ok (.aload_n 0, 1) := by decide +kernel
theorem d_prog_5_method_5_code_1 : decode prog_5_method_5_code 1 = .ok (.getfield 22, 3) := by decide +kernel
theorem d_prog_5_method_5_code_4 : decode prog_5_method_5_code 4 = .ok (.invokeinterface 54 1, 5) := by decide +kernel
theorem pd_10 : parseMethodDescriptor "()I" = some ⟨[], some .int⟩ := by decide +kernel
theorem d_prog_5_method_5_code_9 : decode prog_5_method_5_code 9 = .ok (.ireturn, 1) := by decide +kernel
set_option maxRecDepth 65536 in
set_option maxHeartbeats 40000000 in
theorem rm_bsize (l : Launch) (Z : State) (a0 : Array Value) (hw : ∀ d ∈ tables_1, d.before a0 Z = true) (ws : List Jvm.Cond) (b : Addr) (l2 : Addr) (n : Nat) (h0 : Heap) (n0 : Nat) (X00 : Old Z n0 h0) (P0 : Fld Z h0 b "com/example/tidegate/tidegate/Batch" "completions" "Ljava/util/List;" (.ref l2)) (P1 : Exa Z h0 l2 "java/util/ArrayList") (P2 : Fld Z h0 l2 "java/util/ArrayList" "size" "I" (.int (Int32.ofNat n))) :
    MetFree l (⟨"com/example/tidegate/tidegate/Batch", "size", "()I"⟩ : MethodName) (head1 (Jvm.Cond.code (⟨"com/example/tidegate/tidegate/Batch", "size", "()I"⟩ : MethodName) prog_5_method_5_code 1 (some .int) :: ws) ({ frames := 1, cells := 0, slots := 0, locals := 15 } : Room)) (fun aa_ U => aa_ = #[(.ref b)] ∧ Z.Warmed39 U.vm ∧ U.heap = h0) (fun _ _ _ _ _ => True) (fun _ U o U' => ∃ v L, o = .returned v ∧ Q_bsize Z b l2 n h0 n0 v U'.heap L ∧ FrameEnd U o U' L ({ frames := 1, cells := 0, slots := 0, locals := 15 } : Room).cells ({ frames := 1, cells := 0, slots := 0, locals := 15 } : Room).slots) := by
  refine MetFree.of_bodySF (plainFor_of_name pn_5) hisR ?_
  intro p e s m args below meth c s₁ Bd hml0 hP hK
  obtain ⟨rfl, hZ, hh⟩ := hP
  have hx := Bd.exec
  have hby := Bd.bytes
  have hml : c.maxLocals = 1 := hml0
  have hown : s.vm.findClass "com/example/tidegate/tidegate/Batch" = some m.cls := findClass_of_methodNamed Bd.named
  have hnm := (name_of_methodNamed Bd.named Bd.method).1
  have hlk : meth.locks = false := BodyLoose.notSynchronized Bd
  have X0 : Stand p l e ({ frames := 1, cells := 0, slots := 0, locals := 15 } : Room) s m #[(.ref b)] below meth c s₁ [] 0 0 := Stand.of_body Bd
  have e0 : s₁.heap = h0 := by rw [← hh, Bd.state]; rfl
  have N0 := Fr.nil n0
  suffices G : Go p e below s (Q_bsize Z b l2 n h0 n0) 0 0 s₁ (mkF m 0 #[.val (.ref b)] []) by
    obtain ⟨s2, o, h1, h2⟩ := G
    exact ⟨s2, o, castTop (ef_bsize m b) h1, h2⟩
  refine Go.by (T' := s₁) (g' := (mkF m 1 #[.val (.ref b)] [(.ref b)])) (fun t_ k_ => XS.aloadN X0.here hx rfl (hb hby d_prog_5_method_5_code_0) rfl rfl k_) ?_
  obtain ⟨T101, X101, e101, st101⟩ := getF X0 hx hZ hown (host := "") (Or.inl (hw _ (List.mem_of_getElem? (i := 38) rfl))) Via.refl e0 P0 (g := (mkF m 1 #[.val (.ref b)] [(.ref b)])) rfl rfl (hb hby d_prog_5_method_5_code_1)
  refine Go.by (T' := T101) (g' := (mkF m 4 #[.val (.ref b)] [(.ref l2)])) (fun t_ k_ => st101 _ k_) ?_
  obtain ⟨cq102, kq102, q102a, q102b, q102c⟩ := isOf hZ e101 P1
  obtain ⟨_, _, ⟨T102, L102, k102, n102⟩, -, X102, ⟨Lc102, hQ102, l102, y102, z102⟩, st102⟩ := X101.interfaceBack hx (xi := (⟨"java/util/List", "size", "()I"⟩ : MethodName)) (y := (⟨"java/util/ArrayList", "size", "()I"⟩ : MethodName)) hown (mvT hZ (hw _ (List.mem_of_getElem? (i := 124) rfl))) (mvT hZ (hw _ (List.mem_of_getElem? (i := 125) rfl))) (mvT hZ (hw _ (List.mem_of_getElem? (i := 126) rfl))) (mvT hZ (hw _ (List.mem_of_getElem? (i := 127) rfl))) (mvT hZ (hw _ (List.mem_of_getElem? (i := 128) rfl))) (mvT hZ (hw _ (List.mem_of_getElem? (i := 129) rfl))) (mvT hZ (hw _ (List.mem_of_getElem? (i := 130) rfl))) (mvT hZ (hw _ (List.mem_of_getElem? (i := 52) rfl))) (by decide) (backOf (W := 0) (rm_lsize l Z a0 hw [] l2 n h0 n0 X00 P2) hZ (hw _ (List.mem_of_getElem? (i := 131) rfl)) (hw _ (List.mem_of_getElem? (i := 13) rfl)) (by decide) (by decide)) q102a q102b q102c (g := (mkF m 4 #[.val (.ref b)] [(.ref l2)])) rfl (by rw [hml]; rfl) (Steps.refl _) (argsL := []) (rest := []) (lenOf pd_10 rfl) rfl (by show 2 * 0 + _ ≤ _; exact Nat.le_of_eq rfl) (hb hby d_prog_5_method_5_code_4) (fun _ _ => ⟨rfl, e101, (by decide : 0 + 0 ≤ _), (by decide : 0 + 0 ≤ _)⟩)
  dsimp only [Pt.U, Pt.locs, Pt.cells, Pt.slots] at X102 l102 y102 z102 st102 hQ102
  subst l102 y102 z102
  obtain ⟨rfl, N102q, e102⟩ := hQ102
  have N102 := Fr.app N0 N102q
  refine Go.by (T' := T102) (g' := (mkF m 9 #[.val (.ref b)] [(.int (Int32.ofNat n))])) (fun t_ k_ => st102.trans k_) ?_
  refine Go.fin X102 (v := some (.int (Int32.ofNat n))) (fun h => by rw [Bd.returns] at h; cases h) hlk (by decide) (by decide) ?_ (fun fs hr => retI X102 hx Bd.returns (hb hby d_prog_5_method_5_code_9) hr)
  show Q_bsize Z b l2 n h0 n0 _ T102.heap _
  rw [e102]
  exact ⟨rfl, N102, rfl⟩
def Q_cpJ1 (Z : State) (aa : Addr) (k : ClassId) (s0 : Int64) (h0 : Heap) (n0 : Nat) (v : Option Value) (h : Heap) (L : List Loc) : Prop := ∃ (t : Addr) (k2 : ClassId), v = some (.ref t) ∧ Fr n0 L ∧ Keep h0 h [] ∧ h0.size ≤ t ∧ Arv Z h t k2 .long (2 : Int32) [(.long s0)] (.long (0 : Int64))
theorem ef_cpJ1 (m : MethodId) (aa : Addr) : entryFrame m #[(.ref aa), (.int (2 : Int32))] 3 = mkF m 0 #[.val (.ref aa), .val (.int (2 : Int32)), .unset] [] := by first | (simp [entryFrame, mkF, argsToLocals, Value.category]; done) | rfl
theorem d_jdk_65_method_124_code_0 : decode jdk_65_method_124_code 0 = .ok (.iload_n 1, 1) := by decide +kernel
theorem d_jdk_65_method_124_code_1 : decode jdk_65_method_124_code 1 = .ok (.aload_n 0, 1) := by decide +kernel
theorem d_jdk_65_method_124_code_2 : decode jdk_65_method_124_code 2 = .ok (.arraylength, 1) := by decide +kernel
theorem d_jdk_65_method_124_code_3 : decode jdk_65_method_124_code 3 = .ok (.if_icmp .ne 11, 3) := by decide +kernel
theorem d_jdk_65_method_124_code_14 : decode jdk_65_method_124_code 14 = .ok (.iload_n 1, 1) := by decide +kernel
theorem d_jdk_65_method_124_code_15 : decode jdk_65_method_124_code 15 = .ok (.newarray .long, 2) := by decide +kernel
theorem d_jdk_65_method_124_code_17 : decode jdk_65_method_124_code 17 = .ok (.astore_n 2, 1) := by decide +kernel
theorem d_jdk_65_method_124_code_18 : decode jdk_65_method_124_code 18 = .ok (.aload_n 0, 1) := by decide +kernel
theorem d_jdk_65_method_124_code_19 : decode jdk_65_method_124_code 19 = .ok (.iconst 0, 1) := by decide +kernel
theorem d_jdk_65_method_124_code_20 : decode jdk_65_method_124_code 20 = .ok (.aload_n 2, 1) := by decide +kernel
theorem d_jdk_65_method_124_code_21 : decode jdk_65_method_124_code 21 = .ok (.iconst 0, 1) := by decide +kernel
theorem d_jdk_65_method_124_code_22 : decode jdk_65_method_124_code 22 = .ok (.aload_n 0, 1) := by decide +kernel
theorem d_jdk_65_method_124_code_23 : decode jdk_65_method_124_code 23 = .ok (.arraylength, 1) := by decide +kernel
theorem d_jdk_65_method_124_code_24 : decode jdk_65_method_124_code 24 = .ok (.iload_n 1, 1) := by decide +kernel
theorem d_jdk_65_method_124_code_25 : decode jdk_65_method_124_code 25 = .ok (.invokestatic 304, 3) := by decide +kernel
theorem d_jdk_65_method_124_code_28 : decode jdk_65_method_124_code 28 = .ok (.invokestatic 150, 3) := by decide +kernel
theorem d_jdk_65_method_124_code_31 : decode jdk_65_method_124_code 31 = .ok (.aload_n 2, 1) := by decide +kernel
theorem d_jdk_65_method_124_code_32 : decode jdk_65_method_124_code 32 = .ok (.areturn, 1) := by decide +kernel
set_option maxRecDepth 65536 in
set_option maxHeartbeats 40000000 in
theorem rm_cpJ1 (l : Launch) (Z : State) (a0 : Array Value) (hw : ∀ d ∈ tables_1, d.before a0 Z = true) (ws : List Jvm.Cond) (aa : Addr) (k : ClassId) (s0 : Int64) (h0 : Heap) (n0 : Nat) (X00 : Old Z n0 h0) (P0 : Arv Z h0 aa k .long (1 : Int32) [(.long s0)] (.long (0 : Int64))) :
    MetFree l (⟨"java/util/Arrays", "copyOf", "([JI)[J"⟩ : MethodName) (head1 (Jvm.Cond.code (⟨"java/util/Arrays", "copyOf", "([JI)[J"⟩ : MethodName) jdk_65_method_124_code 3 (some (.array .long)) :: ws) ({ frames := 1, cells := 1, slots := 4, locals := 40 } : Room)) (fun aa_ U => aa_ = #[(.ref aa), (.int (2 : Int32))] ∧ Z.Warmed39 U.vm ∧ U.heap = h0) (fun _ _ _ _ _ => True) (fun _ U o U' => ∃ v L, o = .returned v ∧ Q_cpJ1 Z aa k s0 h0 n0 v U'.heap L ∧ FrameEnd U o U' L ({ frames := 1, cells := 1, slots := 4, locals := 40 } : Room).cells ({ frames := 1, cells := 1, slots := 4, locals := 40 } : Room).slots) := by
  refine MetFree.of_bodySF (plainFor_of_name pn_1) hisR ?_
  intro p e s m args below meth c s₁ Bd hml0 hP hK
  obtain ⟨rfl, hZ, hh⟩ := hP
  have hx := Bd.exec
  have hby := Bd.bytes
  have hml : c.maxLocals = 3 := hml0
  have hown : s.vm.findClass "java/util/Arrays" = some m.cls := findClass_of_methodNamed Bd.named
  have hnm := (name_of_methodNamed Bd.named Bd.method).1
  have hlk : meth.locks = false := BodyLoose.notSynchronized Bd
  have X0 : Stand p l e ({ frames := 1, cells := 1, slots := 4, locals := 40 } : Room) s m #[(.ref aa), (.int (2 : Int32))] below meth c s₁ [] 0 0 := Stand.of_body Bd
  have e0 : s₁.heap = h0 := by rw [← hh, Bd.state]; rfl
  have N0 := Fr.nil n0
  suffices G : Go p e below s (Q_cpJ1 Z aa k s0 h0 n0) 1 4 s₁ (mkF m 0 #[.val (.ref aa), .val (.int (2 : Int32)), .unset] []) by
    obtain ⟨s2, o, h1, h2⟩ := G
    exact ⟨s2, o, castTop (ef_cpJ1 m aa) h1, h2⟩
  refine Go.by (T' := s₁) (g' := (mkF m 1 #[.val (.ref aa), .val (.int (2 : Int32)), .unset] [(.int (2 : Int32))])) (fun t_ k_ => XS.iloadN X0.here hx rfl (hb hby d_jdk_65_method_124_code_0) rfl k_) ?_
  refine Go.by (T' := s₁) (g' := (mkF m 2 #[.val (.ref aa), .val (.int (2 : Int32)), .unset] [(.ref aa), (.int (2 : Int32))])) (fun t_ k_ => XS.aloadN X0.here hx rfl (hb hby d_jdk_65_method_124_code_1) rfl rfl k_) ?_
  obtain ⟨cl101, Ar101, -, Sz101, Ng101, -, -⟩ := id P0
  refine Go.by (T' := s₁) (g' := (mkF m 3 #[.val (.ref aa), .val (.int (2 : Int32)), .unset] [(.int (1 : Int32)), (.int (2 : Int32))])) (fun t_ k_ => X0.arraylength hx (by rw [e0]; exact Ar101.1) (State.isArrayOf_alike hZ.alike Ar101.2.1) (g := (mkF m 2 #[.val (.ref aa), .val (.int (2 : Int32)), .unset] [(.ref aa), (.int (2 : Int32))])) rfl rfl (hb hby d_jdk_65_method_124_code_2) _ (by rw [len_of Sz101 Ng101]; exact k_)) ?_
  refine Go.by (T' := s₁) (g' := (mkF m 14 #[.val (.ref aa), .val (.int (2 : Int32)), .unset] [])) (fun t_ k_ => XS.icmpYes X0.here hx rfl (pc0 := 3) (pc' := 14) rfl (hb hby d_jdk_65_method_124_code_3) rfl (feq (by decide)).2 (by decide) (by decide) k_) ?_
  refine Go.by (T' := s₁) (g' := (mkF m 15 #[.val (.ref aa), .val (.int (2 : Int32)), .unset] [(.int (2 : Int32))])) (fun t_ k_ => XS.iloadN X0.here hx rfl (hb hby d_jdk_65_method_124_code_14) rfl k_) ?_
  obtain ⟨T102, h102, kc102, X102, e102, E102, A102, st102⟩ := newP X0 hx hZ (hw _ (List.mem_of_getElem? (i := 118) rfl)) e0 (g := (mkF m 15 #[.val (.ref aa), .val (.int (2 : Int32)), .unset] [(.int (2 : Int32))])) rfl (hb hby d_jdk_65_method_124_code_15) rfl (by decide) (cap := 2) (by decide) (by decide) (by decide) (by decide)
  obtain ⟨b102, g102⟩ : ∃ z, z = h0.size := ⟨_, rfl⟩
  rw [← g102] at A102 st102
  have ge_b102 : n0 ≤ b102 := Nat.le_trans X00.sz (Nat.le_of_eq g102.symm)
  have sz_b102 : h0.size ≤ b102 := Nat.le_trans (Keep.refl h0 []).1 (Nat.le_of_eq g102.symm)
  have ne_aa_b102 : ¬ (aa = b102) := Nat.ne_of_lt (Nat.lt_of_lt_of_le P0.lt (Nat.le_of_eq g102.symm))
  have V102 : Arv Z h102 b102 kc102 .long (2 : Int32) [(.long (0 : Int64)), (.long (0 : Int64))] (.long (0 : Int64)) := (Arv.new A102 (by decide)).pad (pad_rep [] (.long (0 : Int64)) 2)
  refine Go.by (T' := T102) (g' := (mkF m 17 #[.val (.ref aa), .val (.int (2 : Int32)), .unset] [(.ref b102)])) (fun t_ k_ => st102 _ k_) ?_
  refine Go.by (T' := T102) (g' := (mkF m 18 #[.val (.ref aa), .val (.int (2 : Int32)), .val (.ref b102)] [])) (fun t_ k_ => XS.astoreN X102.here hx rfl (hb hby d_jdk_65_method_124_code_17) rfl rfl (l' := #[.val (.ref aa), .val (.int (2 : Int32)), .val (.ref b102)]) rfl k_) ?_
  refine Go.by (T' := T102) (g' := (mkF m 19 #[.val (.ref aa), .val (.int (2 : Int32)), .val (.ref b102)] [(.ref aa)])) (fun t_ k_ => XS.aloadN X102.here hx rfl (hb hby d_jdk_65_method_124_code_18) rfl rfl k_) ?_
  refine Go.by (T' := T102) (g' := (mkF m 20 #[.val (.ref aa), .val (.int (2 : Int32)), .val (.ref b102)] [(.int (0 : Int32)), (.ref aa)])) (fun t_ k_ => XS.iconst X102.here hx rfl (hb hby d_jdk_65_method_124_code_19) k_) ?_
  refine Go.by (T' := T102) (g' := (mkF m 21 #[.val (.ref aa), .val (.int (2 : Int32)), .val (.ref b102)] [(.ref b102), (.int (0 : Int32)), (.ref aa)])) (fun t_ k_ => XS.aloadN X102.here hx rfl (hb hby d_jdk_65_method_124_code_20) rfl rfl k_) ?_
  refine Go.by (T' := T102) (g' := (mkF m 22 #[.val (.ref aa), .val (.int (2 : Int32)), .val (.ref b102)] [(.int (0 : Int32)), (.ref b102), (.int (0 : Int32)), (.ref aa)])) (fun t_ k_ => XS.iconst X102.here hx rfl (hb hby d_jdk_65_method_124_code_21) k_) ?_
  refine Go.by (T' := T102) (g' := (mkF m 23 #[.val (.ref aa), .val (.int (2 : Int32)), .val (.ref b102)] [(.ref aa), (.int (0 : Int32)), (.ref b102), (.int (0 : Int32)), (.ref aa)])) (fun t_ k_ => XS.aloadN X102.here hx rfl (hb hby d_jdk_65_method_124_code_22) rfl rfl k_) ?_
  have F103 : Arv Z h102 aa k .long (1 : Int32) [(.long s0)] (.long (0 : Int64)) := (P0.ext E102)
  obtain ⟨cl104, Ar104, -, Sz104, Ng104, -, -⟩ := id F103
  refine Go.by (T' := T102) (g' := (mkF m 24 #[.val (.ref aa), .val (.int (2 : Int32)), .val (.ref b102)] [(.int (1 : Int32)), (.int (0 : Int32)), (.ref b102), (.int (0 : Int32)), (.ref aa)])) (fun t_ k_ => X102.arraylength hx (by rw [e102]; exact Ar104.1) (State.isArrayOf_alike hZ.alike Ar104.2.1) (g := (mkF m 23 #[.val (.ref aa), .val (.int (2 : Int32)), .val (.ref b102)] [(.ref aa), (.int (0 : Int32)), (.ref b102), (.int (0 : Int32)), (.ref aa)])) rfl rfl (hb hby d_jdk_65_method_124_code_23) _ (by rw [len_of Sz104 Ng104]; exact k_)) ?_
  refine Go.by (T' := T102) (g' := (mkF m 25 #[.val (.ref aa), .val (.int (2 : Int32)), .val (.ref b102)] [(.int (2 : Int32)), (.int (1 : Int32)), (.int (0 : Int32)), (.ref b102), (.int (0 : Int32)), (.ref aa)])) (fun t_ k_ => XS.iloadN X102.here hx rfl (hb hby d_jdk_65_method_124_code_24) rfl k_) ?_
  have Od105 : Old Z n0 h102 := (X00.ext E102)
  obtain ⟨_, _, ⟨T106, L106, k106, n106⟩, -, X106, ⟨Lc106, hQ106, l106, y106, z106⟩, st106⟩ := Jvm.LawKit.callS X102 hx (y := (⟨"java/lang/Math", "min", "(II)I"⟩ : MethodName)) hown (mvT hZ (hw _ (List.mem_of_getElem? (i := 97) rfl))) (mvT hZ (hw _ (List.mem_of_getElem? (i := 98) rfl))) (mvT hZ (hw _ (List.mem_of_getElem? (i := 79) rfl))) (mvT hZ (hw _ (List.mem_of_getElem? (i := 99) rfl))) (by decide) (backOf (W := 4) (rm_min l Z a0 hw [] (1 : Int32) (2 : Int32) h102 n0 Od105 (by decide)) hZ (hw _ (List.mem_of_getElem? (i := 99) rfl)) (hw _ (List.mem_of_getElem? (i := 79) rfl)) (by decide) (by decide)) (g := (mkF m 25 #[.val (.ref aa), .val (.int (2 : Int32)), .val (.ref b102)] [(.int (2 : Int32)), (.int (1 : Int32)), (.int (0 : Int32)), (.ref b102), (.int (0 : Int32)), (.ref aa)])) rfl (by rw [hml]; rfl) (argsL := [(.int (1 : Int32)), (.int (2 : Int32))]) (rest := [(.int (0 : Int32)), (.ref b102), (.int (0 : Int32)), (.ref aa)]) (lenOf pd_0 rfl) rfl (by show 2 * 0 + _ ≤ _; exact Nat.le_of_eq rfl) (hb hby d_jdk_65_method_124_code_25) (fun _ _ => ⟨rfl, e102, (by decide : 1 + 0 ≤ _), (by decide : 2 + 0 ≤ _)⟩)
  dsimp only [Pt.U, Pt.locs, Pt.cells, Pt.slots] at X106 l106 y106 z106 st106 hQ106
  subst l106 y106 z106
  obtain ⟨rfl, N106q, e106⟩ := hQ106
  have N106 := Fr.app N0 N106q
  refine Go.by (T' := T106) (g' := (mkF m 28 #[.val (.ref aa), .val (.int (2 : Int32)), .val (.ref b102)] [(.int (1 : Int32)), (.int (0 : Int32)), (.ref b102), (.int (0 : Int32)), (.ref aa)])) (fun t_ k_ => st106 _ k_) ?_
  have Kp107 : Keep h0 h102 [] := ((Keep.refl h0 []).ext E102)
  obtain ⟨T108, h108, Lx108, X108, e108, N108, K108, A108, st108⟩ := cpA X106 hx hZ hown (hw _ (List.mem_of_getElem? (i := 100) rfl)) (hw _ (List.mem_of_getElem? (i := 103) rfl)) (hw _ (List.mem_of_getElem? (i := 101) rfl)) (hw _ (List.mem_of_getElem? (i := 102) rfl)) e106 F103 V102 (us := [(.long s0)]) (Or.inl ⟨rfl, rfl⟩) (sp := (0 : Int32)) (dp := (0 : Int32)) (nn := (1 : Int32)) (by decide) (by decide) (by decide) (by decide) (by decide) rfl (by decide) N106 ge_b102 (g := (mkF m 28 #[.val (.ref aa), .val (.int (2 : Int32)), .val (.ref b102)] [(.int (1 : Int32)), (.int (0 : Int32)), (.ref b102), (.int (0 : Int32)), (.ref aa)])) rfl (by rw [hml]; rfl) rfl (hb hby d_jdk_65_method_124_code_28) (by decide) (W := 0) (by show 2 * 0 + _ ≤ _; exact Nat.le_of_eq rfl) (by decide)
  have V108 : Arv Z h108 b102 kc102 .long (2 : Int32) [(.long s0)] (.long (0 : Int64)) := Arv.pad (show Arv Z _ b102 _ .long _ ([(.long s0)] ++ List.replicate 1 (.long (0 : Int64))) _ from A108) (fun i => (pad_rep [(.long s0)] (.long (0 : Int64)) 1 i).symm)
  refine Go.by (T' := T108) (g' := (mkF m 31 #[.val (.ref aa), .val (.int (2 : Int32)), .val (.ref b102)] [])) (fun t_ k_ => st108 _ k_) ?_
  refine Go.by (T' := T108) (g' := (mkF m 32 #[.val (.ref aa), .val (.int (2 : Int32)), .val (.ref b102)] [(.ref b102)])) (fun t_ k_ => XS.aloadN X108.here hx rfl (hb hby d_jdk_65_method_124_code_31) rfl rfl k_) ?_
  have Kp109 : Keep h0 h108 [] := (Kp107.trans K108 (allS (Or.inr sz_b102) all0))
  refine Go.fin X108 (v := some (.ref b102)) (fun h => by rw [Bd.returns] at h; cases h) hlk (by decide) (by decide) ?_ (fun fs hr => retR X108 hx (w := (.ref b102)) Bd.returns rfl rfl rfl (hb hby d_jdk_65_method_124_code_32) hr)
  show Q_cpJ1 Z aa k s0 h0 n0 _ T108.heap _
  rw [e108]
  exact ⟨b102, kc102, rfl, N108, Kp109, sz_b102, V108⟩
def Q_cpJ2 (Z : State) (aa : Addr) (k : ClassId) (s0 : Int64) (s1 : Int64) (h0 : Heap) (n0 : Nat) (v : Option Value) (h : Heap) (L : List Loc) : Prop := ∃ (t : Addr) (k2 : ClassId), v = some (.ref t) ∧ Fr n0 L ∧ Keep h0 h [] ∧ h0.size ≤ t ∧ Arv Z h t k2 .long (4 : Int32) [(.long s0), (.long s1)] (.long (0 : Int64))
theorem ef_cpJ2 (m : MethodId) (aa : Addr) : entryFrame m #[(.ref aa), (.int (4 : Int32))] 3 = mkF m 0 #[.val (.ref aa), .val (.int (4 : Int32)), .unset] [] := by first | (simp [entryFrame, mkF, argsToLocals, Value.category]; done) | rfl
set_option maxRecDepth 65536 in
set_option maxHeartbeats 40000000 in
theorem rm_cpJ2 (l : Launch) (Z : State) (a0 : Array Value) (hw : ∀ d ∈ tables_1, d.before a0 Z = true) (ws : List Jvm.Cond) (aa : Addr) (k : ClassId) (s0 : Int64) (s1 : Int64) (h0 : Heap) (n0 : Nat) (X00 : Old Z n0 h0) (P0 : Arv Z h0 aa k .long (2 : Int32) [(.long s0), (.long s1)] (.long (0 : Int64))) :
    MetFree l (⟨"java/util/Arrays", "copyOf", "([JI)[J"⟩ : MethodName) (head1 (Jvm.Cond.code (⟨"java/util/Arrays", "copyOf", "([JI)[J"⟩ : MethodName) jdk_65_method_124_code 3 (some (.array .long)) :: ws) ({ frames := 1, cells := 1, slots := 4, locals := 40 } : Room)) (fun aa_ U => aa_ = #[(.ref aa), (.int (4 : Int32))] ∧ Z.Warmed39 U.vm ∧ U.heap = h0) (fun _ _ _ _ _ => True) (fun _ U o U' => ∃ v L, o = .returned v ∧ Q_cpJ2 Z aa k s0 s1 h0 n0 v U'.heap L ∧ FrameEnd U o U' L ({ frames := 1, cells := 1, slots := 4, locals := 40 } : Room).cells ({ frames := 1, cells := 1, slots := 4, locals := 40 } : Room).slots) := by
  refine MetFree.of_bodySF (plainFor_of_name pn_1) hisR ?_
  intro p e s m args below meth c s₁ Bd hml0 hP hK
  obtain ⟨rfl, hZ, hh⟩ := hP
  have hx := Bd.exec
  have hby := Bd.bytes
  have hml : c.maxLocals = 3 := hml0
  have hown : s.vm.findClass "java/util/Arrays" = some m.cls := findClass_of_methodNamed Bd.named
  have hnm := (name_of_methodNamed Bd.named Bd.method).1
  have hlk : meth.locks = false := BodyLoose.notSynchronized Bd
  have X0 : Stand p l e ({ frames := 1, cells := 1, slots := 4, locals := 40 } : Room) s m #[(.ref aa), (.int (4 : Int32))] below meth c s₁ [] 0 0 := Stand.of_body Bd
  have e0 : s₁.heap = h0 := by rw [← hh, Bd.state]; rfl
  have N0 := Fr.nil n0
  suffices G : Go p e below s (Q_cpJ2 Z aa k s0 s1 h0 n0) 1 4 s₁ (mkF m 0 #[.val (.ref aa), .val (.int (4 : Int32)), .unset] []) by
    obtain ⟨s2, o, h1, h2⟩ := G
    exact ⟨s2, o, castTop (ef_cpJ2 m aa) h1, h2⟩
  refine Go.by (T' := s₁) (g' := (mkF m 1 #[.val (.ref aa), .val (.int (4 : Int32)), .unset] [(.int (4 : Int32))])) (fun t_ k_ => XS.iloadN X0.here hx rfl (hb hby d_jdk_65_method_124_code_0) rfl k_) ?_
  refine Go.by (T' := s₁) (g' := (mkF m 2 #[.val (.ref aa), .val (.int (4 : Int32)), .unset] [(.ref aa), (.int (4 : Int32))])) (fun t_ k_ => XS.aloadN X0.here hx rfl (hb hby d_jdk_65_method_124_code_1) rfl rfl k_) ?_
  obtain ⟨cl101, Ar101, -, Sz101, Ng101, -, -⟩ := id P0
  refine Go.by (T' := s₁) (g' := (mkF m 3 #[.val (.ref aa), .val (.int (4 : Int32)), .unset] [(.int (2 : Int32)), (.int (4 : Int32))])) (fun t_ k_ => X0.arraylength hx (by rw [e0]; exact Ar101.1) (State.isArrayOf_alike hZ.alike Ar101.2.1) (g := (mkF m 2 #[.val (.ref aa), .val (.int (4 : Int32)), .unset] [(.ref aa), (.int (4 : Int32))])) rfl rfl (hb hby d_jdk_65_method_124_code_2) _ (by rw [len_of Sz101 Ng101]; exact k_)) ?_
  refine Go.by (T' := s₁) (g' := (mkF m 14 #[.val (.ref aa), .val (.int (4 : Int32)), .unset] [])) (fun t_ k_ => XS.icmpYes X0.here hx rfl (pc0 := 3) (pc' := 14) rfl (hb hby d_jdk_65_method_124_code_3) rfl (feq (by decide)).2 (by decide) (by decide) k_) ?_
  refine Go.by (T' := s₁) (g' := (mkF m 15 #[.val (.ref aa), .val (.int (4 : Int32)), .unset] [(.int (4 : Int32))])) (fun t_ k_ => XS.iloadN X0.here hx rfl (hb hby d_jdk_65_method_124_code_14) rfl k_) ?_
  obtain ⟨T102, h102, kc102, X102, e102, E102, A102, st102⟩ := newP X0 hx hZ (hw _ (List.mem_of_getElem? (i := 118) rfl)) e0 (g := (mkF m 15 #[.val (.ref aa), .val (.int (4 : Int32)), .unset] [(.int (4 : Int32))])) rfl (hb hby d_jdk_65_method_124_code_15) rfl (by decide) (cap := 4) (by decide) (by decide) (by decide) (by decide)
  obtain ⟨b102, g102⟩ : ∃ z, z = h0.size := ⟨_, rfl⟩
  rw [← g102] at A102 st102
  have ge_b102 : n0 ≤ b102 := Nat.le_trans X00.sz (Nat.le_of_eq g102.symm)
  have sz_b102 : h0.size ≤ b102 := Nat.le_trans (Keep.refl h0 []).1 (Nat.le_of_eq g102.symm)
  have ne_aa_b102 : ¬ (aa = b102) := Nat.ne_of_lt (Nat.lt_of_lt_of_le P0.lt (Nat.le_of_eq g102.symm))
  have V102 : Arv Z h102 b102 kc102 .long (4 : Int32) [(.long (0 : Int64)), (.long (0 : Int64)), (.long (0 : Int64)), (.long (0 : Int64))] (.long (0 : Int64)) := (Arv.new A102 (by decide)).pad (pad_rep [] (.long (0 : Int64)) 4)
  refine Go.by (T' := T102) (g' := (mkF m 17 #[.val (.ref aa), .val (.int (4 : Int32)), .unset] [(.ref b102)])) (fun t_ k_ => st102 _ k_) ?_
  refine Go.by (T' := T102) (g' := (mkF m 18 #[.val (.ref aa), .val (.int (4 : Int32)), .val (.ref b102)] [])) (fun t_ k_ => XS.astoreN X102.here hx rfl (hb hby d_jdk_65_method_124_code_17) rfl rfl (l' := #[.val (.ref aa), .val (.int (4 : Int32)), .val (.ref b102)]) rfl k_) ?_
  refine Go.by (T' := T102) (g' := (mkF m 19 #[.val (.ref aa), .val (.int (4 : Int32)), .val (.ref b102)] [(.ref aa)])) (fun t_ k_ => XS.aloadN X102.here hx rfl (hb hby d_jdk_65_method_124_code_18) rfl rfl k_) ?_
  refine Go.by (T' := T102) (g' := (mkF m 20 #[.val (.ref aa), .val (.int (4 : Int32)), .val (.ref b102)] [(.int (0 : Int32)), (.ref aa)])) (fun t_ k_ => XS.iconst X102.here hx rfl (hb hby d_jdk_65_method_124_code_19) k_) ?_
  refine Go.by (T' := T102) (g' := (mkF m 21 #[.val (.ref aa), .val (.int (4 : Int32)), .val (.ref b102)] [(.ref b102), (.int (0 : Int32)), (.ref aa)])) (fun t_ k_ => XS.aloadN X102.here hx rfl (hb hby d_jdk_65_method_124_code_20) rfl rfl k_) ?_
  refine Go.by (T' := T102) (g' := (mkF m 22 #[.val (.ref aa), .val (.int (4 : Int32)), .val (.ref b102)] [(.int (0 : Int32)), (.ref b102), (.int (0 : Int32)), (.ref aa)])) (fun t_ k_ => XS.iconst X102.here hx rfl (hb hby d_jdk_65_method_124_code_21) k_) ?_
  refine Go.by (T' := T102) (g' := (mkF m 23 #[.val (.ref aa), .val (.int (4 : Int32)), .val (.ref b102)] [(.ref aa), (.int (0 : Int32)), (.ref b102), (.int (0 : Int32)), (.ref aa)])) (fun t_ k_ => XS.aloadN X102.here hx rfl (hb hby d_jdk_65_method_124_code_22) rfl rfl k_) ?_
  have F103 : Arv Z h102 aa k .long (2 : Int32) [(.long s0), (.long s1)] (.long (0 : Int64)) := (P0.ext E102)
  obtain ⟨cl104, Ar104, -, Sz104, Ng104, -, -⟩ := id F103
  refine Go.by (T' := T102) (g' := (mkF m 24 #[.val (.ref aa), .val (.int (4 : Int32)), .val (.ref b102)] [(.int (2 : Int32)), (.int (0 : Int32)), (.ref b102), (.int (0 : Int32)), (.ref aa)])) (fun t_ k_ => X102.arraylength hx (by rw [e102]; exact Ar104.1) (State.isArrayOf_alike hZ.alike Ar104.2.1) (g := (mkF m 23 #[.val (.ref aa), .val (.int (4 : Int32)), .val (.ref b102)] [(.ref aa), (.int (0 : Int32)), (.ref b102), (.int (0 : Int32)), (.ref aa)])) rfl rfl (hb hby d_jdk_65_method_124_code_23) _ (by rw [len_of Sz104 Ng104]; exact k_)) ?_
  refine Go.by (T' := T102) (g' := (mkF m 25 #[.val (.ref aa), .val (.int (4 : Int32)), .val (.ref b102)] [(.int (4 : Int32)), (.int (2 : Int32)), (.int (0 : Int32)), (.ref b102), (.int (0 : Int32)), (.ref aa)])) (fun t_ k_ => XS.iloadN X102.here hx rfl (hb hby d_jdk_65_method_124_code_24) rfl k_) ?_
  have Od105 : Old Z n0 h102 := (X00.ext E102)
  obtain ⟨_, _, ⟨T106, L106, k106, n106⟩, -, X106, ⟨Lc106, hQ106, l106, y106, z106⟩, st106⟩ := Jvm.LawKit.callS X102 hx (y := (⟨"java/lang/Math", "min", "(II)I"⟩ : MethodName)) hown (mvT hZ (hw _ (List.mem_of_getElem? (i := 97) rfl))) (mvT hZ (hw _ (List.mem_of_getElem? (i := 98) rfl))) (mvT hZ (hw _ (List.mem_of_getElem? (i := 79) rfl))) (mvT hZ (hw _ (List.mem_of_getElem? (i := 99) rfl))) (by decide) (backOf (W := 4) (rm_min l Z a0 hw [] (2 : Int32) (4 : Int32) h102 n0 Od105 (by decide)) hZ (hw _ (List.mem_of_getElem? (i := 99) rfl)) (hw _ (List.mem_of_getElem? (i := 79) rfl)) (by decide) (by decide)) (g := (mkF m 25 #[.val (.ref aa), .val (.int (4 : Int32)), .val (.ref b102)] [(.int (4 : Int32)), (.int (2 : Int32)), (.int (0 : Int32)), (.ref b102), (.int (0 : Int32)), (.ref aa)])) rfl (by rw [hml]; rfl) (argsL := [(.int (2 : Int32)), (.int (4 : Int32))]) (rest := [(.int (0 : Int32)), (.ref b102), (.int (0 : Int32)), (.ref aa)]) (lenOf pd_0 rfl) rfl (by show 2 * 0 + _ ≤ _; exact Nat.le_of_eq rfl) (hb hby d_jdk_65_method_124_code_25) (fun _ _ => ⟨rfl, e102, (by decide : 1 + 0 ≤ _), (by decide : 4 + 0 ≤ _)⟩)
  dsimp only [Pt.U, Pt.locs, Pt.cells, Pt.slots] at X106 l106 y106 z106 st106 hQ106
  subst l106 y106 z106
  obtain ⟨rfl, N106q, e106⟩ := hQ106
  have N106 := Fr.app N0 N106q
  refine Go.by (T' := T106) (g' := (mkF m 28 #[.val (.ref aa), .val (.int (4 : Int32)), .val (.ref b102)] [(.int (2 : Int32)), (.int (0 : Int32)), (.ref b102), (.int (0 : Int32)), (.ref aa)])) (fun t_ k_ => st106 _ k_) ?_
  have Kp107 : Keep h0 h102 [] := ((Keep.refl h0 []).ext E102)
  obtain ⟨T108, h108, Lx108, X108, e108, N108, K108, A108, st108⟩ := cpA X106 hx hZ hown (hw _ (List.mem_of_getElem? (i := 100) rfl)) (hw _ (List.mem_of_getElem? (i := 103) rfl)) (hw _ (List.mem_of_getElem? (i := 101) rfl)) (hw _ (List.mem_of_getElem? (i := 102) rfl)) e106 F103 V102 (us := [(.long s0), (.long s1)]) (Or.inl ⟨rfl, rfl⟩) (sp := (0 : Int32)) (dp := (0 : Int32)) (nn := (2 : Int32)) (by decide) (by decide) (by decide) (by decide) (by decide) rfl (by decide) N106 ge_b102 (g := (mkF m 28 #[.val (.ref aa), .val (.int (4 : Int32)), .val (.ref b102)] [(.int (2 : Int32)), (.int (0 : Int32)), (.ref b102), (.int (0 : Int32)), (.ref aa)])) rfl (by rw [hml]; rfl) rfl (hb hby d_jdk_65_method_124_code_28) (by decide) (W := 0) (by show 2 * 0 + _ ≤ _; exact Nat.le_of_eq rfl) (by decide)
  have V108 : Arv Z h108 b102 kc102 .long (4 : Int32) [(.long s0), (.long s1)] (.long (0 : Int64)) := Arv.pad (show Arv Z _ b102 _ .long _ ([(.long s0), (.long s1)] ++ List.replicate 2 (.long (0 : Int64))) _ from A108) (fun i => (pad_rep [(.long s0), (.long s1)] (.long (0 : Int64)) 2 i).symm)
  refine Go.by (T' := T108) (g' := (mkF m 31 #[.val (.ref aa), .val (.int (4 : Int32)), .val (.ref b102)] [])) (fun t_ k_ => st108 _ k_) ?_
  refine Go.by (T' := T108) (g' := (mkF m 32 #[.val (.ref aa), .val (.int (4 : Int32)), .val (.ref b102)] [(.ref b102)])) (fun t_ k_ => XS.aloadN X108.here hx rfl (hb hby d_jdk_65_method_124_code_31) rfl rfl k_) ?_
  have Kp109 : Keep h0 h108 [] := (Kp107.trans K108 (allS (Or.inr sz_b102) all0))
  refine Go.fin X108 (v := some (.ref b102)) (fun h => by rw [Bd.returns] at h; cases h) hlk (by decide) (by decide) ?_ (fun fs hr => retR X108 hx (w := (.ref b102)) Bd.returns rfl rfl rfl (hb hby d_jdk_65_method_124_code_32) hr)
  show Q_cpJ2 Z aa k s0 s1 h0 n0 _ T108.heap _
  rw [e108]
  exact ⟨b102, kc102, rfl, N108, Kp109, sz_b102, V108⟩
def Q_t0 (Z : State) (b : Addr) (l1 : Addr) (l2 : Addr) (e1 : Addr) (e2 : Addr) (n : Nat) (c1 : Nat) (c2 : Nat) (m1 : Int32) (m2 : Int32) (k1 : ClassId) (k2 : ClassId) (mr : Addr) (q : Nat) (now : Int64) (v0 : Int32) (h0 : Heap) (n0 : Nat) (v : Option Value) (h : Heap) (L : List Loc) : Prop := ∃ (f1 : Addr) (f2 : Addr) (d1 : Nat) (d2 : Nat) (r1 : Int32) (r2 : Int32) (j1 : ClassId) (j2 : ClassId) (aa : Addr) (ka : ClassId), v = none ∧ Fr n0 L ∧ Keep h0 h [b, l1, e1, l2, e2] ∧ (f1 = e1 ∨ h0.size ≤ f1) ∧ (f2 = e2 ∨ h0.size ≤ f2) ∧ ¬ (l1 = f1) ∧ ¬ (l2 = f2) ∧ ¬ (l1 = f2) ∧ ¬ (l2 = f1) ∧ ¬ (f1 = f2) ∧ (n + 1 ≤ d1 ∧ d1 ≤ 7 ∧ n + 1 ≤ d2 ∧ d2 ≤ 7) ∧ h0.size ≤ aa ∧ ¬ (aa = f1) ∧ ¬ (aa = f2) ∧ Exa Z h b "com/example/tidegate/tidegate/Batch" ∧ Fld Z h b "com/example/tidegate/tidegate/Batch" "presized" "I" (.int (Int32.ofNat q)) ∧ Fld Z h b "com/example/tidegate/tidegate/Batch" "items" "Ljava/util/List;" (.ref l1) ∧ Fld Z h b "com/example/tidegate/tidegate/Batch" "completions" "Ljava/util/List;" (.ref l2) ∧ Fld Z h b "com/example/tidegate/tidegate/Batch" "acceptedAt" "[J" (.ref aa) ∧ Fld Z h b "com/example/tidegate/tidegate/Batch" "firstTimed" "I" (.int (Int32.ofNat n)) ∧ Exa Z h l1 "java/util/ArrayList" ∧ Fld Z h l1 "java/util/AbstractList" "modCount" "I" (.int r1) ∧ Fld Z h l1 "java/util/ArrayList" "elementData" "[Ljava/lang/Object;" (.ref f1) ∧ Fld Z h l1 "java/util/ArrayList" "size" "I" (.int (Int32.ofNat (n + 1))) ∧ Exa Z h f1 "[Ljava/lang/Object;" ∧ Arv Z h f1 j1 (.object "java/lang/Object") (Int32.ofNat d1) [] .null ∧ Exa Z h l2 "java/util/ArrayList" ∧ Fld Z h l2 "java/util/AbstractList" "modCount" "I" (.int r2) ∧ Fld Z h l2 "java/util/ArrayList" "elementData" "[Ljava/lang/Object;" (.ref f2) ∧ Fld Z h l2 "java/util/ArrayList" "size" "I" (.int (Int32.ofNat (n + 1))) ∧ Exa Z h f2 "[Ljava/lang/Object;" ∧ Arv Z h f2 j2 (.object "java/lang/Object") (Int32.ofNat d2) [] .null ∧ Arv Z h aa ka .long (Int32.ofNat q) [(.long now)] (.long (0 : Int64))
theorem ef_t0 (m : MethodId) (b : Addr) (now : Int64) : entryFrame m #[(.ref b), .null, .null, (.long now)] 6 = mkF m 0 #[.val (.ref b), .val .null, .val .null, .val (.long now), .second, .unset] [] := by first | (simp [entryFrame, mkF, argsToLocals, Value.category]; done) | rfl
theorem d_prog_5_method_3_code_0 : decode prog_5_method_3_code 0 = .ok (.aload_n 0, 1) := by decide +kernel
theorem d_prog_5_method_3_code_1 : decode prog_5_method_3_code 1 = .ok (.getfield 31, 3) := by decide +kernel
theorem d_prog_5_method_3_code_4 : decode prog_5_method_3_code 4 = .ok (.ifnonnull 21, 3) := by decide +kernel
theorem d_prog_5_method_3_code_7 : decode prog_5_method_3_code 7 = .ok (.aload_n 0, 1) := by decide +kernel
theorem d_prog_5_method_3_code_8 : decode prog_5_method_3_code 8 = .ok (.aload_n 0, 1) := by decide +kernel
theorem d_prog_5_method_3_code_9 : decode prog_5_method_3_code 9 = .ok (.getfield 7, 3) := by decide +kernel
theorem d_prog_5_method_3_code_12 : decode prog_5_method_3_code 12 = .ok (.newarray .long, 2) := by decide +kernel
theorem d_prog_5_method_3_code_14 : decode prog_5_method_3_code 14 = .ok (.putfield 31, 3) := by decide +kernel
theorem d_prog_5_method_3_code_17 : decode prog_5_method_3_code 17 = .ok (.aload_n 0, 1) := by decide +kernel
theorem d_prog_5_method_3_code_18 : decode prog_5_method_3_code 18 = .ok (.aload_n 0, 1) := by decide +kernel
theorem d_prog_5_method_3_code_19 : decode prog_5_method_3_code 19 = .ok (.invokevirtual 35, 3) := by decide +kernel
theorem d_prog_5_method_3_code_22 : decode prog_5_method_3_code 22 = .ok (.putfield 39, 3) := by decide +kernel
theorem d_prog_5_method_3_code_25 : decode prog_5_method_3_code 25 = .ok (.aload_n 0, 1) := by decide +kernel
theorem d_prog_5_method_3_code_26 : decode prog_5_method_3_code 26 = .ok (.invokevirtual 35, 3) := by decide +kernel
theorem d_prog_5_method_3_code_29 : decode prog_5_method_3_code 29 = .ok (.aload_n 0, 1) := by decide +kernel
theorem d_prog_5_method_3_code_30 : decode prog_5_method_3_code 30 = .ok (.getfield 39, 3) := by decide +kernel
theorem d_prog_5_method_3_code_33 : decode prog_5_method_3_code 33 = .ok (.isub, 1) := by decide +kernel
theorem d_prog_5_method_3_code_34 : decode prog_5_method_3_code 34 = .ok (.istore 5, 2) := by decide +kernel
theorem d_prog_5_method_3_code_36 : decode prog_5_method_3_code 36 = .ok (.iload 5, 2) := by decide +kernel
theorem d_prog_5_method_3_code_38 : decode prog_5_method_3_code 38 = .ok (.aload_n 0, 1) := by decide +kernel
theorem d_prog_5_method_3_code_39 : decode prog_5_method_3_code 39 = .ok (.getfield 31, 3) := by decide +kernel
theorem d_prog_5_method_3_code_42 : decode prog_5_method_3_code 42 = .ok (.arraylength, 1) := by decide +kernel
theorem d_prog_5_method_3_code_43 : decode prog_5_method_3_code 43 = .ok (.if_icmp .ne 18, 3) := by decide +kernel
theorem d_prog_5_method_3_code_61 : decode prog_5_method_3_code 61 = .ok (.aload_n 0, 1) := by decide +kernel
theorem d_prog_5_method_3_code_62 : decode prog_5_method_3_code 62 = .ok (.getfield 31, 3) := by decide +kernel
theorem d_prog_5_method_3_code_65 : decode prog_5_method_3_code 65 = .ok (.iload 5, 2) := by decide +kernel
theorem d_prog_5_method_3_code_67 : decode prog_5_method_3_code 67 = .ok (.lload_n 3, 1) := by decide +kernel
theorem d_prog_5_method_3_code_68 : decode prog_5_method_3_code 68 = .ok (.lastore, 1) := by decide +kernel
theorem d_prog_5_method_3_code_69 : decode prog_5_method_3_code 69 = .ok (.aload_n 0, 1) := by decide +kernel
theorem d_prog_5_method_3_code_70 : decode prog_5_method_3_code 70 = .ok (.aload_n 1, 1) := by decide +kernel
theorem d_prog_5_method_3_code_71 : decode prog_5_method_3_code 71 = .ok (.aload_n 2, 1) := by decide +kernel
theorem d_prog_5_method_3_code_72 : decode prog_5_method_3_code 72 = .ok (.invokevirtual 48, 3) := by decide +kernel
theorem pd_11 : parseMethodDescriptor "(Ljava/lang/Object;Ljava/util/concurrent/CompletableFuture;)V" = some ⟨[(.object "java/lang/Object"), (.object "java/util/concurrent/CompletableFuture")], none⟩ := by decide +kernel
theorem d_prog_5_method_3_code_75 : decode prog_5_method_3_code 75 = .ok (.return_, 1) := by decide +kernel
set_option maxRecDepth 65536 in
set_option maxHeartbeats 40000000 in
theorem rm_t0 (l : Launch) (Z : State) (a0 : Array Value) (hw : ∀ d ∈ tables_1, d.before a0 Z = true) (ws : List Jvm.Cond) (b : Addr) (l1 : Addr) (l2 : Addr) (e1 : Addr) (e2 : Addr) (n : Nat) (c1 : Nat) (c2 : Nat) (m1 : Int32) (m2 : Int32) (k1 : ClassId) (k2 : ClassId) (mr : Addr) (q : Nat) (now : Int64) (v0 : Int32) (h0 : Heap) (n0 : Nat) (X00 : Old Z n0 h0) (P0 : Exa Z h0 b "com/example/tidegate/tidegate/Batch") (P1 : Fld Z h0 b "com/example/tidegate/tidegate/Batch" "presized" "I" (.int (Int32.ofNat q))) (P2 : Fld Z h0 b "com/example/tidegate/tidegate/Batch" "items" "Ljava/util/List;" (.ref l1)) (P3 : Fld Z h0 b "com/example/tidegate/tidegate/Batch" "completions" "Ljava/util/List;" (.ref l2)) (P4 : Fld Z h0 b "com/example/tidegate/tidegate/Batch" "acceptedAt" "[J" .null) (P5 : Fld Z h0 b "com/example/tidegate/tidegate/Batch" "firstTimed" "I" (.int v0)) (P6 : Exa Z h0 l1 "java/util/ArrayList") (P7 : Fld Z h0 l1 "java/util/AbstractList" "modCount" "I" (.int m1)) (P8 : Fld Z h0 l1 "java/util/ArrayList" "elementData" "[Ljava/lang/Object;" (.ref e1)) (P9 : Fld Z h0 l1 "java/util/ArrayList" "size" "I" (.int (Int32.ofNat n))) (P10 : Exa Z h0 e1 "[Ljava/lang/Object;") (P11 : Arv Z h0 e1 k1 (.object "java/lang/Object") (Int32.ofNat c1) [] .null) (P12 : Exa Z h0 l2 "java/util/ArrayList") (P13 : Fld Z h0 l2 "java/util/AbstractList" "modCount" "I" (.int m2)) (P14 : Fld Z h0 l2 "java/util/ArrayList" "elementData" "[Ljava/lang/Object;" (.ref e2)) (P15 : Fld Z h0 l2 "java/util/ArrayList" "size" "I" (.int (Int32.ofNat n))) (P16 : Exa Z h0 e2 "[Ljava/lang/Object;") (P17 : Arv Z h0 e2 k2 (.object "java/lang/Object") (Int32.ofNat c2) [] .null) (P18 : n0 ≤ b) (P19 : n0 ≤ l1) (P20 : n0 ≤ l2) (P21 : n0 ≤ e1) (P22 : n0 ≤ e2) (P23 : ¬ (b = l1)) (P24 : ¬ (b = l2)) (P25 : ¬ (b = e1)) (P26 : ¬ (b = e2)) (P27 : ¬ (l1 = l2)) (P28 : ¬ (l1 = e1)) (P29 : ¬ (l1 = e2)) (P30 : ¬ (l2 = e1)) (P31 : ¬ (l2 = e2)) (P32 : ¬ (e1 = e2)) (hn5 : n ≤ 5) (hn1 : n ≤ c1) (hc11 : 1 ≤ c1) (hc17 : c1 ≤ 7) (hn2 : n ≤ c2) (hc21 : 1 ≤ c2) (hc27 : c2 ≤ 7) (hM : own_Mir Z "[Ljava/lang/Object;" mr) (hq1 : 1 ≤ q) (hq4 : q ≤ 4) :
    MetFree l (⟨"com/example/tidegate/tidegate/Batch", "add", "(Ljava/lang/Object;Ljava/util/concurrent/CompletableFuture;J)V"⟩ : MethodName) (head1 (Jvm.Cond.code (⟨"com/example/tidegate/tidegate/Batch", "add", "(Ljava/lang/Object;Ljava/util/concurrent/CompletableFuture;J)V"⟩ : MethodName) prog_5_method_3_code 6 none :: ws) ({ frames := 8, cells := 3, slots := 18, locals := 170 } : Room)) (fun aa_ U => aa_ = #[(.ref b), .null, .null, (.long now)] ∧ Z.Warmed39 U.vm ∧ U.heap = h0) (fun _ _ _ _ _ => True) (fun _ U o U' => ∃ v L, o = .returned v ∧ Q_t0 Z b l1 l2 e1 e2 n c1 c2 m1 m2 k1 k2 mr q now v0 h0 n0 v U'.heap L ∧ FrameEnd U o U' L ({ frames := 8, cells := 3, slots := 18, locals := 170 } : Room).cells ({ frames := 8, cells := 3, slots := 18, locals := 170 } : Room).slots) := by
  refine MetFree.of_bodySF (plainFor_of_name pn_5) hisR ?_
  intro p e s m args below meth c s₁ Bd hml0 hP hK
  obtain ⟨rfl, hZ, hh⟩ := hP
  have hx := Bd.exec
  have hby := Bd.bytes
  have hml : c.maxLocals = 6 := hml0
  have hown : s.vm.findClass "com/example/tidegate/tidegate/Batch" = some m.cls := findClass_of_methodNamed Bd.named
  have hnm := (name_of_methodNamed Bd.named Bd.method).1
  have hlk : meth.locks = false := BodyLoose.notSynchronized Bd
  have X0 : Stand p l e ({ frames := 8, cells := 3, slots := 18, locals := 170 } : Room) s m #[(.ref b), .null, .null, (.long now)] below meth c s₁ [] 0 0 := Stand.of_body Bd
  have e0 : s₁.heap = h0 := by rw [← hh, Bd.state]; rfl
  have N0 := Fr.nil n0
  suffices G : Go p e below s (Q_t0 Z b l1 l2 e1 e2 n c1 c2 m1 m2 k1 k2 mr q now v0 h0 n0) 3 18 s₁ (mkF m 0 #[.val (.ref b), .val .null, .val .null, .val (.long now), .second, .unset] []) by
    obtain ⟨s2, o, h1, h2⟩ := G
    exact ⟨s2, o, castTop (ef_t0 m b now) h1, h2⟩
  refine Go.by (T' := s₁) (g' := (mkF m 1 #[.val (.ref b), .val .null, .val .null, .val (.long now), .second, .unset] [(.ref b)])) (fun t_ k_ => XS.aloadN X0.here hx rfl (hb hby d_prog_5_method_3_code_0) rfl rfl k_) ?_
  obtain ⟨T101, X101, e101, st101⟩ := getF X0 hx hZ hown (host := "") (Or.inl (hw _ (List.mem_of_getElem? (i := 111) rfl))) Via.refl e0 P4 (g := (mkF m 1 #[.val (.ref b), .val .null, .val .null, .val (.long now), .second, .unset] [(.ref b)])) rfl rfl (hb hby d_prog_5_method_3_code_1)
  refine Go.by (T' := T101) (g' := (mkF m 4 #[.val (.ref b), .val .null, .val .null, .val (.long now), .second, .unset] [.null])) (fun t_ k_ => st101 _ k_) ?_
  refine Go.by (T' := T101) (g' := (mkF m 7 #[.val (.ref b), .val .null, .val .null, .val (.long now), .second, .unset] [])) (fun t_ k_ => XS.ifnonnullNo X101.here hx rfl (hb hby d_prog_5_method_3_code_4) rfl k_) ?_
  refine Go.by (T' := T101) (g' := (mkF m 8 #[.val (.ref b), .val .null, .val .null, .val (.long now), .second, .unset] [(.ref b)])) (fun t_ k_ => XS.aloadN X101.here hx rfl (hb hby d_prog_5_method_3_code_7) rfl rfl k_) ?_
  refine Go.by (T' := T101) (g' := (mkF m 9 #[.val (.ref b), .val .null, .val .null, .val (.long now), .second, .unset] [(.ref b), (.ref b)])) (fun t_ k_ => XS.aloadN X101.here hx rfl (hb hby d_prog_5_method_3_code_8) rfl rfl k_) ?_
  obtain ⟨T102, X102, e102, st102⟩ := getF X101 hx hZ hown (host := "") (Or.inl (hw _ (List.mem_of_getElem? (i := 9) rfl))) Via.refl e101 P1 (g := (mkF m 9 #[.val (.ref b), .val .null, .val .null, .val (.long now), .second, .unset] [(.ref b), (.ref b)])) rfl rfl (hb hby d_prog_5_method_3_code_9)
  refine Go.by (T' := T102) (g' := (mkF m 12 #[.val (.ref b), .val .null, .val .null, .val (.long now), .second, .unset] [(.int (Int32.ofNat q)), (.ref b)])) (fun t_ k_ => st102 _ k_) ?_
  obtain ⟨T103, h103, kc103, X103, e103, E103, A103, st103⟩ := newP X102 hx hZ (hw _ (List.mem_of_getElem? (i := 118) rfl)) e102 (g := (mkF m 12 #[.val (.ref b), .val .null, .val .null, .val (.long now), .second, .unset] [(.int (Int32.ofNat q)), (.ref b)])) rfl (hb hby d_prog_5_method_3_code_12) rfl (own_nn (by omega)) (cap := 4) (by rw [own_nat (by omega)]; omega) (by decide) (by decide) (by decide)
  obtain ⟨b103, g103⟩ : ∃ z, z = h0.size := ⟨_, rfl⟩
  rw [← g103] at A103 st103
  have ge_b103 : n0 ≤ b103 := Nat.le_trans X00.sz (Nat.le_of_eq g103.symm)
  have sz_b103 : h0.size ≤ b103 := Nat.le_trans (Keep.refl h0 [b, l1, e1, l2, e2]).1 (Nat.le_of_eq g103.symm)
  have ne_b_b103 : ¬ (b = b103) := Nat.ne_of_lt (Nat.lt_of_lt_of_le P0.lt (Nat.le_of_eq g103.symm))
  have ne_l1_b103 : ¬ (l1 = b103) := Nat.ne_of_lt (Nat.lt_of_lt_of_le P6.lt (Nat.le_of_eq g103.symm))
  have ne_e1_b103 : ¬ (e1 = b103) := Nat.ne_of_lt (Nat.lt_of_lt_of_le P10.lt (Nat.le_of_eq g103.symm))
  have ne_l2_b103 : ¬ (l2 = b103) := Nat.ne_of_lt (Nat.lt_of_lt_of_le P12.lt (Nat.le_of_eq g103.symm))
  have ne_e2_b103 : ¬ (e2 = b103) := Nat.ne_of_lt (Nat.lt_of_lt_of_le P16.lt (Nat.le_of_eq g103.symm))
  have V103 : Arv Z h103 b103 kc103 .long (Int32.ofNat q) [] (.long (0 : Int64)) := Arv.new A103 (own_nn (by omega))
  refine Go.by (T' := T103) (g' := (mkF m 14 #[.val (.ref b), .val .null, .val .null, .val (.long now), .second, .unset] [(.ref b103), (.ref b)])) (fun t_ k_ => st103 _ k_) ?_
  have F104 : Fld Z h103 b "com/example/tidegate/tidegate/Batch" "acceptedAt" "[J" .null := (P4.ext E103)
  have F105 : Exa Z h103 b "com/example/tidegate/tidegate/Batch" := (P0.ext E103)
  have Od106 : Old Z n0 h103 := (X00.ext E103)
  have Kp107 : Keep h0 h103 [b, l1, e1, l2, e2] := ((Keep.refl h0 [b, l1, e1, l2, e2]).ext E103)
  obtain ⟨T108, h108, X108, e108, W108, st108⟩ := putF X103 hx hZ hown (host := "") (Or.inl (hw _ (List.mem_of_getElem? (i := 111) rfl))) Via.refl e103 F104 F105 (Or.inl (hw _ (List.mem_of_getElem? (i := 112) rfl))) (hw _ (List.mem_of_getElem? (i := 1) rfl)) (ty := (.array .long)) (by decide) rfl rfl (g := (mkF m 14 #[.val (.ref b), .val .null, .val .null, .val (.long now), .second, .unset] [(.ref b103), (.ref b)])) rfl rfl (hb hby d_prog_5_method_3_code_14)
  have Fw108 : Fld Z h108 b "com/example/tidegate/tidegate/Batch" "acceptedAt" "[J" (.ref b103) := F104.same W108
  have N108 := Fr.snoc X108 N0 P18
  refine Go.by (T' := T108) (g' := (mkF m 17 #[.val (.ref b), .val .null, .val .null, .val (.long now), .second, .unset] [])) (fun t_ k_ => st108 _ k_) ?_
  refine Go.by (T' := T108) (g' := (mkF m 18 #[.val (.ref b), .val .null, .val .null, .val (.long now), .second, .unset] [(.ref b)])) (fun t_ k_ => XS.aloadN X108.here hx rfl (hb hby d_prog_5_method_3_code_17) rfl rfl k_) ?_
  refine Go.by (T' := T108) (g' := (mkF m 19 #[.val (.ref b), .val .null, .val .null, .val (.long now), .second, .unset] [(.ref b), (.ref b)])) (fun t_ k_ => XS.aloadN X108.here hx rfl (hb hby d_prog_5_method_3_code_18) rfl rfl k_) ?_
  have F109 : Fld Z h108 b "com/example/tidegate/tidegate/Batch" "completions" "Ljava/util/List;" (.ref l2) := ((P3.ext E103).other W108 (Or.inr (slot_ne (Or.inr (hw _ (List.mem_of_getElem? (i := 39) rfl))) (Or.inl (hw _ (List.mem_of_getElem? (i := 112) rfl))) (by decide) (t := (.object "java/util/List")) (t' := (.array .long)) (by decide) (by decide))))
  have F110 : Exa Z h108 l2 "java/util/ArrayList" := ((P12.ext E103).wr W108)
  have F111 : Fld Z h108 l2 "java/util/ArrayList" "size" "I" (.int (Int32.ofNat n)) := ((P15.ext E103).other W108 (Or.inl (Ne.symm P24)))
  have Od112 : Old Z n0 h108 := (Od106.wr W108 P18)
  have F114 : Exa Z h108 b "com/example/tidegate/tidegate/Batch" := (F105.wr W108)
  obtain ⟨cq113, kq113, q113a, q113b, q113c⟩ := isOf hZ e108 F114
  obtain ⟨_, _, ⟨T113, L113, k113, n113⟩, -, X113, ⟨Lc113, hQ113, l113, y113, z113⟩, st113⟩ := X108.virtualBack hx (y := (⟨"com/example/tidegate/tidegate/Batch", "size", "()I"⟩ : MethodName)) (z := (⟨"com/example/tidegate/tidegate/Batch", "size", "()I"⟩ : MethodName)) hown (mvT hZ (hw _ (List.mem_of_getElem? (i := 119) rfl))) (mvT hZ (hw _ (List.mem_of_getElem? (i := 120) rfl))) (notFace_of_selects (args := #[]) (mvT hZ (hw _ (List.mem_of_getElem? (i := 122) rfl)))) (mvT hZ (hw _ (List.mem_of_getElem? (i := 122) rfl))) (mvT hZ (hw _ (List.mem_of_getElem? (i := 121) rfl))) (by decide) (backOf (W := 1) (rm_bsize l Z a0 hw [] b l2 n h108 n0 Od112 F109 F110 F111) hZ (hw _ (List.mem_of_getElem? (i := 123) rfl)) (hw _ (List.mem_of_getElem? (i := 2) rfl)) (by decide) (by decide)) q113a q113c (g := (mkF m 19 #[.val (.ref b), .val .null, .val .null, .val (.long now), .second, .unset] [(.ref b), (.ref b)])) rfl (by rw [hml]; rfl) (Steps.refl _) (argsL := []) (rest := [(.ref b)]) (lenOf pd_10 rfl) rfl (by show 2 * 0 + _ ≤ _; exact Nat.le_of_eq rfl) (hb hby d_prog_5_method_3_code_19) (fun _ _ => ⟨rfl, e108, (by decide : 1 + 0 ≤ _), (by decide : 4 + 0 ≤ _)⟩)
  dsimp only [Pt.U, Pt.locs, Pt.cells, Pt.slots] at X113 l113 y113 z113 st113 hQ113
  subst l113 y113 z113
  obtain ⟨rfl, N113q, e113⟩ := hQ113
  have N113 := Fr.app N108 N113q
  refine Go.by (T' := T113) (g' := (mkF m 22 #[.val (.ref b), .val .null, .val .null, .val (.long now), .second, .unset] [(.int (Int32.ofNat n)), (.ref b)])) (fun t_ k_ => st113.trans k_) ?_
  have F115 : Fld Z h108 b "com/example/tidegate/tidegate/Batch" "firstTimed" "I" (.int v0) := ((P5.ext E103).other W108 (Or.inr (slot_ne (Or.inl (hw _ (List.mem_of_getElem? (i := 133) rfl))) (Or.inl (hw _ (List.mem_of_getElem? (i := 112) rfl))) (by decide) (t := .int) (t' := (.array .long)) (by decide) (by decide))))
  have Kp116 : Keep h0 h108 [b, l1, e1, l2, e2] := (Kp107.wr W108 (Or.inl (List.mem_of_getElem? (i := 0) rfl)))
  obtain ⟨T117, h117, X117, e117, W117, st117⟩ := putF X113 hx hZ hown (host := "") (Or.inl (hw _ (List.mem_of_getElem? (i := 132) rfl))) Via.refl e113 F115 F114 (Or.inl (hw _ (List.mem_of_getElem? (i := 133) rfl))) (hw _ (List.mem_of_getElem? (i := 1) rfl)) (ty := .int) (by decide) rfl rfl (g := (mkF m 22 #[.val (.ref b), .val .null, .val .null, .val (.long now), .second, .unset] [(.int (Int32.ofNat n)), (.ref b)])) rfl rfl (hb hby d_prog_5_method_3_code_22)
  have Fw117 : Fld Z h117 b "com/example/tidegate/tidegate/Batch" "firstTimed" "I" (.int (Int32.ofNat n)) := F115.same W117
  have N117 := Fr.snoc X117 N113 P18
  refine Go.by (T' := T117) (g' := (mkF m 25 #[.val (.ref b), .val .null, .val .null, .val (.long now), .second, .unset] [])) (fun t_ k_ => st117 _ k_) ?_
  refine Go.by (T' := T117) (g' := (mkF m 26 #[.val (.ref b), .val .null, .val .null, .val (.long now), .second, .unset] [(.ref b)])) (fun t_ k_ => XS.aloadN X117.here hx rfl (hb hby d_prog_5_method_3_code_25) rfl rfl k_) ?_
  have F118 : Fld Z h117 b "com/example/tidegate/tidegate/Batch" "completions" "Ljava/util/List;" (.ref l2) := (F109.other W117 (Or.inr (slot_ne (Or.inr (hw _ (List.mem_of_getElem? (i := 39) rfl))) (Or.inl (hw _ (List.mem_of_getElem? (i := 133) rfl))) (by decide) (t := (.object "java/util/List")) (t' := .int) (by decide) (by decide))))
  have F119 : Exa Z h117 l2 "java/util/ArrayList" := (F110.wr W117)
  have F120 : Fld Z h117 l2 "java/util/ArrayList" "size" "I" (.int (Int32.ofNat n)) := (F111.other W117 (Or.inl (Ne.symm P24)))
  have Od121 : Old Z n0 h117 := (Od112.wr W117 P18)
  have F123 : Exa Z h117 b "com/example/tidegate/tidegate/Batch" := (F114.wr W117)
  obtain ⟨cq122, kq122, q122a, q122b, q122c⟩ := isOf hZ e117 F123
  obtain ⟨_, _, ⟨T122, L122, k122, n122⟩, -, X122, ⟨Lc122, hQ122, l122, y122, z122⟩, st122⟩ := X117.virtualBack hx (y := (⟨"com/example/tidegate/tidegate/Batch", "size", "()I"⟩ : MethodName)) (z := (⟨"com/example/tidegate/tidegate/Batch", "size", "()I"⟩ : MethodName)) hown (mvT hZ (hw _ (List.mem_of_getElem? (i := 119) rfl))) (mvT hZ (hw _ (List.mem_of_getElem? (i := 120) rfl))) (notFace_of_selects (args := #[]) (mvT hZ (hw _ (List.mem_of_getElem? (i := 122) rfl)))) (mvT hZ (hw _ (List.mem_of_getElem? (i := 122) rfl))) (mvT hZ (hw _ (List.mem_of_getElem? (i := 121) rfl))) (by decide) (backOf (W := 0) (rm_bsize l Z a0 hw [] b l2 n h117 n0 Od121 F118 F119 F120) hZ (hw _ (List.mem_of_getElem? (i := 123) rfl)) (hw _ (List.mem_of_getElem? (i := 2) rfl)) (by decide) (by decide)) q122a q122c (g := (mkF m 26 #[.val (.ref b), .val .null, .val .null, .val (.long now), .second, .unset] [(.ref b)])) rfl (by rw [hml]; rfl) (Steps.refl _) (argsL := []) (rest := []) (lenOf pd_10 rfl) rfl (by show 2 * 0 + _ ≤ _; exact Nat.le_of_eq rfl) (hb hby d_prog_5_method_3_code_26) (fun _ _ => ⟨rfl, e117, (by decide : 1 + 0 ≤ _), (by decide : 4 + 0 ≤ _)⟩)
  dsimp only [Pt.U, Pt.locs, Pt.cells, Pt.slots] at X122 l122 y122 z122 st122 hQ122
  subst l122 y122 z122
  obtain ⟨rfl, N122q, e122⟩ := hQ122
  have N122 := Fr.app N117 N122q
  refine Go.by (T' := T122) (g' := (mkF m 29 #[.val (.ref b), .val .null, .val .null, .val (.long now), .second, .unset] [(.int (Int32.ofNat n))])) (fun t_ k_ => st122.trans k_) ?_
  refine Go.by (T' := T122) (g' := (mkF m 30 #[.val (.ref b), .val .null, .val .null, .val (.long now), .second, .unset] [(.ref b), (.int (Int32.ofNat n))])) (fun t_ k_ => XS.aloadN X122.here hx rfl (hb hby d_prog_5_method_3_code_29) rfl rfl k_) ?_
  obtain ⟨T124, X124, e124, st124⟩ := getF X122 hx hZ hown (host := "") (Or.inl (hw _ (List.mem_of_getElem? (i := 132) rfl))) Via.refl e122 Fw117 (g := (mkF m 30 #[.val (.ref b), .val .null, .val .null, .val (.long now), .second, .unset] [(.ref b), (.int (Int32.ofNat n))])) rfl rfl (hb hby d_prog_5_method_3_code_30)
  refine Go.by (T' := T124) (g' := (mkF m 33 #[.val (.ref b), .val .null, .val .null, .val (.long now), .second, .unset] [(.int (Int32.ofNat n)), (.int (Int32.ofNat n))])) (fun t_ k_ => st124 _ k_) ?_
  refine Go.by (T' := T124) (g' := (mkF m 34 #[.val (.ref b), .val .null, .val .null, .val (.long now), .second, .unset] [(.int ((Int32.ofNat n) - (Int32.ofNat n)))])) (fun t_ k_ => XS.isub X124.here hx rfl (hb hby d_prog_5_method_3_code_33) rfl k_) ?_
  rw [Int32.sub_self]
  refine Go.by (T' := T124) (g' := (mkF m 36 #[.val (.ref b), .val .null, .val .null, .val (.long now), .second, .val (.int (0 : Int32))] [])) (fun t_ k_ => XS.istore X124.here hx rfl (hb hby d_prog_5_method_3_code_34) rfl (l' := #[.val (.ref b), .val .null, .val .null, .val (.long now), .second, .val (.int (0 : Int32))]) rfl k_) ?_
  refine Go.by (T' := T124) (g' := (mkF m 38 #[.val (.ref b), .val .null, .val .null, .val (.long now), .second, .val (.int (0 : Int32))] [(.int (0 : Int32))])) (fun t_ k_ => XS.iload X124.here hx rfl (hb hby d_prog_5_method_3_code_36) rfl k_) ?_
  refine Go.by (T' := T124) (g' := (mkF m 39 #[.val (.ref b), .val .null, .val .null, .val (.long now), .second, .val (.int (0 : Int32))] [(.ref b), (.int (0 : Int32))])) (fun t_ k_ => XS.aloadN X124.here hx rfl (hb hby d_prog_5_method_3_code_38) rfl rfl k_) ?_
  have F125 : Fld Z h117 b "com/example/tidegate/tidegate/Batch" "acceptedAt" "[J" (.ref b103) := (Fw108.other W117 (Or.inr (slot_ne (Or.inl (hw _ (List.mem_of_getElem? (i := 112) rfl))) (Or.inl (hw _ (List.mem_of_getElem? (i := 133) rfl))) (by decide) (t := (.array .long)) (t' := .int) (by decide) (by decide))))
  obtain ⟨T126, X126, e126, st126⟩ := getF X124 hx hZ hown (host := "") (Or.inl (hw _ (List.mem_of_getElem? (i := 111) rfl))) Via.refl e124 F125 (g := (mkF m 39 #[.val (.ref b), .val .null, .val .null, .val (.long now), .second, .val (.int (0 : Int32))] [(.ref b), (.int (0 : Int32))])) rfl rfl (hb hby d_prog_5_method_3_code_39)
  refine Go.by (T' := T126) (g' := (mkF m 42 #[.val (.ref b), .val .null, .val .null, .val (.long now), .second, .val (.int (0 : Int32))] [(.ref b103), (.int (0 : Int32))])) (fun t_ k_ => st126 _ k_) ?_
  have F127 : Arv Z h117 b103 kc103 .long (Int32.ofNat q) [] (.long (0 : Int64)) := ((V103.other W108 (Ne.symm ne_b_b103)).other W117 (Ne.symm ne_b_b103))
  obtain ⟨cl128, Ar128, -, Sz128, Ng128, -, -⟩ := id F127
  refine Go.by (T' := T126) (g' := (mkF m 43 #[.val (.ref b), .val .null, .val .null, .val (.long now), .second, .val (.int (0 : Int32))] [(.int (Int32.ofNat q)), (.int (0 : Int32))])) (fun t_ k_ => X126.arraylength hx (by rw [e126]; exact Ar128.1) (State.isArrayOf_alike hZ.alike Ar128.2.1) (g := (mkF m 42 #[.val (.ref b), .val .null, .val .null, .val (.long now), .second, .val (.int (0 : Int32))] [(.ref b103), (.int (0 : Int32))])) rfl rfl (hb hby d_prog_5_method_3_code_42) _ (by rw [len_of Sz128 Ng128]; exact k_)) ?_
  refine Go.by (T' := T126) (g' := (mkF m 61 #[.val (.ref b), .val .null, .val .null, .val (.long now), .second, .val (.int (0 : Int32))] [])) (fun t_ k_ => XS.icmpYes X126.here hx rfl (pc0 := 43) (pc' := 61) rfl (hb hby d_prog_5_method_3_code_43) rfl (feq (by rw [show (0 : Int32) = Int32.ofNat 0 from rfl, own_inj (by omega) (by omega)]; omega)).2 (by decide) (by decide) k_) ?_
  refine Go.by (T' := T126) (g' := (mkF m 62 #[.val (.ref b), .val .null, .val .null, .val (.long now), .second, .val (.int (0 : Int32))] [(.ref b)])) (fun t_ k_ => XS.aloadN X126.here hx rfl (hb hby d_prog_5_method_3_code_61) rfl rfl k_) ?_
  obtain ⟨T129, X129, e129, st129⟩ := getF X126 hx hZ hown (host := "") (Or.inl (hw _ (List.mem_of_getElem? (i := 111) rfl))) Via.refl e126 F125 (g := (mkF m 62 #[.val (.ref b), .val .null, .val .null, .val (.long now), .second, .val (.int (0 : Int32))] [(.ref b)])) rfl rfl (hb hby d_prog_5_method_3_code_62)
  refine Go.by (T' := T129) (g' := (mkF m 65 #[.val (.ref b), .val .null, .val .null, .val (.long now), .second, .val (.int (0 : Int32))] [(.ref b103)])) (fun t_ k_ => st129 _ k_) ?_
  refine Go.by (T' := T129) (g' := (mkF m 67 #[.val (.ref b), .val .null, .val .null, .val (.long now), .second, .val (.int (0 : Int32))] [(.int (0 : Int32)), (.ref b103)])) (fun t_ k_ => XS.iload X129.here hx rfl (hb hby d_prog_5_method_3_code_65) rfl k_) ?_
  refine Go.by (T' := T129) (g' := (mkF m 68 #[.val (.ref b), .val .null, .val .null, .val (.long now), .second, .val (.int (0 : Int32))] [(.long now), (.int (0 : Int32)), (.ref b103)])) (fun t_ k_ => XS.lloadN X129.here hx rfl (hb hby d_prog_5_method_3_code_67) rfl k_) ?_
  have V130 : Arv Z h117 b103 kc103 .long (Int32.ofNat q) [(.long (0 : Int64))] (.long (0 : Int64)) := F127.pad (pad_rep [] (.long (0 : Int64)) 1)
  have Kp132 : Keep h0 h117 [b, l1, e1, l2, e2] := (Kp116.wr W117 (Or.inl (List.mem_of_getElem? (i := 0) rfl)))
  obtain ⟨cl131, Ar131, q131, Sz131, Ng131, Hs131, Gs131⟩ := id V130
  obtain ⟨T133, h133, X133, e133, W133, st133⟩ := stJ X129 hx hZ e129 Ar131 (j := (0 : Int32)) (inb_of Sz131 (own_inb (i := 0) (show 0 < q by omega) (by omega))) (g := (mkF m 68 #[.val (.ref b), .val .null, .val .null, .val (.long now), .second, .val (.int (0 : Int32))] [(.long now), (.int (0 : Int32)), (.ref b103)])) rfl rfl (hb hby d_prog_5_method_3_code_68)
  have V133 : Arv Z h133 b103 kc103 .long (Int32.ofNat q) [(.long now)] (.long (0 : Int64)) := Arv.set Ar131 q131 Sz131 Ng131 Hs131 Gs131 rfl W133 0 rfl (Nat.le_of_ble_eq_true rfl)
  have N133 := Fr.snoc X133 N122 ge_b103
  refine Go.by (T' := T133) (g' := (mkF m 69 #[.val (.ref b), .val .null, .val .null, .val (.long now), .second, .val (.int (0 : Int32))] [])) (fun t_ k_ => st133 _ k_) ?_
  refine Go.by (T' := T133) (g' := (mkF m 70 #[.val (.ref b), .val .null, .val .null, .val (.long now), .second, .val (.int (0 : Int32))] [(.ref b)])) (fun t_ k_ => XS.aloadN X133.here hx rfl (hb hby d_prog_5_method_3_code_69) rfl rfl k_) ?_
  refine Go.by (T' := T133) (g' := (mkF m 71 #[.val (.ref b), .val .null, .val .null, .val (.long now), .second, .val (.int (0 : Int32))] [.null, (.ref b)])) (fun t_ k_ => XS.aloadN X133.here hx rfl (hb hby d_prog_5_method_3_code_70) rfl rfl k_) ?_
  refine Go.by (T' := T133) (g' := (mkF m 72 #[.val (.ref b), .val .null, .val .null, .val (.long now), .second, .val (.int (0 : Int32))] [.null, .null, (.ref b)])) (fun t_ k_ => XS.aloadN X133.here hx rfl (hb hby d_prog_5_method_3_code_71) rfl rfl k_) ?_
  have F134 : Exa Z h133 b "com/example/tidegate/tidegate/Batch" := (F123.wr W133)
  have F135 : Fld Z h133 b "com/example/tidegate/tidegate/Batch" "items" "Ljava/util/List;" (.ref l1) := ((((P2.ext E103).other W108 (Or.inr (slot_ne (Or.inr (hw _ (List.mem_of_getElem? (i := 37) rfl))) (Or.inl (hw _ (List.mem_of_getElem? (i := 112) rfl))) (by decide) (t := (.object "java/util/List")) (t' := (.array .long)) (by decide) (by decide)))).other W117 (Or.inr (slot_ne (Or.inr (hw _ (List.mem_of_getElem? (i := 37) rfl))) (Or.inl (hw _ (List.mem_of_getElem? (i := 133) rfl))) (by decide) (t := (.object "java/util/List")) (t' := .int) (by decide) (by decide)))).other W133 (Or.inl ne_b_b103))
  have F136 : Fld Z h133 b "com/example/tidegate/tidegate/Batch" "completions" "Ljava/util/List;" (.ref l2) := (F118.other W133 (Or.inl ne_b_b103))
  have F137 : Exa Z h133 l1 "java/util/ArrayList" := ((((P6.ext E103).wr W108).wr W117).wr W133)
  have F138 : Fld Z h133 l1 "java/util/AbstractList" "modCount" "I" (.int m1) := ((((P7.ext E103).other W108 (Or.inl (Ne.symm P23))).other W117 (Or.inl (Ne.symm P23))).other W133 (Or.inl ne_l1_b103))
  have F139 : Fld Z h133 l1 "java/util/ArrayList" "elementData" "[Ljava/lang/Object;" (.ref e1) := ((((P8.ext E103).other W108 (Or.inl (Ne.symm P23))).other W117 (Or.inl (Ne.symm P23))).other W133 (Or.inl ne_l1_b103))
  have F140 : Fld Z h133 l1 "java/util/ArrayList" "size" "I" (.int (Int32.ofNat n)) := ((((P9.ext E103).other W108 (Or.inl (Ne.symm P23))).other W117 (Or.inl (Ne.symm P23))).other W133 (Or.inl ne_l1_b103))
  have F141 : Exa Z h133 e1 "[Ljava/lang/Object;" := ((((P10.ext E103).wr W108).wr W117).wr W133)
  have F142 : Arv Z h133 e1 k1 (.object "java/lang/Object") (Int32.ofNat c1) [] .null := ((((P11.ext E103).other W108 (Ne.symm P25)).other W117 (Ne.symm P25)).other W133 ne_e1_b103)
  have F143 : Exa Z h133 l2 "java/util/ArrayList" := (F119.wr W133)
  have F144 : Fld Z h133 l2 "java/util/AbstractList" "modCount" "I" (.int m2) := ((((P13.ext E103).other W108 (Or.inl (Ne.symm P24))).other W117 (Or.inl (Ne.symm P24))).other W133 (Or.inl ne_l2_b103))
  have F145 : Fld Z h133 l2 "java/util/ArrayList" "elementData" "[Ljava/lang/Object;" (.ref e2) := ((((P14.ext E103).other W108 (Or.inl (Ne.symm P24))).other W117 (Or.inl (Ne.symm P24))).other W133 (Or.inl ne_l2_b103))
  have F146 : Fld Z h133 l2 "java/util/ArrayList" "size" "I" (.int (Int32.ofNat n)) := (F120.other W133 (Or.inl ne_l2_b103))
  have F147 : Exa Z h133 e2 "[Ljava/lang/Object;" := ((((P16.ext E103).wr W108).wr W117).wr W133)
  have F148 : Arv Z h133 e2 k2 (.object "java/lang/Object") (Int32.ofNat c2) [] .null := ((((P17.ext E103).other W108 (Ne.symm P26)).other W117 (Ne.symm P26)).other W133 ne_e2_b103)
  have Od149 : Old Z n0 h133 := (Od121.wr W133 ge_b103)
  have Kp150 : Keep h0 h133 [b, l1, e1, l2, e2] := (Kp132.wr W133 (Or.inr sz_b103))
  obtain ⟨cq151, kq151, q151a, q151b, q151c⟩ := isOf hZ e133 F134
  obtain ⟨_, _, ⟨T151, L151, k151, n151⟩, -, X151, ⟨Lc151, hQ151, l151, y151, z151⟩, st151⟩ := X133.virtualBack hx (y := (⟨"com/example/tidegate/tidegate/Batch", "add", "(Ljava/lang/Object;Ljava/util/concurrent/CompletableFuture;)V"⟩ : MethodName)) (z := (⟨"com/example/tidegate/tidegate/Batch", "add", "(Ljava/lang/Object;Ljava/util/concurrent/CompletableFuture;)V"⟩ : MethodName)) hown (mvT hZ (hw _ (List.mem_of_getElem? (i := 134) rfl))) (mvT hZ (hw _ (List.mem_of_getElem? (i := 41) rfl))) (notFace_of_selects (args := #[]) (mvT hZ (hw _ (List.mem_of_getElem? (i := 43) rfl)))) (mvT hZ (hw _ (List.mem_of_getElem? (i := 43) rfl))) (mvT hZ (hw _ (List.mem_of_getElem? (i := 42) rfl))) (by decide) (backOf (W := 0) (rm_badd l Z a0 hw [] b l1 l2 e1 e2 n c1 c2 m1 m2 k1 k2 mr h133 n0 Od149 F134 F135 F136 F137 F138 F139 F140 F141 F142 F143 F144 F145 F146 F147 F148 P19 P20 P21 P22 P23 P24 P25 P26 P27 P28 P29 P30 P31 P32 hn5 hn1 hc11 hc17 hn2 hc21 hc27 hM) hZ (hw _ (List.mem_of_getElem? (i := 44) rfl)) (hw _ (List.mem_of_getElem? (i := 2) rfl)) (by decide) (by decide)) q151a q151c (g := (mkF m 72 #[.val (.ref b), .val .null, .val .null, .val (.long now), .second, .val (.int (0 : Int32))] [.null, .null, (.ref b)])) rfl (by rw [hml]; rfl) (Steps.refl _) (argsL := [.null, .null]) (rest := []) (lenOf pd_11 rfl) rfl (by show 2 * 0 + _ ≤ _; exact Nat.le_of_eq rfl) (hb hby d_prog_5_method_3_code_72) (fun _ _ => ⟨rfl, e133, (by decide : 1 + 2 ≤ _), (by decide : 4 + 14 ≤ _)⟩)
  dsimp only [Pt.U, Pt.locs, Pt.cells, Pt.slots] at X151 l151 y151 z151 st151 hQ151
  subst l151 y151 z151
  obtain ⟨f1_151, f2_151, d1_151, d2_151, r1_151, r2_151, j1_151, j2_151, rfl, N151q, K151, G151_0, G151_1, G151_2, G151_3, G151_4, G151_5, G151_6, G151_7, G151_8, G151_9, G151_10, G151_11, G151_12, G151_13, G151_14, G151_15, G151_16, G151_17, G151_18, G151_19⟩ := hQ151
  have N151 := Fr.app N133 N151q
  have ge_f1_151 : n0 ≤ f1_151 := G151_0.elim (fun q => q.symm ▸ P21) (fun q => Nat.le_trans Od149.sz q)
  have km_f1_151 : f1_151 ∈ [b, l1, e1, l2, e2] ∨ h0.size ≤ f1_151 := G151_0.elim (fun q => q.symm ▸ (Or.inl (List.mem_of_getElem? (i := 2) rfl))) (fun q => Or.inr (Nat.le_trans Kp150.1 q))
  have fo_f1_151 : f1_151 = e1 ∨ h0.size ≤ f1_151 := G151_0.imp id (fun q => Nat.le_trans Kp150.1 q)
  have ne_b_f1_151 : ¬ (b = f1_151) := fun r => G151_0.elim (fun q => P25 (r.trans q)) (fun q => Nat.ne_of_lt (Nat.lt_of_lt_of_le F134.lt q) r)
  have ne_l1_f1_151 : ¬ (l1 = f1_151) := fun r => G151_0.elim (fun q => P28 (r.trans q)) (fun q => Nat.ne_of_lt (Nat.lt_of_lt_of_le F137.lt q) r)
  have ne_l2_f1_151 : ¬ (l2 = f1_151) := fun r => G151_0.elim (fun q => P30 (r.trans q)) (fun q => Nat.ne_of_lt (Nat.lt_of_lt_of_le F143.lt q) r)
  have ne_e2_f1_151 : ¬ (e2 = f1_151) := fun r => G151_0.elim (fun q => (Ne.symm P32) (r.trans q)) (fun q => Nat.ne_of_lt (Nat.lt_of_lt_of_le F147.lt q) r)
  have ne_b103_f1_151 : ¬ (b103 = f1_151) := fun r => G151_0.elim (fun q => (Ne.symm ne_e1_b103) (r.trans q)) (fun q => Nat.ne_of_lt (Nat.lt_of_lt_of_le V133.lt q) r)
  have ge_f2_151 : n0 ≤ f2_151 := G151_1.elim (fun q => q.symm ▸ P22) (fun q => Nat.le_trans Od149.sz q)
  have km_f2_151 : f2_151 ∈ [b, l1, e1, l2, e2] ∨ h0.size ≤ f2_151 := G151_1.elim (fun q => q.symm ▸ (Or.inl (List.mem_of_getElem? (i := 4) rfl))) (fun q => Or.inr (Nat.le_trans Kp150.1 q))
  have fo_f2_151 : f2_151 = e2 ∨ h0.size ≤ f2_151 := G151_1.imp id (fun q => Nat.le_trans Kp150.1 q)
  have ne_b_f2_151 : ¬ (b = f2_151) := fun r => G151_1.elim (fun q => P26 (r.trans q)) (fun q => Nat.ne_of_lt (Nat.lt_of_lt_of_le F134.lt q) r)
  have ne_l1_f2_151 : ¬ (l1 = f2_151) := fun r => G151_1.elim (fun q => P29 (r.trans q)) (fun q => Nat.ne_of_lt (Nat.lt_of_lt_of_le F137.lt q) r)
  have ne_e1_f2_151 : ¬ (e1 = f2_151) := fun r => G151_1.elim (fun q => P32 (r.trans q)) (fun q => Nat.ne_of_lt (Nat.lt_of_lt_of_le F141.lt q) r)
  have ne_l2_f2_151 : ¬ (l2 = f2_151) := fun r => G151_1.elim (fun q => P31 (r.trans q)) (fun q => Nat.ne_of_lt (Nat.lt_of_lt_of_le F143.lt q) r)
  have ne_b103_f2_151 : ¬ (b103 = f2_151) := fun r => G151_1.elim (fun q => (Ne.symm ne_e2_b103) (r.trans q)) (fun q => Nat.ne_of_lt (Nat.lt_of_lt_of_le V133.lt q) r)
  refine Go.by (T' := T151) (g' := (mkF m 75 #[.val (.ref b), .val .null, .val .null, .val (.long now), .second, .val (.int (0 : Int32))] [])) (fun t_ k_ => st151.trans k_) ?_
  have F152 : Exa Z T151.heap b "com/example/tidegate/tidegate/Batch" := (F134.keep K151)
  have F153 : Fld Z T151.heap b "com/example/tidegate/tidegate/Batch" "presized" "I" (.int (Int32.ofNat q)) := (((((P1.ext E103).other W108 (Or.inr (slot_ne (Or.inr (hw _ (List.mem_of_getElem? (i := 10) rfl))) (Or.inl (hw _ (List.mem_of_getElem? (i := 112) rfl))) (by decide) (t := .int) (t' := (.array .long)) (by decide) (by decide)))).other W117 (Or.inr (slot_ne (Or.inr (hw _ (List.mem_of_getElem? (i := 10) rfl))) (Or.inl (hw _ (List.mem_of_getElem? (i := 133) rfl))) (by decide) (t := .int) (t' := .int) (by decide) (by decide)))).other W133 (Or.inl ne_b_b103)).keep K151 (ninS P23 (ninS P25 (ninS P24 (ninS P26 nin0)))))
  have F154 : Fld Z T151.heap b "com/example/tidegate/tidegate/Batch" "items" "Ljava/util/List;" (.ref l1) := (F135.keep K151 (ninS P23 (ninS P25 (ninS P24 (ninS P26 nin0)))))
  have F155 : Fld Z T151.heap b "com/example/tidegate/tidegate/Batch" "completions" "Ljava/util/List;" (.ref l2) := (F136.keep K151 (ninS P23 (ninS P25 (ninS P24 (ninS P26 nin0)))))
  have F156 : Fld Z T151.heap b "com/example/tidegate/tidegate/Batch" "acceptedAt" "[J" (.ref b103) := ((F125.other W133 (Or.inl ne_b_b103)).keep K151 (ninS P23 (ninS P25 (ninS P24 (ninS P26 nin0)))))
  have F157 : Fld Z T151.heap b "com/example/tidegate/tidegate/Batch" "firstTimed" "I" (.int (Int32.ofNat n)) := ((Fw117.other W133 (Or.inl ne_b_b103)).keep K151 (ninS P23 (ninS P25 (ninS P24 (ninS P26 nin0)))))
  have F158 : Arv Z T151.heap b103 kc103 .long (Int32.ofNat q) [(.long now)] (.long (0 : Int64)) := (V133.keep K151 (ninS (Ne.symm ne_l1_b103) (ninS (Ne.symm ne_e1_b103) (ninS (Ne.symm ne_l2_b103) (ninS (Ne.symm ne_e2_b103) nin0)))))
  have Kp159 : Keep h0 T151.heap [b, l1, e1, l2, e2] := (Kp150.trans K151 (allS (Or.inl (List.mem_of_getElem? (i := 1) rfl)) (allS (Or.inl (List.mem_of_getElem? (i := 2) rfl)) (allS (Or.inl (List.mem_of_getElem? (i := 3) rfl)) (allS (Or.inl (List.mem_of_getElem? (i := 4) rfl)) all0)))))
  refine Go.fin X151 (v := none) (fun _ => rfl) hlk (by decide) (by decide) ?_ (fun fs hr => X151.returnOut hx Bd.returns (hb hby d_prog_5_method_3_code_75) hr)
  show Q_t0 Z b l1 l2 e1 e2 n c1 c2 m1 m2 k1 k2 mr q now v0 h0 n0 _ T151.heap _
  exact ⟨f1_151, f2_151, d1_151, d2_151, r1_151, r2_151, j1_151, j2_151, b103, kc103, rfl, N151, Kp159, fo_f1_151, fo_f2_151, G151_2, G151_3, G151_4, G151_5, G151_6, G151_7, sz_b103, ne_b103_f1_151, ne_b103_f2_151, F152, F153, F154, F155, F156, F157, G151_8, G151_9, G151_10, G151_11, G151_12, G151_13, G151_14, G151_15, G151_16, G151_17, G151_18, G151_19, F158⟩
def Q_t1 (Z : State) (b : Addr) (l1 : Addr) (l2 : Addr) (e1 : Addr) (e2 : Addr) (n : Nat) (c1 : Nat) (c2 : Nat) (m1 : Int32) (m2 : Int32) (k1 : ClassId) (k2 : ClassId) (mr : Addr) (q : Nat) (now : Int64) (f0 : Nat) (aa : Addr) (ka : ClassId) (ln : Nat) (s0 : Int64) (h0 : Heap) (n0 : Nat) (v : Option Value) (h : Heap) (L : List Loc) : Prop := ∃ (f1 : Addr) (f2 : Addr) (d1 : Nat) (d2 : Nat) (r1 : Int32) (r2 : Int32) (j1 : ClassId) (j2 : ClassId) (a2 : Addr) (ka2 : ClassId) (ln2 : Nat), v = none ∧ Fr n0 L ∧ Keep h0 h [b, l1, e1, l2, e2, aa] ∧ (f1 = e1 ∨ h0.size ≤ f1) ∧ (f2 = e2 ∨ h0.size ≤ f2) ∧ ¬ (l1 = f1) ∧ ¬ (l2 = f2) ∧ ¬ (l1 = f2) ∧ ¬ (l2 = f1) ∧ ¬ (f1 = f2) ∧ (n + 1 ≤ d1 ∧ d1 ≤ 7 ∧ n + 1 ≤ d2 ∧ d2 ≤ 7) ∧ (a2 = aa ∨ h0.size ≤ a2) ∧ ¬ (a2 = b) ∧ ¬ (a2 = l1) ∧ ¬ (a2 = l2) ∧ ¬ (a2 = f1) ∧ ¬ (a2 = f2) ∧ (2 ≤ ln2 ∧ ln2 ≤ 4) ∧ Exa Z h b "com/example/tidegate/tidegate/Batch" ∧ Fld Z h b "com/example/tidegate/tidegate/Batch" "presized" "I" (.int (Int32.ofNat q)) ∧ Fld Z h b "com/example/tidegate/tidegate/Batch" "items" "Ljava/util/List;" (.ref l1) ∧ Fld Z h b "com/example/tidegate/tidegate/Batch" "completions" "Ljava/util/List;" (.ref l2) ∧ Fld Z h b "com/example/tidegate/tidegate/Batch" "acceptedAt" "[J" (.ref a2) ∧ Fld Z h b "com/example/tidegate/tidegate/Batch" "firstTimed" "I" (.int (Int32.ofNat f0)) ∧ Exa Z h l1 "java/util/ArrayList" ∧ Fld Z h l1 "java/util/AbstractList" "modCount" "I" (.int r1) ∧ Fld Z h l1 "java/util/ArrayList" "elementData" "[Ljava/lang/Object;" (.ref f1) ∧ Fld Z h l1 "java/util/ArrayList" "size" "I" (.int (Int32.ofNat (n + 1))) ∧ Exa Z h f1 "[Ljava/lang/Object;" ∧ Arv Z h f1 j1 (.object "java/lang/Object") (Int32.ofNat d1) [] .null ∧ Exa Z h l2 "java/util/ArrayList" ∧ Fld Z h l2 "java/util/AbstractList" "modCount" "I" (.int r2) ∧ Fld Z h l2 "java/util/ArrayList" "elementData" "[Ljava/lang/Object;" (.ref f2) ∧ Fld Z h l2 "java/util/ArrayList" "size" "I" (.int (Int32.ofNat (n + 1))) ∧ Exa Z h f2 "[Ljava/lang/Object;" ∧ Arv Z h f2 j2 (.object "java/lang/Object") (Int32.ofNat d2) [] .null ∧ Arv Z h a2 ka2 .long (Int32.ofNat ln2) [(.long s0), (.long now)] (.long (0 : Int64))
theorem ef_t1 (m : MethodId) (b : Addr) (now : Int64) : entryFrame m #[(.ref b), .null, .null, (.long now)] 6 = mkF m 0 #[.val (.ref b), .val .null, .val .null, .val (.long now), .second, .unset] [] := by first | (simp [entryFrame, mkF, argsToLocals, Value.category]; done) | rfl
theorem d_prog_5_method_3_code_46 : decode prog_5_method_3_code 46 = .ok (.aload_n 0, 1) := by decide +kernel
theorem d_prog_5_method_3_code_47 : decode prog_5_method_3_code 47 = .ok (.aload_n 0, 1) := by decide +kernel
theorem d_prog_5_method_3_code_48 : decode prog_5_method_3_code 48 = .ok (.getfield 31, 3) := by decide +kernel
theorem d_prog_5_method_3_code_51 : decode prog_5_method_3_code 51 = .ok (.iconst 2, 1) := by decide +kernel
theorem d_prog_5_method_3_code_52 : decode prog_5_method_3_code 52 = .ok (.iload 5, 2) := by decide +kernel
theorem d_prog_5_method_3_code_54 : decode prog_5_method_3_code 54 = .ok (.imul, 1) := by decide +kernel
theorem d_prog_5_method_3_code_55 : decode prog_5_method_3_code 55 = .ok (.invokestatic 42, 3) := by decide +kernel
theorem pd_12 : parseMethodDescriptor "([JI)[J" = some ⟨[(.array .long), .int], some (.array .long)⟩ := by decide +kernel
theorem d_prog_5_method_3_code_58 : decode prog_5_method_3_code 58 = .ok (.putfield 31, 3) := by decide +kernel
set_option maxRecDepth 65536 in
set_option maxHeartbeats 40000000 in
theorem rm_t1 (l : Launch) (Z : State) (a0 : Array Value) (hw : ∀ d ∈ tables_1, d.before a0 Z = true) (ws : List Jvm.Cond) (b : Addr) (l1 : Addr) (l2 : Addr) (e1 : Addr) (e2 : Addr) (n : Nat) (c1 : Nat) (c2 : Nat) (m1 : Int32) (m2 : Int32) (k1 : ClassId) (k2 : ClassId) (mr : Addr) (q : Nat) (now : Int64) (f0 : Nat) (aa : Addr) (ka : ClassId) (ln : Nat) (s0 : Int64) (h0 : Heap) (n0 : Nat) (X00 : Old Z n0 h0) (P0 : Exa Z h0 b "com/example/tidegate/tidegate/Batch") (P1 : Fld Z h0 b "com/example/tidegate/tidegate/Batch" "presized" "I" (.int (Int32.ofNat q))) (P2 : Fld Z h0 b "com/example/tidegate/tidegate/Batch" "items" "Ljava/util/List;" (.ref l1)) (P3 : Fld Z h0 b "com/example/tidegate/tidegate/Batch" "completions" "Ljava/util/List;" (.ref l2)) (P4 : Fld Z h0 b "com/example/tidegate/tidegate/Batch" "acceptedAt" "[J" (.ref aa)) (P5 : Fld Z h0 b "com/example/tidegate/tidegate/Batch" "firstTimed" "I" (.int (Int32.ofNat f0))) (P6 : Exa Z h0 l1 "java/util/ArrayList") (P7 : Fld Z h0 l1 "java/util/AbstractList" "modCount" "I" (.int m1)) (P8 : Fld Z h0 l1 "java/util/ArrayList" "elementData" "[Ljava/lang/Object;" (.ref e1)) (P9 : Fld Z h0 l1 "java/util/ArrayList" "size" "I" (.int (Int32.ofNat n))) (P10 : Exa Z h0 e1 "[Ljava/lang/Object;") (P11 : Arv Z h0 e1 k1 (.object "java/lang/Object") (Int32.ofNat c1) [] .null) (P12 : Exa Z h0 l2 "java/util/ArrayList") (P13 : Fld Z h0 l2 "java/util/AbstractList" "modCount" "I" (.int m2)) (P14 : Fld Z h0 l2 "java/util/ArrayList" "elementData" "[Ljava/lang/Object;" (.ref e2)) (P15 : Fld Z h0 l2 "java/util/ArrayList" "size" "I" (.int (Int32.ofNat n))) (P16 : Exa Z h0 e2 "[Ljava/lang/Object;") (P17 : Arv Z h0 e2 k2 (.object "java/lang/Object") (Int32.ofNat c2) [] .null) (P18 : Arv Z h0 aa ka .long (Int32.ofNat ln) [(.long s0)] (.long (0 : Int64))) (P19 : n0 ≤ b) (P20 : n0 ≤ l1) (P21 : n0 ≤ l2) (P22 : n0 ≤ e1) (P23 : n0 ≤ e2) (P24 : n0 ≤ aa) (P25 : ¬ (b = l1)) (P26 : ¬ (b = l2)) (P27 : ¬ (b = e1)) (P28 : ¬ (b = e2)) (P29 : ¬ (l1 = l2)) (P30 : ¬ (l1 = e1)) (P31 : ¬ (l1 = e2)) (P32 : ¬ (l2 = e1)) (P33 : ¬ (l2 = e2)) (P34 : ¬ (e1 = e2)) (P35 : ¬ (b = aa)) (P36 : ¬ (l1 = aa)) (P37 : ¬ (l2 = aa)) (P38 : ¬ (e1 = aa)) (P39 : ¬ (e2 = aa)) (hn5 : n ≤ 5) (hn1 : n ≤ c1) (hc11 : 1 ≤ c1) (hc17 : c1 ≤ 7) (hn2 : n ≤ c2) (hc21 : 1 ≤ c2) (hc27 : c2 ≤ 7) (hM : own_Mir Z "[Ljava/lang/Object;" mr) (hnf : n = f0 + 1) (hl1 : 1 ≤ ln) (hl4 : ln ≤ 4) :
    MetFree l (⟨"com/example/tidegate/tidegate/Batch", "add", "(Ljava/lang/Object;Ljava/util/concurrent/CompletableFuture;J)V"⟩ : MethodName) (head1 (Jvm.Cond.code (⟨"com/example/tidegate/tidegate/Batch", "add", "(Ljava/lang/Object;Ljava/util/concurrent/CompletableFuture;J)V"⟩ : MethodName) prog_5_method_3_code 6 none :: ws) ({ frames := 8, cells := 3, slots := 18, locals := 170 } : Room)) (fun aa_ U => aa_ = #[(.ref b), .null, .null, (.long now)] ∧ Z.Warmed39 U.vm ∧ U.heap = h0) (fun _ _ _ _ _ => True) (fun _ U o U' => ∃ v L, o = .returned v ∧ Q_t1 Z b l1 l2 e1 e2 n c1 c2 m1 m2 k1 k2 mr q now f0 aa ka ln s0 h0 n0 v U'.heap L ∧ FrameEnd U o U' L ({ frames := 8, cells := 3, slots := 18, locals := 170 } : Room).cells ({ frames := 8, cells := 3, slots := 18, locals := 170 } : Room).slots) := by
  refine MetFree.of_bodySF (plainFor_of_name pn_5) hisR ?_
  intro p e s m args below meth c s₁ Bd hml0 hP hK
  obtain ⟨rfl, hZ, hh⟩ := hP
  have hx := Bd.exec
  have hby := Bd.bytes
  have hml : c.maxLocals = 6 := hml0
  have hown : s.vm.findClass "com/example/tidegate/tidegate/Batch" = some m.cls := findClass_of_methodNamed Bd.named
  have hnm := (name_of_methodNamed Bd.named Bd.method).1
  have hlk : meth.locks = false := BodyLoose.notSynchronized Bd
  have X0 : Stand p l e ({ frames := 8, cells := 3, slots := 18, locals := 170 } : Room) s m #[(.ref b), .null, .null, (.long now)] below meth c s₁ [] 0 0 := Stand.of_body Bd
  have e0 : s₁.heap = h0 := by rw [← hh, Bd.state]; rfl
  have N0 := Fr.nil n0
  suffices G : Go p e below s (Q_t1 Z b l1 l2 e1 e2 n c1 c2 m1 m2 k1 k2 mr q now f0 aa ka ln s0 h0 n0) 3 18 s₁ (mkF m 0 #[.val (.ref b), .val .null, .val .null, .val (.long now), .second, .unset] []) by
    obtain ⟨s2, o, h1, h2⟩ := G
    exact ⟨s2, o, castTop (ef_t1 m b now) h1, h2⟩
  refine Go.by (T' := s₁) (g' := (mkF m 1 #[.val (.ref b), .val .null, .val .null, .val (.long now), .second, .unset] [(.ref b)])) (fun t_ k_ => XS.aloadN X0.here hx rfl (hb hby d_prog_5_method_3_code_0) rfl rfl k_) ?_
  obtain ⟨T101, X101, e101, st101⟩ := getF X0 hx hZ hown (host := "") (Or.inl (hw _ (List.mem_of_getElem? (i := 111) rfl))) Via.refl e0 P4 (g := (mkF m 1 #[.val (.ref b), .val .null, .val .null, .val (.long now), .second, .unset] [(.ref b)])) rfl rfl (hb hby d_prog_5_method_3_code_1)
  refine Go.by (T' := T101) (g' := (mkF m 4 #[.val (.ref b), .val .null, .val .null, .val (.long now), .second, .unset] [(.ref aa)])) (fun t_ k_ => st101 _ k_) ?_
  refine Go.by (T' := T101) (g' := (mkF m 25 #[.val (.ref b), .val .null, .val .null, .val (.long now), .second, .unset] [])) (fun t_ k_ => XS.ifnonnullYes X101.here hx rfl (pc0 := 4) (pc' := 25) rfl (hb hby d_prog_5_method_3_code_4) rfl (by decide) (by decide) k_) ?_
  refine Go.by (T' := T101) (g' := (mkF m 26 #[.val (.ref b), .val .null, .val .null, .val (.long now), .second, .unset] [(.ref b)])) (fun t_ k_ => XS.aloadN X101.here hx rfl (hb hby d_prog_5_method_3_code_25) rfl rfl k_) ?_
  obtain ⟨cq102, kq102, q102a, q102b, q102c⟩ := isOf hZ e101 P0
  obtain ⟨_, _, ⟨T102, L102, k102, n102⟩, -, X102, ⟨Lc102, hQ102, l102, y102, z102⟩, st102⟩ := X101.virtualBack hx (y := (⟨"com/example/tidegate/tidegate/Batch", "size", "()I"⟩ : MethodName)) (z := (⟨"com/example/tidegate/tidegate/Batch", "size", "()I"⟩ : MethodName)) hown (mvT hZ (hw _ (List.mem_of_getElem? (i := 119) rfl))) (mvT hZ (hw _ (List.mem_of_getElem? (i := 120) rfl))) (notFace_of_selects (args := #[]) (mvT hZ (hw _ (List.mem_of_getElem? (i := 122) rfl)))) (mvT hZ (hw _ (List.mem_of_getElem? (i := 122) rfl))) (mvT hZ (hw _ (List.mem_of_getElem? (i := 121) rfl))) (by decide) (backOf (W := 0) (rm_bsize l Z a0 hw [] b l2 n h0 n0 X00 P3 P12 P15) hZ (hw _ (List.mem_of_getElem? (i := 123) rfl)) (hw _ (List.mem_of_getElem? (i := 2) rfl)) (by decide) (by decide)) q102a q102c (g := (mkF m 26 #[.val (.ref b), .val .null, .val .null, .val (.long now), .second, .unset] [(.ref b)])) rfl (by rw [hml]; rfl) (Steps.refl _) (argsL := []) (rest := []) (lenOf pd_10 rfl) rfl (by show 2 * 0 + _ ≤ _; exact Nat.le_of_eq rfl) (hb hby d_prog_5_method_3_code_26) (fun _ _ => ⟨rfl, e101, (by decide : 0 + 0 ≤ _), (by decide : 0 + 0 ≤ _)⟩)
  dsimp only [Pt.U, Pt.locs, Pt.cells, Pt.slots] at X102 l102 y102 z102 st102 hQ102
  subst l102 y102 z102
  obtain ⟨rfl, N102q, e102⟩ := hQ102
  have N102 := Fr.app N0 N102q
  refine Go.by (T' := T102) (g' := (mkF m 29 #[.val (.ref b), .val .null, .val .null, .val (.long now), .second, .unset] [(.int (Int32.ofNat n))])) (fun t_ k_ => st102.trans k_) ?_
  refine Go.by (T' := T102) (g' := (mkF m 30 #[.val (.ref b), .val .null, .val .null, .val (.long now), .second, .unset] [(.ref b), (.int (Int32.ofNat n))])) (fun t_ k_ => XS.aloadN X102.here hx rfl (hb hby d_prog_5_method_3_code_29) rfl rfl k_) ?_
  obtain ⟨T103, X103, e103, st103⟩ := getF X102 hx hZ hown (host := "") (Or.inl (hw _ (List.mem_of_getElem? (i := 132) rfl))) Via.refl e102 P5 (g := (mkF m 30 #[.val (.ref b), .val .null, .val .null, .val (.long now), .second, .unset] [(.ref b), (.int (Int32.ofNat n))])) rfl rfl (hb hby d_prog_5_method_3_code_30)
  refine Go.by (T' := T103) (g' := (mkF m 33 #[.val (.ref b), .val .null, .val .null, .val (.long now), .second, .unset] [(.int (Int32.ofNat f0)), (.int (Int32.ofNat n))])) (fun t_ k_ => st103 _ k_) ?_
  refine Go.by (T' := T103) (g' := (mkF m 34 #[.val (.ref b), .val .null, .val .null, .val (.long now), .second, .unset] [(.int ((Int32.ofNat n) - (Int32.ofNat f0)))])) (fun t_ k_ => XS.isub X103.here hx rfl (hb hby d_prog_5_method_3_code_33) rfl k_) ?_
  rw [own_sub (show f0 ≤ n by omega), show n - f0 = 1 by omega, show Int32.ofNat 1 = (1 : Int32) from rfl]
  refine Go.by (T' := T103) (g' := (mkF m 36 #[.val (.ref b), .val .null, .val .null, .val (.long now), .second, .val (.int (1 : Int32))] [])) (fun t_ k_ => XS.istore X103.here hx rfl (hb hby d_prog_5_method_3_code_34) rfl (l' := #[.val (.ref b), .val .null, .val .null, .val (.long now), .second, .val (.int (1 : Int32))]) rfl k_) ?_
  refine Go.by (T' := T103) (g' := (mkF m 38 #[.val (.ref b), .val .null, .val .null, .val (.long now), .second, .val (.int (1 : Int32))] [(.int (1 : Int32))])) (fun t_ k_ => XS.iload X103.here hx rfl (hb hby d_prog_5_method_3_code_36) rfl k_) ?_
  refine Go.by (T' := T103) (g' := (mkF m 39 #[.val (.ref b), .val .null, .val .null, .val (.long now), .second, .val (.int (1 : Int32))] [(.ref b), (.int (1 : Int32))])) (fun t_ k_ => XS.aloadN X103.here hx rfl (hb hby d_prog_5_method_3_code_38) rfl rfl k_) ?_
  obtain ⟨T104, X104, e104, st104⟩ := getF X103 hx hZ hown (host := "") (Or.inl (hw _ (List.mem_of_getElem? (i := 111) rfl))) Via.refl e103 P4 (g := (mkF m 39 #[.val (.ref b), .val .null, .val .null, .val (.long now), .second, .val (.int (1 : Int32))] [(.ref b), (.int (1 : Int32))])) rfl rfl (hb hby d_prog_5_method_3_code_39)
  refine Go.by (T' := T104) (g' := (mkF m 42 #[.val (.ref b), .val .null, .val .null, .val (.long now), .second, .val (.int (1 : Int32))] [(.ref aa), (.int (1 : Int32))])) (fun t_ k_ => st104 _ k_) ?_
  obtain ⟨cl105, Ar105, -, Sz105, Ng105, -, -⟩ := id P18
  refine Go.by (T' := T104) (g' := (mkF m 43 #[.val (.ref b), .val .null, .val .null, .val (.long now), .second, .val (.int (1 : Int32))] [(.int (Int32.ofNat ln)), (.int (1 : Int32))])) (fun t_ k_ => X104.arraylength hx (by rw [e104]; exact Ar105.1) (State.isArrayOf_alike hZ.alike Ar105.2.1) (g := (mkF m 42 #[.val (.ref b), .val .null, .val .null, .val (.long now), .second, .val (.int (1 : Int32))] [(.ref aa), (.int (1 : Int32))])) rfl rfl (hb hby d_prog_5_method_3_code_42) _ (by rw [len_of Sz105 Ng105]; exact k_)) ?_
  by_cases hful : ln = 1
  · skip
    refine Go.by (T' := T104) (g' := (mkF m 46 #[.val (.ref b), .val .null, .val .null, .val (.long now), .second, .val (.int (1 : Int32))] [])) (fun t_ k_ => XS.icmpNo X104.here hx rfl (hb hby d_prog_5_method_3_code_43) rfl (teq (by rw [show (1 : Int32) = Int32.ofNat 1 from rfl, own_inj (by omega) (by omega)]; omega)).2 k_) ?_
    refine Go.by (T' := T104) (g' := (mkF m 47 #[.val (.ref b), .val .null, .val .null, .val (.long now), .second, .val (.int (1 : Int32))] [(.ref b)])) (fun t_ k_ => XS.aloadN X104.here hx rfl (hb hby d_prog_5_method_3_code_46) rfl rfl k_) ?_
    refine Go.by (T' := T104) (g' := (mkF m 48 #[.val (.ref b), .val .null, .val .null, .val (.long now), .second, .val (.int (1 : Int32))] [(.ref b), (.ref b)])) (fun t_ k_ => XS.aloadN X104.here hx rfl (hb hby d_prog_5_method_3_code_47) rfl rfl k_) ?_
    obtain ⟨T106, X106, e106, st106⟩ := getF X104 hx hZ hown (host := "") (Or.inl (hw _ (List.mem_of_getElem? (i := 111) rfl))) Via.refl e104 P4 (g := (mkF m 48 #[.val (.ref b), .val .null, .val .null, .val (.long now), .second, .val (.int (1 : Int32))] [(.ref b), (.ref b)])) rfl rfl (hb hby d_prog_5_method_3_code_48)
    refine Go.by (T' := T106) (g' := (mkF m 51 #[.val (.ref b), .val .null, .val .null, .val (.long now), .second, .val (.int (1 : Int32))] [(.ref aa), (.ref b)])) (fun t_ k_ => st106 _ k_) ?_
    refine Go.by (T' := T106) (g' := (mkF m 52 #[.val (.ref b), .val .null, .val .null, .val (.long now), .second, .val (.int (1 : Int32))] [(.int (2 : Int32)), (.ref aa), (.ref b)])) (fun t_ k_ => XS.iconst X106.here hx rfl (hb hby d_prog_5_method_3_code_51) k_) ?_
    refine Go.by (T' := T106) (g' := (mkF m 54 #[.val (.ref b), .val .null, .val .null, .val (.long now), .second, .val (.int (1 : Int32))] [(.int (1 : Int32)), (.int (2 : Int32)), (.ref aa), (.ref b)])) (fun t_ k_ => XS.iload X106.here hx rfl (hb hby d_prog_5_method_3_code_52) rfl k_) ?_
    refine Go.by (T' := T106) (g' := (mkF m 55 #[.val (.ref b), .val .null, .val .null, .val (.long now), .second, .val (.int (1 : Int32))] [(.int (2 : Int32)), (.ref aa), (.ref b)])) (fun t_ k_ => XS.imul X106.here hx rfl (hb hby d_prog_5_method_3_code_54) rfl k_) ?_
    have V107 : Arv Z h0 aa ka .long (1 : Int32) [(.long s0)] (.long (0 : Int64)) := by have q := P18; rw [hful] at q; exact q
    obtain ⟨_, _, ⟨T108, L108, k108, n108⟩, -, X108, ⟨Lc108, hQ108, l108, y108, z108⟩, st108⟩ := Jvm.LawKit.callS X106 hx (y := (⟨"java/util/Arrays", "copyOf", "([JI)[J"⟩ : MethodName)) hown (mvT hZ (hw _ (List.mem_of_getElem? (i := 135) rfl))) (mvT hZ (hw _ (List.mem_of_getElem? (i := 136) rfl))) (mvT hZ (hw _ (List.mem_of_getElem? (i := 84) rfl))) (mvT hZ (hw _ (List.mem_of_getElem? (i := 137) rfl))) (by decide) (backOf (W := 1) (rm_cpJ1 l Z a0 hw [] aa ka s0 h0 n0 X00 V107) hZ (hw _ (List.mem_of_getElem? (i := 137) rfl)) (hw _ (List.mem_of_getElem? (i := 84) rfl)) (by decide) (by decide)) (g := (mkF m 55 #[.val (.ref b), .val .null, .val .null, .val (.long now), .second, .val (.int (1 : Int32))] [(.int (2 : Int32)), (.ref aa), (.ref b)])) rfl (by rw [hml]; rfl) (argsL := [(.ref aa), (.int (2 : Int32))]) (rest := [(.ref b)]) (lenOf pd_12 rfl) rfl (by show 2 * 0 + _ ≤ _; exact Nat.le_of_eq rfl) (hb hby d_prog_5_method_3_code_55) (fun _ _ => ⟨rfl, e106, (by decide : 0 + 1 ≤ _), (by decide : 0 + 4 ≤ _)⟩)
    dsimp only [Pt.U, Pt.locs, Pt.cells, Pt.slots] at X108 l108 y108 z108 st108 hQ108
    subst l108 y108 z108
    obtain ⟨t_108, k2_108, rfl, N108q, K108, G108_0, G108_1⟩ := hQ108
    have N108 := Fr.app N102 N108q
    have ge_t_108 : n0 ≤ t_108 := Nat.le_trans X00.sz G108_0
    have sz_t_108 : h0.size ≤ t_108 := Nat.le_trans (Keep.refl h0 [b, l1, e1, l2, e2, aa]).1 G108_0
    have ne_b_t_108 : ¬ (b = t_108) := Nat.ne_of_lt (Nat.lt_of_lt_of_le P0.lt G108_0)
    have ne_l1_t_108 : ¬ (l1 = t_108) := Nat.ne_of_lt (Nat.lt_of_lt_of_le P6.lt G108_0)
    have ne_e1_t_108 : ¬ (e1 = t_108) := Nat.ne_of_lt (Nat.lt_of_lt_of_le P10.lt G108_0)
    have ne_l2_t_108 : ¬ (l2 = t_108) := Nat.ne_of_lt (Nat.lt_of_lt_of_le P12.lt G108_0)
    have ne_e2_t_108 : ¬ (e2 = t_108) := Nat.ne_of_lt (Nat.lt_of_lt_of_le P16.lt G108_0)
    have ne_aa_t_108 : ¬ (aa = t_108) := Nat.ne_of_lt (Nat.lt_of_lt_of_le V107.lt G108_0)
    refine Go.by (T' := T108) (g' := (mkF m 58 #[.val (.ref b), .val .null, .val .null, .val (.long now), .second, .val (.int (1 : Int32))] [(.ref t_108), (.ref b)])) (fun t_ k_ => st108 _ k_) ?_
    have F109 : Fld Z T108.heap b "com/example/tidegate/tidegate/Batch" "acceptedAt" "[J" (.ref aa) := (P4.keep K108 nin0)
    have F110 : Exa Z T108.heap b "com/example/tidegate/tidegate/Batch" := (P0.keep K108)
    have Od111 : Old Z n0 T108.heap := (X00.keep K108 all0)
    have Kp112 : Keep h0 T108.heap [b, l1, e1, l2, e2, aa] := ((Keep.refl h0 [b, l1, e1, l2, e2, aa]).trans K108 all0)
    obtain ⟨T113, h113, X113, e113, W113, st113⟩ := putF X108 hx hZ hown (host := "") (Or.inl (hw _ (List.mem_of_getElem? (i := 111) rfl))) Via.refl rfl F109 F110 (Or.inl (hw _ (List.mem_of_getElem? (i := 112) rfl))) (hw _ (List.mem_of_getElem? (i := 1) rfl)) (ty := (.array .long)) (by decide) rfl rfl (g := (mkF m 58 #[.val (.ref b), .val .null, .val .null, .val (.long now), .second, .val (.int (1 : Int32))] [(.ref t_108), (.ref b)])) rfl rfl (hb hby d_prog_5_method_3_code_58)
    have Fw113 : Fld Z h113 b "com/example/tidegate/tidegate/Batch" "acceptedAt" "[J" (.ref t_108) := F109.same W113
    have N113 := Fr.snoc X113 N108 P19
    refine Go.by (T' := T113) (g' := (mkF m 61 #[.val (.ref b), .val .null, .val .null, .val (.long now), .second, .val (.int (1 : Int32))] [])) (fun t_ k_ => st113 _ k_) ?_
    refine Go.by (T' := T113) (g' := (mkF m 62 #[.val (.ref b), .val .null, .val .null, .val (.long now), .second, .val (.int (1 : Int32))] [(.ref b)])) (fun t_ k_ => XS.aloadN X113.here hx rfl (hb hby d_prog_5_method_3_code_61) rfl rfl k_) ?_
    obtain ⟨T114, X114, e114, st114⟩ := getF X113 hx hZ hown (host := "") (Or.inl (hw _ (List.mem_of_getElem? (i := 111) rfl))) Via.refl e113 Fw113 (g := (mkF m 62 #[.val (.ref b), .val .null, .val .null, .val (.long now), .second, .val (.int (1 : Int32))] [(.ref b)])) rfl rfl (hb hby d_prog_5_method_3_code_62)
    refine Go.by (T' := T114) (g' := (mkF m 65 #[.val (.ref b), .val .null, .val .null, .val (.long now), .second, .val (.int (1 : Int32))] [(.ref t_108)])) (fun t_ k_ => st114 _ k_) ?_
    refine Go.by (T' := T114) (g' := (mkF m 67 #[.val (.ref b), .val .null, .val .null, .val (.long now), .second, .val (.int (1 : Int32))] [(.int (1 : Int32)), (.ref t_108)])) (fun t_ k_ => XS.iload X114.here hx rfl (hb hby d_prog_5_method_3_code_65) rfl k_) ?_
    refine Go.by (T' := T114) (g' := (mkF m 68 #[.val (.ref b), .val .null, .val .null, .val (.long now), .second, .val (.int (1 : Int32))] [(.long now), (.int (1 : Int32)), (.ref t_108)])) (fun t_ k_ => XS.lloadN X114.here hx rfl (hb hby d_prog_5_method_3_code_67) rfl k_) ?_
    have F115 : Arv Z h113 t_108 k2_108 .long (2 : Int32) [(.long s0)] (.long (0 : Int64)) := (G108_1.other W113 (Ne.symm ne_b_t_108))
    have V116 : Arv Z h113 t_108 k2_108 .long (2 : Int32) [(.long s0), (.long (0 : Int64))] (.long (0 : Int64)) := F115.pad (pad_rep [(.long s0)] (.long (0 : Int64)) 1)
    have Od118 : Old Z n0 h113 := (Od111.wr W113 P19)
    have Kp119 : Keep h0 h113 [b, l1, e1, l2, e2, aa] := (Kp112.wr W113 (Or.inl (List.mem_of_getElem? (i := 0) rfl)))
    obtain ⟨cl117, Ar117, q117, Sz117, Ng117, Hs117, Gs117⟩ := id V116
    obtain ⟨T120, h120, X120, e120, W120, st120⟩ := stJ X114 hx hZ e114 Ar117 (j := (1 : Int32)) (inb_of Sz117 ⟨by decide, by decide⟩) (g := (mkF m 68 #[.val (.ref b), .val .null, .val .null, .val (.long now), .second, .val (.int (1 : Int32))] [(.long now), (.int (1 : Int32)), (.ref t_108)])) rfl rfl (hb hby d_prog_5_method_3_code_68)
    have V120 : Arv Z h120 t_108 k2_108 .long (2 : Int32) [(.long s0), (.long now)] (.long (0 : Int64)) := Arv.set Ar117 q117 Sz117 Ng117 Hs117 Gs117 rfl W120 1 rfl (Nat.le_of_ble_eq_true rfl)
    have N120 := Fr.snoc X120 N113 ge_t_108
    refine Go.by (T' := T120) (g' := (mkF m 69 #[.val (.ref b), .val .null, .val .null, .val (.long now), .second, .val (.int (1 : Int32))] [])) (fun t_ k_ => st120 _ k_) ?_
    refine Go.by (T' := T120) (g' := (mkF m 70 #[.val (.ref b), .val .null, .val .null, .val (.long now), .second, .val (.int (1 : Int32))] [(.ref b)])) (fun t_ k_ => XS.aloadN X120.here hx rfl (hb hby d_prog_5_method_3_code_69) rfl rfl k_) ?_
    refine Go.by (T' := T120) (g' := (mkF m 71 #[.val (.ref b), .val .null, .val .null, .val (.long now), .second, .val (.int (1 : Int32))] [.null, (.ref b)])) (fun t_ k_ => XS.aloadN X120.here hx rfl (hb hby d_prog_5_method_3_code_70) rfl rfl k_) ?_
    refine Go.by (T' := T120) (g' := (mkF m 72 #[.val (.ref b), .val .null, .val .null, .val (.long now), .second, .val (.int (1 : Int32))] [.null, .null, (.ref b)])) (fun t_ k_ => XS.aloadN X120.here hx rfl (hb hby d_prog_5_method_3_code_71) rfl rfl k_) ?_
    have F121 : Exa Z h120 b "com/example/tidegate/tidegate/Batch" := ((F110.wr W113).wr W120)
    have F122 : Fld Z h120 b "com/example/tidegate/tidegate/Batch" "items" "Ljava/util/List;" (.ref l1) := (((P2.keep K108 nin0).other W113 (Or.inr (slot_ne (Or.inr (hw _ (List.mem_of_getElem? (i := 37) rfl))) (Or.inl (hw _ (List.mem_of_getElem? (i := 112) rfl))) (by decide) (t := (.object "java/util/List")) (t' := (.array .long)) (by decide) (by decide)))).other W120 (Or.inl ne_b_t_108))
    have F123 : Fld Z h120 b "com/example/tidegate/tidegate/Batch" "completions" "Ljava/util/List;" (.ref l2) := (((P3.keep K108 nin0).other W113 (Or.inr (slot_ne (Or.inr (hw _ (List.mem_of_getElem? (i := 39) rfl))) (Or.inl (hw _ (List.mem_of_getElem? (i := 112) rfl))) (by decide) (t := (.object "java/util/List")) (t' := (.array .long)) (by decide) (by decide)))).other W120 (Or.inl ne_b_t_108))
    have F124 : Exa Z h120 l1 "java/util/ArrayList" := (((P6.keep K108).wr W113).wr W120)
    have F125 : Fld Z h120 l1 "java/util/AbstractList" "modCount" "I" (.int m1) := (((P7.keep K108 nin0).other W113 (Or.inl (Ne.symm P25))).other W120 (Or.inl ne_l1_t_108))
    have F126 : Fld Z h120 l1 "java/util/ArrayList" "elementData" "[Ljava/lang/Object;" (.ref e1) := (((P8.keep K108 nin0).other W113 (Or.inl (Ne.symm P25))).other W120 (Or.inl ne_l1_t_108))
    have F127 : Fld Z h120 l1 "java/util/ArrayList" "size" "I" (.int (Int32.ofNat n)) := (((P9.keep K108 nin0).other W113 (Or.inl (Ne.symm P25))).other W120 (Or.inl ne_l1_t_108))
    have F128 : Exa Z h120 e1 "[Ljava/lang/Object;" := (((P10.keep K108).wr W113).wr W120)
    have F129 : Arv Z h120 e1 k1 (.object "java/lang/Object") (Int32.ofNat c1) [] .null := (((P11.keep K108 nin0).other W113 (Ne.symm P27)).other W120 ne_e1_t_108)
    have F130 : Exa Z h120 l2 "java/util/ArrayList" := (((P12.keep K108).wr W113).wr W120)
    have F131 : Fld Z h120 l2 "java/util/AbstractList" "modCount" "I" (.int m2) := (((P13.keep K108 nin0).other W113 (Or.inl (Ne.symm P26))).other W120 (Or.inl ne_l2_t_108))
    have F132 : Fld Z h120 l2 "java/util/ArrayList" "elementData" "[Ljava/lang/Object;" (.ref e2) := (((P14.keep K108 nin0).other W113 (Or.inl (Ne.symm P26))).other W120 (Or.inl ne_l2_t_108))
    have F133 : Fld Z h120 l2 "java/util/ArrayList" "size" "I" (.int (Int32.ofNat n)) := (((P15.keep K108 nin0).other W113 (Or.inl (Ne.symm P26))).other W120 (Or.inl ne_l2_t_108))
    have F134 : Exa Z h120 e2 "[Ljava/lang/Object;" := (((P16.keep K108).wr W113).wr W120)
    have F135 : Arv Z h120 e2 k2 (.object "java/lang/Object") (Int32.ofNat c2) [] .null := (((P17.keep K108 nin0).other W113 (Ne.symm P28)).other W120 ne_e2_t_108)
    have Od136 : Old Z n0 h120 := (Od118.wr W120 ge_t_108)
    have Kp137 : Keep h0 h120 [b, l1, e1, l2, e2, aa] := (Kp119.wr W120 (Or.inr sz_t_108))
    obtain ⟨cq138, kq138, q138a, q138b, q138c⟩ := isOf hZ e120 F121
    obtain ⟨_, _, ⟨T138, L138, k138, n138⟩, -, X138, ⟨Lc138, hQ138, l138, y138, z138⟩, st138⟩ := X120.virtualBack hx (y := (⟨"com/example/tidegate/tidegate/Batch", "add", "(Ljava/lang/Object;Ljava/util/concurrent/CompletableFuture;)V"⟩ : MethodName)) (z := (⟨"com/example/tidegate/tidegate/Batch", "add", "(Ljava/lang/Object;Ljava/util/concurrent/CompletableFuture;)V"⟩ : MethodName)) hown (mvT hZ (hw _ (List.mem_of_getElem? (i := 134) rfl))) (mvT hZ (hw _ (List.mem_of_getElem? (i := 41) rfl))) (notFace_of_selects (args := #[]) (mvT hZ (hw _ (List.mem_of_getElem? (i := 43) rfl)))) (mvT hZ (hw _ (List.mem_of_getElem? (i := 43) rfl))) (mvT hZ (hw _ (List.mem_of_getElem? (i := 42) rfl))) (by decide) (backOf (W := 0) (rm_badd l Z a0 hw [] b l1 l2 e1 e2 n c1 c2 m1 m2 k1 k2 mr h120 n0 Od136 F121 F122 F123 F124 F125 F126 F127 F128 F129 F130 F131 F132 F133 F134 F135 P20 P21 P22 P23 P25 P26 P27 P28 P29 P30 P31 P32 P33 P34 hn5 hn1 hc11 hc17 hn2 hc21 hc27 hM) hZ (hw _ (List.mem_of_getElem? (i := 44) rfl)) (hw _ (List.mem_of_getElem? (i := 2) rfl)) (by decide) (by decide)) q138a q138c (g := (mkF m 72 #[.val (.ref b), .val .null, .val .null, .val (.long now), .second, .val (.int (1 : Int32))] [.null, .null, (.ref b)])) rfl (by rw [hml]; rfl) (Steps.refl _) (argsL := [.null, .null]) (rest := []) (lenOf pd_11 rfl) rfl (by show 2 * 0 + _ ≤ _; exact Nat.le_of_eq rfl) (hb hby d_prog_5_method_3_code_72) (fun _ _ => ⟨rfl, e120, (by decide : 1 + 2 ≤ _), (by decide : 4 + 14 ≤ _)⟩)
    dsimp only [Pt.U, Pt.locs, Pt.cells, Pt.slots] at X138 l138 y138 z138 st138 hQ138
    subst l138 y138 z138
    obtain ⟨f1_138, f2_138, d1_138, d2_138, r1_138, r2_138, j1_138, j2_138, rfl, N138q, K138, G138_0, G138_1, G138_2, G138_3, G138_4, G138_5, G138_6, G138_7, G138_8, G138_9, G138_10, G138_11, G138_12, G138_13, G138_14, G138_15, G138_16, G138_17, G138_18, G138_19⟩ := hQ138
    have N138 := Fr.app N120 N138q
    have ge_f1_138 : n0 ≤ f1_138 := G138_0.elim (fun q => q.symm ▸ P22) (fun q => Nat.le_trans Od136.sz q)
    have km_f1_138 : f1_138 ∈ [b, l1, e1, l2, e2, aa] ∨ h0.size ≤ f1_138 := G138_0.elim (fun q => q.symm ▸ (Or.inl (List.mem_of_getElem? (i := 2) rfl))) (fun q => Or.inr (Nat.le_trans Kp137.1 q))
    have fo_f1_138 : f1_138 = e1 ∨ h0.size ≤ f1_138 := G138_0.imp id (fun q => Nat.le_trans Kp137.1 q)
    have ne_b_f1_138 : ¬ (b = f1_138) := fun r => G138_0.elim (fun q => P27 (r.trans q)) (fun q => Nat.ne_of_lt (Nat.lt_of_lt_of_le F121.lt q) r)
    have ne_l1_f1_138 : ¬ (l1 = f1_138) := fun r => G138_0.elim (fun q => P30 (r.trans q)) (fun q => Nat.ne_of_lt (Nat.lt_of_lt_of_le F124.lt q) r)
    have ne_l2_f1_138 : ¬ (l2 = f1_138) := fun r => G138_0.elim (fun q => P32 (r.trans q)) (fun q => Nat.ne_of_lt (Nat.lt_of_lt_of_le F130.lt q) r)
    have ne_e2_f1_138 : ¬ (e2 = f1_138) := fun r => G138_0.elim (fun q => (Ne.symm P34) (r.trans q)) (fun q => Nat.ne_of_lt (Nat.lt_of_lt_of_le F134.lt q) r)
    have F139 : Arv Z h120 aa ka .long (1 : Int32) [(.long s0)] (.long (0 : Int64)) := (((V107.keep K108 nin0).other W113 (Ne.symm P35)).other W120 ne_aa_t_108)
    have ne_aa_f1_138 : ¬ (aa = f1_138) := fun r => G138_0.elim (fun q => (Ne.symm P38) (r.trans q)) (fun q => Nat.ne_of_lt (Nat.lt_of_lt_of_le F139.lt q) r)
    have ne_t_108_f1_138 : ¬ (t_108 = f1_138) := fun r => G138_0.elim (fun q => (Ne.symm ne_e1_t_108) (r.trans q)) (fun q => Nat.ne_of_lt (Nat.lt_of_lt_of_le V120.lt q) r)
    have ge_f2_138 : n0 ≤ f2_138 := G138_1.elim (fun q => q.symm ▸ P23) (fun q => Nat.le_trans Od136.sz q)
    have km_f2_138 : f2_138 ∈ [b, l1, e1, l2, e2, aa] ∨ h0.size ≤ f2_138 := G138_1.elim (fun q => q.symm ▸ (Or.inl (List.mem_of_getElem? (i := 4) rfl))) (fun q => Or.inr (Nat.le_trans Kp137.1 q))
    have fo_f2_138 : f2_138 = e2 ∨ h0.size ≤ f2_138 := G138_1.imp id (fun q => Nat.le_trans Kp137.1 q)
    have ne_b_f2_138 : ¬ (b = f2_138) := fun r => G138_1.elim (fun q => P28 (r.trans q)) (fun q => Nat.ne_of_lt (Nat.lt_of_lt_of_le F121.lt q) r)
    have ne_l1_f2_138 : ¬ (l1 = f2_138) := fun r => G138_1.elim (fun q => P31 (r.trans q)) (fun q => Nat.ne_of_lt (Nat.lt_of_lt_of_le F124.lt q) r)
    have ne_e1_f2_138 : ¬ (e1 = f2_138) := fun r => G138_1.elim (fun q => P34 (r.trans q)) (fun q => Nat.ne_of_lt (Nat.lt_of_lt_of_le F128.lt q) r)
    have ne_l2_f2_138 : ¬ (l2 = f2_138) := fun r => G138_1.elim (fun q => P33 (r.trans q)) (fun q => Nat.ne_of_lt (Nat.lt_of_lt_of_le F130.lt q) r)
    have ne_aa_f2_138 : ¬ (aa = f2_138) := fun r => G138_1.elim (fun q => (Ne.symm P39) (r.trans q)) (fun q => Nat.ne_of_lt (Nat.lt_of_lt_of_le F139.lt q) r)
    have ne_t_108_f2_138 : ¬ (t_108 = f2_138) := fun r => G138_1.elim (fun q => (Ne.symm ne_e2_t_108) (r.trans q)) (fun q => Nat.ne_of_lt (Nat.lt_of_lt_of_le V120.lt q) r)
    refine Go.by (T' := T138) (g' := (mkF m 75 #[.val (.ref b), .val .null, .val .null, .val (.long now), .second, .val (.int (1 : Int32))] [])) (fun t_ k_ => st138.trans k_) ?_
    have F140 : Arv Z T138.heap t_108 k2_108 .long (2 : Int32) [(.long s0), (.long now)] (.long (0 : Int64)) := (V120.keep K138 (ninS (Ne.symm ne_l1_t_108) (ninS (Ne.symm ne_e1_t_108) (ninS (Ne.symm ne_l2_t_108) (ninS (Ne.symm ne_e2_t_108) nin0)))))
    have V141 : Arv Z T138.heap t_108 k2_108 .long (Int32.ofNat 2) [(.long s0), (.long now)] (.long (0 : Int64)) := F140
    have F142 : Exa Z T138.heap b "com/example/tidegate/tidegate/Batch" := (F121.keep K138)
    have F143 : Fld Z T138.heap b "com/example/tidegate/tidegate/Batch" "presized" "I" (.int (Int32.ofNat q)) := ((((P1.keep K108 nin0).other W113 (Or.inr (slot_ne (Or.inr (hw _ (List.mem_of_getElem? (i := 10) rfl))) (Or.inl (hw _ (List.mem_of_getElem? (i := 112) rfl))) (by decide) (t := .int) (t' := (.array .long)) (by decide) (by decide)))).other W120 (Or.inl ne_b_t_108)).keep K138 (ninS P25 (ninS P27 (ninS P26 (ninS P28 nin0)))))
    have F144 : Fld Z T138.heap b "com/example/tidegate/tidegate/Batch" "items" "Ljava/util/List;" (.ref l1) := (F122.keep K138 (ninS P25 (ninS P27 (ninS P26 (ninS P28 nin0)))))
    have F145 : Fld Z T138.heap b "com/example/tidegate/tidegate/Batch" "completions" "Ljava/util/List;" (.ref l2) := (F123.keep K138 (ninS P25 (ninS P27 (ninS P26 (ninS P28 nin0)))))
    have F146 : Fld Z T138.heap b "com/example/tidegate/tidegate/Batch" "acceptedAt" "[J" (.ref t_108) := ((Fw113.other W120 (Or.inl ne_b_t_108)).keep K138 (ninS P25 (ninS P27 (ninS P26 (ninS P28 nin0)))))
    have F147 : Fld Z T138.heap b "com/example/tidegate/tidegate/Batch" "firstTimed" "I" (.int (Int32.ofNat f0)) := ((((P5.keep K108 nin0).other W113 (Or.inr (slot_ne (Or.inl (hw _ (List.mem_of_getElem? (i := 133) rfl))) (Or.inl (hw _ (List.mem_of_getElem? (i := 112) rfl))) (by decide) (t := .int) (t' := (.array .long)) (by decide) (by decide)))).other W120 (Or.inl ne_b_t_108)).keep K138 (ninS P25 (ninS P27 (ninS P26 (ninS P28 nin0)))))
    have Kp148 : Keep h0 T138.heap [b, l1, e1, l2, e2, aa] := (Kp137.trans K138 (allS (Or.inl (List.mem_of_getElem? (i := 1) rfl)) (allS (Or.inl (List.mem_of_getElem? (i := 2) rfl)) (allS (Or.inl (List.mem_of_getElem? (i := 3) rfl)) (allS (Or.inl (List.mem_of_getElem? (i := 4) rfl)) all0)))))
    refine Go.fin X138 (v := none) (fun _ => rfl) hlk (by decide) (by decide) ?_ (fun fs hr => X138.returnOut hx Bd.returns (hb hby d_prog_5_method_3_code_75) hr)
    show Q_t1 Z b l1 l2 e1 e2 n c1 c2 m1 m2 k1 k2 mr q now f0 aa ka ln s0 h0 n0 _ T138.heap _
    exact ⟨f1_138, f2_138, d1_138, d2_138, r1_138, r2_138, j1_138, j2_138, t_108, k2_108, 2, rfl, N138, Kp148, fo_f1_138, fo_f2_138, G138_2, G138_3, G138_4, G138_5, G138_6, G138_7, (Or.inr sz_t_108), (Ne.symm ne_b_t_108), (Ne.symm ne_l1_t_108), (Ne.symm ne_l2_t_108), ne_t_108_f1_138, ne_t_108_f2_138, ⟨by omega, by omega⟩, F142, F143, F144, F145, F146, F147, G138_8, G138_9, G138_10, G138_11, G138_12, G138_13, G138_14, G138_15, G138_16, G138_17, G138_18, G138_19, V141⟩
  · skip
    refine Go.by (T' := T104) (g' := (mkF m 61 #[.val (.ref b), .val .null, .val .null, .val (.long now), .second, .val (.int (1 : Int32))] [])) (fun t_ k_ => XS.icmpYes X104.here hx rfl (pc0 := 43) (pc' := 61) rfl (hb hby d_prog_5_method_3_code_43) rfl (feq (by rw [show (1 : Int32) = Int32.ofNat 1 from rfl, own_inj (by omega) (by omega)]; omega)).2 (by decide) (by decide) k_) ?_
    refine Go.by (T' := T104) (g' := (mkF m 62 #[.val (.ref b), .val .null, .val .null, .val (.long now), .second, .val (.int (1 : Int32))] [(.ref b)])) (fun t_ k_ => XS.aloadN X104.here hx rfl (hb hby d_prog_5_method_3_code_61) rfl rfl k_) ?_
    obtain ⟨T149, X149, e149, st149⟩ := getF X104 hx hZ hown (host := "") (Or.inl (hw _ (List.mem_of_getElem? (i := 111) rfl))) Via.refl e104 P4 (g := (mkF m 62 #[.val (.ref b), .val .null, .val .null, .val (.long now), .second, .val (.int (1 : Int32))] [(.ref b)])) rfl rfl (hb hby d_prog_5_method_3_code_62)
    refine Go.by (T' := T149) (g' := (mkF m 65 #[.val (.ref b), .val .null, .val .null, .val (.long now), .second, .val (.int (1 : Int32))] [(.ref aa)])) (fun t_ k_ => st149 _ k_) ?_
    refine Go.by (T' := T149) (g' := (mkF m 67 #[.val (.ref b), .val .null, .val .null, .val (.long now), .second, .val (.int (1 : Int32))] [(.int (1 : Int32)), (.ref aa)])) (fun t_ k_ => XS.iload X149.here hx rfl (hb hby d_prog_5_method_3_code_65) rfl k_) ?_
    refine Go.by (T' := T149) (g' := (mkF m 68 #[.val (.ref b), .val .null, .val .null, .val (.long now), .second, .val (.int (1 : Int32))] [(.long now), (.int (1 : Int32)), (.ref aa)])) (fun t_ k_ => XS.lloadN X149.here hx rfl (hb hby d_prog_5_method_3_code_67) rfl k_) ?_
    have V150 : Arv Z h0 aa ka .long (Int32.ofNat ln) [(.long s0), (.long (0 : Int64))] (.long (0 : Int64)) := P18.pad (pad_rep [(.long s0)] (.long (0 : Int64)) 1)
    obtain ⟨cl151, Ar151, q151, Sz151, Ng151, Hs151, Gs151⟩ := id V150
    obtain ⟨T152, h152, X152, e152, W152, st152⟩ := stJ X149 hx hZ e149 Ar151 (j := (1 : Int32)) (inb_of Sz151 (own_inb (i := 1) (show 1 < ln by omega) (by omega))) (g := (mkF m 68 #[.val (.ref b), .val .null, .val .null, .val (.long now), .second, .val (.int (1 : Int32))] [(.long now), (.int (1 : Int32)), (.ref aa)])) rfl rfl (hb hby d_prog_5_method_3_code_68)
    have V152 : Arv Z h152 aa ka .long (Int32.ofNat ln) [(.long s0), (.long now)] (.long (0 : Int64)) := Arv.set Ar151 q151 Sz151 Ng151 Hs151 Gs151 rfl W152 1 rfl (Nat.le_of_ble_eq_true rfl)
    have N152 := Fr.snoc X152 N102 P24
    refine Go.by (T' := T152) (g' := (mkF m 69 #[.val (.ref b), .val .null, .val .null, .val (.long now), .second, .val (.int (1 : Int32))] [])) (fun t_ k_ => st152 _ k_) ?_
    refine Go.by (T' := T152) (g' := (mkF m 70 #[.val (.ref b), .val .null, .val .null, .val (.long now), .second, .val (.int (1 : Int32))] [(.ref b)])) (fun t_ k_ => XS.aloadN X152.here hx rfl (hb hby d_prog_5_method_3_code_69) rfl rfl k_) ?_
    refine Go.by (T' := T152) (g' := (mkF m 71 #[.val (.ref b), .val .null, .val .null, .val (.long now), .second, .val (.int (1 : Int32))] [.null, (.ref b)])) (fun t_ k_ => XS.aloadN X152.here hx rfl (hb hby d_prog_5_method_3_code_70) rfl rfl k_) ?_
    refine Go.by (T' := T152) (g' := (mkF m 72 #[.val (.ref b), .val .null, .val .null, .val (.long now), .second, .val (.int (1 : Int32))] [.null, .null, (.ref b)])) (fun t_ k_ => XS.aloadN X152.here hx rfl (hb hby d_prog_5_method_3_code_71) rfl rfl k_) ?_
    have F153 : Exa Z h152 b "com/example/tidegate/tidegate/Batch" := (P0.wr W152)
    have F154 : Fld Z h152 b "com/example/tidegate/tidegate/Batch" "items" "Ljava/util/List;" (.ref l1) := (P2.other W152 (Or.inl P35))
    have F155 : Fld Z h152 b "com/example/tidegate/tidegate/Batch" "completions" "Ljava/util/List;" (.ref l2) := (P3.other W152 (Or.inl P35))
    have F156 : Exa Z h152 l1 "java/util/ArrayList" := (P6.wr W152)
    have F157 : Fld Z h152 l1 "java/util/AbstractList" "modCount" "I" (.int m1) := (P7.other W152 (Or.inl P36))
    have F158 : Fld Z h152 l1 "java/util/ArrayList" "elementData" "[Ljava/lang/Object;" (.ref e1) := (P8.other W152 (Or.inl P36))
    have F159 : Fld Z h152 l1 "java/util/ArrayList" "size" "I" (.int (Int32.ofNat n)) := (P9.other W152 (Or.inl P36))
    have F160 : Exa Z h152 e1 "[Ljava/lang/Object;" := (P10.wr W152)
    have F161 : Arv Z h152 e1 k1 (.object "java/lang/Object") (Int32.ofNat c1) [] .null := (P11.other W152 P38)
    have F162 : Exa Z h152 l2 "java/util/ArrayList" := (P12.wr W152)
    have F163 : Fld Z h152 l2 "java/util/AbstractList" "modCount" "I" (.int m2) := (P13.other W152 (Or.inl P37))
    have F164 : Fld Z h152 l2 "java/util/ArrayList" "elementData" "[Ljava/lang/Object;" (.ref e2) := (P14.other W152 (Or.inl P37))
    have F165 : Fld Z h152 l2 "java/util/ArrayList" "size" "I" (.int (Int32.ofNat n)) := (P15.other W152 (Or.inl P37))
    have F166 : Exa Z h152 e2 "[Ljava/lang/Object;" := (P16.wr W152)
    have F167 : Arv Z h152 e2 k2 (.object "java/lang/Object") (Int32.ofNat c2) [] .null := (P17.other W152 P39)
    have Od168 : Old Z n0 h152 := (X00.wr W152 P24)
    have Kp169 : Keep h0 h152 [b, l1, e1, l2, e2, aa] := ((Keep.refl h0 [b, l1, e1, l2, e2, aa]).wr W152 (Or.inl (List.mem_of_getElem? (i := 5) rfl)))
    obtain ⟨cq170, kq170, q170a, q170b, q170c⟩ := isOf hZ e152 F153
    obtain ⟨_, _, ⟨T170, L170, k170, n170⟩, -, X170, ⟨Lc170, hQ170, l170, y170, z170⟩, st170⟩ := X152.virtualBack hx (y := (⟨"com/example/tidegate/tidegate/Batch", "add", "(Ljava/lang/Object;Ljava/util/concurrent/CompletableFuture;)V"⟩ : MethodName)) (z := (⟨"com/example/tidegate/tidegate/Batch", "add", "(Ljava/lang/Object;Ljava/util/concurrent/CompletableFuture;)V"⟩ : MethodName)) hown (mvT hZ (hw _ (List.mem_of_getElem? (i := 134) rfl))) (mvT hZ (hw _ (List.mem_of_getElem? (i := 41) rfl))) (notFace_of_selects (args := #[]) (mvT hZ (hw _ (List.mem_of_getElem? (i := 43) rfl)))) (mvT hZ (hw _ (List.mem_of_getElem? (i := 43) rfl))) (mvT hZ (hw _ (List.mem_of_getElem? (i := 42) rfl))) (by decide) (backOf (W := 0) (rm_badd l Z a0 hw [] b l1 l2 e1 e2 n c1 c2 m1 m2 k1 k2 mr h152 n0 Od168 F153 F154 F155 F156 F157 F158 F159 F160 F161 F162 F163 F164 F165 F166 F167 P20 P21 P22 P23 P25 P26 P27 P28 P29 P30 P31 P32 P33 P34 hn5 hn1 hc11 hc17 hn2 hc21 hc27 hM) hZ (hw _ (List.mem_of_getElem? (i := 44) rfl)) (hw _ (List.mem_of_getElem? (i := 2) rfl)) (by decide) (by decide)) q170a q170c (g := (mkF m 72 #[.val (.ref b), .val .null, .val .null, .val (.long now), .second, .val (.int (1 : Int32))] [.null, .null, (.ref b)])) rfl (by rw [hml]; rfl) (Steps.refl _) (argsL := [.null, .null]) (rest := []) (lenOf pd_11 rfl) rfl (by show 2 * 0 + _ ≤ _; exact Nat.le_of_eq rfl) (hb hby d_prog_5_method_3_code_72) (fun _ _ => ⟨rfl, e152, (by decide : 0 + 2 ≤ _), (by decide : 0 + 14 ≤ _)⟩)
    dsimp only [Pt.U, Pt.locs, Pt.cells, Pt.slots] at X170 l170 y170 z170 st170 hQ170
    subst l170 y170 z170
    obtain ⟨f1_170, f2_170, d1_170, d2_170, r1_170, r2_170, j1_170, j2_170, rfl, N170q, K170, G170_0, G170_1, G170_2, G170_3, G170_4, G170_5, G170_6, G170_7, G170_8, G170_9, G170_10, G170_11, G170_12, G170_13, G170_14, G170_15, G170_16, G170_17, G170_18, G170_19⟩ := hQ170
    have N170 := Fr.app N152 N170q
    have ge_f1_170 : n0 ≤ f1_170 := G170_0.elim (fun q => q.symm ▸ P22) (fun q => Nat.le_trans Od168.sz q)
    have km_f1_170 : f1_170 ∈ [b, l1, e1, l2, e2, aa] ∨ h0.size ≤ f1_170 := G170_0.elim (fun q => q.symm ▸ (Or.inl (List.mem_of_getElem? (i := 2) rfl))) (fun q => Or.inr (Nat.le_trans Kp169.1 q))
    have fo_f1_170 : f1_170 = e1 ∨ h0.size ≤ f1_170 := G170_0.imp id (fun q => Nat.le_trans Kp169.1 q)
    have ne_b_f1_170 : ¬ (b = f1_170) := fun r => G170_0.elim (fun q => P27 (r.trans q)) (fun q => Nat.ne_of_lt (Nat.lt_of_lt_of_le F153.lt q) r)
    have ne_l1_f1_170 : ¬ (l1 = f1_170) := fun r => G170_0.elim (fun q => P30 (r.trans q)) (fun q => Nat.ne_of_lt (Nat.lt_of_lt_of_le F156.lt q) r)
    have ne_l2_f1_170 : ¬ (l2 = f1_170) := fun r => G170_0.elim (fun q => P32 (r.trans q)) (fun q => Nat.ne_of_lt (Nat.lt_of_lt_of_le F162.lt q) r)
    have ne_e2_f1_170 : ¬ (e2 = f1_170) := fun r => G170_0.elim (fun q => (Ne.symm P34) (r.trans q)) (fun q => Nat.ne_of_lt (Nat.lt_of_lt_of_le F166.lt q) r)
    have ne_aa_f1_170 : ¬ (aa = f1_170) := fun r => G170_0.elim (fun q => (Ne.symm P38) (r.trans q)) (fun q => Nat.ne_of_lt (Nat.lt_of_lt_of_le V152.lt q) r)
    have ge_f2_170 : n0 ≤ f2_170 := G170_1.elim (fun q => q.symm ▸ P23) (fun q => Nat.le_trans Od168.sz q)
    have km_f2_170 : f2_170 ∈ [b, l1, e1, l2, e2, aa] ∨ h0.size ≤ f2_170 := G170_1.elim (fun q => q.symm ▸ (Or.inl (List.mem_of_getElem? (i := 4) rfl))) (fun q => Or.inr (Nat.le_trans Kp169.1 q))
    have fo_f2_170 : f2_170 = e2 ∨ h0.size ≤ f2_170 := G170_1.imp id (fun q => Nat.le_trans Kp169.1 q)
    have ne_b_f2_170 : ¬ (b = f2_170) := fun r => G170_1.elim (fun q => P28 (r.trans q)) (fun q => Nat.ne_of_lt (Nat.lt_of_lt_of_le F153.lt q) r)
    have ne_l1_f2_170 : ¬ (l1 = f2_170) := fun r => G170_1.elim (fun q => P31 (r.trans q)) (fun q => Nat.ne_of_lt (Nat.lt_of_lt_of_le F156.lt q) r)
    have ne_e1_f2_170 : ¬ (e1 = f2_170) := fun r => G170_1.elim (fun q => P34 (r.trans q)) (fun q => Nat.ne_of_lt (Nat.lt_of_lt_of_le F160.lt q) r)
    have ne_l2_f2_170 : ¬ (l2 = f2_170) := fun r => G170_1.elim (fun q => P33 (r.trans q)) (fun q => Nat.ne_of_lt (Nat.lt_of_lt_of_le F162.lt q) r)
    have ne_aa_f2_170 : ¬ (aa = f2_170) := fun r => G170_1.elim (fun q => (Ne.symm P39) (r.trans q)) (fun q => Nat.ne_of_lt (Nat.lt_of_lt_of_le V152.lt q) r)
    refine Go.by (T' := T170) (g' := (mkF m 75 #[.val (.ref b), .val .null, .val .null, .val (.long now), .second, .val (.int (1 : Int32))] [])) (fun t_ k_ => st170.trans k_) ?_
    have F171 : Exa Z T170.heap b "com/example/tidegate/tidegate/Batch" := (F153.keep K170)
    have F172 : Fld Z T170.heap b "com/example/tidegate/tidegate/Batch" "presized" "I" (.int (Int32.ofNat q)) := ((P1.other W152 (Or.inl P35)).keep K170 (ninS P25 (ninS P27 (ninS P26 (ninS P28 nin0)))))
    have F173 : Fld Z T170.heap b "com/example/tidegate/tidegate/Batch" "items" "Ljava/util/List;" (.ref l1) := (F154.keep K170 (ninS P25 (ninS P27 (ninS P26 (ninS P28 nin0)))))
    have F174 : Fld Z T170.heap b "com/example/tidegate/tidegate/Batch" "completions" "Ljava/util/List;" (.ref l2) := (F155.keep K170 (ninS P25 (ninS P27 (ninS P26 (ninS P28 nin0)))))
    have F175 : Fld Z T170.heap b "com/example/tidegate/tidegate/Batch" "acceptedAt" "[J" (.ref aa) := ((P4.other W152 (Or.inl P35)).keep K170 (ninS P25 (ninS P27 (ninS P26 (ninS P28 nin0)))))
    have F176 : Fld Z T170.heap b "com/example/tidegate/tidegate/Batch" "firstTimed" "I" (.int (Int32.ofNat f0)) := ((P5.other W152 (Or.inl P35)).keep K170 (ninS P25 (ninS P27 (ninS P26 (ninS P28 nin0)))))
    have F177 : Arv Z T170.heap aa ka .long (Int32.ofNat ln) [(.long s0), (.long now)] (.long (0 : Int64)) := (V152.keep K170 (ninS (Ne.symm P36) (ninS (Ne.symm P38) (ninS (Ne.symm P37) (ninS (Ne.symm P39) nin0)))))
    have Kp178 : Keep h0 T170.heap [b, l1, e1, l2, e2, aa] := (Kp169.trans K170 (allS (Or.inl (List.mem_of_getElem? (i := 1) rfl)) (allS (Or.inl (List.mem_of_getElem? (i := 2) rfl)) (allS (Or.inl (List.mem_of_getElem? (i := 3) rfl)) (allS (Or.inl (List.mem_of_getElem? (i := 4) rfl)) all0)))))
    refine Go.fin X170 (v := none) (fun _ => rfl) hlk (by decide) (by decide) ?_ (fun fs hr => X170.returnOut hx Bd.returns (hb hby d_prog_5_method_3_code_75) hr)
    show Q_t1 Z b l1 l2 e1 e2 n c1 c2 m1 m2 k1 k2 mr q now f0 aa ka ln s0 h0 n0 _ T170.heap _
    exact ⟨f1_170, f2_170, d1_170, d2_170, r1_170, r2_170, j1_170, j2_170, aa, ka, ln, rfl, N170, Kp178, fo_f1_170, fo_f2_170, G170_2, G170_3, G170_4, G170_5, G170_6, G170_7, (Or.inl rfl), (Ne.symm P35), (Ne.symm P36), (Ne.symm P37), ne_aa_f1_170, ne_aa_f2_170, ⟨by omega, by omega⟩, F171, F172, F173, F174, F175, F176, G170_8, G170_9, G170_10, G170_11, G170_12, G170_13, G170_14, G170_15, G170_16, G170_17, G170_18, G170_19, F177⟩
def Q_t2 (Z : State) (b : Addr) (l1 : Addr) (l2 : Addr) (e1 : Addr) (e2 : Addr) (n : Nat) (c1 : Nat) (c2 : Nat) (m1 : Int32) (m2 : Int32) (k1 : ClassId) (k2 : ClassId) (mr : Addr) (q : Nat) (now : Int64) (f0 : Nat) (aa : Addr) (ka : ClassId) (ln : Nat) (s0 : Int64) (s1 : Int64) (h0 : Heap) (n0 : Nat) (v : Option Value) (h : Heap) (L : List Loc) : Prop := ∃ (f1 : Addr) (f2 : Addr) (d1 : Nat) (d2 : Nat) (r1 : Int32) (r2 : Int32) (j1 : ClassId) (j2 : ClassId) (a2 : Addr) (ka2 : ClassId) (ln2 : Nat), v = none ∧ Fr n0 L ∧ Keep h0 h [b, l1, e1, l2, e2, aa] ∧ (f1 = e1 ∨ h0.size ≤ f1) ∧ (f2 = e2 ∨ h0.size ≤ f2) ∧ ¬ (l1 = f1) ∧ ¬ (l2 = f2) ∧ ¬ (l1 = f2) ∧ ¬ (l2 = f1) ∧ ¬ (f1 = f2) ∧ (n + 1 ≤ d1 ∧ d1 ≤ 7 ∧ n + 1 ≤ d2 ∧ d2 ≤ 7) ∧ (a2 = aa ∨ h0.size ≤ a2) ∧ ¬ (a2 = b) ∧ ¬ (a2 = l1) ∧ ¬ (a2 = l2) ∧ ¬ (a2 = f1) ∧ ¬ (a2 = f2) ∧ (3 ≤ ln2 ∧ ln2 ≤ 4) ∧ Exa Z h b "com/example/tidegate/tidegate/Batch" ∧ Fld Z h b "com/example/tidegate/tidegate/Batch" "presized" "I" (.int (Int32.ofNat q)) ∧ Fld Z h b "com/example/tidegate/tidegate/Batch" "items" "Ljava/util/List;" (.ref l1) ∧ Fld Z h b "com/example/tidegate/tidegate/Batch" "completions" "Ljava/util/List;" (.ref l2) ∧ Fld Z h b "com/example/tidegate/tidegate/Batch" "acceptedAt" "[J" (.ref a2) ∧ Fld Z h b "com/example/tidegate/tidegate/Batch" "firstTimed" "I" (.int (Int32.ofNat f0)) ∧ Exa Z h l1 "java/util/ArrayList" ∧ Fld Z h l1 "java/util/AbstractList" "modCount" "I" (.int r1) ∧ Fld Z h l1 "java/util/ArrayList" "elementData" "[Ljava/lang/Object;" (.ref f1) ∧ Fld Z h l1 "java/util/ArrayList" "size" "I" (.int (Int32.ofNat (n + 1))) ∧ Exa Z h f1 "[Ljava/lang/Object;" ∧ Arv Z h f1 j1 (.object "java/lang/Object") (Int32.ofNat d1) [] .null ∧ Exa Z h l2 "java/util/ArrayList" ∧ Fld Z h l2 "java/util/AbstractList" "modCount" "I" (.int r2) ∧ Fld Z h l2 "java/util/ArrayList" "elementData" "[Ljava/lang/Object;" (.ref f2) ∧ Fld Z h l2 "java/util/ArrayList" "size" "I" (.int (Int32.ofNat (n + 1))) ∧ Exa Z h f2 "[Ljava/lang/Object;" ∧ Arv Z h f2 j2 (.object "java/lang/Object") (Int32.ofNat d2) [] .null ∧ Arv Z h a2 ka2 .long (Int32.ofNat ln2) [(.long s0), (.long s1), (.long now)] (.long (0 : Int64))
theorem ef_t2 (m : MethodId) (b : Addr) (now : Int64) : entryFrame m #[(.ref b), .null, .null, (.long now)] 6 = mkF m 0 #[.val (.ref b), .val .null, .val .null, .val (.long now), .second, .unset] [] := by first | (simp [entryFrame, mkF, argsToLocals, Value.category]; done) | rfl
set_option maxRecDepth 65536 in
set_option maxHeartbeats 40000000 in
theorem rm_t2 (l : Launch) (Z : State) (a0 : Array Value) (hw : ∀ d ∈ tables_1, d.before a0 Z = true) (ws : List Jvm.Cond) (b : Addr) (l1 : Addr) (l2 : Addr) (e1 : Addr) (e2 : Addr) (n : Nat) (c1 : Nat) (c2 : Nat) (m1 : Int32) (m2 : Int32) (k1 : ClassId) (k2 : ClassId) (mr : Addr) (q : Nat) (now : Int64) (f0 : Nat) (aa : Addr) (ka : ClassId) (ln : Nat) (s0 : Int64) (s1 : Int64) (h0 : Heap) (n0 : Nat) (X00 : Old Z n0 h0) (P0 : Exa Z h0 b "com/example/tidegate/tidegate/Batch") (P1 : Fld Z h0 b "com/example/tidegate/tidegate/Batch" "presized" "I" (.int (Int32.ofNat q))) (P2 : Fld Z h0 b "com/example/tidegate/tidegate/Batch" "items" "Ljava/util/List;" (.ref l1)) (P3 : Fld Z h0 b "com/example/tidegate/tidegate/Batch" "completions" "Ljava/util/List;" (.ref l2)) (P4 : Fld Z h0 b "com/example/tidegate/tidegate/Batch" "acceptedAt" "[J" (.ref aa)) (P5 : Fld Z h0 b "com/example/tidegate/tidegate/Batch" "firstTimed" "I" (.int (Int32.ofNat f0))) (P6 : Exa Z h0 l1 "java/util/ArrayList") (P7 : Fld Z h0 l1 "java/util/AbstractList" "modCount" "I" (.int m1)) (P8 : Fld Z h0 l1 "java/util/ArrayList" "elementData" "[Ljava/lang/Object;" (.ref e1)) (P9 : Fld Z h0 l1 "java/util/ArrayList" "size" "I" (.int (Int32.ofNat n))) (P10 : Exa Z h0 e1 "[Ljava/lang/Object;") (P11 : Arv Z h0 e1 k1 (.object "java/lang/Object") (Int32.ofNat c1) [] .null) (P12 : Exa Z h0 l2 "java/util/ArrayList") (P13 : Fld Z h0 l2 "java/util/AbstractList" "modCount" "I" (.int m2)) (P14 : Fld Z h0 l2 "java/util/ArrayList" "elementData" "[Ljava/lang/Object;" (.ref e2)) (P15 : Fld Z h0 l2 "java/util/ArrayList" "size" "I" (.int (Int32.ofNat n))) (P16 : Exa Z h0 e2 "[Ljava/lang/Object;") (P17 : Arv Z h0 e2 k2 (.object "java/lang/Object") (Int32.ofNat c2) [] .null) (P18 : Arv Z h0 aa ka .long (Int32.ofNat ln) [(.long s0), (.long s1)] (.long (0 : Int64))) (P19 : n0 ≤ b) (P20 : n0 ≤ l1) (P21 : n0 ≤ l2) (P22 : n0 ≤ e1) (P23 : n0 ≤ e2) (P24 : n0 ≤ aa) (P25 : ¬ (b = l1)) (P26 : ¬ (b = l2)) (P27 : ¬ (b = e1)) (P28 : ¬ (b = e2)) (P29 : ¬ (l1 = l2)) (P30 : ¬ (l1 = e1)) (P31 : ¬ (l1 = e2)) (P32 : ¬ (l2 = e1)) (P33 : ¬ (l2 = e2)) (P34 : ¬ (e1 = e2)) (P35 : ¬ (b = aa)) (P36 : ¬ (l1 = aa)) (P37 : ¬ (l2 = aa)) (P38 : ¬ (e1 = aa)) (P39 : ¬ (e2 = aa)) (hn5 : n ≤ 5) (hn1 : n ≤ c1) (hc11 : 1 ≤ c1) (hc17 : c1 ≤ 7) (hn2 : n ≤ c2) (hc21 : 1 ≤ c2) (hc27 : c2 ≤ 7) (hM : own_Mir Z "[Ljava/lang/Object;" mr) (hnf : n = f0 + 2) (hl1 : 2 ≤ ln) (hl4 : ln ≤ 4) :
    MetFree l (⟨"com/example/tidegate/tidegate/Batch", "add", "(Ljava/lang/Object;Ljava/util/concurrent/CompletableFuture;J)V"⟩ : MethodName) (head1 (Jvm.Cond.code (⟨"com/example/tidegate/tidegate/Batch", "add", "(Ljava/lang/Object;Ljava/util/concurrent/CompletableFuture;J)V"⟩ : MethodName) prog_5_method_3_code 6 none :: ws) ({ frames := 8, cells := 3, slots := 18, locals := 170 } : Room)) (fun aa_ U => aa_ = #[(.ref b), .null, .null, (.long now)] ∧ Z.Warmed39 U.vm ∧ U.heap = h0) (fun _ _ _ _ _ => True) (fun _ U o U' => ∃ v L, o = .returned v ∧ Q_t2 Z b l1 l2 e1 e2 n c1 c2 m1 m2 k1 k2 mr q now f0 aa ka ln s0 s1 h0 n0 v U'.heap L ∧ FrameEnd U o U' L ({ frames := 8, cells := 3, slots := 18, locals := 170 } : Room).cells ({ frames := 8, cells := 3, slots := 18, locals := 170 } : Room).slots) := by
  refine MetFree.of_bodySF (plainFor_of_name pn_5) hisR ?_
  intro p e s m args below meth c s₁ Bd hml0 hP hK
  obtain ⟨rfl, hZ, hh⟩ := hP
  have hx := Bd.exec
  have hby := Bd.bytes
  have hml : c.maxLocals = 6 := hml0
  have hown : s.vm.findClass "com/example/tidegate/tidegate/Batch" = some m.cls := findClass_of_methodNamed Bd.named
  have hnm := (name_of_methodNamed Bd.named Bd.method).1
  have hlk : meth.locks = false := BodyLoose.notSynchronized Bd
  have X0 : Stand p l e ({ frames := 8, cells := 3, slots := 18, locals := 170 } : Room) s m #[(.ref b), .null, .null, (.long now)] below meth c s₁ [] 0 0 := Stand.of_body Bd
  have e0 : s₁.heap = h0 := by rw [← hh, Bd.state]; rfl
  have N0 := Fr.nil n0
  suffices G : Go p e below s (Q_t2 Z b l1 l2 e1 e2 n c1 c2 m1 m2 k1 k2 mr q now f0 aa ka ln s0 s1 h0 n0) 3 18 s₁ (mkF m 0 #[.val (.ref b), .val .null, .val .null, .val (.long now), .second, .unset] []) by
    obtain ⟨s2, o, h1, h2⟩ := G
    exact ⟨s2, o, castTop (ef_t2 m b now) h1, h2⟩
  refine Go.by (T' := s₁) (g' := (mkF m 1 #[.val (.ref b), .val .null, .val .null, .val (.long now), .second, .unset] [(.ref b)])) (fun t_ k_ => XS.aloadN X0.here hx rfl (hb hby d_prog_5_method_3_code_0) rfl rfl k_) ?_
  obtain ⟨T101, X101, e101, st101⟩ := getF X0 hx hZ hown (host := "") (Or.inl (hw _ (List.mem_of_getElem? (i := 111) rfl))) Via.refl e0 P4 (g := (mkF m 1 #[.val (.ref b), .val .null, .val .null, .val (.long now), .second, .unset] [(.ref b)])) rfl rfl (hb hby d_prog_5_method_3_code_1)
  refine Go.by (T' := T101) (g' := (mkF m 4 #[.val (.ref b), .val .null, .val .null, .val (.long now), .second, .unset] [(.ref aa)])) (fun t_ k_ => st101 _ k_) ?_
  refine Go.by (T' := T101) (g' := (mkF m 25 #[.val (.ref b), .val .null, .val .null, .val (.long now), .second, .unset] [])) (fun t_ k_ => XS.ifnonnullYes X101.here hx rfl (pc0 := 4) (pc' := 25) rfl (hb hby d_prog_5_method_3_code_4) rfl (by decide) (by decide) k_) ?_
  refine Go.by (T' := T101) (g' := (mkF m 26 #[.val (.ref b), .val .null, .val .null, .val (.long now), .second, .unset] [(.ref b)])) (fun t_ k_ => XS.aloadN X101.here hx rfl (hb hby d_prog_5_method_3_code_25) rfl rfl k_) ?_
  obtain ⟨cq102, kq102, q102a, q102b, q102c⟩ := isOf hZ e101 P0
  obtain ⟨_, _, ⟨T102, L102, k102, n102⟩, -, X102, ⟨Lc102, hQ102, l102, y102, z102⟩, st102⟩ := X101.virtualBack hx (y := (⟨"com/example/tidegate/tidegate/Batch", "size", "()I"⟩ : MethodName)) (z := (⟨"com/example/tidegate/tidegate/Batch", "size", "()I"⟩ : MethodName)) hown (mvT hZ (hw _ (List.mem_of_getElem? (i := 119) rfl))) (mvT hZ (hw _ (List.mem_of_getElem? (i := 120) rfl))) (notFace_of_selects (args := #[]) (mvT hZ (hw _ (List.mem_of_getElem? (i := 122) rfl)))) (mvT hZ (hw _ (List.mem_of_getElem? (i := 122) rfl))) (mvT hZ (hw _ (List.mem_of_getElem? (i := 121) rfl))) (by decide) (backOf (W := 0) (rm_bsize l Z a0 hw [] b l2 n h0 n0 X00 P3 P12 P15) hZ (hw _ (List.mem_of_getElem? (i := 123) rfl)) (hw _ (List.mem_of_getElem? (i := 2) rfl)) (by decide) (by decide)) q102a q102c (g := (mkF m 26 #[.val (.ref b), .val .null, .val .null, .val (.long now), .second, .unset] [(.ref b)])) rfl (by rw [hml]; rfl) (Steps.refl _) (argsL := []) (rest := []) (lenOf pd_10 rfl) rfl (by show 2 * 0 + _ ≤ _; exact Nat.le_of_eq rfl) (hb hby d_prog_5_method_3_code_26) (fun _ _ => ⟨rfl, e101, (by decide : 0 + 0 ≤ _), (by decide : 0 + 0 ≤ _)⟩)
  dsimp only [Pt.U, Pt.locs, Pt.cells, Pt.slots] at X102 l102 y102 z102 st102 hQ102
  subst l102 y102 z102
  obtain ⟨rfl, N102q, e102⟩ := hQ102
  have N102 := Fr.app N0 N102q
  refine Go.by (T' := T102) (g' := (mkF m 29 #[.val (.ref b), .val .null, .val .null, .val (.long now), .second, .unset] [(.int (Int32.ofNat n))])) (fun t_ k_ => st102.trans k_) ?_
  refine Go.by (T' := T102) (g' := (mkF m 30 #[.val (.ref b), .val .null, .val .null, .val (.long now), .second, .unset] [(.ref b), (.int (Int32.ofNat n))])) (fun t_ k_ => XS.aloadN X102.here hx rfl (hb hby d_prog_5_method_3_code_29) rfl rfl k_) ?_
  obtain ⟨T103, X103, e103, st103⟩ := getF X102 hx hZ hown (host := "") (Or.inl (hw _ (List.mem_of_getElem? (i := 132) rfl))) Via.refl e102 P5 (g := (mkF m 30 #[.val (.ref b), .val .null, .val .null, .val (.long now), .second, .unset] [(.ref b), (.int (Int32.ofNat n))])) rfl rfl (hb hby d_prog_5_method_3_code_30)
  refine Go.by (T' := T103) (g' := (mkF m 33 #[.val (.ref b), .val .null, .val .null, .val (.long now), .second, .unset] [(.int (Int32.ofNat f0)), (.int (Int32.ofNat n))])) (fun t_ k_ => st103 _ k_) ?_
  refine Go.by (T' := T103) (g' := (mkF m 34 #[.val (.ref b), .val .null, .val .null, .val (.long now), .second, .unset] [(.int ((Int32.ofNat n) - (Int32.ofNat f0)))])) (fun t_ k_ => XS.isub X103.here hx rfl (hb hby d_prog_5_method_3_code_33) rfl k_) ?_
  rw [own_sub (show f0 ≤ n by omega), show n - f0 = 2 by omega, show Int32.ofNat 2 = (2 : Int32) from rfl]
  refine Go.by (T' := T103) (g' := (mkF m 36 #[.val (.ref b), .val .null, .val .null, .val (.long now), .second, .val (.int (2 : Int32))] [])) (fun t_ k_ => XS.istore X103.here hx rfl (hb hby d_prog_5_method_3_code_34) rfl (l' := #[.val (.ref b), .val .null, .val .null, .val (.long now), .second, .val (.int (2 : Int32))]) rfl k_) ?_
  refine Go.by (T' := T103) (g' := (mkF m 38 #[.val (.ref b), .val .null, .val .null, .val (.long now), .second, .val (.int (2 : Int32))] [(.int (2 : Int32))])) (fun t_ k_ => XS.iload X103.here hx rfl (hb hby d_prog_5_method_3_code_36) rfl k_) ?_
  refine Go.by (T' := T103) (g' := (mkF m 39 #[.val (.ref b), .val .null, .val .null, .val (.long now), .second, .val (.int (2 : Int32))] [(.ref b), (.int (2 : Int32))])) (fun t_ k_ => XS.aloadN X103.here hx rfl (hb hby d_prog_5_method_3_code_38) rfl rfl k_) ?_
  obtain ⟨T104, X104, e104, st104⟩ := getF X103 hx hZ hown (host := "") (Or.inl (hw _ (List.mem_of_getElem? (i := 111) rfl))) Via.refl e103 P4 (g := (mkF m 39 #[.val (.ref b), .val .null, .val .null, .val (.long now), .second, .val (.int (2 : Int32))] [(.ref b), (.int (2 : Int32))])) rfl rfl (hb hby d_prog_5_method_3_code_39)
  refine Go.by (T' := T104) (g' := (mkF m 42 #[.val (.ref b), .val .null, .val .null, .val (.long now), .second, .val (.int (2 : Int32))] [(.ref aa), (.int (2 : Int32))])) (fun t_ k_ => st104 _ k_) ?_
  obtain ⟨cl105, Ar105, -, Sz105, Ng105, -, -⟩ := id P18
  refine Go.by (T' := T104) (g' := (mkF m 43 #[.val (.ref b), .val .null, .val .null, .val (.long now), .second, .val (.int (2 : Int32))] [(.int (Int32.ofNat ln)), (.int (2 : Int32))])) (fun t_ k_ => X104.arraylength hx (by rw [e104]; exact Ar105.1) (State.isArrayOf_alike hZ.alike Ar105.2.1) (g := (mkF m 42 #[.val (.ref b), .val .null, .val .null, .val (.long now), .second, .val (.int (2 : Int32))] [(.ref aa), (.int (2 : Int32))])) rfl rfl (hb hby d_prog_5_method_3_code_42) _ (by rw [len_of Sz105 Ng105]; exact k_)) ?_
  by_cases hful : ln = 2
  · skip
    refine Go.by (T' := T104) (g' := (mkF m 46 #[.val (.ref b), .val .null, .val .null, .val (.long now), .second, .val (.int (2 : Int32))] [])) (fun t_ k_ => XS.icmpNo X104.here hx rfl (hb hby d_prog_5_method_3_code_43) rfl (teq (by rw [show (2 : Int32) = Int32.ofNat 2 from rfl, own_inj (by omega) (by omega)]; omega)).2 k_) ?_
    refine Go.by (T' := T104) (g' := (mkF m 47 #[.val (.ref b), .val .null, .val .null, .val (.long now), .second, .val (.int (2 : Int32))] [(.ref b)])) (fun t_ k_ => XS.aloadN X104.here hx rfl (hb hby d_prog_5_method_3_code_46) rfl rfl k_) ?_
    refine Go.by (T' := T104) (g' := (mkF m 48 #[.val (.ref b), .val .null, .val .null, .val (.long now), .second, .val (.int (2 : Int32))] [(.ref b), (.ref b)])) (fun t_ k_ => XS.aloadN X104.here hx rfl (hb hby d_prog_5_method_3_code_47) rfl rfl k_) ?_
    obtain ⟨T106, X106, e106, st106⟩ := getF X104 hx hZ hown (host := "") (Or.inl (hw _ (List.mem_of_getElem? (i := 111) rfl))) Via.refl e104 P4 (g := (mkF m 48 #[.val (.ref b), .val .null, .val .null, .val (.long now), .second, .val (.int (2 : Int32))] [(.ref b), (.ref b)])) rfl rfl (hb hby d_prog_5_method_3_code_48)
    refine Go.by (T' := T106) (g' := (mkF m 51 #[.val (.ref b), .val .null, .val .null, .val (.long now), .second, .val (.int (2 : Int32))] [(.ref aa), (.ref b)])) (fun t_ k_ => st106 _ k_) ?_
    refine Go.by (T' := T106) (g' := (mkF m 52 #[.val (.ref b), .val .null, .val .null, .val (.long now), .second, .val (.int (2 : Int32))] [(.int (2 : Int32)), (.ref aa), (.ref b)])) (fun t_ k_ => XS.iconst X106.here hx rfl (hb hby d_prog_5_method_3_code_51) k_) ?_
    refine Go.by (T' := T106) (g' := (mkF m 54 #[.val (.ref b), .val .null, .val .null, .val (.long now), .second, .val (.int (2 : Int32))] [(.int (2 : Int32)), (.int (2 : Int32)), (.ref aa), (.ref b)])) (fun t_ k_ => XS.iload X106.here hx rfl (hb hby d_prog_5_method_3_code_52) rfl k_) ?_
    refine Go.by (T' := T106) (g' := (mkF m 55 #[.val (.ref b), .val .null, .val .null, .val (.long now), .second, .val (.int (2 : Int32))] [(.int (4 : Int32)), (.ref aa), (.ref b)])) (fun t_ k_ => XS.imul X106.here hx rfl (hb hby d_prog_5_method_3_code_54) rfl k_) ?_
    have V107 : Arv Z h0 aa ka .long (2 : Int32) [(.long s0), (.long s1)] (.long (0 : Int64)) := by have q := P18; rw [hful] at q; exact q
    obtain ⟨_, _, ⟨T108, L108, k108, n108⟩, -, X108, ⟨Lc108, hQ108, l108, y108, z108⟩, st108⟩ := Jvm.LawKit.callS X106 hx (y := (⟨"java/util/Arrays", "copyOf", "([JI)[J"⟩ : MethodName)) hown (mvT hZ (hw _ (List.mem_of_getElem? (i := 135) rfl))) (mvT hZ (hw _ (List.mem_of_getElem? (i := 136) rfl))) (mvT hZ (hw _ (List.mem_of_getElem? (i := 84) rfl))) (mvT hZ (hw _ (List.mem_of_getElem? (i := 137) rfl))) (by decide) (backOf (W := 1) (rm_cpJ2 l Z a0 hw [] aa ka s0 s1 h0 n0 X00 V107) hZ (hw _ (List.mem_of_getElem? (i := 137) rfl)) (hw _ (List.mem_of_getElem? (i := 84) rfl)) (by decide) (by decide)) (g := (mkF m 55 #[.val (.ref b), .val .null, .val .null, .val (.long now), .second, .val (.int (2 : Int32))] [(.int (4 : Int32)), (.ref aa), (.ref b)])) rfl (by rw [hml]; rfl) (argsL := [(.ref aa), (.int (4 : Int32))]) (rest := [(.ref b)]) (lenOf pd_12 rfl) rfl (by show 2 * 0 + _ ≤ _; exact Nat.le_of_eq rfl) (hb hby d_prog_5_method_3_code_55) (fun _ _ => ⟨rfl, e106, (by decide : 0 + 1 ≤ _), (by decide : 0 + 4 ≤ _)⟩)
    dsimp only [Pt.U, Pt.locs, Pt.cells, Pt.slots] at X108 l108 y108 z108 st108 hQ108
    subst l108 y108 z108
    obtain ⟨t_108, k2_108, rfl, N108q, K108, G108_0, G108_1⟩ := hQ108
    have N108 := Fr.app N102 N108q
    have ge_t_108 : n0 ≤ t_108 := Nat.le_trans X00.sz G108_0
    have sz_t_108 : h0.size ≤ t_108 := Nat.le_trans (Keep.refl h0 [b, l1, e1, l2, e2, aa]).1 G108_0
    have ne_b_t_108 : ¬ (b = t_108) := Nat.ne_of_lt (Nat.lt_of_lt_of_le P0.lt G108_0)
    have ne_l1_t_108 : ¬ (l1 = t_108) := Nat.ne_of_lt (Nat.lt_of_lt_of_le P6.lt G108_0)
    have ne_e1_t_108 : ¬ (e1 = t_108) := Nat.ne_of_lt (Nat.lt_of_lt_of_le P10.lt G108_0)
    have ne_l2_t_108 : ¬ (l2 = t_108) := Nat.ne_of_lt (Nat.lt_of_lt_of_le P12.lt G108_0)
    have ne_e2_t_108 : ¬ (e2 = t_108) := Nat.ne_of_lt (Nat.lt_of_lt_of_le P16.lt G108_0)
    have ne_aa_t_108 : ¬ (aa = t_108) := Nat.ne_of_lt (Nat.lt_of_lt_of_le V107.lt G108_0)
    refine Go.by (T' := T108) (g' := (mkF m 58 #[.val (.ref b), .val .null, .val .null, .val (.long now), .second, .val (.int (2 : Int32))] [(.ref t_108), (.ref b)])) (fun t_ k_ => st108 _ k_) ?_
    have F109 : Fld Z T108.heap b "com/example/tidegate/tidegate/Batch" "acceptedAt" "[J" (.ref aa) := (P4.keep K108 nin0)
    have F110 : Exa Z T108.heap b "com/example/tidegate/tidegate/Batch" := (P0.keep K108)
    have Od111 : Old Z n0 T108.heap := (X00.keep K108 all0)
    have Kp112 : Keep h0 T108.heap [b, l1, e1, l2, e2, aa] := ((Keep.refl h0 [b, l1, e1, l2, e2, aa]).trans K108 all0)
    obtain ⟨T113, h113, X113, e113, W113, st113⟩ := putF X108 hx hZ hown (host := "") (Or.inl (hw _ (List.mem_of_getElem? (i := 111) rfl))) Via.refl rfl F109 F110 (Or.inl (hw _ (List.mem_of_getElem? (i := 112) rfl))) (hw _ (List.mem_of_getElem? (i := 1) rfl)) (ty := (.array .long)) (by decide) rfl rfl (g := (mkF m 58 #[.val (.ref b), .val .null, .val .null, .val (.long now), .second, .val (.int (2 : Int32))] [(.ref t_108), (.ref b)])) rfl rfl (hb hby d_prog_5_method_3_code_58)
    have Fw113 : Fld Z h113 b "com/example/tidegate/tidegate/Batch" "acceptedAt" "[J" (.ref t_108) := F109.same W113
    have N113 := Fr.snoc X113 N108 P19
    refine Go.by (T' := T113) (g' := (mkF m 61 #[.val (.ref b), .val .null, .val .null, .val (.long now), .second, .val (.int (2 : Int32))] [])) (fun t_ k_ => st113 _ k_) ?_
    refine Go.by (T' := T113) (g' := (mkF m 62 #[.val (.ref b), .val .null, .val .null, .val (.long now), .second, .val (.int (2 : Int32))] [(.ref b)])) (fun t_ k_ => XS.aloadN X113.here hx rfl (hb hby d_prog_5_method_3_code_61) rfl rfl k_) ?_
    obtain ⟨T114, X114, e114, st114⟩ := getF X113 hx hZ hown (host := "") (Or.inl (hw _ (List.mem_of_getElem? (i := 111) rfl))) Via.refl e113 Fw113 (g := (mkF m 62 #[.val (.ref b), .val .null, .val .null, .val (.long now), .second, .val (.int (2 : Int32))] [(.ref b)])) rfl rfl (hb hby d_prog_5_method_3_code_62)
    refine Go.by (T' := T114) (g' := (mkF m 65 #[.val (.ref b), .val .null, .val .null, .val (.long now), .second, .val (.int (2 : Int32))] [(.ref t_108)])) (fun t_ k_ => st114 _ k_) ?_
    refine Go.by (T' := T114) (g' := (mkF m 67 #[.val (.ref b), .val .null, .val .null, .val (.long now), .second, .val (.int (2 : Int32))] [(.int (2 : Int32)), (.ref t_108)])) (fun t_ k_ => XS.iload X114.here hx rfl (hb hby d_prog_5_method_3_code_65) rfl k_) ?_
    refine Go.by (T' := T114) (g' := (mkF m 68 #[.val (.ref b), .val .null, .val .null, .val (.long now), .second, .val (.int (2 : Int32))] [(.long now), (.int (2 : Int32)), (.ref t_108)])) (fun t_ k_ => XS.lloadN X114.here hx rfl (hb hby d_prog_5_method_3_code_67) rfl k_) ?_
    have F115 : Arv Z h113 t_108 k2_108 .long (4 : Int32) [(.long s0), (.long s1)] (.long (0 : Int64)) := (G108_1.other W113 (Ne.symm ne_b_t_108))
    have V116 : Arv Z h113 t_108 k2_108 .long (4 : Int32) [(.long s0), (.long s1), (.long (0 : Int64))] (.long (0 : Int64)) := F115.pad (pad_rep [(.long s0), (.long s1)] (.long (0 : Int64)) 1)
    have Od118 : Old Z n0 h113 := (Od111.wr W113 P19)
    have Kp119 : Keep h0 h113 [b, l1, e1, l2, e2, aa] := (Kp112.wr W113 (Or.inl (List.mem_of_getElem? (i := 0) rfl)))
    obtain ⟨cl117, Ar117, q117, Sz117, Ng117, Hs117, Gs117⟩ := id V116
    obtain ⟨T120, h120, X120, e120, W120, st120⟩ := stJ X114 hx hZ e114 Ar117 (j := (2 : Int32)) (inb_of Sz117 ⟨by decide, by decide⟩) (g := (mkF m 68 #[.val (.ref b), .val .null, .val .null, .val (.long now), .second, .val (.int (2 : Int32))] [(.long now), (.int (2 : Int32)), (.ref t_108)])) rfl rfl (hb hby d_prog_5_method_3_code_68)
    have V120 : Arv Z h120 t_108 k2_108 .long (4 : Int32) [(.long s0), (.long s1), (.long now)] (.long (0 : Int64)) := Arv.set Ar117 q117 Sz117 Ng117 Hs117 Gs117 rfl W120 2 rfl (Nat.le_of_ble_eq_true rfl)
    have N120 := Fr.snoc X120 N113 ge_t_108
    refine Go.by (T' := T120) (g' := (mkF m 69 #[.val (.ref b), .val .null, .val .null, .val (.long now), .second, .val (.int (2 : Int32))] [])) (fun t_ k_ => st120 _ k_) ?_
    refine Go.by (T' := T120) (g' := (mkF m 70 #[.val (.ref b), .val .null, .val .null, .val (.long now), .second, .val (.int (2 : Int32))] [(.ref b)])) (fun t_ k_ => XS.aloadN X120.here hx rfl (hb hby d_prog_5_method_3_code_69) rfl rfl k_) ?_
    refine Go.by (T' := T120) (g' := (mkF m 71 #[.val (.ref b), .val .null, .val .null, .val (.long now), .second, .val (.int (2 : Int32))] [.null, (.ref b)])) (fun t_ k_ => XS.aloadN X120.here hx rfl (hb hby d_prog_5_method_3_code_70) rfl rfl k_) ?_
    refine Go.by (T' := T120) (g' := (mkF m 72 #[.val (.ref b), .val .null, .val .null, .val (.long now), .second, .val (.int (2 : Int32))] [.null, .null, (.ref b)])) (fun t_ k_ => XS.aloadN X120.here hx rfl (hb hby d_prog_5_method_3_code_71) rfl rfl k_) ?_
    have F121 : Exa Z h120 b "com/example/tidegate/tidegate/Batch" := ((F110.wr W113).wr W120)
    have F122 : Fld Z h120 b "com/example/tidegate/tidegate/Batch" "items" "Ljava/util/List;" (.ref l1) := (((P2.keep K108 nin0).other W113 (Or.inr (slot_ne (Or.inr (hw _ (List.mem_of_getElem? (i := 37) rfl))) (Or.inl (hw _ (List.mem_of_getElem? (i := 112) rfl))) (by decide) (t := (.object "java/util/List")) (t' := (.array .long)) (by decide) (by decide)))).other W120 (Or.inl ne_b_t_108))
    have F123 : Fld Z h120 b "com/example/tidegate/tidegate/Batch" "completions" "Ljava/util/List;" (.ref l2) := (((P3.keep K108 nin0).other W113 (Or.inr (slot_ne (Or.inr (hw _ (List.mem_of_getElem? (i := 39) rfl))) (Or.inl (hw _ (List.mem_of_getElem? (i := 112) rfl))) (by decide) (t := (.object "java/util/List")) (t' := (.array .long)) (by decide) (by decide)))).other W120 (Or.inl ne_b_t_108))
    have F124 : Exa Z h120 l1 "java/util/ArrayList" := (((P6.keep K108).wr W113).wr W120)
    have F125 : Fld Z h120 l1 "java/util/AbstractList" "modCount" "I" (.int m1) := (((P7.keep K108 nin0).other W113 (Or.inl (Ne.symm P25))).other W120 (Or.inl ne_l1_t_108))
    have F126 : Fld Z h120 l1 "java/util/ArrayList" "elementData" "[Ljava/lang/Object;" (.ref e1) := (((P8.keep K108 nin0).other W113 (Or.inl (Ne.symm P25))).other W120 (Or.inl ne_l1_t_108))
    have F127 : Fld Z h120 l1 "java/util/ArrayList" "size" "I" (.int (Int32.ofNat n)) := (((P9.keep K108 nin0).other W113 (Or.inl (Ne.symm P25))).other W120 (Or.inl ne_l1_t_108))
    have F128 : Exa Z h120 e1 "[Ljava/lang/Object;" := (((P10.keep K108).wr W113).wr W120)
    have F129 : Arv Z h120 e1 k1 (.object "java/lang/Object") (Int32.ofNat c1) [] .null := (((P11.keep K108 nin0).other W113 (Ne.symm P27)).other W120 ne_e1_t_108)
    have F130 : Exa Z h120 l2 "java/util/ArrayList" := (((P12.keep K108).wr W113).wr W120)
    have F131 : Fld Z h120 l2 "java/util/AbstractList" "modCount" "I" (.int m2) := (((P13.keep K108 nin0).other W113 (Or.inl (Ne.symm P26))).other W120 (Or.inl ne_l2_t_108))
    have F132 : Fld Z h120 l2 "java/util/ArrayList" "elementData" "[Ljava/lang/Object;" (.ref e2) := (((P14.keep K108 nin0).other W113 (Or.inl (Ne.symm P26))).other W120 (Or.inl ne_l2_t_108))
    have F133 : Fld Z h120 l2 "java/util/ArrayList" "size" "I" (.int (Int32.ofNat n)) := (((P15.keep K108 nin0).other W113 (Or.inl (Ne.symm P26))).other W120 (Or.inl ne_l2_t_108))
    have F134 : Exa Z h120 e2 "[Ljava/lang/Object;" := (((P16.keep K108).wr W113).wr W120)
    have F135 : Arv Z h120 e2 k2 (.object "java/lang/Object") (Int32.ofNat c2) [] .null := (((P17.keep K108 nin0).other W113 (Ne.symm P28)).other W120 ne_e2_t_108)
    have Od136 : Old Z n0 h120 := (Od118.wr W120 ge_t_108)
    have Kp137 : Keep h0 h120 [b, l1, e1, l2, e2, aa] := (Kp119.wr W120 (Or.inr sz_t_108))
    obtain ⟨cq138, kq138, q138a, q138b, q138c⟩ := isOf hZ e120 F121
    obtain ⟨_, _, ⟨T138, L138, k138, n138⟩, -, X138, ⟨Lc138, hQ138, l138, y138, z138⟩, st138⟩ := X120.virtualBack hx (y := (⟨"com/example/tidegate/tidegate/Batch", "add", "(Ljava/lang/Object;Ljava/util/concurrent/CompletableFuture;)V"⟩ : MethodName)) (z := (⟨"com/example/tidegate/tidegate/Batch", "add", "(Ljava/lang/Object;Ljava/util/concurrent/CompletableFuture;)V"⟩ : MethodName)) hown (mvT hZ (hw _ (List.mem_of_getElem? (i := 134) rfl))) (mvT hZ (hw _ (List.mem_of_getElem? (i := 41) rfl))) (notFace_of_selects (args := #[]) (mvT hZ (hw _ (List.mem_of_getElem? (i := 43) rfl)))) (mvT hZ (hw _ (List.mem_of_getElem? (i := 43) rfl))) (mvT hZ (hw _ (List.mem_of_getElem? (i := 42) rfl))) (by decide) (backOf (W := 0) (rm_badd l Z a0 hw [] b l1 l2 e1 e2 n c1 c2 m1 m2 k1 k2 mr h120 n0 Od136 F121 F122 F123 F124 F125 F126 F127 F128 F129 F130 F131 F132 F133 F134 F135 P20 P21 P22 P23 P25 P26 P27 P28 P29 P30 P31 P32 P33 P34 hn5 hn1 hc11 hc17 hn2 hc21 hc27 hM) hZ (hw _ (List.mem_of_getElem? (i := 44) rfl)) (hw _ (List.mem_of_getElem? (i := 2) rfl)) (by decide) (by decide)) q138a q138c (g := (mkF m 72 #[.val (.ref b), .val .null, .val .null, .val (.long now), .second, .val (.int (2 : Int32))] [.null, .null, (.ref b)])) rfl (by rw [hml]; rfl) (Steps.refl _) (argsL := [.null, .null]) (rest := []) (lenOf pd_11 rfl) rfl (by show 2 * 0 + _ ≤ _; exact Nat.le_of_eq rfl) (hb hby d_prog_5_method_3_code_72) (fun _ _ => ⟨rfl, e120, (by decide : 1 + 2 ≤ _), (by decide : 4 + 14 ≤ _)⟩)
    dsimp only [Pt.U, Pt.locs, Pt.cells, Pt.slots] at X138 l138 y138 z138 st138 hQ138
    subst l138 y138 z138
    obtain ⟨f1_138, f2_138, d1_138, d2_138, r1_138, r2_138, j1_138, j2_138, rfl, N138q, K138, G138_0, G138_1, G138_2, G138_3, G138_4, G138_5, G138_6, G138_7, G138_8, G138_9, G138_10, G138_11, G138_12, G138_13, G138_14, G138_15, G138_16, G138_17, G138_18, G138_19⟩ := hQ138
    have N138 := Fr.app N120 N138q
    have ge_f1_138 : n0 ≤ f1_138 := G138_0.elim (fun q => q.symm ▸ P22) (fun q => Nat.le_trans Od136.sz q)
    have km_f1_138 : f1_138 ∈ [b, l1, e1, l2, e2, aa] ∨ h0.size ≤ f1_138 := G138_0.elim (fun q => q.symm ▸ (Or.inl (List.mem_of_getElem? (i := 2) rfl))) (fun q => Or.inr (Nat.le_trans Kp137.1 q))
    have fo_f1_138 : f1_138 = e1 ∨ h0.size ≤ f1_138 := G138_0.imp id (fun q => Nat.le_trans Kp137.1 q)
    have ne_b_f1_138 : ¬ (b = f1_138) := fun r => G138_0.elim (fun q => P27 (r.trans q)) (fun q => Nat.ne_of_lt (Nat.lt_of_lt_of_le F121.lt q) r)
    have ne_l1_f1_138 : ¬ (l1 = f1_138) := fun r => G138_0.elim (fun q => P30 (r.trans q)) (fun q => Nat.ne_of_lt (Nat.lt_of_lt_of_le F124.lt q) r)
    have ne_l2_f1_138 : ¬ (l2 = f1_138) := fun r => G138_0.elim (fun q => P32 (r.trans q)) (fun q => Nat.ne_of_lt (Nat.lt_of_lt_of_le F130.lt q) r)
    have ne_e2_f1_138 : ¬ (e2 = f1_138) := fun r => G138_0.elim (fun q => (Ne.symm P34) (r.trans q)) (fun q => Nat.ne_of_lt (Nat.lt_of_lt_of_le F134.lt q) r)
    have F139 : Arv Z h120 aa ka .long (2 : Int32) [(.long s0), (.long s1)] (.long (0 : Int64)) := (((V107.keep K108 nin0).other W113 (Ne.symm P35)).other W120 ne_aa_t_108)
    have ne_aa_f1_138 : ¬ (aa = f1_138) := fun r => G138_0.elim (fun q => (Ne.symm P38) (r.trans q)) (fun q => Nat.ne_of_lt (Nat.lt_of_lt_of_le F139.lt q) r)
    have ne_t_108_f1_138 : ¬ (t_108 = f1_138) := fun r => G138_0.elim (fun q => (Ne.symm ne_e1_t_108) (r.trans q)) (fun q => Nat.ne_of_lt (Nat.lt_of_lt_of_le V120.lt q) r)
    have ge_f2_138 : n0 ≤ f2_138 := G138_1.elim (fun q => q.symm ▸ P23) (fun q => Nat.le_trans Od136.sz q)
    have km_f2_138 : f2_138 ∈ [b, l1, e1, l2, e2, aa] ∨ h0.size ≤ f2_138 := G138_1.elim (fun q => q.symm ▸ (Or.inl (List.mem_of_getElem? (i := 4) rfl))) (fun q => Or.inr (Nat.le_trans Kp137.1 q))
    have fo_f2_138 : f2_138 = e2 ∨ h0.size ≤ f2_138 := G138_1.imp id (fun q => Nat.le_trans Kp137.1 q)
    have ne_b_f2_138 : ¬ (b = f2_138) := fun r => G138_1.elim (fun q => P28 (r.trans q)) (fun q => Nat.ne_of_lt (Nat.lt_of_lt_of_le F121.lt q) r)
    have ne_l1_f2_138 : ¬ (l1 = f2_138) := fun r => G138_1.elim (fun q => P31 (r.trans q)) (fun q => Nat.ne_of_lt (Nat.lt_of_lt_of_le F124.lt q) r)
    have ne_e1_f2_138 : ¬ (e1 = f2_138) := fun r => G138_1.elim (fun q => P34 (r.trans q)) (fun q => Nat.ne_of_lt (Nat.lt_of_lt_of_le F128.lt q) r)
    have ne_l2_f2_138 : ¬ (l2 = f2_138) := fun r => G138_1.elim (fun q => P33 (r.trans q)) (fun q => Nat.ne_of_lt (Nat.lt_of_lt_of_le F130.lt q) r)
    have ne_aa_f2_138 : ¬ (aa = f2_138) := fun r => G138_1.elim (fun q => (Ne.symm P39) (r.trans q)) (fun q => Nat.ne_of_lt (Nat.lt_of_lt_of_le F139.lt q) r)
    have ne_t_108_f2_138 : ¬ (t_108 = f2_138) := fun r => G138_1.elim (fun q => (Ne.symm ne_e2_t_108) (r.trans q)) (fun q => Nat.ne_of_lt (Nat.lt_of_lt_of_le V120.lt q) r)
    refine Go.by (T' := T138) (g' := (mkF m 75 #[.val (.ref b), .val .null, .val .null, .val (.long now), .second, .val (.int (2 : Int32))] [])) (fun t_ k_ => st138.trans k_) ?_
    have F140 : Arv Z T138.heap t_108 k2_108 .long (4 : Int32) [(.long s0), (.long s1), (.long now)] (.long (0 : Int64)) := (V120.keep K138 (ninS (Ne.symm ne_l1_t_108) (ninS (Ne.symm ne_e1_t_108) (ninS (Ne.symm ne_l2_t_108) (ninS (Ne.symm ne_e2_t_108) nin0)))))
    have V141 : Arv Z T138.heap t_108 k2_108 .long (Int32.ofNat 4) [(.long s0), (.long s1), (.long now)] (.long (0 : Int64)) := F140
    have F142 : Exa Z T138.heap b "com/example/tidegate/tidegate/Batch" := (F121.keep K138)
    have F143 : Fld Z T138.heap b "com/example/tidegate/tidegate/Batch" "presized" "I" (.int (Int32.ofNat q)) := ((((P1.keep K108 nin0).other W113 (Or.inr (slot_ne (Or.inr (hw _ (List.mem_of_getElem? (i := 10) rfl))) (Or.inl (hw _ (List.mem_of_getElem? (i := 112) rfl))) (by decide) (t := .int) (t' := (.array .long)) (by decide) (by decide)))).other W120 (Or.inl ne_b_t_108)).keep K138 (ninS P25 (ninS P27 (ninS P26 (ninS P28 nin0)))))
    have F144 : Fld Z T138.heap b "com/example/tidegate/tidegate/Batch" "items" "Ljava/util/List;" (.ref l1) := (F122.keep K138 (ninS P25 (ninS P27 (ninS P26 (ninS P28 nin0)))))
    have F145 : Fld Z T138.heap b "com/example/tidegate/tidegate/Batch" "completions" "Ljava/util/List;" (.ref l2) := (F123.keep K138 (ninS P25 (ninS P27 (ninS P26 (ninS P28 nin0)))))
    have F146 : Fld Z T138.heap b "com/example/tidegate/tidegate/Batch" "acceptedAt" "[J" (.ref t_108) := ((Fw113.other W120 (Or.inl ne_b_t_108)).keep K138 (ninS P25 (ninS P27 (ninS P26 (ninS P28 nin0)))))
    have F147 : Fld Z T138.heap b "com/example/tidegate/tidegate/Batch" "firstTimed" "I" (.int (Int32.ofNat f0)) := ((((P5.keep K108 nin0).other W113 (Or.inr (slot_ne (Or.inl (hw _ (List.mem_of_getElem? (i := 133) rfl))) (Or.inl (hw _ (List.mem_of_getElem? (i := 112) rfl))) (by decide) (t := .int) (t' := (.array .long)) (by decide) (by decide)))).other W120 (Or.inl ne_b_t_108)).keep K138 (ninS P25 (ninS P27 (ninS P26 (ninS P28 nin0)))))
    have Kp148 : Keep h0 T138.heap [b, l1, e1, l2, e2, aa] := (Kp137.trans K138 (allS (Or.inl (List.mem_of_getElem? (i := 1) rfl)) (allS (Or.inl (List.mem_of_getElem? (i := 2) rfl)) (allS (Or.inl (List.mem_of_getElem? (i := 3) rfl)) (allS (Or.inl (List.mem_of_getElem? (i := 4) rfl)) all0)))))
    refine Go.fin X138 (v := none) (fun _ => rfl) hlk (by decide) (by decide) ?_ (fun fs hr => X138.returnOut hx Bd.returns (hb hby d_prog_5_method_3_code_75) hr)
    show Q_t2 Z b l1 l2 e1 e2 n c1 c2 m1 m2 k1 k2 mr q now f0 aa ka ln s0 s1 h0 n0 _ T138.heap _
    exact ⟨f1_138, f2_138, d1_138, d2_138, r1_138, r2_138, j1_138, j2_138, t_108, k2_108, 4, rfl, N138, Kp148, fo_f1_138, fo_f2_138, G138_2, G138_3, G138_4, G138_5, G138_6, G138_7, (Or.inr sz_t_108), (Ne.symm ne_b_t_108), (Ne.symm ne_l1_t_108), (Ne.symm ne_l2_t_108), ne_t_108_f1_138, ne_t_108_f2_138, ⟨by omega, by omega⟩, F142, F143, F144, F145, F146, F147, G138_8, G138_9, G138_10, G138_11, G138_12, G138_13, G138_14, G138_15, G138_16, G138_17, G138_18, G138_19, V141⟩
  · skip
    refine Go.by (T' := T104) (g' := (mkF m 61 #[.val (.ref b), .val .null, .val .null, .val (.long now), .second, .val (.int (2 : Int32))] [])) (fun t_ k_ => XS.icmpYes X104.here hx rfl (pc0 := 43) (pc' := 61) rfl (hb hby d_prog_5_method_3_code_43) rfl (feq (by rw [show (2 : Int32) = Int32.ofNat 2 from rfl, own_inj (by omega) (by omega)]; omega)).2 (by decide) (by decide) k_) ?_
    refine Go.by (T' := T104) (g' := (mkF m 62 #[.val (.ref b), .val .null, .val .null, .val (.long now), .second, .val (.int (2 : Int32))] [(.ref b)])) (fun t_ k_ => XS.aloadN X104.here hx rfl (hb hby d_prog_5_method_3_code_61) rfl rfl k_) ?_
    obtain ⟨T149, X149, e149, st149⟩ := getF X104 hx hZ hown (host := "") (Or.inl (hw _ (List.mem_of_getElem? (i := 111) rfl))) Via.refl e104 P4 (g := (mkF m 62 #[.val (.ref b), .val .null, .val .null, .val (.long now), .second, .val (.int (2 : Int32))] [(.ref b)])) rfl rfl (hb hby d_prog_5_method_3_code_62)
    refine Go.by (T' := T149) (g' := (mkF m 65 #[.val (.ref b), .val .null, .val .null, .val (.long now), .second, .val (.int (2 : Int32))] [(.ref aa)])) (fun t_ k_ => st149 _ k_) ?_
    refine Go.by (T' := T149) (g' := (mkF m 67 #[.val (.ref b), .val .null, .val .null, .val (.long now), .second, .val (.int (2 : Int32))] [(.int (2 : Int32)), (.ref aa)])) (fun t_ k_ => XS.iload X149.here hx rfl (hb hby d_prog_5_method_3_code_65) rfl k_) ?_
    refine Go.by (T' := T149) (g' := (mkF m 68 #[.val (.ref b), .val .null, .val .null, .val (.long now), .second, .val (.int (2 : Int32))] [(.long now), (.int (2 : Int32)), (.ref aa)])) (fun t_ k_ => XS.lloadN X149.here hx rfl (hb hby d_prog_5_method_3_code_67) rfl k_) ?_
    have V150 : Arv Z h0 aa ka .long (Int32.ofNat ln) [(.long s0), (.long s1), (.long (0 : Int64))] (.long (0 : Int64)) := P18.pad (pad_rep [(.long s0), (.long s1)] (.long (0 : Int64)) 1)
    obtain ⟨cl151, Ar151, q151, Sz151, Ng151, Hs151, Gs151⟩ := id V150
    obtain ⟨T152, h152, X152, e152, W152, st152⟩ := stJ X149 hx hZ e149 Ar151 (j := (2 : Int32)) (inb_of Sz151 (own_inb (i := 2) (show 2 < ln by omega) (by omega))) (g := (mkF m 68 #[.val (.ref b), .val .null, .val .null, .val (.long now), .second, .val (.int (2 : Int32))] [(.long now), (.int (2 : Int32)), (.ref aa)])) rfl rfl (hb hby d_prog_5_method_3_code_68)
    have V152 : Arv Z h152 aa ka .long (Int32.ofNat ln) [(.long s0), (.long s1), (.long now)] (.long (0 : Int64)) := Arv.set Ar151 q151 Sz151 Ng151 Hs151 Gs151 rfl W152 2 rfl (Nat.le_of_ble_eq_true rfl)
    have N152 := Fr.snoc X152 N102 P24
    refine Go.by (T' := T152) (g' := (mkF m 69 #[.val (.ref b), .val .null, .val .null, .val (.long now), .second, .val (.int (2 : Int32))] [])) (fun t_ k_ => st152 _ k_) ?_
    refine Go.by (T' := T152) (g' := (mkF m 70 #[.val (.ref b), .val .null, .val .null, .val (.long now), .second, .val (.int (2 : Int32))] [(.ref b)])) (fun t_ k_ => XS.aloadN X152.here hx rfl (hb hby d_prog_5_method_3_code_69) rfl rfl k_) ?_
    refine Go.by (T' := T152) (g' := (mkF m 71 #[.val (.ref b), .val .null, .val .null, .val (.long now), .second, .val (.int (2 : Int32))] [.null, (.ref b)])) (fun t_ k_ => XS.aloadN X152.here hx rfl (hb hby d_prog_5_method_3_code_70) rfl rfl k_) ?_
    refine Go.by (T' := T152) (g' := (mkF m 72 #[.val (.ref b), .val .null, .val .null, .val (.long now), .second, .val (.int (2 : Int32))] [.null, .null, (.ref b)])) (fun t_ k_ => XS.aloadN X152.here hx rfl (hb hby d_prog_5_method_3_code_71) rfl rfl k_) ?_
    have F153 : Exa Z h152 b "com/example/tidegate/tidegate/Batch" := (P0.wr W152)
    have F154 : Fld Z h152 b "com/example/tidegate/tidegate/Batch" "items" "Ljava/util/List;" (.ref l1) := (P2.other W152 (Or.inl P35))
    have F155 : Fld Z h152 b "com/example/tidegate/tidegate/Batch" "completions" "Ljava/util/List;" (.ref l2) := (P3.other W152 (Or.inl P35))
    have F156 : Exa Z h152 l1 "java/util/ArrayList" := (P6.wr W152)
    have F157 : Fld Z h152 l1 "java/util/AbstractList" "modCount" "I" (.int m1) := (P7.other W152 (Or.inl P36))
    have F158 : Fld Z h152 l1 "java/util/ArrayList" "elementData" "[Ljava/lang/Object;" (.ref e1) := (P8.other W152 (Or.inl P36))
    have F159 : Fld Z h152 l1 "java/util/ArrayList" "size" "I" (.int (Int32.ofNat n)) := (P9.other W152 (Or.inl P36))
    have F160 : Exa Z h152 e1 "[Ljava/lang/Object;" := (P10.wr W152)
    have F161 : Arv Z h152 e1 k1 (.object "java/lang/Object") (Int32.ofNat c1) [] .null := (P11.other W152 P38)
    have F162 : Exa Z h152 l2 "java/util/ArrayList" := (P12.wr W152)
    have F163 : Fld Z h152 l2 "java/util/AbstractList" "modCount" "I" (.int m2) := (P13.other W152 (Or.inl P37))
    have F164 : Fld Z h152 l2 "java/util/ArrayList" "elementData" "[Ljava/lang/Object;" (.ref e2) := (P14.other W152 (Or.inl P37))
    have F165 : Fld Z h152 l2 "java/util/ArrayList" "size" "I" (.int (Int32.ofNat n)) := (P15.other W152 (Or.inl P37))
    have F166 : Exa Z h152 e2 "[Ljava/lang/Object;" := (P16.wr W152)
    have F167 : Arv Z h152 e2 k2 (.object "java/lang/Object") (Int32.ofNat c2) [] .null := (P17.other W152 P39)
    have Od168 : Old Z n0 h152 := (X00.wr W152 P24)
    have Kp169 : Keep h0 h152 [b, l1, e1, l2, e2, aa] := ((Keep.refl h0 [b, l1, e1, l2, e2, aa]).wr W152 (Or.inl (List.mem_of_getElem? (i := 5) rfl)))
    obtain ⟨cq170, kq170, q170a, q170b, q170c⟩ := isOf hZ e152 F153
    obtain ⟨_, _, ⟨T170, L170, k170, n170⟩, -, X170, ⟨Lc170, hQ170, l170, y170, z170⟩, st170⟩ := X152.virtualBack hx (y := (⟨"com/example/tidegate/tidegate/Batch", "add", "(Ljava/lang/Object;Ljava/util/concurrent/CompletableFuture;)V"⟩ : MethodName)) (z := (⟨"com/example/tidegate/tidegate/Batch", "add", "(Ljava/lang/Object;Ljava/util/concurrent/CompletableFuture;)V"⟩ : MethodName)) hown (mvT hZ (hw _ (List.mem_of_getElem? (i := 134) rfl))) (mvT hZ (hw _ (List.mem_of_getElem? (i := 41) rfl))) (notFace_of_selects (args := #[]) (mvT hZ (hw _ (List.mem_of_getElem? (i := 43) rfl)))) (mvT hZ (hw _ (List.mem_of_getElem? (i := 43) rfl))) (mvT hZ (hw _ (List.mem_of_getElem? (i := 42) rfl))) (by decide) (backOf (W := 0) (rm_badd l Z a0 hw [] b l1 l2 e1 e2 n c1 c2 m1 m2 k1 k2 mr h152 n0 Od168 F153 F154 F155 F156 F157 F158 F159 F160 F161 F162 F163 F164 F165 F166 F167 P20 P21 P22 P23 P25 P26 P27 P28 P29 P30 P31 P32 P33 P34 hn5 hn1 hc11 hc17 hn2 hc21 hc27 hM) hZ (hw _ (List.mem_of_getElem? (i := 44) rfl)) (hw _ (List.mem_of_getElem? (i := 2) rfl)) (by decide) (by decide)) q170a q170c (g := (mkF m 72 #[.val (.ref b), .val .null, .val .null, .val (.long now), .second, .val (.int (2 : Int32))] [.null, .null, (.ref b)])) rfl (by rw [hml]; rfl) (Steps.refl _) (argsL := [.null, .null]) (rest := []) (lenOf pd_11 rfl) rfl (by show 2 * 0 + _ ≤ _; exact Nat.le_of_eq rfl) (hb hby d_prog_5_method_3_code_72) (fun _ _ => ⟨rfl, e152, (by decide : 0 + 2 ≤ _), (by decide : 0 + 14 ≤ _)⟩)
    dsimp only [Pt.U, Pt.locs, Pt.cells, Pt.slots] at X170 l170 y170 z170 st170 hQ170
    subst l170 y170 z170
    obtain ⟨f1_170, f2_170, d1_170, d2_170, r1_170, r2_170, j1_170, j2_170, rfl, N170q, K170, G170_0, G170_1, G170_2, G170_3, G170_4, G170_5, G170_6, G170_7, G170_8, G170_9, G170_10, G170_11, G170_12, G170_13, G170_14, G170_15, G170_16, G170_17, G170_18, G170_19⟩ := hQ170
    have N170 := Fr.app N152 N170q
    have ge_f1_170 : n0 ≤ f1_170 := G170_0.elim (fun q => q.symm ▸ P22) (fun q => Nat.le_trans Od168.sz q)
    have km_f1_170 : f1_170 ∈ [b, l1, e1, l2, e2, aa] ∨ h0.size ≤ f1_170 := G170_0.elim (fun q => q.symm ▸ (Or.inl (List.mem_of_getElem? (i := 2) rfl))) (fun q => Or.inr (Nat.le_trans Kp169.1 q))
    have fo_f1_170 : f1_170 = e1 ∨ h0.size ≤ f1_170 := G170_0.imp id (fun q => Nat.le_trans Kp169.1 q)
    have ne_b_f1_170 : ¬ (b = f1_170) := fun r => G170_0.elim (fun q => P27 (r.trans q)) (fun q => Nat.ne_of_lt (Nat.lt_of_lt_of_le F153.lt q) r)
    have ne_l1_f1_170 : ¬ (l1 = f1_170) := fun r => G170_0.elim (fun q => P30 (r.trans q)) (fun q => Nat.ne_of_lt (Nat.lt_of_lt_of_le F156.lt q) r)
    have ne_l2_f1_170 : ¬ (l2 = f1_170) := fun r => G170_0.elim (fun q => P32 (r.trans q)) (fun q => Nat.ne_of_lt (Nat.lt_of_lt_of_le F162.lt q) r)
    have ne_e2_f1_170 : ¬ (e2 = f1_170) := fun r => G170_0.elim (fun q => (Ne.symm P34) (r.trans q)) (fun q => Nat.ne_of_lt (Nat.lt_of_lt_of_le F166.lt q) r)
    have ne_aa_f1_170 : ¬ (aa = f1_170) := fun r => G170_0.elim (fun q => (Ne.symm P38) (r.trans q)) (fun q => Nat.ne_of_lt (Nat.lt_of_lt_of_le V152.lt q) r)
    have ge_f2_170 : n0 ≤ f2_170 := G170_1.elim (fun q => q.symm ▸ P23) (fun q => Nat.le_trans Od168.sz q)
    have km_f2_170 : f2_170 ∈ [b, l1, e1, l2, e2, aa] ∨ h0.size ≤ f2_170 := G170_1.elim (fun q => q.symm ▸ (Or.inl (List.mem_of_getElem? (i := 4) rfl))) (fun q => Or.inr (Nat.le_trans Kp169.1 q))
    have fo_f2_170 : f2_170 = e2 ∨ h0.size ≤ f2_170 := G170_1.imp id (fun q => Nat.le_trans Kp169.1 q)
    have ne_b_f2_170 : ¬ (b = f2_170) := fun r => G170_1.elim (fun q => P28 (r.trans q)) (fun q => Nat.ne_of_lt (Nat.lt_of_lt_of_le F153.lt q) r)
    have ne_l1_f2_170 : ¬ (l1 = f2_170) := fun r => G170_1.elim (fun q => P31 (r.trans q)) (fun q => Nat.ne_of_lt (Nat.lt_of_lt_of_le F156.lt q) r)
    have ne_e1_f2_170 : ¬ (e1 = f2_170) := fun r => G170_1.elim (fun q => P34 (r.trans q)) (fun q => Nat.ne_of_lt (Nat.lt_of_lt_of_le F160.lt q) r)
    have ne_l2_f2_170 : ¬ (l2 = f2_170) := fun r => G170_1.elim (fun q => P33 (r.trans q)) (fun q => Nat.ne_of_lt (Nat.lt_of_lt_of_le F162.lt q) r)
    have ne_aa_f2_170 : ¬ (aa = f2_170) := fun r => G170_1.elim (fun q => (Ne.symm P39) (r.trans q)) (fun q => Nat.ne_of_lt (Nat.lt_of_lt_of_le V152.lt q) r)
    refine Go.by (T' := T170) (g' := (mkF m 75 #[.val (.ref b), .val .null, .val .null, .val (.long now), .second, .val (.int (2 : Int32))] [])) (fun t_ k_ => st170.trans k_) ?_
    have F171 : Exa Z T170.heap b "com/example/tidegate/tidegate/Batch" := (F153.keep K170)
    have F172 : Fld Z T170.heap b "com/example/tidegate/tidegate/Batch" "presized" "I" (.int (Int32.ofNat q)) := ((P1.other W152 (Or.inl P35)).keep K170 (ninS P25 (ninS P27 (ninS P26 (ninS P28 nin0)))))
    have F173 : Fld Z T170.heap b "com/example/tidegate/tidegate/Batch" "items" "Ljava/util/List;" (.ref l1) := (F154.keep K170 (ninS P25 (ninS P27 (ninS P26 (ninS P28 nin0)))))
    have F174 : Fld Z T170.heap b "com/example/tidegate/tidegate/Batch" "completions" "Ljava/util/List;" (.ref l2) := (F155.keep K170 (ninS P25 (ninS P27 (ninS P26 (ninS P28 nin0)))))
    have F175 : Fld Z T170.heap b "com/example/tidegate/tidegate/Batch" "acceptedAt" "[J" (.ref aa) := ((P4.other W152 (Or.inl P35)).keep K170 (ninS P25 (ninS P27 (ninS P26 (ninS P28 nin0)))))
    have F176 : Fld Z T170.heap b "com/example/tidegate/tidegate/Batch" "firstTimed" "I" (.int (Int32.ofNat f0)) := ((P5.other W152 (Or.inl P35)).keep K170 (ninS P25 (ninS P27 (ninS P26 (ninS P28 nin0)))))
    have F177 : Arv Z T170.heap aa ka .long (Int32.ofNat ln) [(.long s0), (.long s1), (.long now)] (.long (0 : Int64)) := (V152.keep K170 (ninS (Ne.symm P36) (ninS (Ne.symm P38) (ninS (Ne.symm P37) (ninS (Ne.symm P39) nin0)))))
    have Kp178 : Keep h0 T170.heap [b, l1, e1, l2, e2, aa] := (Kp169.trans K170 (allS (Or.inl (List.mem_of_getElem? (i := 1) rfl)) (allS (Or.inl (List.mem_of_getElem? (i := 2) rfl)) (allS (Or.inl (List.mem_of_getElem? (i := 3) rfl)) (allS (Or.inl (List.mem_of_getElem? (i := 4) rfl)) all0)))))
    refine Go.fin X170 (v := none) (fun _ => rfl) hlk (by decide) (by decide) ?_ (fun fs hr => X170.returnOut hx Bd.returns (hb hby d_prog_5_method_3_code_75) hr)
    show Q_t2 Z b l1 l2 e1 e2 n c1 c2 m1 m2 k1 k2 mr q now f0 aa ka ln s0 s1 h0 n0 _ T170.heap _
    exact ⟨f1_170, f2_170, d1_170, d2_170, r1_170, r2_170, j1_170, j2_170, aa, ka, ln, rfl, N170, Kp178, fo_f1_170, fo_f2_170, G170_2, G170_3, G170_4, G170_5, G170_6, G170_7, (Or.inl rfl), (Ne.symm P35), (Ne.symm P36), (Ne.symm P37), ne_aa_f1_170, ne_aa_f2_170, ⟨by omega, by omega⟩, F171, F172, F173, F174, F175, F176, G170_8, G170_9, G170_10, G170_11, G170_12, G170_13, G170_14, G170_15, G170_16, G170_17, G170_18, G170_19, F177⟩
def Q_w0 (Z : State) (b : Addr) (hh_ : Int64) (nt : Addr) (h0 : Heap) (n0 : Nat) (v : Option Value) (h : Heap) (L : List Loc) : Prop := v = some (.ref nt) ∧ Fr n0 L ∧ h = h0
theorem ef_w0 (m : MethodId) (b : Addr) (hh_ : Int64) : entryFrame m #[(.ref b), (.long hh_)] 5 = mkF m 0 #[.val (.ref b), .val (.long hh_), .second, .unset, .unset] [] := by first | (simp [entryFrame, mkF, argsToLocals, Value.category]; done) | rfl
theorem d_prog_5_method_4_code_0 : decode prog_5_method_4_code 0 = .ok (.getstatic 51, 3) := by decide +kernel
theorem d_prog_5_method_4_code_3 : decode prog_5_method_4_code 3 = .ok (.astore_n 3, 1) := by decide +kernel
theorem d_prog_5_method_4_code_4 : decode prog_5_method_4_code 4 = .ok (.aload_n 0, 1) := by decide +kernel
theorem d_prog_5_method_4_code_5 : decode prog_5_method_4_code 5 = .ok (.getfield 31, 3) := by decide +kernel
theorem d_prog_5_method_4_code_8 : decode prog_5_method_4_code 8 = .ok (.ifnull 44, 3) := by decide +kernel
theorem d_prog_5_method_4_code_52 : decode prog_5_method_4_code 52 = .ok (.aload_n 3, 1) := by decide +kernel
theorem d_prog_5_method_4_code_53 : decode prog_5_method_4_code 53 = .ok (.areturn, 1) := by decide +kernel
set_option maxRecDepth 65536 in
set_option maxHeartbeats 40000000 in
theorem rm_w0 (l : Launch) (Z : State) (a0 : Array Value) (hw : ∀ d ∈ tables_1, d.before a0 Z = true) (ws : List Jvm.Cond) (b : Addr) (hh_ : Int64) (nt : Addr) (h0 : Heap) (n0 : Nat) (X00 : Old Z n0 h0) (P0 : Fld Z h0 b "com/example/tidegate/tidegate/Batch" "acceptedAt" "[J" .null) (P1 : Sta Z Z.heap "com/example/tidegate/tidegate/Batch" "NONE_TIMED" "[J" (.ref nt)) :
    MetFree l (⟨"com/example/tidegate/tidegate/Batch", "waits", "(J)[J"⟩ : MethodName) (head1 (Jvm.Cond.code (⟨"com/example/tidegate/tidegate/Batch", "waits", "(J)[J"⟩ : MethodName) prog_5_method_4_code 5 (some (.array .long)) :: ws) ({ frames := 0, cells := 0, slots := 0, locals := 0 } : Room)) (fun aa_ U => aa_ = #[(.ref b), (.long hh_)] ∧ Z.Warmed39 U.vm ∧ U.heap = h0) (fun _ _ _ _ _ => True) (fun _ U o U' => ∃ v L, o = .returned v ∧ Q_w0 Z b hh_ nt h0 n0 v U'.heap L ∧ FrameEnd U o U' L ({ frames := 0, cells := 0, slots := 0, locals := 0 } : Room).cells ({ frames := 0, cells := 0, slots := 0, locals := 0 } : Room).slots) := by
  refine MetFree.of_bodySF (plainFor_of_name pn_5) hisR ?_
  intro p e s m args below meth c s₁ Bd hml0 hP hK
  obtain ⟨rfl, hZ, hh⟩ := hP
  have hx := Bd.exec
  have hby := Bd.bytes
  have hml : c.maxLocals = 5 := hml0
  have hown : s.vm.findClass "com/example/tidegate/tidegate/Batch" = some m.cls := findClass_of_methodNamed Bd.named
  have hnm := (name_of_methodNamed Bd.named Bd.method).1
  have hlk : meth.locks = false := BodyLoose.notSynchronized Bd
  have X0 : Stand p l e ({ frames := 0, cells := 0, slots := 0, locals := 0 } : Room) s m #[(.ref b), (.long hh_)] below meth c s₁ [] 0 0 := Stand.of_body Bd
  have e0 : s₁.heap = h0 := by rw [← hh, Bd.state]; rfl
  have N0 := Fr.nil n0
  suffices G : Go p e below s (Q_w0 Z b hh_ nt h0 n0) 0 0 s₁ (mkF m 0 #[.val (.ref b), .val (.long hh_), .second, .unset, .unset] []) by
    obtain ⟨s2, o, h1, h2⟩ := G
    exact ⟨s2, o, castTop (ef_w0 m b hh_) h1, h2⟩
  obtain ⟨T101, X101, e101, st101⟩ := getS2 X0 hx hZ hown (host := "") (Or.inl (hw _ (List.mem_of_getElem? (i := 109) rfl))) Via.refl e0 (P1.ext X00.2) (g := (mkF m 0 #[.val (.ref b), .val (.long hh_), .second, .unset, .unset] [])) rfl (hb hby d_prog_5_method_4_code_0)
  refine Go.by (T' := T101) (g' := (mkF m 3 #[.val (.ref b), .val (.long hh_), .second, .unset, .unset] [(.ref nt)])) (fun t_ k_ => st101 _ k_) ?_
  refine Go.by (T' := T101) (g' := (mkF m 4 #[.val (.ref b), .val (.long hh_), .second, .val (.ref nt), .unset] [])) (fun t_ k_ => XS.astoreN X101.here hx rfl (hb hby d_prog_5_method_4_code_3) rfl rfl (l' := #[.val (.ref b), .val (.long hh_), .second, .val (.ref nt), .unset]) rfl k_) ?_
  refine Go.by (T' := T101) (g' := (mkF m 5 #[.val (.ref b), .val (.long hh_), .second, .val (.ref nt), .unset] [(.ref b)])) (fun t_ k_ => XS.aloadN X101.here hx rfl (hb hby d_prog_5_method_4_code_4) rfl rfl k_) ?_
  obtain ⟨T102, X102, e102, st102⟩ := getF X101 hx hZ hown (host := "") (Or.inl (hw _ (List.mem_of_getElem? (i := 111) rfl))) Via.refl e101 P0 (g := (mkF m 5 #[.val (.ref b), .val (.long hh_), .second, .val (.ref nt), .unset] [(.ref b)])) rfl rfl (hb hby d_prog_5_method_4_code_5)
  refine Go.by (T' := T102) (g' := (mkF m 8 #[.val (.ref b), .val (.long hh_), .second, .val (.ref nt), .unset] [.null])) (fun t_ k_ => st102 _ k_) ?_
  refine Go.by (T' := T102) (g' := (mkF m 52 #[.val (.ref b), .val (.long hh_), .second, .val (.ref nt), .unset] [])) (fun t_ k_ => XS.ifnullYes X102.here hx rfl (pc0 := 8) (pc' := 52) rfl (hb hby d_prog_5_method_4_code_8) rfl (by decide) (by decide) k_) ?_
  refine Go.by (T' := T102) (g' := (mkF m 53 #[.val (.ref b), .val (.long hh_), .second, .val (.ref nt), .unset] [(.ref nt)])) (fun t_ k_ => XS.aloadN X102.here hx rfl (hb hby d_prog_5_method_4_code_52) rfl rfl k_) ?_
  refine Go.fin X102 (v := some (.ref nt)) (fun h => by rw [Bd.returns] at h; cases h) hlk (by decide) (by decide) ?_ (fun fs hr => retR X102 hx (w := (.ref nt)) Bd.returns rfl rfl rfl (hb hby d_prog_5_method_4_code_53) hr)
  show Q_w0 Z b hh_ nt h0 n0 _ T102.heap _
  rw [e102]
  exact ⟨rfl, N0, rfl⟩
def Q_w1 (Z : State) (b : Addr) (hh_ : Int64) (nt : Addr) (l2 : Addr) (n : Nat) (f0 : Nat) (aa : Addr) (ka : ClassId) (ln : Nat) (s0 : Int64) (h0 : Heap) (n0 : Nat) (v : Option Value) (h : Heap) (L : List Loc) : Prop := ∃ (t : Addr) (kt : ClassId), v = some (.ref t) ∧ Fr n0 L ∧ Keep h0 h [] ∧ h0.size ≤ t ∧ Arv Z h t kt .long (1 : Int32) [(.long (hh_ - s0))] (.long (0 : Int64))
theorem ef_w1 (m : MethodId) (b : Addr) (hh_ : Int64) : entryFrame m #[(.ref b), (.long hh_)] 5 = mkF m 0 #[.val (.ref b), .val (.long hh_), .second, .unset, .unset] [] := by first | (simp [entryFrame, mkF, argsToLocals, Value.category]; done) | rfl
theorem d_prog_5_method_4_code_11 : decode prog_5_method_4_code 11 = .ok (.aload_n 0, 1) := by decide +kernel
theorem d_prog_5_method_4_code_12 : decode prog_5_method_4_code 12 = .ok (.invokevirtual 35, 3) := by decide +kernel
theorem d_prog_5_method_4_code_15 : decode prog_5_method_4_code 15 = .ok (.aload_n 0, 1) := by decide +kernel
theorem d_prog_5_method_4_code_16 : decode prog_5_method_4_code 16 = .ok (.getfield 39, 3) := by decide +kernel
theorem d_prog_5_method_4_code_19 : decode prog_5_method_4_code 19 = .ok (.isub, 1) := by decide +kernel
theorem d_prog_5_method_4_code_20 : decode prog_5_method_4_code 20 = .ok (.newarray .long, 2) := by decide +kernel
theorem d_prog_5_method_4_code_22 : decode prog_5_method_4_code 22 = .ok (.astore_n 3, 1) := by decide +kernel
theorem d_prog_5_method_4_code_23 : decode prog_5_method_4_code 23 = .ok (.iconst 0, 1) := by decide +kernel
theorem d_prog_5_method_4_code_24 : decode prog_5_method_4_code 24 = .ok (.istore 4, 2) := by decide +kernel
theorem d_prog_5_method_4_code_26 : decode prog_5_method_4_code 26 = .ok (.iload 4, 2) := by decide +kernel
theorem d_prog_5_method_4_code_28 : decode prog_5_method_4_code 28 = .ok (.aload_n 3, 1) := by decide +kernel
theorem d_prog_5_method_4_code_29 : decode prog_5_method_4_code 29 = .ok (.arraylength, 1) := by decide +kernel
theorem d_prog_5_method_4_code_30 : decode prog_5_method_4_code 30 = .ok (.if_icmp .ge 22, 3) := by decide +kernel
theorem d_prog_5_method_4_code_33 : decode prog_5_method_4_code 33 = .ok (.aload_n 3, 1) := by decide +kernel
theorem d_prog_5_method_4_code_34 : decode prog_5_method_4_code 34 = .ok (.iload 4, 2) := by decide +kernel
theorem d_prog_5_method_4_code_36 : decode prog_5_method_4_code 36 = .ok (.lload_n 1, 1) := by decide +kernel
theorem d_prog_5_method_4_code_37 : decode prog_5_method_4_code 37 = .ok (.aload_n 0, 1) := by decide +kernel
theorem d_prog_5_method_4_code_38 : decode prog_5_method_4_code 38 = .ok (.getfield 31, 3) := by decide +kernel
theorem d_prog_5_method_4_code_41 : decode prog_5_method_4_code 41 = .ok (.iload 4, 2) := by decide +kernel
theorem d_prog_5_method_4_code_43 : decode prog_5_method_4_code 43 = .ok (.laload, 1) := by decide +kernel
theorem d_prog_5_method_4_code_44 : decode prog_5_method_4_code 44 = .ok (.lsub, 1) := by decide +kernel
theorem d_prog_5_method_4_code_45 : decode prog_5_method_4_code 45 = .ok (.lastore, 1) := by decide +kernel
theorem d_prog_5_method_4_code_46 : decode prog_5_method_4_code 46 = .ok (.iinc 4 1, 3) := by decide +kernel
theorem d_prog_5_method_4_code_49 : decode prog_5_method_4_code 49 = .ok (.goto (-23), 3) := by decide +kernel
set_option maxRecDepth 65536 in
set_option maxHeartbeats 40000000 in
theorem rm_w1 (l : Launch) (Z : State) (a0 : Array Value) (hw : ∀ d ∈ tables_1, d.before a0 Z = true) (ws : List Jvm.Cond) (b : Addr) (hh_ : Int64) (nt : Addr) (l2 : Addr) (n : Nat) (f0 : Nat) (aa : Addr) (ka : ClassId) (ln : Nat) (s0 : Int64) (h0 : Heap) (n0 : Nat) (X00 : Old Z n0 h0) (P0 : Exa Z h0 b "com/example/tidegate/tidegate/Batch") (P1 : Fld Z h0 b "com/example/tidegate/tidegate/Batch" "completions" "Ljava/util/List;" (.ref l2)) (P2 : Fld Z h0 b "com/example/tidegate/tidegate/Batch" "acceptedAt" "[J" (.ref aa)) (P3 : Fld Z h0 b "com/example/tidegate/tidegate/Batch" "firstTimed" "I" (.int (Int32.ofNat f0))) (P4 : Exa Z h0 l2 "java/util/ArrayList") (P5 : Fld Z h0 l2 "java/util/ArrayList" "size" "I" (.int (Int32.ofNat n))) (P6 : Arv Z h0 aa ka .long (Int32.ofNat ln) [(.long s0)] (.long (0 : Int64))) (P7 : Sta Z Z.heap "com/example/tidegate/tidegate/Batch" "NONE_TIMED" "[J" (.ref nt)) (hnf : n = f0 + 1) (hn6 : n ≤ 6) (hl1 : 1 ≤ ln) (hl4 : ln ≤ 4) :
    MetFree l (⟨"com/example/tidegate/tidegate/Batch", "waits", "(J)[J"⟩ : MethodName) (head1 (Jvm.Cond.code (⟨"com/example/tidegate/tidegate/Batch", "waits", "(J)[J"⟩ : MethodName) prog_5_method_4_code 5 (some (.array .long)) :: ws) ({ frames := 2, cells := 1, slots := 3, locals := 40 } : Room)) (fun aa_ U => aa_ = #[(.ref b), (.long hh_)] ∧ Z.Warmed39 U.vm ∧ U.heap = h0) (fun _ _ _ _ _ => True) (fun _ U o U' => ∃ v L, o = .returned v ∧ Q_w1 Z b hh_ nt l2 n f0 aa ka ln s0 h0 n0 v U'.heap L ∧ FrameEnd U o U' L ({ frames := 2, cells := 1, slots := 3, locals := 40 } : Room).cells ({ frames := 2, cells := 1, slots := 3, locals := 40 } : Room).slots) := by
  refine MetFree.of_bodySF (plainFor_of_name pn_5) hisR ?_
  intro p e s m args below meth c s₁ Bd hml0 hP hK
  obtain ⟨rfl, hZ, hh⟩ := hP
  have hx := Bd.exec
  have hby := Bd.bytes
  have hml : c.maxLocals = 5 := hml0
  have hown : s.vm.findClass "com/example/tidegate/tidegate/Batch" = some m.cls := findClass_of_methodNamed Bd.named
  have hnm := (name_of_methodNamed Bd.named Bd.method).1
  have hlk : meth.locks = false := BodyLoose.notSynchronized Bd
  have X0 : Stand p l e ({ frames := 2, cells := 1, slots := 3, locals := 40 } : Room) s m #[(.ref b), (.long hh_)] below meth c s₁ [] 0 0 := Stand.of_body Bd
  have e0 : s₁.heap = h0 := by rw [← hh, Bd.state]; rfl
  have N0 := Fr.nil n0
  suffices G : Go p e below s (Q_w1 Z b hh_ nt l2 n f0 aa ka ln s0 h0 n0) 1 3 s₁ (mkF m 0 #[.val (.ref b), .val (.long hh_), .second, .unset, .unset] []) by
    obtain ⟨s2, o, h1, h2⟩ := G
    exact ⟨s2, o, castTop (ef_w1 m b hh_) h1, h2⟩
  obtain ⟨T101, X101, e101, st101⟩ := getS2 X0 hx hZ hown (host := "") (Or.inl (hw _ (List.mem_of_getElem? (i := 109) rfl))) Via.refl e0 (P7.ext X00.2) (g := (mkF m 0 #[.val (.ref b), .val (.long hh_), .second, .unset, .unset] [])) rfl (hb hby d_prog_5_method_4_code_0)
  refine Go.by (T' := T101) (g' := (mkF m 3 #[.val (.ref b), .val (.long hh_), .second, .unset, .unset] [(.ref nt)])) (fun t_ k_ => st101 _ k_) ?_
  refine Go.by (T' := T101) (g' := (mkF m 4 #[.val (.ref b), .val (.long hh_), .second, .val (.ref nt), .unset] [])) (fun t_ k_ => XS.astoreN X101.here hx rfl (hb hby d_prog_5_method_4_code_3) rfl rfl (l' := #[.val (.ref b), .val (.long hh_), .second, .val (.ref nt), .unset]) rfl k_) ?_
  refine Go.by (T' := T101) (g' := (mkF m 5 #[.val (.ref b), .val (.long hh_), .second, .val (.ref nt), .unset] [(.ref b)])) (fun t_ k_ => XS.aloadN X101.here hx rfl (hb hby d_prog_5_method_4_code_4) rfl rfl k_) ?_
  obtain ⟨T102, X102, e102, st102⟩ := getF X101 hx hZ hown (host := "") (Or.inl (hw _ (List.mem_of_getElem? (i := 111) rfl))) Via.refl e101 P2 (g := (mkF m 5 #[.val (.ref b), .val (.long hh_), .second, .val (.ref nt), .unset] [(.ref b)])) rfl rfl (hb hby d_prog_5_method_4_code_5)
  refine Go.by (T' := T102) (g' := (mkF m 8 #[.val (.ref b), .val (.long hh_), .second, .val (.ref nt), .unset] [(.ref aa)])) (fun t_ k_ => st102 _ k_) ?_
  refine Go.by (T' := T102) (g' := (mkF m 11 #[.val (.ref b), .val (.long hh_), .second, .val (.ref nt), .unset] [])) (fun t_ k_ => XS.ifnullNo X102.here hx rfl (hb hby d_prog_5_method_4_code_8) rfl k_) ?_
  refine Go.by (T' := T102) (g' := (mkF m 12 #[.val (.ref b), .val (.long hh_), .second, .val (.ref nt), .unset] [(.ref b)])) (fun t_ k_ => XS.aloadN X102.here hx rfl (hb hby d_prog_5_method_4_code_11) rfl rfl k_) ?_
  obtain ⟨cq103, kq103, q103a, q103b, q103c⟩ := isOf hZ e102 P0
  obtain ⟨_, _, ⟨T103, L103, k103, n103⟩, -, X103, ⟨Lc103, hQ103, l103, y103, z103⟩, st103⟩ := X102.virtualBack hx (y := (⟨"com/example/tidegate/tidegate/Batch", "size", "()I"⟩ : MethodName)) (z := (⟨"com/example/tidegate/tidegate/Batch", "size", "()I"⟩ : MethodName)) hown (mvT hZ (hw _ (List.mem_of_getElem? (i := 119) rfl))) (mvT hZ (hw _ (List.mem_of_getElem? (i := 120) rfl))) (notFace_of_selects (args := #[]) (mvT hZ (hw _ (List.mem_of_getElem? (i := 122) rfl)))) (mvT hZ (hw _ (List.mem_of_getElem? (i := 122) rfl))) (mvT hZ (hw _ (List.mem_of_getElem? (i := 121) rfl))) (by decide) (backOf (W := 0) (rm_bsize l Z a0 hw [] b l2 n h0 n0 X00 P1 P4 P5) hZ (hw _ (List.mem_of_getElem? (i := 123) rfl)) (hw _ (List.mem_of_getElem? (i := 2) rfl)) (by decide) (by decide)) q103a q103c (g := (mkF m 12 #[.val (.ref b), .val (.long hh_), .second, .val (.ref nt), .unset] [(.ref b)])) rfl (by rw [hml]; rfl) (Steps.refl _) (argsL := []) (rest := []) (lenOf pd_10 rfl) rfl (by show 2 * 0 + _ ≤ _; exact Nat.le_of_eq rfl) (hb hby d_prog_5_method_4_code_12) (fun _ _ => ⟨rfl, e102, (by decide : 0 + 0 ≤ _), (by decide : 0 + 0 ≤ _)⟩)
  dsimp only [Pt.U, Pt.locs, Pt.cells, Pt.slots] at X103 l103 y103 z103 st103 hQ103
  subst l103 y103 z103
  obtain ⟨rfl, N103q, e103⟩ := hQ103
  have N103 := Fr.app N0 N103q
  refine Go.by (T' := T103) (g' := (mkF m 15 #[.val (.ref b), .val (.long hh_), .second, .val (.ref nt), .unset] [(.int (Int32.ofNat n))])) (fun t_ k_ => st103.trans k_) ?_
  refine Go.by (T' := T103) (g' := (mkF m 16 #[.val (.ref b), .val (.long hh_), .second, .val (.ref nt), .unset] [(.ref b), (.int (Int32.ofNat n))])) (fun t_ k_ => XS.aloadN X103.here hx rfl (hb hby d_prog_5_method_4_code_15) rfl rfl k_) ?_
  obtain ⟨T104, X104, e104, st104⟩ := getF X103 hx hZ hown (host := "") (Or.inl (hw _ (List.mem_of_getElem? (i := 132) rfl))) Via.refl e103 P3 (g := (mkF m 16 #[.val (.ref b), .val (.long hh_), .second, .val (.ref nt), .unset] [(.ref b), (.int (Int32.ofNat n))])) rfl rfl (hb hby d_prog_5_method_4_code_16)
  refine Go.by (T' := T104) (g' := (mkF m 19 #[.val (.ref b), .val (.long hh_), .second, .val (.ref nt), .unset] [(.int (Int32.ofNat f0)), (.int (Int32.ofNat n))])) (fun t_ k_ => st104 _ k_) ?_
  refine Go.by (T' := T104) (g' := (mkF m 20 #[.val (.ref b), .val (.long hh_), .second, .val (.ref nt), .unset] [(.int ((Int32.ofNat n) - (Int32.ofNat f0)))])) (fun t_ k_ => XS.isub X104.here hx rfl (hb hby d_prog_5_method_4_code_19) rfl k_) ?_
  rw [own_sub (show f0 ≤ n by omega), show n - f0 = 1 by omega, show Int32.ofNat 1 = (1 : Int32) from rfl]
  obtain ⟨T105, h105, kc105, X105, e105, E105, A105, st105⟩ := newP X104 hx hZ (hw _ (List.mem_of_getElem? (i := 118) rfl)) e104 (g := (mkF m 20 #[.val (.ref b), .val (.long hh_), .second, .val (.ref nt), .unset] [(.int (1 : Int32))])) rfl (hb hby d_prog_5_method_4_code_20) rfl (by decide) (cap := 1) (by decide) (by decide) (by decide) (by decide)
  obtain ⟨b105, g105⟩ : ∃ z, z = h0.size := ⟨_, rfl⟩
  rw [← g105] at A105 st105
  have ge_b105 : n0 ≤ b105 := Nat.le_trans X00.sz (Nat.le_of_eq g105.symm)
  have sz_b105 : h0.size ≤ b105 := Nat.le_trans (Keep.refl h0 []).1 (Nat.le_of_eq g105.symm)
  have ne_b_b105 : ¬ (b = b105) := Nat.ne_of_lt (Nat.lt_of_lt_of_le P0.lt (Nat.le_of_eq g105.symm))
  have ne_l2_b105 : ¬ (l2 = b105) := Nat.ne_of_lt (Nat.lt_of_lt_of_le P4.lt (Nat.le_of_eq g105.symm))
  have ne_aa_b105 : ¬ (aa = b105) := Nat.ne_of_lt (Nat.lt_of_lt_of_le P6.lt (Nat.le_of_eq g105.symm))
  have V105 : Arv Z h105 b105 kc105 .long (1 : Int32) [(.long (0 : Int64))] (.long (0 : Int64)) := (Arv.new A105 (by decide)).pad (pad_rep [] (.long (0 : Int64)) 1)
  refine Go.by (T' := T105) (g' := (mkF m 22 #[.val (.ref b), .val (.long hh_), .second, .val (.ref nt), .unset] [(.ref b105)])) (fun t_ k_ => st105 _ k_) ?_
  refine Go.by (T' := T105) (g' := (mkF m 23 #[.val (.ref b), .val (.long hh_), .second, .val (.ref b105), .unset] [])) (fun t_ k_ => XS.astoreN X105.here hx rfl (hb hby d_prog_5_method_4_code_22) rfl rfl (l' := #[.val (.ref b), .val (.long hh_), .second, .val (.ref b105), .unset]) rfl k_) ?_
  refine Go.by (T' := T105) (g' := (mkF m 24 #[.val (.ref b), .val (.long hh_), .second, .val (.ref b105), .unset] [(.int (0 : Int32))])) (fun t_ k_ => XS.iconst X105.here hx rfl (hb hby d_prog_5_method_4_code_23) k_) ?_
  refine Go.by (T' := T105) (g' := (mkF m 26 #[.val (.ref b), .val (.long hh_), .second, .val (.ref b105), .val (.int (0 : Int32))] [])) (fun t_ k_ => XS.istore X105.here hx rfl (hb hby d_prog_5_method_4_code_24) rfl (l' := #[.val (.ref b), .val (.long hh_), .second, .val (.ref b105), .val (.int (0 : Int32))]) rfl k_) ?_
  refine Go.by (T' := T105) (g' := (mkF m 28 #[.val (.ref b), .val (.long hh_), .second, .val (.ref b105), .val (.int (0 : Int32))] [(.int (0 : Int32))])) (fun t_ k_ => XS.iload X105.here hx rfl (hb hby d_prog_5_method_4_code_26) rfl k_) ?_
  refine Go.by (T' := T105) (g' := (mkF m 29 #[.val (.ref b), .val (.long hh_), .second, .val (.ref b105), .val (.int (0 : Int32))] [(.ref b105), (.int (0 : Int32))])) (fun t_ k_ => XS.aloadN X105.here hx rfl (hb hby d_prog_5_method_4_code_28) rfl rfl k_) ?_
  obtain ⟨cl106, Ar106, -, Sz106, Ng106, -, -⟩ := id V105
  refine Go.by (T' := T105) (g' := (mkF m 30 #[.val (.ref b), .val (.long hh_), .second, .val (.ref b105), .val (.int (0 : Int32))] [(.int (1 : Int32)), (.int (0 : Int32))])) (fun t_ k_ => X105.arraylength hx (by rw [e105]; exact Ar106.1) (State.isArrayOf_alike hZ.alike Ar106.2.1) (g := (mkF m 29 #[.val (.ref b), .val (.long hh_), .second, .val (.ref b105), .val (.int (0 : Int32))] [(.ref b105), (.int (0 : Int32))])) rfl rfl (hb hby d_prog_5_method_4_code_29) _ (by rw [len_of Sz106 Ng106]; exact k_)) ?_
  refine Go.by (T' := T105) (g' := (mkF m 33 #[.val (.ref b), .val (.long hh_), .second, .val (.ref b105), .val (.int (0 : Int32))] [])) (fun t_ k_ => XS.icmpNo X105.here hx rfl (hb hby d_prog_5_method_4_code_30) rfl (tlt (by decide)).2.1 k_) ?_
  refine Go.by (T' := T105) (g' := (mkF m 34 #[.val (.ref b), .val (.long hh_), .second, .val (.ref b105), .val (.int (0 : Int32))] [(.ref b105)])) (fun t_ k_ => XS.aloadN X105.here hx rfl (hb hby d_prog_5_method_4_code_33) rfl rfl k_) ?_
  refine Go.by (T' := T105) (g' := (mkF m 36 #[.val (.ref b), .val (.long hh_), .second, .val (.ref b105), .val (.int (0 : Int32))] [(.int (0 : Int32)), (.ref b105)])) (fun t_ k_ => XS.iload X105.here hx rfl (hb hby d_prog_5_method_4_code_34) rfl k_) ?_
  refine Go.by (T' := T105) (g' := (mkF m 37 #[.val (.ref b), .val (.long hh_), .second, .val (.ref b105), .val (.int (0 : Int32))] [(.long hh_), (.int (0 : Int32)), (.ref b105)])) (fun t_ k_ => XS.lloadN X105.here hx rfl (hb hby d_prog_5_method_4_code_36) rfl k_) ?_
  refine Go.by (T' := T105) (g' := (mkF m 38 #[.val (.ref b), .val (.long hh_), .second, .val (.ref b105), .val (.int (0 : Int32))] [(.ref b), (.long hh_), (.int (0 : Int32)), (.ref b105)])) (fun t_ k_ => XS.aloadN X105.here hx rfl (hb hby d_prog_5_method_4_code_37) rfl rfl k_) ?_
  have F107 : Fld Z h105 b "com/example/tidegate/tidegate/Batch" "acceptedAt" "[J" (.ref aa) := (P2.ext E105)
  obtain ⟨T108, X108, e108, st108⟩ := getF X105 hx hZ hown (host := "") (Or.inl (hw _ (List.mem_of_getElem? (i := 111) rfl))) Via.refl e105 F107 (g := (mkF m 38 #[.val (.ref b), .val (.long hh_), .second, .val (.ref b105), .val (.int (0 : Int32))] [(.ref b), (.long hh_), (.int (0 : Int32)), (.ref b105)])) rfl rfl (hb hby d_prog_5_method_4_code_38)
  refine Go.by (T' := T108) (g' := (mkF m 41 #[.val (.ref b), .val (.long hh_), .second, .val (.ref b105), .val (.int (0 : Int32))] [(.ref aa), (.long hh_), (.int (0 : Int32)), (.ref b105)])) (fun t_ k_ => st108 _ k_) ?_
  refine Go.by (T' := T108) (g' := (mkF m 43 #[.val (.ref b), .val (.long hh_), .second, .val (.ref b105), .val (.int (0 : Int32))] [(.int (0 : Int32)), (.ref aa), (.long hh_), (.int (0 : Int32)), (.ref b105)])) (fun t_ k_ => XS.iload X108.here hx rfl (hb hby d_prog_5_method_4_code_41) rfl k_) ?_
  have F109 : Arv Z h105 aa ka .long (Int32.ofNat ln) [(.long s0)] (.long (0 : Int64)) := (P6.ext E105)
  obtain ⟨cl110, Ar110, q110, Sz110, Ng110, Hs110, Gs110⟩ := id F109
  have in110 := inb_of (j := (0 : Int32)) Sz110 (own_inb (i := 0) (show 0 < ln by omega) (by omega))
  refine Go.by (T' := T108) (g' := (mkF m 44 #[.val (.ref b), .val (.long hh_), .second, .val (.ref b105), .val (.int (0 : Int32))] [(.long s0), (.long hh_), (.int (0 : Int32)), (.ref b105)])) (fun t_ k_ => X108.laload hx (j := (0 : Int32)) (v := (.long s0)) (by rw [e108]; exact Ar110.1) (State.isArrayOf_alike hZ.alike Ar110.2.1) Ar110.2.2 in110 (Hs110.at in110 rfl) (g := (mkF m 43 #[.val (.ref b), .val (.long hh_), .second, .val (.ref b105), .val (.int (0 : Int32))] [(.int (0 : Int32)), (.ref aa), (.long hh_), (.int (0 : Int32)), (.ref b105)])) rfl rfl (hb hby d_prog_5_method_4_code_43) _ k_) ?_
  refine Go.by (T' := T108) (g' := (mkF m 45 #[.val (.ref b), .val (.long hh_), .second, .val (.ref b105), .val (.int (0 : Int32))] [(.long (hh_ - s0)), (.int (0 : Int32)), (.ref b105)])) (fun t_ k_ => XS.lsub X108.here hx rfl (hb hby d_prog_5_method_4_code_44) rfl k_) ?_
  have Od112 : Old Z n0 h105 := (X00.ext E105)
  have Kp113 : Keep h0 h105 [] := ((Keep.refl h0 []).ext E105)
  obtain ⟨cl111, Ar111, q111, Sz111, Ng111, Hs111, Gs111⟩ := id V105
  obtain ⟨T114, h114, X114, e114, W114, st114⟩ := stJ X108 hx hZ e108 Ar111 (j := (0 : Int32)) (inb_of Sz111 ⟨by decide, by decide⟩) (g := (mkF m 45 #[.val (.ref b), .val (.long hh_), .second, .val (.ref b105), .val (.int (0 : Int32))] [(.long (hh_ - s0)), (.int (0 : Int32)), (.ref b105)])) rfl rfl (hb hby d_prog_5_method_4_code_45)
  have V114 : Arv Z h114 b105 kc105 .long (1 : Int32) [(.long (hh_ - s0))] (.long (0 : Int64)) := Arv.set Ar111 q111 Sz111 Ng111 Hs111 Gs111 rfl W114 0 rfl (Nat.le_of_ble_eq_true rfl)
  have N114 := Fr.snoc X114 N103 ge_b105
  refine Go.by (T' := T114) (g' := (mkF m 46 #[.val (.ref b), .val (.long hh_), .second, .val (.ref b105), .val (.int (0 : Int32))] [])) (fun t_ k_ => st114 _ k_) ?_
  refine Go.by (T' := T114) (g' := (mkF m 49 #[.val (.ref b), .val (.long hh_), .second, .val (.ref b105), .val (.int (1 : Int32))] [])) (fun t_ k_ => XS.iinc X114.here hx rfl (hb hby d_prog_5_method_4_code_46) rfl (l' := #[.val (.ref b), .val (.long hh_), .second, .val (.ref b105), .val (.int (1 : Int32))]) rfl k_) ?_
  refine Go.by (T' := T114) (g' := (mkF m 26 #[.val (.ref b), .val (.long hh_), .second, .val (.ref b105), .val (.int (1 : Int32))] [])) (fun t_ k_ => XS.goto X114.here hx rfl (pc0 := 49) (pc' := 26) rfl (hb hby d_prog_5_method_4_code_49) (by decide) (by decide) k_) ?_
  refine Go.by (T' := T114) (g' := (mkF m 28 #[.val (.ref b), .val (.long hh_), .second, .val (.ref b105), .val (.int (1 : Int32))] [(.int (1 : Int32))])) (fun t_ k_ => XS.iload X114.here hx rfl (hb hby d_prog_5_method_4_code_26) rfl k_) ?_
  refine Go.by (T' := T114) (g' := (mkF m 29 #[.val (.ref b), .val (.long hh_), .second, .val (.ref b105), .val (.int (1 : Int32))] [(.ref b105), (.int (1 : Int32))])) (fun t_ k_ => XS.aloadN X114.here hx rfl (hb hby d_prog_5_method_4_code_28) rfl rfl k_) ?_
  obtain ⟨cl115, Ar115, -, Sz115, Ng115, -, -⟩ := id V114
  refine Go.by (T' := T114) (g' := (mkF m 30 #[.val (.ref b), .val (.long hh_), .second, .val (.ref b105), .val (.int (1 : Int32))] [(.int (1 : Int32)), (.int (1 : Int32))])) (fun t_ k_ => X114.arraylength hx (by rw [e114]; exact Ar115.1) (State.isArrayOf_alike hZ.alike Ar115.2.1) (g := (mkF m 29 #[.val (.ref b), .val (.long hh_), .second, .val (.ref b105), .val (.int (1 : Int32))] [(.ref b105), (.int (1 : Int32))])) rfl rfl (hb hby d_prog_5_method_4_code_29) _ (by rw [len_of Sz115 Ng115]; exact k_)) ?_
  refine Go.by (T' := T114) (g' := (mkF m 52 #[.val (.ref b), .val (.long hh_), .second, .val (.ref b105), .val (.int (1 : Int32))] [])) (fun t_ k_ => XS.icmpYes X114.here hx rfl (pc0 := 30) (pc' := 52) rfl (hb hby d_prog_5_method_4_code_30) rfl (flt (by decide)).2.1 (by decide) (by decide) k_) ?_
  refine Go.by (T' := T114) (g' := (mkF m 53 #[.val (.ref b), .val (.long hh_), .second, .val (.ref b105), .val (.int (1 : Int32))] [(.ref b105)])) (fun t_ k_ => XS.aloadN X114.here hx rfl (hb hby d_prog_5_method_4_code_52) rfl rfl k_) ?_
  have Kp116 : Keep h0 h114 [] := (Kp113.wr W114 (Or.inr sz_b105))
  refine Go.fin X114 (v := some (.ref b105)) (fun h => by rw [Bd.returns] at h; cases h) hlk (by decide) (by decide) ?_ (fun fs hr => retR X114 hx (w := (.ref b105)) Bd.returns rfl rfl rfl (hb hby d_prog_5_method_4_code_53) hr)
  show Q_w1 Z b hh_ nt l2 n f0 aa ka ln s0 h0 n0 _ T114.heap _
  rw [e114]
  exact ⟨b105, kc105, rfl, N114, Kp116, sz_b105, V114⟩
def Q_w2 (Z : State) (b : Addr) (hh_ : Int64) (nt : Addr) (l2 : Addr) (n : Nat) (f0 : Nat) (aa : Addr) (ka : ClassId) (ln : Nat) (s0 : Int64) (s1 : Int64) (h0 : Heap) (n0 : Nat) (v : Option Value) (h : Heap) (L : List Loc) : Prop := ∃ (t : Addr) (kt : ClassId), v = some (.ref t) ∧ Fr n0 L ∧ Keep h0 h [] ∧ h0.size ≤ t ∧ Arv Z h t kt .long (2 : Int32) [(.long (hh_ - s0)), (.long (hh_ - s1))] (.long (0 : Int64))
theorem ef_w2 (m : MethodId) (b : Addr) (hh_ : Int64) : entryFrame m #[(.ref b), (.long hh_)] 5 = mkF m 0 #[.val (.ref b), .val (.long hh_), .second, .unset, .unset] [] := by first | (simp [entryFrame, mkF, argsToLocals, Value.category]; done) | rfl
set_option maxRecDepth 65536 in
set_option maxHeartbeats 40000000 in
theorem rm_w2 (l : Launch) (Z : State) (a0 : Array Value) (hw : ∀ d ∈ tables_1, d.before a0 Z = true) (ws : List Jvm.Cond) (b : Addr) (hh_ : Int64) (nt : Addr) (l2 : Addr) (n : Nat) (f0 : Nat) (aa : Addr) (ka : ClassId) (ln : Nat) (s0 : Int64) (s1 : Int64) (h0 : Heap) (n0 : Nat) (X00 : Old Z n0 h0) (P0 : Exa Z h0 b "com/example/tidegate/tidegate/Batch") (P1 : Fld Z h0 b "com/example/tidegate/tidegate/Batch" "completions" "Ljava/util/List;" (.ref l2)) (P2 : Fld Z h0 b "com/example/tidegate/tidegate/Batch" "acceptedAt" "[J" (.ref aa)) (P3 : Fld Z h0 b "com/example/tidegate/tidegate/Batch" "firstTimed" "I" (.int (Int32.ofNat f0))) (P4 : Exa Z h0 l2 "java/util/ArrayList") (P5 : Fld Z h0 l2 "java/util/ArrayList" "size" "I" (.int (Int32.ofNat n))) (P6 : Arv Z h0 aa ka .long (Int32.ofNat ln) [(.long s0), (.long s1)] (.long (0 : Int64))) (P7 : Sta Z Z.heap "com/example/tidegate/tidegate/Batch" "NONE_TIMED" "[J" (.ref nt)) (hnf : n = f0 + 2) (hn6 : n ≤ 6) (hl1 : 2 ≤ ln) (hl4 : ln ≤ 4) :
    MetFree l (⟨"com/example/tidegate/tidegate/Batch", "waits", "(J)[J"⟩ : MethodName) (head1 (Jvm.Cond.code (⟨"com/example/tidegate/tidegate/Batch", "waits", "(J)[J"⟩ : MethodName) prog_5_method_4_code 5 (some (.array .long)) :: ws) ({ frames := 2, cells := 1, slots := 3, locals := 40 } : Room)) (fun aa_ U => aa_ = #[(.ref b), (.long hh_)] ∧ Z.Warmed39 U.vm ∧ U.heap = h0) (fun _ _ _ _ _ => True) (fun _ U o U' => ∃ v L, o = .returned v ∧ Q_w2 Z b hh_ nt l2 n f0 aa ka ln s0 s1 h0 n0 v U'.heap L ∧ FrameEnd U o U' L ({ frames := 2, cells := 1, slots := 3, locals := 40 } : Room).cells ({ frames := 2, cells := 1, slots := 3, locals := 40 } : Room).slots) := by
  refine MetFree.of_bodySF (plainFor_of_name pn_5) hisR ?_
  intro p e s m args below meth c s₁ Bd hml0 hP hK
  obtain ⟨rfl, hZ, hh⟩ := hP
  have hx := Bd.exec
  have hby := Bd.bytes
  have hml : c.maxLocals = 5 := hml0
  have hown : s.vm.findClass "com/example/tidegate/tidegate/Batch" = some m.cls := findClass_of_methodNamed Bd.named
  have hnm := (name_of_methodNamed Bd.named Bd.method).1
  have hlk : meth.locks = false := BodyLoose.notSynchronized Bd
  have X0 : Stand p l e ({ frames := 2, cells := 1, slots := 3, locals := 40 } : Room) s m #[(.ref b), (.long hh_)] below meth c s₁ [] 0 0 := Stand.of_body Bd
  have e0 : s₁.heap = h0 := by rw [← hh, Bd.state]; rfl
  have N0 := Fr.nil n0
  suffices G : Go p e below s (Q_w2 Z b hh_ nt l2 n f0 aa ka ln s0 s1 h0 n0) 1 3 s₁ (mkF m 0 #[.val (.ref b), .val (.long hh_), .second, .unset, .unset] []) by
    obtain ⟨s2, o, h1, h2⟩ := G
    exact ⟨s2, o, castTop (ef_w2 m b hh_) h1, h2⟩
  obtain ⟨T101, X101, e101, st101⟩ := getS2 X0 hx hZ hown (host := "") (Or.inl (hw _ (List.mem_of_getElem? (i := 109) rfl))) Via.refl e0 (P7.ext X00.2) (g := (mkF m 0 #[.val (.ref b), .val (.long hh_), .second, .unset, .unset] [])) rfl (hb hby d_prog_5_method_4_code_0)
  refine Go.by (T' := T101) (g' := (mkF m 3 #[.val (.ref b), .val (.long hh_), .second, .unset, .unset] [(.ref nt)])) (fun t_ k_ => st101 _ k_) ?_
  refine Go.by (T' := T101) (g' := (mkF m 4 #[.val (.ref b), .val (.long hh_), .second, .val (.ref nt), .unset] [])) (fun t_ k_ => XS.astoreN X101.here hx rfl (hb hby d_prog_5_method_4_code_3) rfl rfl (l' := #[.val (.ref b), .val (.long hh_), .second, .val (.ref nt), .unset]) rfl k_) ?_
  refine Go.by (T' := T101) (g' := (mkF m 5 #[.val (.ref b), .val (.long hh_), .second, .val (.ref nt), .unset] [(.ref b)])) (fun t_ k_ => XS.aloadN X101.here hx rfl (hb hby d_prog_5_method_4_code_4) rfl rfl k_) ?_
  obtain ⟨T102, X102, e102, st102⟩ := getF X101 hx hZ hown (host := "") (Or.inl (hw _ (List.mem_of_getElem? (i := 111) rfl))) Via.refl e101 P2 (g := (mkF m 5 #[.val (.ref b), .val (.long hh_), .second, .val (.ref nt), .unset] [(.ref b)])) rfl rfl (hb hby d_prog_5_method_4_code_5)
  refine Go.by (T' := T102) (g' := (mkF m 8 #[.val (.ref b), .val (.long hh_), .second, .val (.ref nt), .unset] [(.ref aa)])) (fun t_ k_ => st102 _ k_) ?_
  refine Go.by (T' := T102) (g' := (mkF m 11 #[.val (.ref b), .val (.long hh_), .second, .val (.ref nt), .unset] [])) (fun t_ k_ => XS.ifnullNo X102.here hx rfl (hb hby d_prog_5_method_4_code_8) rfl k_) ?_
  refine Go.by (T' := T102) (g' := (mkF m 12 #[.val (.ref b), .val (.long hh_), .second, .val (.ref nt), .unset] [(.ref b)])) (fun t_ k_ => XS.aloadN X102.here hx rfl (hb hby d_prog_5_method_4_code_11) rfl rfl k_) ?_
  obtain ⟨cq103, kq103, q103a, q103b, q103c⟩ := isOf hZ e102 P0
  obtain ⟨_, _, ⟨T103, L103, k103, n103⟩, -, X103, ⟨Lc103, hQ103, l103, y103, z103⟩, st103⟩ := X102.virtualBack hx (y := (⟨"com/example/tidegate/tidegate/Batch", "size", "()I"⟩ : MethodName)) (z := (⟨"com/example/tidegate/tidegate/Batch", "size", "()I"⟩ : MethodName)) hown (mvT hZ (hw _ (List.mem_of_getElem? (i := 119) rfl))) (mvT hZ (hw _ (List.mem_of_getElem? (i := 120) rfl))) (notFace_of_selects (args := #[]) (mvT hZ (hw _ (List.mem_of_getElem? (i := 122) rfl)))) (mvT hZ (hw _ (List.mem_of_getElem? (i := 122) rfl))) (mvT hZ (hw _ (List.mem_of_getElem? (i := 121) rfl))) (by decide) (backOf (W := 0) (rm_bsize l Z a0 hw [] b l2 n h0 n0 X00 P1 P4 P5) hZ (hw _ (List.mem_of_getElem? (i := 123) rfl)) (hw _ (List.mem_of_getElem? (i := 2) rfl)) (by decide) (by decide)) q103a q103c (g := (mkF m 12 #[.val (.ref b), .val (.long hh_), .second, .val (.ref nt), .unset] [(.ref b)])) rfl (by rw [hml]; rfl) (Steps.refl _) (argsL := []) (rest := []) (lenOf pd_10 rfl) rfl (by show 2 * 0 + _ ≤ _; exact Nat.le_of_eq rfl) (hb hby d_prog_5_method_4_code_12) (fun _ _ => ⟨rfl, e102, (by decide : 0 + 0 ≤ _), (by decide : 0 + 0 ≤ _)⟩)
  dsimp only [Pt.U, Pt.locs, Pt.cells, Pt.slots] at X103 l103 y103 z103 st103 hQ103
  subst l103 y103 z103
  obtain ⟨rfl, N103q, e103⟩ := hQ103
  have N103 := Fr.app N0 N103q
  refine Go.by (T' := T103) (g' := (mkF m 15 #[.val (.ref b), .val (.long hh_), .second, .val (.ref nt), .unset] [(.int (Int32.ofNat n))])) (fun t_ k_ => st103.trans k_) ?_
  refine Go.by (T' := T103) (g' := (mkF m 16 #[.val (.ref b), .val (.long hh_), .second, .val (.ref nt), .unset] [(.ref b), (.int (Int32.ofNat n))])) (fun t_ k_ => XS.aloadN X103.here hx rfl (hb hby d_prog_5_method_4_code_15) rfl rfl k_) ?_
  obtain ⟨T104, X104, e104, st104⟩ := getF X103 hx hZ hown (host := "") (Or.inl (hw _ (List.mem_of_getElem? (i := 132) rfl))) Via.refl e103 P3 (g := (mkF m 16 #[.val (.ref b), .val (.long hh_), .second, .val (.ref nt), .unset] [(.ref b), (.int (Int32.ofNat n))])) rfl rfl (hb hby d_prog_5_method_4_code_16)
  refine Go.by (T' := T104) (g' := (mkF m 19 #[.val (.ref b), .val (.long hh_), .second, .val (.ref nt), .unset] [(.int (Int32.ofNat f0)), (.int (Int32.ofNat n))])) (fun t_ k_ => st104 _ k_) ?_
  refine Go.by (T' := T104) (g' := (mkF m 20 #[.val (.ref b), .val (.long hh_), .second, .val (.ref nt), .unset] [(.int ((Int32.ofNat n) - (Int32.ofNat f0)))])) (fun t_ k_ => XS.isub X104.here hx rfl (hb hby d_prog_5_method_4_code_19) rfl k_) ?_
  rw [own_sub (show f0 ≤ n by omega), show n - f0 = 2 by omega, show Int32.ofNat 2 = (2 : Int32) from rfl]
  obtain ⟨T105, h105, kc105, X105, e105, E105, A105, st105⟩ := newP X104 hx hZ (hw _ (List.mem_of_getElem? (i := 118) rfl)) e104 (g := (mkF m 20 #[.val (.ref b), .val (.long hh_), .second, .val (.ref nt), .unset] [(.int (2 : Int32))])) rfl (hb hby d_prog_5_method_4_code_20) rfl (by decide) (cap := 2) (by decide) (by decide) (by decide) (by decide)
  obtain ⟨b105, g105⟩ : ∃ z, z = h0.size := ⟨_, rfl⟩
  rw [← g105] at A105 st105
  have ge_b105 : n0 ≤ b105 := Nat.le_trans X00.sz (Nat.le_of_eq g105.symm)
  have sz_b105 : h0.size ≤ b105 := Nat.le_trans (Keep.refl h0 []).1 (Nat.le_of_eq g105.symm)
  have ne_b_b105 : ¬ (b = b105) := Nat.ne_of_lt (Nat.lt_of_lt_of_le P0.lt (Nat.le_of_eq g105.symm))
  have ne_l2_b105 : ¬ (l2 = b105) := Nat.ne_of_lt (Nat.lt_of_lt_of_le P4.lt (Nat.le_of_eq g105.symm))
  have ne_aa_b105 : ¬ (aa = b105) := Nat.ne_of_lt (Nat.lt_of_lt_of_le P6.lt (Nat.le_of_eq g105.symm))
  have V105 : Arv Z h105 b105 kc105 .long (2 : Int32) [(.long (0 : Int64)), (.long (0 : Int64))] (.long (0 : Int64)) := (Arv.new A105 (by decide)).pad (pad_rep [] (.long (0 : Int64)) 2)
  refine Go.by (T' := T105) (g' := (mkF m 22 #[.val (.ref b), .val (.long hh_), .second, .val (.ref nt), .unset] [(.ref b105)])) (fun t_ k_ => st105 _ k_) ?_
  refine Go.by (T' := T105) (g' := (mkF m 23 #[.val (.ref b), .val (.long hh_), .second, .val (.ref b105), .unset] [])) (fun t_ k_ => XS.astoreN X105.here hx rfl (hb hby d_prog_5_method_4_code_22) rfl rfl (l' := #[.val (.ref b), .val (.long hh_), .second, .val (.ref b105), .unset]) rfl k_) ?_
  refine Go.by (T' := T105) (g' := (mkF m 24 #[.val (.ref b), .val (.long hh_), .second, .val (.ref b105), .unset] [(.int (0 : Int32))])) (fun t_ k_ => XS.iconst X105.here hx rfl (hb hby d_prog_5_method_4_code_23) k_) ?_
  refine Go.by (T' := T105) (g' := (mkF m 26 #[.val (.ref b), .val (.long hh_), .second, .val (.ref b105), .val (.int (0 : Int32))] [])) (fun t_ k_ => XS.istore X105.here hx rfl (hb hby d_prog_5_method_4_code_24) rfl (l' := #[.val (.ref b), .val (.long hh_), .second, .val (.ref b105), .val (.int (0 : Int32))]) rfl k_) ?_
  refine Go.by (T' := T105) (g' := (mkF m 28 #[.val (.ref b), .val (.long hh_), .second, .val (.ref b105), .val (.int (0 : Int32))] [(.int (0 : Int32))])) (fun t_ k_ => XS.iload X105.here hx rfl (hb hby d_prog_5_method_4_code_26) rfl k_) ?_
  refine Go.by (T' := T105) (g' := (mkF m 29 #[.val (.ref b), .val (.long hh_), .second, .val (.ref b105), .val (.int (0 : Int32))] [(.ref b105), (.int (0 : Int32))])) (fun t_ k_ => XS.aloadN X105.here hx rfl (hb hby d_prog_5_method_4_code_28) rfl rfl k_) ?_
  obtain ⟨cl106, Ar106, -, Sz106, Ng106, -, -⟩ := id V105
  refine Go.by (T' := T105) (g' := (mkF m 30 #[.val (.ref b), .val (.long hh_), .second, .val (.ref b105), .val (.int (0 : Int32))] [(.int (2 : Int32)), (.int (0 : Int32))])) (fun t_ k_ => X105.arraylength hx (by rw [e105]; exact Ar106.1) (State.isArrayOf_alike hZ.alike Ar106.2.1) (g := (mkF m 29 #[.val (.ref b), .val (.long hh_), .second, .val (.ref b105), .val (.int (0 : Int32))] [(.ref b105), (.int (0 : Int32))])) rfl rfl (hb hby d_prog_5_method_4_code_29) _ (by rw [len_of Sz106 Ng106]; exact k_)) ?_
  refine Go.by (T' := T105) (g' := (mkF m 33 #[.val (.ref b), .val (.long hh_), .second, .val (.ref b105), .val (.int (0 : Int32))] [])) (fun t_ k_ => XS.icmpNo X105.here hx rfl (hb hby d_prog_5_method_4_code_30) rfl (tlt (by decide)).2.1 k_) ?_
  refine Go.by (T' := T105) (g' := (mkF m 34 #[.val (.ref b), .val (.long hh_), .second, .val (.ref b105), .val (.int (0 : Int32))] [(.ref b105)])) (fun t_ k_ => XS.aloadN X105.here hx rfl (hb hby d_prog_5_method_4_code_33) rfl rfl k_) ?_
  refine Go.by (T' := T105) (g' := (mkF m 36 #[.val (.ref b), .val (.long hh_), .second, .val (.ref b105), .val (.int (0 : Int32))] [(.int (0 : Int32)), (.ref b105)])) (fun t_ k_ => XS.iload X105.here hx rfl (hb hby d_prog_5_method_4_code_34) rfl k_) ?_
  refine Go.by (T' := T105) (g' := (mkF m 37 #[.val (.ref b), .val (.long hh_), .second, .val (.ref b105), .val (.int (0 : Int32))] [(.long hh_), (.int (0 : Int32)), (.ref b105)])) (fun t_ k_ => XS.lloadN X105.here hx rfl (hb hby d_prog_5_method_4_code_36) rfl k_) ?_
  refine Go.by (T' := T105) (g' := (mkF m 38 #[.val (.ref b), .val (.long hh_), .second, .val (.ref b105), .val (.int (0 : Int32))] [(.ref b), (.long hh_), (.int (0 : Int32)), (.ref b105)])) (fun t_ k_ => XS.aloadN X105.here hx rfl (hb hby d_prog_5_method_4_code_37) rfl rfl k_) ?_
  have F107 : Fld Z h105 b "com/example/tidegate/tidegate/Batch" "acceptedAt" "[J" (.ref aa) := (P2.ext E105)
  obtain ⟨T108, X108, e108, st108⟩ := getF X105 hx hZ hown (host := "") (Or.inl (hw _ (List.mem_of_getElem? (i := 111) rfl))) Via.refl e105 F107 (g := (mkF m 38 #[.val (.ref b), .val (.long hh_), .second, .val (.ref b105), .val (.int (0 : Int32))] [(.ref b), (.long hh_), (.int (0 : Int32)), (.ref b105)])) rfl rfl (hb hby d_prog_5_method_4_code_38)
  refine Go.by (T' := T108) (g' := (mkF m 41 #[.val (.ref b), .val (.long hh_), .second, .val (.ref b105), .val (.int (0 : Int32))] [(.ref aa), (.long hh_), (.int (0 : Int32)), (.ref b105)])) (fun t_ k_ => st108 _ k_) ?_
  refine Go.by (T' := T108) (g' := (mkF m 43 #[.val (.ref b), .val (.long hh_), .second, .val (.ref b105), .val (.int (0 : Int32))] [(.int (0 : Int32)), (.ref aa), (.long hh_), (.int (0 : Int32)), (.ref b105)])) (fun t_ k_ => XS.iload X108.here hx rfl (hb hby d_prog_5_method_4_code_41) rfl k_) ?_
  have F109 : Arv Z h105 aa ka .long (Int32.ofNat ln) [(.long s0), (.long s1)] (.long (0 : Int64)) := (P6.ext E105)
  obtain ⟨cl110, Ar110, q110, Sz110, Ng110, Hs110, Gs110⟩ := id F109
  have in110 := inb_of (j := (0 : Int32)) Sz110 (own_inb (i := 0) (show 0 < ln by omega) (by omega))
  refine Go.by (T' := T108) (g' := (mkF m 44 #[.val (.ref b), .val (.long hh_), .second, .val (.ref b105), .val (.int (0 : Int32))] [(.long s0), (.long hh_), (.int (0 : Int32)), (.ref b105)])) (fun t_ k_ => X108.laload hx (j := (0 : Int32)) (v := (.long s0)) (by rw [e108]; exact Ar110.1) (State.isArrayOf_alike hZ.alike Ar110.2.1) Ar110.2.2 in110 (Hs110.at in110 rfl) (g := (mkF m 43 #[.val (.ref b), .val (.long hh_), .second, .val (.ref b105), .val (.int (0 : Int32))] [(.int (0 : Int32)), (.ref aa), (.long hh_), (.int (0 : Int32)), (.ref b105)])) rfl rfl (hb hby d_prog_5_method_4_code_43) _ k_) ?_
  refine Go.by (T' := T108) (g' := (mkF m 45 #[.val (.ref b), .val (.long hh_), .second, .val (.ref b105), .val (.int (0 : Int32))] [(.long (hh_ - s0)), (.int (0 : Int32)), (.ref b105)])) (fun t_ k_ => XS.lsub X108.here hx rfl (hb hby d_prog_5_method_4_code_44) rfl k_) ?_
  have Od112 : Old Z n0 h105 := (X00.ext E105)
  have Kp113 : Keep h0 h105 [] := ((Keep.refl h0 []).ext E105)
  obtain ⟨cl111, Ar111, q111, Sz111, Ng111, Hs111, Gs111⟩ := id V105
  obtain ⟨T114, h114, X114, e114, W114, st114⟩ := stJ X108 hx hZ e108 Ar111 (j := (0 : Int32)) (inb_of Sz111 ⟨by decide, by decide⟩) (g := (mkF m 45 #[.val (.ref b), .val (.long hh_), .second, .val (.ref b105), .val (.int (0 : Int32))] [(.long (hh_ - s0)), (.int (0 : Int32)), (.ref b105)])) rfl rfl (hb hby d_prog_5_method_4_code_45)
  have V114 : Arv Z h114 b105 kc105 .long (2 : Int32) [(.long (hh_ - s0)), (.long (0 : Int64))] (.long (0 : Int64)) := Arv.set Ar111 q111 Sz111 Ng111 Hs111 Gs111 rfl W114 0 rfl (Nat.le_of_ble_eq_true rfl)
  have N114 := Fr.snoc X114 N103 ge_b105
  refine Go.by (T' := T114) (g' := (mkF m 46 #[.val (.ref b), .val (.long hh_), .second, .val (.ref b105), .val (.int (0 : Int32))] [])) (fun t_ k_ => st114 _ k_) ?_
  refine Go.by (T' := T114) (g' := (mkF m 49 #[.val (.ref b), .val (.long hh_), .second, .val (.ref b105), .val (.int (1 : Int32))] [])) (fun t_ k_ => XS.iinc X114.here hx rfl (hb hby d_prog_5_method_4_code_46) rfl (l' := #[.val (.ref b), .val (.long hh_), .second, .val (.ref b105), .val (.int (1 : Int32))]) rfl k_) ?_
  refine Go.by (T' := T114) (g' := (mkF m 26 #[.val (.ref b), .val (.long hh_), .second, .val (.ref b105), .val (.int (1 : Int32))] [])) (fun t_ k_ => XS.goto X114.here hx rfl (pc0 := 49) (pc' := 26) rfl (hb hby d_prog_5_method_4_code_49) (by decide) (by decide) k_) ?_
  refine Go.by (T' := T114) (g' := (mkF m 28 #[.val (.ref b), .val (.long hh_), .second, .val (.ref b105), .val (.int (1 : Int32))] [(.int (1 : Int32))])) (fun t_ k_ => XS.iload X114.here hx rfl (hb hby d_prog_5_method_4_code_26) rfl k_) ?_
  refine Go.by (T' := T114) (g' := (mkF m 29 #[.val (.ref b), .val (.long hh_), .second, .val (.ref b105), .val (.int (1 : Int32))] [(.ref b105), (.int (1 : Int32))])) (fun t_ k_ => XS.aloadN X114.here hx rfl (hb hby d_prog_5_method_4_code_28) rfl rfl k_) ?_
  obtain ⟨cl115, Ar115, -, Sz115, Ng115, -, -⟩ := id V114
  refine Go.by (T' := T114) (g' := (mkF m 30 #[.val (.ref b), .val (.long hh_), .second, .val (.ref b105), .val (.int (1 : Int32))] [(.int (2 : Int32)), (.int (1 : Int32))])) (fun t_ k_ => X114.arraylength hx (by rw [e114]; exact Ar115.1) (State.isArrayOf_alike hZ.alike Ar115.2.1) (g := (mkF m 29 #[.val (.ref b), .val (.long hh_), .second, .val (.ref b105), .val (.int (1 : Int32))] [(.ref b105), (.int (1 : Int32))])) rfl rfl (hb hby d_prog_5_method_4_code_29) _ (by rw [len_of Sz115 Ng115]; exact k_)) ?_
  refine Go.by (T' := T114) (g' := (mkF m 33 #[.val (.ref b), .val (.long hh_), .second, .val (.ref b105), .val (.int (1 : Int32))] [])) (fun t_ k_ => XS.icmpNo X114.here hx rfl (hb hby d_prog_5_method_4_code_30) rfl (tlt (by decide)).2.1 k_) ?_
  refine Go.by (T' := T114) (g' := (mkF m 34 #[.val (.ref b), .val (.long hh_), .second, .val (.ref b105), .val (.int (1 : Int32))] [(.ref b105)])) (fun t_ k_ => XS.aloadN X114.here hx rfl (hb hby d_prog_5_method_4_code_33) rfl rfl k_) ?_
  refine Go.by (T' := T114) (g' := (mkF m 36 #[.val (.ref b), .val (.long hh_), .second, .val (.ref b105), .val (.int (1 : Int32))] [(.int (1 : Int32)), (.ref b105)])) (fun t_ k_ => XS.iload X114.here hx rfl (hb hby d_prog_5_method_4_code_34) rfl k_) ?_
  refine Go.by (T' := T114) (g' := (mkF m 37 #[.val (.ref b), .val (.long hh_), .second, .val (.ref b105), .val (.int (1 : Int32))] [(.long hh_), (.int (1 : Int32)), (.ref b105)])) (fun t_ k_ => XS.lloadN X114.here hx rfl (hb hby d_prog_5_method_4_code_36) rfl k_) ?_
  refine Go.by (T' := T114) (g' := (mkF m 38 #[.val (.ref b), .val (.long hh_), .second, .val (.ref b105), .val (.int (1 : Int32))] [(.ref b), (.long hh_), (.int (1 : Int32)), (.ref b105)])) (fun t_ k_ => XS.aloadN X114.here hx rfl (hb hby d_prog_5_method_4_code_37) rfl rfl k_) ?_
  have F116 : Fld Z h114 b "com/example/tidegate/tidegate/Batch" "acceptedAt" "[J" (.ref aa) := (F107.other W114 (Or.inl ne_b_b105))
  obtain ⟨T117, X117, e117, st117⟩ := getF X114 hx hZ hown (host := "") (Or.inl (hw _ (List.mem_of_getElem? (i := 111) rfl))) Via.refl e114 F116 (g := (mkF m 38 #[.val (.ref b), .val (.long hh_), .second, .val (.ref b105), .val (.int (1 : Int32))] [(.ref b), (.long hh_), (.int (1 : Int32)), (.ref b105)])) rfl rfl (hb hby d_prog_5_method_4_code_38)
  refine Go.by (T' := T117) (g' := (mkF m 41 #[.val (.ref b), .val (.long hh_), .second, .val (.ref b105), .val (.int (1 : Int32))] [(.ref aa), (.long hh_), (.int (1 : Int32)), (.ref b105)])) (fun t_ k_ => st117 _ k_) ?_
  refine Go.by (T' := T117) (g' := (mkF m 43 #[.val (.ref b), .val (.long hh_), .second, .val (.ref b105), .val (.int (1 : Int32))] [(.int (1 : Int32)), (.ref aa), (.long hh_), (.int (1 : Int32)), (.ref b105)])) (fun t_ k_ => XS.iload X117.here hx rfl (hb hby d_prog_5_method_4_code_41) rfl k_) ?_
  have F118 : Arv Z h114 aa ka .long (Int32.ofNat ln) [(.long s0), (.long s1)] (.long (0 : Int64)) := (F109.other W114 ne_aa_b105)
  obtain ⟨cl119, Ar119, q119, Sz119, Ng119, Hs119, Gs119⟩ := id F118
  have in119 := inb_of (j := (1 : Int32)) Sz119 (own_inb (i := 1) (show 1 < ln by omega) (by omega))
  refine Go.by (T' := T117) (g' := (mkF m 44 #[.val (.ref b), .val (.long hh_), .second, .val (.ref b105), .val (.int (1 : Int32))] [(.long s1), (.long hh_), (.int (1 : Int32)), (.ref b105)])) (fun t_ k_ => X117.laload hx (j := (1 : Int32)) (v := (.long s1)) (by rw [e117]; exact Ar119.1) (State.isArrayOf_alike hZ.alike Ar119.2.1) Ar119.2.2 in119 (Hs119.at in119 rfl) (g := (mkF m 43 #[.val (.ref b), .val (.long hh_), .second, .val (.ref b105), .val (.int (1 : Int32))] [(.int (1 : Int32)), (.ref aa), (.long hh_), (.int (1 : Int32)), (.ref b105)])) rfl rfl (hb hby d_prog_5_method_4_code_43) _ k_) ?_
  refine Go.by (T' := T117) (g' := (mkF m 45 #[.val (.ref b), .val (.long hh_), .second, .val (.ref b105), .val (.int (1 : Int32))] [(.long (hh_ - s1)), (.int (1 : Int32)), (.ref b105)])) (fun t_ k_ => XS.lsub X117.here hx rfl (hb hby d_prog_5_method_4_code_44) rfl k_) ?_
  have Od121 : Old Z n0 h114 := (Od112.wr W114 ge_b105)
  have Kp122 : Keep h0 h114 [] := (Kp113.wr W114 (Or.inr sz_b105))
  obtain ⟨cl120, Ar120, q120, Sz120, Ng120, Hs120, Gs120⟩ := id V114
  obtain ⟨T123, h123, X123, e123, W123, st123⟩ := stJ X117 hx hZ e117 Ar120 (j := (1 : Int32)) (inb_of Sz120 ⟨by decide, by decide⟩) (g := (mkF m 45 #[.val (.ref b), .val (.long hh_), .second, .val (.ref b105), .val (.int (1 : Int32))] [(.long (hh_ - s1)), (.int (1 : Int32)), (.ref b105)])) rfl rfl (hb hby d_prog_5_method_4_code_45)
  have V123 : Arv Z h123 b105 kc105 .long (2 : Int32) [(.long (hh_ - s0)), (.long (hh_ - s1))] (.long (0 : Int64)) := Arv.set Ar120 q120 Sz120 Ng120 Hs120 Gs120 rfl W123 1 rfl (Nat.le_of_ble_eq_true rfl)
  have N123 := Fr.snoc X123 N114 ge_b105
  refine Go.by (T' := T123) (g' := (mkF m 46 #[.val (.ref b), .val (.long hh_), .second, .val (.ref b105), .val (.int (1 : Int32))] [])) (fun t_ k_ => st123 _ k_) ?_
  refine Go.by (T' := T123) (g' := (mkF m 49 #[.val (.ref b), .val (.long hh_), .second, .val (.ref b105), .val (.int (2 : Int32))] [])) (fun t_ k_ => XS.iinc X123.here hx rfl (hb hby d_prog_5_method_4_code_46) rfl (l' := #[.val (.ref b), .val (.long hh_), .second, .val (.ref b105), .val (.int (2 : Int32))]) rfl k_) ?_
  refine Go.by (T' := T123) (g' := (mkF m 26 #[.val (.ref b), .val (.long hh_), .second, .val (.ref b105), .val (.int (2 : Int32))] [])) (fun t_ k_ => XS.goto X123.here hx rfl (pc0 := 49) (pc' := 26) rfl (hb hby d_prog_5_method_4_code_49) (by decide) (by decide) k_) ?_
  refine Go.by (T' := T123) (g' := (mkF m 28 #[.val (.ref b), .val (.long hh_), .second, .val (.ref b105), .val (.int (2 : Int32))] [(.int (2 : Int32))])) (fun t_ k_ => XS.iload X123.here hx rfl (hb hby d_prog_5_method_4_code_26) rfl k_) ?_
  refine Go.by (T' := T123) (g' := (mkF m 29 #[.val (.ref b), .val (.long hh_), .second, .val (.ref b105), .val (.int (2 : Int32))] [(.ref b105), (.int (2 : Int32))])) (fun t_ k_ => XS.aloadN X123.here hx rfl (hb hby d_prog_5_method_4_code_28) rfl rfl k_) ?_
  obtain ⟨cl124, Ar124, -, Sz124, Ng124, -, -⟩ := id V123
  refine Go.by (T' := T123) (g' := (mkF m 30 #[.val (.ref b), .val (.long hh_), .second, .val (.ref b105), .val (.int (2 : Int32))] [(.int (2 : Int32)), (.int (2 : Int32))])) (fun t_ k_ => X123.arraylength hx (by rw [e123]; exact Ar124.1) (State.isArrayOf_alike hZ.alike Ar124.2.1) (g := (mkF m 29 #[.val (.ref b), .val (.long hh_), .second, .val (.ref b105), .val (.int (2 : Int32))] [(.ref b105), (.int (2 : Int32))])) rfl rfl (hb hby d_prog_5_method_4_code_29) _ (by rw [len_of Sz124 Ng124]; exact k_)) ?_
  refine Go.by (T' := T123) (g' := (mkF m 52 #[.val (.ref b), .val (.long hh_), .second, .val (.ref b105), .val (.int (2 : Int32))] [])) (fun t_ k_ => XS.icmpYes X123.here hx rfl (pc0 := 30) (pc' := 52) rfl (hb hby d_prog_5_method_4_code_30) rfl (flt (by decide)).2.1 (by decide) (by decide) k_) ?_
  refine Go.by (T' := T123) (g' := (mkF m 53 #[.val (.ref b), .val (.long hh_), .second, .val (.ref b105), .val (.int (2 : Int32))] [(.ref b105)])) (fun t_ k_ => XS.aloadN X123.here hx rfl (hb hby d_prog_5_method_4_code_52) rfl rfl k_) ?_
  have Kp125 : Keep h0 h123 [] := (Kp122.wr W123 (Or.inr sz_b105))
  refine Go.fin X123 (v := some (.ref b105)) (fun h => by rw [Bd.returns] at h; cases h) hlk (by decide) (by decide) ?_ (fun fs hr => retR X123 hx (w := (.ref b105)) Bd.returns rfl rfl rfl (hb hby d_prog_5_method_4_code_53) hr)
  show Q_w2 Z b hh_ nt l2 n f0 aa ka ln s0 s1 h0 n0 _ T123.heap _
  rw [e123]
  exact ⟨b105, kc105, rfl, N123, Kp125, sz_b105, V123⟩
def Q_w3 (Z : State) (b : Addr) (hh_ : Int64) (nt : Addr) (l2 : Addr) (n : Nat) (f0 : Nat) (aa : Addr) (ka : ClassId) (ln : Nat) (s0 : Int64) (s1 : Int64) (s2 : Int64) (h0 : Heap) (n0 : Nat) (v : Option Value) (h : Heap) (L : List Loc) : Prop := ∃ (t : Addr) (kt : ClassId), v = some (.ref t) ∧ Fr n0 L ∧ Keep h0 h [] ∧ h0.size ≤ t ∧ Arv Z h t kt .long (3 : Int32) [(.long (hh_ - s0)), (.long (hh_ - s1)), (.long (hh_ - s2))] (.long (0 : Int64))
theorem ef_w3 (m : MethodId) (b : Addr) (hh_ : Int64) : entryFrame m #[(.ref b), (.long hh_)] 5 = mkF m 0 #[.val (.ref b), .val (.long hh_), .second, .unset, .unset] [] := by first | (simp [entryFrame, mkF, argsToLocals, Value.category]; done) | rfl
set_option maxRecDepth 65536 in
set_option maxHeartbeats 40000000 in
theorem rm_w3 (l : Launch) (Z : State) (a0 : Array Value) (hw : ∀ d ∈ tables_1, d.before a0 Z = true) (ws : List Jvm.Cond) (b : Addr) (hh_ : Int64) (nt : Addr) (l2 : Addr) (n : Nat) (f0 : Nat) (aa : Addr) (ka : ClassId) (ln : Nat) (s0 : Int64) (s1 : Int64) (s2 : Int64) (h0 : Heap) (n0 : Nat) (X00 : Old Z n0 h0) (P0 : Exa Z h0 b "com/example/tidegate/tidegate/Batch") (P1 : Fld Z h0 b "com/example/tidegate/tidegate/Batch" "completions" "Ljava/util/List;" (.ref l2)) (P2 : Fld Z h0 b "com/example/tidegate/tidegate/Batch" "acceptedAt" "[J" (.ref aa)) (P3 : Fld Z h0 b "com/example/tidegate/tidegate/Batch" "firstTimed" "I" (.int (Int32.ofNat f0))) (P4 : Exa Z h0 l2 "java/util/ArrayList") (P5 : Fld Z h0 l2 "java/util/ArrayList" "size" "I" (.int (Int32.ofNat n))) (P6 : Arv Z h0 aa ka .long (Int32.ofNat ln) [(.long s0), (.long s1), (.long s2)] (.long (0 : Int64))) (P7 : Sta Z Z.heap "com/example/tidegate/tidegate/Batch" "NONE_TIMED" "[J" (.ref nt)) (hnf : n = f0 + 3) (hn6 : n ≤ 6) (hl1 : 3 ≤ ln) (hl4 : ln ≤ 4) :
    MetFree l (⟨"com/example/tidegate/tidegate/Batch", "waits", "(J)[J"⟩ : MethodName) (head1 (Jvm.Cond.code (⟨"com/example/tidegate/tidegate/Batch", "waits", "(J)[J"⟩ : MethodName) prog_5_method_4_code 5 (some (.array .long)) :: ws) ({ frames := 2, cells := 1, slots := 3, locals := 40 } : Room)) (fun aa_ U => aa_ = #[(.ref b), (.long hh_)] ∧ Z.Warmed39 U.vm ∧ U.heap = h0) (fun _ _ _ _ _ => True) (fun _ U o U' => ∃ v L, o = .returned v ∧ Q_w3 Z b hh_ nt l2 n f0 aa ka ln s0 s1 s2 h0 n0 v U'.heap L ∧ FrameEnd U o U' L ({ frames := 2, cells := 1, slots := 3, locals := 40 } : Room).cells ({ frames := 2, cells := 1, slots := 3, locals := 40 } : Room).slots) := by
  refine MetFree.of_bodySF (plainFor_of_name pn_5) hisR ?_
  intro p e s m args below meth c s₁ Bd hml0 hP hK
  obtain ⟨rfl, hZ, hh⟩ := hP
  have hx := Bd.exec
  have hby := Bd.bytes
  have hml : c.maxLocals = 5 := hml0
  have hown : s.vm.findClass "com/example/tidegate/tidegate/Batch" = some m.cls := findClass_of_methodNamed Bd.named
  have hnm := (name_of_methodNamed Bd.named Bd.method).1
  have hlk : meth.locks = false := BodyLoose.notSynchronized Bd
  have X0 : Stand p l e ({ frames := 2, cells := 1, slots := 3, locals := 40 } : Room) s m #[(.ref b), (.long hh_)] below meth c s₁ [] 0 0 := Stand.of_body Bd
  have e0 : s₁.heap = h0 := by rw [← hh, Bd.state]; rfl
  have N0 := Fr.nil n0
  suffices G : Go p e below s (Q_w3 Z b hh_ nt l2 n f0 aa ka ln s0 s1 s2 h0 n0) 1 3 s₁ (mkF m 0 #[.val (.ref b), .val (.long hh_), .second, .unset, .unset] []) by
    obtain ⟨s2, o, h1, h2⟩ := G
    exact ⟨s2, o, castTop (ef_w3 m b hh_) h1, h2⟩
  obtain ⟨T101, X101, e101, st101⟩ := getS2 X0 hx hZ hown (host := "") (Or.inl (hw _ (List.mem_of_getElem? (i := 109) rfl))) Via.refl e0 (P7.ext X00.2) (g := (mkF m 0 #[.val (.ref b), .val (.long hh_), .second, .unset, .unset] [])) rfl (hb hby d_prog_5_method_4_code_0)
  refine Go.by (T' := T101) (g' := (mkF m 3 #[.val (.ref b), .val (.long hh_), .second, .unset, .unset] [(.ref nt)])) (fun t_ k_ => st101 _ k_) ?_
  refine Go.by (T' := T101) (g' := (mkF m 4 #[.val (.ref b), .val (.long hh_), .second, .val (.ref nt), .unset] [])) (fun t_ k_ => XS.astoreN X101.here hx rfl (hb hby d_prog_5_method_4_code_3) rfl rfl (l' := #[.val (.ref b), .val (.long hh_), .second, .val (.ref nt), .unset]) rfl k_) ?_
  refine Go.by (T' := T101) (g' := (mkF m 5 #[.val (.ref b), .val (.long hh_), .second, .val (.ref nt), .unset] [(.ref b)])) (fun t_ k_ => XS.aloadN X101.here hx rfl (hb hby d_prog_5_method_4_code_4) rfl rfl k_) ?_
  obtain ⟨T102, X102, e102, st102⟩ := getF X101 hx hZ hown (host := "") (Or.inl (hw _ (List.mem_of_getElem? (i := 111) rfl))) Via.refl e101 P2 (g := (mkF m 5 #[.val (.ref b), .val (.long hh_), .second, .val (.ref nt), .unset] [(.ref b)])) rfl rfl (hb hby d_prog_5_method_4_code_5)
  refine Go.by (T' := T102) (g' := (mkF m 8 #[.val (.ref b), .val (.long hh_), .second, .val (.ref nt), .unset] [(.ref aa)])) (fun t_ k_ => st102 _ k_) ?_
  refine Go.by (T' := T102) (g' := (mkF m 11 #[.val (.ref b), .val (.long hh_), .second, .val (.ref nt), .unset] [])) (fun t_ k_ => XS.ifnullNo X102.here hx rfl (hb hby d_prog_5_method_4_code_8) rfl k_) ?_
  refine Go.by (T' := T102) (g' := (mkF m 12 #[.val (.ref b), .val (.long hh_), .second, .val (.ref nt), .unset] [(.ref b)])) (fun t_ k_ => XS.aloadN X102.here hx rfl (hb hby d_prog_5_method_4_code_11) rfl rfl k_) ?_
  obtain ⟨cq103, kq103, q103a, q103b, q103c⟩ := isOf hZ e102 P0
  obtain ⟨_, _, ⟨T103, L103, k103, n103⟩, -, X103, ⟨Lc103, hQ103, l103, y103, z103⟩, st103⟩ := X102.virtualBack hx (y := (⟨"com/example/tidegate/tidegate/Batch", "size", "()I"⟩ : MethodName)) (z := (⟨"com/example/tidegate/tidegate/Batch", "size", "()I"⟩ : MethodName)) hown (mvT hZ (hw _ (List.mem_of_getElem? (i := 119) rfl))) (mvT hZ (hw _ (List.mem_of_getElem? (i := 120) rfl))) (notFace_of_selects (args := #[]) (mvT hZ (hw _ (List.mem_of_getElem? (i := 122) rfl)))) (mvT hZ (hw _ (List.mem_of_getElem? (i := 122) rfl))) (mvT hZ (hw _ (List.mem_of_getElem? (i := 121) rfl))) (by decide) (backOf (W := 0) (rm_bsize l Z a0 hw [] b l2 n h0 n0 X00 P1 P4 P5) hZ (hw _ (List.mem_of_getElem? (i := 123) rfl)) (hw _ (List.mem_of_getElem? (i := 2) rfl)) (by decide) (by decide)) q103a q103c (g := (mkF m 12 #[.val (.ref b), .val (.long hh_), .second, .val (.ref nt), .unset] [(.ref b)])) rfl (by rw [hml]; rfl) (Steps.refl _) (argsL := []) (rest := []) (lenOf pd_10 rfl) rfl (by show 2 * 0 + _ ≤ _; exact Nat.le_of_eq rfl) (hb hby d_prog_5_method_4_code_12) (fun _ _ => ⟨rfl, e102, (by decide : 0 + 0 ≤ _), (by decide : 0 + 0 ≤ _)⟩)
  dsimp only [Pt.U, Pt.locs, Pt.cells, Pt.slots] at X103 l103 y103 z103 st103 hQ103
  subst l103 y103 z103
  obtain ⟨rfl, N103q, e103⟩ := hQ103
  have N103 := Fr.app N0 N103q
  refine Go.by (T' := T103) (g' := (mkF m 15 #[.val (.ref b), .val (.long hh_), .second, .val (.ref nt), .unset] [(.int (Int32.ofNat n))])) (fun t_ k_ => st103.trans k_) ?_
  refine Go.by (T' := T103) (g' := (mkF m 16 #[.val (.ref b), .val (.long hh_), .second, .val (.ref nt), .unset] [(.ref b), (.int (Int32.ofNat n))])) (fun t_ k_ => XS.aloadN X103.here hx rfl (hb hby d_prog_5_method_4_code_15) rfl rfl k_) ?_
  obtain ⟨T104, X104, e104, st104⟩ := getF X103 hx hZ hown (host := "") (Or.inl (hw _ (List.mem_of_getElem? (i := 132) rfl))) Via.refl e103 P3 (g := (mkF m 16 #[.val (.ref b), .val (.long hh_), .second, .val (.ref nt), .unset] [(.ref b), (.int (Int32.ofNat n))])) rfl rfl (hb hby d_prog_5_method_4_code_16)
  refine Go.by (T' := T104) (g' := (mkF m 19 #[.val (.ref b), .val (.long hh_), .second, .val (.ref nt), .unset] [(.int (Int32.ofNat f0)), (.int (Int32.ofNat n))])) (fun t_ k_ => st104 _ k_) ?_
  refine Go.by (T' := T104) (g' := (mkF m 20 #[.val (.ref b), .val (.long hh_), .second, .val (.ref nt), .unset] [(.int ((Int32.ofNat n) - (Int32.ofNat f0)))])) (fun t_ k_ => XS.isub X104.here hx rfl (hb hby d_prog_5_method_4_code_19) rfl k_) ?_
  rw [own_sub (show f0 ≤ n by omega), show n - f0 = 3 by omega, show Int32.ofNat 3 = (3 : Int32) from rfl]
  obtain ⟨T105, h105, kc105, X105, e105, E105, A105, st105⟩ := newP X104 hx hZ (hw _ (List.mem_of_getElem? (i := 118) rfl)) e104 (g := (mkF m 20 #[.val (.ref b), .val (.long hh_), .second, .val (.ref nt), .unset] [(.int (3 : Int32))])) rfl (hb hby d_prog_5_method_4_code_20) rfl (by decide) (cap := 3) (by decide) (by decide) (by decide) (by decide)
  obtain ⟨b105, g105⟩ : ∃ z, z = h0.size := ⟨_, rfl⟩
  rw [← g105] at A105 st105
  have ge_b105 : n0 ≤ b105 := Nat.le_trans X00.sz (Nat.le_of_eq g105.symm)
  have sz_b105 : h0.size ≤ b105 := Nat.le_trans (Keep.refl h0 []).1 (Nat.le_of_eq g105.symm)
  have ne_b_b105 : ¬ (b = b105) := Nat.ne_of_lt (Nat.lt_of_lt_of_le P0.lt (Nat.le_of_eq g105.symm))
  have ne_l2_b105 : ¬ (l2 = b105) := Nat.ne_of_lt (Nat.lt_of_lt_of_le P4.lt (Nat.le_of_eq g105.symm))
  have ne_aa_b105 : ¬ (aa = b105) := Nat.ne_of_lt (Nat.lt_of_lt_of_le P6.lt (Nat.le_of_eq g105.symm))
  have V105 : Arv Z h105 b105 kc105 .long (3 : Int32) [(.long (0 : Int64)), (.long (0 : Int64)), (.long (0 : Int64))] (.long (0 : Int64)) := (Arv.new A105 (by decide)).pad (pad_rep [] (.long (0 : Int64)) 3)
  refine Go.by (T' := T105) (g' := (mkF m 22 #[.val (.ref b), .val (.long hh_), .second, .val (.ref nt), .unset] [(.ref b105)])) (fun t_ k_ => st105 _ k_) ?_
  refine Go.by (T' := T105) (g' := (mkF m 23 #[.val (.ref b), .val (.long hh_), .second, .val (.ref b105), .unset] [])) (fun t_ k_ => XS.astoreN X105.here hx rfl (hb hby d_prog_5_method_4_code_22) rfl rfl (l' := #[.val (.ref b), .val (.long hh_), .second, .val (.ref b105), .unset]) rfl k_) ?_
  refine Go.by (T' := T105) (g' := (mkF m 24 #[.val (.ref b), .val (.long hh_), .second, .val (.ref b105), .unset] [(.int (0 : Int32))])) (fun t_ k_ => XS.iconst X105.here hx rfl (hb hby d_prog_5_method_4_code_23) k_) ?_
  refine Go.by (T' := T105) (g' := (mkF m 26 #[.val (.ref b), .val (.long hh_), .second, .val (.ref b105), .val (.int (0 : Int32))] [])) (fun t_ k_ => XS.istore X105.here hx rfl (hb hby d_prog_5_method_4_code_24) rfl (l' := #[.val (.ref b), .val (.long hh_), .second, .val (.ref b105), .val (.int (0 : Int32))]) rfl k_) ?_
  refine Go.by (T' := T105) (g' := (mkF m 28 #[.val (.ref b), .val (.long hh_), .second, .val (.ref b105), .val (.int (0 : Int32))] [(.int (0 : Int32))])) (fun t_ k_ => XS.iload X105.here hx rfl (hb hby d_prog_5_method_4_code_26) rfl k_) ?_
  refine Go.by (T' := T105) (g' := (mkF m 29 #[.val (.ref b), .val (.long hh_), .second, .val (.ref b105), .val (.int (0 : Int32))] [(.ref b105), (.int (0 : Int32))])) (fun t_ k_ => XS.aloadN X105.here hx rfl (hb hby d_prog_5_method_4_code_28) rfl rfl k_) ?_
  obtain ⟨cl106, Ar106, -, Sz106, Ng106, -, -⟩ := id V105
  refine Go.by (T' := T105) (g' := (mkF m 30 #[.val (.ref b), .val (.long hh_), .second, .val (.ref b105), .val (.int (0 : Int32))] [(.int (3 : Int32)), (.int (0 : Int32))])) (fun t_ k_ => X105.arraylength hx (by rw [e105]; exact Ar106.1) (State.isArrayOf_alike hZ.alike Ar106.2.1) (g := (mkF m 29 #[.val (.ref b), .val (.long hh_), .second, .val (.ref b105), .val (.int (0 : Int32))] [(.ref b105), (.int (0 : Int32))])) rfl rfl (hb hby d_prog_5_method_4_code_29) _ (by rw [len_of Sz106 Ng106]; exact k_)) ?_
  refine Go.by (T' := T105) (g' := (mkF m 33 #[.val (.ref b), .val (.long hh_), .second, .val (.ref b105), .val (.int (0 : Int32))] [])) (fun t_ k_ => XS.icmpNo X105.here hx rfl (hb hby d_prog_5_method_4_code_30) rfl (tlt (by decide)).2.1 k_) ?_
  refine Go.by (T' := T105) (g' := (mkF m 34 #[.val (.ref b), .val (.long hh_), .second, .val (.ref b105), .val (.int (0 : Int32))] [(.ref b105)])) (fun t_ k_ => XS.aloadN X105.here hx rfl (hb hby d_prog_5_method_4_code_33) rfl rfl k_) ?_
  refine Go.by (T' := T105) (g' := (mkF m 36 #[.val (.ref b), .val (.long hh_), .second, .val (.ref b105), .val (.int (0 : Int32))] [(.int (0 : Int32)), (.ref b105)])) (fun t_ k_ => XS.iload X105.here hx rfl (hb hby d_prog_5_method_4_code_34) rfl k_) ?_
  refine Go.by (T' := T105) (g' := (mkF m 37 #[.val (.ref b), .val (.long hh_), .second, .val (.ref b105), .val (.int (0 : Int32))] [(.long hh_), (.int (0 : Int32)), (.ref b105)])) (fun t_ k_ => XS.lloadN X105.here hx rfl (hb hby d_prog_5_method_4_code_36) rfl k_) ?_
  refine Go.by (T' := T105) (g' := (mkF m 38 #[.val (.ref b), .val (.long hh_), .second, .val (.ref b105), .val (.int (0 : Int32))] [(.ref b), (.long hh_), (.int (0 : Int32)), (.ref b105)])) (fun t_ k_ => XS.aloadN X105.here hx rfl (hb hby d_prog_5_method_4_code_37) rfl rfl k_) ?_
  have F107 : Fld Z h105 b "com/example/tidegate/tidegate/Batch" "acceptedAt" "[J" (.ref aa) := (P2.ext E105)
  obtain ⟨T108, X108, e108, st108⟩ := getF X105 hx hZ hown (host := "") (Or.inl (hw _ (List.mem_of_getElem? (i := 111) rfl))) Via.refl e105 F107 (g := (mkF m 38 #[.val (.ref b), .val (.long hh_), .second, .val (.ref b105), .val (.int (0 : Int32))] [(.ref b), (.long hh_), (.int (0 : Int32)), (.ref b105)])) rfl rfl (hb hby d_prog_5_method_4_code_38)
  refine Go.by (T' := T108) (g' := (mkF m 41 #[.val (.ref b), .val (.long hh_), .second, .val (.ref b105), .val (.int (0 : Int32))] [(.ref aa), (.long hh_), (.int (0 : Int32)), (.ref b105)])) (fun t_ k_ => st108 _ k_) ?_
  refine Go.by (T' := T108) (g' := (mkF m 43 #[.val (.ref b), .val (.long hh_), .second, .val (.ref b105), .val (.int (0 : Int32))] [(.int (0 : Int32)), (.ref aa), (.long hh_), (.int (0 : Int32)), (.ref b105)])) (fun t_ k_ => XS.iload X108.here hx rfl (hb hby d_prog_5_method_4_code_41) rfl k_) ?_
  have F109 : Arv Z h105 aa ka .long (Int32.ofNat ln) [(.long s0), (.long s1), (.long s2)] (.long (0 : Int64)) := (P6.ext E105)
  obtain ⟨cl110, Ar110, q110, Sz110, Ng110, Hs110, Gs110⟩ := id F109
  have in110 := inb_of (j := (0 : Int32)) Sz110 (own_inb (i := 0) (show 0 < ln by omega) (by omega))
  refine Go.by (T' := T108) (g' := (mkF m 44 #[.val (.ref b), .val (.long hh_), .second, .val (.ref b105), .val (.int (0 : Int32))] [(.long s0), (.long hh_), (.int (0 : Int32)), (.ref b105)])) (fun t_ k_ => X108.laload hx (j := (0 : Int32)) (v := (.long s0)) (by rw [e108]; exact Ar110.1) (State.isArrayOf_alike hZ.alike Ar110.2.1) Ar110.2.2 in110 (Hs110.at in110 rfl) (g := (mkF m 43 #[.val (.ref b), .val (.long hh_), .second, .val (.ref b105), .val (.int (0 : Int32))] [(.int (0 : Int32)), (.ref aa), (.long hh_), (.int (0 : Int32)), (.ref b105)])) rfl rfl (hb hby d_prog_5_method_4_code_43) _ k_) ?_
  refine Go.by (T' := T108) (g' := (mkF m 45 #[.val (.ref b), .val (.long hh_), .second, .val (.ref b105), .val (.int (0 : Int32))] [(.long (hh_ - s0)), (.int (0 : Int32)), (.ref b105)])) (fun t_ k_ => XS.lsub X108.here hx rfl (hb hby d_prog_5_method_4_code_44) rfl k_) ?_
  have Od112 : Old Z n0 h105 := (X00.ext E105)
  have Kp113 : Keep h0 h105 [] := ((Keep.refl h0 []).ext E105)
  obtain ⟨cl111, Ar111, q111, Sz111, Ng111, Hs111, Gs111⟩ := id V105
  obtain ⟨T114, h114, X114, e114, W114, st114⟩ := stJ X108 hx hZ e108 Ar111 (j := (0 : Int32)) (inb_of Sz111 ⟨by decide, by decide⟩) (g := (mkF m 45 #[.val (.ref b), .val (.long hh_), .second, .val (.ref b105), .val (.int (0 : Int32))] [(.long (hh_ - s0)), (.int (0 : Int32)), (.ref b105)])) rfl rfl (hb hby d_prog_5_method_4_code_45)
  have V114 : Arv Z h114 b105 kc105 .long (3 : Int32) [(.long (hh_ - s0)), (.long (0 : Int64)), (.long (0 : Int64))] (.long (0 : Int64)) := Arv.set Ar111 q111 Sz111 Ng111 Hs111 Gs111 rfl W114 0 rfl (Nat.le_of_ble_eq_true rfl)
  have N114 := Fr.snoc X114 N103 ge_b105
  refine Go.by (T' := T114) (g' := (mkF m 46 #[.val (.ref b), .val (.long hh_), .second, .val (.ref b105), .val (.int (0 : Int32))] [])) (fun t_ k_ => st114 _ k_) ?_
  refine Go.by (T' := T114) (g' := (mkF m 49 #[.val (.ref b), .val (.long hh_), .second, .val (.ref b105), .val (.int (1 : Int32))] [])) (fun t_ k_ => XS.iinc X114.here hx rfl (hb hby d_prog_5_method_4_code_46) rfl (l' := #[.val (.ref b), .val (.long hh_), .second, .val (.ref b105), .val (.int (1 : Int32))]) rfl k_) ?_
  refine Go.by (T' := T114) (g' := (mkF m 26 #[.val (.ref b), .val (.long hh_), .second, .val (.ref b105), .val (.int (1 : Int32))] [])) (fun t_ k_ => XS.goto X114.here hx rfl (pc0 := 49) (pc' := 26) rfl (hb hby d_prog_5_method_4_code_49) (by decide) (by decide) k_) ?_
  refine Go.by (T' := T114) (g' := (mkF m 28 #[.val (.ref b), .val (.long hh_), .second, .val (.ref b105), .val (.int (1 : Int32))] [(.int (1 : Int32))])) (fun t_ k_ => XS.iload X114.here hx rfl (hb hby d_prog_5_method_4_code_26) rfl k_) ?_
  refine Go.by (T' := T114) (g' := (mkF m 29 #[.val (.ref b), .val (.long hh_), .second, .val (.ref b105), .val (.int (1 : Int32))] [(.ref b105), (.int (1 : Int32))])) (fun t_ k_ => XS.aloadN X114.here hx rfl (hb hby d_prog_5_method_4_code_28) rfl rfl k_) ?_
  obtain ⟨cl115, Ar115, -, Sz115, Ng115, -, -⟩ := id V114
  refine Go.by (T' := T114) (g' := (mkF m 30 #[.val (.ref b), .val (.long hh_), .second, .val (.ref b105), .val (.int (1 : Int32))] [(.int (3 : Int32)), (.int (1 : Int32))])) (fun t_ k_ => X114.arraylength hx (by rw [e114]; exact Ar115.1) (State.isArrayOf_alike hZ.alike Ar115.2.1) (g := (mkF m 29 #[.val (.ref b), .val (.long hh_), .second, .val (.ref b105), .val (.int (1 : Int32))] [(.ref b105), (.int (1 : Int32))])) rfl rfl (hb hby d_prog_5_method_4_code_29) _ (by rw [len_of Sz115 Ng115]; exact k_)) ?_
  refine Go.by (T' := T114) (g' := (mkF m 33 #[.val (.ref b), .val (.long hh_), .second, .val (.ref b105), .val (.int (1 : Int32))] [])) (fun t_ k_ => XS.icmpNo X114.here hx rfl (hb hby d_prog_5_method_4_code_30) rfl (tlt (by decide)).2.1 k_) ?_
  refine Go.by (T' := T114) (g' := (mkF m 34 #[.val (.ref b), .val (.long hh_), .second, .val (.ref b105), .val (.int (1 : Int32))] [(.ref b105)])) (fun t_ k_ => XS.aloadN X114.here hx rfl (hb hby d_prog_5_method_4_code_33) rfl rfl k_) ?_
  refine Go.by (T' := T114) (g' := (mkF m 36 #[.val (.ref b), .val (.long hh_), .second, .val (.ref b105), .val (.int (1 : Int32))] [(.int (1 : Int32)), (.ref b105)])) (fun t_ k_ => XS.iload X114.here hx rfl (hb hby d_prog_5_method_4_code_34) rfl k_) ?_
  refine Go.by (T' := T114) (g' := (mkF m 37 #[.val (.ref b), .val (.long hh_), .second, .val (.ref b105), .val (.int (1 : Int32))] [(.long hh_), (.int (1 : Int32)), (.ref b105)])) (fun t_ k_ => XS.lloadN X114.here hx rfl (hb hby d_prog_5_method_4_code_36) rfl k_) ?_
  refine Go.by (T' := T114) (g' := (mkF m 38 #[.val (.ref b), .val (.long hh_), .second, .val (.ref b105), .val (.int (1 : Int32))] [(.ref b), (.long hh_), (.int (1 : Int32)), (.ref b105)])) (fun t_ k_ => XS.aloadN X114.here hx rfl (hb hby d_prog_5_method_4_code_37) rfl rfl k_) ?_
  have F116 : Fld Z h114 b "com/example/tidegate/tidegate/Batch" "acceptedAt" "[J" (.ref aa) := (F107.other W114 (Or.inl ne_b_b105))
  obtain ⟨T117, X117, e117, st117⟩ := getF X114 hx hZ hown (host := "") (Or.inl (hw _ (List.mem_of_getElem? (i := 111) rfl))) Via.refl e114 F116 (g := (mkF m 38 #[.val (.ref b), .val (.long hh_), .second, .val (.ref b105), .val (.int (1 : Int32))] [(.ref b), (.long hh_), (.int (1 : Int32)), (.ref b105)])) rfl rfl (hb hby d_prog_5_method_4_code_38)
  refine Go.by (T' := T117) (g' := (mkF m 41 #[.val (.ref b), .val (.long hh_), .second, .val (.ref b105), .val (.int (1 : Int32))] [(.ref aa), (.long hh_), (.int (1 : Int32)), (.ref b105)])) (fun t_ k_ => st117 _ k_) ?_
  refine Go.by (T' := T117) (g' := (mkF m 43 #[.val (.ref b), .val (.long hh_), .second, .val (.ref b105), .val (.int (1 : Int32))] [(.int (1 : Int32)), (.ref aa), (.long hh_), (.int (1 : Int32)), (.ref b105)])) (fun t_ k_ => XS.iload X117.here hx rfl (hb hby d_prog_5_method_4_code_41) rfl k_) ?_
  have F118 : Arv Z h114 aa ka .long (Int32.ofNat ln) [(.long s0), (.long s1), (.long s2)] (.long (0 : Int64)) := (F109.other W114 ne_aa_b105)
  obtain ⟨cl119, Ar119, q119, Sz119, Ng119, Hs119, Gs119⟩ := id F118
  have in119 := inb_of (j := (1 : Int32)) Sz119 (own_inb (i := 1) (show 1 < ln by omega) (by omega))
  refine Go.by (T' := T117) (g' := (mkF m 44 #[.val (.ref b), .val (.long hh_), .second, .val (.ref b105), .val (.int (1 : Int32))] [(.long s1), (.long hh_), (.int (1 : Int32)), (.ref b105)])) (fun t_ k_ => X117.laload hx (j := (1 : Int32)) (v := (.long s1)) (by rw [e117]; exact Ar119.1) (State.isArrayOf_alike hZ.alike Ar119.2.1) Ar119.2.2 in119 (Hs119.at in119 rfl) (g := (mkF m 43 #[.val (.ref b), .val (.long hh_), .second, .val (.ref b105), .val (.int (1 : Int32))] [(.int (1 : Int32)), (.ref aa), (.long hh_), (.int (1 : Int32)), (.ref b105)])) rfl rfl (hb hby d_prog_5_method_4_code_43) _ k_) ?_
  refine Go.by (T' := T117) (g' := (mkF m 45 #[.val (.ref b), .val (.long hh_), .second, .val (.ref b105), .val (.int (1 : Int32))] [(.long (hh_ - s1)), (.int (1 : Int32)), (.ref b105)])) (fun t_ k_ => XS.lsub X117.here hx rfl (hb hby d_prog_5_method_4_code_44) rfl k_) ?_
  have Od121 : Old Z n0 h114 := (Od112.wr W114 ge_b105)
  have Kp122 : Keep h0 h114 [] := (Kp113.wr W114 (Or.inr sz_b105))
  obtain ⟨cl120, Ar120, q120, Sz120, Ng120, Hs120, Gs120⟩ := id V114
  obtain ⟨T123, h123, X123, e123, W123, st123⟩ := stJ X117 hx hZ e117 Ar120 (j := (1 : Int32)) (inb_of Sz120 ⟨by decide, by decide⟩) (g := (mkF m 45 #[.val (.ref b), .val (.long hh_), .second, .val (.ref b105), .val (.int (1 : Int32))] [(.long (hh_ - s1)), (.int (1 : Int32)), (.ref b105)])) rfl rfl (hb hby d_prog_5_method_4_code_45)
  have V123 : Arv Z h123 b105 kc105 .long (3 : Int32) [(.long (hh_ - s0)), (.long (hh_ - s1)), (.long (0 : Int64))] (.long (0 : Int64)) := Arv.set Ar120 q120 Sz120 Ng120 Hs120 Gs120 rfl W123 1 rfl (Nat.le_of_ble_eq_true rfl)
  have N123 := Fr.snoc X123 N114 ge_b105
  refine Go.by (T' := T123) (g' := (mkF m 46 #[.val (.ref b), .val (.long hh_), .second, .val (.ref b105), .val (.int (1 : Int32))] [])) (fun t_ k_ => st123 _ k_) ?_
  refine Go.by (T' := T123) (g' := (mkF m 49 #[.val (.ref b), .val (.long hh_), .second, .val (.ref b105), .val (.int (2 : Int32))] [])) (fun t_ k_ => XS.iinc X123.here hx rfl (hb hby d_prog_5_method_4_code_46) rfl (l' := #[.val (.ref b), .val (.long hh_), .second, .val (.ref b105), .val (.int (2 : Int32))]) rfl k_) ?_
  refine Go.by (T' := T123) (g' := (mkF m 26 #[.val (.ref b), .val (.long hh_), .second, .val (.ref b105), .val (.int (2 : Int32))] [])) (fun t_ k_ => XS.goto X123.here hx rfl (pc0 := 49) (pc' := 26) rfl (hb hby d_prog_5_method_4_code_49) (by decide) (by decide) k_) ?_
  refine Go.by (T' := T123) (g' := (mkF m 28 #[.val (.ref b), .val (.long hh_), .second, .val (.ref b105), .val (.int (2 : Int32))] [(.int (2 : Int32))])) (fun t_ k_ => XS.iload X123.here hx rfl (hb hby d_prog_5_method_4_code_26) rfl k_) ?_
  refine Go.by (T' := T123) (g' := (mkF m 29 #[.val (.ref b), .val (.long hh_), .second, .val (.ref b105), .val (.int (2 : Int32))] [(.ref b105), (.int (2 : Int32))])) (fun t_ k_ => XS.aloadN X123.here hx rfl (hb hby d_prog_5_method_4_code_28) rfl rfl k_) ?_
  obtain ⟨cl124, Ar124, -, Sz124, Ng124, -, -⟩ := id V123
  refine Go.by (T' := T123) (g' := (mkF m 30 #[.val (.ref b), .val (.long hh_), .second, .val (.ref b105), .val (.int (2 : Int32))] [(.int (3 : Int32)), (.int (2 : Int32))])) (fun t_ k_ => X123.arraylength hx (by rw [e123]; exact Ar124.1) (State.isArrayOf_alike hZ.alike Ar124.2.1) (g := (mkF m 29 #[.val (.ref b), .val (.long hh_), .second, .val (.ref b105), .val (.int (2 : Int32))] [(.ref b105), (.int (2 : Int32))])) rfl rfl (hb hby d_prog_5_method_4_code_29) _ (by rw [len_of Sz124 Ng124]; exact k_)) ?_
  refine Go.by (T' := T123) (g' := (mkF m 33 #[.val (.ref b), .val (.long hh_), .second, .val (.ref b105), .val (.int (2 : Int32))] [])) (fun t_ k_ => XS.icmpNo X123.here hx rfl (hb hby d_prog_5_method_4_code_30) rfl (tlt (by decide)).2.1 k_) ?_
  refine Go.by (T' := T123) (g' := (mkF m 34 #[.val (.ref b), .val (.long hh_), .second, .val (.ref b105), .val (.int (2 : Int32))] [(.ref b105)])) (fun t_ k_ => XS.aloadN X123.here hx rfl (hb hby d_prog_5_method_4_code_33) rfl rfl k_) ?_
  refine Go.by (T' := T123) (g' := (mkF m 36 #[.val (.ref b), .val (.long hh_), .second, .val (.ref b105), .val (.int (2 : Int32))] [(.int (2 : Int32)), (.ref b105)])) (fun t_ k_ => XS.iload X123.here hx rfl (hb hby d_prog_5_method_4_code_34) rfl k_) ?_
  refine Go.by (T' := T123) (g' := (mkF m 37 #[.val (.ref b), .val (.long hh_), .second, .val (.ref b105), .val (.int (2 : Int32))] [(.long hh_), (.int (2 : Int32)), (.ref b105)])) (fun t_ k_ => XS.lloadN X123.here hx rfl (hb hby d_prog_5_method_4_code_36) rfl k_) ?_
  refine Go.by (T' := T123) (g' := (mkF m 38 #[.val (.ref b), .val (.long hh_), .second, .val (.ref b105), .val (.int (2 : Int32))] [(.ref b), (.long hh_), (.int (2 : Int32)), (.ref b105)])) (fun t_ k_ => XS.aloadN X123.here hx rfl (hb hby d_prog_5_method_4_code_37) rfl rfl k_) ?_
  have F125 : Fld Z h123 b "com/example/tidegate/tidegate/Batch" "acceptedAt" "[J" (.ref aa) := (F116.other W123 (Or.inl ne_b_b105))
  obtain ⟨T126, X126, e126, st126⟩ := getF X123 hx hZ hown (host := "") (Or.inl (hw _ (List.mem_of_getElem? (i := 111) rfl))) Via.refl e123 F125 (g := (mkF m 38 #[.val (.ref b), .val (.long hh_), .second, .val (.ref b105), .val (.int (2 : Int32))] [(.ref b), (.long hh_), (.int (2 : Int32)), (.ref b105)])) rfl rfl (hb hby d_prog_5_method_4_code_38)
  refine Go.by (T' := T126) (g' := (mkF m 41 #[.val (.ref b), .val (.long hh_), .second, .val (.ref b105), .val (.int (2 : Int32))] [(.ref aa), (.long hh_), (.int (2 : Int32)), (.ref b105)])) (fun t_ k_ => st126 _ k_) ?_
  refine Go.by (T' := T126) (g' := (mkF m 43 #[.val (.ref b), .val (.long hh_), .second, .val (.ref b105), .val (.int (2 : Int32))] [(.int (2 : Int32)), (.ref aa), (.long hh_), (.int (2 : Int32)), (.ref b105)])) (fun t_ k_ => XS.iload X126.here hx rfl (hb hby d_prog_5_method_4_code_41) rfl k_) ?_
  have F127 : Arv Z h123 aa ka .long (Int32.ofNat ln) [(.long s0), (.long s1), (.long s2)] (.long (0 : Int64)) := (F118.other W123 ne_aa_b105)
  obtain ⟨cl128, Ar128, q128, Sz128, Ng128, Hs128, Gs128⟩ := id F127
  have in128 := inb_of (j := (2 : Int32)) Sz128 (own_inb (i := 2) (show 2 < ln by omega) (by omega))
  refine Go.by (T' := T126) (g' := (mkF m 44 #[.val (.ref b), .val (.long hh_), .second, .val (.ref b105), .val (.int (2 : Int32))] [(.long s2), (.long hh_), (.int (2 : Int32)), (.ref b105)])) (fun t_ k_ => X126.laload hx (j := (2 : Int32)) (v := (.long s2)) (by rw [e126]; exact Ar128.1) (State.isArrayOf_alike hZ.alike Ar128.2.1) Ar128.2.2 in128 (Hs128.at in128 rfl) (g := (mkF m 43 #[.val (.ref b), .val (.long hh_), .second, .val (.ref b105), .val (.int (2 : Int32))] [(.int (2 : Int32)), (.ref aa), (.long hh_), (.int (2 : Int32)), (.ref b105)])) rfl rfl (hb hby d_prog_5_method_4_code_43) _ k_) ?_
  refine Go.by (T' := T126) (g' := (mkF m 45 #[.val (.ref b), .val (.long hh_), .second, .val (.ref b105), .val (.int (2 : Int32))] [(.long (hh_ - s2)), (.int (2 : Int32)), (.ref b105)])) (fun t_ k_ => XS.lsub X126.here hx rfl (hb hby d_prog_5_method_4_code_44) rfl k_) ?_
  have Od130 : Old Z n0 h123 := (Od121.wr W123 ge_b105)
  have Kp131 : Keep h0 h123 [] := (Kp122.wr W123 (Or.inr sz_b105))
  obtain ⟨cl129, Ar129, q129, Sz129, Ng129, Hs129, Gs129⟩ := id V123
  obtain ⟨T132, h132, X132, e132, W132, st132⟩ := stJ X126 hx hZ e126 Ar129 (j := (2 : Int32)) (inb_of Sz129 ⟨by decide, by decide⟩) (g := (mkF m 45 #[.val (.ref b), .val (.long hh_), .second, .val (.ref b105), .val (.int (2 : Int32))] [(.long (hh_ - s2)), (.int (2 : Int32)), (.ref b105)])) rfl rfl (hb hby d_prog_5_method_4_code_45)
  have V132 : Arv Z h132 b105 kc105 .long (3 : Int32) [(.long (hh_ - s0)), (.long (hh_ - s1)), (.long (hh_ - s2))] (.long (0 : Int64)) := Arv.set Ar129 q129 Sz129 Ng129 Hs129 Gs129 rfl W132 2 rfl (Nat.le_of_ble_eq_true rfl)
  have N132 := Fr.snoc X132 N123 ge_b105
  refine Go.by (T' := T132) (g' := (mkF m 46 #[.val (.ref b), .val (.long hh_), .second, .val (.ref b105), .val (.int (2 : Int32))] [])) (fun t_ k_ => st132 _ k_) ?_
  refine Go.by (T' := T132) (g' := (mkF m 49 #[.val (.ref b), .val (.long hh_), .second, .val (.ref b105), .val (.int (3 : Int32))] [])) (fun t_ k_ => XS.iinc X132.here hx rfl (hb hby d_prog_5_method_4_code_46) rfl (l' := #[.val (.ref b), .val (.long hh_), .second, .val (.ref b105), .val (.int (3 : Int32))]) rfl k_) ?_
  refine Go.by (T' := T132) (g' := (mkF m 26 #[.val (.ref b), .val (.long hh_), .second, .val (.ref b105), .val (.int (3 : Int32))] [])) (fun t_ k_ => XS.goto X132.here hx rfl (pc0 := 49) (pc' := 26) rfl (hb hby d_prog_5_method_4_code_49) (by decide) (by decide) k_) ?_
  refine Go.by (T' := T132) (g' := (mkF m 28 #[.val (.ref b), .val (.long hh_), .second, .val (.ref b105), .val (.int (3 : Int32))] [(.int (3 : Int32))])) (fun t_ k_ => XS.iload X132.here hx rfl (hb hby d_prog_5_method_4_code_26) rfl k_) ?_
  refine Go.by (T' := T132) (g' := (mkF m 29 #[.val (.ref b), .val (.long hh_), .second, .val (.ref b105), .val (.int (3 : Int32))] [(.ref b105), (.int (3 : Int32))])) (fun t_ k_ => XS.aloadN X132.here hx rfl (hb hby d_prog_5_method_4_code_28) rfl rfl k_) ?_
  obtain ⟨cl133, Ar133, -, Sz133, Ng133, -, -⟩ := id V132
  refine Go.by (T' := T132) (g' := (mkF m 30 #[.val (.ref b), .val (.long hh_), .second, .val (.ref b105), .val (.int (3 : Int32))] [(.int (3 : Int32)), (.int (3 : Int32))])) (fun t_ k_ => X132.arraylength hx (by rw [e132]; exact Ar133.1) (State.isArrayOf_alike hZ.alike Ar133.2.1) (g := (mkF m 29 #[.val (.ref b), .val (.long hh_), .second, .val (.ref b105), .val (.int (3 : Int32))] [(.ref b105), (.int (3 : Int32))])) rfl rfl (hb hby d_prog_5_method_4_code_29) _ (by rw [len_of Sz133 Ng133]; exact k_)) ?_
  refine Go.by (T' := T132) (g' := (mkF m 52 #[.val (.ref b), .val (.long hh_), .second, .val (.ref b105), .val (.int (3 : Int32))] [])) (fun t_ k_ => XS.icmpYes X132.here hx rfl (pc0 := 30) (pc' := 52) rfl (hb hby d_prog_5_method_4_code_30) rfl (flt (by decide)).2.1 (by decide) (by decide) k_) ?_
  refine Go.by (T' := T132) (g' := (mkF m 53 #[.val (.ref b), .val (.long hh_), .second, .val (.ref b105), .val (.int (3 : Int32))] [(.ref b105)])) (fun t_ k_ => XS.aloadN X132.here hx rfl (hb hby d_prog_5_method_4_code_52) rfl rfl k_) ?_
  have Kp134 : Keep h0 h132 [] := (Kp131.wr W132 (Or.inr sz_b105))
  refine Go.fin X132 (v := some (.ref b105)) (fun h => by rw [Bd.returns] at h; cases h) hlk (by decide) (by decide) ?_ (fun fs hr => retR X132 hx (w := (.ref b105)) Bd.returns rfl rfl rfl (hb hby d_prog_5_method_4_code_53) hr)
  show Q_w3 Z b hh_ nt l2 n f0 aa ka ln s0 s1 s2 h0 n0 _ T132.heap _
  rw [e132]
  exact ⟨b105, kc105, rfl, N132, Kp134, sz_b105, V132⟩
def Q_law (Z : State) (hh_ : Int64) (y0 : Int64) (y1 : Int64) (y2 : Int64) (sh : Int32) (nt : Addr) (knt : ClassId) (mr : Addr) (h0 : Heap) (n0 : Nat) (v : Option Value) (h : Heap) (L : List Loc) : Prop := v = some (.int 1) ∧ Fr n0 L
theorem pn_6 : plainName "com/example/tidegate/tidegate/BatchWaitsPinLaw" = true := by first | (simp [plainName, overriddenIn]; done) | decide +kernel
theorem ef_law (m : MethodId) (hh_ : Int64) (y0 : Int64) (y1 : Int64) (y2 : Int64) (sh : Int32) : entryFrame m #[(.long hh_), (.long y0), (.long y1), (.long y2), (.int sh)] maxLocals = mkF m 0 #[.val (.long hh_), .second, .val (.long y0), .second, .val (.long y1), .second, .val (.long y2), .second, .val (.int sh), .unset, .unset, .unset, .unset, .unset] [] := by first | (simp [entryFrame, mkF, argsToLocals, Value.category, maxLocals]; done) | rfl
theorem pd_13 : parseMethodDescriptor "(Ljava/lang/Object;Ljava/util/concurrent/CompletableFuture;J)V" = some ⟨[(.object "java/lang/Object"), (.object "java/util/concurrent/CompletableFuture"), .long], none⟩ := by decide +kernel
theorem pd_14 : parseMethodDescriptor "(J)[J" = some ⟨[.long], some (.array .long)⟩ := by decide +kernel
set_option maxRecDepth 65536 in
set_option maxHeartbeats 40000000 in
theorem rm_law (l : Launch) (Z : State) (a0 : Array Value) (hw : ∀ d ∈ tables_1, d.before a0 Z = true) (ws : List Jvm.Cond) (hh_ : Int64) (y0 : Int64) (y1 : Int64) (y2 : Int64) (sh : Int32) (nt : Addr) (knt : ClassId) (mr : Addr) (h0 : Heap) (n0 : Nat) (X00 : Old Z n0 h0) (P0 : Sta Z Z.heap "com/example/tidegate/tidegate/Batch" "NONE_TIMED" "[J" (.ref nt)) (hM : own_Mir Z "[Ljava/lang/Object;" mr) (hnt : Arv Z Z.heap nt knt .long (0 : Int32) [] (.long (0 : Int64))) :
    MetFree l x (head1 (Jvm.Cond.code x code maxLocals ret :: ws) room_1) (fun aa_ U => aa_ = #[(.long hh_), (.long y0), (.long y1), (.long y2), (.int sh)] ∧ Z.Warmed39 U.vm ∧ U.heap = h0) (fun _ _ _ _ _ => True) (fun _ U o U' => ∃ v L, o = .returned v ∧ Q_law Z hh_ y0 y1 y2 sh nt knt mr h0 n0 v U'.heap L ∧ FrameEnd U o U' L 48 192) := by
  refine MetFree.of_bodySF (plainFor_of_name pn_6) hisR ?_
  intro p e s m args below meth c s₁ Bd hml0 hP hK
  obtain ⟨rfl, hZ, hh⟩ := hP
  have hx := Bd.exec
  have hby := Bd.bytes
  have hml : c.maxLocals = 14 := hml0
  have hown : s.vm.findClass "com/example/tidegate/tidegate/BatchWaitsPinLaw" = some m.cls := findClass_of_methodNamed Bd.named
  have hnm := (name_of_methodNamed Bd.named Bd.method).1
  have hlk : meth.locks = false := BodyLoose.notSynchronized Bd
  have X0 : Stand p l e room_1 s m #[(.long hh_), (.long y0), (.long y1), (.long y2), (.int sh)] below meth c s₁ [] 0 0 := Stand.of_body Bd
  have e0 : s₁.heap = h0 := by rw [← hh, Bd.state]; rfl
  have N0 := Fr.nil n0
  suffices G : Go p e below s (Q_law Z hh_ y0 y1 y2 sh nt knt mr h0 n0) 48 192 s₁ (mkF m 0 #[.val (.long hh_), .second, .val (.long y0), .second, .val (.long y1), .second, .val (.long y2), .second, .val (.int sh), .unset, .unset, .unset, .unset, .unset] []) by
    obtain ⟨s2, o, h1, h2⟩ := G
    exact ⟨s2, o, castTop (ef_law m hh_ y0 y1 y2 sh) h1, h2⟩
  refine Go.by (T' := s₁) (g' := (mkF m 2 #[.val (.long hh_), .second, .val (.long y0), .second, .val (.long y1), .second, .val (.long y2), .second, .val (.int sh), .unset, .unset, .unset, .unset, .unset] [(.int sh)])) (fun t_ k_ => XS.iload X0.here hx rfl (hb hby at_0) rfl k_) ?_
  refine Go.by (T' := s₁) (g' := (mkF m 3 #[.val (.long hh_), .second, .val (.long y0), .second, .val (.long y1), .second, .val (.long y2), .second, .val (.int sh), .unset, .unset, .unset, .unset, .unset] [(.int (3 : Int32)), (.int sh)])) (fun t_ k_ => XS.iconst X0.here hx rfl (hb hby at_2) k_) ?_
  refine Go.by (T' := s₁) (g' := (mkF m 4 #[.val (.long hh_), .second, .val (.long y0), .second, .val (.long y1), .second, .val (.long y2), .second, .val (.int sh), .unset, .unset, .unset, .unset, .unset] [(.int (sh &&& (3 : Int32)))])) (fun t_ k_ => XS.iand X0.here hx rfl (hb hby at_3) rfl k_) ?_
  obtain ⟨U, hU, eU⟩ := own_and3 sh
  rw [eU]
  refine Go.by (T' := s₁) (g' := (mkF m 6 #[.val (.long hh_), .second, .val (.long y0), .second, .val (.long y1), .second, .val (.long y2), .second, .val (.int sh), .val (.int (Int32.ofNat U)), .unset, .unset, .unset, .unset] [])) (fun t_ k_ => XS.istore X0.here hx rfl (hb hby at_4) rfl (l' := #[.val (.long hh_), .second, .val (.long y0), .second, .val (.long y1), .second, .val (.long y2), .second, .val (.int sh), .val (.int (Int32.ofNat U)), .unset, .unset, .unset, .unset]) rfl k_) ?_
  refine Go.by (T' := s₁) (g' := (mkF m 8 #[.val (.long hh_), .second, .val (.long y0), .second, .val (.long y1), .second, .val (.long y2), .second, .val (.int sh), .val (.int (Int32.ofNat U)), .unset, .unset, .unset, .unset] [(.int sh)])) (fun t_ k_ => XS.iload X0.here hx rfl (hb hby at_6) rfl k_) ?_
  refine Go.by (T' := s₁) (g' := (mkF m 9 #[.val (.long hh_), .second, .val (.long y0), .second, .val (.long y1), .second, .val (.long y2), .second, .val (.int sh), .val (.int (Int32.ofNat U)), .unset, .unset, .unset, .unset] [(.int (2 : Int32)), (.int sh)])) (fun t_ k_ => XS.iconst X0.here hx rfl (hb hby at_8) k_) ?_
  refine Go.by (T' := s₁) (g' := (mkF m 10 #[.val (.long hh_), .second, .val (.long y0), .second, .val (.long y1), .second, .val (.long y2), .second, .val (.int sh), .val (.int (Int32.ofNat U)), .unset, .unset, .unset, .unset] [(.int ((sh.toUInt32 >>> ((2 : Int32) &&& 31).toUInt32).toInt32))])) (fun t_ k_ => XS.iushr X0.here hx rfl (hb hby at_9) rfl k_) ?_
  refine Go.by (T' := s₁) (g' := (mkF m 11 #[.val (.long hh_), .second, .val (.long y0), .second, .val (.long y1), .second, .val (.long y2), .second, .val (.int sh), .val (.int (Int32.ofNat U)), .unset, .unset, .unset, .unset] [(.int (3 : Int32)), (.int ((sh.toUInt32 >>> ((2 : Int32) &&& 31).toUInt32).toInt32))])) (fun t_ k_ => XS.iconst X0.here hx rfl (hb hby at_10) k_) ?_
  refine Go.by (T' := s₁) (g' := (mkF m 12 #[.val (.long hh_), .second, .val (.long y0), .second, .val (.long y1), .second, .val (.long y2), .second, .val (.int sh), .val (.int (Int32.ofNat U)), .unset, .unset, .unset, .unset] [(.int (((sh.toUInt32 >>> ((2 : Int32) &&& 31).toUInt32).toInt32) &&& (3 : Int32)))])) (fun t_ k_ => XS.iand X0.here hx rfl (hb hby at_11) rfl k_) ?_
  obtain ⟨K, hK, eK⟩ := own_and3 ((sh.toUInt32 >>> ((2 : Int32) &&& 31).toUInt32).toInt32)
  rw [eK]
  refine Go.by (T' := s₁) (g' := (mkF m 14 #[.val (.long hh_), .second, .val (.long y0), .second, .val (.long y1), .second, .val (.long y2), .second, .val (.int sh), .val (.int (Int32.ofNat U)), .val (.int (Int32.ofNat K)), .unset, .unset, .unset] [])) (fun t_ k_ => XS.istore X0.here hx rfl (hb hby at_12) rfl (l' := #[.val (.long hh_), .second, .val (.long y0), .second, .val (.long y1), .second, .val (.long y2), .second, .val (.int sh), .val (.int (Int32.ofNat U)), .val (.int (Int32.ofNat K)), .unset, .unset, .unset]) rfl k_) ?_
  refine Go.by (T' := s₁) (g' := (mkF m 16 #[.val (.long hh_), .second, .val (.long y0), .second, .val (.long y1), .second, .val (.long y2), .second, .val (.int sh), .val (.int (Int32.ofNat U)), .val (.int (Int32.ofNat K)), .unset, .unset, .unset] [(.int sh)])) (fun t_ k_ => XS.iload X0.here hx rfl (hb hby at_14) rfl k_) ?_
  refine Go.by (T' := s₁) (g' := (mkF m 17 #[.val (.long hh_), .second, .val (.long y0), .second, .val (.long y1), .second, .val (.long y2), .second, .val (.int sh), .val (.int (Int32.ofNat U)), .val (.int (Int32.ofNat K)), .unset, .unset, .unset] [(.int (4 : Int32)), (.int sh)])) (fun t_ k_ => XS.iconst X0.here hx rfl (hb hby at_16) k_) ?_
  refine Go.by (T' := s₁) (g' := (mkF m 18 #[.val (.long hh_), .second, .val (.long y0), .second, .val (.long y1), .second, .val (.long y2), .second, .val (.int sh), .val (.int (Int32.ofNat U)), .val (.int (Int32.ofNat K)), .unset, .unset, .unset] [(.int ((sh.toUInt32 >>> ((4 : Int32) &&& 31).toUInt32).toInt32))])) (fun t_ k_ => XS.iushr X0.here hx rfl (hb hby at_17) rfl k_) ?_
  refine Go.by (T' := s₁) (g' := (mkF m 19 #[.val (.long hh_), .second, .val (.long y0), .second, .val (.long y1), .second, .val (.long y2), .second, .val (.int sh), .val (.int (Int32.ofNat U)), .val (.int (Int32.ofNat K)), .unset, .unset, .unset] [(.int (3 : Int32)), (.int ((sh.toUInt32 >>> ((4 : Int32) &&& 31).toUInt32).toInt32))])) (fun t_ k_ => XS.iconst X0.here hx rfl (hb hby at_18) k_) ?_
  refine Go.by (T' := s₁) (g' := (mkF m 20 #[.val (.long hh_), .second, .val (.long y0), .second, .val (.long y1), .second, .val (.long y2), .second, .val (.int sh), .val (.int (Int32.ofNat U)), .val (.int (Int32.ofNat K)), .unset, .unset, .unset] [(.int (((sh.toUInt32 >>> ((4 : Int32) &&& 31).toUInt32).toInt32) &&& (3 : Int32)))])) (fun t_ k_ => XS.iand X0.here hx rfl (hb hby at_19) rfl k_) ?_
  obtain ⟨Q, hQ3, eQ⟩ := own_and3 ((sh.toUInt32 >>> ((4 : Int32) &&& 31).toUInt32).toInt32)
  rw [eQ]
  refine Go.by (T' := s₁) (g' := (mkF m 21 #[.val (.long hh_), .second, .val (.long y0), .second, .val (.long y1), .second, .val (.long y2), .second, .val (.int sh), .val (.int (Int32.ofNat U)), .val (.int (Int32.ofNat K)), .unset, .unset, .unset] [(.int (1 : Int32)), (.int (Int32.ofNat Q))])) (fun t_ k_ => XS.iconst X0.here hx rfl (hb hby at_20) k_) ?_
  refine Go.by (T' := s₁) (g' := (mkF m 22 #[.val (.long hh_), .second, .val (.long y0), .second, .val (.long y1), .second, .val (.long y2), .second, .val (.int sh), .val (.int (Int32.ofNat U)), .val (.int (Int32.ofNat K)), .unset, .unset, .unset] [(.int ((Int32.ofNat Q) + (1 : Int32)))])) (fun t_ k_ => XS.iadd X0.here hx rfl (hb hby at_21) rfl k_) ?_
  rw [show (1 : Int32) = Int32.ofNat 1 from rfl, own_add]
  refine Go.by (T' := s₁) (g' := (mkF m 24 #[.val (.long hh_), .second, .val (.long y0), .second, .val (.long y1), .second, .val (.long y2), .second, .val (.int sh), .val (.int (Int32.ofNat U)), .val (.int (Int32.ofNat K)), .val (.int (Int32.ofNat (Q + 1))), .unset, .unset] [])) (fun t_ k_ => XS.istore X0.here hx rfl (hb hby at_22) rfl (l' := #[.val (.long hh_), .second, .val (.long y0), .second, .val (.long y1), .second, .val (.long y2), .second, .val (.int sh), .val (.int (Int32.ofNat U)), .val (.int (Int32.ofNat K)), .val (.int (Int32.ofNat (Q + 1))), .unset, .unset]) rfl k_) ?_
  obtain ⟨T101, h101, X101, e101, E101, A101, Df101, -, st101⟩ := newO X0 hx hZ hown (hw _ (List.mem_of_getElem? (i := 0) rfl)) (hw _ (List.mem_of_getElem? (i := 1) rfl)) (hw _ (List.mem_of_getElem? (i := 2) rfl)) e0 (g := (mkF m 24 #[.val (.long hh_), .second, .val (.long y0), .second, .val (.long y1), .second, .val (.long y2), .second, .val (.int sh), .val (.int (Int32.ofNat U)), .val (.int (Int32.ofNat K)), .val (.int (Int32.ofNat (Q + 1))), .unset, .unset] [])) rfl (hb hby at_24) (by decide) (by decide)
  obtain ⟨b101, g101⟩ : ∃ z, z = h0.size := ⟨_, rfl⟩
  rw [← g101] at A101 Df101 st101
  have ge_b101 : n0 ≤ b101 := Nat.le_trans X00.sz (Nat.le_of_eq g101.symm)
  have sz_b101 : h0.size ≤ b101 := Nat.le_trans (Keep.refl h0 []).1 (Nat.le_of_eq g101.symm)
  have F102 : Fld Z h101 b101 "com/example/tidegate/tidegate/Batch" "presized" "I" (.int (0 : Int32)) := Df101 (Or.inr (hw _ (List.mem_of_getElem? (i := 10) rfl))) (ty := .int) (by decide)
  have F103 : Fld Z h101 b101 "com/example/tidegate/tidegate/Batch" "items" "Ljava/util/List;" .null := Df101 (Or.inr (hw _ (List.mem_of_getElem? (i := 37) rfl))) (ty := (.object "java/util/List")) (by decide)
  have F104 : Fld Z h101 b101 "com/example/tidegate/tidegate/Batch" "completions" "Ljava/util/List;" .null := Df101 (Or.inr (hw _ (List.mem_of_getElem? (i := 39) rfl))) (ty := (.object "java/util/List")) (by decide)
  have F105 : Fld Z h101 b101 "com/example/tidegate/tidegate/Batch" "acceptedAt" "[J" .null := Df101 (Or.inl (hw _ (List.mem_of_getElem? (i := 112) rfl))) (ty := (.array .long)) (by decide)
  have F106 : Fld Z h101 b101 "com/example/tidegate/tidegate/Batch" "firstTimed" "I" (.int (0 : Int32)) := Df101 (Or.inl (hw _ (List.mem_of_getElem? (i := 133) rfl))) (ty := .int) (by decide)
  refine Go.by (T' := T101) (g' := (mkF m 27 #[.val (.long hh_), .second, .val (.long y0), .second, .val (.long y1), .second, .val (.long y2), .second, .val (.int sh), .val (.int (Int32.ofNat U)), .val (.int (Int32.ofNat K)), .val (.int (Int32.ofNat (Q + 1))), .unset, .unset] [(.ref b101)])) (fun t_ k_ => st101 _ k_) ?_
  refine Go.by (T' := T101) (g' := (mkF m 28 #[.val (.long hh_), .second, .val (.long y0), .second, .val (.long y1), .second, .val (.long y2), .second, .val (.int sh), .val (.int (Int32.ofNat U)), .val (.int (Int32.ofNat K)), .val (.int (Int32.ofNat (Q + 1))), .unset, .unset] [(.ref b101), (.ref b101)])) (fun t_ k_ => XS.dup X101.here hx rfl (hb hby at_27) rfl rfl k_) ?_
  refine Go.by (T' := T101) (g' := (mkF m 30 #[.val (.long hh_), .second, .val (.long y0), .second, .val (.long y1), .second, .val (.long y2), .second, .val (.int sh), .val (.int (Int32.ofNat U)), .val (.int (Int32.ofNat K)), .val (.int (Int32.ofNat (Q + 1))), .unset, .unset] [(.int (Int32.ofNat (Q + 1))), (.ref b101), (.ref b101)])) (fun t_ k_ => XS.iload X101.here hx rfl (hb hby at_28) rfl k_) ?_
  have Od107 : Old Z n0 h101 := (X00.ext E101)
  have Kp108 : Keep h0 h101 [] := ((Keep.refl h0 []).ext E101)
  obtain ⟨_, _, ⟨T109, L109, k109, n109⟩, -, X109, ⟨Lc109, hQ109, l109, y109, z109⟩, st109⟩ := X101.specialBack hx (y := (⟨"com/example/tidegate/tidegate/Batch", "<init>", "(I)V"⟩ : MethodName)) rfl hown (mvT hZ (hw _ (List.mem_of_getElem? (i := 3) rfl))) (mvT hZ (hw _ (List.mem_of_getElem? (i := 4) rfl))) (mvT hZ (hw _ (List.mem_of_getElem? (i := 5) rfl))) (by decide) (backOf (W := 1) (rm_binit l Z a0 hw [] b101 (Q + 1) (.int (0 : Int32)) .null .null h101 n0 Od107 A101 F102 F103 F104 F105 F106 ge_b101 (by omega) (by omega)) hZ (hw _ (List.mem_of_getElem? (i := 5) rfl)) (hw _ (List.mem_of_getElem? (i := 2) rfl)) (by decide) (by decide)) (g := (mkF m 30 #[.val (.long hh_), .second, .val (.long y0), .second, .val (.long y1), .second, .val (.long y2), .second, .val (.int sh), .val (.int (Int32.ofNat U)), .val (.int (Int32.ofNat K)), .val (.int (Int32.ofNat (Q + 1))), .unset, .unset] [(.int (Int32.ofNat (Q + 1))), (.ref b101), (.ref b101)])) rfl (by rw [hml]; rfl) (Steps.refl _) (a := b101) (argsL := [(.int (Int32.ofNat (Q + 1)))]) (rest := [(.ref b101)]) (lenOf pd_8 rfl) rfl (by show 2 * 0 + _ ≤ _; exact Nat.le_of_eq rfl) (hb hby at_30) (fun _ _ => ⟨rfl, e101, (by decide : 1 + 4 ≤ _), (by decide : 5 + 14 ≤ _)⟩)
  dsimp only [Pt.U, Pt.locs, Pt.cells, Pt.slots] at X109 l109 y109 z109 st109 hQ109
  subst l109 y109 z109
  obtain ⟨l1_109, l2_109, e1_109, e2_109, k1_109, k2_109, rfl, N109q, K109, G109_0, G109_1, G109_2, G109_3, G109_4, G109_5, G109_6, G109_7, G109_8, G109_9, G109_10, G109_11, G109_12, G109_13, G109_14, G109_15, G109_16, G109_17, G109_18, G109_19, G109_20, G109_21, G109_22, G109_23, G109_24, G109_25, G109_26, G109_27⟩ := hQ109
  have N109 := Fr.app N0 N109q
  have ge_l1_109 : n0 ≤ l1_109 := Nat.le_trans Od107.sz G109_0
  have sz_l1_109 : h0.size ≤ l1_109 := Nat.le_trans Kp108.1 G109_0
  have ne_b101_l1_109 : ¬ (b101 = l1_109) := Nat.ne_of_lt (Nat.lt_of_lt_of_le A101.lt G109_0)
  have ge_l2_109 : n0 ≤ l2_109 := Nat.le_trans Od107.sz G109_1
  have sz_l2_109 : h0.size ≤ l2_109 := Nat.le_trans Kp108.1 G109_1
  have ne_b101_l2_109 : ¬ (b101 = l2_109) := Nat.ne_of_lt (Nat.lt_of_lt_of_le A101.lt G109_1)
  have ge_e1_109 : n0 ≤ e1_109 := Nat.le_trans Od107.sz G109_2
  have sz_e1_109 : h0.size ≤ e1_109 := Nat.le_trans Kp108.1 G109_2
  have ne_b101_e1_109 : ¬ (b101 = e1_109) := Nat.ne_of_lt (Nat.lt_of_lt_of_le A101.lt G109_2)
  have ge_e2_109 : n0 ≤ e2_109 := Nat.le_trans Od107.sz G109_3
  have sz_e2_109 : h0.size ≤ e2_109 := Nat.le_trans Kp108.1 G109_3
  have ne_b101_e2_109 : ¬ (b101 = e2_109) := Nat.ne_of_lt (Nat.lt_of_lt_of_le A101.lt G109_3)
  refine Go.by (T' := T109) (g' := (mkF m 33 #[.val (.long hh_), .second, .val (.long y0), .second, .val (.long y1), .second, .val (.long y2), .second, .val (.int sh), .val (.int (Int32.ofNat U)), .val (.int (Int32.ofNat K)), .val (.int (Int32.ofNat (Q + 1))), .unset, .unset] [(.ref b101)])) (fun t_ k_ => st109.trans k_) ?_
  refine Go.by (T' := T109) (g' := (mkF m 35 #[.val (.long hh_), .second, .val (.long y0), .second, .val (.long y1), .second, .val (.long y2), .second, .val (.int sh), .val (.int (Int32.ofNat U)), .val (.int (Int32.ofNat K)), .val (.int (Int32.ofNat (Q + 1))), .val (.ref b101), .unset] [])) (fun t_ k_ => XS.astore X109.here hx rfl (hb hby at_33) rfl rfl (l' := #[.val (.long hh_), .second, .val (.long y0), .second, .val (.long y1), .second, .val (.long y2), .second, .val (.int sh), .val (.int (Int32.ofNat U)), .val (.int (Int32.ofNat K)), .val (.int (Int32.ofNat (Q + 1))), .val (.ref b101), .unset]) rfl k_) ?_
  refine Go.by (T' := T109) (g' := (mkF m 37 #[.val (.long hh_), .second, .val (.long y0), .second, .val (.long y1), .second, .val (.long y2), .second, .val (.int sh), .val (.int (Int32.ofNat U)), .val (.int (Int32.ofNat K)), .val (.int (Int32.ofNat (Q + 1))), .val (.ref b101), .unset] [(.int (Int32.ofNat U))])) (fun t_ k_ => XS.iload X109.here hx rfl (hb hby at_35) rfl k_) ?_
  have J73 : ∀ {T : State} {h : Heap} {L : List Loc} (n : Nat) (e1 : Addr) (e2 : Addr) (c1 : Nat) (c2 : Nat) (m1 : Int32) (m2 : Int32) (k1 : ClassId) (k2 : ClassId), Stand p l e room_1 s m #[(.long hh_), (.long y0), (.long y1), (.long y2), (.int sh)] below meth c T L 11 61 → T.heap = h → Fr n0 L → Old Z n0 h → Keep h0 h [] → Exa Z h b101 "com/example/tidegate/tidegate/Batch" → Fld Z h b101 "com/example/tidegate/tidegate/Batch" "presized" "I" (.int (Int32.ofNat (Q + 1))) → Fld Z h b101 "com/example/tidegate/tidegate/Batch" "items" "Ljava/util/List;" (.ref l1_109) → Fld Z h b101 "com/example/tidegate/tidegate/Batch" "completions" "Ljava/util/List;" (.ref l2_109) → Fld Z h b101 "com/example/tidegate/tidegate/Batch" "acceptedAt" "[J" .null → Fld Z h b101 "com/example/tidegate/tidegate/Batch" "firstTimed" "I" (.int (0 : Int32)) → Exa Z h l1_109 "java/util/ArrayList" → Fld Z h l1_109 "java/util/AbstractList" "modCount" "I" (.int m1) → Fld Z h l1_109 "java/util/ArrayList" "elementData" "[Ljava/lang/Object;" (.ref e1) → Fld Z h l1_109 "java/util/ArrayList" "size" "I" (.int (Int32.ofNat n)) → Exa Z h e1 "[Ljava/lang/Object;" → Arv Z h e1 k1 (.object "java/lang/Object") (Int32.ofNat c1) [] .null → Exa Z h l2_109 "java/util/ArrayList" → Fld Z h l2_109 "java/util/AbstractList" "modCount" "I" (.int m2) → Fld Z h l2_109 "java/util/ArrayList" "elementData" "[Ljava/lang/Object;" (.ref e2) → Fld Z h l2_109 "java/util/ArrayList" "size" "I" (.int (Int32.ofNat n)) → Exa Z h e2 "[Ljava/lang/Object;" → Arv Z h e2 k2 (.object "java/lang/Object") (Int32.ofNat c2) [] .null → n ≤ 3 → (n ≤ c1 ∧ 1 ≤ c1 ∧ c1 ≤ 7 ∧ n ≤ c2 ∧ 1 ≤ c2 ∧ c2 ≤ 7) → n0 ≤ e1 → n0 ≤ e2 → h0.size ≤ e1 → h0.size ≤ e2 → ¬ (b101 = e1) → ¬ (b101 = e2) → ¬ (l1_109 = e1) → ¬ (l1_109 = e2) → ¬ (l2_109 = e1) → ¬ (l2_109 = e2) → ¬ (e1 = e2) → Go p e below s (Q_law Z hh_ y0 y1 y2 sh nt knt mr h0 n0) 48 192 T (mkF m 73 #[.val (.long hh_), .second, .val (.long y0), .second, .val (.long y1), .second, .val (.long y2), .second, .val (.int sh), .val (.int (Int32.ofNat U)), .val (.int (Int32.ofNat K)), .val (.int (Int32.ofNat (Q + 1))), .val (.ref b101), .unset] []) := by
    intro T h L n e1 e2 c1 c2 m1 m2 k1 k2 XJ eJ NJ OJ KJ FJ0 FJ1 FJ2 FJ3 FJ4 FJ5 FJ6 FJ7 FJ8 FJ9 FJ10 FJ11 FJ12 FJ13 FJ14 FJ15 FJ16 FJ17 hn3 hc ge_e1 ge_e2 sz_e1 sz_e2 nj0 nj1 nj2 nj3 nj4 nj5 nj6
    refine Go.by (T' := T) (g' := (mkF m 75 #[.val (.long hh_), .second, .val (.long y0), .second, .val (.long y1), .second, .val (.long y2), .second, .val (.int sh), .val (.int (Int32.ofNat U)), .val (.int (Int32.ofNat K)), .val (.int (Int32.ofNat (Q + 1))), .val (.ref b101), .unset] [(.int (Int32.ofNat K))])) (fun t_ k_ => XS.iload XJ.here hx rfl (hb hby at_73) rfl k_) ?_
    by_cases hk0 : 0 < K
    · skip
      refine Go.by (T' := T) (g' := (mkF m 78 #[.val (.long hh_), .second, .val (.long y0), .second, .val (.long y1), .second, .val (.long y2), .second, .val (.int sh), .val (.int (Int32.ofNat U)), .val (.int (Int32.ofNat K)), .val (.int (Int32.ofNat (Q + 1))), .val (.ref b101), .unset] [])) (fun t_ k_ => XS.ifNo XJ.here hx rfl (hb hby at_75) rfl ((if0 _ _).trans (tlt (by rw [show (0 : Int32) = Int32.ofNat 0 from rfl, own_lt (by omega) (by omega)]; exact hk0)).2.2.2) k_) ?_
      refine Go.by (T' := T) (g' := (mkF m 80 #[.val (.long hh_), .second, .val (.long y0), .second, .val (.long y1), .second, .val (.long y2), .second, .val (.int sh), .val (.int (Int32.ofNat U)), .val (.int (Int32.ofNat K)), .val (.int (Int32.ofNat (Q + 1))), .val (.ref b101), .unset] [(.ref b101)])) (fun t_ k_ => XS.aload XJ.here hx rfl (hb hby at_78) rfl rfl k_) ?_
      refine Go.by (T' := T) (g' := (mkF m 81 #[.val (.long hh_), .second, .val (.long y0), .second, .val (.long y1), .second, .val (.long y2), .second, .val (.int sh), .val (.int (Int32.ofNat U)), .val (.int (Int32.ofNat K)), .val (.int (Int32.ofNat (Q + 1))), .val (.ref b101), .unset] [.null, (.ref b101)])) (fun t_ k_ => XS.aconstNull XJ.here hx rfl (hb hby at_80) k_) ?_
      refine Go.by (T' := T) (g' := (mkF m 82 #[.val (.long hh_), .second, .val (.long y0), .second, .val (.long y1), .second, .val (.long y2), .second, .val (.int sh), .val (.int (Int32.ofNat U)), .val (.int (Int32.ofNat K)), .val (.int (Int32.ofNat (Q + 1))), .val (.ref b101), .unset] [.null, .null, (.ref b101)])) (fun t_ k_ => XS.aconstNull XJ.here hx rfl (hb hby at_81) k_) ?_
      refine Go.by (T' := T) (g' := (mkF m 83 #[.val (.long hh_), .second, .val (.long y0), .second, .val (.long y1), .second, .val (.long y2), .second, .val (.int sh), .val (.int (Int32.ofNat U)), .val (.int (Int32.ofNat K)), .val (.int (Int32.ofNat (Q + 1))), .val (.ref b101), .unset] [(.long y0), .null, .null, (.ref b101)])) (fun t_ k_ => XS.lloadN XJ.here hx rfl (hb hby at_82) rfl k_) ?_
      have hcc := hc
      obtain ⟨cq110, kq110, q110a, q110b, q110c⟩ := isOf hZ eJ FJ0
      obtain ⟨_, _, ⟨T110, L110, k110, n110⟩, -, X110, ⟨Lc110, hQ110, l110, y110, z110⟩, st110⟩ := XJ.virtualBack hx (y := (⟨"com/example/tidegate/tidegate/Batch", "add", "(Ljava/lang/Object;Ljava/util/concurrent/CompletableFuture;J)V"⟩ : MethodName)) (z := (⟨"com/example/tidegate/tidegate/Batch", "add", "(Ljava/lang/Object;Ljava/util/concurrent/CompletableFuture;J)V"⟩ : MethodName)) hown (mvT hZ (hw _ (List.mem_of_getElem? (i := 113) rfl))) (mvT hZ (hw _ (List.mem_of_getElem? (i := 114) rfl))) (notFace_of_selects (args := #[]) (mvT hZ (hw _ (List.mem_of_getElem? (i := 116) rfl)))) (mvT hZ (hw _ (List.mem_of_getElem? (i := 116) rfl))) (mvT hZ (hw _ (List.mem_of_getElem? (i := 115) rfl))) (by decide) (backOf (W := 0) (rm_t0 l Z a0 hw [] b101 l1_109 l2_109 e1 e2 n c1 c2 m1 m2 k1 k2 mr (Q + 1) y0 (0 : Int32) h n0 OJ FJ0 FJ1 FJ2 FJ3 FJ4 FJ5 FJ6 FJ7 FJ8 FJ9 FJ10 FJ11 FJ12 FJ13 FJ14 FJ15 FJ16 FJ17 ge_b101 ge_l1_109 ge_l2_109 ge_e1 ge_e2 ne_b101_l1_109 ne_b101_l2_109 nj0 nj1 G109_4 nj2 nj3 nj4 nj5 nj6 (by omega) (by omega) (by omega) (by omega) (by omega) (by omega) (by omega) hM (by omega) (by omega)) hZ (hw _ (List.mem_of_getElem? (i := 117) rfl)) (hw _ (List.mem_of_getElem? (i := 2) rfl)) (by decide) (by decide)) q110a q110c (g := (mkF m 83 #[.val (.long hh_), .second, .val (.long y0), .second, .val (.long y1), .second, .val (.long y2), .second, .val (.int sh), .val (.int (Int32.ofNat U)), .val (.int (Int32.ofNat K)), .val (.int (Int32.ofNat (Q + 1))), .val (.ref b101), .unset] [(.long y0), .null, .null, (.ref b101)])) rfl (by rw [hml]; rfl) (Steps.refl _) (argsL := [.null, .null, (.long y0)]) (rest := []) (lenOf pd_13 rfl) rfl (by show 2 * 0 + _ ≤ _; exact Nat.le_of_eq rfl) (hb hby at_83) (fun _ _ => ⟨rfl, eJ, (by decide : 11 + 3 ≤ _), (by decide : 61 + 18 ≤ _)⟩)
      dsimp only [Pt.U, Pt.locs, Pt.cells, Pt.slots] at X110 l110 y110 z110 st110 hQ110
      subst l110 y110 z110
      obtain ⟨f1_110, f2_110, d1_110, d2_110, r1_110, r2_110, j1_110, j2_110, aa_110, ka_110, rfl, N110q, K110, G110_0, G110_1, G110_2, G110_3, G110_4, G110_5, G110_6, G110_7, G110_8, G110_9, G110_10, G110_11, G110_12, G110_13, G110_14, G110_15, G110_16, G110_17, G110_18, G110_19, G110_20, G110_21, G110_22, G110_23, G110_24, G110_25, G110_26, G110_27, G110_28, G110_29⟩ := hQ110
      have N110 := Fr.app NJ N110q
      have ge_aa_110 : n0 ≤ aa_110 := Nat.le_trans OJ.sz G110_8
      have sz_aa_110 : h0.size ≤ aa_110 := Nat.le_trans KJ.1 G110_8
      have ne_b101_aa_110 : ¬ (b101 = aa_110) := Nat.ne_of_lt (Nat.lt_of_lt_of_le FJ0.lt G110_8)
      have ne_l1_109_aa_110 : ¬ (l1_109 = aa_110) := Nat.ne_of_lt (Nat.lt_of_lt_of_le FJ6.lt G110_8)
      have ne_e1_aa_110 : ¬ (e1 = aa_110) := Nat.ne_of_lt (Nat.lt_of_lt_of_le FJ10.lt G110_8)
      have ne_l2_109_aa_110 : ¬ (l2_109 = aa_110) := Nat.ne_of_lt (Nat.lt_of_lt_of_le FJ12.lt G110_8)
      have ne_e2_aa_110 : ¬ (e2 = aa_110) := Nat.ne_of_lt (Nat.lt_of_lt_of_le FJ16.lt G110_8)
      have ge_f1_110 : n0 ≤ f1_110 := G110_0.elim (fun q => q.symm ▸ ge_e1) (fun q => Nat.le_trans OJ.sz q)
      have sz_f1_110 : h0.size ≤ f1_110 := G110_0.elim (fun q => q.symm ▸ sz_e1) (fun q => Nat.le_trans KJ.1 q)
      have fo_f1_110 : f1_110 = e1 ∨ h0.size ≤ f1_110 := G110_0.imp id (fun q => Nat.le_trans KJ.1 q)
      have ne_b101_f1_110 : ¬ (b101 = f1_110) := fun r => G110_0.elim (fun q => nj0 (r.trans q)) (fun q => Nat.ne_of_lt (Nat.lt_of_lt_of_le FJ0.lt q) r)
      have ne_l1_109_f1_110 : ¬ (l1_109 = f1_110) := fun r => G110_0.elim (fun q => nj2 (r.trans q)) (fun q => Nat.ne_of_lt (Nat.lt_of_lt_of_le FJ6.lt q) r)
      have ne_l2_109_f1_110 : ¬ (l2_109 = f1_110) := fun r => G110_0.elim (fun q => nj4 (r.trans q)) (fun q => Nat.ne_of_lt (Nat.lt_of_lt_of_le FJ12.lt q) r)
      have ne_e2_f1_110 : ¬ (e2 = f1_110) := fun r => G110_0.elim (fun q => (Ne.symm nj6) (r.trans q)) (fun q => Nat.ne_of_lt (Nat.lt_of_lt_of_le FJ16.lt q) r)
      have ge_f2_110 : n0 ≤ f2_110 := G110_1.elim (fun q => q.symm ▸ ge_e2) (fun q => Nat.le_trans OJ.sz q)
      have sz_f2_110 : h0.size ≤ f2_110 := G110_1.elim (fun q => q.symm ▸ sz_e2) (fun q => Nat.le_trans KJ.1 q)
      have fo_f2_110 : f2_110 = e2 ∨ h0.size ≤ f2_110 := G110_1.imp id (fun q => Nat.le_trans KJ.1 q)
      have ne_b101_f2_110 : ¬ (b101 = f2_110) := fun r => G110_1.elim (fun q => nj1 (r.trans q)) (fun q => Nat.ne_of_lt (Nat.lt_of_lt_of_le FJ0.lt q) r)
      have ne_l1_109_f2_110 : ¬ (l1_109 = f2_110) := fun r => G110_1.elim (fun q => nj3 (r.trans q)) (fun q => Nat.ne_of_lt (Nat.lt_of_lt_of_le FJ6.lt q) r)
      have ne_e1_f2_110 : ¬ (e1 = f2_110) := fun r => G110_1.elim (fun q => nj6 (r.trans q)) (fun q => Nat.ne_of_lt (Nat.lt_of_lt_of_le FJ10.lt q) r)
      have ne_l2_109_f2_110 : ¬ (l2_109 = f2_110) := fun r => G110_1.elim (fun q => nj5 (r.trans q)) (fun q => Nat.ne_of_lt (Nat.lt_of_lt_of_le FJ12.lt q) r)
      refine Go.by (T' := T110) (g' := (mkF m 86 #[.val (.long hh_), .second, .val (.long y0), .second, .val (.long y1), .second, .val (.long y2), .second, .val (.int sh), .val (.int (Int32.ofNat U)), .val (.int (Int32.ofNat K)), .val (.int (Int32.ofNat (Q + 1))), .val (.ref b101), .unset] [])) (fun t_ k_ => st110.trans k_) ?_
      refine Go.by (T' := T110) (g' := (mkF m 88 #[.val (.long hh_), .second, .val (.long y0), .second, .val (.long y1), .second, .val (.long y2), .second, .val (.int sh), .val (.int (Int32.ofNat U)), .val (.int (Int32.ofNat K)), .val (.int (Int32.ofNat (Q + 1))), .val (.ref b101), .unset] [(.int (Int32.ofNat K))])) (fun t_ k_ => XS.iload X110.here hx rfl (hb hby at_86) rfl k_) ?_
      refine Go.by (T' := T110) (g' := (mkF m 89 #[.val (.long hh_), .second, .val (.long y0), .second, .val (.long y1), .second, .val (.long y2), .second, .val (.int sh), .val (.int (Int32.ofNat U)), .val (.int (Int32.ofNat K)), .val (.int (Int32.ofNat (Q + 1))), .val (.ref b101), .unset] [(.int (1 : Int32)), (.int (Int32.ofNat K))])) (fun t_ k_ => XS.iconst X110.here hx rfl (hb hby at_88) k_) ?_
      by_cases hk1 : 1 < K
      · skip
        refine Go.by (T' := T110) (g' := (mkF m 92 #[.val (.long hh_), .second, .val (.long y0), .second, .val (.long y1), .second, .val (.long y2), .second, .val (.int sh), .val (.int (Int32.ofNat U)), .val (.int (Int32.ofNat K)), .val (.int (Int32.ofNat (Q + 1))), .val (.ref b101), .unset] [])) (fun t_ k_ => XS.icmpNo X110.here hx rfl (hb hby at_89) rfl (tlt (by rw [show (1 : Int32) = Int32.ofNat 1 from rfl, own_lt (by omega) (by omega)]; exact hk1)).2.2.2 k_) ?_
        refine Go.by (T' := T110) (g' := (mkF m 94 #[.val (.long hh_), .second, .val (.long y0), .second, .val (.long y1), .second, .val (.long y2), .second, .val (.int sh), .val (.int (Int32.ofNat U)), .val (.int (Int32.ofNat K)), .val (.int (Int32.ofNat (Q + 1))), .val (.ref b101), .unset] [(.ref b101)])) (fun t_ k_ => XS.aload X110.here hx rfl (hb hby at_92) rfl rfl k_) ?_
        refine Go.by (T' := T110) (g' := (mkF m 95 #[.val (.long hh_), .second, .val (.long y0), .second, .val (.long y1), .second, .val (.long y2), .second, .val (.int sh), .val (.int (Int32.ofNat U)), .val (.int (Int32.ofNat K)), .val (.int (Int32.ofNat (Q + 1))), .val (.ref b101), .unset] [.null, (.ref b101)])) (fun t_ k_ => XS.aconstNull X110.here hx rfl (hb hby at_94) k_) ?_
        refine Go.by (T' := T110) (g' := (mkF m 96 #[.val (.long hh_), .second, .val (.long y0), .second, .val (.long y1), .second, .val (.long y2), .second, .val (.int sh), .val (.int (Int32.ofNat U)), .val (.int (Int32.ofNat K)), .val (.int (Int32.ofNat (Q + 1))), .val (.ref b101), .unset] [.null, .null, (.ref b101)])) (fun t_ k_ => XS.aconstNull X110.here hx rfl (hb hby at_95) k_) ?_
        refine Go.by (T' := T110) (g' := (mkF m 98 #[.val (.long hh_), .second, .val (.long y0), .second, .val (.long y1), .second, .val (.long y2), .second, .val (.int sh), .val (.int (Int32.ofNat U)), .val (.int (Int32.ofNat K)), .val (.int (Int32.ofNat (Q + 1))), .val (.ref b101), .unset] [(.long y1), .null, .null, (.ref b101)])) (fun t_ k_ => XS.lload X110.here hx rfl (hb hby at_96) rfl k_) ?_
        have hcc := G110_7
        have hll := (trivial : True)
        have Od111 : Old Z n0 T110.heap := (OJ.keep K110 (allS ge_b101 (allS ge_l1_109 (allS ge_e1 (allS ge_l2_109 (allS ge_e2 all0))))))
        have Kp112 : Keep h0 T110.heap [] := (KJ.trans K110 (allS (Or.inr sz_b101) (allS (Or.inr sz_l1_109) (allS (Or.inr sz_e1) (allS (Or.inr sz_l2_109) (allS (Or.inr sz_e2) all0))))))
        obtain ⟨cq113, kq113, q113a, q113b, q113c⟩ := isOf hZ rfl G110_11
        obtain ⟨_, _, ⟨T113, L113, k113, n113⟩, -, X113, ⟨Lc113, hQ113, l113, y113, z113⟩, st113⟩ := X110.virtualBack hx (y := (⟨"com/example/tidegate/tidegate/Batch", "add", "(Ljava/lang/Object;Ljava/util/concurrent/CompletableFuture;J)V"⟩ : MethodName)) (z := (⟨"com/example/tidegate/tidegate/Batch", "add", "(Ljava/lang/Object;Ljava/util/concurrent/CompletableFuture;J)V"⟩ : MethodName)) hown (mvT hZ (hw _ (List.mem_of_getElem? (i := 113) rfl))) (mvT hZ (hw _ (List.mem_of_getElem? (i := 114) rfl))) (notFace_of_selects (args := #[]) (mvT hZ (hw _ (List.mem_of_getElem? (i := 116) rfl)))) (mvT hZ (hw _ (List.mem_of_getElem? (i := 116) rfl))) (mvT hZ (hw _ (List.mem_of_getElem? (i := 115) rfl))) (by decide) (backOf (W := 0) (rm_t1 l Z a0 hw [] b101 l1_109 l2_109 f1_110 f2_110 (n + 1) d1_110 d2_110 r1_110 r2_110 j1_110 j2_110 mr (Q + 1) y1 n aa_110 ka_110 (Q + 1) y0 T110.heap n0 Od111 G110_11 G110_12 G110_13 G110_14 G110_15 G110_16 G110_17 G110_18 G110_19 G110_20 G110_21 G110_22 G110_23 G110_24 G110_25 G110_26 G110_27 G110_28 G110_29 ge_b101 ge_l1_109 ge_l2_109 ge_f1_110 ge_f2_110 ge_aa_110 ne_b101_l1_109 ne_b101_l2_109 ne_b101_f1_110 ne_b101_f2_110 G109_4 G110_2 G110_4 G110_5 G110_3 G110_6 ne_b101_aa_110 ne_l1_109_aa_110 ne_l2_109_aa_110 (Ne.symm G110_9) (Ne.symm G110_10) (by omega) (by omega) (by omega) (by omega) (by omega) (by omega) (by omega) hM (by omega) (by omega) (by omega)) hZ (hw _ (List.mem_of_getElem? (i := 117) rfl)) (hw _ (List.mem_of_getElem? (i := 2) rfl)) (by decide) (by decide)) q113a q113c (g := (mkF m 98 #[.val (.long hh_), .second, .val (.long y0), .second, .val (.long y1), .second, .val (.long y2), .second, .val (.int sh), .val (.int (Int32.ofNat U)), .val (.int (Int32.ofNat K)), .val (.int (Int32.ofNat (Q + 1))), .val (.ref b101), .unset] [(.long y1), .null, .null, (.ref b101)])) rfl (by rw [hml]; rfl) (Steps.refl _) (argsL := [.null, .null, (.long y1)]) (rest := []) (lenOf pd_13 rfl) rfl (by show 2 * 0 + _ ≤ _; exact Nat.le_of_eq rfl) (hb hby at_98) (fun _ _ => ⟨rfl, rfl, (by decide : 14 + 3 ≤ _), (by decide : 79 + 18 ≤ _)⟩)
        dsimp only [Pt.U, Pt.locs, Pt.cells, Pt.slots] at X113 l113 y113 z113 st113 hQ113
        subst l113 y113 z113
        obtain ⟨f1_113, f2_113, d1_113, d2_113, r1_113, r2_113, j1_113, j2_113, a2_113, ka2_113, ln2_113, rfl, N113q, K113, G113_0, G113_1, G113_2, G113_3, G113_4, G113_5, G113_6, G113_7, G113_8, G113_9, G113_10, G113_11, G113_12, G113_13, G113_14, G113_15, G113_16, G113_17, G113_18, G113_19, G113_20, G113_21, G113_22, G113_23, G113_24, G113_25, G113_26, G113_27, G113_28, G113_29, G113_30, G113_31, G113_32, G113_33⟩ := hQ113
        have N113 := Fr.app N110 N113q
        have ge_f1_113 : n0 ≤ f1_113 := G113_0.elim (fun q => q.symm ▸ ge_f1_110) (fun q => Nat.le_trans Od111.sz q)
        have sz_f1_113 : h0.size ≤ f1_113 := G113_0.elim (fun q => q.symm ▸ sz_f1_110) (fun q => Nat.le_trans Kp112.1 q)
        have fo_f1_113 : f1_113 = f1_110 ∨ h0.size ≤ f1_113 := G113_0.imp id (fun q => Nat.le_trans Kp112.1 q)
        have ne_b101_f1_113 : ¬ (b101 = f1_113) := fun r => G113_0.elim (fun q => ne_b101_f1_110 (r.trans q)) (fun q => Nat.ne_of_lt (Nat.lt_of_lt_of_le G110_11.lt q) r)
        have ne_l1_109_f1_113 : ¬ (l1_109 = f1_113) := fun r => G113_0.elim (fun q => G110_2 (r.trans q)) (fun q => Nat.ne_of_lt (Nat.lt_of_lt_of_le G110_17.lt q) r)
        have ne_l2_109_f1_113 : ¬ (l2_109 = f1_113) := fun r => G113_0.elim (fun q => G110_5 (r.trans q)) (fun q => Nat.ne_of_lt (Nat.lt_of_lt_of_le G110_23.lt q) r)
        have ne_f2_110_f1_113 : ¬ (f2_110 = f1_113) := fun r => G113_0.elim (fun q => (Ne.symm G110_6) (r.trans q)) (fun q => Nat.ne_of_lt (Nat.lt_of_lt_of_le G110_27.lt q) r)
        have ne_aa_110_f1_113 : ¬ (aa_110 = f1_113) := fun r => G113_0.elim (fun q => G110_9 (r.trans q)) (fun q => Nat.ne_of_lt (Nat.lt_of_lt_of_le G110_29.lt q) r)
        have ge_f2_113 : n0 ≤ f2_113 := G113_1.elim (fun q => q.symm ▸ ge_f2_110) (fun q => Nat.le_trans Od111.sz q)
        have sz_f2_113 : h0.size ≤ f2_113 := G113_1.elim (fun q => q.symm ▸ sz_f2_110) (fun q => Nat.le_trans Kp112.1 q)
        have fo_f2_113 : f2_113 = f2_110 ∨ h0.size ≤ f2_113 := G113_1.imp id (fun q => Nat.le_trans Kp112.1 q)
        have ne_b101_f2_113 : ¬ (b101 = f2_113) := fun r => G113_1.elim (fun q => ne_b101_f2_110 (r.trans q)) (fun q => Nat.ne_of_lt (Nat.lt_of_lt_of_le G110_11.lt q) r)
        have ne_l1_109_f2_113 : ¬ (l1_109 = f2_113) := fun r => G113_1.elim (fun q => G110_4 (r.trans q)) (fun q => Nat.ne_of_lt (Nat.lt_of_lt_of_le G110_17.lt q) r)
        have ne_l2_109_f2_113 : ¬ (l2_109 = f2_113) := fun r => G113_1.elim (fun q => G110_3 (r.trans q)) (fun q => Nat.ne_of_lt (Nat.lt_of_lt_of_le G110_23.lt q) r)
        have ne_f1_110_f2_113 : ¬ (f1_110 = f2_113) := fun r => G113_1.elim (fun q => G110_6 (r.trans q)) (fun q => Nat.ne_of_lt (Nat.lt_of_lt_of_le G110_21.lt q) r)
        have ne_aa_110_f2_113 : ¬ (aa_110 = f2_113) := fun r => G113_1.elim (fun q => G110_10 (r.trans q)) (fun q => Nat.ne_of_lt (Nat.lt_of_lt_of_le G110_29.lt q) r)
        have ge_a2_113 : n0 ≤ a2_113 := G113_8.elim (fun q => q.symm ▸ ge_aa_110) (fun q => Nat.le_trans Od111.sz q)
        have sz_a2_113 : h0.size ≤ a2_113 := G113_8.elim (fun q => q.symm ▸ sz_aa_110) (fun q => Nat.le_trans Kp112.1 q)
        have fo_a2_113 : a2_113 = aa_110 ∨ h0.size ≤ a2_113 := G113_8.imp id (fun q => Nat.le_trans Kp112.1 q)
        have ne_b101_a2_113 : ¬ (b101 = a2_113) := fun r => G113_8.elim (fun q => ne_b101_aa_110 (r.trans q)) (fun q => Nat.ne_of_lt (Nat.lt_of_lt_of_le G110_11.lt q) r)
        have ne_l1_109_a2_113 : ¬ (l1_109 = a2_113) := fun r => G113_8.elim (fun q => ne_l1_109_aa_110 (r.trans q)) (fun q => Nat.ne_of_lt (Nat.lt_of_lt_of_le G110_17.lt q) r)
        have ne_l2_109_a2_113 : ¬ (l2_109 = a2_113) := fun r => G113_8.elim (fun q => ne_l2_109_aa_110 (r.trans q)) (fun q => Nat.ne_of_lt (Nat.lt_of_lt_of_le G110_23.lt q) r)
        have ne_f1_110_a2_113 : ¬ (f1_110 = a2_113) := fun r => G113_8.elim (fun q => (Ne.symm G110_9) (r.trans q)) (fun q => Nat.ne_of_lt (Nat.lt_of_lt_of_le G110_21.lt q) r)
        have ne_f2_110_a2_113 : ¬ (f2_110 = a2_113) := fun r => G113_8.elim (fun q => (Ne.symm G110_10) (r.trans q)) (fun q => Nat.ne_of_lt (Nat.lt_of_lt_of_le G110_27.lt q) r)
        refine Go.by (T' := T113) (g' := (mkF m 101 #[.val (.long hh_), .second, .val (.long y0), .second, .val (.long y1), .second, .val (.long y2), .second, .val (.int sh), .val (.int (Int32.ofNat U)), .val (.int (Int32.ofNat K)), .val (.int (Int32.ofNat (Q + 1))), .val (.ref b101), .unset] [])) (fun t_ k_ => st113.trans k_) ?_
        refine Go.by (T' := T113) (g' := (mkF m 103 #[.val (.long hh_), .second, .val (.long y0), .second, .val (.long y1), .second, .val (.long y2), .second, .val (.int sh), .val (.int (Int32.ofNat U)), .val (.int (Int32.ofNat K)), .val (.int (Int32.ofNat (Q + 1))), .val (.ref b101), .unset] [(.int (Int32.ofNat K))])) (fun t_ k_ => XS.iload X113.here hx rfl (hb hby at_101) rfl k_) ?_
        refine Go.by (T' := T113) (g' := (mkF m 104 #[.val (.long hh_), .second, .val (.long y0), .second, .val (.long y1), .second, .val (.long y2), .second, .val (.int sh), .val (.int (Int32.ofNat U)), .val (.int (Int32.ofNat K)), .val (.int (Int32.ofNat (Q + 1))), .val (.ref b101), .unset] [(.int (2 : Int32)), (.int (Int32.ofNat K))])) (fun t_ k_ => XS.iconst X113.here hx rfl (hb hby at_103) k_) ?_
        by_cases hk2 : 2 < K
        · skip
          refine Go.by (T' := T113) (g' := (mkF m 107 #[.val (.long hh_), .second, .val (.long y0), .second, .val (.long y1), .second, .val (.long y2), .second, .val (.int sh), .val (.int (Int32.ofNat U)), .val (.int (Int32.ofNat K)), .val (.int (Int32.ofNat (Q + 1))), .val (.ref b101), .unset] [])) (fun t_ k_ => XS.icmpNo X113.here hx rfl (hb hby at_104) rfl (tlt (by rw [show (2 : Int32) = Int32.ofNat 2 from rfl, own_lt (by omega) (by omega)]; exact hk2)).2.2.2 k_) ?_
          refine Go.by (T' := T113) (g' := (mkF m 109 #[.val (.long hh_), .second, .val (.long y0), .second, .val (.long y1), .second, .val (.long y2), .second, .val (.int sh), .val (.int (Int32.ofNat U)), .val (.int (Int32.ofNat K)), .val (.int (Int32.ofNat (Q + 1))), .val (.ref b101), .unset] [(.ref b101)])) (fun t_ k_ => XS.aload X113.here hx rfl (hb hby at_107) rfl rfl k_) ?_
          refine Go.by (T' := T113) (g' := (mkF m 110 #[.val (.long hh_), .second, .val (.long y0), .second, .val (.long y1), .second, .val (.long y2), .second, .val (.int sh), .val (.int (Int32.ofNat U)), .val (.int (Int32.ofNat K)), .val (.int (Int32.ofNat (Q + 1))), .val (.ref b101), .unset] [.null, (.ref b101)])) (fun t_ k_ => XS.aconstNull X113.here hx rfl (hb hby at_109) k_) ?_
          refine Go.by (T' := T113) (g' := (mkF m 111 #[.val (.long hh_), .second, .val (.long y0), .second, .val (.long y1), .second, .val (.long y2), .second, .val (.int sh), .val (.int (Int32.ofNat U)), .val (.int (Int32.ofNat K)), .val (.int (Int32.ofNat (Q + 1))), .val (.ref b101), .unset] [.null, .null, (.ref b101)])) (fun t_ k_ => XS.aconstNull X113.here hx rfl (hb hby at_110) k_) ?_
          refine Go.by (T' := T113) (g' := (mkF m 113 #[.val (.long hh_), .second, .val (.long y0), .second, .val (.long y1), .second, .val (.long y2), .second, .val (.int sh), .val (.int (Int32.ofNat U)), .val (.int (Int32.ofNat K)), .val (.int (Int32.ofNat (Q + 1))), .val (.ref b101), .unset] [(.long y2), .null, .null, (.ref b101)])) (fun t_ k_ => XS.lload X113.here hx rfl (hb hby at_111) rfl k_) ?_
          have hcc := G113_7
          have hll := G113_14
          have Od114 : Old Z n0 T113.heap := (Od111.keep K113 (allS ge_b101 (allS ge_l1_109 (allS ge_f1_110 (allS ge_l2_109 (allS ge_f2_110 (allS ge_aa_110 all0)))))))
          have Kp115 : Keep h0 T113.heap [] := (Kp112.trans K113 (allS (Or.inr sz_b101) (allS (Or.inr sz_l1_109) (allS (Or.inr sz_f1_110) (allS (Or.inr sz_l2_109) (allS (Or.inr sz_f2_110) (allS (Or.inr sz_aa_110) all0)))))))
          obtain ⟨cq116, kq116, q116a, q116b, q116c⟩ := isOf hZ rfl G113_15
          obtain ⟨_, _, ⟨T116, L116, k116, n116⟩, -, X116, ⟨Lc116, hQ116, l116, y116, z116⟩, st116⟩ := X113.virtualBack hx (y := (⟨"com/example/tidegate/tidegate/Batch", "add", "(Ljava/lang/Object;Ljava/util/concurrent/CompletableFuture;J)V"⟩ : MethodName)) (z := (⟨"com/example/tidegate/tidegate/Batch", "add", "(Ljava/lang/Object;Ljava/util/concurrent/CompletableFuture;J)V"⟩ : MethodName)) hown (mvT hZ (hw _ (List.mem_of_getElem? (i := 113) rfl))) (mvT hZ (hw _ (List.mem_of_getElem? (i := 114) rfl))) (notFace_of_selects (args := #[]) (mvT hZ (hw _ (List.mem_of_getElem? (i := 116) rfl)))) (mvT hZ (hw _ (List.mem_of_getElem? (i := 116) rfl))) (mvT hZ (hw _ (List.mem_of_getElem? (i := 115) rfl))) (by decide) (backOf (W := 0) (rm_t2 l Z a0 hw [] b101 l1_109 l2_109 f1_113 f2_113 ((n + 1) + 1) d1_113 d2_113 r1_113 r2_113 j1_113 j2_113 mr (Q + 1) y2 n a2_113 ka2_113 ln2_113 y0 y1 T113.heap n0 Od114 G113_15 G113_16 G113_17 G113_18 G113_19 G113_20 G113_21 G113_22 G113_23 G113_24 G113_25 G113_26 G113_27 G113_28 G113_29 G113_30 G113_31 G113_32 G113_33 ge_b101 ge_l1_109 ge_l2_109 ge_f1_113 ge_f2_113 ge_a2_113 ne_b101_l1_109 ne_b101_l2_109 ne_b101_f1_113 ne_b101_f2_113 G109_4 G113_2 G113_4 G113_5 G113_3 G113_6 (Ne.symm G113_9) (Ne.symm G113_10) (Ne.symm G113_11) (Ne.symm G113_12) (Ne.symm G113_13) (by omega) (by omega) (by omega) (by omega) (by omega) (by omega) (by omega) hM (by omega) (by omega) (by omega)) hZ (hw _ (List.mem_of_getElem? (i := 117) rfl)) (hw _ (List.mem_of_getElem? (i := 2) rfl)) (by decide) (by decide)) q116a q116c (g := (mkF m 113 #[.val (.long hh_), .second, .val (.long y0), .second, .val (.long y1), .second, .val (.long y2), .second, .val (.int sh), .val (.int (Int32.ofNat U)), .val (.int (Int32.ofNat K)), .val (.int (Int32.ofNat (Q + 1))), .val (.ref b101), .unset] [(.long y2), .null, .null, (.ref b101)])) rfl (by rw [hml]; rfl) (Steps.refl _) (argsL := [.null, .null, (.long y2)]) (rest := []) (lenOf pd_13 rfl) rfl (by show 2 * 0 + _ ≤ _; exact Nat.le_of_eq rfl) (hb hby at_113) (fun _ _ => ⟨rfl, rfl, (by decide : 17 + 3 ≤ _), (by decide : 97 + 18 ≤ _)⟩)
          dsimp only [Pt.U, Pt.locs, Pt.cells, Pt.slots] at X116 l116 y116 z116 st116 hQ116
          subst l116 y116 z116
          obtain ⟨f1_116, f2_116, d1_116, d2_116, r1_116, r2_116, j1_116, j2_116, a2_116, ka2_116, ln2_116, rfl, N116q, K116, G116_0, G116_1, G116_2, G116_3, G116_4, G116_5, G116_6, G116_7, G116_8, G116_9, G116_10, G116_11, G116_12, G116_13, G116_14, G116_15, G116_16, G116_17, G116_18, G116_19, G116_20, G116_21, G116_22, G116_23, G116_24, G116_25, G116_26, G116_27, G116_28, G116_29, G116_30, G116_31, G116_32, G116_33⟩ := hQ116
          have N116 := Fr.app N113 N116q
          have ge_f1_116 : n0 ≤ f1_116 := G116_0.elim (fun q => q.symm ▸ ge_f1_113) (fun q => Nat.le_trans Od114.sz q)
          have sz_f1_116 : h0.size ≤ f1_116 := G116_0.elim (fun q => q.symm ▸ sz_f1_113) (fun q => Nat.le_trans Kp115.1 q)
          have fo_f1_116 : f1_116 = f1_113 ∨ h0.size ≤ f1_116 := G116_0.imp id (fun q => Nat.le_trans Kp115.1 q)
          have ne_b101_f1_116 : ¬ (b101 = f1_116) := fun r => G116_0.elim (fun q => ne_b101_f1_113 (r.trans q)) (fun q => Nat.ne_of_lt (Nat.lt_of_lt_of_le G113_15.lt q) r)
          have ne_l1_109_f1_116 : ¬ (l1_109 = f1_116) := fun r => G116_0.elim (fun q => G113_2 (r.trans q)) (fun q => Nat.ne_of_lt (Nat.lt_of_lt_of_le G113_21.lt q) r)
          have ne_l2_109_f1_116 : ¬ (l2_109 = f1_116) := fun r => G116_0.elim (fun q => G113_5 (r.trans q)) (fun q => Nat.ne_of_lt (Nat.lt_of_lt_of_le G113_27.lt q) r)
          have ne_f2_113_f1_116 : ¬ (f2_113 = f1_116) := fun r => G116_0.elim (fun q => (Ne.symm G113_6) (r.trans q)) (fun q => Nat.ne_of_lt (Nat.lt_of_lt_of_le G113_31.lt q) r)
          have ne_a2_113_f1_116 : ¬ (a2_113 = f1_116) := fun r => G116_0.elim (fun q => G113_12 (r.trans q)) (fun q => Nat.ne_of_lt (Nat.lt_of_lt_of_le G113_33.lt q) r)
          have ge_f2_116 : n0 ≤ f2_116 := G116_1.elim (fun q => q.symm ▸ ge_f2_113) (fun q => Nat.le_trans Od114.sz q)
          have sz_f2_116 : h0.size ≤ f2_116 := G116_1.elim (fun q => q.symm ▸ sz_f2_113) (fun q => Nat.le_trans Kp115.1 q)
          have fo_f2_116 : f2_116 = f2_113 ∨ h0.size ≤ f2_116 := G116_1.imp id (fun q => Nat.le_trans Kp115.1 q)
          have ne_b101_f2_116 : ¬ (b101 = f2_116) := fun r => G116_1.elim (fun q => ne_b101_f2_113 (r.trans q)) (fun q => Nat.ne_of_lt (Nat.lt_of_lt_of_le G113_15.lt q) r)
          have ne_l1_109_f2_116 : ¬ (l1_109 = f2_116) := fun r => G116_1.elim (fun q => G113_4 (r.trans q)) (fun q => Nat.ne_of_lt (Nat.lt_of_lt_of_le G113_21.lt q) r)
          have ne_l2_109_f2_116 : ¬ (l2_109 = f2_116) := fun r => G116_1.elim (fun q => G113_3 (r.trans q)) (fun q => Nat.ne_of_lt (Nat.lt_of_lt_of_le G113_27.lt q) r)
          have ne_f1_113_f2_116 : ¬ (f1_113 = f2_116) := fun r => G116_1.elim (fun q => G113_6 (r.trans q)) (fun q => Nat.ne_of_lt (Nat.lt_of_lt_of_le G113_25.lt q) r)
          have ne_a2_113_f2_116 : ¬ (a2_113 = f2_116) := fun r => G116_1.elim (fun q => G113_13 (r.trans q)) (fun q => Nat.ne_of_lt (Nat.lt_of_lt_of_le G113_33.lt q) r)
          have ge_a2_116 : n0 ≤ a2_116 := G116_8.elim (fun q => q.symm ▸ ge_a2_113) (fun q => Nat.le_trans Od114.sz q)
          have sz_a2_116 : h0.size ≤ a2_116 := G116_8.elim (fun q => q.symm ▸ sz_a2_113) (fun q => Nat.le_trans Kp115.1 q)
          have fo_a2_116 : a2_116 = a2_113 ∨ h0.size ≤ a2_116 := G116_8.imp id (fun q => Nat.le_trans Kp115.1 q)
          have ne_b101_a2_116 : ¬ (b101 = a2_116) := fun r => G116_8.elim (fun q => (Ne.symm G113_9) (r.trans q)) (fun q => Nat.ne_of_lt (Nat.lt_of_lt_of_le G113_15.lt q) r)
          have ne_l1_109_a2_116 : ¬ (l1_109 = a2_116) := fun r => G116_8.elim (fun q => (Ne.symm G113_10) (r.trans q)) (fun q => Nat.ne_of_lt (Nat.lt_of_lt_of_le G113_21.lt q) r)
          have ne_l2_109_a2_116 : ¬ (l2_109 = a2_116) := fun r => G116_8.elim (fun q => (Ne.symm G113_11) (r.trans q)) (fun q => Nat.ne_of_lt (Nat.lt_of_lt_of_le G113_27.lt q) r)
          have ne_f1_113_a2_116 : ¬ (f1_113 = a2_116) := fun r => G116_8.elim (fun q => (Ne.symm G113_12) (r.trans q)) (fun q => Nat.ne_of_lt (Nat.lt_of_lt_of_le G113_25.lt q) r)
          have ne_f2_113_a2_116 : ¬ (f2_113 = a2_116) := fun r => G116_8.elim (fun q => (Ne.symm G113_13) (r.trans q)) (fun q => Nat.ne_of_lt (Nat.lt_of_lt_of_le G113_31.lt q) r)
          refine Go.by (T' := T116) (g' := (mkF m 116 #[.val (.long hh_), .second, .val (.long y0), .second, .val (.long y1), .second, .val (.long y2), .second, .val (.int sh), .val (.int (Int32.ofNat U)), .val (.int (Int32.ofNat K)), .val (.int (Int32.ofNat (Q + 1))), .val (.ref b101), .unset] [])) (fun t_ k_ => st116.trans k_) ?_
          refine Go.by (T' := T116) (g' := (mkF m 118 #[.val (.long hh_), .second, .val (.long y0), .second, .val (.long y1), .second, .val (.long y2), .second, .val (.int sh), .val (.int (Int32.ofNat U)), .val (.int (Int32.ofNat K)), .val (.int (Int32.ofNat (Q + 1))), .val (.ref b101), .unset] [(.ref b101)])) (fun t_ k_ => XS.aload X116.here hx rfl (hb hby at_116) rfl rfl k_) ?_
          refine Go.by (T' := T116) (g' := (mkF m 119 #[.val (.long hh_), .second, .val (.long y0), .second, .val (.long y1), .second, .val (.long y2), .second, .val (.int sh), .val (.int (Int32.ofNat U)), .val (.int (Int32.ofNat K)), .val (.int (Int32.ofNat (Q + 1))), .val (.ref b101), .unset] [(.long hh_), (.ref b101)])) (fun t_ k_ => XS.lloadN X116.here hx rfl (hb hby at_118) rfl k_) ?_
          have Od117 : Old Z n0 T116.heap := (Od114.keep K116 (allS ge_b101 (allS ge_l1_109 (allS ge_f1_113 (allS ge_l2_109 (allS ge_f2_113 (allS ge_a2_113 all0)))))))
          obtain ⟨cq118, kq118, q118a, q118b, q118c⟩ := isOf hZ rfl G116_15
          obtain ⟨_, _, ⟨T118, L118, k118, n118⟩, -, X118, ⟨Lc118, hQ118, l118, y118, z118⟩, st118⟩ := X116.virtualBack hx (y := (⟨"com/example/tidegate/tidegate/Batch", "waits", "(J)[J"⟩ : MethodName)) (z := (⟨"com/example/tidegate/tidegate/Batch", "waits", "(J)[J"⟩ : MethodName)) hown (mvT hZ (hw _ (List.mem_of_getElem? (i := 104) rfl))) (mvT hZ (hw _ (List.mem_of_getElem? (i := 105) rfl))) (notFace_of_selects (args := #[]) (mvT hZ (hw _ (List.mem_of_getElem? (i := 107) rfl)))) (mvT hZ (hw _ (List.mem_of_getElem? (i := 107) rfl))) (mvT hZ (hw _ (List.mem_of_getElem? (i := 106) rfl))) (by decide) (backOf (W := 0) (rm_w3 l Z a0 hw [] b101 hh_ nt l2_109 (((n + 1) + 1) + 1) n a2_116 ka2_116 ln2_116 y0 y1 y2 T116.heap n0 Od117 G116_15 G116_18 G116_19 G116_20 G116_27 G116_30 G116_33 P0 (by omega) (by omega) (by have := G116_14; omega) (by have := G116_14; omega)) hZ (hw _ (List.mem_of_getElem? (i := 108) rfl)) (hw _ (List.mem_of_getElem? (i := 2) rfl)) (by decide) (by decide)) q118a q118c (g := (mkF m 119 #[.val (.long hh_), .second, .val (.long y0), .second, .val (.long y1), .second, .val (.long y2), .second, .val (.int sh), .val (.int (Int32.ofNat U)), .val (.int (Int32.ofNat K)), .val (.int (Int32.ofNat (Q + 1))), .val (.ref b101), .unset] [(.long hh_), (.ref b101)])) rfl (by rw [hml]; rfl) (Steps.refl _) (argsL := [(.long hh_)]) (rest := []) (lenOf pd_14 rfl) rfl (by show 2 * 0 + _ ≤ _; exact Nat.le_of_eq rfl) (hb hby at_119) (fun _ _ => ⟨rfl, rfl, (by decide : 20 + 1 ≤ _), (by decide : 115 + 3 ≤ _)⟩)
          dsimp only [Pt.U, Pt.locs, Pt.cells, Pt.slots] at X118 l118 y118 z118 st118 hQ118
          subst l118 y118 z118
          obtain ⟨t_118, kt_118, rfl, N118q, K118, G118_0, G118_1⟩ := hQ118
          have N118 := Fr.app N116 N118q
          have ge_t_118 : n0 ≤ t_118 := Nat.le_trans Od117.sz G118_0
          have Kp119 : Keep h0 T116.heap [] := (Kp115.trans K116 (allS (Or.inr sz_b101) (allS (Or.inr sz_l1_109) (allS (Or.inr sz_f1_113) (allS (Or.inr sz_l2_109) (allS (Or.inr sz_f2_113) (allS (Or.inr sz_a2_113) all0)))))))
          have sz_t_118 : h0.size ≤ t_118 := Nat.le_trans Kp119.1 G118_0
          have ne_b101_t_118 : ¬ (b101 = t_118) := Nat.ne_of_lt (Nat.lt_of_lt_of_le G116_15.lt G118_0)
          have ne_l1_109_t_118 : ¬ (l1_109 = t_118) := Nat.ne_of_lt (Nat.lt_of_lt_of_le G116_21.lt G118_0)
          have ne_l2_109_t_118 : ¬ (l2_109 = t_118) := Nat.ne_of_lt (Nat.lt_of_lt_of_le G116_27.lt G118_0)
          have ne_f1_116_t_118 : ¬ (f1_116 = t_118) := Nat.ne_of_lt (Nat.lt_of_lt_of_le G116_25.lt G118_0)
          have ne_f2_116_t_118 : ¬ (f2_116 = t_118) := Nat.ne_of_lt (Nat.lt_of_lt_of_le G116_31.lt G118_0)
          have ne_a2_116_t_118 : ¬ (a2_116 = t_118) := Nat.ne_of_lt (Nat.lt_of_lt_of_le G116_33.lt G118_0)
          refine Go.by (T' := T118) (g' := (mkF m 122 #[.val (.long hh_), .second, .val (.long y0), .second, .val (.long y1), .second, .val (.long y2), .second, .val (.int sh), .val (.int (Int32.ofNat U)), .val (.int (Int32.ofNat K)), .val (.int (Int32.ofNat (Q + 1))), .val (.ref b101), .unset] [(.ref t_118)])) (fun t_ k_ => st118.trans k_) ?_
          refine Go.by (T' := T118) (g' := (mkF m 124 #[.val (.long hh_), .second, .val (.long y0), .second, .val (.long y1), .second, .val (.long y2), .second, .val (.int sh), .val (.int (Int32.ofNat U)), .val (.int (Int32.ofNat K)), .val (.int (Int32.ofNat (Q + 1))), .val (.ref b101), .val (.ref t_118)] [])) (fun t_ k_ => XS.astore X118.here hx rfl (hb hby at_122) rfl rfl (l' := #[.val (.long hh_), .second, .val (.long y0), .second, .val (.long y1), .second, .val (.long y2), .second, .val (.int sh), .val (.int (Int32.ofNat U)), .val (.int (Int32.ofNat K)), .val (.int (Int32.ofNat (Q + 1))), .val (.ref b101), .val (.ref t_118)]) rfl k_) ?_
          refine Go.by (T' := T118) (g' := (mkF m 126 #[.val (.long hh_), .second, .val (.long y0), .second, .val (.long y1), .second, .val (.long y2), .second, .val (.int sh), .val (.int (Int32.ofNat U)), .val (.int (Int32.ofNat K)), .val (.int (Int32.ofNat (Q + 1))), .val (.ref b101), .val (.ref t_118)] [(.ref t_118)])) (fun t_ k_ => XS.aload X118.here hx rfl (hb hby at_124) rfl rfl k_) ?_
          obtain ⟨cl120, Ar120, -, Sz120, Ng120, -, -⟩ := id G118_1
          refine Go.by (T' := T118) (g' := (mkF m 127 #[.val (.long hh_), .second, .val (.long y0), .second, .val (.long y1), .second, .val (.long y2), .second, .val (.int sh), .val (.int (Int32.ofNat U)), .val (.int (Int32.ofNat K)), .val (.int (Int32.ofNat (Q + 1))), .val (.ref b101), .val (.ref t_118)] [(.int (3 : Int32))])) (fun t_ k_ => X118.arraylength hx Ar120.1 (State.isArrayOf_alike hZ.alike Ar120.2.1) (g := (mkF m 126 #[.val (.long hh_), .second, .val (.long y0), .second, .val (.long y1), .second, .val (.long y2), .second, .val (.int sh), .val (.int (Int32.ofNat U)), .val (.int (Int32.ofNat K)), .val (.int (Int32.ofNat (Q + 1))), .val (.ref b101), .val (.ref t_118)] [(.ref t_118)])) rfl rfl (hb hby at_126) _ (by rw [len_of Sz120 Ng120]; exact k_)) ?_
          refine Go.by (T' := T118) (g' := (mkF m 129 #[.val (.long hh_), .second, .val (.long y0), .second, .val (.long y1), .second, .val (.long y2), .second, .val (.int sh), .val (.int (Int32.ofNat U)), .val (.int (Int32.ofNat K)), .val (.int (Int32.ofNat (Q + 1))), .val (.ref b101), .val (.ref t_118)] [(.int (Int32.ofNat K)), (.int (3 : Int32))])) (fun t_ k_ => XS.iload X118.here hx rfl (hb hby at_127) rfl k_) ?_
          refine Go.by (T' := T118) (g' := (mkF m 134 #[.val (.long hh_), .second, .val (.long y0), .second, .val (.long y1), .second, .val (.long y2), .second, .val (.int sh), .val (.int (Int32.ofNat U)), .val (.int (Int32.ofNat K)), .val (.int (Int32.ofNat (Q + 1))), .val (.ref b101), .val (.ref t_118)] [])) (fun t_ k_ => XS.icmpYes X118.here hx rfl (pc0 := 129) (pc' := 134) rfl (hb hby at_129) rfl (teq (by rw [show (3 : Int32) = Int32.ofNat 3 from rfl, own_inj (by omega) (by omega)]; omega)).1 (by decide) (by decide) k_) ?_
          refine Go.by (T' := T118) (g' := (mkF m 136 #[.val (.long hh_), .second, .val (.long y0), .second, .val (.long y1), .second, .val (.long y2), .second, .val (.int sh), .val (.int (Int32.ofNat U)), .val (.int (Int32.ofNat K)), .val (.int (Int32.ofNat (Q + 1))), .val (.ref b101), .val (.ref t_118)] [(.int (Int32.ofNat K))])) (fun t_ k_ => XS.iload X118.here hx rfl (hb hby at_134) rfl k_) ?_
          refine Go.by (T' := T118) (g' := (mkF m 139 #[.val (.long hh_), .second, .val (.long y0), .second, .val (.long y1), .second, .val (.long y2), .second, .val (.int sh), .val (.int (Int32.ofNat U)), .val (.int (Int32.ofNat K)), .val (.int (Int32.ofNat (Q + 1))), .val (.ref b101), .val (.ref t_118)] [])) (fun t_ k_ => XS.ifNo X118.here hx rfl (hb hby at_136) rfl ((if0 _ _).trans (tlt (by rw [show (0 : Int32) = Int32.ofNat 0 from rfl, own_lt (by omega) (by omega)]; omega)).2.2.2) k_) ?_
          refine Go.by (T' := T118) (g' := (mkF m 141 #[.val (.long hh_), .second, .val (.long y0), .second, .val (.long y1), .second, .val (.long y2), .second, .val (.int sh), .val (.int (Int32.ofNat U)), .val (.int (Int32.ofNat K)), .val (.int (Int32.ofNat (Q + 1))), .val (.ref b101), .val (.ref t_118)] [(.ref t_118)])) (fun t_ k_ => XS.aload X118.here hx rfl (hb hby at_139) rfl rfl k_) ?_
          refine Go.by (T' := T118) (g' := (mkF m 142 #[.val (.long hh_), .second, .val (.long y0), .second, .val (.long y1), .second, .val (.long y2), .second, .val (.int sh), .val (.int (Int32.ofNat U)), .val (.int (Int32.ofNat K)), .val (.int (Int32.ofNat (Q + 1))), .val (.ref b101), .val (.ref t_118)] [(.int (0 : Int32)), (.ref t_118)])) (fun t_ k_ => XS.iconst X118.here hx rfl (hb hby at_141) k_) ?_
          obtain ⟨cl121, Ar121, q121, Sz121, Ng121, Hs121, Gs121⟩ := id G118_1
          have in121 := inb_of (j := (0 : Int32)) Sz121 ⟨by decide, by decide⟩
          refine Go.by (T' := T118) (g' := (mkF m 143 #[.val (.long hh_), .second, .val (.long y0), .second, .val (.long y1), .second, .val (.long y2), .second, .val (.int sh), .val (.int (Int32.ofNat U)), .val (.int (Int32.ofNat K)), .val (.int (Int32.ofNat (Q + 1))), .val (.ref b101), .val (.ref t_118)] [(.long (hh_ - y0))])) (fun t_ k_ => X118.laload hx (j := (0 : Int32)) (v := (.long (hh_ - y0))) Ar121.1 (State.isArrayOf_alike hZ.alike Ar121.2.1) Ar121.2.2 in121 (Hs121.at in121 rfl) (g := (mkF m 142 #[.val (.long hh_), .second, .val (.long y0), .second, .val (.long y1), .second, .val (.long y2), .second, .val (.int sh), .val (.int (Int32.ofNat U)), .val (.int (Int32.ofNat K)), .val (.int (Int32.ofNat (Q + 1))), .val (.ref b101), .val (.ref t_118)] [(.int (0 : Int32)), (.ref t_118)])) rfl rfl (hb hby at_142) _ k_) ?_
          refine Go.by (T' := T118) (g' := (mkF m 144 #[.val (.long hh_), .second, .val (.long y0), .second, .val (.long y1), .second, .val (.long y2), .second, .val (.int sh), .val (.int (Int32.ofNat U)), .val (.int (Int32.ofNat K)), .val (.int (Int32.ofNat (Q + 1))), .val (.ref b101), .val (.ref t_118)] [(.long hh_), (.long (hh_ - y0))])) (fun t_ k_ => XS.lloadN X118.here hx rfl (hb hby at_143) rfl k_) ?_
          refine Go.by (T' := T118) (g' := (mkF m 145 #[.val (.long hh_), .second, .val (.long y0), .second, .val (.long y1), .second, .val (.long y2), .second, .val (.int sh), .val (.int (Int32.ofNat U)), .val (.int (Int32.ofNat K)), .val (.int (Int32.ofNat (Q + 1))), .val (.ref b101), .val (.ref t_118)] [(.long y0), (.long hh_), (.long (hh_ - y0))])) (fun t_ k_ => XS.lloadN X118.here hx rfl (hb hby at_144) rfl k_) ?_
          refine Go.by (T' := T118) (g' := (mkF m 146 #[.val (.long hh_), .second, .val (.long y0), .second, .val (.long y1), .second, .val (.long y2), .second, .val (.int sh), .val (.int (Int32.ofNat U)), .val (.int (Int32.ofNat K)), .val (.int (Int32.ofNat (Q + 1))), .val (.ref b101), .val (.ref t_118)] [(.long (hh_ - y0)), (.long (hh_ - y0))])) (fun t_ k_ => XS.lsub X118.here hx rfl (hb hby at_145) rfl k_) ?_
          refine Go.by (T' := T118) (g' := (mkF m 147 #[.val (.long hh_), .second, .val (.long y0), .second, .val (.long y1), .second, .val (.long y2), .second, .val (.int sh), .val (.int (Int32.ofNat U)), .val (.int (Int32.ofNat K)), .val (.int (Int32.ofNat (Q + 1))), .val (.ref b101), .val (.ref t_118)] [(.int (lcmpW (hh_ - y0) (hh_ - y0)))])) (fun t_ k_ => XS.lcmp X118.here hx rfl (hb hby at_146) rfl k_) ?_
          refine Go.by (T' := T118) (g' := (mkF m 152 #[.val (.long hh_), .second, .val (.long y0), .second, .val (.long y1), .second, .val (.long y2), .second, .val (.int sh), .val (.int (Int32.ofNat U)), .val (.int (Int32.ofNat K)), .val (.int (Int32.ofNat (Q + 1))), .val (.ref b101), .val (.ref t_118)] [])) (fun t_ k_ => XS.ifYes X118.here hx rfl (pc0 := 147) (pc' := 152) rfl (hb hby at_147) rfl ((if0 _ _).trans (teq (show (lcmpW (hh_ - y0) (hh_ - y0)) = (0 : Int32) from (lw_eq _ _).mpr rfl)).1) (by decide) (by decide) k_) ?_
          refine Go.by (T' := T118) (g' := (mkF m 154 #[.val (.long hh_), .second, .val (.long y0), .second, .val (.long y1), .second, .val (.long y2), .second, .val (.int sh), .val (.int (Int32.ofNat U)), .val (.int (Int32.ofNat K)), .val (.int (Int32.ofNat (Q + 1))), .val (.ref b101), .val (.ref t_118)] [(.int (Int32.ofNat K))])) (fun t_ k_ => XS.iload X118.here hx rfl (hb hby at_152) rfl k_) ?_
          refine Go.by (T' := T118) (g' := (mkF m 155 #[.val (.long hh_), .second, .val (.long y0), .second, .val (.long y1), .second, .val (.long y2), .second, .val (.int sh), .val (.int (Int32.ofNat U)), .val (.int (Int32.ofNat K)), .val (.int (Int32.ofNat (Q + 1))), .val (.ref b101), .val (.ref t_118)] [(.int (1 : Int32)), (.int (Int32.ofNat K))])) (fun t_ k_ => XS.iconst X118.here hx rfl (hb hby at_154) k_) ?_
          refine Go.by (T' := T118) (g' := (mkF m 158 #[.val (.long hh_), .second, .val (.long y0), .second, .val (.long y1), .second, .val (.long y2), .second, .val (.int sh), .val (.int (Int32.ofNat U)), .val (.int (Int32.ofNat K)), .val (.int (Int32.ofNat (Q + 1))), .val (.ref b101), .val (.ref t_118)] [])) (fun t_ k_ => XS.icmpNo X118.here hx rfl (hb hby at_155) rfl (tlt (by rw [show (1 : Int32) = Int32.ofNat 1 from rfl, own_lt (by omega) (by omega)]; omega)).2.2.2 k_) ?_
          refine Go.by (T' := T118) (g' := (mkF m 160 #[.val (.long hh_), .second, .val (.long y0), .second, .val (.long y1), .second, .val (.long y2), .second, .val (.int sh), .val (.int (Int32.ofNat U)), .val (.int (Int32.ofNat K)), .val (.int (Int32.ofNat (Q + 1))), .val (.ref b101), .val (.ref t_118)] [(.ref t_118)])) (fun t_ k_ => XS.aload X118.here hx rfl (hb hby at_158) rfl rfl k_) ?_
          refine Go.by (T' := T118) (g' := (mkF m 161 #[.val (.long hh_), .second, .val (.long y0), .second, .val (.long y1), .second, .val (.long y2), .second, .val (.int sh), .val (.int (Int32.ofNat U)), .val (.int (Int32.ofNat K)), .val (.int (Int32.ofNat (Q + 1))), .val (.ref b101), .val (.ref t_118)] [(.int (1 : Int32)), (.ref t_118)])) (fun t_ k_ => XS.iconst X118.here hx rfl (hb hby at_160) k_) ?_
          obtain ⟨cl122, Ar122, q122, Sz122, Ng122, Hs122, Gs122⟩ := id G118_1
          have in122 := inb_of (j := (1 : Int32)) Sz122 ⟨by decide, by decide⟩
          refine Go.by (T' := T118) (g' := (mkF m 162 #[.val (.long hh_), .second, .val (.long y0), .second, .val (.long y1), .second, .val (.long y2), .second, .val (.int sh), .val (.int (Int32.ofNat U)), .val (.int (Int32.ofNat K)), .val (.int (Int32.ofNat (Q + 1))), .val (.ref b101), .val (.ref t_118)] [(.long (hh_ - y1))])) (fun t_ k_ => X118.laload hx (j := (1 : Int32)) (v := (.long (hh_ - y1))) Ar122.1 (State.isArrayOf_alike hZ.alike Ar122.2.1) Ar122.2.2 in122 (Hs122.at in122 rfl) (g := (mkF m 161 #[.val (.long hh_), .second, .val (.long y0), .second, .val (.long y1), .second, .val (.long y2), .second, .val (.int sh), .val (.int (Int32.ofNat U)), .val (.int (Int32.ofNat K)), .val (.int (Int32.ofNat (Q + 1))), .val (.ref b101), .val (.ref t_118)] [(.int (1 : Int32)), (.ref t_118)])) rfl rfl (hb hby at_161) _ k_) ?_
          refine Go.by (T' := T118) (g' := (mkF m 163 #[.val (.long hh_), .second, .val (.long y0), .second, .val (.long y1), .second, .val (.long y2), .second, .val (.int sh), .val (.int (Int32.ofNat U)), .val (.int (Int32.ofNat K)), .val (.int (Int32.ofNat (Q + 1))), .val (.ref b101), .val (.ref t_118)] [(.long hh_), (.long (hh_ - y1))])) (fun t_ k_ => XS.lloadN X118.here hx rfl (hb hby at_162) rfl k_) ?_
          refine Go.by (T' := T118) (g' := (mkF m 165 #[.val (.long hh_), .second, .val (.long y0), .second, .val (.long y1), .second, .val (.long y2), .second, .val (.int sh), .val (.int (Int32.ofNat U)), .val (.int (Int32.ofNat K)), .val (.int (Int32.ofNat (Q + 1))), .val (.ref b101), .val (.ref t_118)] [(.long y1), (.long hh_), (.long (hh_ - y1))])) (fun t_ k_ => XS.lload X118.here hx rfl (hb hby at_163) rfl k_) ?_
          refine Go.by (T' := T118) (g' := (mkF m 166 #[.val (.long hh_), .second, .val (.long y0), .second, .val (.long y1), .second, .val (.long y2), .second, .val (.int sh), .val (.int (Int32.ofNat U)), .val (.int (Int32.ofNat K)), .val (.int (Int32.ofNat (Q + 1))), .val (.ref b101), .val (.ref t_118)] [(.long (hh_ - y1)), (.long (hh_ - y1))])) (fun t_ k_ => XS.lsub X118.here hx rfl (hb hby at_165) rfl k_) ?_
          refine Go.by (T' := T118) (g' := (mkF m 167 #[.val (.long hh_), .second, .val (.long y0), .second, .val (.long y1), .second, .val (.long y2), .second, .val (.int sh), .val (.int (Int32.ofNat U)), .val (.int (Int32.ofNat K)), .val (.int (Int32.ofNat (Q + 1))), .val (.ref b101), .val (.ref t_118)] [(.int (lcmpW (hh_ - y1) (hh_ - y1)))])) (fun t_ k_ => XS.lcmp X118.here hx rfl (hb hby at_166) rfl k_) ?_
          refine Go.by (T' := T118) (g' := (mkF m 172 #[.val (.long hh_), .second, .val (.long y0), .second, .val (.long y1), .second, .val (.long y2), .second, .val (.int sh), .val (.int (Int32.ofNat U)), .val (.int (Int32.ofNat K)), .val (.int (Int32.ofNat (Q + 1))), .val (.ref b101), .val (.ref t_118)] [])) (fun t_ k_ => XS.ifYes X118.here hx rfl (pc0 := 167) (pc' := 172) rfl (hb hby at_167) rfl ((if0 _ _).trans (teq (show (lcmpW (hh_ - y1) (hh_ - y1)) = (0 : Int32) from (lw_eq _ _).mpr rfl)).1) (by decide) (by decide) k_) ?_
          refine Go.by (T' := T118) (g' := (mkF m 174 #[.val (.long hh_), .second, .val (.long y0), .second, .val (.long y1), .second, .val (.long y2), .second, .val (.int sh), .val (.int (Int32.ofNat U)), .val (.int (Int32.ofNat K)), .val (.int (Int32.ofNat (Q + 1))), .val (.ref b101), .val (.ref t_118)] [(.int (Int32.ofNat K))])) (fun t_ k_ => XS.iload X118.here hx rfl (hb hby at_172) rfl k_) ?_
          refine Go.by (T' := T118) (g' := (mkF m 175 #[.val (.long hh_), .second, .val (.long y0), .second, .val (.long y1), .second, .val (.long y2), .second, .val (.int sh), .val (.int (Int32.ofNat U)), .val (.int (Int32.ofNat K)), .val (.int (Int32.ofNat (Q + 1))), .val (.ref b101), .val (.ref t_118)] [(.int (2 : Int32)), (.int (Int32.ofNat K))])) (fun t_ k_ => XS.iconst X118.here hx rfl (hb hby at_174) k_) ?_
          refine Go.by (T' := T118) (g' := (mkF m 178 #[.val (.long hh_), .second, .val (.long y0), .second, .val (.long y1), .second, .val (.long y2), .second, .val (.int sh), .val (.int (Int32.ofNat U)), .val (.int (Int32.ofNat K)), .val (.int (Int32.ofNat (Q + 1))), .val (.ref b101), .val (.ref t_118)] [])) (fun t_ k_ => XS.icmpNo X118.here hx rfl (hb hby at_175) rfl (tlt (by rw [show (2 : Int32) = Int32.ofNat 2 from rfl, own_lt (by omega) (by omega)]; omega)).2.2.2 k_) ?_
          refine Go.by (T' := T118) (g' := (mkF m 180 #[.val (.long hh_), .second, .val (.long y0), .second, .val (.long y1), .second, .val (.long y2), .second, .val (.int sh), .val (.int (Int32.ofNat U)), .val (.int (Int32.ofNat K)), .val (.int (Int32.ofNat (Q + 1))), .val (.ref b101), .val (.ref t_118)] [(.ref t_118)])) (fun t_ k_ => XS.aload X118.here hx rfl (hb hby at_178) rfl rfl k_) ?_
          refine Go.by (T' := T118) (g' := (mkF m 181 #[.val (.long hh_), .second, .val (.long y0), .second, .val (.long y1), .second, .val (.long y2), .second, .val (.int sh), .val (.int (Int32.ofNat U)), .val (.int (Int32.ofNat K)), .val (.int (Int32.ofNat (Q + 1))), .val (.ref b101), .val (.ref t_118)] [(.int (2 : Int32)), (.ref t_118)])) (fun t_ k_ => XS.iconst X118.here hx rfl (hb hby at_180) k_) ?_
          obtain ⟨cl123, Ar123, q123, Sz123, Ng123, Hs123, Gs123⟩ := id G118_1
          have in123 := inb_of (j := (2 : Int32)) Sz123 ⟨by decide, by decide⟩
          refine Go.by (T' := T118) (g' := (mkF m 182 #[.val (.long hh_), .second, .val (.long y0), .second, .val (.long y1), .second, .val (.long y2), .second, .val (.int sh), .val (.int (Int32.ofNat U)), .val (.int (Int32.ofNat K)), .val (.int (Int32.ofNat (Q + 1))), .val (.ref b101), .val (.ref t_118)] [(.long (hh_ - y2))])) (fun t_ k_ => X118.laload hx (j := (2 : Int32)) (v := (.long (hh_ - y2))) Ar123.1 (State.isArrayOf_alike hZ.alike Ar123.2.1) Ar123.2.2 in123 (Hs123.at in123 rfl) (g := (mkF m 181 #[.val (.long hh_), .second, .val (.long y0), .second, .val (.long y1), .second, .val (.long y2), .second, .val (.int sh), .val (.int (Int32.ofNat U)), .val (.int (Int32.ofNat K)), .val (.int (Int32.ofNat (Q + 1))), .val (.ref b101), .val (.ref t_118)] [(.int (2 : Int32)), (.ref t_118)])) rfl rfl (hb hby at_181) _ k_) ?_
          refine Go.by (T' := T118) (g' := (mkF m 183 #[.val (.long hh_), .second, .val (.long y0), .second, .val (.long y1), .second, .val (.long y2), .second, .val (.int sh), .val (.int (Int32.ofNat U)), .val (.int (Int32.ofNat K)), .val (.int (Int32.ofNat (Q + 1))), .val (.ref b101), .val (.ref t_118)] [(.long hh_), (.long (hh_ - y2))])) (fun t_ k_ => XS.lloadN X118.here hx rfl (hb hby at_182) rfl k_) ?_
          refine Go.by (T' := T118) (g' := (mkF m 185 #[.val (.long hh_), .second, .val (.long y0), .second, .val (.long y1), .second, .val (.long y2), .second, .val (.int sh), .val (.int (Int32.ofNat U)), .val (.int (Int32.ofNat K)), .val (.int (Int32.ofNat (Q + 1))), .val (.ref b101), .val (.ref t_118)] [(.long y2), (.long hh_), (.long (hh_ - y2))])) (fun t_ k_ => XS.lload X118.here hx rfl (hb hby at_183) rfl k_) ?_
          refine Go.by (T' := T118) (g' := (mkF m 186 #[.val (.long hh_), .second, .val (.long y0), .second, .val (.long y1), .second, .val (.long y2), .second, .val (.int sh), .val (.int (Int32.ofNat U)), .val (.int (Int32.ofNat K)), .val (.int (Int32.ofNat (Q + 1))), .val (.ref b101), .val (.ref t_118)] [(.long (hh_ - y2)), (.long (hh_ - y2))])) (fun t_ k_ => XS.lsub X118.here hx rfl (hb hby at_185) rfl k_) ?_
          refine Go.by (T' := T118) (g' := (mkF m 187 #[.val (.long hh_), .second, .val (.long y0), .second, .val (.long y1), .second, .val (.long y2), .second, .val (.int sh), .val (.int (Int32.ofNat U)), .val (.int (Int32.ofNat K)), .val (.int (Int32.ofNat (Q + 1))), .val (.ref b101), .val (.ref t_118)] [(.int (lcmpW (hh_ - y2) (hh_ - y2)))])) (fun t_ k_ => XS.lcmp X118.here hx rfl (hb hby at_186) rfl k_) ?_
          refine Go.by (T' := T118) (g' := (mkF m 192 #[.val (.long hh_), .second, .val (.long y0), .second, .val (.long y1), .second, .val (.long y2), .second, .val (.int sh), .val (.int (Int32.ofNat U)), .val (.int (Int32.ofNat K)), .val (.int (Int32.ofNat (Q + 1))), .val (.ref b101), .val (.ref t_118)] [])) (fun t_ k_ => XS.ifYes X118.here hx rfl (pc0 := 187) (pc' := 192) rfl (hb hby at_187) rfl ((if0 _ _).trans (teq (show (lcmpW (hh_ - y2) (hh_ - y2)) = (0 : Int32) from (lw_eq _ _).mpr rfl)).1) (by decide) (by decide) k_) ?_
          refine Go.by (T' := T118) (g' := (mkF m 193 #[.val (.long hh_), .second, .val (.long y0), .second, .val (.long y1), .second, .val (.long y2), .second, .val (.int sh), .val (.int (Int32.ofNat U)), .val (.int (Int32.ofNat K)), .val (.int (Int32.ofNat (Q + 1))), .val (.ref b101), .val (.ref t_118)] [(.int (1 : Int32))])) (fun t_ k_ => XS.iconst X118.here hx rfl (hb hby at_192) k_) ?_
          refine Go.fin X118 (v := some (.int (nar .boolean (1 : Int32)))) (fun h => by rw [Bd.returns] at h; cases h) hlk (by decide) (by decide) ?_ (fun fs hr => retN X118 hx (t := .boolean) Bd.returns (by simp) (hb hby at_193) hr)
          show Q_law Z hh_ y0 y1 y2 sh nt knt mr h0 n0 _ T118.heap _
          exact ⟨rfl, N118⟩
        · skip
          refine Go.by (T' := T113) (g' := (mkF m 116 #[.val (.long hh_), .second, .val (.long y0), .second, .val (.long y1), .second, .val (.long y2), .second, .val (.int sh), .val (.int (Int32.ofNat U)), .val (.int (Int32.ofNat K)), .val (.int (Int32.ofNat (Q + 1))), .val (.ref b101), .unset] [])) (fun t_ k_ => XS.icmpYes X113.here hx rfl (pc0 := 104) (pc' := 116) rfl (hb hby at_104) rfl (flt (by rw [show (2 : Int32) = Int32.ofNat 2 from rfl, own_lt (by omega) (by omega)]; exact hk2)).2.2.2 (by decide) (by decide) k_) ?_
          refine Go.by (T' := T113) (g' := (mkF m 118 #[.val (.long hh_), .second, .val (.long y0), .second, .val (.long y1), .second, .val (.long y2), .second, .val (.int sh), .val (.int (Int32.ofNat U)), .val (.int (Int32.ofNat K)), .val (.int (Int32.ofNat (Q + 1))), .val (.ref b101), .unset] [(.ref b101)])) (fun t_ k_ => XS.aload X113.here hx rfl (hb hby at_116) rfl rfl k_) ?_
          refine Go.by (T' := T113) (g' := (mkF m 119 #[.val (.long hh_), .second, .val (.long y0), .second, .val (.long y1), .second, .val (.long y2), .second, .val (.int sh), .val (.int (Int32.ofNat U)), .val (.int (Int32.ofNat K)), .val (.int (Int32.ofNat (Q + 1))), .val (.ref b101), .unset] [(.long hh_), (.ref b101)])) (fun t_ k_ => XS.lloadN X113.here hx rfl (hb hby at_118) rfl k_) ?_
          have Od124 : Old Z n0 T113.heap := (Od111.keep K113 (allS ge_b101 (allS ge_l1_109 (allS ge_f1_110 (allS ge_l2_109 (allS ge_f2_110 (allS ge_aa_110 all0)))))))
          obtain ⟨cq125, kq125, q125a, q125b, q125c⟩ := isOf hZ rfl G113_15
          obtain ⟨_, _, ⟨T125, L125, k125, n125⟩, -, X125, ⟨Lc125, hQ125, l125, y125, z125⟩, st125⟩ := X113.virtualBack hx (y := (⟨"com/example/tidegate/tidegate/Batch", "waits", "(J)[J"⟩ : MethodName)) (z := (⟨"com/example/tidegate/tidegate/Batch", "waits", "(J)[J"⟩ : MethodName)) hown (mvT hZ (hw _ (List.mem_of_getElem? (i := 104) rfl))) (mvT hZ (hw _ (List.mem_of_getElem? (i := 105) rfl))) (notFace_of_selects (args := #[]) (mvT hZ (hw _ (List.mem_of_getElem? (i := 107) rfl)))) (mvT hZ (hw _ (List.mem_of_getElem? (i := 107) rfl))) (mvT hZ (hw _ (List.mem_of_getElem? (i := 106) rfl))) (by decide) (backOf (W := 0) (rm_w2 l Z a0 hw [] b101 hh_ nt l2_109 ((n + 1) + 1) n a2_113 ka2_113 ln2_113 y0 y1 T113.heap n0 Od124 G113_15 G113_18 G113_19 G113_20 G113_27 G113_30 G113_33 P0 (by omega) (by omega) (by have := G113_14; omega) (by have := G113_14; omega)) hZ (hw _ (List.mem_of_getElem? (i := 108) rfl)) (hw _ (List.mem_of_getElem? (i := 2) rfl)) (by decide) (by decide)) q125a q125c (g := (mkF m 119 #[.val (.long hh_), .second, .val (.long y0), .second, .val (.long y1), .second, .val (.long y2), .second, .val (.int sh), .val (.int (Int32.ofNat U)), .val (.int (Int32.ofNat K)), .val (.int (Int32.ofNat (Q + 1))), .val (.ref b101), .unset] [(.long hh_), (.ref b101)])) rfl (by rw [hml]; rfl) (Steps.refl _) (argsL := [(.long hh_)]) (rest := []) (lenOf pd_14 rfl) rfl (by show 2 * 0 + _ ≤ _; exact Nat.le_of_eq rfl) (hb hby at_119) (fun _ _ => ⟨rfl, rfl, (by decide : 17 + 1 ≤ _), (by decide : 97 + 3 ≤ _)⟩)
          dsimp only [Pt.U, Pt.locs, Pt.cells, Pt.slots] at X125 l125 y125 z125 st125 hQ125
          subst l125 y125 z125
          obtain ⟨t_125, kt_125, rfl, N125q, K125, G125_0, G125_1⟩ := hQ125
          have N125 := Fr.app N113 N125q
          have ge_t_125 : n0 ≤ t_125 := Nat.le_trans Od124.sz G125_0
          have Kp126 : Keep h0 T113.heap [] := (Kp112.trans K113 (allS (Or.inr sz_b101) (allS (Or.inr sz_l1_109) (allS (Or.inr sz_f1_110) (allS (Or.inr sz_l2_109) (allS (Or.inr sz_f2_110) (allS (Or.inr sz_aa_110) all0)))))))
          have sz_t_125 : h0.size ≤ t_125 := Nat.le_trans Kp126.1 G125_0
          have ne_b101_t_125 : ¬ (b101 = t_125) := Nat.ne_of_lt (Nat.lt_of_lt_of_le G113_15.lt G125_0)
          have ne_l1_109_t_125 : ¬ (l1_109 = t_125) := Nat.ne_of_lt (Nat.lt_of_lt_of_le G113_21.lt G125_0)
          have ne_l2_109_t_125 : ¬ (l2_109 = t_125) := Nat.ne_of_lt (Nat.lt_of_lt_of_le G113_27.lt G125_0)
          have ne_f1_113_t_125 : ¬ (f1_113 = t_125) := Nat.ne_of_lt (Nat.lt_of_lt_of_le G113_25.lt G125_0)
          have ne_f2_113_t_125 : ¬ (f2_113 = t_125) := Nat.ne_of_lt (Nat.lt_of_lt_of_le G113_31.lt G125_0)
          have ne_a2_113_t_125 : ¬ (a2_113 = t_125) := Nat.ne_of_lt (Nat.lt_of_lt_of_le G113_33.lt G125_0)
          refine Go.by (T' := T125) (g' := (mkF m 122 #[.val (.long hh_), .second, .val (.long y0), .second, .val (.long y1), .second, .val (.long y2), .second, .val (.int sh), .val (.int (Int32.ofNat U)), .val (.int (Int32.ofNat K)), .val (.int (Int32.ofNat (Q + 1))), .val (.ref b101), .unset] [(.ref t_125)])) (fun t_ k_ => st125.trans k_) ?_
          refine Go.by (T' := T125) (g' := (mkF m 124 #[.val (.long hh_), .second, .val (.long y0), .second, .val (.long y1), .second, .val (.long y2), .second, .val (.int sh), .val (.int (Int32.ofNat U)), .val (.int (Int32.ofNat K)), .val (.int (Int32.ofNat (Q + 1))), .val (.ref b101), .val (.ref t_125)] [])) (fun t_ k_ => XS.astore X125.here hx rfl (hb hby at_122) rfl rfl (l' := #[.val (.long hh_), .second, .val (.long y0), .second, .val (.long y1), .second, .val (.long y2), .second, .val (.int sh), .val (.int (Int32.ofNat U)), .val (.int (Int32.ofNat K)), .val (.int (Int32.ofNat (Q + 1))), .val (.ref b101), .val (.ref t_125)]) rfl k_) ?_
          refine Go.by (T' := T125) (g' := (mkF m 126 #[.val (.long hh_), .second, .val (.long y0), .second, .val (.long y1), .second, .val (.long y2), .second, .val (.int sh), .val (.int (Int32.ofNat U)), .val (.int (Int32.ofNat K)), .val (.int (Int32.ofNat (Q + 1))), .val (.ref b101), .val (.ref t_125)] [(.ref t_125)])) (fun t_ k_ => XS.aload X125.here hx rfl (hb hby at_124) rfl rfl k_) ?_
          obtain ⟨cl127, Ar127, -, Sz127, Ng127, -, -⟩ := id G125_1
          refine Go.by (T' := T125) (g' := (mkF m 127 #[.val (.long hh_), .second, .val (.long y0), .second, .val (.long y1), .second, .val (.long y2), .second, .val (.int sh), .val (.int (Int32.ofNat U)), .val (.int (Int32.ofNat K)), .val (.int (Int32.ofNat (Q + 1))), .val (.ref b101), .val (.ref t_125)] [(.int (2 : Int32))])) (fun t_ k_ => X125.arraylength hx Ar127.1 (State.isArrayOf_alike hZ.alike Ar127.2.1) (g := (mkF m 126 #[.val (.long hh_), .second, .val (.long y0), .second, .val (.long y1), .second, .val (.long y2), .second, .val (.int sh), .val (.int (Int32.ofNat U)), .val (.int (Int32.ofNat K)), .val (.int (Int32.ofNat (Q + 1))), .val (.ref b101), .val (.ref t_125)] [(.ref t_125)])) rfl rfl (hb hby at_126) _ (by rw [len_of Sz127 Ng127]; exact k_)) ?_
          refine Go.by (T' := T125) (g' := (mkF m 129 #[.val (.long hh_), .second, .val (.long y0), .second, .val (.long y1), .second, .val (.long y2), .second, .val (.int sh), .val (.int (Int32.ofNat U)), .val (.int (Int32.ofNat K)), .val (.int (Int32.ofNat (Q + 1))), .val (.ref b101), .val (.ref t_125)] [(.int (Int32.ofNat K)), (.int (2 : Int32))])) (fun t_ k_ => XS.iload X125.here hx rfl (hb hby at_127) rfl k_) ?_
          refine Go.by (T' := T125) (g' := (mkF m 134 #[.val (.long hh_), .second, .val (.long y0), .second, .val (.long y1), .second, .val (.long y2), .second, .val (.int sh), .val (.int (Int32.ofNat U)), .val (.int (Int32.ofNat K)), .val (.int (Int32.ofNat (Q + 1))), .val (.ref b101), .val (.ref t_125)] [])) (fun t_ k_ => XS.icmpYes X125.here hx rfl (pc0 := 129) (pc' := 134) rfl (hb hby at_129) rfl (teq (by rw [show (2 : Int32) = Int32.ofNat 2 from rfl, own_inj (by omega) (by omega)]; omega)).1 (by decide) (by decide) k_) ?_
          refine Go.by (T' := T125) (g' := (mkF m 136 #[.val (.long hh_), .second, .val (.long y0), .second, .val (.long y1), .second, .val (.long y2), .second, .val (.int sh), .val (.int (Int32.ofNat U)), .val (.int (Int32.ofNat K)), .val (.int (Int32.ofNat (Q + 1))), .val (.ref b101), .val (.ref t_125)] [(.int (Int32.ofNat K))])) (fun t_ k_ => XS.iload X125.here hx rfl (hb hby at_134) rfl k_) ?_
          refine Go.by (T' := T125) (g' := (mkF m 139 #[.val (.long hh_), .second, .val (.long y0), .second, .val (.long y1), .second, .val (.long y2), .second, .val (.int sh), .val (.int (Int32.ofNat U)), .val (.int (Int32.ofNat K)), .val (.int (Int32.ofNat (Q + 1))), .val (.ref b101), .val (.ref t_125)] [])) (fun t_ k_ => XS.ifNo X125.here hx rfl (hb hby at_136) rfl ((if0 _ _).trans (tlt (by rw [show (0 : Int32) = Int32.ofNat 0 from rfl, own_lt (by omega) (by omega)]; omega)).2.2.2) k_) ?_
          refine Go.by (T' := T125) (g' := (mkF m 141 #[.val (.long hh_), .second, .val (.long y0), .second, .val (.long y1), .second, .val (.long y2), .second, .val (.int sh), .val (.int (Int32.ofNat U)), .val (.int (Int32.ofNat K)), .val (.int (Int32.ofNat (Q + 1))), .val (.ref b101), .val (.ref t_125)] [(.ref t_125)])) (fun t_ k_ => XS.aload X125.here hx rfl (hb hby at_139) rfl rfl k_) ?_
          refine Go.by (T' := T125) (g' := (mkF m 142 #[.val (.long hh_), .second, .val (.long y0), .second, .val (.long y1), .second, .val (.long y2), .second, .val (.int sh), .val (.int (Int32.ofNat U)), .val (.int (Int32.ofNat K)), .val (.int (Int32.ofNat (Q + 1))), .val (.ref b101), .val (.ref t_125)] [(.int (0 : Int32)), (.ref t_125)])) (fun t_ k_ => XS.iconst X125.here hx rfl (hb hby at_141) k_) ?_
          obtain ⟨cl128, Ar128, q128, Sz128, Ng128, Hs128, Gs128⟩ := id G125_1
          have in128 := inb_of (j := (0 : Int32)) Sz128 ⟨by decide, by decide⟩
          refine Go.by (T' := T125) (g' := (mkF m 143 #[.val (.long hh_), .second, .val (.long y0), .second, .val (.long y1), .second, .val (.long y2), .second, .val (.int sh), .val (.int (Int32.ofNat U)), .val (.int (Int32.ofNat K)), .val (.int (Int32.ofNat (Q + 1))), .val (.ref b101), .val (.ref t_125)] [(.long (hh_ - y0))])) (fun t_ k_ => X125.laload hx (j := (0 : Int32)) (v := (.long (hh_ - y0))) Ar128.1 (State.isArrayOf_alike hZ.alike Ar128.2.1) Ar128.2.2 in128 (Hs128.at in128 rfl) (g := (mkF m 142 #[.val (.long hh_), .second, .val (.long y0), .second, .val (.long y1), .second, .val (.long y2), .second, .val (.int sh), .val (.int (Int32.ofNat U)), .val (.int (Int32.ofNat K)), .val (.int (Int32.ofNat (Q + 1))), .val (.ref b101), .val (.ref t_125)] [(.int (0 : Int32)), (.ref t_125)])) rfl rfl (hb hby at_142) _ k_) ?_
          refine Go.by (T' := T125) (g' := (mkF m 144 #[.val (.long hh_), .second, .val (.long y0), .second, .val (.long y1), .second, .val (.long y2), .second, .val (.int sh), .val (.int (Int32.ofNat U)), .val (.int (Int32.ofNat K)), .val (.int (Int32.ofNat (Q + 1))), .val (.ref b101), .val (.ref t_125)] [(.long hh_), (.long (hh_ - y0))])) (fun t_ k_ => XS.lloadN X125.here hx rfl (hb hby at_143) rfl k_) ?_
          refine Go.by (T' := T125) (g' := (mkF m 145 #[.val (.long hh_), .second, .val (.long y0), .second, .val (.long y1), .second, .val (.long y2), .second, .val (.int sh), .val (.int (Int32.ofNat U)), .val (.int (Int32.ofNat K)), .val (.int (Int32.ofNat (Q + 1))), .val (.ref b101), .val (.ref t_125)] [(.long y0), (.long hh_), (.long (hh_ - y0))])) (fun t_ k_ => XS.lloadN X125.here hx rfl (hb hby at_144) rfl k_) ?_
          refine Go.by (T' := T125) (g' := (mkF m 146 #[.val (.long hh_), .second, .val (.long y0), .second, .val (.long y1), .second, .val (.long y2), .second, .val (.int sh), .val (.int (Int32.ofNat U)), .val (.int (Int32.ofNat K)), .val (.int (Int32.ofNat (Q + 1))), .val (.ref b101), .val (.ref t_125)] [(.long (hh_ - y0)), (.long (hh_ - y0))])) (fun t_ k_ => XS.lsub X125.here hx rfl (hb hby at_145) rfl k_) ?_
          refine Go.by (T' := T125) (g' := (mkF m 147 #[.val (.long hh_), .second, .val (.long y0), .second, .val (.long y1), .second, .val (.long y2), .second, .val (.int sh), .val (.int (Int32.ofNat U)), .val (.int (Int32.ofNat K)), .val (.int (Int32.ofNat (Q + 1))), .val (.ref b101), .val (.ref t_125)] [(.int (lcmpW (hh_ - y0) (hh_ - y0)))])) (fun t_ k_ => XS.lcmp X125.here hx rfl (hb hby at_146) rfl k_) ?_
          refine Go.by (T' := T125) (g' := (mkF m 152 #[.val (.long hh_), .second, .val (.long y0), .second, .val (.long y1), .second, .val (.long y2), .second, .val (.int sh), .val (.int (Int32.ofNat U)), .val (.int (Int32.ofNat K)), .val (.int (Int32.ofNat (Q + 1))), .val (.ref b101), .val (.ref t_125)] [])) (fun t_ k_ => XS.ifYes X125.here hx rfl (pc0 := 147) (pc' := 152) rfl (hb hby at_147) rfl ((if0 _ _).trans (teq (show (lcmpW (hh_ - y0) (hh_ - y0)) = (0 : Int32) from (lw_eq _ _).mpr rfl)).1) (by decide) (by decide) k_) ?_
          refine Go.by (T' := T125) (g' := (mkF m 154 #[.val (.long hh_), .second, .val (.long y0), .second, .val (.long y1), .second, .val (.long y2), .second, .val (.int sh), .val (.int (Int32.ofNat U)), .val (.int (Int32.ofNat K)), .val (.int (Int32.ofNat (Q + 1))), .val (.ref b101), .val (.ref t_125)] [(.int (Int32.ofNat K))])) (fun t_ k_ => XS.iload X125.here hx rfl (hb hby at_152) rfl k_) ?_
          refine Go.by (T' := T125) (g' := (mkF m 155 #[.val (.long hh_), .second, .val (.long y0), .second, .val (.long y1), .second, .val (.long y2), .second, .val (.int sh), .val (.int (Int32.ofNat U)), .val (.int (Int32.ofNat K)), .val (.int (Int32.ofNat (Q + 1))), .val (.ref b101), .val (.ref t_125)] [(.int (1 : Int32)), (.int (Int32.ofNat K))])) (fun t_ k_ => XS.iconst X125.here hx rfl (hb hby at_154) k_) ?_
          refine Go.by (T' := T125) (g' := (mkF m 158 #[.val (.long hh_), .second, .val (.long y0), .second, .val (.long y1), .second, .val (.long y2), .second, .val (.int sh), .val (.int (Int32.ofNat U)), .val (.int (Int32.ofNat K)), .val (.int (Int32.ofNat (Q + 1))), .val (.ref b101), .val (.ref t_125)] [])) (fun t_ k_ => XS.icmpNo X125.here hx rfl (hb hby at_155) rfl (tlt (by rw [show (1 : Int32) = Int32.ofNat 1 from rfl, own_lt (by omega) (by omega)]; omega)).2.2.2 k_) ?_
          refine Go.by (T' := T125) (g' := (mkF m 160 #[.val (.long hh_), .second, .val (.long y0), .second, .val (.long y1), .second, .val (.long y2), .second, .val (.int sh), .val (.int (Int32.ofNat U)), .val (.int (Int32.ofNat K)), .val (.int (Int32.ofNat (Q + 1))), .val (.ref b101), .val (.ref t_125)] [(.ref t_125)])) (fun t_ k_ => XS.aload X125.here hx rfl (hb hby at_158) rfl rfl k_) ?_
          refine Go.by (T' := T125) (g' := (mkF m 161 #[.val (.long hh_), .second, .val (.long y0), .second, .val (.long y1), .second, .val (.long y2), .second, .val (.int sh), .val (.int (Int32.ofNat U)), .val (.int (Int32.ofNat K)), .val (.int (Int32.ofNat (Q + 1))), .val (.ref b101), .val (.ref t_125)] [(.int (1 : Int32)), (.ref t_125)])) (fun t_ k_ => XS.iconst X125.here hx rfl (hb hby at_160) k_) ?_
          obtain ⟨cl129, Ar129, q129, Sz129, Ng129, Hs129, Gs129⟩ := id G125_1
          have in129 := inb_of (j := (1 : Int32)) Sz129 ⟨by decide, by decide⟩
          refine Go.by (T' := T125) (g' := (mkF m 162 #[.val (.long hh_), .second, .val (.long y0), .second, .val (.long y1), .second, .val (.long y2), .second, .val (.int sh), .val (.int (Int32.ofNat U)), .val (.int (Int32.ofNat K)), .val (.int (Int32.ofNat (Q + 1))), .val (.ref b101), .val (.ref t_125)] [(.long (hh_ - y1))])) (fun t_ k_ => X125.laload hx (j := (1 : Int32)) (v := (.long (hh_ - y1))) Ar129.1 (State.isArrayOf_alike hZ.alike Ar129.2.1) Ar129.2.2 in129 (Hs129.at in129 rfl) (g := (mkF m 161 #[.val (.long hh_), .second, .val (.long y0), .second, .val (.long y1), .second, .val (.long y2), .second, .val (.int sh), .val (.int (Int32.ofNat U)), .val (.int (Int32.ofNat K)), .val (.int (Int32.ofNat (Q + 1))), .val (.ref b101), .val (.ref t_125)] [(.int (1 : Int32)), (.ref t_125)])) rfl rfl (hb hby at_161) _ k_) ?_
          refine Go.by (T' := T125) (g' := (mkF m 163 #[.val (.long hh_), .second, .val (.long y0), .second, .val (.long y1), .second, .val (.long y2), .second, .val (.int sh), .val (.int (Int32.ofNat U)), .val (.int (Int32.ofNat K)), .val (.int (Int32.ofNat (Q + 1))), .val (.ref b101), .val (.ref t_125)] [(.long hh_), (.long (hh_ - y1))])) (fun t_ k_ => XS.lloadN X125.here hx rfl (hb hby at_162) rfl k_) ?_
          refine Go.by (T' := T125) (g' := (mkF m 165 #[.val (.long hh_), .second, .val (.long y0), .second, .val (.long y1), .second, .val (.long y2), .second, .val (.int sh), .val (.int (Int32.ofNat U)), .val (.int (Int32.ofNat K)), .val (.int (Int32.ofNat (Q + 1))), .val (.ref b101), .val (.ref t_125)] [(.long y1), (.long hh_), (.long (hh_ - y1))])) (fun t_ k_ => XS.lload X125.here hx rfl (hb hby at_163) rfl k_) ?_
          refine Go.by (T' := T125) (g' := (mkF m 166 #[.val (.long hh_), .second, .val (.long y0), .second, .val (.long y1), .second, .val (.long y2), .second, .val (.int sh), .val (.int (Int32.ofNat U)), .val (.int (Int32.ofNat K)), .val (.int (Int32.ofNat (Q + 1))), .val (.ref b101), .val (.ref t_125)] [(.long (hh_ - y1)), (.long (hh_ - y1))])) (fun t_ k_ => XS.lsub X125.here hx rfl (hb hby at_165) rfl k_) ?_
          refine Go.by (T' := T125) (g' := (mkF m 167 #[.val (.long hh_), .second, .val (.long y0), .second, .val (.long y1), .second, .val (.long y2), .second, .val (.int sh), .val (.int (Int32.ofNat U)), .val (.int (Int32.ofNat K)), .val (.int (Int32.ofNat (Q + 1))), .val (.ref b101), .val (.ref t_125)] [(.int (lcmpW (hh_ - y1) (hh_ - y1)))])) (fun t_ k_ => XS.lcmp X125.here hx rfl (hb hby at_166) rfl k_) ?_
          refine Go.by (T' := T125) (g' := (mkF m 172 #[.val (.long hh_), .second, .val (.long y0), .second, .val (.long y1), .second, .val (.long y2), .second, .val (.int sh), .val (.int (Int32.ofNat U)), .val (.int (Int32.ofNat K)), .val (.int (Int32.ofNat (Q + 1))), .val (.ref b101), .val (.ref t_125)] [])) (fun t_ k_ => XS.ifYes X125.here hx rfl (pc0 := 167) (pc' := 172) rfl (hb hby at_167) rfl ((if0 _ _).trans (teq (show (lcmpW (hh_ - y1) (hh_ - y1)) = (0 : Int32) from (lw_eq _ _).mpr rfl)).1) (by decide) (by decide) k_) ?_
          refine Go.by (T' := T125) (g' := (mkF m 174 #[.val (.long hh_), .second, .val (.long y0), .second, .val (.long y1), .second, .val (.long y2), .second, .val (.int sh), .val (.int (Int32.ofNat U)), .val (.int (Int32.ofNat K)), .val (.int (Int32.ofNat (Q + 1))), .val (.ref b101), .val (.ref t_125)] [(.int (Int32.ofNat K))])) (fun t_ k_ => XS.iload X125.here hx rfl (hb hby at_172) rfl k_) ?_
          refine Go.by (T' := T125) (g' := (mkF m 175 #[.val (.long hh_), .second, .val (.long y0), .second, .val (.long y1), .second, .val (.long y2), .second, .val (.int sh), .val (.int (Int32.ofNat U)), .val (.int (Int32.ofNat K)), .val (.int (Int32.ofNat (Q + 1))), .val (.ref b101), .val (.ref t_125)] [(.int (2 : Int32)), (.int (Int32.ofNat K))])) (fun t_ k_ => XS.iconst X125.here hx rfl (hb hby at_174) k_) ?_
          refine Go.by (T' := T125) (g' := (mkF m 192 #[.val (.long hh_), .second, .val (.long y0), .second, .val (.long y1), .second, .val (.long y2), .second, .val (.int sh), .val (.int (Int32.ofNat U)), .val (.int (Int32.ofNat K)), .val (.int (Int32.ofNat (Q + 1))), .val (.ref b101), .val (.ref t_125)] [])) (fun t_ k_ => XS.icmpYes X125.here hx rfl (pc0 := 175) (pc' := 192) rfl (hb hby at_175) rfl (flt (by rw [show (2 : Int32) = Int32.ofNat 2 from rfl, own_lt (by omega) (by omega)]; omega)).2.2.2 (by decide) (by decide) k_) ?_
          refine Go.by (T' := T125) (g' := (mkF m 193 #[.val (.long hh_), .second, .val (.long y0), .second, .val (.long y1), .second, .val (.long y2), .second, .val (.int sh), .val (.int (Int32.ofNat U)), .val (.int (Int32.ofNat K)), .val (.int (Int32.ofNat (Q + 1))), .val (.ref b101), .val (.ref t_125)] [(.int (1 : Int32))])) (fun t_ k_ => XS.iconst X125.here hx rfl (hb hby at_192) k_) ?_
          refine Go.fin X125 (v := some (.int (nar .boolean (1 : Int32)))) (fun h => by rw [Bd.returns] at h; cases h) hlk (by decide) (by decide) ?_ (fun fs hr => retN X125 hx (t := .boolean) Bd.returns (by simp) (hb hby at_193) hr)
          show Q_law Z hh_ y0 y1 y2 sh nt knt mr h0 n0 _ T125.heap _
          exact ⟨rfl, N125⟩
      · skip
        refine Go.by (T' := T110) (g' := (mkF m 101 #[.val (.long hh_), .second, .val (.long y0), .second, .val (.long y1), .second, .val (.long y2), .second, .val (.int sh), .val (.int (Int32.ofNat U)), .val (.int (Int32.ofNat K)), .val (.int (Int32.ofNat (Q + 1))), .val (.ref b101), .unset] [])) (fun t_ k_ => XS.icmpYes X110.here hx rfl (pc0 := 89) (pc' := 101) rfl (hb hby at_89) rfl (flt (by rw [show (1 : Int32) = Int32.ofNat 1 from rfl, own_lt (by omega) (by omega)]; exact hk1)).2.2.2 (by decide) (by decide) k_) ?_
        refine Go.by (T' := T110) (g' := (mkF m 103 #[.val (.long hh_), .second, .val (.long y0), .second, .val (.long y1), .second, .val (.long y2), .second, .val (.int sh), .val (.int (Int32.ofNat U)), .val (.int (Int32.ofNat K)), .val (.int (Int32.ofNat (Q + 1))), .val (.ref b101), .unset] [(.int (Int32.ofNat K))])) (fun t_ k_ => XS.iload X110.here hx rfl (hb hby at_101) rfl k_) ?_
        refine Go.by (T' := T110) (g' := (mkF m 104 #[.val (.long hh_), .second, .val (.long y0), .second, .val (.long y1), .second, .val (.long y2), .second, .val (.int sh), .val (.int (Int32.ofNat U)), .val (.int (Int32.ofNat K)), .val (.int (Int32.ofNat (Q + 1))), .val (.ref b101), .unset] [(.int (2 : Int32)), (.int (Int32.ofNat K))])) (fun t_ k_ => XS.iconst X110.here hx rfl (hb hby at_103) k_) ?_
        refine Go.by (T' := T110) (g' := (mkF m 116 #[.val (.long hh_), .second, .val (.long y0), .second, .val (.long y1), .second, .val (.long y2), .second, .val (.int sh), .val (.int (Int32.ofNat U)), .val (.int (Int32.ofNat K)), .val (.int (Int32.ofNat (Q + 1))), .val (.ref b101), .unset] [])) (fun t_ k_ => XS.icmpYes X110.here hx rfl (pc0 := 104) (pc' := 116) rfl (hb hby at_104) rfl (flt (by rw [show (2 : Int32) = Int32.ofNat 2 from rfl, own_lt (by omega) (by omega)]; omega)).2.2.2 (by decide) (by decide) k_) ?_
        refine Go.by (T' := T110) (g' := (mkF m 118 #[.val (.long hh_), .second, .val (.long y0), .second, .val (.long y1), .second, .val (.long y2), .second, .val (.int sh), .val (.int (Int32.ofNat U)), .val (.int (Int32.ofNat K)), .val (.int (Int32.ofNat (Q + 1))), .val (.ref b101), .unset] [(.ref b101)])) (fun t_ k_ => XS.aload X110.here hx rfl (hb hby at_116) rfl rfl k_) ?_
        refine Go.by (T' := T110) (g' := (mkF m 119 #[.val (.long hh_), .second, .val (.long y0), .second, .val (.long y1), .second, .val (.long y2), .second, .val (.int sh), .val (.int (Int32.ofNat U)), .val (.int (Int32.ofNat K)), .val (.int (Int32.ofNat (Q + 1))), .val (.ref b101), .unset] [(.long hh_), (.ref b101)])) (fun t_ k_ => XS.lloadN X110.here hx rfl (hb hby at_118) rfl k_) ?_
        have Od130 : Old Z n0 T110.heap := (OJ.keep K110 (allS ge_b101 (allS ge_l1_109 (allS ge_e1 (allS ge_l2_109 (allS ge_e2 all0))))))
        obtain ⟨cq131, kq131, q131a, q131b, q131c⟩ := isOf hZ rfl G110_11
        obtain ⟨_, _, ⟨T131, L131, k131, n131⟩, -, X131, ⟨Lc131, hQ131, l131, y131, z131⟩, st131⟩ := X110.virtualBack hx (y := (⟨"com/example/tidegate/tidegate/Batch", "waits", "(J)[J"⟩ : MethodName)) (z := (⟨"com/example/tidegate/tidegate/Batch", "waits", "(J)[J"⟩ : MethodName)) hown (mvT hZ (hw _ (List.mem_of_getElem? (i := 104) rfl))) (mvT hZ (hw _ (List.mem_of_getElem? (i := 105) rfl))) (notFace_of_selects (args := #[]) (mvT hZ (hw _ (List.mem_of_getElem? (i := 107) rfl)))) (mvT hZ (hw _ (List.mem_of_getElem? (i := 107) rfl))) (mvT hZ (hw _ (List.mem_of_getElem? (i := 106) rfl))) (by decide) (backOf (W := 0) (rm_w1 l Z a0 hw [] b101 hh_ nt l2_109 (n + 1) n aa_110 ka_110 (Q + 1) y0 T110.heap n0 Od130 G110_11 G110_14 G110_15 G110_16 G110_23 G110_26 G110_29 P0 (by omega) (by omega) (by omega) (by omega)) hZ (hw _ (List.mem_of_getElem? (i := 108) rfl)) (hw _ (List.mem_of_getElem? (i := 2) rfl)) (by decide) (by decide)) q131a q131c (g := (mkF m 119 #[.val (.long hh_), .second, .val (.long y0), .second, .val (.long y1), .second, .val (.long y2), .second, .val (.int sh), .val (.int (Int32.ofNat U)), .val (.int (Int32.ofNat K)), .val (.int (Int32.ofNat (Q + 1))), .val (.ref b101), .unset] [(.long hh_), (.ref b101)])) rfl (by rw [hml]; rfl) (Steps.refl _) (argsL := [(.long hh_)]) (rest := []) (lenOf pd_14 rfl) rfl (by show 2 * 0 + _ ≤ _; exact Nat.le_of_eq rfl) (hb hby at_119) (fun _ _ => ⟨rfl, rfl, (by decide : 14 + 1 ≤ _), (by decide : 79 + 3 ≤ _)⟩)
        dsimp only [Pt.U, Pt.locs, Pt.cells, Pt.slots] at X131 l131 y131 z131 st131 hQ131
        subst l131 y131 z131
        obtain ⟨t_131, kt_131, rfl, N131q, K131, G131_0, G131_1⟩ := hQ131
        have N131 := Fr.app N110 N131q
        have ge_t_131 : n0 ≤ t_131 := Nat.le_trans Od130.sz G131_0
        have Kp132 : Keep h0 T110.heap [] := (KJ.trans K110 (allS (Or.inr sz_b101) (allS (Or.inr sz_l1_109) (allS (Or.inr sz_e1) (allS (Or.inr sz_l2_109) (allS (Or.inr sz_e2) all0))))))
        have sz_t_131 : h0.size ≤ t_131 := Nat.le_trans Kp132.1 G131_0
        have ne_b101_t_131 : ¬ (b101 = t_131) := Nat.ne_of_lt (Nat.lt_of_lt_of_le G110_11.lt G131_0)
        have ne_l1_109_t_131 : ¬ (l1_109 = t_131) := Nat.ne_of_lt (Nat.lt_of_lt_of_le G110_17.lt G131_0)
        have ne_l2_109_t_131 : ¬ (l2_109 = t_131) := Nat.ne_of_lt (Nat.lt_of_lt_of_le G110_23.lt G131_0)
        have ne_f1_110_t_131 : ¬ (f1_110 = t_131) := Nat.ne_of_lt (Nat.lt_of_lt_of_le G110_21.lt G131_0)
        have ne_f2_110_t_131 : ¬ (f2_110 = t_131) := Nat.ne_of_lt (Nat.lt_of_lt_of_le G110_27.lt G131_0)
        have ne_aa_110_t_131 : ¬ (aa_110 = t_131) := Nat.ne_of_lt (Nat.lt_of_lt_of_le G110_29.lt G131_0)
        refine Go.by (T' := T131) (g' := (mkF m 122 #[.val (.long hh_), .second, .val (.long y0), .second, .val (.long y1), .second, .val (.long y2), .second, .val (.int sh), .val (.int (Int32.ofNat U)), .val (.int (Int32.ofNat K)), .val (.int (Int32.ofNat (Q + 1))), .val (.ref b101), .unset] [(.ref t_131)])) (fun t_ k_ => st131.trans k_) ?_
        refine Go.by (T' := T131) (g' := (mkF m 124 #[.val (.long hh_), .second, .val (.long y0), .second, .val (.long y1), .second, .val (.long y2), .second, .val (.int sh), .val (.int (Int32.ofNat U)), .val (.int (Int32.ofNat K)), .val (.int (Int32.ofNat (Q + 1))), .val (.ref b101), .val (.ref t_131)] [])) (fun t_ k_ => XS.astore X131.here hx rfl (hb hby at_122) rfl rfl (l' := #[.val (.long hh_), .second, .val (.long y0), .second, .val (.long y1), .second, .val (.long y2), .second, .val (.int sh), .val (.int (Int32.ofNat U)), .val (.int (Int32.ofNat K)), .val (.int (Int32.ofNat (Q + 1))), .val (.ref b101), .val (.ref t_131)]) rfl k_) ?_
        refine Go.by (T' := T131) (g' := (mkF m 126 #[.val (.long hh_), .second, .val (.long y0), .second, .val (.long y1), .second, .val (.long y2), .second, .val (.int sh), .val (.int (Int32.ofNat U)), .val (.int (Int32.ofNat K)), .val (.int (Int32.ofNat (Q + 1))), .val (.ref b101), .val (.ref t_131)] [(.ref t_131)])) (fun t_ k_ => XS.aload X131.here hx rfl (hb hby at_124) rfl rfl k_) ?_
        obtain ⟨cl133, Ar133, -, Sz133, Ng133, -, -⟩ := id G131_1
        refine Go.by (T' := T131) (g' := (mkF m 127 #[.val (.long hh_), .second, .val (.long y0), .second, .val (.long y1), .second, .val (.long y2), .second, .val (.int sh), .val (.int (Int32.ofNat U)), .val (.int (Int32.ofNat K)), .val (.int (Int32.ofNat (Q + 1))), .val (.ref b101), .val (.ref t_131)] [(.int (1 : Int32))])) (fun t_ k_ => X131.arraylength hx Ar133.1 (State.isArrayOf_alike hZ.alike Ar133.2.1) (g := (mkF m 126 #[.val (.long hh_), .second, .val (.long y0), .second, .val (.long y1), .second, .val (.long y2), .second, .val (.int sh), .val (.int (Int32.ofNat U)), .val (.int (Int32.ofNat K)), .val (.int (Int32.ofNat (Q + 1))), .val (.ref b101), .val (.ref t_131)] [(.ref t_131)])) rfl rfl (hb hby at_126) _ (by rw [len_of Sz133 Ng133]; exact k_)) ?_
        refine Go.by (T' := T131) (g' := (mkF m 129 #[.val (.long hh_), .second, .val (.long y0), .second, .val (.long y1), .second, .val (.long y2), .second, .val (.int sh), .val (.int (Int32.ofNat U)), .val (.int (Int32.ofNat K)), .val (.int (Int32.ofNat (Q + 1))), .val (.ref b101), .val (.ref t_131)] [(.int (Int32.ofNat K)), (.int (1 : Int32))])) (fun t_ k_ => XS.iload X131.here hx rfl (hb hby at_127) rfl k_) ?_
        refine Go.by (T' := T131) (g' := (mkF m 134 #[.val (.long hh_), .second, .val (.long y0), .second, .val (.long y1), .second, .val (.long y2), .second, .val (.int sh), .val (.int (Int32.ofNat U)), .val (.int (Int32.ofNat K)), .val (.int (Int32.ofNat (Q + 1))), .val (.ref b101), .val (.ref t_131)] [])) (fun t_ k_ => XS.icmpYes X131.here hx rfl (pc0 := 129) (pc' := 134) rfl (hb hby at_129) rfl (teq (by rw [show (1 : Int32) = Int32.ofNat 1 from rfl, own_inj (by omega) (by omega)]; omega)).1 (by decide) (by decide) k_) ?_
        refine Go.by (T' := T131) (g' := (mkF m 136 #[.val (.long hh_), .second, .val (.long y0), .second, .val (.long y1), .second, .val (.long y2), .second, .val (.int sh), .val (.int (Int32.ofNat U)), .val (.int (Int32.ofNat K)), .val (.int (Int32.ofNat (Q + 1))), .val (.ref b101), .val (.ref t_131)] [(.int (Int32.ofNat K))])) (fun t_ k_ => XS.iload X131.here hx rfl (hb hby at_134) rfl k_) ?_
        refine Go.by (T' := T131) (g' := (mkF m 139 #[.val (.long hh_), .second, .val (.long y0), .second, .val (.long y1), .second, .val (.long y2), .second, .val (.int sh), .val (.int (Int32.ofNat U)), .val (.int (Int32.ofNat K)), .val (.int (Int32.ofNat (Q + 1))), .val (.ref b101), .val (.ref t_131)] [])) (fun t_ k_ => XS.ifNo X131.here hx rfl (hb hby at_136) rfl ((if0 _ _).trans (tlt (by rw [show (0 : Int32) = Int32.ofNat 0 from rfl, own_lt (by omega) (by omega)]; omega)).2.2.2) k_) ?_
        refine Go.by (T' := T131) (g' := (mkF m 141 #[.val (.long hh_), .second, .val (.long y0), .second, .val (.long y1), .second, .val (.long y2), .second, .val (.int sh), .val (.int (Int32.ofNat U)), .val (.int (Int32.ofNat K)), .val (.int (Int32.ofNat (Q + 1))), .val (.ref b101), .val (.ref t_131)] [(.ref t_131)])) (fun t_ k_ => XS.aload X131.here hx rfl (hb hby at_139) rfl rfl k_) ?_
        refine Go.by (T' := T131) (g' := (mkF m 142 #[.val (.long hh_), .second, .val (.long y0), .second, .val (.long y1), .second, .val (.long y2), .second, .val (.int sh), .val (.int (Int32.ofNat U)), .val (.int (Int32.ofNat K)), .val (.int (Int32.ofNat (Q + 1))), .val (.ref b101), .val (.ref t_131)] [(.int (0 : Int32)), (.ref t_131)])) (fun t_ k_ => XS.iconst X131.here hx rfl (hb hby at_141) k_) ?_
        obtain ⟨cl134, Ar134, q134, Sz134, Ng134, Hs134, Gs134⟩ := id G131_1
        have in134 := inb_of (j := (0 : Int32)) Sz134 ⟨by decide, by decide⟩
        refine Go.by (T' := T131) (g' := (mkF m 143 #[.val (.long hh_), .second, .val (.long y0), .second, .val (.long y1), .second, .val (.long y2), .second, .val (.int sh), .val (.int (Int32.ofNat U)), .val (.int (Int32.ofNat K)), .val (.int (Int32.ofNat (Q + 1))), .val (.ref b101), .val (.ref t_131)] [(.long (hh_ - y0))])) (fun t_ k_ => X131.laload hx (j := (0 : Int32)) (v := (.long (hh_ - y0))) Ar134.1 (State.isArrayOf_alike hZ.alike Ar134.2.1) Ar134.2.2 in134 (Hs134.at in134 rfl) (g := (mkF m 142 #[.val (.long hh_), .second, .val (.long y0), .second, .val (.long y1), .second, .val (.long y2), .second, .val (.int sh), .val (.int (Int32.ofNat U)), .val (.int (Int32.ofNat K)), .val (.int (Int32.ofNat (Q + 1))), .val (.ref b101), .val (.ref t_131)] [(.int (0 : Int32)), (.ref t_131)])) rfl rfl (hb hby at_142) _ k_) ?_
        refine Go.by (T' := T131) (g' := (mkF m 144 #[.val (.long hh_), .second, .val (.long y0), .second, .val (.long y1), .second, .val (.long y2), .second, .val (.int sh), .val (.int (Int32.ofNat U)), .val (.int (Int32.ofNat K)), .val (.int (Int32.ofNat (Q + 1))), .val (.ref b101), .val (.ref t_131)] [(.long hh_), (.long (hh_ - y0))])) (fun t_ k_ => XS.lloadN X131.here hx rfl (hb hby at_143) rfl k_) ?_
        refine Go.by (T' := T131) (g' := (mkF m 145 #[.val (.long hh_), .second, .val (.long y0), .second, .val (.long y1), .second, .val (.long y2), .second, .val (.int sh), .val (.int (Int32.ofNat U)), .val (.int (Int32.ofNat K)), .val (.int (Int32.ofNat (Q + 1))), .val (.ref b101), .val (.ref t_131)] [(.long y0), (.long hh_), (.long (hh_ - y0))])) (fun t_ k_ => XS.lloadN X131.here hx rfl (hb hby at_144) rfl k_) ?_
        refine Go.by (T' := T131) (g' := (mkF m 146 #[.val (.long hh_), .second, .val (.long y0), .second, .val (.long y1), .second, .val (.long y2), .second, .val (.int sh), .val (.int (Int32.ofNat U)), .val (.int (Int32.ofNat K)), .val (.int (Int32.ofNat (Q + 1))), .val (.ref b101), .val (.ref t_131)] [(.long (hh_ - y0)), (.long (hh_ - y0))])) (fun t_ k_ => XS.lsub X131.here hx rfl (hb hby at_145) rfl k_) ?_
        refine Go.by (T' := T131) (g' := (mkF m 147 #[.val (.long hh_), .second, .val (.long y0), .second, .val (.long y1), .second, .val (.long y2), .second, .val (.int sh), .val (.int (Int32.ofNat U)), .val (.int (Int32.ofNat K)), .val (.int (Int32.ofNat (Q + 1))), .val (.ref b101), .val (.ref t_131)] [(.int (lcmpW (hh_ - y0) (hh_ - y0)))])) (fun t_ k_ => XS.lcmp X131.here hx rfl (hb hby at_146) rfl k_) ?_
        refine Go.by (T' := T131) (g' := (mkF m 152 #[.val (.long hh_), .second, .val (.long y0), .second, .val (.long y1), .second, .val (.long y2), .second, .val (.int sh), .val (.int (Int32.ofNat U)), .val (.int (Int32.ofNat K)), .val (.int (Int32.ofNat (Q + 1))), .val (.ref b101), .val (.ref t_131)] [])) (fun t_ k_ => XS.ifYes X131.here hx rfl (pc0 := 147) (pc' := 152) rfl (hb hby at_147) rfl ((if0 _ _).trans (teq (show (lcmpW (hh_ - y0) (hh_ - y0)) = (0 : Int32) from (lw_eq _ _).mpr rfl)).1) (by decide) (by decide) k_) ?_
        refine Go.by (T' := T131) (g' := (mkF m 154 #[.val (.long hh_), .second, .val (.long y0), .second, .val (.long y1), .second, .val (.long y2), .second, .val (.int sh), .val (.int (Int32.ofNat U)), .val (.int (Int32.ofNat K)), .val (.int (Int32.ofNat (Q + 1))), .val (.ref b101), .val (.ref t_131)] [(.int (Int32.ofNat K))])) (fun t_ k_ => XS.iload X131.here hx rfl (hb hby at_152) rfl k_) ?_
        refine Go.by (T' := T131) (g' := (mkF m 155 #[.val (.long hh_), .second, .val (.long y0), .second, .val (.long y1), .second, .val (.long y2), .second, .val (.int sh), .val (.int (Int32.ofNat U)), .val (.int (Int32.ofNat K)), .val (.int (Int32.ofNat (Q + 1))), .val (.ref b101), .val (.ref t_131)] [(.int (1 : Int32)), (.int (Int32.ofNat K))])) (fun t_ k_ => XS.iconst X131.here hx rfl (hb hby at_154) k_) ?_
        refine Go.by (T' := T131) (g' := (mkF m 172 #[.val (.long hh_), .second, .val (.long y0), .second, .val (.long y1), .second, .val (.long y2), .second, .val (.int sh), .val (.int (Int32.ofNat U)), .val (.int (Int32.ofNat K)), .val (.int (Int32.ofNat (Q + 1))), .val (.ref b101), .val (.ref t_131)] [])) (fun t_ k_ => XS.icmpYes X131.here hx rfl (pc0 := 155) (pc' := 172) rfl (hb hby at_155) rfl (flt (by rw [show (1 : Int32) = Int32.ofNat 1 from rfl, own_lt (by omega) (by omega)]; omega)).2.2.2 (by decide) (by decide) k_) ?_
        refine Go.by (T' := T131) (g' := (mkF m 174 #[.val (.long hh_), .second, .val (.long y0), .second, .val (.long y1), .second, .val (.long y2), .second, .val (.int sh), .val (.int (Int32.ofNat U)), .val (.int (Int32.ofNat K)), .val (.int (Int32.ofNat (Q + 1))), .val (.ref b101), .val (.ref t_131)] [(.int (Int32.ofNat K))])) (fun t_ k_ => XS.iload X131.here hx rfl (hb hby at_172) rfl k_) ?_
        refine Go.by (T' := T131) (g' := (mkF m 175 #[.val (.long hh_), .second, .val (.long y0), .second, .val (.long y1), .second, .val (.long y2), .second, .val (.int sh), .val (.int (Int32.ofNat U)), .val (.int (Int32.ofNat K)), .val (.int (Int32.ofNat (Q + 1))), .val (.ref b101), .val (.ref t_131)] [(.int (2 : Int32)), (.int (Int32.ofNat K))])) (fun t_ k_ => XS.iconst X131.here hx rfl (hb hby at_174) k_) ?_
        refine Go.by (T' := T131) (g' := (mkF m 192 #[.val (.long hh_), .second, .val (.long y0), .second, .val (.long y1), .second, .val (.long y2), .second, .val (.int sh), .val (.int (Int32.ofNat U)), .val (.int (Int32.ofNat K)), .val (.int (Int32.ofNat (Q + 1))), .val (.ref b101), .val (.ref t_131)] [])) (fun t_ k_ => XS.icmpYes X131.here hx rfl (pc0 := 175) (pc' := 192) rfl (hb hby at_175) rfl (flt (by rw [show (2 : Int32) = Int32.ofNat 2 from rfl, own_lt (by omega) (by omega)]; omega)).2.2.2 (by decide) (by decide) k_) ?_
        refine Go.by (T' := T131) (g' := (mkF m 193 #[.val (.long hh_), .second, .val (.long y0), .second, .val (.long y1), .second, .val (.long y2), .second, .val (.int sh), .val (.int (Int32.ofNat U)), .val (.int (Int32.ofNat K)), .val (.int (Int32.ofNat (Q + 1))), .val (.ref b101), .val (.ref t_131)] [(.int (1 : Int32))])) (fun t_ k_ => XS.iconst X131.here hx rfl (hb hby at_192) k_) ?_
        refine Go.fin X131 (v := some (.int (nar .boolean (1 : Int32)))) (fun h => by rw [Bd.returns] at h; cases h) hlk (by decide) (by decide) ?_ (fun fs hr => retN X131 hx (t := .boolean) Bd.returns (by simp) (hb hby at_193) hr)
        show Q_law Z hh_ y0 y1 y2 sh nt knt mr h0 n0 _ T131.heap _
        exact ⟨rfl, N131⟩
    · skip
      refine Go.by (T' := T) (g' := (mkF m 86 #[.val (.long hh_), .second, .val (.long y0), .second, .val (.long y1), .second, .val (.long y2), .second, .val (.int sh), .val (.int (Int32.ofNat U)), .val (.int (Int32.ofNat K)), .val (.int (Int32.ofNat (Q + 1))), .val (.ref b101), .unset] [])) (fun t_ k_ => XS.ifYes XJ.here hx rfl (pc0 := 75) (pc' := 86) rfl (hb hby at_75) rfl ((if0 _ _).trans (flt (by rw [show (0 : Int32) = Int32.ofNat 0 from rfl, own_lt (by omega) (by omega)]; exact hk0)).2.2.2) (by decide) (by decide) k_) ?_
      refine Go.by (T' := T) (g' := (mkF m 88 #[.val (.long hh_), .second, .val (.long y0), .second, .val (.long y1), .second, .val (.long y2), .second, .val (.int sh), .val (.int (Int32.ofNat U)), .val (.int (Int32.ofNat K)), .val (.int (Int32.ofNat (Q + 1))), .val (.ref b101), .unset] [(.int (Int32.ofNat K))])) (fun t_ k_ => XS.iload XJ.here hx rfl (hb hby at_86) rfl k_) ?_
      refine Go.by (T' := T) (g' := (mkF m 89 #[.val (.long hh_), .second, .val (.long y0), .second, .val (.long y1), .second, .val (.long y2), .second, .val (.int sh), .val (.int (Int32.ofNat U)), .val (.int (Int32.ofNat K)), .val (.int (Int32.ofNat (Q + 1))), .val (.ref b101), .unset] [(.int (1 : Int32)), (.int (Int32.ofNat K))])) (fun t_ k_ => XS.iconst XJ.here hx rfl (hb hby at_88) k_) ?_
      refine Go.by (T' := T) (g' := (mkF m 101 #[.val (.long hh_), .second, .val (.long y0), .second, .val (.long y1), .second, .val (.long y2), .second, .val (.int sh), .val (.int (Int32.ofNat U)), .val (.int (Int32.ofNat K)), .val (.int (Int32.ofNat (Q + 1))), .val (.ref b101), .unset] [])) (fun t_ k_ => XS.icmpYes XJ.here hx rfl (pc0 := 89) (pc' := 101) rfl (hb hby at_89) rfl (flt (by rw [show (1 : Int32) = Int32.ofNat 1 from rfl, own_lt (by omega) (by omega)]; omega)).2.2.2 (by decide) (by decide) k_) ?_
      refine Go.by (T' := T) (g' := (mkF m 103 #[.val (.long hh_), .second, .val (.long y0), .second, .val (.long y1), .second, .val (.long y2), .second, .val (.int sh), .val (.int (Int32.ofNat U)), .val (.int (Int32.ofNat K)), .val (.int (Int32.ofNat (Q + 1))), .val (.ref b101), .unset] [(.int (Int32.ofNat K))])) (fun t_ k_ => XS.iload XJ.here hx rfl (hb hby at_101) rfl k_) ?_
      refine Go.by (T' := T) (g' := (mkF m 104 #[.val (.long hh_), .second, .val (.long y0), .second, .val (.long y1), .second, .val (.long y2), .second, .val (.int sh), .val (.int (Int32.ofNat U)), .val (.int (Int32.ofNat K)), .val (.int (Int32.ofNat (Q + 1))), .val (.ref b101), .unset] [(.int (2 : Int32)), (.int (Int32.ofNat K))])) (fun t_ k_ => XS.iconst XJ.here hx rfl (hb hby at_103) k_) ?_
      refine Go.by (T' := T) (g' := (mkF m 116 #[.val (.long hh_), .second, .val (.long y0), .second, .val (.long y1), .second, .val (.long y2), .second, .val (.int sh), .val (.int (Int32.ofNat U)), .val (.int (Int32.ofNat K)), .val (.int (Int32.ofNat (Q + 1))), .val (.ref b101), .unset] [])) (fun t_ k_ => XS.icmpYes XJ.here hx rfl (pc0 := 104) (pc' := 116) rfl (hb hby at_104) rfl (flt (by rw [show (2 : Int32) = Int32.ofNat 2 from rfl, own_lt (by omega) (by omega)]; omega)).2.2.2 (by decide) (by decide) k_) ?_
      refine Go.by (T' := T) (g' := (mkF m 118 #[.val (.long hh_), .second, .val (.long y0), .second, .val (.long y1), .second, .val (.long y2), .second, .val (.int sh), .val (.int (Int32.ofNat U)), .val (.int (Int32.ofNat K)), .val (.int (Int32.ofNat (Q + 1))), .val (.ref b101), .unset] [(.ref b101)])) (fun t_ k_ => XS.aload XJ.here hx rfl (hb hby at_116) rfl rfl k_) ?_
      refine Go.by (T' := T) (g' := (mkF m 119 #[.val (.long hh_), .second, .val (.long y0), .second, .val (.long y1), .second, .val (.long y2), .second, .val (.int sh), .val (.int (Int32.ofNat U)), .val (.int (Int32.ofNat K)), .val (.int (Int32.ofNat (Q + 1))), .val (.ref b101), .unset] [(.long hh_), (.ref b101)])) (fun t_ k_ => XS.lloadN XJ.here hx rfl (hb hby at_118) rfl k_) ?_
      obtain ⟨cq135, kq135, q135a, q135b, q135c⟩ := isOf hZ eJ FJ0
      obtain ⟨_, _, ⟨T135, L135, k135, n135⟩, -, X135, ⟨Lc135, hQ135, l135, y135, z135⟩, st135⟩ := XJ.virtualBack hx (y := (⟨"com/example/tidegate/tidegate/Batch", "waits", "(J)[J"⟩ : MethodName)) (z := (⟨"com/example/tidegate/tidegate/Batch", "waits", "(J)[J"⟩ : MethodName)) hown (mvT hZ (hw _ (List.mem_of_getElem? (i := 104) rfl))) (mvT hZ (hw _ (List.mem_of_getElem? (i := 105) rfl))) (notFace_of_selects (args := #[]) (mvT hZ (hw _ (List.mem_of_getElem? (i := 107) rfl)))) (mvT hZ (hw _ (List.mem_of_getElem? (i := 107) rfl))) (mvT hZ (hw _ (List.mem_of_getElem? (i := 106) rfl))) (by decide) (backOf (W := 0) (rm_w0 l Z a0 hw [] b101 hh_ nt h n0 OJ FJ4 P0) hZ (hw _ (List.mem_of_getElem? (i := 108) rfl)) (hw _ (List.mem_of_getElem? (i := 2) rfl)) (by decide) (by decide)) q135a q135c (g := (mkF m 119 #[.val (.long hh_), .second, .val (.long y0), .second, .val (.long y1), .second, .val (.long y2), .second, .val (.int sh), .val (.int (Int32.ofNat U)), .val (.int (Int32.ofNat K)), .val (.int (Int32.ofNat (Q + 1))), .val (.ref b101), .unset] [(.long hh_), (.ref b101)])) rfl (by rw [hml]; rfl) (Steps.refl _) (argsL := [(.long hh_)]) (rest := []) (lenOf pd_14 rfl) rfl (by show 2 * 0 + _ ≤ _; exact Nat.le_of_eq rfl) (hb hby at_119) (fun _ _ => ⟨rfl, eJ, (by decide : 11 + 0 ≤ _), (by decide : 61 + 0 ≤ _)⟩)
      dsimp only [Pt.U, Pt.locs, Pt.cells, Pt.slots] at X135 l135 y135 z135 st135 hQ135
      subst l135 y135 z135
      obtain ⟨rfl, N135q, e135⟩ := hQ135
      have N135 := Fr.app NJ N135q
      refine Go.by (T' := T135) (g' := (mkF m 122 #[.val (.long hh_), .second, .val (.long y0), .second, .val (.long y1), .second, .val (.long y2), .second, .val (.int sh), .val (.int (Int32.ofNat U)), .val (.int (Int32.ofNat K)), .val (.int (Int32.ofNat (Q + 1))), .val (.ref b101), .unset] [(.ref nt)])) (fun t_ k_ => st135.trans k_) ?_
      have V136 : Arv Z h nt knt .long (0 : Int32) [] (.long (0 : Int64)) := hnt.ext OJ.2
      refine Go.by (T' := T135) (g' := (mkF m 124 #[.val (.long hh_), .second, .val (.long y0), .second, .val (.long y1), .second, .val (.long y2), .second, .val (.int sh), .val (.int (Int32.ofNat U)), .val (.int (Int32.ofNat K)), .val (.int (Int32.ofNat (Q + 1))), .val (.ref b101), .val (.ref nt)] [])) (fun t_ k_ => XS.astore X135.here hx rfl (hb hby at_122) rfl rfl (l' := #[.val (.long hh_), .second, .val (.long y0), .second, .val (.long y1), .second, .val (.long y2), .second, .val (.int sh), .val (.int (Int32.ofNat U)), .val (.int (Int32.ofNat K)), .val (.int (Int32.ofNat (Q + 1))), .val (.ref b101), .val (.ref nt)]) rfl k_) ?_
      refine Go.by (T' := T135) (g' := (mkF m 126 #[.val (.long hh_), .second, .val (.long y0), .second, .val (.long y1), .second, .val (.long y2), .second, .val (.int sh), .val (.int (Int32.ofNat U)), .val (.int (Int32.ofNat K)), .val (.int (Int32.ofNat (Q + 1))), .val (.ref b101), .val (.ref nt)] [(.ref nt)])) (fun t_ k_ => XS.aload X135.here hx rfl (hb hby at_124) rfl rfl k_) ?_
      obtain ⟨cl137, Ar137, -, Sz137, Ng137, -, -⟩ := id V136
      refine Go.by (T' := T135) (g' := (mkF m 127 #[.val (.long hh_), .second, .val (.long y0), .second, .val (.long y1), .second, .val (.long y2), .second, .val (.int sh), .val (.int (Int32.ofNat U)), .val (.int (Int32.ofNat K)), .val (.int (Int32.ofNat (Q + 1))), .val (.ref b101), .val (.ref nt)] [(.int (0 : Int32))])) (fun t_ k_ => X135.arraylength hx (by rw [e135]; exact Ar137.1) (State.isArrayOf_alike hZ.alike Ar137.2.1) (g := (mkF m 126 #[.val (.long hh_), .second, .val (.long y0), .second, .val (.long y1), .second, .val (.long y2), .second, .val (.int sh), .val (.int (Int32.ofNat U)), .val (.int (Int32.ofNat K)), .val (.int (Int32.ofNat (Q + 1))), .val (.ref b101), .val (.ref nt)] [(.ref nt)])) rfl rfl (hb hby at_126) _ (by rw [len_of Sz137 Ng137]; exact k_)) ?_
      refine Go.by (T' := T135) (g' := (mkF m 129 #[.val (.long hh_), .second, .val (.long y0), .second, .val (.long y1), .second, .val (.long y2), .second, .val (.int sh), .val (.int (Int32.ofNat U)), .val (.int (Int32.ofNat K)), .val (.int (Int32.ofNat (Q + 1))), .val (.ref b101), .val (.ref nt)] [(.int (Int32.ofNat K)), (.int (0 : Int32))])) (fun t_ k_ => XS.iload X135.here hx rfl (hb hby at_127) rfl k_) ?_
      refine Go.by (T' := T135) (g' := (mkF m 134 #[.val (.long hh_), .second, .val (.long y0), .second, .val (.long y1), .second, .val (.long y2), .second, .val (.int sh), .val (.int (Int32.ofNat U)), .val (.int (Int32.ofNat K)), .val (.int (Int32.ofNat (Q + 1))), .val (.ref b101), .val (.ref nt)] [])) (fun t_ k_ => XS.icmpYes X135.here hx rfl (pc0 := 129) (pc' := 134) rfl (hb hby at_129) rfl (teq (by rw [show (0 : Int32) = Int32.ofNat 0 from rfl, own_inj (by omega) (by omega)]; omega)).1 (by decide) (by decide) k_) ?_
      refine Go.by (T' := T135) (g' := (mkF m 136 #[.val (.long hh_), .second, .val (.long y0), .second, .val (.long y1), .second, .val (.long y2), .second, .val (.int sh), .val (.int (Int32.ofNat U)), .val (.int (Int32.ofNat K)), .val (.int (Int32.ofNat (Q + 1))), .val (.ref b101), .val (.ref nt)] [(.int (Int32.ofNat K))])) (fun t_ k_ => XS.iload X135.here hx rfl (hb hby at_134) rfl k_) ?_
      refine Go.by (T' := T135) (g' := (mkF m 152 #[.val (.long hh_), .second, .val (.long y0), .second, .val (.long y1), .second, .val (.long y2), .second, .val (.int sh), .val (.int (Int32.ofNat U)), .val (.int (Int32.ofNat K)), .val (.int (Int32.ofNat (Q + 1))), .val (.ref b101), .val (.ref nt)] [])) (fun t_ k_ => XS.ifYes X135.here hx rfl (pc0 := 136) (pc' := 152) rfl (hb hby at_136) rfl ((if0 _ _).trans (flt (by rw [show (0 : Int32) = Int32.ofNat 0 from rfl, own_lt (by omega) (by omega)]; omega)).2.2.2) (by decide) (by decide) k_) ?_
      refine Go.by (T' := T135) (g' := (mkF m 154 #[.val (.long hh_), .second, .val (.long y0), .second, .val (.long y1), .second, .val (.long y2), .second, .val (.int sh), .val (.int (Int32.ofNat U)), .val (.int (Int32.ofNat K)), .val (.int (Int32.ofNat (Q + 1))), .val (.ref b101), .val (.ref nt)] [(.int (Int32.ofNat K))])) (fun t_ k_ => XS.iload X135.here hx rfl (hb hby at_152) rfl k_) ?_
      refine Go.by (T' := T135) (g' := (mkF m 155 #[.val (.long hh_), .second, .val (.long y0), .second, .val (.long y1), .second, .val (.long y2), .second, .val (.int sh), .val (.int (Int32.ofNat U)), .val (.int (Int32.ofNat K)), .val (.int (Int32.ofNat (Q + 1))), .val (.ref b101), .val (.ref nt)] [(.int (1 : Int32)), (.int (Int32.ofNat K))])) (fun t_ k_ => XS.iconst X135.here hx rfl (hb hby at_154) k_) ?_
      refine Go.by (T' := T135) (g' := (mkF m 172 #[.val (.long hh_), .second, .val (.long y0), .second, .val (.long y1), .second, .val (.long y2), .second, .val (.int sh), .val (.int (Int32.ofNat U)), .val (.int (Int32.ofNat K)), .val (.int (Int32.ofNat (Q + 1))), .val (.ref b101), .val (.ref nt)] [])) (fun t_ k_ => XS.icmpYes X135.here hx rfl (pc0 := 155) (pc' := 172) rfl (hb hby at_155) rfl (flt (by rw [show (1 : Int32) = Int32.ofNat 1 from rfl, own_lt (by omega) (by omega)]; omega)).2.2.2 (by decide) (by decide) k_) ?_
      refine Go.by (T' := T135) (g' := (mkF m 174 #[.val (.long hh_), .second, .val (.long y0), .second, .val (.long y1), .second, .val (.long y2), .second, .val (.int sh), .val (.int (Int32.ofNat U)), .val (.int (Int32.ofNat K)), .val (.int (Int32.ofNat (Q + 1))), .val (.ref b101), .val (.ref nt)] [(.int (Int32.ofNat K))])) (fun t_ k_ => XS.iload X135.here hx rfl (hb hby at_172) rfl k_) ?_
      refine Go.by (T' := T135) (g' := (mkF m 175 #[.val (.long hh_), .second, .val (.long y0), .second, .val (.long y1), .second, .val (.long y2), .second, .val (.int sh), .val (.int (Int32.ofNat U)), .val (.int (Int32.ofNat K)), .val (.int (Int32.ofNat (Q + 1))), .val (.ref b101), .val (.ref nt)] [(.int (2 : Int32)), (.int (Int32.ofNat K))])) (fun t_ k_ => XS.iconst X135.here hx rfl (hb hby at_174) k_) ?_
      refine Go.by (T' := T135) (g' := (mkF m 192 #[.val (.long hh_), .second, .val (.long y0), .second, .val (.long y1), .second, .val (.long y2), .second, .val (.int sh), .val (.int (Int32.ofNat U)), .val (.int (Int32.ofNat K)), .val (.int (Int32.ofNat (Q + 1))), .val (.ref b101), .val (.ref nt)] [])) (fun t_ k_ => XS.icmpYes X135.here hx rfl (pc0 := 175) (pc' := 192) rfl (hb hby at_175) rfl (flt (by rw [show (2 : Int32) = Int32.ofNat 2 from rfl, own_lt (by omega) (by omega)]; omega)).2.2.2 (by decide) (by decide) k_) ?_
      refine Go.by (T' := T135) (g' := (mkF m 193 #[.val (.long hh_), .second, .val (.long y0), .second, .val (.long y1), .second, .val (.long y2), .second, .val (.int sh), .val (.int (Int32.ofNat U)), .val (.int (Int32.ofNat K)), .val (.int (Int32.ofNat (Q + 1))), .val (.ref b101), .val (.ref nt)] [(.int (1 : Int32))])) (fun t_ k_ => XS.iconst X135.here hx rfl (hb hby at_192) k_) ?_
      refine Go.fin X135 (v := some (.int (nar .boolean (1 : Int32)))) (fun h => by rw [Bd.returns] at h; cases h) hlk (by decide) (by decide) ?_ (fun fs hr => retN X135 hx (t := .boolean) Bd.returns (by simp) (hb hby at_193) hr)
      show Q_law Z hh_ y0 y1 y2 sh nt knt mr h0 n0 _ T135.heap _
      rw [e135]
      exact ⟨rfl, N135⟩
  by_cases hu0 : 0 < U
  · skip
    refine Go.by (T' := T109) (g' := (mkF m 40 #[.val (.long hh_), .second, .val (.long y0), .second, .val (.long y1), .second, .val (.long y2), .second, .val (.int sh), .val (.int (Int32.ofNat U)), .val (.int (Int32.ofNat K)), .val (.int (Int32.ofNat (Q + 1))), .val (.ref b101), .unset] [])) (fun t_ k_ => XS.ifNo X109.here hx rfl (hb hby at_37) rfl ((if0 _ _).trans (tlt (by rw [show (0 : Int32) = Int32.ofNat 0 from rfl, own_lt (by omega) (by omega)]; exact hu0)).2.2.2) k_) ?_
    refine Go.by (T' := T109) (g' := (mkF m 42 #[.val (.long hh_), .second, .val (.long y0), .second, .val (.long y1), .second, .val (.long y2), .second, .val (.int sh), .val (.int (Int32.ofNat U)), .val (.int (Int32.ofNat K)), .val (.int (Int32.ofNat (Q + 1))), .val (.ref b101), .unset] [(.ref b101)])) (fun t_ k_ => XS.aload X109.here hx rfl (hb hby at_40) rfl rfl k_) ?_
    refine Go.by (T' := T109) (g' := (mkF m 43 #[.val (.long hh_), .second, .val (.long y0), .second, .val (.long y1), .second, .val (.long y2), .second, .val (.int sh), .val (.int (Int32.ofNat U)), .val (.int (Int32.ofNat K)), .val (.int (Int32.ofNat (Q + 1))), .val (.ref b101), .unset] [.null, (.ref b101)])) (fun t_ k_ => XS.aconstNull X109.here hx rfl (hb hby at_42) k_) ?_
    refine Go.by (T' := T109) (g' := (mkF m 44 #[.val (.long hh_), .second, .val (.long y0), .second, .val (.long y1), .second, .val (.long y2), .second, .val (.int sh), .val (.int (Int32.ofNat U)), .val (.int (Int32.ofNat K)), .val (.int (Int32.ofNat (Q + 1))), .val (.ref b101), .unset] [.null, .null, (.ref b101)])) (fun t_ k_ => XS.aconstNull X109.here hx rfl (hb hby at_43) k_) ?_
    have hcc : 0 ≤ (Q + 1) ∧ (Q + 1) ≤ 7 ∧ 0 ≤ (Q + 1) ∧ (Q + 1) ≤ 7 := ⟨by omega, by omega, by omega, by omega⟩
    have Od138 : Old Z n0 T109.heap := (Od107.keep K109 (allS ge_b101 all0))
    have Kp139 : Keep h0 T109.heap [] := (Kp108.trans K109 (allS (Or.inr sz_b101) all0))
    obtain ⟨cq140, kq140, q140a, q140b, q140c⟩ := isOf hZ rfl G109_10
    obtain ⟨_, _, ⟨T140, L140, k140, n140⟩, -, X140, ⟨Lc140, hQ140, l140, y140, z140⟩, st140⟩ := X109.virtualBack hx (y := (⟨"com/example/tidegate/tidegate/Batch", "add", "(Ljava/lang/Object;Ljava/util/concurrent/CompletableFuture;)V"⟩ : MethodName)) (z := (⟨"com/example/tidegate/tidegate/Batch", "add", "(Ljava/lang/Object;Ljava/util/concurrent/CompletableFuture;)V"⟩ : MethodName)) hown (mvT hZ (hw _ (List.mem_of_getElem? (i := 40) rfl))) (mvT hZ (hw _ (List.mem_of_getElem? (i := 41) rfl))) (notFace_of_selects (args := #[]) (mvT hZ (hw _ (List.mem_of_getElem? (i := 43) rfl)))) (mvT hZ (hw _ (List.mem_of_getElem? (i := 43) rfl))) (mvT hZ (hw _ (List.mem_of_getElem? (i := 42) rfl))) (by decide) (backOf (W := 0) (rm_badd l Z a0 hw [] b101 l1_109 l2_109 e1_109 e2_109 0 (Q + 1) (Q + 1) (0 : Int32) (0 : Int32) k1_109 k2_109 mr T109.heap n0 Od138 G109_10 G109_12 G109_13 G109_16 G109_17 G109_18 G109_19 G109_20 G109_21 G109_22 G109_23 G109_24 G109_25 G109_26 G109_27 ge_l1_109 ge_l2_109 ge_e1_109 ge_e2_109 ne_b101_l1_109 ne_b101_l2_109 ne_b101_e1_109 ne_b101_e2_109 G109_4 G109_5 G109_6 G109_7 G109_8 G109_9 (by omega) (by omega) (by omega) (by omega) (by omega) (by omega) (by omega) hM) hZ (hw _ (List.mem_of_getElem? (i := 44) rfl)) (hw _ (List.mem_of_getElem? (i := 2) rfl)) (by decide) (by decide)) q140a q140c (g := (mkF m 44 #[.val (.long hh_), .second, .val (.long y0), .second, .val (.long y1), .second, .val (.long y2), .second, .val (.int sh), .val (.int (Int32.ofNat U)), .val (.int (Int32.ofNat K)), .val (.int (Int32.ofNat (Q + 1))), .val (.ref b101), .unset] [.null, .null, (.ref b101)])) rfl (by rw [hml]; rfl) (Steps.refl _) (argsL := [.null, .null]) (rest := []) (lenOf pd_11 rfl) rfl (by show 2 * 0 + _ ≤ _; exact Nat.le_of_eq rfl) (hb hby at_44) (fun _ _ => ⟨rfl, rfl, (by decide : 5 + 2 ≤ _), (by decide : 19 + 14 ≤ _)⟩)
    dsimp only [Pt.U, Pt.locs, Pt.cells, Pt.slots] at X140 l140 y140 z140 st140 hQ140
    subst l140 y140 z140
    obtain ⟨f1_140, f2_140, d1_140, d2_140, r1_140, r2_140, j1_140, j2_140, rfl, N140q, K140, G140_0, G140_1, G140_2, G140_3, G140_4, G140_5, G140_6, G140_7, G140_8, G140_9, G140_10, G140_11, G140_12, G140_13, G140_14, G140_15, G140_16, G140_17, G140_18, G140_19⟩ := hQ140
    have N140 := Fr.app N109 N140q
    have ge_f1_140 : n0 ≤ f1_140 := G140_0.elim (fun q => q.symm ▸ ge_e1_109) (fun q => Nat.le_trans Od138.sz q)
    have sz_f1_140 : h0.size ≤ f1_140 := G140_0.elim (fun q => q.symm ▸ sz_e1_109) (fun q => Nat.le_trans Kp139.1 q)
    have fo_f1_140 : f1_140 = e1_109 ∨ h0.size ≤ f1_140 := G140_0.imp id (fun q => Nat.le_trans Kp139.1 q)
    have ne_b101_f1_140 : ¬ (b101 = f1_140) := fun r => G140_0.elim (fun q => ne_b101_e1_109 (r.trans q)) (fun q => Nat.ne_of_lt (Nat.lt_of_lt_of_le G109_10.lt q) r)
    have ne_l1_109_f1_140 : ¬ (l1_109 = f1_140) := fun r => G140_0.elim (fun q => G109_5 (r.trans q)) (fun q => Nat.ne_of_lt (Nat.lt_of_lt_of_le G109_16.lt q) r)
    have ne_l2_109_f1_140 : ¬ (l2_109 = f1_140) := fun r => G140_0.elim (fun q => G109_7 (r.trans q)) (fun q => Nat.ne_of_lt (Nat.lt_of_lt_of_le G109_22.lt q) r)
    have ne_e2_109_f1_140 : ¬ (e2_109 = f1_140) := fun r => G140_0.elim (fun q => (Ne.symm G109_9) (r.trans q)) (fun q => Nat.ne_of_lt (Nat.lt_of_lt_of_le G109_26.lt q) r)
    have ge_f2_140 : n0 ≤ f2_140 := G140_1.elim (fun q => q.symm ▸ ge_e2_109) (fun q => Nat.le_trans Od138.sz q)
    have sz_f2_140 : h0.size ≤ f2_140 := G140_1.elim (fun q => q.symm ▸ sz_e2_109) (fun q => Nat.le_trans Kp139.1 q)
    have fo_f2_140 : f2_140 = e2_109 ∨ h0.size ≤ f2_140 := G140_1.imp id (fun q => Nat.le_trans Kp139.1 q)
    have ne_b101_f2_140 : ¬ (b101 = f2_140) := fun r => G140_1.elim (fun q => ne_b101_e2_109 (r.trans q)) (fun q => Nat.ne_of_lt (Nat.lt_of_lt_of_le G109_10.lt q) r)
    have ne_l1_109_f2_140 : ¬ (l1_109 = f2_140) := fun r => G140_1.elim (fun q => G109_6 (r.trans q)) (fun q => Nat.ne_of_lt (Nat.lt_of_lt_of_le G109_16.lt q) r)
    have ne_e1_109_f2_140 : ¬ (e1_109 = f2_140) := fun r => G140_1.elim (fun q => G109_9 (r.trans q)) (fun q => Nat.ne_of_lt (Nat.lt_of_lt_of_le G109_20.lt q) r)
    have ne_l2_109_f2_140 : ¬ (l2_109 = f2_140) := fun r => G140_1.elim (fun q => G109_8 (r.trans q)) (fun q => Nat.ne_of_lt (Nat.lt_of_lt_of_le G109_22.lt q) r)
    refine Go.by (T' := T140) (g' := (mkF m 47 #[.val (.long hh_), .second, .val (.long y0), .second, .val (.long y1), .second, .val (.long y2), .second, .val (.int sh), .val (.int (Int32.ofNat U)), .val (.int (Int32.ofNat K)), .val (.int (Int32.ofNat (Q + 1))), .val (.ref b101), .unset] [])) (fun t_ k_ => st140.trans k_) ?_
    refine Go.by (T' := T140) (g' := (mkF m 49 #[.val (.long hh_), .second, .val (.long y0), .second, .val (.long y1), .second, .val (.long y2), .second, .val (.int sh), .val (.int (Int32.ofNat U)), .val (.int (Int32.ofNat K)), .val (.int (Int32.ofNat (Q + 1))), .val (.ref b101), .unset] [(.int (Int32.ofNat U))])) (fun t_ k_ => XS.iload X140.here hx rfl (hb hby at_47) rfl k_) ?_
    refine Go.by (T' := T140) (g' := (mkF m 50 #[.val (.long hh_), .second, .val (.long y0), .second, .val (.long y1), .second, .val (.long y2), .second, .val (.int sh), .val (.int (Int32.ofNat U)), .val (.int (Int32.ofNat K)), .val (.int (Int32.ofNat (Q + 1))), .val (.ref b101), .unset] [(.int (1 : Int32)), (.int (Int32.ofNat U))])) (fun t_ k_ => XS.iconst X140.here hx rfl (hb hby at_49) k_) ?_
    by_cases hu1 : 1 < U
    · skip
      refine Go.by (T' := T140) (g' := (mkF m 53 #[.val (.long hh_), .second, .val (.long y0), .second, .val (.long y1), .second, .val (.long y2), .second, .val (.int sh), .val (.int (Int32.ofNat U)), .val (.int (Int32.ofNat K)), .val (.int (Int32.ofNat (Q + 1))), .val (.ref b101), .unset] [])) (fun t_ k_ => XS.icmpNo X140.here hx rfl (hb hby at_50) rfl (tlt (by rw [show (1 : Int32) = Int32.ofNat 1 from rfl, own_lt (by omega) (by omega)]; exact hu1)).2.2.2 k_) ?_
      refine Go.by (T' := T140) (g' := (mkF m 55 #[.val (.long hh_), .second, .val (.long y0), .second, .val (.long y1), .second, .val (.long y2), .second, .val (.int sh), .val (.int (Int32.ofNat U)), .val (.int (Int32.ofNat K)), .val (.int (Int32.ofNat (Q + 1))), .val (.ref b101), .unset] [(.ref b101)])) (fun t_ k_ => XS.aload X140.here hx rfl (hb hby at_53) rfl rfl k_) ?_
      refine Go.by (T' := T140) (g' := (mkF m 56 #[.val (.long hh_), .second, .val (.long y0), .second, .val (.long y1), .second, .val (.long y2), .second, .val (.int sh), .val (.int (Int32.ofNat U)), .val (.int (Int32.ofNat K)), .val (.int (Int32.ofNat (Q + 1))), .val (.ref b101), .unset] [.null, (.ref b101)])) (fun t_ k_ => XS.aconstNull X140.here hx rfl (hb hby at_55) k_) ?_
      refine Go.by (T' := T140) (g' := (mkF m 57 #[.val (.long hh_), .second, .val (.long y0), .second, .val (.long y1), .second, .val (.long y2), .second, .val (.int sh), .val (.int (Int32.ofNat U)), .val (.int (Int32.ofNat K)), .val (.int (Int32.ofNat (Q + 1))), .val (.ref b101), .unset] [.null, .null, (.ref b101)])) (fun t_ k_ => XS.aconstNull X140.here hx rfl (hb hby at_56) k_) ?_
      have hcc : 1 ≤ d1_140 ∧ d1_140 ≤ 7 ∧ 1 ≤ d2_140 ∧ d2_140 ≤ 7 := G140_7
      have F141 : Exa Z T140.heap b101 "com/example/tidegate/tidegate/Batch" := (G109_10.keep K140)
      have F142 : Fld Z T140.heap b101 "com/example/tidegate/tidegate/Batch" "items" "Ljava/util/List;" (.ref l1_109) := (G109_12.keep K140 (ninS ne_b101_l1_109 (ninS ne_b101_e1_109 (ninS ne_b101_l2_109 (ninS ne_b101_e2_109 nin0)))))
      have F143 : Fld Z T140.heap b101 "com/example/tidegate/tidegate/Batch" "completions" "Ljava/util/List;" (.ref l2_109) := (G109_13.keep K140 (ninS ne_b101_l1_109 (ninS ne_b101_e1_109 (ninS ne_b101_l2_109 (ninS ne_b101_e2_109 nin0)))))
      have Od144 : Old Z n0 T140.heap := (Od138.keep K140 (allS ge_l1_109 (allS ge_e1_109 (allS ge_l2_109 (allS ge_e2_109 all0)))))
      have Kp145 : Keep h0 T140.heap [] := (Kp139.trans K140 (allS (Or.inr sz_l1_109) (allS (Or.inr sz_e1_109) (allS (Or.inr sz_l2_109) (allS (Or.inr sz_e2_109) all0)))))
      obtain ⟨cq146, kq146, q146a, q146b, q146c⟩ := isOf hZ rfl F141
      obtain ⟨_, _, ⟨T146, L146, k146, n146⟩, -, X146, ⟨Lc146, hQ146, l146, y146, z146⟩, st146⟩ := X140.virtualBack hx (y := (⟨"com/example/tidegate/tidegate/Batch", "add", "(Ljava/lang/Object;Ljava/util/concurrent/CompletableFuture;)V"⟩ : MethodName)) (z := (⟨"com/example/tidegate/tidegate/Batch", "add", "(Ljava/lang/Object;Ljava/util/concurrent/CompletableFuture;)V"⟩ : MethodName)) hown (mvT hZ (hw _ (List.mem_of_getElem? (i := 40) rfl))) (mvT hZ (hw _ (List.mem_of_getElem? (i := 41) rfl))) (notFace_of_selects (args := #[]) (mvT hZ (hw _ (List.mem_of_getElem? (i := 43) rfl)))) (mvT hZ (hw _ (List.mem_of_getElem? (i := 43) rfl))) (mvT hZ (hw _ (List.mem_of_getElem? (i := 42) rfl))) (by decide) (backOf (W := 0) (rm_badd l Z a0 hw [] b101 l1_109 l2_109 f1_140 f2_140 1 d1_140 d2_140 r1_140 r2_140 j1_140 j2_140 mr T140.heap n0 Od144 F141 F142 F143 G140_8 G140_9 G140_10 G140_11 G140_12 G140_13 G140_14 G140_15 G140_16 G140_17 G140_18 G140_19 ge_l1_109 ge_l2_109 ge_f1_140 ge_f2_140 ne_b101_l1_109 ne_b101_l2_109 ne_b101_f1_140 ne_b101_f2_140 G109_4 G140_2 G140_4 G140_5 G140_3 G140_6 (by omega) (by omega) (by omega) (by omega) (by omega) (by omega) (by omega) hM) hZ (hw _ (List.mem_of_getElem? (i := 44) rfl)) (hw _ (List.mem_of_getElem? (i := 2) rfl)) (by decide) (by decide)) q146a q146c (g := (mkF m 57 #[.val (.long hh_), .second, .val (.long y0), .second, .val (.long y1), .second, .val (.long y2), .second, .val (.int sh), .val (.int (Int32.ofNat U)), .val (.int (Int32.ofNat K)), .val (.int (Int32.ofNat (Q + 1))), .val (.ref b101), .unset] [.null, .null, (.ref b101)])) rfl (by rw [hml]; rfl) (Steps.refl _) (argsL := [.null, .null]) (rest := []) (lenOf pd_11 rfl) rfl (by show 2 * 0 + _ ≤ _; exact Nat.le_of_eq rfl) (hb hby at_57) (fun _ _ => ⟨rfl, rfl, (by decide : 7 + 2 ≤ _), (by decide : 33 + 14 ≤ _)⟩)
      dsimp only [Pt.U, Pt.locs, Pt.cells, Pt.slots] at X146 l146 y146 z146 st146 hQ146
      subst l146 y146 z146
      obtain ⟨f1_146, f2_146, d1_146, d2_146, r1_146, r2_146, j1_146, j2_146, rfl, N146q, K146, G146_0, G146_1, G146_2, G146_3, G146_4, G146_5, G146_6, G146_7, G146_8, G146_9, G146_10, G146_11, G146_12, G146_13, G146_14, G146_15, G146_16, G146_17, G146_18, G146_19⟩ := hQ146
      have N146 := Fr.app N140 N146q
      have ge_f1_146 : n0 ≤ f1_146 := G146_0.elim (fun q => q.symm ▸ ge_f1_140) (fun q => Nat.le_trans Od144.sz q)
      have sz_f1_146 : h0.size ≤ f1_146 := G146_0.elim (fun q => q.symm ▸ sz_f1_140) (fun q => Nat.le_trans Kp145.1 q)
      have fo_f1_146 : f1_146 = f1_140 ∨ h0.size ≤ f1_146 := G146_0.imp id (fun q => Nat.le_trans Kp145.1 q)
      have ne_b101_f1_146 : ¬ (b101 = f1_146) := fun r => G146_0.elim (fun q => ne_b101_f1_140 (r.trans q)) (fun q => Nat.ne_of_lt (Nat.lt_of_lt_of_le F141.lt q) r)
      have ne_l1_109_f1_146 : ¬ (l1_109 = f1_146) := fun r => G146_0.elim (fun q => G140_2 (r.trans q)) (fun q => Nat.ne_of_lt (Nat.lt_of_lt_of_le G140_8.lt q) r)
      have ne_l2_109_f1_146 : ¬ (l2_109 = f1_146) := fun r => G146_0.elim (fun q => G140_5 (r.trans q)) (fun q => Nat.ne_of_lt (Nat.lt_of_lt_of_le G140_14.lt q) r)
      have ne_f2_140_f1_146 : ¬ (f2_140 = f1_146) := fun r => G146_0.elim (fun q => (Ne.symm G140_6) (r.trans q)) (fun q => Nat.ne_of_lt (Nat.lt_of_lt_of_le G140_18.lt q) r)
      have ge_f2_146 : n0 ≤ f2_146 := G146_1.elim (fun q => q.symm ▸ ge_f2_140) (fun q => Nat.le_trans Od144.sz q)
      have sz_f2_146 : h0.size ≤ f2_146 := G146_1.elim (fun q => q.symm ▸ sz_f2_140) (fun q => Nat.le_trans Kp145.1 q)
      have fo_f2_146 : f2_146 = f2_140 ∨ h0.size ≤ f2_146 := G146_1.imp id (fun q => Nat.le_trans Kp145.1 q)
      have ne_b101_f2_146 : ¬ (b101 = f2_146) := fun r => G146_1.elim (fun q => ne_b101_f2_140 (r.trans q)) (fun q => Nat.ne_of_lt (Nat.lt_of_lt_of_le F141.lt q) r)
      have ne_l1_109_f2_146 : ¬ (l1_109 = f2_146) := fun r => G146_1.elim (fun q => G140_4 (r.trans q)) (fun q => Nat.ne_of_lt (Nat.lt_of_lt_of_le G140_8.lt q) r)
      have ne_l2_109_f2_146 : ¬ (l2_109 = f2_146) := fun r => G146_1.elim (fun q => G140_3 (r.trans q)) (fun q => Nat.ne_of_lt (Nat.lt_of_lt_of_le G140_14.lt q) r)
      have ne_f1_140_f2_146 : ¬ (f1_140 = f2_146) := fun r => G146_1.elim (fun q => G140_6 (r.trans q)) (fun q => Nat.ne_of_lt (Nat.lt_of_lt_of_le G140_12.lt q) r)
      refine Go.by (T' := T146) (g' := (mkF m 60 #[.val (.long hh_), .second, .val (.long y0), .second, .val (.long y1), .second, .val (.long y2), .second, .val (.int sh), .val (.int (Int32.ofNat U)), .val (.int (Int32.ofNat K)), .val (.int (Int32.ofNat (Q + 1))), .val (.ref b101), .unset] [])) (fun t_ k_ => st146.trans k_) ?_
      refine Go.by (T' := T146) (g' := (mkF m 62 #[.val (.long hh_), .second, .val (.long y0), .second, .val (.long y1), .second, .val (.long y2), .second, .val (.int sh), .val (.int (Int32.ofNat U)), .val (.int (Int32.ofNat K)), .val (.int (Int32.ofNat (Q + 1))), .val (.ref b101), .unset] [(.int (Int32.ofNat U))])) (fun t_ k_ => XS.iload X146.here hx rfl (hb hby at_60) rfl k_) ?_
      refine Go.by (T' := T146) (g' := (mkF m 63 #[.val (.long hh_), .second, .val (.long y0), .second, .val (.long y1), .second, .val (.long y2), .second, .val (.int sh), .val (.int (Int32.ofNat U)), .val (.int (Int32.ofNat K)), .val (.int (Int32.ofNat (Q + 1))), .val (.ref b101), .unset] [(.int (2 : Int32)), (.int (Int32.ofNat U))])) (fun t_ k_ => XS.iconst X146.here hx rfl (hb hby at_62) k_) ?_
      by_cases hu2 : 2 < U
      · skip
        refine Go.by (T' := T146) (g' := (mkF m 66 #[.val (.long hh_), .second, .val (.long y0), .second, .val (.long y1), .second, .val (.long y2), .second, .val (.int sh), .val (.int (Int32.ofNat U)), .val (.int (Int32.ofNat K)), .val (.int (Int32.ofNat (Q + 1))), .val (.ref b101), .unset] [])) (fun t_ k_ => XS.icmpNo X146.here hx rfl (hb hby at_63) rfl (tlt (by rw [show (2 : Int32) = Int32.ofNat 2 from rfl, own_lt (by omega) (by omega)]; exact hu2)).2.2.2 k_) ?_
        refine Go.by (T' := T146) (g' := (mkF m 68 #[.val (.long hh_), .second, .val (.long y0), .second, .val (.long y1), .second, .val (.long y2), .second, .val (.int sh), .val (.int (Int32.ofNat U)), .val (.int (Int32.ofNat K)), .val (.int (Int32.ofNat (Q + 1))), .val (.ref b101), .unset] [(.ref b101)])) (fun t_ k_ => XS.aload X146.here hx rfl (hb hby at_66) rfl rfl k_) ?_
        refine Go.by (T' := T146) (g' := (mkF m 69 #[.val (.long hh_), .second, .val (.long y0), .second, .val (.long y1), .second, .val (.long y2), .second, .val (.int sh), .val (.int (Int32.ofNat U)), .val (.int (Int32.ofNat K)), .val (.int (Int32.ofNat (Q + 1))), .val (.ref b101), .unset] [.null, (.ref b101)])) (fun t_ k_ => XS.aconstNull X146.here hx rfl (hb hby at_68) k_) ?_
        refine Go.by (T' := T146) (g' := (mkF m 70 #[.val (.long hh_), .second, .val (.long y0), .second, .val (.long y1), .second, .val (.long y2), .second, .val (.int sh), .val (.int (Int32.ofNat U)), .val (.int (Int32.ofNat K)), .val (.int (Int32.ofNat (Q + 1))), .val (.ref b101), .unset] [.null, .null, (.ref b101)])) (fun t_ k_ => XS.aconstNull X146.here hx rfl (hb hby at_69) k_) ?_
        have hcc : 2 ≤ d1_146 ∧ d1_146 ≤ 7 ∧ 2 ≤ d2_146 ∧ d2_146 ≤ 7 := G146_7
        have F147 : Exa Z T146.heap b101 "com/example/tidegate/tidegate/Batch" := (F141.keep K146)
        have F148 : Fld Z T146.heap b101 "com/example/tidegate/tidegate/Batch" "items" "Ljava/util/List;" (.ref l1_109) := (F142.keep K146 (ninS ne_b101_l1_109 (ninS ne_b101_f1_140 (ninS ne_b101_l2_109 (ninS ne_b101_f2_140 nin0)))))
        have F149 : Fld Z T146.heap b101 "com/example/tidegate/tidegate/Batch" "completions" "Ljava/util/List;" (.ref l2_109) := (F143.keep K146 (ninS ne_b101_l1_109 (ninS ne_b101_f1_140 (ninS ne_b101_l2_109 (ninS ne_b101_f2_140 nin0)))))
        have Od150 : Old Z n0 T146.heap := (Od144.keep K146 (allS ge_l1_109 (allS ge_f1_140 (allS ge_l2_109 (allS ge_f2_140 all0)))))
        have Kp151 : Keep h0 T146.heap [] := (Kp145.trans K146 (allS (Or.inr sz_l1_109) (allS (Or.inr sz_f1_140) (allS (Or.inr sz_l2_109) (allS (Or.inr sz_f2_140) all0)))))
        obtain ⟨cq152, kq152, q152a, q152b, q152c⟩ := isOf hZ rfl F147
        obtain ⟨_, _, ⟨T152, L152, k152, n152⟩, -, X152, ⟨Lc152, hQ152, l152, y152, z152⟩, st152⟩ := X146.virtualBack hx (y := (⟨"com/example/tidegate/tidegate/Batch", "add", "(Ljava/lang/Object;Ljava/util/concurrent/CompletableFuture;)V"⟩ : MethodName)) (z := (⟨"com/example/tidegate/tidegate/Batch", "add", "(Ljava/lang/Object;Ljava/util/concurrent/CompletableFuture;)V"⟩ : MethodName)) hown (mvT hZ (hw _ (List.mem_of_getElem? (i := 40) rfl))) (mvT hZ (hw _ (List.mem_of_getElem? (i := 41) rfl))) (notFace_of_selects (args := #[]) (mvT hZ (hw _ (List.mem_of_getElem? (i := 43) rfl)))) (mvT hZ (hw _ (List.mem_of_getElem? (i := 43) rfl))) (mvT hZ (hw _ (List.mem_of_getElem? (i := 42) rfl))) (by decide) (backOf (W := 0) (rm_badd l Z a0 hw [] b101 l1_109 l2_109 f1_146 f2_146 2 d1_146 d2_146 r1_146 r2_146 j1_146 j2_146 mr T146.heap n0 Od150 F147 F148 F149 G146_8 G146_9 G146_10 G146_11 G146_12 G146_13 G146_14 G146_15 G146_16 G146_17 G146_18 G146_19 ge_l1_109 ge_l2_109 ge_f1_146 ge_f2_146 ne_b101_l1_109 ne_b101_l2_109 ne_b101_f1_146 ne_b101_f2_146 G109_4 G146_2 G146_4 G146_5 G146_3 G146_6 (by omega) (by omega) (by omega) (by omega) (by omega) (by omega) (by omega) hM) hZ (hw _ (List.mem_of_getElem? (i := 44) rfl)) (hw _ (List.mem_of_getElem? (i := 2) rfl)) (by decide) (by decide)) q152a q152c (g := (mkF m 70 #[.val (.long hh_), .second, .val (.long y0), .second, .val (.long y1), .second, .val (.long y2), .second, .val (.int sh), .val (.int (Int32.ofNat U)), .val (.int (Int32.ofNat K)), .val (.int (Int32.ofNat (Q + 1))), .val (.ref b101), .unset] [.null, .null, (.ref b101)])) rfl (by rw [hml]; rfl) (Steps.refl _) (argsL := [.null, .null]) (rest := []) (lenOf pd_11 rfl) rfl (by show 2 * 0 + _ ≤ _; exact Nat.le_of_eq rfl) (hb hby at_70) (fun _ _ => ⟨rfl, rfl, (by decide : 9 + 2 ≤ _), (by decide : 47 + 14 ≤ _)⟩)
        dsimp only [Pt.U, Pt.locs, Pt.cells, Pt.slots] at X152 l152 y152 z152 st152 hQ152
        subst l152 y152 z152
        obtain ⟨f1_152, f2_152, d1_152, d2_152, r1_152, r2_152, j1_152, j2_152, rfl, N152q, K152, G152_0, G152_1, G152_2, G152_3, G152_4, G152_5, G152_6, G152_7, G152_8, G152_9, G152_10, G152_11, G152_12, G152_13, G152_14, G152_15, G152_16, G152_17, G152_18, G152_19⟩ := hQ152
        have N152 := Fr.app N146 N152q
        have ge_f1_152 : n0 ≤ f1_152 := G152_0.elim (fun q => q.symm ▸ ge_f1_146) (fun q => Nat.le_trans Od150.sz q)
        have sz_f1_152 : h0.size ≤ f1_152 := G152_0.elim (fun q => q.symm ▸ sz_f1_146) (fun q => Nat.le_trans Kp151.1 q)
        have fo_f1_152 : f1_152 = f1_146 ∨ h0.size ≤ f1_152 := G152_0.imp id (fun q => Nat.le_trans Kp151.1 q)
        have ne_b101_f1_152 : ¬ (b101 = f1_152) := fun r => G152_0.elim (fun q => ne_b101_f1_146 (r.trans q)) (fun q => Nat.ne_of_lt (Nat.lt_of_lt_of_le F147.lt q) r)
        have ne_l1_109_f1_152 : ¬ (l1_109 = f1_152) := fun r => G152_0.elim (fun q => G146_2 (r.trans q)) (fun q => Nat.ne_of_lt (Nat.lt_of_lt_of_le G146_8.lt q) r)
        have ne_l2_109_f1_152 : ¬ (l2_109 = f1_152) := fun r => G152_0.elim (fun q => G146_5 (r.trans q)) (fun q => Nat.ne_of_lt (Nat.lt_of_lt_of_le G146_14.lt q) r)
        have ne_f2_146_f1_152 : ¬ (f2_146 = f1_152) := fun r => G152_0.elim (fun q => (Ne.symm G146_6) (r.trans q)) (fun q => Nat.ne_of_lt (Nat.lt_of_lt_of_le G146_18.lt q) r)
        have ge_f2_152 : n0 ≤ f2_152 := G152_1.elim (fun q => q.symm ▸ ge_f2_146) (fun q => Nat.le_trans Od150.sz q)
        have sz_f2_152 : h0.size ≤ f2_152 := G152_1.elim (fun q => q.symm ▸ sz_f2_146) (fun q => Nat.le_trans Kp151.1 q)
        have fo_f2_152 : f2_152 = f2_146 ∨ h0.size ≤ f2_152 := G152_1.imp id (fun q => Nat.le_trans Kp151.1 q)
        have ne_b101_f2_152 : ¬ (b101 = f2_152) := fun r => G152_1.elim (fun q => ne_b101_f2_146 (r.trans q)) (fun q => Nat.ne_of_lt (Nat.lt_of_lt_of_le F147.lt q) r)
        have ne_l1_109_f2_152 : ¬ (l1_109 = f2_152) := fun r => G152_1.elim (fun q => G146_4 (r.trans q)) (fun q => Nat.ne_of_lt (Nat.lt_of_lt_of_le G146_8.lt q) r)
        have ne_l2_109_f2_152 : ¬ (l2_109 = f2_152) := fun r => G152_1.elim (fun q => G146_3 (r.trans q)) (fun q => Nat.ne_of_lt (Nat.lt_of_lt_of_le G146_14.lt q) r)
        have ne_f1_146_f2_152 : ¬ (f1_146 = f2_152) := fun r => G152_1.elim (fun q => G146_6 (r.trans q)) (fun q => Nat.ne_of_lt (Nat.lt_of_lt_of_le G146_12.lt q) r)
        refine Go.by (T' := T152) (g' := (mkF m 73 #[.val (.long hh_), .second, .val (.long y0), .second, .val (.long y1), .second, .val (.long y2), .second, .val (.int sh), .val (.int (Int32.ofNat U)), .val (.int (Int32.ofNat K)), .val (.int (Int32.ofNat (Q + 1))), .val (.ref b101), .unset] [])) (fun t_ k_ => st152.trans k_) ?_
        have hcc : 3 ≤ d1_152 ∧ d1_152 ≤ 7 ∧ 3 ≤ d2_152 ∧ d2_152 ≤ 7 := G152_7
        have F153 : Exa Z T152.heap b101 "com/example/tidegate/tidegate/Batch" := (F147.keep K152)
        have F154 : Fld Z T152.heap b101 "com/example/tidegate/tidegate/Batch" "presized" "I" (.int (Int32.ofNat (Q + 1))) := (((G109_11.keep K140 (ninS ne_b101_l1_109 (ninS ne_b101_e1_109 (ninS ne_b101_l2_109 (ninS ne_b101_e2_109 nin0))))).keep K146 (ninS ne_b101_l1_109 (ninS ne_b101_f1_140 (ninS ne_b101_l2_109 (ninS ne_b101_f2_140 nin0))))).keep K152 (ninS ne_b101_l1_109 (ninS ne_b101_f1_146 (ninS ne_b101_l2_109 (ninS ne_b101_f2_146 nin0)))))
        have F155 : Fld Z T152.heap b101 "com/example/tidegate/tidegate/Batch" "items" "Ljava/util/List;" (.ref l1_109) := (F148.keep K152 (ninS ne_b101_l1_109 (ninS ne_b101_f1_146 (ninS ne_b101_l2_109 (ninS ne_b101_f2_146 nin0)))))
        have F156 : Fld Z T152.heap b101 "com/example/tidegate/tidegate/Batch" "completions" "Ljava/util/List;" (.ref l2_109) := (F149.keep K152 (ninS ne_b101_l1_109 (ninS ne_b101_f1_146 (ninS ne_b101_l2_109 (ninS ne_b101_f2_146 nin0)))))
        have F157 : Fld Z T152.heap b101 "com/example/tidegate/tidegate/Batch" "acceptedAt" "[J" .null := (((G109_14.keep K140 (ninS ne_b101_l1_109 (ninS ne_b101_e1_109 (ninS ne_b101_l2_109 (ninS ne_b101_e2_109 nin0))))).keep K146 (ninS ne_b101_l1_109 (ninS ne_b101_f1_140 (ninS ne_b101_l2_109 (ninS ne_b101_f2_140 nin0))))).keep K152 (ninS ne_b101_l1_109 (ninS ne_b101_f1_146 (ninS ne_b101_l2_109 (ninS ne_b101_f2_146 nin0)))))
        have F158 : Fld Z T152.heap b101 "com/example/tidegate/tidegate/Batch" "firstTimed" "I" (.int (0 : Int32)) := (((G109_15.keep K140 (ninS ne_b101_l1_109 (ninS ne_b101_e1_109 (ninS ne_b101_l2_109 (ninS ne_b101_e2_109 nin0))))).keep K146 (ninS ne_b101_l1_109 (ninS ne_b101_f1_140 (ninS ne_b101_l2_109 (ninS ne_b101_f2_140 nin0))))).keep K152 (ninS ne_b101_l1_109 (ninS ne_b101_f1_146 (ninS ne_b101_l2_109 (ninS ne_b101_f2_146 nin0)))))
        have Od159 : Old Z n0 T152.heap := (Od150.keep K152 (allS ge_l1_109 (allS ge_f1_146 (allS ge_l2_109 (allS ge_f2_146 all0)))))
        have Kp160 : Keep h0 T152.heap [] := (Kp151.trans K152 (allS (Or.inr sz_l1_109) (allS (Or.inr sz_f1_146) (allS (Or.inr sz_l2_109) (allS (Or.inr sz_f2_146) all0)))))
        exact J73 (3) (f1_152) (f2_152) (d1_152) (d2_152) (r1_152) (r2_152) (j1_152) (j2_152) X152 rfl N152 Od159 Kp160 F153 F154 F155 F156 F157 F158 G152_8 G152_9 G152_10 G152_11 G152_12 G152_13 G152_14 G152_15 G152_16 G152_17 G152_18 G152_19 (by omega) (⟨by omega, by omega, by omega, by omega, by omega, by omega⟩) (ge_f1_152) (ge_f2_152) (sz_f1_152) (sz_f2_152) (ne_b101_f1_152) (ne_b101_f2_152) (G152_2) (G152_4) (G152_5) (G152_3) (G152_6)
      · skip
        refine Go.by (T' := T146) (g' := (mkF m 73 #[.val (.long hh_), .second, .val (.long y0), .second, .val (.long y1), .second, .val (.long y2), .second, .val (.int sh), .val (.int (Int32.ofNat U)), .val (.int (Int32.ofNat K)), .val (.int (Int32.ofNat (Q + 1))), .val (.ref b101), .unset] [])) (fun t_ k_ => XS.icmpYes X146.here hx rfl (pc0 := 63) (pc' := 73) rfl (hb hby at_63) rfl (flt (by rw [show (2 : Int32) = Int32.ofNat 2 from rfl, own_lt (by omega) (by omega)]; exact hu2)).2.2.2 (by decide) (by decide) k_) ?_
        have hcc : 2 ≤ d1_146 ∧ d1_146 ≤ 7 ∧ 2 ≤ d2_146 ∧ d2_146 ≤ 7 := G146_7
        have F161 : Exa Z T146.heap b101 "com/example/tidegate/tidegate/Batch" := (F141.keep K146)
        have F162 : Fld Z T146.heap b101 "com/example/tidegate/tidegate/Batch" "presized" "I" (.int (Int32.ofNat (Q + 1))) := ((G109_11.keep K140 (ninS ne_b101_l1_109 (ninS ne_b101_e1_109 (ninS ne_b101_l2_109 (ninS ne_b101_e2_109 nin0))))).keep K146 (ninS ne_b101_l1_109 (ninS ne_b101_f1_140 (ninS ne_b101_l2_109 (ninS ne_b101_f2_140 nin0)))))
        have F163 : Fld Z T146.heap b101 "com/example/tidegate/tidegate/Batch" "items" "Ljava/util/List;" (.ref l1_109) := (F142.keep K146 (ninS ne_b101_l1_109 (ninS ne_b101_f1_140 (ninS ne_b101_l2_109 (ninS ne_b101_f2_140 nin0)))))
        have F164 : Fld Z T146.heap b101 "com/example/tidegate/tidegate/Batch" "completions" "Ljava/util/List;" (.ref l2_109) := (F143.keep K146 (ninS ne_b101_l1_109 (ninS ne_b101_f1_140 (ninS ne_b101_l2_109 (ninS ne_b101_f2_140 nin0)))))
        have F165 : Fld Z T146.heap b101 "com/example/tidegate/tidegate/Batch" "acceptedAt" "[J" .null := ((G109_14.keep K140 (ninS ne_b101_l1_109 (ninS ne_b101_e1_109 (ninS ne_b101_l2_109 (ninS ne_b101_e2_109 nin0))))).keep K146 (ninS ne_b101_l1_109 (ninS ne_b101_f1_140 (ninS ne_b101_l2_109 (ninS ne_b101_f2_140 nin0)))))
        have F166 : Fld Z T146.heap b101 "com/example/tidegate/tidegate/Batch" "firstTimed" "I" (.int (0 : Int32)) := ((G109_15.keep K140 (ninS ne_b101_l1_109 (ninS ne_b101_e1_109 (ninS ne_b101_l2_109 (ninS ne_b101_e2_109 nin0))))).keep K146 (ninS ne_b101_l1_109 (ninS ne_b101_f1_140 (ninS ne_b101_l2_109 (ninS ne_b101_f2_140 nin0)))))
        have Od167 : Old Z n0 T146.heap := (Od144.keep K146 (allS ge_l1_109 (allS ge_f1_140 (allS ge_l2_109 (allS ge_f2_140 all0)))))
        have Kp168 : Keep h0 T146.heap [] := (Kp145.trans K146 (allS (Or.inr sz_l1_109) (allS (Or.inr sz_f1_140) (allS (Or.inr sz_l2_109) (allS (Or.inr sz_f2_140) all0)))))
        exact J73 (2) (f1_146) (f2_146) (d1_146) (d2_146) (r1_146) (r2_146) (j1_146) (j2_146) (X146.more (by decide) (by decide)) rfl N146 Od167 Kp168 F161 F162 F163 F164 F165 F166 G146_8 G146_9 G146_10 G146_11 G146_12 G146_13 G146_14 G146_15 G146_16 G146_17 G146_18 G146_19 (by omega) (⟨by omega, by omega, by omega, by omega, by omega, by omega⟩) (ge_f1_146) (ge_f2_146) (sz_f1_146) (sz_f2_146) (ne_b101_f1_146) (ne_b101_f2_146) (G146_2) (G146_4) (G146_5) (G146_3) (G146_6)
    · skip
      refine Go.by (T' := T140) (g' := (mkF m 60 #[.val (.long hh_), .second, .val (.long y0), .second, .val (.long y1), .second, .val (.long y2), .second, .val (.int sh), .val (.int (Int32.ofNat U)), .val (.int (Int32.ofNat K)), .val (.int (Int32.ofNat (Q + 1))), .val (.ref b101), .unset] [])) (fun t_ k_ => XS.icmpYes X140.here hx rfl (pc0 := 50) (pc' := 60) rfl (hb hby at_50) rfl (flt (by rw [show (1 : Int32) = Int32.ofNat 1 from rfl, own_lt (by omega) (by omega)]; exact hu1)).2.2.2 (by decide) (by decide) k_) ?_
      refine Go.by (T' := T140) (g' := (mkF m 62 #[.val (.long hh_), .second, .val (.long y0), .second, .val (.long y1), .second, .val (.long y2), .second, .val (.int sh), .val (.int (Int32.ofNat U)), .val (.int (Int32.ofNat K)), .val (.int (Int32.ofNat (Q + 1))), .val (.ref b101), .unset] [(.int (Int32.ofNat U))])) (fun t_ k_ => XS.iload X140.here hx rfl (hb hby at_60) rfl k_) ?_
      refine Go.by (T' := T140) (g' := (mkF m 63 #[.val (.long hh_), .second, .val (.long y0), .second, .val (.long y1), .second, .val (.long y2), .second, .val (.int sh), .val (.int (Int32.ofNat U)), .val (.int (Int32.ofNat K)), .val (.int (Int32.ofNat (Q + 1))), .val (.ref b101), .unset] [(.int (2 : Int32)), (.int (Int32.ofNat U))])) (fun t_ k_ => XS.iconst X140.here hx rfl (hb hby at_62) k_) ?_
      refine Go.by (T' := T140) (g' := (mkF m 73 #[.val (.long hh_), .second, .val (.long y0), .second, .val (.long y1), .second, .val (.long y2), .second, .val (.int sh), .val (.int (Int32.ofNat U)), .val (.int (Int32.ofNat K)), .val (.int (Int32.ofNat (Q + 1))), .val (.ref b101), .unset] [])) (fun t_ k_ => XS.icmpYes X140.here hx rfl (pc0 := 63) (pc' := 73) rfl (hb hby at_63) rfl (flt (by rw [show (2 : Int32) = Int32.ofNat 2 from rfl, own_lt (by omega) (by omega)]; omega)).2.2.2 (by decide) (by decide) k_) ?_
      have hcc : 1 ≤ d1_140 ∧ d1_140 ≤ 7 ∧ 1 ≤ d2_140 ∧ d2_140 ≤ 7 := G140_7
      have F169 : Exa Z T140.heap b101 "com/example/tidegate/tidegate/Batch" := (G109_10.keep K140)
      have F170 : Fld Z T140.heap b101 "com/example/tidegate/tidegate/Batch" "presized" "I" (.int (Int32.ofNat (Q + 1))) := (G109_11.keep K140 (ninS ne_b101_l1_109 (ninS ne_b101_e1_109 (ninS ne_b101_l2_109 (ninS ne_b101_e2_109 nin0)))))
      have F171 : Fld Z T140.heap b101 "com/example/tidegate/tidegate/Batch" "items" "Ljava/util/List;" (.ref l1_109) := (G109_12.keep K140 (ninS ne_b101_l1_109 (ninS ne_b101_e1_109 (ninS ne_b101_l2_109 (ninS ne_b101_e2_109 nin0)))))
      have F172 : Fld Z T140.heap b101 "com/example/tidegate/tidegate/Batch" "completions" "Ljava/util/List;" (.ref l2_109) := (G109_13.keep K140 (ninS ne_b101_l1_109 (ninS ne_b101_e1_109 (ninS ne_b101_l2_109 (ninS ne_b101_e2_109 nin0)))))
      have F173 : Fld Z T140.heap b101 "com/example/tidegate/tidegate/Batch" "acceptedAt" "[J" .null := (G109_14.keep K140 (ninS ne_b101_l1_109 (ninS ne_b101_e1_109 (ninS ne_b101_l2_109 (ninS ne_b101_e2_109 nin0)))))
      have F174 : Fld Z T140.heap b101 "com/example/tidegate/tidegate/Batch" "firstTimed" "I" (.int (0 : Int32)) := (G109_15.keep K140 (ninS ne_b101_l1_109 (ninS ne_b101_e1_109 (ninS ne_b101_l2_109 (ninS ne_b101_e2_109 nin0)))))
      have Od175 : Old Z n0 T140.heap := (Od138.keep K140 (allS ge_l1_109 (allS ge_e1_109 (allS ge_l2_109 (allS ge_e2_109 all0)))))
      have Kp176 : Keep h0 T140.heap [] := (Kp139.trans K140 (allS (Or.inr sz_l1_109) (allS (Or.inr sz_e1_109) (allS (Or.inr sz_l2_109) (allS (Or.inr sz_e2_109) all0)))))
      exact J73 (1) (f1_140) (f2_140) (d1_140) (d2_140) (r1_140) (r2_140) (j1_140) (j2_140) (X140.more (by decide) (by decide)) rfl N140 Od175 Kp176 F169 F170 F171 F172 F173 F174 G140_8 G140_9 G140_10 G140_11 G140_12 G140_13 G140_14 G140_15 G140_16 G140_17 G140_18 G140_19 (by omega) (⟨by omega, by omega, by omega, by omega, by omega, by omega⟩) (ge_f1_140) (ge_f2_140) (sz_f1_140) (sz_f2_140) (ne_b101_f1_140) (ne_b101_f2_140) (G140_2) (G140_4) (G140_5) (G140_3) (G140_6)
  · skip
    refine Go.by (T' := T109) (g' := (mkF m 47 #[.val (.long hh_), .second, .val (.long y0), .second, .val (.long y1), .second, .val (.long y2), .second, .val (.int sh), .val (.int (Int32.ofNat U)), .val (.int (Int32.ofNat K)), .val (.int (Int32.ofNat (Q + 1))), .val (.ref b101), .unset] [])) (fun t_ k_ => XS.ifYes X109.here hx rfl (pc0 := 37) (pc' := 47) rfl (hb hby at_37) rfl ((if0 _ _).trans (flt (by rw [show (0 : Int32) = Int32.ofNat 0 from rfl, own_lt (by omega) (by omega)]; exact hu0)).2.2.2) (by decide) (by decide) k_) ?_
    refine Go.by (T' := T109) (g' := (mkF m 49 #[.val (.long hh_), .second, .val (.long y0), .second, .val (.long y1), .second, .val (.long y2), .second, .val (.int sh), .val (.int (Int32.ofNat U)), .val (.int (Int32.ofNat K)), .val (.int (Int32.ofNat (Q + 1))), .val (.ref b101), .unset] [(.int (Int32.ofNat U))])) (fun t_ k_ => XS.iload X109.here hx rfl (hb hby at_47) rfl k_) ?_
    refine Go.by (T' := T109) (g' := (mkF m 50 #[.val (.long hh_), .second, .val (.long y0), .second, .val (.long y1), .second, .val (.long y2), .second, .val (.int sh), .val (.int (Int32.ofNat U)), .val (.int (Int32.ofNat K)), .val (.int (Int32.ofNat (Q + 1))), .val (.ref b101), .unset] [(.int (1 : Int32)), (.int (Int32.ofNat U))])) (fun t_ k_ => XS.iconst X109.here hx rfl (hb hby at_49) k_) ?_
    refine Go.by (T' := T109) (g' := (mkF m 60 #[.val (.long hh_), .second, .val (.long y0), .second, .val (.long y1), .second, .val (.long y2), .second, .val (.int sh), .val (.int (Int32.ofNat U)), .val (.int (Int32.ofNat K)), .val (.int (Int32.ofNat (Q + 1))), .val (.ref b101), .unset] [])) (fun t_ k_ => XS.icmpYes X109.here hx rfl (pc0 := 50) (pc' := 60) rfl (hb hby at_50) rfl (flt (by rw [show (1 : Int32) = Int32.ofNat 1 from rfl, own_lt (by omega) (by omega)]; omega)).2.2.2 (by decide) (by decide) k_) ?_
    refine Go.by (T' := T109) (g' := (mkF m 62 #[.val (.long hh_), .second, .val (.long y0), .second, .val (.long y1), .second, .val (.long y2), .second, .val (.int sh), .val (.int (Int32.ofNat U)), .val (.int (Int32.ofNat K)), .val (.int (Int32.ofNat (Q + 1))), .val (.ref b101), .unset] [(.int (Int32.ofNat U))])) (fun t_ k_ => XS.iload X109.here hx rfl (hb hby at_60) rfl k_) ?_
    refine Go.by (T' := T109) (g' := (mkF m 63 #[.val (.long hh_), .second, .val (.long y0), .second, .val (.long y1), .second, .val (.long y2), .second, .val (.int sh), .val (.int (Int32.ofNat U)), .val (.int (Int32.ofNat K)), .val (.int (Int32.ofNat (Q + 1))), .val (.ref b101), .unset] [(.int (2 : Int32)), (.int (Int32.ofNat U))])) (fun t_ k_ => XS.iconst X109.here hx rfl (hb hby at_62) k_) ?_
    refine Go.by (T' := T109) (g' := (mkF m 73 #[.val (.long hh_), .second, .val (.long y0), .second, .val (.long y1), .second, .val (.long y2), .second, .val (.int sh), .val (.int (Int32.ofNat U)), .val (.int (Int32.ofNat K)), .val (.int (Int32.ofNat (Q + 1))), .val (.ref b101), .unset] [])) (fun t_ k_ => XS.icmpYes X109.here hx rfl (pc0 := 63) (pc' := 73) rfl (hb hby at_63) rfl (flt (by rw [show (2 : Int32) = Int32.ofNat 2 from rfl, own_lt (by omega) (by omega)]; omega)).2.2.2 (by decide) (by decide) k_) ?_
    have hcc : 0 ≤ (Q + 1) ∧ (Q + 1) ≤ 7 ∧ 0 ≤ (Q + 1) ∧ (Q + 1) ≤ 7 := ⟨by omega, by omega, by omega, by omega⟩
    have Od177 : Old Z n0 T109.heap := (Od107.keep K109 (allS ge_b101 all0))
    have Kp178 : Keep h0 T109.heap [] := (Kp108.trans K109 (allS (Or.inr sz_b101) all0))
    exact J73 (0) (e1_109) (e2_109) ((Q + 1)) ((Q + 1)) ((0 : Int32)) ((0 : Int32)) (k1_109) (k2_109) (X109.more (by decide) (by decide)) rfl N109 Od177 Kp178 G109_10 G109_11 G109_12 G109_13 G109_14 G109_15 G109_16 G109_17 G109_18 G109_19 G109_20 G109_21 G109_22 G109_23 G109_24 G109_25 G109_26 G109_27 (by omega) (⟨by omega, by omega, by omega, by omega, by omega, by omega⟩) (ge_e1_109) (ge_e2_109) (sz_e1_109) (sz_e2_109) (ne_b101_e1_109) (ne_b101_e2_109) (G109_5) (G109_6) (G109_7) (G109_8) (G109_9)
set_option maxRecDepth 65536 in
set_option maxHeartbeats 40000000 in
theorem comes_1 {Post : Tables → Env → Array Value → State → Outcome → State → Prop} (hpost : ∀ tb e args s v u, (limb_1_1.after args s (.returned v) u = true ∧ limb_1_2.after args s (.returned v) u = true ∧ True) → FrameEnd s (.returned v) u (Jvm.fieldLocs frame_1_writes args s ++ Jvm.arrayLocs frame_1_arrays args s ++ Jvm.staticLocs frame_1_statics s) 48 192 → Post tb e args s (.returned v) u) :
    ArmFor flags0 classFile x code maxLocals ret World_1 tables_1 room_1 Calls_1 rest_1 Pre_1 Post := by
  intro l hfl _ _ p e ha hc hk s m args below hf hA hF happ hP
  obtain ⟨hcalls, hrest, hpre⟩ := hP
  obtain ⟨-, -, -, hnamed, -, -, -, hat⟩ := (Spec.applies_iff hf).mp happ
  obtain ⟨hg, hn⟩ := and_e (Cond.before_iff.mp (show (Jvm.Cond.and given_1 narrow_1).before args s = true from hpre))
  obtain ⟨hcount, g0⟩ := and_e hg
  obtain ⟨a0, g1⟩ := and_e g0
  obtain ⟨a1, g2⟩ := and_e g1
  obtain ⟨a2, g3⟩ := and_e g2
  obtain ⟨a3, g4⟩ := and_e g3
  have a4 := g4
  obtain ⟨w0, w1, w2, w3, w4, rfl⟩ : ∃ w0 w1 w2 w3 w4 : Value, args = #[w0, w1, w2, w3, w4] := by
    have hs : args.size = 5 := by simpa [Cond.value, given_1] using hcount
    obtain ⟨L⟩ := args
    match L, hs with
    | [w0, w1, w2, w3, w4], _ => exact ⟨w0, w1, w2, w3, w4, rfl⟩
  have hw := fun d (hd : d ∈ tables_1) => atoms_spec (ws := Jvm.Cond.code x code maxLocals ret :: tables_1) hat d (List.mem_cons_of_mem _ hd)
  have hfit : Fit s := fun {y c} hc i hi => by
    obtain ⟨ha, rfl⟩ := Array.getElem?_eq_some_iff.mp hc
    have q := List.all_eq_true.mp ((Array.all_eq_true_iff_forall_mem.mp hF) _ (Array.getElem_mem ha)) i (List.mem_range.mpr hi)
    simpa [Array.getElem?_eq_getElem hi] using q
  obtain ⟨i0, ev0⟩ := isL_v a0
  obtain rfl : w0 = (.long i0) := Option.some.inj ev0
  obtain ⟨i1, ev1⟩ := isL_v a1
  obtain rfl : w1 = (.long i1) := Option.some.inj ev1
  obtain ⟨i2, ev2⟩ := isL_v a2
  obtain rfl : w2 = (.long i2) := Option.some.inj ev2
  obtain ⟨i3, ev3⟩ := isL_v a3
  obtain rfl : w3 = (.long i3) := Option.some.inj ev3
  obtain ⟨i4, ev4⟩ := is_v a4
  obtain rfl : w4 = (.int i4) := Option.some.inj ev4
  obtain ⟨nn1, nn2⟩ := and_e hn
  obtain ⟨nt, ent⟩ := arr_v nn1
  have SN : Sta s s.heap "com/example/tidegate/tidegate/Batch" "NONE_TIMED" "[J" (.ref nt) := Sta.start ent (Or.inr ⟨(hw _ (List.mem_of_getElem? (i := 2) rfl)), (hw _ (List.mem_of_getElem? (i := 110) rfl))⟩)
  obtain ⟨cnt, Ant⟩ := Arr.start ent nn1
  have hln := Cond.eq_int (Cond.before_iff.mpr nn2) rfl
  have hz := own_len0 ent Ant hln
  have hnt : Arv s s.heap nt cnt.cls .long (0 : Int32) [] (.long (0 : Int64)) := ⟨cnt, Ant, rfl, hz, by decide, fun i hi => absurd hi (by rw [hz]; exact Nat.not_lt_zero _), fun i hi => absurd hi (by rw [hz]; exact Nat.not_lt_zero _)⟩
  obtain ⟨cM, kM, mr, hm1, hm2, hm3⟩ := hcalls.1
  have hM : own_Mir s "[Ljava/lang/Object;" mr := ⟨cM, kM, hm1, hm2, hm3.1⟩
  obtain ⟨n, o, h1, h2, h3, _, L, rfl, ⟨rfl, N⟩, hq⟩ := rm_law l s _ hw tables_1 i0 i1 i2 i3 i4 nt cnt.cls mr s.heap s.heap.size (Old.start s) SN hM hnt p e ha hc hk s m _ below hf ((Spec.applies_iff_loose hf).mp happ).1 ⟨rfl, State.Warmed39.refl s, rfl⟩ trivial
  refine ⟨n, _, h1, h2, h3, hpost _ _ _ _ _ _ ⟨Cond.after_iff.mpr rfl, Cond.after_iff.mpr (eq_i res_at (Term.int_eval (1)) rfl), trivial⟩ ⟨hq.1, hq.2.1, (hq.2.2.sift fun y hy => Or.inr (N y hy)).mono (by decide) (by decide)⟩⟩
theorem main_1_1 : Claimed_1_1 := comes_1 fun _ _ _ _ _ _ h hF => ⟨h.1, hF⟩
theorem main_1_2 : Claimed_1_2 := comes_1 fun _ _ _ _ _ _ h hF => ⟨h.2.1, hF⟩
end Jvm.Pilot.@@N@@
namespace Jvm.Pilot.@@N@@
open Jvm Jvm.ClassFile Sem Op Lib Jvm.Free Jvm.Stand Jvm.Pilot.@@N@@.Jvm.D
/-! MADE BY PROGRAM (witnessworld.py) out of the Statement's table words and the real class files: 25 classes; the members and pool entries that the words name. The judged class is class 1, her method 1. -/
namespace start1
open Jvm.ClassFile
def u (s : String) : CpInfo := .utf8 (stringToUtf16 s)
/-- a pool by its gaps: so many unusable entries, then the entry; so many at the end -/
def gap : Nat → List CpInfo → List CpInfo
  | 0, r => r
  | n + 1, r => .unusable :: gap n r
def poolList (es : List (Nat × CpInfo)) (last : Nat) : List CpInfo := es.foldr (fun e r => gap e.1 (e.2 :: r)) (gap last [])
def pool (es : List (Nat × CpInfo)) (last : Nat) : Array CpInfo := ⟨poolList es last⟩
def fileOf (pool : Array CpInfo) (this : Nat) (attrs : Array Attribute := #[]) (ms : Array MethodInfo := #[]) (fl : Nat := 33) (sup : Nat := 0) (ifs : Array Nat := #[]) (fds : Array FieldInfo := #[]) : ClassFile where
  minorVersion := 0
  majorVersion := 65
  constantPool := pool
  accessFlags := fl
  thisClass := this
  superClass := sup
  interfaces := ifs
  fields := fds
  methods := ms
  attributes := attrs
def plain (name : String) (sup : Option ClassId) : Class where
  name := name
  kind := .ordinary
  loader := none
  accessFlags := 33
  super := sup
  interfaces := #[]
  cf := none
  fields := #[]
  methods := #[]
  instanceTypes := #[]
  staticTypes := #[]
  resolved := #[]
  callSites := []
  init := .initialized
  statics := none
  mirror := none

def pool0 : Array CpInfo := pool [(5, u "<init>"), (0, u "()V"), (1, .class_ 10), (1, u "java/lang/Object"), (0, u "getClass"), (0, u "()Ljava/lang/Class;")] 111

def k0c0 : Code := { maxStack := 0, maxLocals := 1, code := object_method_1_code, exceptionTable := #[], attributes := #[] }
def k0m0 : Method := { name := "<init>", desc := "()V", sig := { parameters := [], returnType := none }, accessFlags := 1, code := some k0c0 }
def k0m1 : Method := { name := "getClass", desc := "()Ljava/lang/Class;", sig := { parameters := [], returnType := some (.object "java/lang/Class") }, accessFlags := 273, code := none }
/-- java/lang/Object -/
def k0 : Class := { plain "java/lang/Object" none with
  accessFlags := 33
  interfaces := #[]
  cf := some (fileOf pool0 8 #[] #[{ accessFlags := 1, nameIndex := 5, descriptorIndex := 6, attributes := #[] }, { accessFlags := 273, nameIndex := 11, descriptorIndex := 12, attributes := #[] }] 33 0 #[] #[])
  fields := #[]
  methods := #[k0m0, k0m1]
  instanceTypes := #[]
  staticTypes := #[]
  resolved := Array.replicate 124 none
  statics := none }

def pool1 : Array CpInfo := pool [(2, .class_ 4), (1, u "java/lang/Object"), (0, u "<init>"), (0, u "()V"), (0, .class_ 8), (0, u "com/example/tidegate/tidegate/Batch"), (0, .methodref 7 10), (0, .nameAndType 5 11), (0, u "(I)V"), (0, .methodref 7 13), (0, .nameAndType 14 15), (0, u "add"), (0, u "(Ljava/lang/Object;Ljava/util/concurrent/CompletableFuture;)V"), (0, .methodref 7 17), (0, .nameAndType 14 18), (0, u "(Ljava/lang/Object;Ljava/util/concurrent/CompletableFuture;J)V"), (0, .methodref 7 20), (0, .nameAndType 21 22), (0, u "waits"), (0, u "(J)[J"), (0, .class_ 24), (0, u "com/example/tidegate/tidegate/BatchWaitsPinLaw"), (2, u "law"), (0, u "(JJJJI)Z")] 5

def k1m0 : Method := { name := "<init>", desc := "()V", sig := { parameters := [], returnType := none }, accessFlags := 1, code := none }
def k1c1 : Code := { maxStack := 6, maxLocals := 14, code := code, exceptionTable := #[], attributes := #[] }
def k1m1 : Method := { name := "law", desc := "(JJJJI)Z", sig := { parameters := [.long, .long, .long, .long, .int], returnType := some .boolean }, accessFlags := 9, code := some k1c1 }
/-- com/example/tidegate/tidegate/BatchWaitsPinLaw -/
def k1 : Class := { plain "com/example/tidegate/tidegate/BatchWaitsPinLaw" (some 0) with
  accessFlags := 49
  interfaces := #[]
  cf := some (fileOf pool1 23 #[] #[{ accessFlags := 1, nameIndex := 5, descriptorIndex := 6, attributes := #[] }, { accessFlags := 9, nameIndex := 27, descriptorIndex := 28, attributes := #[] }] 49 2 #[] #[])
  fields := #[]
  methods := #[k1m0, k1m1]
  instanceTypes := #[]
  staticTypes := #[]
  resolved := Array.replicate 34 none
  statics := none }

def pool2 : Array CpInfo := pool [(1, .methodref 2 3), (0, .class_ 4), (0, .nameAndType 5 6), (0, u "java/lang/Object"), (0, u "<init>"), (0, u "()V"), (0, .fieldref 8 9), (0, .class_ 10), (0, .nameAndType 11 12), (0, u "com/example/tidegate/tidegate/Batch"), (0, u "presized"), (0, u "I"), (0, .class_ 14), (0, u "java/util/ArrayList"), (0, .methodref 13 16), (0, .nameAndType 5 17), (0, u "(I)V"), (0, .fieldref 8 19), (0, .nameAndType 20 21), (0, u "items"), (0, u "Ljava/util/List;"), (0, .fieldref 8 23), (0, .nameAndType 24 21), (0, u "completions"), (0, .interfaceMethodref 26 27), (0, .class_ 28), (0, .nameAndType 29 30), (0, u "java/util/List"), (0, u "add"), (0, u "(Ljava/lang/Object;)Z"), (0, .fieldref 8 32), (0, .nameAndType 33 34), (0, u "acceptedAt"), (0, u "[J"), (0, .methodref 8 36), (0, .nameAndType 37 38), (0, u "size"), (0, u "()I"), (0, .fieldref 8 40), (0, .nameAndType 41 12), (0, u "firstTimed"), (0, .methodref 43 44), (0, .class_ 45), (0, .nameAndType 46 47), (0, u "java/util/Arrays"), (0, u "copyOf"), (0, u "([JI)[J"), (0, .methodref 8 49), (0, .nameAndType 29 50), (0, u "(Ljava/lang/Object;Ljava/util/concurrent/CompletableFuture;)V"), (0, .fieldref 8 52), (0, .nameAndType 53 34), (0, u "NONE_TIMED"), (0, .interfaceMethodref 26 36), (32, u "(Ljava/lang/Object;Ljava/util/concurrent/CompletableFuture;J)V"), (2, u "waits"), (0, u "(J)[J")] 10

def k2c0 : Code := { maxStack := 4, maxLocals := 2, code := prog_5_method_1_code, exceptionTable := #[], attributes := #[] }
def k2m0 : Method := { name := "<init>", desc := "(I)V", sig := { parameters := [.int], returnType := none }, accessFlags := 0, code := some k2c0 }
def k2c1 : Code := { maxStack := 2, maxLocals := 3, code := prog_5_method_2_code, exceptionTable := #[], attributes := #[] }
def k2m1 : Method := { name := "add", desc := "(Ljava/lang/Object;Ljava/util/concurrent/CompletableFuture;)V", sig := { parameters := [(.object "java/lang/Object"), (.object "java/util/concurrent/CompletableFuture")], returnType := none }, accessFlags := 0, code := some k2c1 }
def k2c2 : Code := { maxStack := 4, maxLocals := 6, code := prog_5_method_3_code, exceptionTable := #[], attributes := #[] }
def k2m2 : Method := { name := "add", desc := "(Ljava/lang/Object;Ljava/util/concurrent/CompletableFuture;J)V", sig := { parameters := [(.object "java/lang/Object"), (.object "java/util/concurrent/CompletableFuture"), .long], returnType := none }, accessFlags := 0, code := some k2c2 }
def k2c3 : Code := { maxStack := 6, maxLocals := 5, code := prog_5_method_4_code, exceptionTable := #[], attributes := #[] }
def k2m3 : Method := { name := "waits", desc := "(J)[J", sig := { parameters := [.long], returnType := some (.array .long) }, accessFlags := 0, code := some k2c3 }
def k2c4 : Code := { maxStack := 1, maxLocals := 1, code := prog_5_method_5_code, exceptionTable := #[], attributes := #[] }
def k2m4 : Method := { name := "size", desc := "()I", sig := { parameters := [], returnType := some .int }, accessFlags := 0, code := some k2c4 }
/-- com/example/tidegate/tidegate/Batch -/
def k2 : Class := { plain "com/example/tidegate/tidegate/Batch" (some 0) with
  accessFlags := 48
  interfaces := #[]
  cf := some (fileOf pool2 8 #[] #[{ accessFlags := 0, nameIndex := 5, descriptorIndex := 17, attributes := #[] }, { accessFlags := 0, nameIndex := 29, descriptorIndex := 50, attributes := #[] }, { accessFlags := 0, nameIndex := 29, descriptorIndex := 87, attributes := #[] }, { accessFlags := 0, nameIndex := 90, descriptorIndex := 91, attributes := #[] }, { accessFlags := 0, nameIndex := 37, descriptorIndex := 38, attributes := #[] }] 48 2 #[] #[{ accessFlags := 26, nameIndex := 53, descriptorIndex := 34, attributes := #[] }, { accessFlags := 18, nameIndex := 11, descriptorIndex := 12, attributes := #[] }, { accessFlags := 18, nameIndex := 20, descriptorIndex := 21, attributes := #[] }, { accessFlags := 18, nameIndex := 24, descriptorIndex := 21, attributes := #[] }, { accessFlags := 2, nameIndex := 33, descriptorIndex := 34, attributes := #[] }, { accessFlags := 2, nameIndex := 41, descriptorIndex := 12, attributes := #[] }])
  fields := #[{ name := "NONE_TIMED", type := (.array .long), accessFlags := 26, slot := 0, constantValue := 0 }, { name := "presized", type := .int, accessFlags := 18, slot := 0, constantValue := 0 }, { name := "items", type := (.object "java/util/List"), accessFlags := 18, slot := 1, constantValue := 0 }, { name := "completions", type := (.object "java/util/List"), accessFlags := 18, slot := 2, constantValue := 0 }, { name := "acceptedAt", type := (.array .long), accessFlags := 2, slot := 3, constantValue := 0 }, { name := "firstTimed", type := .int, accessFlags := 2, slot := 4, constantValue := 0 }]
  methods := #[k2m0, k2m1, k2m2, k2m3, k2m4]
  instanceTypes := #[.int, (.object "java/util/List"), (.object "java/util/List"), (.array .long), .int]
  staticTypes := #[(.array .long)]
  resolved := Array.replicate 102 none
  statics := some 0 }

def pool3 : Array CpInfo := pool [(8, .class_ 10), (1, u "java/lang/Iterable"), (24, .class_ 36), (0, u "java/lang/Object")] 25

/-- java/lang/Iterable -/
def k3 : Class := { plain "java/lang/Iterable" (some 0) with
  accessFlags := 1537
  interfaces := #[]
  cf := some (fileOf pool3 8 #[] #[] 1537 35 #[] #[])
  fields := #[]
  methods := #[]
  instanceTypes := #[]
  staticTypes := #[]
  resolved := Array.replicate 62 none
  statics := none }

def pool4 : Array CpInfo := pool [(10, .class_ 12), (1, u "java/util/Collection"), (47, .class_ 61), (0, u "java/lang/Object"), (0, .class_ 63), (0, u "java/lang/Iterable")] 51

/-- java/util/Collection -/
def k4 : Class := { plain "java/util/Collection" (some 0) with
  accessFlags := 1537
  interfaces := #[3]
  cf := some (fileOf pool4 10 #[] #[] 1537 60 #[62] #[])
  fields := #[]
  methods := #[]
  instanceTypes := #[]
  staticTypes := #[]
  resolved := Array.replicate 115 none
  statics := none }

def pool5 : Array CpInfo := pool [(1, .methodref 2 3), (0, .class_ 4), (0, .nameAndType 5 6), (0, u "java/lang/Object"), (0, u "<init>"), (0, u "()V"), (1, .class_ 10), (1, u "java/util/AbstractCollection"), (66, .class_ 78), (0, u "java/util/Collection")] 81

def k5c0 : Code := { maxStack := 1, maxLocals := 1, code := jdk_22_method_1_code, exceptionTable := #[], attributes := #[] }
def k5m0 : Method := { name := "<init>", desc := "()V", sig := { parameters := [], returnType := none }, accessFlags := 4, code := some k5c0 }
/-- java/util/AbstractCollection -/
def k5 : Class := { plain "java/util/AbstractCollection" (some 0) with
  accessFlags := 1057
  interfaces := #[4]
  cf := some (fileOf pool5 8 #[] #[{ accessFlags := 4, nameIndex := 5, descriptorIndex := 6, attributes := #[] }] 1057 2 #[77] #[])
  fields := #[]
  methods := #[k5m0]
  instanceTypes := #[]
  staticTypes := #[]
  resolved := Array.replicate 160 none
  statics := none }

def pool6 : Array CpInfo := pool [(8, .class_ 10), (1, u "java/util/SequencedCollection"), (15, .class_ 27), (0, u "java/lang/Object"), (0, .class_ 29), (0, u "java/util/Collection")] 27

/-- java/util/SequencedCollection -/
def k6 : Class := { plain "java/util/SequencedCollection" (some 0) with
  accessFlags := 1537
  interfaces := #[4]
  cf := some (fileOf pool6 8 #[] #[] 1537 26 #[28] #[])
  fields := #[]
  methods := #[]
  instanceTypes := #[]
  staticTypes := #[]
  resolved := Array.replicate 57 none
  statics := none }

def pool7 : Array CpInfo := pool [(8, .class_ 10), (1, u "java/util/List"), (49, u "add"), (3, u "(Ljava/lang/Object;)Z"), (14, u "size"), (0, u "()I"), (22, .class_ 104), (0, u "java/lang/Object"), (15, .class_ 121), (0, u "java/util/SequencedCollection")] 129

def k7m0 : Method := { name := "size", desc := "()I", sig := { parameters := [], returnType := some .int }, accessFlags := 1025, code := none }
def k7m1 : Method := { name := "add", desc := "(Ljava/lang/Object;)Z", sig := { parameters := [(.object "java/lang/Object")], returnType := some .boolean }, accessFlags := 1025, code := none }
/-- java/util/List -/
def k7 : Class := { plain "java/util/List" (some 0) with
  accessFlags := 1537
  interfaces := #[6]
  cf := some (fileOf pool7 8 #[] #[{ accessFlags := 1025, nameIndex := 79, descriptorIndex := 80, attributes := #[] }, { accessFlags := 1025, nameIndex := 60, descriptorIndex := 64, attributes := #[] }] 1537 103 #[120] #[])
  fields := #[]
  methods := #[k7m0, k7m1]
  instanceTypes := #[]
  staticTypes := #[]
  resolved := Array.replicate 251 none
  statics := none }

def pool8 : Array CpInfo := pool [(1, .methodref 2 3), (0, .class_ 4), (0, .nameAndType 5 6), (0, u "java/util/AbstractCollection"), (0, u "<init>"), (0, u "()V"), (0, .fieldref 8 9), (0, .class_ 10), (0, .nameAndType 11 12), (0, u "java/util/AbstractList"), (0, u "modCount"), (0, u "I"), (64, .class_ 78), (0, u "java/util/AbstractList$Itr"), (3, .class_ 83), (0, u "java/util/AbstractList$ListItr"), (9, .class_ 94), (0, u "java/util/AbstractList$RandomAccessSubList"), (3, .class_ 99), (0, u "java/util/AbstractList$SubList"), (33, .class_ 134), (0, u "java/util/List"), (73, .class_ 209), (0, u "java/util/AbstractList$SubList$1"), (0, .class_ 211), (0, u "java/util/AbstractList$RandomAccessSpliterator")] 6

def k8c0 : Code := { maxStack := 2, maxLocals := 1, code := jdk_39_method_1_code, exceptionTable := #[], attributes := #[] }
def k8m0 : Method := { name := "<init>", desc := "()V", sig := { parameters := [], returnType := none }, accessFlags := 4, code := some k8c0 }
/-- java/util/AbstractList -/
def k8 : Class := { plain "java/util/AbstractList" (some 5) with
  accessFlags := 1057
  interfaces := #[7]
  cf := some (fileOf pool8 8 #[.nestMembers #[93, 98, 208, 210, 82, 77]] #[{ accessFlags := 4, nameIndex := 5, descriptorIndex := 6, attributes := #[] }] 1057 2 #[133] #[{ accessFlags := 132, nameIndex := 11, descriptorIndex := 12, attributes := #[] }])
  fields := #[{ name := "modCount", type := .int, accessFlags := 132, slot := 0, constantValue := 0 }]
  methods := #[k8m0]
  instanceTypes := #[.int]
  staticTypes := #[]
  resolved := Array.replicate 218 none
  statics := none }

def pool9 : Array CpInfo := pool [(1, .class_ 2), (0, u "java/util/RandomAccess"), (0, .class_ 4), (0, u "java/lang/Object")] 2

/-- java/util/RandomAccess -/
def k9 : Class := { plain "java/util/RandomAccess" (some 0) with
  accessFlags := 1537
  interfaces := #[]
  cf := some (fileOf pool9 1 #[] #[] 1537 3 #[] #[])
  fields := #[]
  methods := #[]
  instanceTypes := #[]
  staticTypes := #[]
  resolved := Array.replicate 7 none
  statics := none }

def pool10 : Array CpInfo := pool [(1, .class_ 2), (0, u "java/lang/Cloneable"), (0, .class_ 4), (0, u "java/lang/Object")] 2

/-- java/lang/Cloneable -/
def k10 : Class := { plain "java/lang/Cloneable" (some 0) with
  accessFlags := 1537
  interfaces := #[]
  cf := some (fileOf pool10 1 #[] #[] 1537 3 #[] #[])
  fields := #[]
  methods := #[]
  instanceTypes := #[]
  staticTypes := #[]
  resolved := Array.replicate 7 none
  statics := none }

def pool11 : Array CpInfo := pool [(1, .class_ 2), (0, u "java/io/Serializable"), (0, .class_ 4), (0, u "java/lang/Object")] 2

/-- java/io/Serializable -/
def k11 : Class := { plain "java/io/Serializable" (some 0) with
  accessFlags := 1537
  interfaces := #[]
  cf := some (fileOf pool11 1 #[] #[] 1537 3 #[] #[])
  fields := #[]
  methods := #[]
  instanceTypes := #[]
  staticTypes := #[]
  resolved := Array.replicate 7 none
  statics := none }

def pool12 : Array CpInfo := pool [(1, .methodref 2 3), (0, .class_ 4), (0, .nameAndType 5 6), (0, u "java/util/AbstractList"), (0, u "<init>"), (0, u "()V"), (0, .class_ 8), (0, u "java/lang/Object"), (0, .fieldref 10 11), (0, .class_ 12), (0, .nameAndType 13 14), (0, u "java/util/ArrayList"), (0, u "elementData"), (0, u "[Ljava/lang/Object;"), (2, u "EMPTY_ELEMENTDATA"), (23, u "DEFAULTCAPACITY_EMPTY_ELEMENTDATA"), (5, u "()[Ljava/lang/Object;"), (0, .fieldref 10 49), (0, .nameAndType 50 51), (0, u "size"), (0, u "I"), (6, .class_ 60), (1, u "java/util/Arrays"), (0, u "copyOf"), (1, .fieldref 10 64), (0, .nameAndType 65 51), (0, u "modCount"), (0, .methodref 58 67), (0, .nameAndType 61 68), (0, u "([Ljava/lang/Object;I)[Ljava/lang/Object;"), (0, .methodref 10 70), (0, .nameAndType 71 72), (0, u "grow"), (0, u "(I)[Ljava/lang/Object;"), (0, .methodref 74 75), (0, .class_ 76), (0, .nameAndType 77 78), (0, u "jdk/internal/util/ArraysSupport"), (0, u "newLength"), (0, u "(III)I"), (17, u "(Ljava/lang/Object;)Z"), (32, .methodref 10 130), (0, .nameAndType 71 47), (0, .methodref 10 132), (0, .nameAndType 133 134), (0, u "add"), (0, u "(Ljava/lang/Object;[Ljava/lang/Object;I)V"), (3, u "(I)V"), (9, .class_ 149), (0, u "java/util/List"), (36, u "()I"), (75, .class_ 263), (0, u "java/util/ArrayList$ListItr"), (3, .class_ 268), (0, u "java/util/ArrayList$Itr"), (7, .class_ 277), (0, u "java/util/ArrayList$SubList"), (12, .class_ 291), (0, u "java/util/ArrayList$ArrayListSpliterator"), (37, .class_ 330), (0, u "java/util/RandomAccess"), (0, .class_ 332), (0, u "java/lang/Cloneable"), (0, .class_ 334), (0, u "java/io/Serializable"), (0, u "serialVersionUID"), (0, u "J"), (3, u "DEFAULT_CAPACITY"), (159, .class_ 501), (0, u "java/util/ArrayList$SubList$2"), (0, .class_ 503), (0, u "java/util/ArrayList$SubList$1")] 5

def k12c0 : Code := { maxStack := 4, maxLocals := 2, code := jdk_38_method_1_code, exceptionTable := #[], attributes := #[] }
def k12m0 : Method := { name := "<init>", desc := "(I)V", sig := { parameters := [.int], returnType := none }, accessFlags := 1, code := some k12c0 }
def k12m1 : Method := { name := "<init>", desc := "()V", sig := { parameters := [], returnType := none }, accessFlags := 1, code := none }
def k12c2 : Code := { maxStack := 4, maxLocals := 4, code := jdk_38_method_6_code, exceptionTable := #[], attributes := #[] }
def k12m2 : Method := { name := "grow", desc := "(I)[Ljava/lang/Object;", sig := { parameters := [.int], returnType := some (.array (.object "java/lang/Object")) }, accessFlags := 2, code := some k12c2 }
def k12c3 : Code := { maxStack := 3, maxLocals := 1, code := jdk_38_method_7_code, exceptionTable := #[], attributes := #[] }
def k12m3 : Method := { name := "grow", desc := "()[Ljava/lang/Object;", sig := { parameters := [], returnType := some (.array (.object "java/lang/Object")) }, accessFlags := 2, code := some k12c3 }
def k12c4 : Code := { maxStack := 1, maxLocals := 1, code := jdk_38_method_8_code, exceptionTable := #[], attributes := #[] }
def k12m4 : Method := { name := "size", desc := "()I", sig := { parameters := [], returnType := some .int }, accessFlags := 1, code := some k12c4 }
def k12c5 : Code := { maxStack := 3, maxLocals := 4, code := jdk_38_method_24_code, exceptionTable := #[], attributes := #[] }
def k12m5 : Method := { name := "add", desc := "(Ljava/lang/Object;[Ljava/lang/Object;I)V", sig := { parameters := [(.object "java/lang/Object"), (.array (.object "java/lang/Object")), .int], returnType := none }, accessFlags := 2, code := some k12c5 }
def k12c6 : Code := { maxStack := 4, maxLocals := 2, code := jdk_38_method_25_code, exceptionTable := #[], attributes := #[] }
def k12m6 : Method := { name := "add", desc := "(Ljava/lang/Object;)Z", sig := { parameters := [(.object "java/lang/Object")], returnType := some .boolean }, accessFlags := 1, code := some k12c6 }
/-- java/util/ArrayList -/
def k12 : Class := { plain "java/util/ArrayList" (some 8) with
  accessFlags := 33
  interfaces := #[7, 9, 10, 11]
  cf := some (fileOf pool12 10 #[.nestMembers #[290, 276, 500, 502, 262, 267]] #[{ accessFlags := 1, nameIndex := 5, descriptorIndex := 138, attributes := #[] }, { accessFlags := 1, nameIndex := 5, descriptorIndex := 6, attributes := #[] }, { accessFlags := 2, nameIndex := 71, descriptorIndex := 72, attributes := #[] }, { accessFlags := 2, nameIndex := 71, descriptorIndex := 47, attributes := #[] }, { accessFlags := 1, nameIndex := 50, descriptorIndex := 186, attributes := #[] }, { accessFlags := 2, nameIndex := 133, descriptorIndex := 134, attributes := #[] }, { accessFlags := 1, nameIndex := 133, descriptorIndex := 96, attributes := #[] }] 33 2 #[148, 329, 331, 333] #[{ accessFlags := 26, nameIndex := 335, descriptorIndex := 336, attributes := #[] }, { accessFlags := 26, nameIndex := 340, descriptorIndex := 51, attributes := #[] }, { accessFlags := 26, nameIndex := 17, descriptorIndex := 14, attributes := #[] }, { accessFlags := 26, nameIndex := 41, descriptorIndex := 14, attributes := #[] }, { accessFlags := 128, nameIndex := 13, descriptorIndex := 14, attributes := #[] }, { accessFlags := 2, nameIndex := 50, descriptorIndex := 51, attributes := #[] }])
  fields := #[{ name := "serialVersionUID", type := .long, accessFlags := 26, slot := 0, constantValue := 0 }, { name := "DEFAULT_CAPACITY", type := .int, accessFlags := 26, slot := 1, constantValue := 0 }, { name := "EMPTY_ELEMENTDATA", type := (.array (.object "java/lang/Object")), accessFlags := 26, slot := 2, constantValue := 0 }, { name := "DEFAULTCAPACITY_EMPTY_ELEMENTDATA", type := (.array (.object "java/lang/Object")), accessFlags := 26, slot := 3, constantValue := 0 }, { name := "elementData", type := (.array (.object "java/lang/Object")), accessFlags := 128, slot := 1, constantValue := 0 }, { name := "size", type := .int, accessFlags := 2, slot := 2, constantValue := 0 }]
  methods := #[k12m0, k12m1, k12m2, k12m3, k12m4, k12m5, k12m6]
  instanceTypes := #[.int, (.array (.object "java/lang/Object")), .int]
  staticTypes := #[.long, .int, (.array (.object "java/lang/Object")), (.array (.object "java/lang/Object"))]
  resolved := Array.replicate 509 none
  statics := none }

def pool13 : Array CpInfo := pool [(9, u "<init>"), (6, .class_ 18), (1, u "java/lang/Object"), (0, u "()V"), (1, .class_ 23), (1, u "jdk/internal/util/ArraysSupport"), (0, u "LOG2_ARRAY_LONG_INDEX_SCALE"), (0, u "I"), (2, u "U"), (0, u "Ljdk/internal/misc/Unsafe;"), (8, u "BIG_ENDIAN"), (0, u "Z"), (8, u "LOG2_BYTE_BIT_SIZE"), (4, u "LOG2_ARRAY_INT_INDEX_SCALE"), (54, u "JLA"), (0, u "Ljdk/internal/access/JavaLangAccess;"), (11, u "LOG2_ARRAY_BOOLEAN_INDEX_SCALE"), (9, u "LOG2_ARRAY_BYTE_INDEX_SCALE"), (5, u "LOG2_ARRAY_CHAR_INDEX_SCALE"), (5, u "LOG2_ARRAY_SHORT_INDEX_SCALE"), (18, u "LOG2_ARRAY_FLOAT_INDEX_SCALE"), (24, u "LOG2_ARRAY_DOUBLE_INDEX_SCALE"), (6, .methodref 195 196), (0, .class_ 197), (0, .nameAndType 198 199), (0, u "java/lang/Math"), (0, u "max"), (0, u "(II)I"), (0, .integer 2147483639), (76, u "T_BOOLEAN"), (2, u "T_CHAR"), (1, u "T_FLOAT"), (1, u "T_DOUBLE"), (1, u "T_BYTE"), (1, u "T_SHORT"), (1, u "T_INT"), (1, u "T_LONG"), (1, u "SOFT_MAX_ARRAY_LENGTH"), (56, u "newLength"), (0, u "(III)I")] 25

def k13m0 : Method := { name := "<init>", desc := "()V", sig := { parameters := [], returnType := none }, accessFlags := 2, code := none }
def k13c1 : Code := { maxStack := 3, maxLocals := 4, code := jdk_48_method_27_code, exceptionTable := #[], attributes := #[] }
def k13m1 : Method := { name := "newLength", desc := "(III)I", sig := { parameters := [.int, .int, .int], returnType := some .int }, accessFlags := 9, code := some k13c1 }
/-- jdk/internal/util/ArraysSupport -/
def k13 : Class := { plain "jdk/internal/util/ArraysSupport" (some 0) with
  accessFlags := 33
  interfaces := #[]
  cf := some (fileOf pool13 21 #[] #[{ accessFlags := 2, nameIndex := 9, descriptorIndex := 19, attributes := #[] }, { accessFlags := 9, nameIndex := 351, descriptorIndex := 352, attributes := #[] }] 33 16 #[] #[{ accessFlags := 24, nameIndex := 28, descriptorIndex := 29, attributes := #[] }, { accessFlags := 26, nameIndex := 38, descriptorIndex := 39, attributes := #[] }, { accessFlags := 25, nameIndex := 121, descriptorIndex := 25, attributes := #[] }, { accessFlags := 25, nameIndex := 131, descriptorIndex := 25, attributes := #[] }, { accessFlags := 25, nameIndex := 137, descriptorIndex := 25, attributes := #[] }, { accessFlags := 25, nameIndex := 143, descriptorIndex := 25, attributes := #[] }, { accessFlags := 25, nameIndex := 53, descriptorIndex := 25, attributes := #[] }, { accessFlags := 25, nameIndex := 24, descriptorIndex := 25, attributes := #[] }, { accessFlags := 25, nameIndex := 162, descriptorIndex := 25, attributes := #[] }, { accessFlags := 25, nameIndex := 187, descriptorIndex := 25, attributes := #[] }, { accessFlags := 26, nameIndex := 48, descriptorIndex := 25, attributes := #[] }, { accessFlags := 25, nameIndex := 277, descriptorIndex := 25, attributes := #[] }, { accessFlags := 25, nameIndex := 280, descriptorIndex := 25, attributes := #[] }, { accessFlags := 25, nameIndex := 282, descriptorIndex := 25, attributes := #[] }, { accessFlags := 25, nameIndex := 284, descriptorIndex := 25, attributes := #[] }, { accessFlags := 25, nameIndex := 286, descriptorIndex := 25, attributes := #[] }, { accessFlags := 25, nameIndex := 288, descriptorIndex := 25, attributes := #[] }, { accessFlags := 25, nameIndex := 290, descriptorIndex := 25, attributes := #[] }, { accessFlags := 25, nameIndex := 292, descriptorIndex := 25, attributes := #[] }, { accessFlags := 26, nameIndex := 108, descriptorIndex := 109, attributes := #[] }, { accessFlags := 25, nameIndex := 294, descriptorIndex := 25, attributes := #[] }])
  fields := #[{ name := "U", type := (.object "jdk/internal/misc/Unsafe"), accessFlags := 24, slot := 0, constantValue := 0 }, { name := "BIG_ENDIAN", type := .boolean, accessFlags := 26, slot := 1, constantValue := 0 }, { name := "LOG2_ARRAY_BOOLEAN_INDEX_SCALE", type := .int, accessFlags := 25, slot := 2, constantValue := 0 }, { name := "LOG2_ARRAY_BYTE_INDEX_SCALE", type := .int, accessFlags := 25, slot := 3, constantValue := 0 }, { name := "LOG2_ARRAY_CHAR_INDEX_SCALE", type := .int, accessFlags := 25, slot := 4, constantValue := 0 }, { name := "LOG2_ARRAY_SHORT_INDEX_SCALE", type := .int, accessFlags := 25, slot := 5, constantValue := 0 }, { name := "LOG2_ARRAY_INT_INDEX_SCALE", type := .int, accessFlags := 25, slot := 6, constantValue := 0 }, { name := "LOG2_ARRAY_LONG_INDEX_SCALE", type := .int, accessFlags := 25, slot := 7, constantValue := 0 }, { name := "LOG2_ARRAY_FLOAT_INDEX_SCALE", type := .int, accessFlags := 25, slot := 8, constantValue := 0 }, { name := "LOG2_ARRAY_DOUBLE_INDEX_SCALE", type := .int, accessFlags := 25, slot := 9, constantValue := 0 }, { name := "LOG2_BYTE_BIT_SIZE", type := .int, accessFlags := 26, slot := 10, constantValue := 0 }, { name := "T_BOOLEAN", type := .int, accessFlags := 25, slot := 11, constantValue := 0 }, { name := "T_CHAR", type := .int, accessFlags := 25, slot := 12, constantValue := 0 }, { name := "T_FLOAT", type := .int, accessFlags := 25, slot := 13, constantValue := 0 }, { name := "T_DOUBLE", type := .int, accessFlags := 25, slot := 14, constantValue := 0 }, { name := "T_BYTE", type := .int, accessFlags := 25, slot := 15, constantValue := 0 }, { name := "T_SHORT", type := .int, accessFlags := 25, slot := 16, constantValue := 0 }, { name := "T_INT", type := .int, accessFlags := 25, slot := 17, constantValue := 0 }, { name := "T_LONG", type := .int, accessFlags := 25, slot := 18, constantValue := 0 }, { name := "JLA", type := (.object "jdk/internal/access/JavaLangAccess"), accessFlags := 26, slot := 19, constantValue := 0 }, { name := "SOFT_MAX_ARRAY_LENGTH", type := .int, accessFlags := 25, slot := 20, constantValue := 0 }]
  methods := #[k13m0, k13m1]
  instanceTypes := #[]
  staticTypes := #[(.object "jdk/internal/misc/Unsafe"), .boolean, .int, .int, .int, .int, .int, .int, .int, .int, .int, .int, .int, .int, .int, .int, .int, .int, .int, (.object "jdk/internal/access/JavaLangAccess"), .int]
  resolved := Array.replicate 378 none
  statics := none }

def pool14 : Array CpInfo := pool [(1, .class_ 2), (0, u "java/lang/Math"), (1, .class_ 6), (1, u "java/lang/Object"), (0, u "<init>"), (0, u "()V"), (89, .class_ 100), (1, u "java/lang/Math$RandomNumberGeneratorHolder"), (71, u "negativeZeroFloatBits"), (0, u "J"), (2, u "negativeZeroDoubleBits"), (21, u "max"), (2, u "min"), (43, u "$assertionsDisabled"), (0, u "Z"), (88, u "(II)I"), (2, u "twoToTheDoubleScaleDown"), (0, u "D"), (4, u "twoToTheDoubleScaleUp"), (9, u "E"), (3, u "PI"), (2, u "TAU"), (2, u "DEGREES_TO_RADIANS"), (0, u "RADIANS_TO_DEGREES")] 94

def k14m0 : Method := { name := "<init>", desc := "()V", sig := { parameters := [], returnType := none }, accessFlags := 2, code := none }
def k14c1 : Code := { maxStack := 2, maxLocals := 2, code := jdk_29_method_65_code, exceptionTable := #[], attributes := #[] }
def k14m1 : Method := { name := "max", desc := "(II)I", sig := { parameters := [.int, .int], returnType := some .int }, accessFlags := 9, code := some k14c1 }
def k14c2 : Code := { maxStack := 2, maxLocals := 2, code := jdk_29_method_69_code, exceptionTable := #[], attributes := #[] }
def k14m2 : Method := { name := "min", desc := "(II)I", sig := { parameters := [.int, .int], returnType := some .int }, accessFlags := 9, code := some k14c2 }
/-- java/lang/Math -/
def k14 : Class := { plain "java/lang/Math" (some 0) with
  accessFlags := 49
  interfaces := #[]
  cf := some (fileOf pool14 1 #[.nestMembers #[98]] #[{ accessFlags := 2, nameIndex := 7, descriptorIndex := 8, attributes := #[] }, { accessFlags := 9, nameIndex := 198, descriptorIndex := 335, attributes := #[] }, { accessFlags := 9, nameIndex := 201, descriptorIndex := 335, attributes := #[] }] 49 4 #[] #[{ accessFlags := 25, nameIndex := 354, descriptorIndex := 339, attributes := #[] }, { accessFlags := 25, nameIndex := 358, descriptorIndex := 339, attributes := #[] }, { accessFlags := 25, nameIndex := 361, descriptorIndex := 339, attributes := #[] }, { accessFlags := 26, nameIndex := 364, descriptorIndex := 339, attributes := #[] }, { accessFlags := 26, nameIndex := 365, descriptorIndex := 339, attributes := #[] }, { accessFlags := 26, nameIndex := 172, descriptorIndex := 173, attributes := #[] }, { accessFlags := 26, nameIndex := 176, descriptorIndex := 173, attributes := #[] }, { accessFlags := 8, nameIndex := 344, descriptorIndex := 339, attributes := #[] }, { accessFlags := 8, nameIndex := 338, descriptorIndex := 339, attributes := #[] }, { accessFlags := 4120, nameIndex := 245, descriptorIndex := 246, attributes := #[] }])
  fields := #[{ name := "E", type := .double, accessFlags := 25, slot := 0, constantValue := 0 }, { name := "PI", type := .double, accessFlags := 25, slot := 1, constantValue := 0 }, { name := "TAU", type := .double, accessFlags := 25, slot := 2, constantValue := 0 }, { name := "DEGREES_TO_RADIANS", type := .double, accessFlags := 26, slot := 3, constantValue := 0 }, { name := "RADIANS_TO_DEGREES", type := .double, accessFlags := 26, slot := 4, constantValue := 0 }, { name := "negativeZeroFloatBits", type := .long, accessFlags := 26, slot := 5, constantValue := 0 }, { name := "negativeZeroDoubleBits", type := .long, accessFlags := 26, slot := 6, constantValue := 0 }, { name := "twoToTheDoubleScaleUp", type := .double, accessFlags := 8, slot := 7, constantValue := 0 }, { name := "twoToTheDoubleScaleDown", type := .double, accessFlags := 8, slot := 8, constantValue := 0 }, { name := "$assertionsDisabled", type := .boolean, accessFlags := 4120, slot := 9, constantValue := 0 }]
  methods := #[k14m0, k14m1, k14m2]
  instanceTypes := #[]
  staticTypes := #[.double, .double, .double, .double, .double, .long, .long, .double, .double, .boolean]
  resolved := Array.replicate 460 none
  statics := none }

def pool15 : Array CpInfo := pool [(2, .class_ 4), (1, u "java/lang/Object"), (0, u "<init>"), (0, u "()V"), (7, .class_ 16), (1, u "java/util/Arrays"), (57, .class_ 76), (1, u "java/util/Arrays$NaturalOrder"), (9, .methodref 2 87), (0, .nameAndType 88 89), (0, u "getClass"), (0, u "()Ljava/lang/Class;"), (20, .class_ 111), (0, u "[Ljava/lang/Object;"), (1, .class_ 115), (1, u "java/util/Arrays$LegacyMergeSort"), (1, u "Z"), (32, .methodref 151 152), (0, .class_ 153), (0, .nameAndType 154 155), (0, u "java/lang/System"), (0, u "arraycopy"), (0, u "(Ljava/lang/Object;ILjava/lang/Object;II)V"), (144, .methodref 14 301), (0, .nameAndType 302 303), (0, u "copyOf"), (0, u "([Ljava/lang/Object;ILjava/lang/Class;)[Ljava/lang/Object;"), (0, .methodref 305 306), (0, .class_ 307), (0, .nameAndType 308 309), (0, u "java/lang/Math"), (0, u "min"), (0, u "(II)I"), (65, .class_ 376), (0, u "java/util/Arrays$ArrayList"), (68, u "$assertionsDisabled"), (269, u "MIN_ARRAY_SORT_GRAN"), (0, u "I"), (2, u "INSERTIONSORT_THRESHOLD"), (140, u "([Ljava/lang/Object;I)[Ljava/lang/Object;"), (11, u "([JI)[J"), (102, .class_ 976), (0, u "java/util/Arrays$ArrayItr")] 52

def k15m0 : Method := { name := "<init>", desc := "()V", sig := { parameters := [], returnType := none }, accessFlags := 2, code := none }
def k15c1 : Code := { maxStack := 3, maxLocals := 2, code := jdk_65_method_119_code, exceptionTable := #[], attributes := #[] }
def k15m1 : Method := { name := "copyOf", desc := "([Ljava/lang/Object;I)[Ljava/lang/Object;", sig := { parameters := [(.array (.object "java/lang/Object")), .int], returnType := some (.array (.object "java/lang/Object")) }, accessFlags := 9, code := some k15c1 }
def k15c2 : Code := { maxStack := 6, maxLocals := 4, code := jdk_65_method_120_code, exceptionTable := #[], attributes := #[] }
def k15m2 : Method := { name := "copyOf", desc := "([Ljava/lang/Object;ILjava/lang/Class;)[Ljava/lang/Object;", sig := { parameters := [(.array (.object "java/lang/Object")), .int, (.object "java/lang/Class")], returnType := some (.array (.object "java/lang/Object")) }, accessFlags := 9, code := some k15c2 }
def k15c3 : Code := { maxStack := 6, maxLocals := 3, code := jdk_65_method_124_code, exceptionTable := #[], attributes := #[] }
def k15m3 : Method := { name := "copyOf", desc := "([JI)[J", sig := { parameters := [(.array .long), .int], returnType := some (.array .long) }, accessFlags := 9, code := some k15c3 }
/-- java/util/Arrays -/
def k15 : Class := { plain "java/util/Arrays" (some 0) with
  accessFlags := 49
  interfaces := #[]
  cf := some (fileOf pool15 14 #[.nestMembers #[975, 375, 113, 74]] #[{ accessFlags := 2, nameIndex := 5, descriptorIndex := 6, attributes := #[] }, { accessFlags := 9, nameIndex := 302, descriptorIndex := 860, attributes := #[] }, { accessFlags := 9, nameIndex := 302, descriptorIndex := 303, attributes := #[] }, { accessFlags := 9, nameIndex := 302, descriptorIndex := 872, attributes := #[] }] 49 2 #[] #[{ accessFlags := 26, nameIndex := 715, descriptorIndex := 716, attributes := #[] }, { accessFlags := 26, nameIndex := 719, descriptorIndex := 716, attributes := #[] }, { accessFlags := 4120, nameIndex := 445, descriptorIndex := 117, attributes := #[] }])
  fields := #[{ name := "MIN_ARRAY_SORT_GRAN", type := .int, accessFlags := 26, slot := 0, constantValue := 0 }, { name := "INSERTIONSORT_THRESHOLD", type := .int, accessFlags := 26, slot := 1, constantValue := 0 }, { name := "$assertionsDisabled", type := .boolean, accessFlags := 4120, slot := 2, constantValue := 0 }]
  methods := #[k15m0, k15m1, k15m2, k15m3]
  instanceTypes := #[]
  staticTypes := #[.int, .int, .boolean]
  resolved := Array.replicate 1029 none
  statics := none }

def pool16 : Array CpInfo := pool [(2, .class_ 4), (1, u "java/lang/Object"), (0, u "<init>"), (0, u "()V"), (1, .class_ 10), (1, u "java/lang/System"), (0, u "allowSecurityManager"), (0, u "I"), (16, u "cons"), (0, u "Ljava/io/Console;"), (77, .class_ 110), (1, u "java/lang/System$CallersHolder"), (43, u "initialErrStream"), (0, u "Ljava/io/PrintStream;"), (19, u "security"), (0, u "Ljava/lang/SecurityManager;"), (31, .class_ 209), (0, u "java/lang/System$1"), (7, u "props"), (0, u "Ljava/util/Properties;"), (2, u "lineSeparator"), (0, u "Ljava/lang/String;"), (96, .class_ 321), (1, u "java/lang/System$LoggerFinder"), (5, .class_ 328), (0, u "java/lang/System$Logger"), (67, u "err"), (2, u "out"), (91, u "notSupportedJnuEncoding"), (15, u "in"), (17, u "initialIn"), (0, u "Ljava/io/InputStream;"), (35, u "bootLayer"), (0, u "Ljava/lang/ModuleLayer;"), (99, .class_ 664), (0, u "java/lang/System$2"), (9, u "NEVER"), (2, u "MAYBE"), (49, u "arraycopy"), (0, u "(Ljava/lang/Object;ILjava/lang/Object;II)V"), (72, .class_ 802), (0, u "java/lang/System$Logger$Level")] 31

def k16m0 : Method := { name := "<init>", desc := "()V", sig := { parameters := [], returnType := none }, accessFlags := 2, code := none }
def k16m1 : Method := { name := "arraycopy", desc := "(Ljava/lang/Object;ILjava/lang/Object;II)V", sig := { parameters := [(.object "java/lang/Object"), .int, (.object "java/lang/Object"), .int, .int], returnType := none }, accessFlags := 265, code := none }
/-- java/lang/System -/
def k16 : Class := { plain "java/lang/System" (some 0) with
  accessFlags := 49
  interfaces := #[]
  cf := some (fileOf pool16 8 #[.nestMembers #[319, 327, 801, 108, 663, 208]] #[{ accessFlags := 2, nameIndex := 5, descriptorIndex := 6, attributes := #[] }, { accessFlags := 265, nameIndex := 727, descriptorIndex := 728, attributes := #[] }] 49 2 #[] #[{ accessFlags := 25, nameIndex := 507, descriptorIndex := 526, attributes := #[] }, { accessFlags := 25, nameIndex := 399, descriptorIndex := 155, attributes := #[] }, { accessFlags := 25, nameIndex := 396, descriptorIndex := 155, attributes := #[] }, { accessFlags := 10, nameIndex := 525, descriptorIndex := 526, attributes := #[] }, { accessFlags := 26, nameIndex := 674, descriptorIndex := 12, attributes := #[] }, { accessFlags := 26, nameIndex := 677, descriptorIndex := 12, attributes := #[] }, { accessFlags := 10, nameIndex := 11, descriptorIndex := 12, attributes := #[] }, { accessFlags := 74, nameIndex := 175, descriptorIndex := 176, attributes := #[] }, { accessFlags := 10, nameIndex := 491, descriptorIndex := 222, attributes := #[] }, { accessFlags := 74, nameIndex := 29, descriptorIndex := 30, attributes := #[] }, { accessFlags := 74, nameIndex := 154, descriptorIndex := 155, attributes := #[] }, { accessFlags := 10, nameIndex := 217, descriptorIndex := 218, attributes := #[] }, { accessFlags := 10, nameIndex := 221, descriptorIndex := 222, attributes := #[] }, { accessFlags := 8, nameIndex := 562, descriptorIndex := 563, attributes := #[] }])
  fields := #[{ name := "in", type := (.object "java/io/InputStream"), accessFlags := 25, slot := 0, constantValue := 0 }, { name := "out", type := (.object "java/io/PrintStream"), accessFlags := 25, slot := 1, constantValue := 0 }, { name := "err", type := (.object "java/io/PrintStream"), accessFlags := 25, slot := 2, constantValue := 0 }, { name := "initialIn", type := (.object "java/io/InputStream"), accessFlags := 10, slot := 3, constantValue := 0 }, { name := "NEVER", type := .int, accessFlags := 26, slot := 4, constantValue := 0 }, { name := "MAYBE", type := .int, accessFlags := 26, slot := 5, constantValue := 0 }, { name := "allowSecurityManager", type := .int, accessFlags := 10, slot := 6, constantValue := 0 }, { name := "security", type := (.object "java/lang/SecurityManager"), accessFlags := 74, slot := 7, constantValue := 0 }, { name := "notSupportedJnuEncoding", type := (.object "java/lang/String"), accessFlags := 10, slot := 8, constantValue := 0 }, { name := "cons", type := (.object "java/io/Console"), accessFlags := 74, slot := 9, constantValue := 0 }, { name := "initialErrStream", type := (.object "java/io/PrintStream"), accessFlags := 74, slot := 10, constantValue := 0 }, { name := "props", type := (.object "java/util/Properties"), accessFlags := 10, slot := 11, constantValue := 0 }, { name := "lineSeparator", type := (.object "java/lang/String"), accessFlags := 10, slot := 12, constantValue := 0 }, { name := "bootLayer", type := (.object "java/lang/ModuleLayer"), accessFlags := 8, slot := 13, constantValue := 0 }]
  methods := #[k16m0, k16m1]
  instanceTypes := #[]
  staticTypes := #[(.object "java/io/InputStream"), (.object "java/io/PrintStream"), (.object "java/io/PrintStream"), (.object "java/io/InputStream"), .int, .int, .int, (.object "java/lang/SecurityManager"), (.object "java/lang/String"), (.object "java/io/Console"), (.object "java/io/PrintStream"), (.object "java/util/Properties"), (.object "java/lang/String"), (.object "java/lang/ModuleLayer")]
  resolved := Array.replicate 834 none
  statics := none }

def pool17 : Array CpInfo := pool [(1, u "java/lang/Class"), (0, .class_ 1), (0, u "java/lang/Object"), (0, .class_ 3)] 0

/-- java/lang/Class -/
def k17 : Class := { plain "java/lang/Class" (some 0) with
  accessFlags := 49
  interfaces := #[]
  cf := some (fileOf pool17 2 #[] #[] 49 4 #[] #[])
  fields := #[]
  methods := #[]
  instanceTypes := #[]
  staticTypes := #[]
  resolved := Array.replicate 5 none
  statics := none }

/-- the primitive byte -/
def k18 : Class := { plain "byte" none with kind := .primitive 'B', accessFlags := 0x411 }
/-- [B -/
def k19 : Class := { plain "[B" (some 0) with kind := .array 18 .byte, interfaces := #[10, 11], accessFlags := 1041 }

/-- the primitive int -/
def k20 : Class := { plain "int" none with kind := .primitive 'I', accessFlags := 0x411 }
/-- [I -/
def k21 : Class := { plain "[I" (some 0) with kind := .array 20 .int, interfaces := #[10, 11], accessFlags := 1041 }

/-- the primitive long -/
def k22 : Class := { plain "long" none with kind := .primitive 'J', accessFlags := 0x411 }
/-- [J -/
def k23 : Class := { plain "[J" (some 0) with kind := .array 22 .long, interfaces := #[10, 11], accessFlags := 1041 }

/-- [Ljava/lang/Object; -/
def k24 : Class := { plain "[Ljava/lang/Object;" (some 0) with kind := .array 0 (.object "java/lang/Object"), interfaces := #[10, 11], accessFlags := 1041, mirror := some 1 }

def heap : Heap := #[{ cls := 2, slots := #[.ref 2], vm := .statics 2 },
  { cls := 17, slots := #[], vm := .mirror 24 },
  { cls := 23, slots := #[], vm := .none }]
def classes : Array Class := #[k0, k1, k2, k3, k4, k5, k6, k7, k8, k9, k10, k11, k12, k13, k14, k15, k16, k17, k18, k19, k20, k21, k22, k23, k24]
def interned : List (Array UInt16 × Addr) := []
def slotsUsed : Nat := 1
def theMethod : MethodId := ⟨1, 1⟩
def args0 : Array Value := #[.long 5, .long 1, .long 2, .long 3, .int 0]
def aboutOver (below : List Frame) : State where
  vm := { classes := classes, interned := interned.toArray }
  heap := heap
  slotsUsed := slotsUsed
  threads := #[{ frames := .invoking theMethod args0 :: below }]
def below0 : List Frame := [.native { method := ⟨0, 0⟩, args := #[] }]
def about1 : State := aboutOver below0
def p0 : Program := .bare "" "" ""
def e0 : Env := launch0.env 0 0 0
theorem w_frames : about1.frames = Frame.invoking theMethod args0 :: below0 := rfl
set_option maxRecDepth 65536 in
theorem w_args : argsFit about1.vm theMethod args0 = true := by decide +kernel
set_option maxRecDepth 65536 in
theorem w_heap : heapFits about1 = true := by decide +kernel
set_option maxRecDepth 65536 in
theorem w_runnable : about1.curStatus? = some .runnable := by decide +kernel
set_option maxRecDepth 65536 in
theorem w_alone : about1.alone = true := by decide +kernel
set_option maxRecDepth 65536 in
theorem w_named : about1.methodNamed? x = some theMethod := by decide +kernel
set_option maxRecDepth 65536 in
theorem w_hears : about1.hears theMethod below0 = true := by decide +kernel
set_option maxRecDepth 65536 in
theorem w_ripe : about1.ripe theMethod args0 below0 = true := by decide +kernel
theorem w_running : about1.status = .running := rfl
set_option maxRecDepth 65536 in
theorem w_room : about1.hasRoom e0.platform room_1 = true :=
  launch0.hasRoom_least _ room_1 (by decide +kernel) (by decide +kernel) (by decide +kernel) (by decide +kernel) (by decide +kernel) (by decide +kernel)
theorem allAtoms_all (ts : List Jvm.Cond) (a : Array Jvm.Value) (st : Jvm.State) : (allAtoms ts).before a st = ts.all (fun c => c.before a st) := by
  induction ts with
  | nil => rfl
  | cons c t ih =>
    show (Jvm.Cond.and c (allAtoms t)).before a st = _
    rw [Jvm.Cond.before_and, ih, List.all_cons]
def words1 : List Jvm.Cond := Jvm.Cond.code x code maxLocals ret :: tables_1
/-- a 'code' word, met by the world's own term for the bytes: nothing is compared byte by byte -/
theorem code_word {y : MethodName} {bytes : ByteArray} {mx : Nat} {rt : Option FieldType} {a : Array Value} {s : State} {m : MethodId} {meth : Method} {c : Code} (h1 : s.methodNamed? y = some m) (h2 : s.vm.method? m = some meth) (h3 : meth.code = some c) (h4 : c.code = bytes)
    (h5 : (c.maxLocals == mx && c.exceptionTable.isEmpty && decide (c.maxStack ≤ mostOperands) && decide (meth.sig.returnType = rt) && !meth.locks && decide (parseMethodDescriptor y.desc = some meth.sig)) = true) : (Jvm.Cond.code y bytes mx rt).before a s = true := by
  simp only [Bool.and_eq_true, beq_iff_eq, Bool.not_eq_true', decide_eq_true_eq] at h5
  obtain ⟨⟨⟨⟨⟨g1, g2⟩, g3⟩, g4⟩, g5⟩, g6⟩ := h5
  simp [Cond.before, Cond.holds, Cond.value, h1, h2, h3, h4, g1, g2, g3, g4, g5, g6]
def isCode : Jvm.Cond → Bool
  | .code _ _ _ _ => true
  | _ => false
theorem all_split {L : List Jvm.Cond} {P : Jvm.Cond → Bool} (h1 : L.all (fun c => isCode c || P c) = true) (h2 : ∀ c ∈ L.filter isCode, P c = true) : L.all P = true := by
  refine List.all_eq_true.mpr fun c hc => ?_
  have h := List.all_eq_true.mp h1 c hc
  rcases Bool.eq_false_or_eq_true (isCode c) with hi | hi
  · exact h2 c (List.mem_filter.mpr ⟨hc, hi⟩)
  · simpa [hi] using h
set_option maxRecDepth 65536 in
theorem w_c0 : (Jvm.Cond.code x code maxLocals ret).before args0 about1 = true := code_word (m := ⟨1, 1⟩) (meth := k1m1) (c := k1c1) (by decide +kernel) rfl rfl rfl (by decide +kernel)
set_option maxRecDepth 65536 in
theorem w_c1 : (Jvm.Cond.code ({ cls := "com/example/tidegate/tidegate/Batch", name := "<init>", desc := "(I)V" } : Jvm.MethodName) prog_5_method_1_code (2 : Nat) (Option.none : Option Jvm.ClassFile.FieldType)).before args0 about1 = true := code_word (m := ⟨2, 0⟩) (meth := k2m0) (c := k2c0) (by decide +kernel) rfl rfl rfl (by decide +kernel)
set_option maxRecDepth 65536 in
theorem w_c2 : (Jvm.Cond.code ({ cls := "java/lang/Object", name := "<init>", desc := "()V" } : Jvm.MethodName) object_method_1_code (1 : Nat) (Option.none : Option Jvm.ClassFile.FieldType)).before args0 about1 = true := code_word (m := ⟨0, 0⟩) (meth := k0m0) (c := k0c0) (by decide +kernel) rfl rfl rfl (by decide +kernel)
set_option maxRecDepth 65536 in
theorem w_c3 : (Jvm.Cond.code ({ cls := "java/util/ArrayList", name := "<init>", desc := "(I)V" } : Jvm.MethodName) jdk_38_method_1_code (2 : Nat) (Option.none : Option Jvm.ClassFile.FieldType)).before args0 about1 = true := code_word (m := ⟨12, 0⟩) (meth := k12m0) (c := k12c0) (by decide +kernel) rfl rfl rfl (by decide +kernel)
set_option maxRecDepth 65536 in
theorem w_c4 : (Jvm.Cond.code ({ cls := "java/util/AbstractList", name := "<init>", desc := "()V" } : Jvm.MethodName) jdk_39_method_1_code (1 : Nat) (Option.none : Option Jvm.ClassFile.FieldType)).before args0 about1 = true := code_word (m := ⟨8, 0⟩) (meth := k8m0) (c := k8c0) (by decide +kernel) rfl rfl rfl (by decide +kernel)
set_option maxRecDepth 65536 in
theorem w_c5 : (Jvm.Cond.code ({ cls := "java/util/AbstractCollection", name := "<init>", desc := "()V" } : Jvm.MethodName) jdk_22_method_1_code (1 : Nat) (Option.none : Option Jvm.ClassFile.FieldType)).before args0 about1 = true := code_word (m := ⟨5, 0⟩) (meth := k5m0) (c := k5c0) (by decide +kernel) rfl rfl rfl (by decide +kernel)
set_option maxRecDepth 65536 in
theorem w_c6 : (Jvm.Cond.code ({ cls := "com/example/tidegate/tidegate/Batch", name := "add", desc := "(Ljava/lang/Object;Ljava/util/concurrent/CompletableFuture;)V" } : Jvm.MethodName) prog_5_method_2_code (3 : Nat) (Option.none : Option Jvm.ClassFile.FieldType)).before args0 about1 = true := code_word (m := ⟨2, 1⟩) (meth := k2m1) (c := k2c1) (by decide +kernel) rfl rfl rfl (by decide +kernel)
set_option maxRecDepth 65536 in
theorem w_c7 : (Jvm.Cond.code ({ cls := "java/util/ArrayList", name := "add", desc := "(Ljava/lang/Object;)Z" } : Jvm.MethodName) jdk_38_method_25_code (2 : Nat) (Option.some Jvm.ClassFile.FieldType.boolean)).before args0 about1 = true := code_word (m := ⟨12, 6⟩) (meth := k12m6) (c := k12c6) (by decide +kernel) rfl rfl rfl (by decide +kernel)
set_option maxRecDepth 65536 in
theorem w_c8 : (Jvm.Cond.code ({ cls := "java/util/ArrayList", name := "add", desc := "(Ljava/lang/Object;[Ljava/lang/Object;I)V" } : Jvm.MethodName) jdk_38_method_24_code (4 : Nat) (Option.none : Option Jvm.ClassFile.FieldType)).before args0 about1 = true := code_word (m := ⟨12, 5⟩) (meth := k12m5) (c := k12c5) (by decide +kernel) rfl rfl rfl (by decide +kernel)
set_option maxRecDepth 65536 in
theorem w_c9 : (Jvm.Cond.code ({ cls := "java/util/ArrayList", name := "grow", desc := "()[Ljava/lang/Object;" } : Jvm.MethodName) jdk_38_method_7_code (1 : Nat) (Option.some (Jvm.ClassFile.FieldType.array (Jvm.ClassFile.FieldType.object "java/lang/Object")))).before args0 about1 = true := code_word (m := ⟨12, 3⟩) (meth := k12m3) (c := k12c3) (by decide +kernel) rfl rfl rfl (by decide +kernel)
set_option maxRecDepth 65536 in
theorem w_c10 : (Jvm.Cond.code ({ cls := "java/util/ArrayList", name := "grow", desc := "(I)[Ljava/lang/Object;" } : Jvm.MethodName) jdk_38_method_6_code (4 : Nat) (Option.some (Jvm.ClassFile.FieldType.array (Jvm.ClassFile.FieldType.object "java/lang/Object")))).before args0 about1 = true := code_word (m := ⟨12, 2⟩) (meth := k12m2) (c := k12c2) (by decide +kernel) rfl rfl rfl (by decide +kernel)
set_option maxRecDepth 65536 in
theorem w_c11 : (Jvm.Cond.code ({ cls := "jdk/internal/util/ArraysSupport", name := "newLength", desc := "(III)I" } : Jvm.MethodName) jdk_48_method_27_code (4 : Nat) (Option.some Jvm.ClassFile.FieldType.int)).before args0 about1 = true := code_word (m := ⟨13, 1⟩) (meth := k13m1) (c := k13c1) (by decide +kernel) rfl rfl rfl (by decide +kernel)
set_option maxRecDepth 65536 in
theorem w_c12 : (Jvm.Cond.code ({ cls := "java/lang/Math", name := "max", desc := "(II)I" } : Jvm.MethodName) jdk_29_method_65_code (2 : Nat) (Option.some Jvm.ClassFile.FieldType.int)).before args0 about1 = true := code_word (m := ⟨14, 1⟩) (meth := k14m1) (c := k14c1) (by decide +kernel) rfl rfl rfl (by decide +kernel)
set_option maxRecDepth 65536 in
theorem w_c13 : (Jvm.Cond.code ({ cls := "java/util/Arrays", name := "copyOf", desc := "([Ljava/lang/Object;I)[Ljava/lang/Object;" } : Jvm.MethodName) jdk_65_method_119_code (2 : Nat) (Option.some (Jvm.ClassFile.FieldType.array (Jvm.ClassFile.FieldType.object "java/lang/Object")))).before args0 about1 = true := code_word (m := ⟨15, 1⟩) (meth := k15m1) (c := k15c1) (by decide +kernel) rfl rfl rfl (by decide +kernel)
set_option maxRecDepth 65536 in
theorem w_c14 : (Jvm.Cond.code ({ cls := "java/util/Arrays", name := "copyOf", desc := "([Ljava/lang/Object;ILjava/lang/Class;)[Ljava/lang/Object;" } : Jvm.MethodName) jdk_65_method_120_code (4 : Nat) (Option.some (Jvm.ClassFile.FieldType.array (Jvm.ClassFile.FieldType.object "java/lang/Object")))).before args0 about1 = true := code_word (m := ⟨15, 2⟩) (meth := k15m2) (c := k15c2) (by decide +kernel) rfl rfl rfl (by decide +kernel)
set_option maxRecDepth 65536 in
theorem w_c15 : (Jvm.Cond.code ({ cls := "java/lang/Math", name := "min", desc := "(II)I" } : Jvm.MethodName) jdk_29_method_69_code (2 : Nat) (Option.some Jvm.ClassFile.FieldType.int)).before args0 about1 = true := code_word (m := ⟨14, 2⟩) (meth := k14m2) (c := k14c2) (by decide +kernel) rfl rfl rfl (by decide +kernel)
set_option maxRecDepth 65536 in
theorem w_c16 : (Jvm.Cond.code ({ cls := "com/example/tidegate/tidegate/Batch", name := "waits", desc := "(J)[J" } : Jvm.MethodName) prog_5_method_4_code (5 : Nat) (Option.some (Jvm.ClassFile.FieldType.array Jvm.ClassFile.FieldType.long))).before args0 about1 = true := code_word (m := ⟨2, 3⟩) (meth := k2m3) (c := k2c3) (by decide +kernel) rfl rfl rfl (by decide +kernel)
set_option maxRecDepth 65536 in
theorem w_c17 : (Jvm.Cond.code ({ cls := "com/example/tidegate/tidegate/Batch", name := "add", desc := "(Ljava/lang/Object;Ljava/util/concurrent/CompletableFuture;J)V" } : Jvm.MethodName) prog_5_method_3_code (6 : Nat) (Option.none : Option Jvm.ClassFile.FieldType)).before args0 about1 = true := code_word (m := ⟨2, 2⟩) (meth := k2m2) (c := k2c2) (by decide +kernel) rfl rfl rfl (by decide +kernel)
set_option maxRecDepth 65536 in
theorem w_c18 : (Jvm.Cond.code ({ cls := "com/example/tidegate/tidegate/Batch", name := "size", desc := "()I" } : Jvm.MethodName) prog_5_method_5_code (1 : Nat) (Option.some Jvm.ClassFile.FieldType.int)).before args0 about1 = true := code_word (m := ⟨2, 4⟩) (meth := k2m4) (c := k2c4) (by decide +kernel) rfl rfl rfl (by decide +kernel)
set_option maxRecDepth 65536 in
theorem w_c19 : (Jvm.Cond.code ({ cls := "java/util/ArrayList", name := "size", desc := "()I" } : Jvm.MethodName) jdk_38_method_8_code (1 : Nat) (Option.some Jvm.ClassFile.FieldType.int)).before args0 about1 = true := code_word (m := ⟨12, 4⟩) (meth := k12m4) (c := k12c4) (by decide +kernel) rfl rfl rfl (by decide +kernel)
set_option maxRecDepth 65536 in
theorem w_c20 : (Jvm.Cond.code ({ cls := "java/util/Arrays", name := "copyOf", desc := "([JI)[J" } : Jvm.MethodName) jdk_65_method_124_code (3 : Nat) (Option.some (Jvm.ClassFile.FieldType.array Jvm.ClassFile.FieldType.long))).before args0 about1 = true := code_word (m := ⟨15, 3⟩) (meth := k15m3) (c := k15c3) (by decide +kernel) rfl rfl rfl (by decide +kernel)
def codes1 : List Jvm.Cond := [Jvm.Cond.code x code maxLocals ret, Jvm.Cond.code ({ cls := "com/example/tidegate/tidegate/Batch", name := "<init>", desc := "(I)V" } : Jvm.MethodName) prog_5_method_1_code (2 : Nat) (Option.none : Option Jvm.ClassFile.FieldType), Jvm.Cond.code ({ cls := "java/lang/Object", name := "<init>", desc := "()V" } : Jvm.MethodName) object_method_1_code (1 : Nat) (Option.none : Option Jvm.ClassFile.FieldType), Jvm.Cond.code ({ cls := "java/util/ArrayList", name := "<init>", desc := "(I)V" } : Jvm.MethodName) jdk_38_method_1_code (2 : Nat) (Option.none : Option Jvm.ClassFile.FieldType), Jvm.Cond.code ({ cls := "java/util/AbstractList", name := "<init>", desc := "()V" } : Jvm.MethodName) jdk_39_method_1_code (1 : Nat) (Option.none : Option Jvm.ClassFile.FieldType), Jvm.Cond.code ({ cls := "java/util/AbstractCollection", name := "<init>", desc := "()V" } : Jvm.MethodName) jdk_22_method_1_code (1 : Nat) (Option.none : Option Jvm.ClassFile.FieldType), Jvm.Cond.code ({ cls := "com/example/tidegate/tidegate/Batch", name := "add", desc := "(Ljava/lang/Object;Ljava/util/concurrent/CompletableFuture;)V" } : Jvm.MethodName) prog_5_method_2_code (3 : Nat) (Option.none : Option Jvm.ClassFile.FieldType), Jvm.Cond.code ({ cls := "java/util/ArrayList", name := "add", desc := "(Ljava/lang/Object;)Z" } : Jvm.MethodName) jdk_38_method_25_code (2 : Nat) (Option.some Jvm.ClassFile.FieldType.boolean), Jvm.Cond.code ({ cls := "java/util/ArrayList", name := "add", desc := "(Ljava/lang/Object;[Ljava/lang/Object;I)V" } : Jvm.MethodName) jdk_38_method_24_code (4 : Nat) (Option.none : Option Jvm.ClassFile.FieldType), Jvm.Cond.code ({ cls := "java/util/ArrayList", name := "grow", desc := "()[Ljava/lang/Object;" } : Jvm.MethodName) jdk_38_method_7_code (1 : Nat) (Option.some (Jvm.ClassFile.FieldType.array (Jvm.ClassFile.FieldType.object "java/lang/Object"))), Jvm.Cond.code ({ cls := "java/util/ArrayList", name := "grow", desc := "(I)[Ljava/lang/Object;" } : Jvm.MethodName) jdk_38_method_6_code (4 : Nat) (Option.some (Jvm.ClassFile.FieldType.array (Jvm.ClassFile.FieldType.object "java/lang/Object"))), Jvm.Cond.code ({ cls := "jdk/internal/util/ArraysSupport", name := "newLength", desc := "(III)I" } : Jvm.MethodName) jdk_48_method_27_code (4 : Nat) (Option.some Jvm.ClassFile.FieldType.int), Jvm.Cond.code ({ cls := "java/lang/Math", name := "max", desc := "(II)I" } : Jvm.MethodName) jdk_29_method_65_code (2 : Nat) (Option.some Jvm.ClassFile.FieldType.int), Jvm.Cond.code ({ cls := "java/util/Arrays", name := "copyOf", desc := "([Ljava/lang/Object;I)[Ljava/lang/Object;" } : Jvm.MethodName) jdk_65_method_119_code (2 : Nat) (Option.some (Jvm.ClassFile.FieldType.array (Jvm.ClassFile.FieldType.object "java/lang/Object"))), Jvm.Cond.code ({ cls := "java/util/Arrays", name := "copyOf", desc := "([Ljava/lang/Object;ILjava/lang/Class;)[Ljava/lang/Object;" } : Jvm.MethodName) jdk_65_method_120_code (4 : Nat) (Option.some (Jvm.ClassFile.FieldType.array (Jvm.ClassFile.FieldType.object "java/lang/Object"))), Jvm.Cond.code ({ cls := "java/lang/Math", name := "min", desc := "(II)I" } : Jvm.MethodName) jdk_29_method_69_code (2 : Nat) (Option.some Jvm.ClassFile.FieldType.int), Jvm.Cond.code ({ cls := "com/example/tidegate/tidegate/Batch", name := "waits", desc := "(J)[J" } : Jvm.MethodName) prog_5_method_4_code (5 : Nat) (Option.some (Jvm.ClassFile.FieldType.array Jvm.ClassFile.FieldType.long)), Jvm.Cond.code ({ cls := "com/example/tidegate/tidegate/Batch", name := "add", desc := "(Ljava/lang/Object;Ljava/util/concurrent/CompletableFuture;J)V" } : Jvm.MethodName) prog_5_method_3_code (6 : Nat) (Option.none : Option Jvm.ClassFile.FieldType), Jvm.Cond.code ({ cls := "com/example/tidegate/tidegate/Batch", name := "size", desc := "()I" } : Jvm.MethodName) prog_5_method_5_code (1 : Nat) (Option.some Jvm.ClassFile.FieldType.int), Jvm.Cond.code ({ cls := "java/util/ArrayList", name := "size", desc := "()I" } : Jvm.MethodName) jdk_38_method_8_code (1 : Nat) (Option.some Jvm.ClassFile.FieldType.int), Jvm.Cond.code ({ cls := "java/util/Arrays", name := "copyOf", desc := "([JI)[J" } : Jvm.MethodName) jdk_65_method_124_code (3 : Nat) (Option.some (Jvm.ClassFile.FieldType.array Jvm.ClassFile.FieldType.long))]
set_option maxRecDepth 65536 in
theorem codes_eq : words1.filter isCode = codes1 := rfl
theorem w_codes : ∀ c ∈ words1.filter isCode, c.before args0 about1 = true := by
  rw [codes_eq]
  intro c hc
  simp only [codes1, List.mem_cons, List.not_mem_nil, or_false] at hc
  rcases hc with rfl | rfl | rfl | rfl | rfl | rfl | rfl | rfl | rfl | rfl | rfl | rfl | rfl | rfl | rfl | rfl | rfl | rfl | rfl | rfl | rfl
  · exact w_c0
  · exact w_c1
  · exact w_c2
  · exact w_c3
  · exact w_c4
  · exact w_c5
  · exact w_c6
  · exact w_c7
  · exact w_c8
  · exact w_c9
  · exact w_c10
  · exact w_c11
  · exact w_c12
  · exact w_c13
  · exact w_c14
  · exact w_c15
  · exact w_c16
  · exact w_c17
  · exact w_c18
  · exact w_c19
  · exact w_c20
set_option maxRecDepth 65536 in
theorem w_t1 : (words1.take 24).all (fun c => isCode c || c.before args0 about1) = true := by decide +kernel
set_option maxRecDepth 65536 in
theorem w_t2 : ((words1.drop 24).take 24).all (fun c => isCode c || c.before args0 about1) = true := by decide +kernel
set_option maxRecDepth 65536 in
theorem w_t3 : (((words1.drop 24).drop 24).take 24).all (fun c => isCode c || c.before args0 about1) = true := by decide +kernel
set_option maxRecDepth 65536 in
theorem w_t4 : ((((words1.drop 24).drop 24).drop 24).take 24).all (fun c => isCode c || c.before args0 about1) = true := by decide +kernel
set_option maxRecDepth 65536 in
theorem w_t5 : (((((words1.drop 24).drop 24).drop 24).drop 24).take 24).all (fun c => isCode c || c.before args0 about1) = true := by decide +kernel
set_option maxRecDepth 65536 in
theorem w_t6 : (((((words1.drop 24).drop 24).drop 24).drop 24).drop 24).all (fun c => isCode c || c.before args0 about1) = true := by decide +kernel
theorem w_tables : (allAtoms (Jvm.Cond.code x code maxLocals ret :: tables_1)).before args0 about1 = true := by
  rw [allAtoms_all]
  show words1.all (fun c => c.before args0 about1) = true
  refine all_split ?_ w_codes
  rw [← List.take_append_drop 24 words1, List.all_append, w_t1, ← List.take_append_drop 24 (words1.drop 24), List.all_append, w_t2, ← List.take_append_drop 24 ((words1.drop 24).drop 24), List.all_append, w_t3, ← List.take_append_drop 24 (((words1.drop 24).drop 24).drop 24), List.all_append, w_t4, ← List.take_append_drop 24 ((((words1.drop 24).drop 24).drop 24).drop 24), List.all_append, w_t5, w_t6]
  rfl
set_option maxRecDepth 65536 in
theorem w_case : (Jvm.Cond.and given_1 narrow_1).before args0 about1 = true := by decide +kernel
theorem w_applies : (headSpec (Jvm.Cond.code x code maxLocals ret :: tables_1) room_1).applies x e0.platform about1 = true :=
  (Spec.applies_iff w_frames).mpr ⟨w_running, w_runnable, w_alone, w_named, w_hears, w_ripe, w_room, w_tables⟩
theorem atStart : AtStart classFile x code maxLocals ret World_1 tables_1 room_1 Calls_1 rest_1 Pre_1 launch0 p0 e0 about1 theMethod args0 below0 :=
  ⟨lists_1, trivial, launch0.admits_env _ _ _, launch0.least_env, fairChoices_fair.cas, fairChoices_fair.clock, w_frames, w_args, w_heap, w_applies, ⟨⟨24, k24, 1, by decide +kernel, rfl, rfl, _, rfl, rfl⟩, trivial⟩, trivial, w_case⟩
end start1
theorem witness_1 : WitnessClaimed_1 := ⟨start1.p0, start1.e0, start1.about1, start1.theMethod, start1.args0, start1.below0, start1.atStart⟩
end Jvm.Pilot.@@N@@

