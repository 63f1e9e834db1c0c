import JvmDerived
import JvmDerived.Pilot.@@N@@Statement
import JvmDerived.Pilot.@@N@@Code
set_option linter.unusedVariables false
set_option linter.unusedSimpArgs false
namespace Jvm.RoadKit
open Sem ClassFile Op Lib Jvm.Stand Jvm.Free Jvm.LawKit
section New
variable {p : Program} {l : Launch} {e : Env} {R : Room} {s : State} {m : MethodId} {args : Array Value} {below : List Frame} {meth : Method} {c : Code} {T : State} {locs : List Loc} {cells slots : Nat}
theorem retI (X : Stand p l e R s m args below meth c T locs cells slots) (hx : p.tables.exec = Jvm.exec) {pc : Nat} {Ls : Array Slot} {z : Int32} {rest : List Value} (hret : meth.sig.returnType = some .int) (hd : decode c.code pc = .ok (.ireturn, 1)) {fs : List Frame}
    (hl : ∀ (f : JFrame) (acts : List Action), f.method = m → f.locked = none → f.entered = [] → (doReturn e (T.setTop f) acts (some (.int z))).1 = T.setFrames fs) : Steps p.tables e below (T.setTop (mkF m pc Ls (.int z :: rest))) (T.setFrames fs) := by
  have hm' : T.vm.method? m = some meth := X.method'
  have hn : narrow .int (.int z) = .int z := rfl
  show Steps p.tables e below (T.setTop { method := m, pc := pc, locals := Ls, stack := _ :: rest, locked := none }) _
  jvm_step X.here [X.here.top, hx, hd, hm', hret, hn]
  first | (intro acts; rw [hl _ acts rfl rfl rfl]) | rw [hl _ _ rfl rfl rfl]
  exact Steps.refl _
end New
end Jvm.RoadKit
namespace Jvm.Pilot.@@N@@
open Jvm Jvm.ClassFile Sem Op Lib Jvm.Free Jvm.Stand Jvm.LawKit Jvm.RoadKit Bundle Jvm.Pilot.@@N@@.Jvm.D
section Own
variable {p : Program} {l : Launch} {e : Env} {R : Room} {s : State} {m : MethodId} {args : Array Value} {below : List Frame} {meth : Method} {c : Code} {T : State} {locs : List Loc} {cells slots : Nat} {Z : State} {h h' h0 : Heap} {a b : Addr} {sl : Nat} {v : Value}
/-- what is closed under a step taken ahead of it -/
def Bk (p : Program) (e : Env) (below : List Frame) (G : State → JFrame → Prop) : Prop :=
  ∀ (T T' : State) (g g' : JFrame), (∀ t, Steps p.tables e below (T'.setTop g') t → Steps p.tables e below (T.setTop g) t) → G T' g' → G T g
/-- from here the body comes to its end, with what Q says -/
def Goes (p : Program) (e : Env) (below : List Frame) (s : State) (Q : Option Value → Heap → List Loc → Prop) (cs sl : Nat) (T : State) (g : JFrame) : Prop :=
  ∃ s₂ o, Steps p.tables e below (T.setTop g) s₂ ∧ s₂.status = .running ∧ Ended s₂ below o ∧ ∃ v L, o = .returned v ∧ Q v s₂.heap L ∧ FrameEnd s o s₂ L cs sl
theorem Goes.bk (p : Program) (e : Env) (below : List Frame) (s : State) (Q : Option Value → Heap → List Loc → Prop) (cs sl : Nat) : Bk p e below (Goes p e below s Q cs sl) :=
  fun T T' g g' st ⟨s₂, o, h1, r⟩ => ⟨s₂, o, st _ h1, r⟩
variable {Q : Option Value → Heap → List Loc → Prop} {cs sn : Nat}
theorem Goes.retI (X : Stand p l e R s m args below meth c T locs cells slots) (hx : p.tables.exec = Jvm.exec) (hlk : meth.locks = false) (hret : meth.sig.returnType = some .int) {pc : Nat} {Ls : Array Slot} {z : Int32} {rest : List Value} (hd : decode c.code pc = .ok (.ireturn, 1))
    (hc : cells ≤ cs) (hs : slots ≤ sn) (hq : Q (some (.int z)) T.heap locs) : Goes p e below s Q cs sn T (mkF m pc Ls (.int z :: rest)) := by
  obtain ⟨fs, hr, hrun, hended, hW, hsame⟩ := X.leave (v := some (.int z)) (fun h => by rw [hret] at h; cases h) hlk
  exact ⟨_, _, Jvm.RoadKit.retI X hx hret hd hr, hrun, hended, _, _, rfl, hq, ⟨_, rfl⟩, hW, hsame.mono hc hs⟩
theorem Goes.retN (X : Stand p l e R s m args below meth c T locs cells slots) (hx : p.tables.exec = Jvm.exec) (hlk : meth.locks = false) {t : FieldType} (hret : meth.sig.returnType = some t) (ht : t = .boolean ∨ t = .byte ∨ t = .char ∨ t = .short) {pc : Nat} {Ls : Array Slot} {z : Int32} {rest : List Value} (hd : decode c.code pc = .ok (.ireturn, 1))
    (hc : cells ≤ cs) (hs : slots ≤ sn) (hq : Q (some (.int (nar t z))) T.heap locs) : Goes p e below s Q cs sn T (mkF m pc Ls (.int z :: rest)) := by
  obtain ⟨fs, hr, hrun, hended, hW, hsame⟩ := X.leave (v := some (.int (nar t z))) (fun h => by rw [hret] at h; cases h) hlk
  exact ⟨_, _, Jvm.RoadKit.retN X hx hret ht hd hr, hrun, hended, _, _, rfl, hq, ⟨_, rfl⟩, hW, hsame.mono hc hs⟩
theorem Goes.retV (X : Stand p l e R s m args below meth c T locs cells slots) (hx : p.tables.exec = Jvm.exec) (hlk : meth.locks = false) (hret : meth.sig.returnType = none) {pc : Nat} {Ls : Array Slot} (hd : decode c.code pc = .ok (.return_, 1))
    (hc : cells ≤ cs) (hs : slots ≤ sn) (hq : Q none T.heap locs) : Goes p e below s Q cs sn T (mkF m pc Ls []) := by
  obtain ⟨fs, hr, hrun, hended, hW, hsame⟩ := X.leave (v := none) (fun _ => rfl) hlk
  exact ⟨_, _, X.returnOut hx hret hd hr, hrun, hended, _, _, rfl, hq, ⟨_, rfl⟩, hW, hsame.mono hc hs⟩
theorem Goes.retL (X : Stand p l e R s m args below meth c T locs cells slots) (hx : p.tables.exec = Jvm.exec) (hlk : meth.locks = false) (hret : meth.sig.returnType = some .long) {pc : Nat} {Ls : Array Slot} {z : Int64} {rest : List Value} (hd : decode c.code pc = .ok (.lreturn, 1))
    (hc : cells ≤ cs) (hs : slots ≤ sn) (hq : Q (some (.long z)) T.heap locs) : Goes p e below s Q cs sn T (mkF m pc Ls (.long z :: rest)) := by
  obtain ⟨fs, hr, hrun, hended, hW, hsame⟩ := X.leave (v := some (.long z)) (fun h => by rw [hret] at h; cases h) hlk
  exact ⟨_, _, Jvm.RoadKit.retOut X hx hret rfl (Or.inr (Or.inl ⟨rfl, rfl, _, rfl⟩)) hd hr, hrun, hended, _, _, rfl, hq, ⟨_, rfl⟩, hW, hsame.mono hc hs⟩
theorem Goes.retA (X : Stand p l e R s m args below meth c T locs cells slots) (hx : p.tables.exec = Jvm.exec) (hlk : meth.locks = false) {t : FieldType} (ht : t.isReference = true) (hret : meth.sig.returnType = some t) {pc : Nat} {Ls : Array Slot} {z : Addr} {rest : List Value} (hd : decode c.code pc = .ok (.areturn, 1))
    (hc : cells ≤ cs) (hs : slots ≤ sn) (hq : Q (some (.ref z)) T.heap locs) : Goes p e below s Q cs sn T (mkF m pc Ls (.ref z :: rest)) := by
  obtain ⟨fs, hr, hrun, hended, hW, hsame⟩ := X.leave (v := some (.ref z)) (fun h => by rw [hret] at h; cases h) hlk
  exact ⟨_, _, Jvm.RoadKit.retOut X hx hret (by cases t <;> first | rfl | (cases ht; done)) (Or.inr (Or.inr (Or.inr (Or.inr ⟨rfl, ht, rfl⟩)))) hd hr, hrun, hended, _, _, rfl, hq, ⟨_, rfl⟩, hW, hsame.mono hc hs⟩
/-- an array: its kind, length and components -/
def Av (Z : State) (h : Heap) (a : Addr) (ty : FieldType) (n : Nat) (f : Nat → Value) : Prop :=
  ∃ c : Cell, Arr Z h a c ty ∧ c.slots.size = n ∧ n < 2 ^ 31 ∧ ∀ i, i < n → c.slots[i]? = some (f i)
variable {ty : FieldType} {n i : Nat} {f f' : Nat → Value} {j x : Int32}
theorem Av.lt (F : Av Z h a ty n f) : a < h.size := by obtain ⟨c, A, -⟩ := F; exact A.lt
theorem Av.ext (F : Av Z h a ty n f) (E : Ext h h') : Av Z h' a ty n f := by obtain ⟨c, A, r⟩ := F; exact ⟨c, A.ext E, r⟩
theorem Av.other (F : Av Z h b ty n f) (W : Wr h h' a sl v) (q : b ≠ a) : Av Z h' b ty n f := by obtain ⟨c, A, r⟩ := F; exact ⟨c, A.other W q, r⟩
theorem Av.keep {ws : List Addr} (F : Av Z h a ty n f) (K : Keep h h' ws) (q : a ∉ ws) : Av Z h' a ty n f := by obtain ⟨c, A, r⟩ := F; exact ⟨c, ⟨K.2.1 a c A.1 q, A.2⟩, r⟩
theorem Av.cong (F : Av Z h a ty n f) (q : ∀ i, i < n → f i = f' i) : Av Z h a ty n f' := by obtain ⟨c, A, r1, r2, r3⟩ := F; exact ⟨c, A, r1, r2, fun i hi => by rw [← q i hi]; exact r3 i hi⟩
theorem Av.bound (F : Av Z h a ty n f) : n < 2 ^ 31 := by obtain ⟨c, A, r1, r2, r3⟩ := F; exact r2
theorem tn_of {j : Int32} {i : Nat} (q : j.toInt = (i : Int)) : j.toNatClampNeg = i := by simp only [Int32.toNatClampNeg]; omega
theorem own_nn {j : Int32} {i : Nat} (q : j.toInt = (i : Int)) : ¬ j < 0 := by
  rw [Int32.lt_iff_toInt_lt]
  have e0 : (0 : Int32).toInt = 0 := rfl
  omega
theorem Av.new {k : ClassId} {z : Int32} (A : Arr Z h a (newA k ty z) ty) (q : z.toInt = (n : Int)) : Av Z h a ty n (fun _ => defaultValue ty) := by
  have e := tn_of q
  have hz := z.toInt_lt
  refine ⟨_, A, by rw [sz_new, e], by omega, fun i hi => ?_⟩
  simp [newA, e, hi]
theorem in_of {c : Cell} (S : c.slots.size = n) (hj : j.toInt = (i : Int)) (hi : i < n) : ¬ (j < 0 ∨ c.slots.size ≤ j.toNatClampNeg) := by
  rw [S, tn_of hj, Int32.lt_iff_toInt_lt]
  have e0 : (0 : Int32).toInt = 0 := rfl
  omega
theorem Av.ldI (X : Stand p l e R s m args below meth c T locs cells slots) (hx : p.tables.exec = Jvm.exec) (hZ : Z.Warmed39 s.vm) (eT : T.heap = h) (F : Av Z h a .int n f) (hj : j.toInt = (i : Int)) (hi : i < n) {g : JFrame} (hg : g.method = m) {rest : List Value} (hs : g.stack = .int j :: .ref a :: rest) (hd : decode c.code g.pc = .ok (.iaload, 1)) :
    ∀ t, Steps p.tables e below (T.setTop { g with pc := g.pc + 1, stack := f i :: rest }) t → Steps p.tables e below (T.setTop g) t := by
  obtain ⟨c, A, S, r, H⟩ := F
  exact X.iaload hx (by rw [eT]; exact A.1) (State.isArrayOf_alike hZ.alike A.2.1) A.2.2 (in_of S hj hi) (by rw [tn_of hj]; exact H i hi) hg hs hd
theorem Av.ldJ (X : Stand p l e R s m args below meth c T locs cells slots) (hx : p.tables.exec = Jvm.exec) (hZ : Z.Warmed39 s.vm) (eT : T.heap = h) (F : Av Z h a .long n f) (hj : j.toInt = (i : Int)) (hi : i < n) {g : JFrame} (hg : g.method = m) {rest : List Value} (hs : g.stack = .int j :: .ref a :: rest) (hd : decode c.code g.pc = .ok (.laload, 1)) :
    ∀ t, Steps p.tables e below (T.setTop { g with pc := g.pc + 1, stack := f i :: rest }) t → Steps p.tables e below (T.setTop g) t := by
  obtain ⟨c, A, S, r, H⟩ := F
  exact X.laload hx (by rw [eT]; exact A.1) (State.isArrayOf_alike hZ.alike A.2.1) A.2.2 (in_of S hj hi) (by rw [tn_of hj]; exact H i hi) hg hs hd
theorem Av.ldB (X : Stand p l e R s m args below meth c T locs cells slots) (hx : p.tables.exec = Jvm.exec) (hZ : Z.Warmed39 s.vm) (eT : T.heap = h) (F : Av Z h a .byte n f) (hj : j.toInt = (i : Int)) (hi : i < n) {g : JFrame} (hg : g.method = m) {rest : List Value} (hs : g.stack = .int j :: .ref a :: rest) (hd : decode c.code g.pc = .ok (.baload, 1)) :
    ∀ t, Steps p.tables e below (T.setTop { g with pc := g.pc + 1, stack := f i :: rest }) t → Steps p.tables e below (T.setTop g) t := by
  obtain ⟨c, A, S, r, H⟩ := F
  exact X.baloadBytes hx (by rw [eT]; exact A.1) (State.isArrayOf_alike hZ.alike A.2.1) A.2.2 (in_of S hj hi) (by rw [tn_of hj]; exact H i hi) hg hs hd
theorem Av.len (X : Stand p l e R s m args below meth c T locs cells slots) (hx : p.tables.exec = Jvm.exec) (hZ : Z.Warmed39 s.vm) (eT : T.heap = h) (F : Av Z h a ty n f) {g : JFrame} (hg : g.method = m) {rest : List Value} (hs : g.stack = .ref a :: rest) (hd : decode c.code g.pc = .ok (.arraylength, 1)) :
    ∀ t, Steps p.tables e below (T.setTop { g with pc := g.pc + 1, stack := .int (Nat.toInt32 n) :: rest }) t → Steps p.tables e below (T.setTop g) t := by
  obtain ⟨c, A, rfl, r, H⟩ := F
  exact X.arraylength hx (by rw [eT]; exact A.1) (State.isArrayOf_alike hZ.alike A.2.1) hg hs hd
/-- f with v at the place i -/
def upd {α : Type} (f : Nat → α) (i : Nat) (v : α) : Nat → α := fun k => if k = i then v else f k
theorem Av.set (F : Av Z h a ty n f) (hi : i < n) (W : Wr h h' a i v) : Av Z h' a ty n (upd f i v) := by
  obtain ⟨c, A, S, r, H⟩ := F
  refine ⟨_, A.same W, by rw [sz_set]; exact S, r, fun k hk => ?_⟩
  by_cases u : k = i
  · subst u; simp [Cell.setSlot, upd, S, hk]
  · simp only [Cell.setSlot, upd, u, if_false]
    rw [Array.getElem?_setIfInBounds_ne (Ne.symm u)]; exact H k hk
theorem Av.stI (X : Stand p l e R s m args below meth c T locs cells slots) (hx : p.tables.exec = Jvm.exec) (hZ : Z.Warmed39 s.vm) (eT : T.heap = h) (F : Av Z h a .int n f) (hj : j.toInt = (i : Int)) (hi : i < n) {g : JFrame} (hg : g.method = m) {rest : List Value} (hs : g.stack = .int x :: .int j :: .ref a :: rest) (hd : decode c.code g.pc = .ok (.iastore, 1)) :
    ∃ T' h', Stand p l e R s m args below meth c T' (locs ++ [⟨a, i⟩]) cells slots ∧ T'.heap = h' ∧ Wr h h' a i (.int x) ∧ Av Z h' a .int n (upd f i (.int x)) ∧ ∀ t, Steps p.tables e below (T'.setTop { g with pc := g.pc + 1, stack := rest }) t → Steps p.tables e below (T.setTop g) t := by
  have F' := F
  obtain ⟨c, A, S, r, H⟩ := F
  obtain ⟨T', h', X', e', W, st⟩ := Jvm.RoadKit.stI X hx hZ eT A (in_of S hj hi) hg hs hd
  rw [tn_of hj] at W X'
  exact ⟨T', h', X', e', W, F'.set hi W, st⟩
theorem Av.stJ {x : Int64} (X : Stand p l e R s m args below meth c T locs cells slots) (hx : p.tables.exec = Jvm.exec) (hZ : Z.Warmed39 s.vm) (eT : T.heap = h) (F : Av Z h a .long n f) (hj : j.toInt = (i : Int)) (hi : i < n) {g : JFrame} (hg : g.method = m) {rest : List Value} (hs : g.stack = .long x :: .int j :: .ref a :: rest) (hd : decode c.code g.pc = .ok (.lastore, 1)) :
    ∃ T' h', Stand p l e R s m args below meth c T' (locs ++ [⟨a, i⟩]) cells slots ∧ T'.heap = h' ∧ Wr h h' a i (.long x) ∧ Av Z h' a .long n (upd f i (.long x)) ∧ ∀ t, Steps p.tables e below (T'.setTop { g with pc := g.pc + 1, stack := rest }) t → Steps p.tables e below (T.setTop g) t := by
  have F' := F
  obtain ⟨c, A, S, r, H⟩ := F
  obtain ⟨T', h', X', e', W, st⟩ := Jvm.RoadKit.stJ X hx hZ eT A (in_of S hj hi) hg hs hd
  rw [tn_of hj] at W X'
  exact ⟨T', h', X', e', W, F'.set hi W, st⟩
theorem Av.stB (X : Stand p l e R s m args below meth c T locs cells slots) (hx : p.tables.exec = Jvm.exec) (hZ : Z.Warmed39 s.vm) (eT : T.heap = h) (F : Av Z h a .byte n f) (hj : j.toInt = (i : Int)) (hi : i < n) {g : JFrame} (hg : g.method = m) {rest : List Value} (hs : g.stack = .int x :: .int j :: .ref a :: rest) (hd : decode c.code g.pc = .ok (.bastore, 1)) :
    ∃ T' h', Stand p l e R s m args below meth c T' (locs ++ [⟨a, i⟩]) cells slots ∧ T'.heap = h' ∧ Wr h h' a i (.int (nar .byte x)) ∧ Av Z h' a .byte n (upd f i (.int (nar .byte x))) ∧ ∀ t, Steps p.tables e below (T'.setTop { g with pc := g.pc + 1, stack := rest }) t → Steps p.tables e below (T.setTop g) t := by
  have F' := F
  obtain ⟨c, A, S, r, H⟩ := F
  obtain ⟨T', h', X', e', W, st⟩ := Jvm.RoadKit.stB X hx hZ eT A (in_of S hj hi) hg hs hd
  rw [tn_of hj] at W X'
  exact ⟨T', h', X', e', W, F'.set hi W, st⟩
end Own
theorem d1_0 : decode prog_81_method_1_code 0 = .ok (.aload_n 0, 1) := by decide +kernel
theorem d1_1 : decode prog_81_method_1_code 1 = .ok (.invokespecial 1, 3) := by decide +kernel
theorem d1_4 : decode prog_81_method_1_code 4 = .ok (.aload_n 0, 1) := by decide +kernel
theorem d1_5 : decode prog_81_method_1_code 5 = .ok (.lload_n 1, 1) := by decide +kernel
theorem d1_6 : decode prog_81_method_1_code 6 = .ok (.putfield 7, 3) := by decide +kernel
theorem d1_9 : decode prog_81_method_1_code 9 = .ok (.aload_n 0, 1) := by decide +kernel
theorem d1_10 : decode prog_81_method_1_code 10 = .ok (.lload_n 3, 1) := by decide +kernel
theorem d1_11 : decode prog_81_method_1_code 11 = .ok (.putfield 13, 3) := by decide +kernel
theorem d1_14 : decode prog_81_method_1_code 14 = .ok (.aload_n 0, 1) := by decide +kernel
theorem d1_15 : decode prog_81_method_1_code 15 = .ok (.lload 5, 2) := by decide +kernel
theorem d1_17 : decode prog_81_method_1_code 17 = .ok (.putfield 16, 3) := by decide +kernel
theorem d1_20 : decode prog_81_method_1_code 20 = .ok (.aload_n 0, 1) := by decide +kernel
theorem d1_21 : decode prog_81_method_1_code 21 = .ok (.iload 7, 2) := by decide +kernel
theorem d1_23 : decode prog_81_method_1_code 23 = .ok (.putfield 19, 3) := by decide +kernel
theorem d1_26 : decode prog_81_method_1_code 26 = .ok (.aload_n 0, 1) := by decide +kernel
theorem d1_27 : decode prog_81_method_1_code 27 = .ok (.lload 8, 2) := by decide +kernel
theorem d1_29 : decode prog_81_method_1_code 29 = .ok (.putfield 23, 3) := by decide +kernel
theorem d1_32 : decode prog_81_method_1_code 32 = .ok (.return_, 1) := by decide +kernel
theorem d2_0 : decode jdk_30_method_1_code 0 = .ok (.aload_n 0, 1) := by decide +kernel
theorem d2_1 : decode jdk_30_method_1_code 1 = .ok (.invokespecial 1, 3) := by decide +kernel
theorem d2_4 : decode jdk_30_method_1_code 4 = .ok (.return_, 1) := by decide +kernel
theorem d4_0 : decode prog_81_method_4_code 0 = .ok (.aload_n 0, 1) := by decide +kernel
theorem d4_1 : decode prog_81_method_4_code 1 = .ok (.getfield 19, 3) := by decide +kernel
theorem d4_4 : decode prog_81_method_4_code 4 = .ok (.bipush 90, 2) := by decide +kernel
theorem d4_6 : decode prog_81_method_4_code 6 = .ok (.if_icmp .eq 16, 3) := by decide +kernel
theorem d4_9 : decode prog_81_method_4_code 9 = .ok (.aload_n 0, 1) := by decide +kernel
theorem d4_10 : decode prog_81_method_4_code 10 = .ok (.getfield 19, 3) := by decide +kernel
theorem d4_13 : decode prog_81_method_4_code 13 = .ok (.bipush 88, 2) := by decide +kernel
theorem d4_15 : decode prog_81_method_4_code 15 = .ok (.if_icmp .eq 7, 3) := by decide +kernel
theorem d4_18 : decode prog_81_method_4_code 18 = .ok (.iconst 1, 1) := by decide +kernel
theorem d4_19 : decode prog_81_method_4_code 19 = .ok (.goto 4, 3) := by decide +kernel
theorem d4_22 : decode prog_81_method_4_code 22 = .ok (.iconst 0, 1) := by decide +kernel
theorem d4_23 : decode prog_81_method_4_code 23 = .ok (.ireturn, 1) := by decide +kernel
theorem pd_0 : parseMethodDescriptor "()V" = some ⟨[], none⟩ := by decide +kernel
theorem pd_1 : parseMethodDescriptor "(JJJCJ)V" = some ⟨[.long, .long, .long, .char, .long], none⟩ := by decide +kernel
theorem pd_2 : parseMethodDescriptor "()Z" = some ⟨[], some .boolean⟩ := by decide +kernel
theorem tw0 {a0 : Array Value} {Z : State} (hw : ∀ d ∈ tables_1, d.before a0 Z = true) : (Jvm.Cond.classLink "com/example/tools_to_sandbox/toolstosandbox/service/EntryIsLivePinLaw" (8 : Nat) "com/example/tools_to_sandbox/toolstosandbox/service/HostProcesses$Entry").before a0 Z = true := hw _ (List.mem_of_getElem? (i := 0) rfl)
theorem tw1 {a0 : Array Value} {Z : State} (hw : ∀ d ∈ tables_1, d.before a0 Z = true) : (Jvm.Cond.instantiable "com/example/tools_to_sandbox/toolstosandbox/service/HostProcesses$Entry" (5 : Nat)).before a0 Z = true := hw _ (List.mem_of_getElem? (i := 1) rfl)
theorem tw2 {a0 : Array Value} {Z : State} (hw : ∀ d ∈ tables_1, d.before a0 Z = true) : (Jvm.Cond.initialized "com/example/tools_to_sandbox/toolstosandbox/service/HostProcesses$Entry").before a0 Z = true := hw _ (List.mem_of_getElem? (i := 2) rfl)
theorem tw3 {a0 : Array Value} {Z : State} (hw : ∀ d ∈ tables_1, d.before a0 Z = true) : (Jvm.Cond.methodLink "com/example/tools_to_sandbox/toolstosandbox/service/EntryIsLivePinLaw" (10 : Nat) ({ cls := "com/example/tools_to_sandbox/toolstosandbox/service/HostProcesses$Entry", name := "<init>", desc := "(JJJCJ)V" } : Jvm.MethodName)).before a0 Z = true := hw _ (List.mem_of_getElem? (i := 3) rfl)
theorem tw4 {a0 : Array Value} {Z : State} (hw : ∀ d ∈ tables_1, d.before a0 Z = true) : (Jvm.Cond.instanceMethod ({ cls := "com/example/tools_to_sandbox/toolstosandbox/service/HostProcesses$Entry", name := "<init>", desc := "(JJJCJ)V" } : Jvm.MethodName)).before a0 Z = true := hw _ (List.mem_of_getElem? (i := 4) rfl)
theorem tw5 {a0 : Array Value} {Z : State} (hw : ∀ d ∈ tables_1, d.before a0 Z = true) : (Jvm.Cond.code ({ cls := "com/example/tools_to_sandbox/toolstosandbox/service/HostProcesses$Entry", name := "<init>", desc := "(JJJCJ)V" } : Jvm.MethodName) prog_81_method_1_code (10 : Nat) (Option.none : Option Jvm.ClassFile.FieldType)).before a0 Z = true := hw _ (List.mem_of_getElem? (i := 5) rfl)
theorem tw6 {a0 : Array Value} {Z : State} (hw : ∀ d ∈ tables_1, d.before a0 Z = true) : (Jvm.Cond.methodLink "com/example/tools_to_sandbox/toolstosandbox/service/HostProcesses$Entry" (1 : Nat) ({ cls := "java/lang/Record", name := "<init>", desc := "()V" } : Jvm.MethodName)).before a0 Z = true := hw _ (List.mem_of_getElem? (i := 6) rfl)
theorem tw7 {a0 : Array Value} {Z : State} (hw : ∀ d ∈ tables_1, d.before a0 Z = true) : (Jvm.Cond.instanceMethod ({ cls := "java/lang/Record", name := "<init>", desc := "()V" } : Jvm.MethodName)).before a0 Z = true := hw _ (List.mem_of_getElem? (i := 7) rfl)
theorem tw9 {a0 : Array Value} {Z : State} (hw : ∀ d ∈ tables_1, d.before a0 Z = true) : (Jvm.Cond.initialized "java/lang/Record").before a0 Z = true := hw _ (List.mem_of_getElem? (i := 9) rfl)
theorem tw10 {a0 : Array Value} {Z : State} (hw : ∀ d ∈ tables_1, d.before a0 Z = true) : (Jvm.Cond.code ({ cls := "java/lang/Record", name := "<init>", desc := "()V" } : Jvm.MethodName) jdk_30_method_1_code (1 : Nat) (Option.none : Option Jvm.ClassFile.FieldType)).before a0 Z = true := hw _ (List.mem_of_getElem? (i := 10) rfl)
theorem tw11 {a0 : Array Value} {Z : State} (hw : ∀ d ∈ tables_1, d.before a0 Z = true) : (Jvm.Cond.methodLink "java/lang/Record" (1 : Nat) ({ cls := "java/lang/Object", name := "<init>", desc := "()V" } : Jvm.MethodName)).before a0 Z = true := hw _ (List.mem_of_getElem? (i := 11) rfl)
theorem tw12 {a0 : Array Value} {Z : State} (hw : ∀ d ∈ tables_1, d.before a0 Z = true) : (Jvm.Cond.instanceMethod ({ cls := "java/lang/Object", name := "<init>", desc := "()V" } : Jvm.MethodName)).before a0 Z = true := hw _ (List.mem_of_getElem? (i := 12) rfl)
theorem tw13 {a0 : Array Value} {Z : State} (hw : ∀ d ∈ tables_1, d.before a0 Z = true) : (Jvm.Cond.code ({ cls := "java/lang/Object", name := "<init>", desc := "()V" } : Jvm.MethodName) object_method_1_code (1 : Nat) (Option.none : Option Jvm.ClassFile.FieldType)).before a0 Z = true := hw _ (List.mem_of_getElem? (i := 13) rfl)
theorem tw14 {a0 : Array Value} {Z : State} (hw : ∀ d ∈ tables_1, d.before a0 Z = true) : (Jvm.Cond.fieldLink "com/example/tools_to_sandbox/toolstosandbox/service/HostProcesses$Entry" (7 : Nat) "com/example/tools_to_sandbox/toolstosandbox/service/HostProcesses$Entry" "pid" "J").before a0 Z = true := hw _ (List.mem_of_getElem? (i := 14) rfl)
theorem tw15 {a0 : Array Value} {Z : State} (hw : ∀ d ∈ tables_1, d.before a0 Z = true) : (Jvm.Cond.laysFinal "com/example/tools_to_sandbox/toolstosandbox/service/HostProcesses$Entry" "com/example/tools_to_sandbox/toolstosandbox/service/HostProcesses$Entry" "pid" "J").before a0 Z = true := hw _ (List.mem_of_getElem? (i := 15) rfl)
theorem tw16 {a0 : Array Value} {Z : State} (hw : ∀ d ∈ tables_1, d.before a0 Z = true) : (Jvm.Cond.fieldLink "com/example/tools_to_sandbox/toolstosandbox/service/HostProcesses$Entry" (13 : Nat) "com/example/tools_to_sandbox/toolstosandbox/service/HostProcesses$Entry" "parent" "J").before a0 Z = true := hw _ (List.mem_of_getElem? (i := 16) rfl)
theorem tw17 {a0 : Array Value} {Z : State} (hw : ∀ d ∈ tables_1, d.before a0 Z = true) : (Jvm.Cond.laysFinal "com/example/tools_to_sandbox/toolstosandbox/service/HostProcesses$Entry" "com/example/tools_to_sandbox/toolstosandbox/service/HostProcesses$Entry" "parent" "J").before a0 Z = true := hw _ (List.mem_of_getElem? (i := 17) rfl)
theorem tw18 {a0 : Array Value} {Z : State} (hw : ∀ d ∈ tables_1, d.before a0 Z = true) : (Jvm.Cond.fieldLink "com/example/tools_to_sandbox/toolstosandbox/service/HostProcesses$Entry" (16 : Nat) "com/example/tools_to_sandbox/toolstosandbox/service/HostProcesses$Entry" "session" "J").before a0 Z = true := hw _ (List.mem_of_getElem? (i := 18) rfl)
theorem tw19 {a0 : Array Value} {Z : State} (hw : ∀ d ∈ tables_1, d.before a0 Z = true) : (Jvm.Cond.laysFinal "com/example/tools_to_sandbox/toolstosandbox/service/HostProcesses$Entry" "com/example/tools_to_sandbox/toolstosandbox/service/HostProcesses$Entry" "session" "J").before a0 Z = true := hw _ (List.mem_of_getElem? (i := 19) rfl)
theorem tw20 {a0 : Array Value} {Z : State} (hw : ∀ d ∈ tables_1, d.before a0 Z = true) : (Jvm.Cond.fieldLink "com/example/tools_to_sandbox/toolstosandbox/service/HostProcesses$Entry" (19 : Nat) "com/example/tools_to_sandbox/toolstosandbox/service/HostProcesses$Entry" "state" "C").before a0 Z = true := hw _ (List.mem_of_getElem? (i := 20) rfl)
theorem tw21 {a0 : Array Value} {Z : State} (hw : ∀ d ∈ tables_1, d.before a0 Z = true) : (Jvm.Cond.laysFinal "com/example/tools_to_sandbox/toolstosandbox/service/HostProcesses$Entry" "com/example/tools_to_sandbox/toolstosandbox/service/HostProcesses$Entry" "state" "C").before a0 Z = true := hw _ (List.mem_of_getElem? (i := 21) rfl)
theorem tw22 {a0 : Array Value} {Z : State} (hw : ∀ d ∈ tables_1, d.before a0 Z = true) : (Jvm.Cond.fieldLink "com/example/tools_to_sandbox/toolstosandbox/service/HostProcesses$Entry" (23 : Nat) "com/example/tools_to_sandbox/toolstosandbox/service/HostProcesses$Entry" "startTicks" "J").before a0 Z = true := hw _ (List.mem_of_getElem? (i := 22) rfl)
theorem tw23 {a0 : Array Value} {Z : State} (hw : ∀ d ∈ tables_1, d.before a0 Z = true) : (Jvm.Cond.laysFinal "com/example/tools_to_sandbox/toolstosandbox/service/HostProcesses$Entry" "com/example/tools_to_sandbox/toolstosandbox/service/HostProcesses$Entry" "startTicks" "J").before a0 Z = true := hw _ (List.mem_of_getElem? (i := 23) rfl)
theorem tw24 {a0 : Array Value} {Z : State} (hw : ∀ d ∈ tables_1, d.before a0 Z = true) : (Jvm.Cond.methodLink "com/example/tools_to_sandbox/toolstosandbox/service/EntryIsLivePinLaw" (13 : Nat) ({ cls := "com/example/tools_to_sandbox/toolstosandbox/service/HostProcesses$Entry", name := "isLive", desc := "()Z" } : Jvm.MethodName)).before a0 Z = true := hw _ (List.mem_of_getElem? (i := 24) rfl)
theorem tw25 {a0 : Array Value} {Z : State} (hw : ∀ d ∈ tables_1, d.before a0 Z = true) : (Jvm.Cond.declares ({ cls := "com/example/tools_to_sandbox/toolstosandbox/service/HostProcesses$Entry", name := "isLive", desc := "()Z" } : Jvm.MethodName)).before a0 Z = true := hw _ (List.mem_of_getElem? (i := 25) rfl)
theorem tw26 {a0 : Array Value} {Z : State} (hw : ∀ d ∈ tables_1, d.before a0 Z = true) : (Jvm.Cond.instanceMethod ({ cls := "com/example/tools_to_sandbox/toolstosandbox/service/HostProcesses$Entry", name := "isLive", desc := "()Z" } : Jvm.MethodName)).before a0 Z = true := hw _ (List.mem_of_getElem? (i := 26) rfl)
theorem tw27 {a0 : Array Value} {Z : State} (hw : ∀ d ∈ tables_1, d.before a0 Z = true) : (Jvm.Cond.selects "com/example/tools_to_sandbox/toolstosandbox/service/HostProcesses$Entry" ({ cls := "com/example/tools_to_sandbox/toolstosandbox/service/HostProcesses$Entry", name := "isLive", desc := "()Z" } : Jvm.MethodName) ({ cls := "com/example/tools_to_sandbox/toolstosandbox/service/HostProcesses$Entry", name := "isLive", desc := "()Z" } : Jvm.MethodName)).before a0 Z = true := hw _ (List.mem_of_getElem? (i := 27) rfl)
theorem tw28 {a0 : Array Value} {Z : State} (hw : ∀ d ∈ tables_1, d.before a0 Z = true) : (Jvm.Cond.code ({ cls := "com/example/tools_to_sandbox/toolstosandbox/service/HostProcesses$Entry", name := "isLive", desc := "()Z" } : Jvm.MethodName) prog_81_method_4_code (1 : Nat) (Option.some Jvm.ClassFile.FieldType.boolean)).before a0 Z = true := hw _ (List.mem_of_getElem? (i := 28) rfl)
theorem tw29 {a0 : Array Value} {Z : State} (hw : ∀ d ∈ tables_1, d.before a0 Z = true) : (Jvm.Cond.constant "com/example/tools_to_sandbox/toolstosandbox/service/EntryIsLivePinLaw" (7 : Nat) (65535 : Int32)).before a0 Z = true := hw _ (List.mem_of_getElem? (i := 29) rfl)
theorem ef_rm2 (m : MethodId) (x0 : Addr) : entryFrame m #[(.ref x0)] 1 = mkF m 0 #[.val (.ref x0)] [] := by first | (simp [entryFrame, mkF, argsToLocals, Value.category]; done) | rfl
theorem pn_rm2 : plainName "java/lang/Record" = true := by first | (simp [plainName, overriddenIn]; done) | decide +kernel
def Q_rm2 (Z : State) (a1 : Addr)  (h0 : Heap) (n0 : Nat) (v : Option Value) (h : Heap) (L : List Loc) : Prop := v = none ∧ Fr n0 L ∧ h = h0
set_option maxRecDepth 65536 in
set_option maxHeartbeats 40000000 in
theorem rm2 (l : Launch) (Z : State) (a0 : Array Value) (hw : ∀ d ∈ tables_1, d.before a0 Z = true) (ws : List Jvm.Cond) (a1 : Addr) (h0 : Heap) (n0 : Nat) (Z0 : n0 ≤ h0.size) :
    MetFree l (⟨"java/lang/Record", "<init>", "()V"⟩ : MethodName) (head1 (Jvm.Cond.code (⟨"java/lang/Record", "<init>", "()V"⟩ : MethodName) jdk_30_method_1_code 1 none :: ws) ({ frames := 1, cells := 0, slots := 0, locals := 12 } : Room)) (fun a U => a = #[(.ref a1)] ∧ Z.Warmed39 U.vm ∧ U.heap = h0) (fun _ _ _ _ _ => True) (fun _ U o U' => ∃ v L, o = .returned v ∧ Q_rm2 Z a1  h0 n0 v U'.heap L ∧ FrameEnd U o U' L ({ frames := 1, cells := 0, slots := 0, locals := 12 } : Room).cells ({ frames := 1, cells := 0, slots := 0, locals := 12 } : Room).slots) := by
  refine MetFree.of_bodySF (plainFor_of_name pn_rm2) hisR ?_
  intro p e s m args below meth c s₁ Bd hml0 hP hK
  obtain ⟨rfl, hZ, hh⟩ := hP
  have hx := Bd.exec
  have hby := Bd.bytes
  have hml : c.maxLocals = 1 := hml0
  have hown : s.vm.findClass "java/lang/Record" = some m.cls := findClass_of_methodNamed Bd.named
  have hnm := (name_of_methodNamed Bd.named Bd.method).1
  have X0 : Stand p l e ({ frames := 1, cells := 0, slots := 0, locals := 12 } : Room) s m #[(.ref a1)] below meth c s₁ [] 0 0 := Stand.of_body Bd
  have e0 : s₁.heap = h0 := by rw [← hh, Bd.state]; rfl
  have N0 := Fr.nil n0
  have hlk : meth.locks = false := BodyLoose.notSynchronized Bd
  have hrt := Bd.returns
  have hG := Goes.bk p e below s (fun (v : Option Value) (h : Heap) (L : List Loc) => v = none ∧ Fr n0 L ∧ h = h0) 0 0
  show Goes p e below s (fun (v : Option Value) (h : Heap) (L : List Loc) => v = none ∧ Fr n0 L ∧ h = h0) 0 0 s₁ (entryFrame m #[(.ref a1)] 1)
  rw [ef_rm2 m a1]
  refine hG _ s₁ _ (mkF m 1 #[.val (.ref a1)] [(.ref a1)]) (fun t kq_ => XS.aloadN X0.here hx rfl (hb hby d2_0) rfl rfl kq_) ?_
  obtain ⟨T1, X1, e1, st1⟩ := initO X0 hx hZ hown (tw11 hw) (tw12 hw) (tw13 hw) e0 (g := (mkF m 1 #[.val (.ref a1)] [(.ref a1)])) rfl (by rw [hml]; rfl) rfl (hb hby d2_1) (by decide) (W := 0) (by show 2 * 0 + _ ≤ _; exact Nat.le_of_eq rfl) (by decide)
  refine hG _ T1 _ (mkF m 4 #[.val (.ref a1)] []) st1 ?_
  exact Goes.retV X1 hx hlk hrt (hb hby d2_4) (by decide : 0 ≤ 0) (by decide : 0 ≤ 0) (by (try rw [e1]); exact ⟨rfl, N0, rfl⟩)
theorem ef_rm1 (m : MethodId) (x0 : Addr) (x1 : Int64) (x2 : Int64) (x3 : Int64) (x4 : Int32) (x5 : Int64) : entryFrame m #[(.ref x0), (.long x1), (.long x2), (.long x3), (.int x4), (.long x5)] 10 = mkF m 0 #[.val (.ref x0), .val (.long x1), .second, .val (.long x2), .second, .val (.long x3), .second, .val (.int x4), .val (.long x5), .second] [] := by first | (simp [entryFrame, mkF, argsToLocals, Value.category]; done) | rfl
theorem pn_rm1 : plainName "com/example/tools_to_sandbox/toolstosandbox/service/HostProcesses$Entry" = true := by first | (simp [plainName, overriddenIn]; done) | decide +kernel
def Q_rm1 (Z : State) (a1 : Addr) (q2 : Int64) (q3 : Int64) (q4 : Int64) (p5 : Int32) (q6 : Int64) (u_pid : Value) (u_parent : Value) (u_session : Value) (u_state : Value) (u_startTicks : Value)  (h0 : Heap) (n0 : Nat) (v : Option Value) (h : Heap) (L : List Loc) : Prop := v = none ∧ Fr n0 L ∧ Keep h0 h [a1] ∧ Fld Z h a1 "com/example/tools_to_sandbox/toolstosandbox/service/HostProcesses$Entry" "state" "C" (.int (nar .char p5))
set_option maxRecDepth 65536 in
set_option maxHeartbeats 40000000 in
theorem rm1 (l : Launch) (Z : State) (a0 : Array Value) (hw : ∀ d ∈ tables_1, d.before a0 Z = true) (ws : List Jvm.Cond) (a1 : Addr) (q2 : Int64) (q3 : Int64) (q4 : Int64) (p5 : Int32) (q6 : Int64) (h0 : Heap) (n0 : Nat) (Z0 : n0 ≤ h0.size) (u_pid : Value) (u_parent : Value) (u_session : Value) (u_state : Value) (u_startTicks : Value)  (E1 : Exa Z h0 a1 "com/example/tools_to_sandbox/toolstosandbox/service/HostProcesses$Entry") (g1 : n0 ≤ a1) (F_pid : Fld Z h0 a1 "com/example/tools_to_sandbox/toolstosandbox/service/HostProcesses$Entry" "pid" "J" u_pid) (F_parent : Fld Z h0 a1 "com/example/tools_to_sandbox/toolstosandbox/service/HostProcesses$Entry" "parent" "J" u_parent) (F_session : Fld Z h0 a1 "com/example/tools_to_sandbox/toolstosandbox/service/HostProcesses$Entry" "session" "J" u_session) (F_state : Fld Z h0 a1 "com/example/tools_to_sandbox/toolstosandbox/service/HostProcesses$Entry" "state" "C" u_state) (F_startTicks : Fld Z h0 a1 "com/example/tools_to_sandbox/toolstosandbox/service/HostProcesses$Entry" "startTicks" "J" u_startTicks) :
    MetFree l (⟨"com/example/tools_to_sandbox/toolstosandbox/service/HostProcesses$Entry", "<init>", "(JJJCJ)V"⟩ : MethodName) (head1 (Jvm.Cond.code (⟨"com/example/tools_to_sandbox/toolstosandbox/service/HostProcesses$Entry", "<init>", "(JJJCJ)V"⟩ : MethodName) prog_81_method_1_code 10 none :: ws) ({ frames := 2, cells := 0, slots := 0, locals := 24 } : Room)) (fun a U => a = #[(.ref a1), (.long q2), (.long q3), (.long q4), (.int p5), (.long q6)] ∧ Z.Warmed39 U.vm ∧ U.heap = h0) (fun _ _ _ _ _ => True) (fun _ U o U' => ∃ v L, o = .returned v ∧ Q_rm1 Z a1 q2 q3 q4 p5 q6 u_pid u_parent u_session u_state u_startTicks h0 n0 v U'.heap L ∧ FrameEnd U o U' L ({ frames := 2, cells := 0, slots := 0, locals := 24 } : Room).cells ({ frames := 2, cells := 0, slots := 0, locals := 24 } : Room).slots) := by
  refine MetFree.of_bodySF (plainFor_of_name pn_rm1) hisR ?_
  intro p e s m args below meth c s₁ Bd hml0 hP hK
  obtain ⟨rfl, hZ, hh⟩ := hP
  have hx := Bd.exec
  have hby := Bd.bytes
  have hml : c.maxLocals = 10 := hml0
  have hown : s.vm.findClass "com/example/tools_to_sandbox/toolstosandbox/service/HostProcesses$Entry" = some m.cls := findClass_of_methodNamed Bd.named
  have hnm := (name_of_methodNamed Bd.named Bd.method).1
  have X0 : Stand p l e ({ frames := 2, cells := 0, slots := 0, locals := 24 } : Room) s m #[(.ref a1), (.long q2), (.long q3), (.long q4), (.int p5), (.long q6)] below meth c s₁ [] 0 0 := Stand.of_body Bd
  have e0 : s₁.heap = h0 := by rw [← hh, Bd.state]; rfl
  have N0 := Fr.nil n0
  have hlk : meth.locks = false := BodyLoose.notSynchronized Bd
  have hrt := Bd.returns
  have hG := Goes.bk p e below s (fun (v : Option Value) (h : Heap) (L : List Loc) => v = none ∧ Fr n0 L ∧ Keep h0 h [a1] ∧ Fld Z h a1 "com/example/tools_to_sandbox/toolstosandbox/service/HostProcesses$Entry" "state" "C" (.int (nar .char p5))) 0 0
  show Goes p e below s (fun (v : Option Value) (h : Heap) (L : List Loc) => v = none ∧ Fr n0 L ∧ Keep h0 h [a1] ∧ Fld Z h a1 "com/example/tools_to_sandbox/toolstosandbox/service/HostProcesses$Entry" "state" "C" (.int (nar .char p5))) 0 0 s₁ (entryFrame m #[(.ref a1), (.long q2), (.long q3), (.long q4), (.int p5), (.long q6)] 10)
  rw [ef_rm1 m a1 q2 q3 q4 p5 q6]
  have K0 : Keep h0 h0 [a1] := Keep.refl h0 [a1]
  refine hG _ s₁ _ (mkF m 1 #[.val (.ref a1), .val (.long q2), .second, .val (.long q3), .second, .val (.long q4), .second, .val (.int p5), .val (.long q6), .second] [(.ref a1)]) (fun t kq_ => XS.aloadN X0.here hx rfl (hb hby d1_0) rfl rfl kq_) ?_
  obtain ⟨_, _, ⟨T2, L2, k2, n2⟩, -, X2, ⟨Lc2, hQ2, l2, y2, z2⟩, st2⟩ := X0.specialBack hx (y := (⟨"java/lang/Record", "<init>", "()V"⟩ : MethodName)) rfl hown (mvT hZ (tw6 hw)) (mvT hZ (tw7 hw)) (mvT hZ (tw10 hw)) (by decide) (backOf (W := 0) (rm2 l Z a0 hw [] a1 h0 n0 Z0) hZ (tw10 hw) (tw9 hw) (by decide) (by decide)) (g := (mkF m 1 #[.val (.ref a1), .val (.long q2), .second, .val (.long q3), .second, .val (.long q4), .second, .val (.int p5), .val (.long q6), .second] [(.ref a1)])) rfl (by rw [hml]; rfl) (Steps.refl _) (a := a1) (argsL := []) (rest := []) (lenOf pd_0 rfl) rfl (by show 2 * 0 + _ ≤ _; exact Nat.le_of_eq rfl) (hb hby d1_1) (fun _ _ => ⟨rfl, e0, (by decide : 0 + 0 ≤ _), (by decide : 0 + 0 ≤ _)⟩)
  dsimp only [Pt.U, Pt.locs, Pt.cells, Pt.slots] at X2 l2 y2 z2 st2 hQ2
  subst l2 y2 z2
  obtain ⟨rfl, N2q, hh1⟩ := hQ2
  have N2 := Fr.app N0 N2q
  have e2 : T2.heap = h0 := hh1
  refine hG _ T2 _ (mkF m 4 #[.val (.ref a1), .val (.long q2), .second, .val (.long q3), .second, .val (.long q4), .second, .val (.int p5), .val (.long q6), .second] []) (fun t kq_ => st2.trans kq_) ?_
  refine hG _ T2 _ (mkF m 5 #[.val (.ref a1), .val (.long q2), .second, .val (.long q3), .second, .val (.long q4), .second, .val (.int p5), .val (.long q6), .second] [(.ref a1)]) (fun t kq_ => XS.aloadN X2.here hx rfl (hb hby d1_4) rfl rfl kq_) ?_
  refine hG _ T2 _ (mkF m 6 #[.val (.ref a1), .val (.long q2), .second, .val (.long q3), .second, .val (.long q4), .second, .val (.int p5), .val (.long q6), .second] [(.long q2), (.ref a1)]) (fun t kq_ => XS.lloadN X2.here hx rfl (hb hby d1_5) rfl kq_) ?_
  obtain ⟨T3, h3, X3, e3, W3, st3⟩ := putF X2 hx hZ hown (host := "") (Or.inl (tw14 hw)) Via.refl e2 F_pid E1 (Or.inr ⟨(tw15 hw), rfl, hnm⟩) (tw1 hw) (ty := .long) (by decide) rfl rfl (g := (mkF m 6 #[.val (.ref a1), .val (.long q2), .second, .val (.long q3), .second, .val (.long q4), .second, .val (.int p5), .val (.long q6), .second] [(.long q2), (.ref a1)])) rfl rfl (hb hby d1_6)
  have F_pid_a1_3 : Fld Z h3 a1 "com/example/tools_to_sandbox/toolstosandbox/service/HostProcesses$Entry" "pid" "J" (.long q2) := F_pid.same W3
  have Zs4 : n0 ≤ h3.size := Nat.le_trans Z0 (Keep.of_wr W3).1
  have KK5 : Keep h0 h3 [a1] := K0.wr W3 (Or.inl (List.mem_of_getElem? (i := 0) rfl))
  have N3 := Fr.snoc X3 N2 g1
  refine hG _ T3 _ (mkF m 9 #[.val (.ref a1), .val (.long q2), .second, .val (.long q3), .second, .val (.long q4), .second, .val (.int p5), .val (.long q6), .second] []) st3 ?_
  refine hG _ T3 _ (mkF m 10 #[.val (.ref a1), .val (.long q2), .second, .val (.long q3), .second, .val (.long q4), .second, .val (.int p5), .val (.long q6), .second] [(.ref a1)]) (fun t kq_ => XS.aloadN X3.here hx rfl (hb hby d1_9) rfl rfl kq_) ?_
  refine hG _ T3 _ (mkF m 11 #[.val (.ref a1), .val (.long q2), .second, .val (.long q3), .second, .val (.long q4), .second, .val (.int p5), .val (.long q6), .second] [(.long q3), (.ref a1)]) (fun t kq_ => XS.lloadN X3.here hx rfl (hb hby d1_10) rfl kq_) ?_
  have F_parent'6 : Fld Z h3 a1 "com/example/tools_to_sandbox/toolstosandbox/service/HostProcesses$Entry" "parent" "J" u_parent := (F_parent.other W3 (Or.inr (slot_ne (Or.inr (tw17 hw)) (Or.inr (tw15 hw)) (by decide) (t := .long) (t' := .long) (by decide) (by decide))))
  have E1'7 : Exa Z h3 a1 "com/example/tools_to_sandbox/toolstosandbox/service/HostProcesses$Entry" := (E1.wr W3)
  obtain ⟨T8, h8, X8, e8, W8, st8⟩ := putF X3 hx hZ hown (host := "") (Or.inl (tw16 hw)) Via.refl e3 F_parent'6 E1'7 (Or.inr ⟨(tw17 hw), rfl, hnm⟩) (tw1 hw) (ty := .long) (by decide) rfl rfl (g := (mkF m 11 #[.val (.ref a1), .val (.long q2), .second, .val (.long q3), .second, .val (.long q4), .second, .val (.int p5), .val (.long q6), .second] [(.long q3), (.ref a1)])) rfl rfl (hb hby d1_11)
  have F_parent_a1_8 : Fld Z h8 a1 "com/example/tools_to_sandbox/toolstosandbox/service/HostProcesses$Entry" "parent" "J" (.long q3) := F_parent'6.same W8
  have Zs9 : n0 ≤ h8.size := Nat.le_trans Zs4 (Keep.of_wr W8).1
  have KK10 : Keep h0 h8 [a1] := KK5.wr W8 (Or.inl (List.mem_of_getElem? (i := 0) rfl))
  have N8 := Fr.snoc X8 N3 g1
  refine hG _ T8 _ (mkF m 14 #[.val (.ref a1), .val (.long q2), .second, .val (.long q3), .second, .val (.long q4), .second, .val (.int p5), .val (.long q6), .second] []) st8 ?_
  refine hG _ T8 _ (mkF m 15 #[.val (.ref a1), .val (.long q2), .second, .val (.long q3), .second, .val (.long q4), .second, .val (.int p5), .val (.long q6), .second] [(.ref a1)]) (fun t kq_ => XS.aloadN X8.here hx rfl (hb hby d1_14) rfl rfl kq_) ?_
  refine hG _ T8 _ (mkF m 17 #[.val (.ref a1), .val (.long q2), .second, .val (.long q3), .second, .val (.long q4), .second, .val (.int p5), .val (.long q6), .second] [(.long q4), (.ref a1)]) (fun t kq_ => XS.lload X8.here hx rfl (hb hby d1_15) rfl kq_) ?_
  have F_session'11 : Fld Z h8 a1 "com/example/tools_to_sandbox/toolstosandbox/service/HostProcesses$Entry" "session" "J" u_session := ((F_session.other W3 (Or.inr (slot_ne (Or.inr (tw19 hw)) (Or.inr (tw15 hw)) (by decide) (t := .long) (t' := .long) (by decide) (by decide)))).other W8 (Or.inr (slot_ne (Or.inr (tw19 hw)) (Or.inr (tw17 hw)) (by decide) (t := .long) (t' := .long) (by decide) (by decide))))
  have E1'12 : Exa Z h8 a1 "com/example/tools_to_sandbox/toolstosandbox/service/HostProcesses$Entry" := (E1'7.wr W8)
  obtain ⟨T13, h13, X13, e13, W13, st13⟩ := putF X8 hx hZ hown (host := "") (Or.inl (tw18 hw)) Via.refl e8 F_session'11 E1'12 (Or.inr ⟨(tw19 hw), rfl, hnm⟩) (tw1 hw) (ty := .long) (by decide) rfl rfl (g := (mkF m 17 #[.val (.ref a1), .val (.long q2), .second, .val (.long q3), .second, .val (.long q4), .second, .val (.int p5), .val (.long q6), .second] [(.long q4), (.ref a1)])) rfl rfl (hb hby d1_17)
  have F_session_a1_13 : Fld Z h13 a1 "com/example/tools_to_sandbox/toolstosandbox/service/HostProcesses$Entry" "session" "J" (.long q4) := F_session'11.same W13
  have Zs14 : n0 ≤ h13.size := Nat.le_trans Zs9 (Keep.of_wr W13).1
  have KK15 : Keep h0 h13 [a1] := KK10.wr W13 (Or.inl (List.mem_of_getElem? (i := 0) rfl))
  have N13 := Fr.snoc X13 N8 g1
  refine hG _ T13 _ (mkF m 20 #[.val (.ref a1), .val (.long q2), .second, .val (.long q3), .second, .val (.long q4), .second, .val (.int p5), .val (.long q6), .second] []) st13 ?_
  refine hG _ T13 _ (mkF m 21 #[.val (.ref a1), .val (.long q2), .second, .val (.long q3), .second, .val (.long q4), .second, .val (.int p5), .val (.long q6), .second] [(.ref a1)]) (fun t kq_ => XS.aloadN X13.here hx rfl (hb hby d1_20) rfl rfl kq_) ?_
  refine hG _ T13 _ (mkF m 23 #[.val (.ref a1), .val (.long q2), .second, .val (.long q3), .second, .val (.long q4), .second, .val (.int p5), .val (.long q6), .second] [(.int p5), (.ref a1)]) (fun t kq_ => XS.iload X13.here hx rfl (hb hby d1_21) rfl kq_) ?_
  have F_state'16 : Fld Z h13 a1 "com/example/tools_to_sandbox/toolstosandbox/service/HostProcesses$Entry" "state" "C" u_state := (((F_state.other W3 (Or.inr (slot_ne (Or.inr (tw21 hw)) (Or.inr (tw15 hw)) (by decide) (t := .char) (t' := .long) (by decide) (by decide)))).other W8 (Or.inr (slot_ne (Or.inr (tw21 hw)) (Or.inr (tw17 hw)) (by decide) (t := .char) (t' := .long) (by decide) (by decide)))).other W13 (Or.inr (slot_ne (Or.inr (tw21 hw)) (Or.inr (tw19 hw)) (by decide) (t := .char) (t' := .long) (by decide) (by decide))))
  have E1'17 : Exa Z h13 a1 "com/example/tools_to_sandbox/toolstosandbox/service/HostProcesses$Entry" := (E1'12.wr W13)
  obtain ⟨T18, h18, X18, e18, W18, st18⟩ := putFN X13 hx hZ hown (tw20 hw) Via.refl e13 F_state'16 E1'17 (Or.inr ⟨(tw21 hw), rfl, hnm⟩) (tw1 hw) (ty := .char) (v' := (.int (nar .char p5))) (by decide) rfl (fits_nar_char _) (g := (mkF m 23 #[.val (.ref a1), .val (.long q2), .second, .val (.long q3), .second, .val (.long q4), .second, .val (.int p5), .val (.long q6), .second] [(.int p5), (.ref a1)])) rfl rfl (hb hby d1_23)
  have F_state_a1_18 : Fld Z h18 a1 "com/example/tools_to_sandbox/toolstosandbox/service/HostProcesses$Entry" "state" "C" (.int (nar .char p5)) := F_state'16.same W18
  have Zs19 : n0 ≤ h18.size := Nat.le_trans Zs14 (Keep.of_wr W18).1
  have KK20 : Keep h0 h18 [a1] := KK15.wr W18 (Or.inl (List.mem_of_getElem? (i := 0) rfl))
  have N18 := Fr.snoc X18 N13 g1
  refine hG _ T18 _ (mkF m 26 #[.val (.ref a1), .val (.long q2), .second, .val (.long q3), .second, .val (.long q4), .second, .val (.int p5), .val (.long q6), .second] []) st18 ?_
  refine hG _ T18 _ (mkF m 27 #[.val (.ref a1), .val (.long q2), .second, .val (.long q3), .second, .val (.long q4), .second, .val (.int p5), .val (.long q6), .second] [(.ref a1)]) (fun t kq_ => XS.aloadN X18.here hx rfl (hb hby d1_26) rfl rfl kq_) ?_
  refine hG _ T18 _ (mkF m 29 #[.val (.ref a1), .val (.long q2), .second, .val (.long q3), .second, .val (.long q4), .second, .val (.int p5), .val (.long q6), .second] [(.long q6), (.ref a1)]) (fun t kq_ => XS.lload X18.here hx rfl (hb hby d1_27) rfl kq_) ?_
  have F_startTicks'21 : Fld Z h18 a1 "com/example/tools_to_sandbox/toolstosandbox/service/HostProcesses$Entry" "startTicks" "J" u_startTicks := ((((F_startTicks.other W3 (Or.inr (slot_ne (Or.inr (tw23 hw)) (Or.inr (tw15 hw)) (by decide) (t := .long) (t' := .long) (by decide) (by decide)))).other W8 (Or.inr (slot_ne (Or.inr (tw23 hw)) (Or.inr (tw17 hw)) (by decide) (t := .long) (t' := .long) (by decide) (by decide)))).other W13 (Or.inr (slot_ne (Or.inr (tw23 hw)) (Or.inr (tw19 hw)) (by decide) (t := .long) (t' := .long) (by decide) (by decide)))).other W18 (Or.inr (slot_ne (Or.inr (tw23 hw)) (Or.inr (tw21 hw)) (by decide) (t := .long) (t' := .char) (by decide) (by decide))))
  have E1'22 : Exa Z h18 a1 "com/example/tools_to_sandbox/toolstosandbox/service/HostProcesses$Entry" := (E1'17.wr W18)
  obtain ⟨T23, h23, X23, e23, W23, st23⟩ := putF X18 hx hZ hown (host := "") (Or.inl (tw22 hw)) Via.refl e18 F_startTicks'21 E1'22 (Or.inr ⟨(tw23 hw), rfl, hnm⟩) (tw1 hw) (ty := .long) (by decide) rfl rfl (g := (mkF m 29 #[.val (.ref a1), .val (.long q2), .second, .val (.long q3), .second, .val (.long q4), .second, .val (.int p5), .val (.long q6), .second] [(.long q6), (.ref a1)])) rfl rfl (hb hby d1_29)
  have F_startTicks_a1_23 : Fld Z h23 a1 "com/example/tools_to_sandbox/toolstosandbox/service/HostProcesses$Entry" "startTicks" "J" (.long q6) := F_startTicks'21.same W23
  have Zs24 : n0 ≤ h23.size := Nat.le_trans Zs19 (Keep.of_wr W23).1
  have KK25 : Keep h0 h23 [a1] := KK20.wr W23 (Or.inl (List.mem_of_getElem? (i := 0) rfl))
  have N23 := Fr.snoc X23 N18 g1
  refine hG _ T23 _ (mkF m 32 #[.val (.ref a1), .val (.long q2), .second, .val (.long q3), .second, .val (.long q4), .second, .val (.int p5), .val (.long q6), .second] []) st23 ?_
  have F_state_a1_18'26 : Fld Z h23 a1 "com/example/tools_to_sandbox/toolstosandbox/service/HostProcesses$Entry" "state" "C" (.int (nar .char p5)) := (F_state_a1_18.other W23 (Or.inr (slot_ne (Or.inr (tw21 hw)) (Or.inr (tw23 hw)) (by decide) (t := .char) (t' := .long) (by decide) (by decide))))
  exact Goes.retV X23 hx hlk hrt (hb hby d1_32) (by decide : 0 ≤ 0) (by decide : 0 ≤ 0) (by (try rw [e23]); exact ⟨rfl, N23, KK25, F_state_a1_18'26⟩)
theorem ef_rm4 (m : MethodId) (x0 : Addr) : entryFrame m #[(.ref x0)] 1 = mkF m 0 #[.val (.ref x0)] [] := by first | (simp [entryFrame, mkF, argsToLocals, Value.category]; done) | rfl
theorem pn_rm4 : plainName "com/example/tools_to_sandbox/toolstosandbox/service/HostProcesses$Entry" = true := by first | (simp [plainName, overriddenIn]; done) | decide +kernel
def Q_rm4 (Z : State) (a1 : Addr) (w : Int32) (h0 : Heap) (n0 : Nat) (v : Option Value) (h : Heap) (L : List Loc) : Prop := v = some (.int (if w = 90 ∨ w = 88 then 0 else 1)) ∧ Fr n0 L ∧ h = h0
set_option maxRecDepth 65536 in
set_option maxHeartbeats 40000000 in
theorem rm4 (l : Launch) (Z : State) (a0 : Array Value) (hw : ∀ d ∈ tables_1, d.before a0 Z = true) (ws : List Jvm.Cond) (a1 : Addr) (h0 : Heap) (n0 : Nat) (Z0 : n0 ≤ h0.size) (w : Int32) (F1 : Fld Z h0 a1 "com/example/tools_to_sandbox/toolstosandbox/service/HostProcesses$Entry" "state" "C" (.int w)) :
    MetFree l (⟨"com/example/tools_to_sandbox/toolstosandbox/service/HostProcesses$Entry", "isLive", "()Z"⟩ : MethodName) (head1 (Jvm.Cond.code (⟨"com/example/tools_to_sandbox/toolstosandbox/service/HostProcesses$Entry", "isLive", "()Z"⟩ : MethodName) prog_81_method_4_code 1 (some .boolean) :: ws) ({ frames := 0, cells := 0, slots := 0, locals := 0 } : Room)) (fun a U => a = #[(.ref a1)] ∧ Z.Warmed39 U.vm ∧ U.heap = h0) (fun _ _ _ _ _ => True) (fun _ U o U' => ∃ v L, o = .returned v ∧ Q_rm4 Z a1 w h0 n0 v U'.heap L ∧ FrameEnd U o U' L ({ frames := 0, cells := 0, slots := 0, locals := 0 } : Room).cells ({ frames := 0, cells := 0, slots := 0, locals := 0 } : Room).slots) := by
  refine MetFree.of_bodySF (plainFor_of_name pn_rm4) hisR ?_
  intro p e s m args below meth c s₁ Bd hml0 hP hK
  obtain ⟨rfl, hZ, hh⟩ := hP
  have hx := Bd.exec
  have hby := Bd.bytes
  have hml : c.maxLocals = 1 := hml0
  have hown : s.vm.findClass "com/example/tools_to_sandbox/toolstosandbox/service/HostProcesses$Entry" = some m.cls := findClass_of_methodNamed Bd.named
  have hnm := (name_of_methodNamed Bd.named Bd.method).1
  have X0 : Stand p l e ({ frames := 0, cells := 0, slots := 0, locals := 0 } : Room) s m #[(.ref a1)] below meth c s₁ [] 0 0 := Stand.of_body Bd
  have e0 : s₁.heap = h0 := by rw [← hh, Bd.state]; rfl
  have N0 := Fr.nil n0
  have hlk : meth.locks = false := BodyLoose.notSynchronized Bd
  have hrt := Bd.returns
  have hG := Goes.bk p e below s (fun (v : Option Value) (h : Heap) (L : List Loc) => v = some (.int (if w = 90 ∨ w = 88 then 0 else 1)) ∧ Fr n0 L ∧ h = h0) 0 0
  show Goes p e below s (fun (v : Option Value) (h : Heap) (L : List Loc) => v = some (.int (if w = 90 ∨ w = 88 then 0 else 1)) ∧ Fr n0 L ∧ h = h0) 0 0 s₁ (entryFrame m #[(.ref a1)] 1)
  rw [ef_rm4 m a1]
  refine hG _ s₁ _ (mkF m 1 #[.val (.ref a1)] [(.ref a1)]) (fun t kq_ => XS.aloadN X0.here hx rfl (hb hby d4_0) rfl rfl kq_) ?_
  obtain ⟨T27, X27, e27, st27⟩ := getF X0 hx hZ hown (host := "") (Or.inl (tw20 hw)) Via.refl e0 F1 (g := (mkF m 1 #[.val (.ref a1)] [(.ref a1)])) rfl rfl (hb hby d4_1)
  refine hG _ T27 _ (mkF m 4 #[.val (.ref a1)] [(.int w)]) st27 ?_
  refine hG _ T27 _ (mkF m 6 #[.val (.ref a1)] [(.int (90 : Int32)), (.int w)]) (fun t kq_ => XS.bipush X27.here hx rfl (hb hby d4_4) kq_) ?_
  by_cases hc6 : w = (90 : Int32)
  · refine hG _ T27 _ (mkF m 22 #[.val (.ref a1)] []) (fun t kq_ => XS.icmpYes X27.here hx rfl (pc0 := 6) (pc' := 22) rfl (hb hby d4_6) rfl (teq hc6).1 (by decide) (by decide) kq_) ?_
    refine hG _ T27 _ (mkF m 23 #[.val (.ref a1)] [(.int (0 : Int32))]) (fun t kq_ => XS.iconst X27.here hx rfl (hb hby d4_22) kq_) ?_
    exact Goes.retN X27 hx hlk (t := .boolean) hrt (by simp) (hb hby d4_23) (by decide : 0 ≤ 0) (by decide : 0 ≤ 0) (by (try rw [e27]); exact ⟨by rw [if_pos (Or.inl hc6)]; rfl, N0, rfl⟩)
  · refine hG _ T27 _ (mkF m 9 #[.val (.ref a1)] []) (fun t kq_ => XS.icmpNo X27.here hx rfl (hb hby d4_6) rfl (feq hc6).1 kq_) ?_
    refine hG _ T27 _ (mkF m 10 #[.val (.ref a1)] [(.ref a1)]) (fun t kq_ => XS.aloadN X27.here hx rfl (hb hby d4_9) rfl rfl kq_) ?_
    obtain ⟨T28, X28, e28, st28⟩ := getF X27 hx hZ hown (host := "") (Or.inl (tw20 hw)) Via.refl e27 F1 (g := (mkF m 10 #[.val (.ref a1)] [(.ref a1)])) rfl rfl (hb hby d4_10)
    refine hG _ T28 _ (mkF m 13 #[.val (.ref a1)] [(.int w)]) st28 ?_
    refine hG _ T28 _ (mkF m 15 #[.val (.ref a1)] [(.int (88 : Int32)), (.int w)]) (fun t kq_ => XS.bipush X28.here hx rfl (hb hby d4_13) kq_) ?_
    by_cases hc15 : w = (88 : Int32)
    · refine hG _ T28 _ (mkF m 22 #[.val (.ref a1)] []) (fun t kq_ => XS.icmpYes X28.here hx rfl (pc0 := 15) (pc' := 22) rfl (hb hby d4_15) rfl (teq hc15).1 (by decide) (by decide) kq_) ?_
      refine hG _ T28 _ (mkF m 23 #[.val (.ref a1)] [(.int (0 : Int32))]) (fun t kq_ => XS.iconst X28.here hx rfl (hb hby d4_22) kq_) ?_
      exact Goes.retN X28 hx hlk (t := .boolean) hrt (by simp) (hb hby d4_23) (by decide : 0 ≤ 0) (by decide : 0 ≤ 0) (by (try rw [e28]); exact ⟨by rw [if_pos (Or.inr hc15)]; rfl, N0, rfl⟩)
    · refine hG _ T28 _ (mkF m 18 #[.val (.ref a1)] []) (fun t kq_ => XS.icmpNo X28.here hx rfl (hb hby d4_15) rfl (feq hc15).1 kq_) ?_
      refine hG _ T28 _ (mkF m 19 #[.val (.ref a1)] [(.int (1 : Int32))]) (fun t kq_ => XS.iconst X28.here hx rfl (hb hby d4_18) kq_) ?_
      refine hG _ T28 _ (mkF m 23 #[.val (.ref a1)] [(.int (1 : Int32))]) (fun t kq_ => XS.goto X28.here hx rfl (pc0 := 19) (pc' := 23) rfl (hb hby d4_19) (by decide) (by decide) kq_) ?_
      exact Goes.retN X28 hx hlk (t := .boolean) hrt (by simp) (hb hby d4_23) (by decide : 0 ≤ 0) (by decide : 0 ≤ 0) (by (try rw [e28]); exact ⟨by rw [if_neg (fun q => q.elim hc6 hc15)]; rfl, N0, rfl⟩)
set_option maxRecDepth 65536 in
set_option maxHeartbeats 40000000 in
theorem own_62 {p : Program} {l : Launch} {e : Env} {s : State} {m : MethodId} {args : Array Value} {below : List Frame} {meth : Method} {c : Code} {T0 : State} {locs : List Loc} {Z : State} {a0 : Array Value} {h0 : Heap} {n0 : Nat} (p1 p2 k cc ex : Int32) (q3 q4 q5 q6 : Int64)
    (X0 : Stand p l e room_1 s m args below meth c T0 locs 0 0) (hx : p.tables.exec = Jvm.exec) (hZ : Z.Warmed39 s.vm) (hw : ∀ d ∈ tables_1, d.before a0 Z = true) (hby : c.code = code) (hml : c.maxLocals = 14) (hown : s.vm.findClass "com/example/tools_to_sandbox/toolstosandbox/service/EntryIsLivePinLaw" = some m.cls) (e0 : T0.heap = h0) (Z0 : n0 ≤ h0.size) (N0 : Fr n0 locs) (hlk : meth.locks = false) (hrt : meth.sig.returnType = ret) (hex : (if nar .char cc = 90 ∨ nar .char cc = 88 then (0 : Int32) else 1) = ex) :
    Goes p e below s (fun (v : Option Value) (h : Heap) (L : List Loc) => v = some (.int 1) ∧ Fr n0 L) 16 128 T0 (mkF m 62 #[.val (.int p1), .val (.int p2), .val (.long q3), .second, .val (.long q4), .second, .val (.long q5), .second, .val (.long q6), .second, .val (.int k), .val (.int cc), .val (.int ex), .unset] []) := by
  have hG := Goes.bk p e below s (fun (v : Option Value) (h : Heap) (L : List Loc) => v = some (.int 1) ∧ Fr n0 L) 16 128
  obtain ⟨T29, h29, X29, e29, E29, A29, D29, -, st29⟩ := newO X0 hx hZ hown (tw0 hw) (tw1 hw) (tw2 hw) e0 (g := (mkF m 62 #[.val (.int p1), .val (.int p2), .val (.long q3), .second, .val (.long q4), .second, .val (.long q5), .second, .val (.long q6), .second, .val (.int k), .val (.int cc), .val (.int ex), .unset] [])) rfl (hb hby at_62) (by decide) (by decide)
  obtain ⟨b29, g29⟩ : ∃ z, z = h0.size := ⟨_, rfl⟩
  rw [← g29] at A29 D29 st29
  have g_b29 : n0 ≤ b29 := Nat.le_trans Z0 (Nat.le_of_eq g29.symm)
  have Zs30 : n0 ≤ h29.size := Nat.le_trans Z0 E29.1
  have F_pid_b29 : Fld Z h29 b29 "com/example/tools_to_sandbox/toolstosandbox/service/HostProcesses$Entry" "pid" "J" (.long (0 : Int64)) := D29 (Or.inr (tw15 hw)) (ty := .long) (by decide)
  have F_parent_b29 : Fld Z h29 b29 "com/example/tools_to_sandbox/toolstosandbox/service/HostProcesses$Entry" "parent" "J" (.long (0 : Int64)) := D29 (Or.inr (tw17 hw)) (ty := .long) (by decide)
  have F_session_b29 : Fld Z h29 b29 "com/example/tools_to_sandbox/toolstosandbox/service/HostProcesses$Entry" "session" "J" (.long (0 : Int64)) := D29 (Or.inr (tw19 hw)) (ty := .long) (by decide)
  have F_state_b29 : Fld Z h29 b29 "com/example/tools_to_sandbox/toolstosandbox/service/HostProcesses$Entry" "state" "C" (.int (0 : Int32)) := D29 (Or.inr (tw21 hw)) (ty := .char) (by decide)
  have F_startTicks_b29 : Fld Z h29 b29 "com/example/tools_to_sandbox/toolstosandbox/service/HostProcesses$Entry" "startTicks" "J" (.long (0 : Int64)) := D29 (Or.inr (tw23 hw)) (ty := .long) (by decide)
  refine hG _ T29 _ (mkF m 65 #[.val (.int p1), .val (.int p2), .val (.long q3), .second, .val (.long q4), .second, .val (.long q5), .second, .val (.long q6), .second, .val (.int k), .val (.int cc), .val (.int ex), .unset] [(.ref b29)]) st29 ?_
  refine hG _ T29 _ (mkF m 66 #[.val (.int p1), .val (.int p2), .val (.long q3), .second, .val (.long q4), .second, .val (.long q5), .second, .val (.long q6), .second, .val (.int k), .val (.int cc), .val (.int ex), .unset] [(.ref b29), (.ref b29)]) (fun t kq_ => XS.dup X29.here hx rfl (hb hby at_65) rfl rfl kq_) ?_
  refine hG _ T29 _ (mkF m 67 #[.val (.int p1), .val (.int p2), .val (.long q3), .second, .val (.long q4), .second, .val (.long q5), .second, .val (.long q6), .second, .val (.int k), .val (.int cc), .val (.int ex), .unset] [(.long q3), (.ref b29), (.ref b29)]) (fun t kq_ => XS.lloadN X29.here hx rfl (hb hby at_66) rfl kq_) ?_
  refine hG _ T29 _ (mkF m 69 #[.val (.int p1), .val (.int p2), .val (.long q3), .second, .val (.long q4), .second, .val (.long q5), .second, .val (.long q6), .second, .val (.int k), .val (.int cc), .val (.int ex), .unset] [(.long q4), (.long q3), (.ref b29), (.ref b29)]) (fun t kq_ => XS.lload X29.here hx rfl (hb hby at_67) rfl kq_) ?_
  refine hG _ T29 _ (mkF m 71 #[.val (.int p1), .val (.int p2), .val (.long q3), .second, .val (.long q4), .second, .val (.long q5), .second, .val (.long q6), .second, .val (.int k), .val (.int cc), .val (.int ex), .unset] [(.long q5), (.long q4), (.long q3), (.ref b29), (.ref b29)]) (fun t kq_ => XS.lload X29.here hx rfl (hb hby at_69) rfl kq_) ?_
  refine hG _ T29 _ (mkF m 73 #[.val (.int p1), .val (.int p2), .val (.long q3), .second, .val (.long q4), .second, .val (.long q5), .second, .val (.long q6), .second, .val (.int k), .val (.int cc), .val (.int ex), .unset] [(.int cc), (.long q5), (.long q4), (.long q3), (.ref b29), (.ref b29)]) (fun t kq_ => XS.iload X29.here hx rfl (hb hby at_71) rfl kq_) ?_
  refine hG _ T29 _ (mkF m 75 #[.val (.int p1), .val (.int p2), .val (.long q3), .second, .val (.long q4), .second, .val (.long q5), .second, .val (.long q6), .second, .val (.int k), .val (.int cc), .val (.int ex), .unset] [(.long q6), (.int cc), (.long q5), (.long q4), (.long q3), (.ref b29), (.ref b29)]) (fun t kq_ => XS.lload X29.here hx rfl (hb hby at_73) rfl kq_) ?_
  obtain ⟨_, _, ⟨T31, L31, k31, n31⟩, -, X31, ⟨Lc31, hQ31, l31, y31, z31⟩, st31⟩ := X29.specialBack hx (y := (⟨"com/example/tools_to_sandbox/toolstosandbox/service/HostProcesses$Entry", "<init>", "(JJJCJ)V"⟩ : MethodName)) rfl hown (mvT hZ (tw3 hw)) (mvT hZ (tw4 hw)) (mvT hZ (tw5 hw)) (by decide) (backOf (W := 1) (rm1 l Z a0 hw [] b29 q3 q4 q5 cc q6 h29 n0 Zs30 _ _ _ _ _ A29 g_b29 F_pid_b29 F_parent_b29 F_session_b29 F_state_b29 F_startTicks_b29) hZ (tw5 hw) (tw2 hw) (by decide) (by decide)) (g := (mkF m 75 #[.val (.int p1), .val (.int p2), .val (.long q3), .second, .val (.long q4), .second, .val (.long q5), .second, .val (.long q6), .second, .val (.int k), .val (.int cc), .val (.int ex), .unset] [(.long q6), (.int cc), (.long q5), (.long q4), (.long q3), (.ref b29), (.ref b29)])) rfl (by rw [hml]; rfl) (Steps.refl _) (a := b29) (argsL := [(.long q3), (.long q4), (.long q5), (.int cc), (.long q6)]) (rest := [(.ref b29)]) (lenOf pd_1 rfl) rfl (by show 2 * 0 + _ ≤ _; exact Nat.le_of_eq rfl) (hb hby at_75) (fun _ _ => ⟨rfl, e29, (by decide : 1 + 0 ≤ _), (by decide : 5 + 0 ≤ _)⟩)
  dsimp only [Pt.U, Pt.locs, Pt.cells, Pt.slots] at X31 l31 y31 z31 st31 hQ31
  subst l31 y31 z31
  obtain ⟨rfl, N31q, K1, G1⟩ := hQ31
  have N31 := Fr.app N0 N31q
  have Zs32 : n0 ≤ T31.heap.size := Nat.le_trans Zs30 K1.1
  refine hG _ T31 _ (mkF m 78 #[.val (.int p1), .val (.int p2), .val (.long q3), .second, .val (.long q4), .second, .val (.long q5), .second, .val (.long q6), .second, .val (.int k), .val (.int cc), .val (.int ex), .unset] [(.ref b29)]) (fun t kq_ => st31.trans kq_) ?_
  refine hG _ T31 _ (mkF m 80 #[.val (.int p1), .val (.int p2), .val (.long q3), .second, .val (.long q4), .second, .val (.long q5), .second, .val (.long q6), .second, .val (.int k), .val (.int cc), .val (.int ex), .val (.ref b29)] []) (fun t kq_ => XS.astore X31.here hx rfl (hb hby at_78) rfl rfl (l' := #[.val (.int p1), .val (.int p2), .val (.long q3), .second, .val (.long q4), .second, .val (.long q5), .second, .val (.long q6), .second, .val (.int k), .val (.int cc), .val (.int ex), .val (.ref b29)]) rfl kq_) ?_
  refine hG _ T31 _ (mkF m 82 #[.val (.int p1), .val (.int p2), .val (.long q3), .second, .val (.long q4), .second, .val (.long q5), .second, .val (.long q6), .second, .val (.int k), .val (.int cc), .val (.int ex), .val (.ref b29)] [(.ref b29)]) (fun t kq_ => XS.aload X31.here hx rfl (hb hby at_80) rfl rfl kq_) ?_
  have A29'34 : Exa Z T31.heap b29 "com/example/tools_to_sandbox/toolstosandbox/service/HostProcesses$Entry" := (A29.keep K1)
  obtain ⟨cq33, kq33, q33a, q33b, q33c⟩ := isOf hZ rfl A29'34
  obtain ⟨_, _, ⟨T33, L33, k33, n33⟩, -, X33, ⟨Lc33, hQ33, l33, y33, z33⟩, st33⟩ := X31.virtualBack hx (y := (⟨"com/example/tools_to_sandbox/toolstosandbox/service/HostProcesses$Entry", "isLive", "()Z"⟩ : MethodName)) (z := (⟨"com/example/tools_to_sandbox/toolstosandbox/service/HostProcesses$Entry", "isLive", "()Z"⟩ : MethodName)) hown (mvT hZ (tw24 hw)) (mvT hZ (tw25 hw)) (notFace_of_selects (args := #[]) (mvT hZ (tw27 hw))) (mvT hZ (tw27 hw)) (mvT hZ (tw26 hw)) (by decide) (backOf (W := 0) (rm4 l Z a0 hw [] b29 T31.heap n0 Zs32 (nar .char cc) G1) hZ (tw28 hw) (tw2 hw) (by decide) (by decide)) q33a q33c (g := (mkF m 82 #[.val (.int p1), .val (.int p2), .val (.long q3), .second, .val (.long q4), .second, .val (.long q5), .second, .val (.long q6), .second, .val (.int k), .val (.int cc), .val (.int ex), .val (.ref b29)] [(.ref b29)])) rfl (by rw [hml]; rfl) (Steps.refl _) (argsL := []) (rest := []) (lenOf pd_2 rfl) rfl (by show 2 * 0 + _ ≤ _; exact Nat.le_of_eq rfl) (hb hby at_82) (fun _ _ => ⟨rfl, rfl, (by decide : 1 + 0 ≤ _), (by decide : 5 + 0 ≤ _)⟩)
  dsimp only [Pt.U, Pt.locs, Pt.cells, Pt.slots] at X33 l33 y33 z33 st33 hQ33
  subst l33 y33 z33
  obtain ⟨rfl, N33q, hh2⟩ := hQ33
  have N33 := Fr.app N31 N33q
  have e33 : T33.heap = T31.heap := hh2
  refine hG _ T33 _ (mkF m 85 #[.val (.int p1), .val (.int p2), .val (.long q3), .second, .val (.long q4), .second, .val (.long q5), .second, .val (.long q6), .second, .val (.int k), .val (.int cc), .val (.int ex), .val (.ref b29)] [(.int (if nar .char cc = 90 ∨ nar .char cc = 88 then (0 : Int32) else 1))]) (fun t kq_ => st33.trans kq_) ?_
  refine hG _ T33 _ (mkF m 87 #[.val (.int p1), .val (.int p2), .val (.long q3), .second, .val (.long q4), .second, .val (.long q5), .second, .val (.long q6), .second, .val (.int k), .val (.int cc), .val (.int ex), .val (.ref b29)] [(.int ex), (.int (if nar .char cc = 90 ∨ nar .char cc = 88 then (0 : Int32) else 1))]) (fun t kq_ => XS.iload X33.here hx rfl (hb hby at_85) rfl kq_) ?_
  refine hG _ T33 _ (mkF m 90 #[.val (.int p1), .val (.int p2), .val (.long q3), .second, .val (.long q4), .second, .val (.long q5), .second, .val (.long q6), .second, .val (.int k), .val (.int cc), .val (.int ex), .val (.ref b29)] []) (fun t kq_ => XS.icmpNo X33.here hx rfl (hb hby at_87) rfl (teq hex).2 kq_) ?_
  refine hG _ T33 _ (mkF m 91 #[.val (.int p1), .val (.int p2), .val (.long q3), .second, .val (.long q4), .second, .val (.long q5), .second, .val (.long q6), .second, .val (.int k), .val (.int cc), .val (.int ex), .val (.ref b29)] [(.int (1 : Int32))]) (fun t kq_ => XS.iconst X33.here hx rfl (hb hby at_90) kq_) ?_
  refine hG _ T33 _ (mkF m 95 #[.val (.int p1), .val (.int p2), .val (.long q3), .second, .val (.long q4), .second, .val (.long q5), .second, .val (.long q6), .second, .val (.int k), .val (.int cc), .val (.int ex), .val (.ref b29)] [(.int (1 : Int32))]) (fun t kq_ => XS.goto X33.here hx rfl (pc0 := 91) (pc' := 95) rfl (hb hby at_91) (by decide) (by decide) kq_) ?_
  exact Goes.retN X33 hx hlk (t := .boolean) hrt (by simp) (hb hby at_95) (by decide : 1 ≤ 16) (by decide : 5 ≤ 128) (by (try rw [e33]); exact ⟨rfl, N33⟩)
theorem own_nar2 (x : Int32) : nar .char (x.toUInt32.toUInt16.toUInt32.toInt32) = x.toUInt32.toUInt16.toUInt32.toInt32 := by
  show (x.toUInt32.toUInt16.toUInt32.toInt32).toUInt32.toUInt16.toUInt32.toInt32 = _
  generalize x.toUInt32.toUInt16 = y
  rw [show y.toUInt32.toInt32.toUInt32.toUInt16 = y by simp]
theorem ef_rm0 (m : MethodId) (x0 : Int32) (x1 : Int32) (x2 : Int64) (x3 : Int64) (x4 : Int64) (x5 : Int64) : entryFrame m #[(.int x0), (.int x1), (.long x2), (.long x3), (.long x4), (.long x5)] maxLocals = mkF m 0 #[.val (.int x0), .val (.int x1), .val (.long x2), .second, .val (.long x3), .second, .val (.long x4), .second, .val (.long x5), .second, .unset, .unset, .unset, .unset] [] := by first | (simp [entryFrame, mkF, argsToLocals, Value.category, maxLocals]; done) | rfl
theorem pn_rm0 : plainName "com/example/tools_to_sandbox/toolstosandbox/service/EntryIsLivePinLaw" = true := by first | (simp [plainName, overriddenIn]; done) | decide +kernel
def Q_rm0 (Z : State) (p1 : Int32) (p2 : Int32) (q3 : Int64) (q4 : Int64) (q5 : Int64) (q6 : Int64)  (h0 : Heap) (n0 : Nat) (v : Option Value) (h : Heap) (L : List Loc) : Prop := v = some (.int 1) ∧ Fr n0 L
set_option maxRecDepth 65536 in
set_option maxHeartbeats 40000000 in
theorem rm0 (l : Launch) (Z : State) (a0 : Array Value) (hw : ∀ d ∈ tables_1, d.before a0 Z = true) (ws : List Jvm.Cond) (p1 : Int32) (p2 : Int32) (q3 : Int64) (q4 : Int64) (q5 : Int64) (q6 : Int64) (h0 : Heap) (n0 : Nat) (Z0 : n0 ≤ h0.size) :
    MetFree l x (head1 (Jvm.Cond.code x code maxLocals ret :: ws) room_1) (fun a U => a = #[(.int p1), (.int p2), (.long q3), (.long q4), (.long q5), (.long q6)] ∧ Z.Warmed39 U.vm ∧ U.heap = h0) (fun _ _ _ _ _ => True) (fun _ U o U' => ∃ v L, o = .returned v ∧ Q_rm0 Z p1 p2 q3 q4 q5 q6  h0 n0 v U'.heap L ∧ FrameEnd U o U' L 16 128) := by
  refine MetFree.of_bodySF (plainFor_of_name pn_rm0) hisR ?_
  intro p e s m args below meth c s₁ Bd hml0 hP hK
  obtain ⟨rfl, hZ, hh⟩ := hP
  have hx := Bd.exec
  have hby := Bd.bytes
  have hml : c.maxLocals = 14 := hml0
  have hown : s.vm.findClass "com/example/tools_to_sandbox/toolstosandbox/service/EntryIsLivePinLaw" = some m.cls := findClass_of_methodNamed Bd.named
  have hnm := (name_of_methodNamed Bd.named Bd.method).1
  have X0 : Stand p l e room_1 s m #[(.int p1), (.int p2), (.long q3), (.long q4), (.long q5), (.long q6)] below meth c s₁ [] 0 0 := Stand.of_body Bd
  have e0 : s₁.heap = h0 := by rw [← hh, Bd.state]; rfl
  have N0 := Fr.nil n0
  have hlk : meth.locks = false := BodyLoose.notSynchronized Bd
  have hrt := Bd.returns
  have hG := Goes.bk p e below s (fun (v : Option Value) (h : Heap) (L : List Loc) => v = some (.int 1) ∧ Fr n0 L) 16 128
  show Goes p e below s (fun (v : Option Value) (h : Heap) (L : List Loc) => v = some (.int 1) ∧ Fr n0 L) 16 128 s₁ (entryFrame m #[(.int p1), (.int p2), (.long q3), (.long q4), (.long q5), (.long q6)] maxLocals)
  rw [ef_rm0 m p1 p2 q3 q4 q5 q6]
  refine hG _ s₁ _ (mkF m 1 #[.val (.int p1), .val (.int p2), .val (.long q3), .second, .val (.long q4), .second, .val (.long q5), .second, .val (.long q6), .second, .unset, .unset, .unset, .unset] [(.int p1)]) (fun t kq_ => XS.iloadN X0.here hx rfl (hb hby at_0) rfl kq_) ?_
  refine hG _ s₁ _ (mkF m 2 #[.val (.int p1), .val (.int p2), .val (.long q3), .second, .val (.long q4), .second, .val (.long q5), .second, .val (.long q6), .second, .unset, .unset, .unset, .unset] [(.int (3 : Int32)), (.int p1)]) (fun t kq_ => XS.iconst X0.here hx rfl (hb hby at_1) kq_) ?_
  refine hG _ s₁ _ (mkF m 3 #[.val (.int p1), .val (.int p2), .val (.long q3), .second, .val (.long q4), .second, .val (.long q5), .second, .val (.long q6), .second, .unset, .unset, .unset, .unset] [(.int (p1 &&& (3 : Int32)))]) (fun t kq_ => XS.iand X0.here hx rfl (hb hby at_2) rfl kq_) ?_
  refine hG _ s₁ _ (mkF m 5 #[.val (.int p1), .val (.int p2), .val (.long q3), .second, .val (.long q4), .second, .val (.long q5), .second, .val (.long q6), .second, .val (.int (p1 &&& (3 : Int32))), .unset, .unset, .unset] []) (fun t kq_ => XS.istore X0.here hx rfl (hb hby at_3) rfl (l' := #[.val (.int p1), .val (.int p2), .val (.long q3), .second, .val (.long q4), .second, .val (.long q5), .second, .val (.long q6), .second, .val (.int (p1 &&& (3 : Int32))), .unset, .unset, .unset]) rfl kq_) ?_
  refine hG _ s₁ _ (mkF m 7 #[.val (.int p1), .val (.int p2), .val (.long q3), .second, .val (.long q4), .second, .val (.long q5), .second, .val (.long q6), .second, .val (.int (p1 &&& (3 : Int32))), .unset, .unset, .unset] [(.int (p1 &&& (3 : Int32)))]) (fun t kq_ => XS.iload X0.here hx rfl (hb hby at_5) rfl kq_) ?_
  by_cases hc7 : (p1 &&& (3 : Int32)) = (0 : Int32)
  · refine hG _ s₁ _ (mkF m 10 #[.val (.int p1), .val (.int p2), .val (.long q3), .second, .val (.long q4), .second, .val (.long q5), .second, .val (.long q6), .second, .val (.int (p1 &&& (3 : Int32))), .unset, .unset, .unset] []) (fun t kq_ => XS.ifNo X0.here hx rfl (hb hby at_7) rfl ((if0 _ _).trans (teq hc7).2) kq_) ?_
    refine hG _ s₁ _ (mkF m 12 #[.val (.int p1), .val (.int p2), .val (.long q3), .second, .val (.long q4), .second, .val (.long q5), .second, .val (.long q6), .second, .val (.int (p1 &&& (3 : Int32))), .unset, .unset, .unset] [(.int (90 : Int32))]) (fun t kq_ => XS.bipush X0.here hx rfl (hb hby at_10) kq_) ?_
    refine hG _ s₁ _ (mkF m 14 #[.val (.int p1), .val (.int p2), .val (.long q3), .second, .val (.long q4), .second, .val (.long q5), .second, .val (.long q6), .second, .val (.int (p1 &&& (3 : Int32))), .val (.int (90 : Int32)), .unset, .unset] []) (fun t kq_ => XS.istore X0.here hx rfl (hb hby at_12) rfl (l' := #[.val (.int p1), .val (.int p2), .val (.long q3), .second, .val (.long q4), .second, .val (.long q5), .second, .val (.long q6), .second, .val (.int (p1 &&& (3 : Int32))), .val (.int (90 : Int32)), .unset, .unset]) rfl kq_) ?_
    refine hG _ s₁ _ (mkF m 15 #[.val (.int p1), .val (.int p2), .val (.long q3), .second, .val (.long q4), .second, .val (.long q5), .second, .val (.long q6), .second, .val (.int (p1 &&& (3 : Int32))), .val (.int (90 : Int32)), .unset, .unset] [(.int (0 : Int32))]) (fun t kq_ => XS.iconst X0.here hx rfl (hb hby at_14) kq_) ?_
    refine hG _ s₁ _ (mkF m 17 #[.val (.int p1), .val (.int p2), .val (.long q3), .second, .val (.long q4), .second, .val (.long q5), .second, .val (.long q6), .second, .val (.int (p1 &&& (3 : Int32))), .val (.int (90 : Int32)), .val (.int (0 : Int32)), .unset] []) (fun t kq_ => XS.istore X0.here hx rfl (hb hby at_15) rfl (l' := #[.val (.int p1), .val (.int p2), .val (.long q3), .second, .val (.long q4), .second, .val (.long q5), .second, .val (.long q6), .second, .val (.int (p1 &&& (3 : Int32))), .val (.int (90 : Int32)), .val (.int (0 : Int32)), .unset]) rfl kq_) ?_
    refine hG _ s₁ _ (mkF m 62 #[.val (.int p1), .val (.int p2), .val (.long q3), .second, .val (.long q4), .second, .val (.long q5), .second, .val (.long q6), .second, .val (.int (p1 &&& (3 : Int32))), .val (.int (90 : Int32)), .val (.int (0 : Int32)), .unset] []) (fun t kq_ => XS.goto X0.here hx rfl (pc0 := 17) (pc' := 62) rfl (hb hby at_17) (by decide) (by decide) kq_) ?_
    exact own_62 _ _ _ _ _ _ _ _ _ X0 hx hZ hw hby hml hown e0 Z0 N0 hlk hrt (by decide)
  · refine hG _ s₁ _ (mkF m 20 #[.val (.int p1), .val (.int p2), .val (.long q3), .second, .val (.long q4), .second, .val (.long q5), .second, .val (.long q6), .second, .val (.int (p1 &&& (3 : Int32))), .unset, .unset, .unset] []) (fun t kq_ => XS.ifYes X0.here hx rfl (pc0 := 7) (pc' := 20) rfl (hb hby at_7) rfl ((if0 _ _).trans (feq hc7).2) (by decide) (by decide) kq_) ?_
    refine hG _ s₁ _ (mkF m 22 #[.val (.int p1), .val (.int p2), .val (.long q3), .second, .val (.long q4), .second, .val (.long q5), .second, .val (.long q6), .second, .val (.int (p1 &&& (3 : Int32))), .unset, .unset, .unset] [(.int (p1 &&& (3 : Int32)))]) (fun t kq_ => XS.iload X0.here hx rfl (hb hby at_20) rfl kq_) ?_
    refine hG _ s₁ _ (mkF m 23 #[.val (.int p1), .val (.int p2), .val (.long q3), .second, .val (.long q4), .second, .val (.long q5), .second, .val (.long q6), .second, .val (.int (p1 &&& (3 : Int32))), .unset, .unset, .unset] [(.int (1 : Int32)), (.int (p1 &&& (3 : Int32)))]) (fun t kq_ => XS.iconst X0.here hx rfl (hb hby at_22) kq_) ?_
    by_cases hc23 : (p1 &&& (3 : Int32)) = (1 : Int32)
    · refine hG _ s₁ _ (mkF m 26 #[.val (.int p1), .val (.int p2), .val (.long q3), .second, .val (.long q4), .second, .val (.long q5), .second, .val (.long q6), .second, .val (.int (p1 &&& (3 : Int32))), .unset, .unset, .unset] []) (fun t kq_ => XS.icmpNo X0.here hx rfl (hb hby at_23) rfl (teq hc23).2 kq_) ?_
      refine hG _ s₁ _ (mkF m 28 #[.val (.int p1), .val (.int p2), .val (.long q3), .second, .val (.long q4), .second, .val (.long q5), .second, .val (.long q6), .second, .val (.int (p1 &&& (3 : Int32))), .unset, .unset, .unset] [(.int (88 : Int32))]) (fun t kq_ => XS.bipush X0.here hx rfl (hb hby at_26) kq_) ?_
      refine hG _ s₁ _ (mkF m 30 #[.val (.int p1), .val (.int p2), .val (.long q3), .second, .val (.long q4), .second, .val (.long q5), .second, .val (.long q6), .second, .val (.int (p1 &&& (3 : Int32))), .val (.int (88 : Int32)), .unset, .unset] []) (fun t kq_ => XS.istore X0.here hx rfl (hb hby at_28) rfl (l' := #[.val (.int p1), .val (.int p2), .val (.long q3), .second, .val (.long q4), .second, .val (.long q5), .second, .val (.long q6), .second, .val (.int (p1 &&& (3 : Int32))), .val (.int (88 : Int32)), .unset, .unset]) rfl kq_) ?_
      refine hG _ s₁ _ (mkF m 31 #[.val (.int p1), .val (.int p2), .val (.long q3), .second, .val (.long q4), .second, .val (.long q5), .second, .val (.long q6), .second, .val (.int (p1 &&& (3 : Int32))), .val (.int (88 : Int32)), .unset, .unset] [(.int (0 : Int32))]) (fun t kq_ => XS.iconst X0.here hx rfl (hb hby at_30) kq_) ?_
      refine hG _ s₁ _ (mkF m 33 #[.val (.int p1), .val (.int p2), .val (.long q3), .second, .val (.long q4), .second, .val (.long q5), .second, .val (.long q6), .second, .val (.int (p1 &&& (3 : Int32))), .val (.int (88 : Int32)), .val (.int (0 : Int32)), .unset] []) (fun t kq_ => XS.istore X0.here hx rfl (hb hby at_31) rfl (l' := #[.val (.int p1), .val (.int p2), .val (.long q3), .second, .val (.long q4), .second, .val (.long q5), .second, .val (.long q6), .second, .val (.int (p1 &&& (3 : Int32))), .val (.int (88 : Int32)), .val (.int (0 : Int32)), .unset]) rfl kq_) ?_
      refine hG _ s₁ _ (mkF m 62 #[.val (.int p1), .val (.int p2), .val (.long q3), .second, .val (.long q4), .second, .val (.long q5), .second, .val (.long q6), .second, .val (.int (p1 &&& (3 : Int32))), .val (.int (88 : Int32)), .val (.int (0 : Int32)), .unset] []) (fun t kq_ => XS.goto X0.here hx rfl (pc0 := 33) (pc' := 62) rfl (hb hby at_33) (by decide) (by decide) kq_) ?_
      exact own_62 _ _ _ _ _ _ _ _ _ X0 hx hZ hw hby hml hown e0 Z0 N0 hlk hrt (by decide)
    · refine hG _ s₁ _ (mkF m 36 #[.val (.int p1), .val (.int p2), .val (.long q3), .second, .val (.long q4), .second, .val (.long q5), .second, .val (.long q6), .second, .val (.int (p1 &&& (3 : Int32))), .unset, .unset, .unset] []) (fun t kq_ => XS.icmpYes X0.here hx rfl (pc0 := 23) (pc' := 36) rfl (hb hby at_23) rfl (feq hc23).2 (by decide) (by decide) kq_) ?_
      refine hG _ s₁ _ (mkF m 37 #[.val (.int p1), .val (.int p2), .val (.long q3), .second, .val (.long q4), .second, .val (.long q5), .second, .val (.long q6), .second, .val (.int (p1 &&& (3 : Int32))), .unset, .unset, .unset] [(.int p2)]) (fun t kq_ => XS.iloadN X0.here hx rfl (hb hby at_36) rfl kq_) ?_
      refine hG _ s₁ _ (mkF m 39 #[.val (.int p1), .val (.int p2), .val (.long q3), .second, .val (.long q4), .second, .val (.long q5), .second, .val (.long q6), .second, .val (.int (p1 &&& (3 : Int32))), .unset, .unset, .unset] [(.int (65535 : Int32)), (.int p2)]) (X0.ldcInt hx hown (mvT hZ (tw29 hw)) (g := (mkF m 37 #[.val (.int p1), .val (.int p2), .val (.long q3), .second, .val (.long q4), .second, .val (.long q5), .second, .val (.long q6), .second, .val (.int (p1 &&& (3 : Int32))), .unset, .unset, .unset] [(.int p2)])) rfl (hb hby at_37)) ?_
      refine hG _ s₁ _ (mkF m 40 #[.val (.int p1), .val (.int p2), .val (.long q3), .second, .val (.long q4), .second, .val (.long q5), .second, .val (.long q6), .second, .val (.int (p1 &&& (3 : Int32))), .unset, .unset, .unset] [(.int (p2 &&& (65535 : Int32)))]) (fun t kq_ => XS.iand X0.here hx rfl (hb hby at_39) rfl kq_) ?_
      refine hG _ s₁ _ (mkF m 41 #[.val (.int p1), .val (.int p2), .val (.long q3), .second, .val (.long q4), .second, .val (.long q5), .second, .val (.long q6), .second, .val (.int (p1 &&& (3 : Int32))), .unset, .unset, .unset] [(.int ((p2 &&& (65535 : Int32)).toUInt32.toUInt16.toUInt32.toInt32))]) (fun t kq_ => XS.i2c X0.here hx rfl (hb hby at_40) rfl kq_) ?_
      refine hG _ s₁ _ (mkF m 43 #[.val (.int p1), .val (.int p2), .val (.long q3), .second, .val (.long q4), .second, .val (.long q5), .second, .val (.long q6), .second, .val (.int (p1 &&& (3 : Int32))), .val (.int ((p2 &&& (65535 : Int32)).toUInt32.toUInt16.toUInt32.toInt32)), .unset, .unset] []) (fun t kq_ => XS.istore X0.here hx rfl (hb hby at_41) rfl (l' := #[.val (.int p1), .val (.int p2), .val (.long q3), .second, .val (.long q4), .second, .val (.long q5), .second, .val (.long q6), .second, .val (.int (p1 &&& (3 : Int32))), .val (.int ((p2 &&& (65535 : Int32)).toUInt32.toUInt16.toUInt32.toInt32)), .unset, .unset]) rfl kq_) ?_
      refine hG _ s₁ _ (mkF m 45 #[.val (.int p1), .val (.int p2), .val (.long q3), .second, .val (.long q4), .second, .val (.long q5), .second, .val (.long q6), .second, .val (.int (p1 &&& (3 : Int32))), .val (.int ((p2 &&& (65535 : Int32)).toUInt32.toUInt16.toUInt32.toInt32)), .unset, .unset] [(.int ((p2 &&& (65535 : Int32)).toUInt32.toUInt16.toUInt32.toInt32))]) (fun t kq_ => XS.iload X0.here hx rfl (hb hby at_43) rfl kq_) ?_
      refine hG _ s₁ _ (mkF m 47 #[.val (.int p1), .val (.int p2), .val (.long q3), .second, .val (.long q4), .second, .val (.long q5), .second, .val (.long q6), .second, .val (.int (p1 &&& (3 : Int32))), .val (.int ((p2 &&& (65535 : Int32)).toUInt32.toUInt16.toUInt32.toInt32)), .unset, .unset] [(.int (90 : Int32)), (.int ((p2 &&& (65535 : Int32)).toUInt32.toUInt16.toUInt32.toInt32))]) (fun t kq_ => XS.bipush X0.here hx rfl (hb hby at_45) kq_) ?_
      by_cases hc47 : ((p2 &&& (65535 : Int32)).toUInt32.toUInt16.toUInt32.toInt32) = (90 : Int32)
      · refine hG _ s₁ _ (mkF m 57 #[.val (.int p1), .val (.int p2), .val (.long q3), .second, .val (.long q4), .second, .val (.long q5), .second, .val (.long q6), .second, .val (.int (p1 &&& (3 : Int32))), .val (.int ((p2 &&& (65535 : Int32)).toUInt32.toUInt16.toUInt32.toInt32)), .unset, .unset] []) (fun t kq_ => XS.icmpYes X0.here hx rfl (pc0 := 47) (pc' := 57) rfl (hb hby at_47) rfl (teq hc47).1 (by decide) (by decide) kq_) ?_
        refine hG _ s₁ _ (mkF m 58 #[.val (.int p1), .val (.int p2), .val (.long q3), .second, .val (.long q4), .second, .val (.long q5), .second, .val (.long q6), .second, .val (.int (p1 &&& (3 : Int32))), .val (.int ((p2 &&& (65535 : Int32)).toUInt32.toUInt16.toUInt32.toInt32)), .unset, .unset] [(.int (1 : Int32))]) (fun t kq_ => XS.iconst X0.here hx rfl (hb hby at_57) kq_) ?_
        exact Goes.retN X0 hx hlk (t := .boolean) hrt (by simp) (hb hby at_58) (by decide : 0 ≤ 16) (by decide : 0 ≤ 128) (by (try rw [e0]); exact ⟨rfl, N0⟩)
      · refine hG _ s₁ _ (mkF m 50 #[.val (.int p1), .val (.int p2), .val (.long q3), .second, .val (.long q4), .second, .val (.long q5), .second, .val (.long q6), .second, .val (.int (p1 &&& (3 : Int32))), .val (.int ((p2 &&& (65535 : Int32)).toUInt32.toUInt16.toUInt32.toInt32)), .unset, .unset] []) (fun t kq_ => XS.icmpNo X0.here hx rfl (hb hby at_47) rfl (feq hc47).1 kq_) ?_
        refine hG _ s₁ _ (mkF m 52 #[.val (.int p1), .val (.int p2), .val (.long q3), .second, .val (.long q4), .second, .val (.long q5), .second, .val (.long q6), .second, .val (.int (p1 &&& (3 : Int32))), .val (.int ((p2 &&& (65535 : Int32)).toUInt32.toUInt16.toUInt32.toInt32)), .unset, .unset] [(.int ((p2 &&& (65535 : Int32)).toUInt32.toUInt16.toUInt32.toInt32))]) (fun t kq_ => XS.iload X0.here hx rfl (hb hby at_50) rfl kq_) ?_
        refine hG _ s₁ _ (mkF m 54 #[.val (.int p1), .val (.int p2), .val (.long q3), .second, .val (.long q4), .second, .val (.long q5), .second, .val (.long q6), .second, .val (.int (p1 &&& (3 : Int32))), .val (.int ((p2 &&& (65535 : Int32)).toUInt32.toUInt16.toUInt32.toInt32)), .unset, .unset] [(.int (88 : Int32)), (.int ((p2 &&& (65535 : Int32)).toUInt32.toUInt16.toUInt32.toInt32))]) (fun t kq_ => XS.bipush X0.here hx rfl (hb hby at_52) kq_) ?_
        by_cases hc54 : ((p2 &&& (65535 : Int32)).toUInt32.toUInt16.toUInt32.toInt32) = (88 : Int32)
        · refine hG _ s₁ _ (mkF m 57 #[.val (.int p1), .val (.int p2), .val (.long q3), .second, .val (.long q4), .second, .val (.long q5), .second, .val (.long q6), .second, .val (.int (p1 &&& (3 : Int32))), .val (.int ((p2 &&& (65535 : Int32)).toUInt32.toUInt16.toUInt32.toInt32)), .unset, .unset] []) (fun t kq_ => XS.icmpNo X0.here hx rfl (hb hby at_54) rfl (teq hc54).2 kq_) ?_
          refine hG _ s₁ _ (mkF m 58 #[.val (.int p1), .val (.int p2), .val (.long q3), .second, .val (.long q4), .second, .val (.long q5), .second, .val (.long q6), .second, .val (.int (p1 &&& (3 : Int32))), .val (.int ((p2 &&& (65535 : Int32)).toUInt32.toUInt16.toUInt32.toInt32)), .unset, .unset] [(.int (1 : Int32))]) (fun t kq_ => XS.iconst X0.here hx rfl (hb hby at_57) kq_) ?_
          exact Goes.retN X0 hx hlk (t := .boolean) hrt (by simp) (hb hby at_58) (by decide : 0 ≤ 16) (by decide : 0 ≤ 128) (by (try rw [e0]); exact ⟨rfl, N0⟩)
        · refine hG _ s₁ _ (mkF m 59 #[.val (.int p1), .val (.int p2), .val (.long q3), .second, .val (.long q4), .second, .val (.long q5), .second, .val (.long q6), .second, .val (.int (p1 &&& (3 : Int32))), .val (.int ((p2 &&& (65535 : Int32)).toUInt32.toUInt16.toUInt32.toInt32)), .unset, .unset] []) (fun t kq_ => XS.icmpYes X0.here hx rfl (pc0 := 54) (pc' := 59) rfl (hb hby at_54) rfl (feq hc54).2 (by decide) (by decide) kq_) ?_
          refine hG _ s₁ _ (mkF m 60 #[.val (.int p1), .val (.int p2), .val (.long q3), .second, .val (.long q4), .second, .val (.long q5), .second, .val (.long q6), .second, .val (.int (p1 &&& (3 : Int32))), .val (.int ((p2 &&& (65535 : Int32)).toUInt32.toUInt16.toUInt32.toInt32)), .unset, .unset] [(.int (1 : Int32))]) (fun t kq_ => XS.iconst X0.here hx rfl (hb hby at_59) kq_) ?_
          refine hG _ s₁ _ (mkF m 62 #[.val (.int p1), .val (.int p2), .val (.long q3), .second, .val (.long q4), .second, .val (.long q5), .second, .val (.long q6), .second, .val (.int (p1 &&& (3 : Int32))), .val (.int ((p2 &&& (65535 : Int32)).toUInt32.toUInt16.toUInt32.toInt32)), .val (.int (1 : Int32)), .unset] []) (fun t kq_ => XS.istore X0.here hx rfl (hb hby at_60) rfl (l' := #[.val (.int p1), .val (.int p2), .val (.long q3), .second, .val (.long q4), .second, .val (.long q5), .second, .val (.long q6), .second, .val (.int (p1 &&& (3 : Int32))), .val (.int ((p2 &&& (65535 : Int32)).toUInt32.toUInt16.toUInt32.toInt32)), .val (.int (1 : Int32)), .unset]) rfl kq_) ?_
          exact own_62 _ _ _ _ _ _ _ _ _ X0 hx hZ hw hby hml hown e0 Z0 N0 hlk hrt (by rw [own_nar2]; exact if_neg (fun q => q.elim hc47 hc54))
set_option maxRecDepth 65536 in
set_option maxHeartbeats 40000000 in
theorem comes_1 {Post : Tables → Env → Array Value → State → Outcome → State → Prop} (hpost : ∀ tb e args s v u, (limb_1_1.after args s (.returned v) u = true ∧ limb_1_2.after args s (.returned v) u = true ∧ True) → FrameEnd s (.returned v) u (Jvm.fieldLocs frame_1_writes args s ++ Jvm.arrayLocs frame_1_arrays args s ++ Jvm.staticLocs frame_1_statics s) 16 128 → Post tb e args s (.returned v) u) :
    ArmFor flags0 classFile x code maxLocals ret World_1 tables_1 room_1 Calls_1 rest_1 Pre_1 Post := by
  intro l hfl _ _ p e ha hc hk s m args below hf hA hF happ hP
  obtain ⟨hcalls, hrest, hpre⟩ := hP
  obtain ⟨-, -, -, hnamed, -, -, -, hat⟩ := (Spec.applies_iff hf).mp happ
  obtain ⟨hg, hn⟩ := and_e (Cond.before_iff.mp (show (Jvm.Cond.and given_1 narrow_1).before args s = true from hpre))
  obtain ⟨g0, r0⟩ := and_e hg
  obtain ⟨a0, r1⟩ := and_e r0
  obtain ⟨a1, r2⟩ := and_e r1
  obtain ⟨a2, r3⟩ := and_e r2
  obtain ⟨a3, r4⟩ := and_e r3
  obtain ⟨a4, r5⟩ := and_e r4
  obtain ⟨w0, w1, w2, w3, w4, w5, rfl⟩ : ∃ w0 w1 w2 w3 w4 w5 : Value, args = #[w0, w1, w2, w3, w4, w5] := by
    have hs : args.size = 6 := by simpa [Cond.value, given_1] using g0
    obtain ⟨L⟩ := args
    match L, hs with
    | [w0, w1, w2, w3, w4, w5], _ => exact ⟨w0, w1, w2, w3, w4, w5, rfl⟩
  have hw := fun d (hd : d ∈ tables_1) => atoms_spec (ws := Jvm.Cond.code x code maxLocals ret :: tables_1) hat d (List.mem_cons_of_mem _ hd)
  obtain ⟨i0, ei0⟩ := is_v a0
  obtain rfl : w0 = (.int i0) := Option.some.inj ei0
  obtain ⟨i1, ei1⟩ := is_v a1
  obtain rfl : w1 = (.int i1) := Option.some.inj ei1
  obtain ⟨i2, ei2⟩ := isL_v a2
  obtain rfl : w2 = (.long i2) := Option.some.inj ei2
  obtain ⟨i3, ei3⟩ := isL_v a3
  obtain rfl : w3 = (.long i3) := Option.some.inj ei3
  obtain ⟨i4, ei4⟩ := isL_v a4
  obtain rfl : w4 = (.long i4) := Option.some.inj ei4
  obtain ⟨i5, ei5⟩ := isL_v r5
  obtain rfl : w5 = (.long i5) := Option.some.inj ei5
  obtain ⟨n, o, h1, h2, h3, _, L, rfl, ⟨rfl, N⟩, hq⟩ := rm0 l s _ hw tables_1 i0 i1 i2 i3 i4 i5 s.heap s.heap.size (Nat.le_refl _) p e ha hc hk s m _ below hf ((Spec.applies_iff_loose hf).mp happ).1 ⟨rfl, State.Warmed39.refl s, rfl⟩ trivial
  refine ⟨n, _, h1, h2, h3, hpost _ _ _ _ _ _ ⟨Cond.after_iff.mpr rfl, Cond.after_iff.mpr (eq_i res_at (Term.int_eval (1)) rfl), trivial⟩ ⟨hq.1, hq.2.1, (hq.2.2.sift fun y hy => Or.inr (N y hy)).mono (by decide) (by decide)⟩⟩
theorem main_1_1 : Claimed_1_1 := comes_1 fun _ _ _ _ _ _ h hF => ⟨h.1, hF⟩
theorem main_1_2 : Claimed_1_2 := comes_1 fun _ _ _ _ _ _ h hF => ⟨h.2.1, hF⟩
end Jvm.Pilot.@@N@@
namespace Jvm.Pilot.@@N@@
open Jvm Jvm.ClassFile Sem Op Lib Jvm.Free Jvm.Stand Jvm.Pilot.@@N@@.Jvm.D
/-! MADE BY PROGRAM (witnessworld.py) out of the Statement's table words and the real class files: 10 classes; the members and pool entries that the words name. The judged class is class 1, her method 1. -/
namespace start1
open Jvm.ClassFile
def u (s : String) : CpInfo := .utf8 (stringToUtf16 s)
/-- a pool by its gaps: so many unusable entries, then the entry; so many at the end -/
def gap : Nat → List CpInfo → List CpInfo
  | 0, r => r
  | n + 1, r => .unusable :: gap n r
def poolList (es : List (Nat × CpInfo)) (last : Nat) : List CpInfo := es.foldr (fun e r => gap e.1 (e.2 :: r)) (gap last [])
def pool (es : List (Nat × CpInfo)) (last : Nat) : Array CpInfo := ⟨poolList es last⟩
def fileOf (pool : Array CpInfo) (this : Nat) (attrs : Array Attribute := #[]) (ms : Array MethodInfo := #[]) (fl : Nat := 33) (sup : Nat := 0) (ifs : Array Nat := #[]) (fds : Array FieldInfo := #[]) : ClassFile where
  minorVersion := 0
  majorVersion := 65
  constantPool := pool
  accessFlags := fl
  thisClass := this
  superClass := sup
  interfaces := ifs
  fields := fds
  methods := ms
  attributes := attrs
def plain (name : String) (sup : Option ClassId) : Class where
  name := name
  kind := .ordinary
  loader := none
  accessFlags := 33
  super := sup
  interfaces := #[]
  cf := none
  fields := #[]
  methods := #[]
  instanceTypes := #[]
  staticTypes := #[]
  resolved := #[]
  callSites := []
  init := .initialized
  statics := none
  mirror := none

def pool0 : Array CpInfo := pool [(5, u "<init>"), (0, u "()V"), (1, .class_ 10), (1, u "java/lang/Object")] 113

def k0c0 : Code := { maxStack := 0, maxLocals := 1, code := object_method_1_code, exceptionTable := #[], attributes := #[] }
def k0m0 : Method := { name := "<init>", desc := "()V", sig := { parameters := [], returnType := none }, accessFlags := 1, code := some k0c0 }
/-- java/lang/Object -/
def k0 : Class := { plain "java/lang/Object" none with
  accessFlags := 33
  interfaces := #[]
  cf := some (fileOf pool0 8 #[] #[{ accessFlags := 1, nameIndex := 5, descriptorIndex := 6, attributes := #[] }] 33 0 #[] #[])
  fields := #[]
  methods := #[k0m0]
  instanceTypes := #[]
  staticTypes := #[]
  resolved := Array.replicate 124 none
  statics := none }

def pool1 : Array CpInfo := pool [(2, .class_ 4), (1, u "java/lang/Object"), (0, u "<init>"), (0, u "()V"), (0, .integer 65535), (0, .class_ 9), (0, u "com/example/tools_to_sandbox/toolstosandbox/service/HostProcesses$Entry"), (0, .methodref 8 11), (0, .nameAndType 5 12), (0, u "(JJJCJ)V"), (0, .methodref 8 14), (0, .nameAndType 15 16), (0, u "isLive"), (0, u "()Z"), (0, .class_ 18), (0, u "com/example/tools_to_sandbox/toolstosandbox/service/EntryIsLivePinLaw"), (2, u "law"), (0, u "(IIJJJJ)Z")] 7

def k1m0 : Method := { name := "<init>", desc := "()V", sig := { parameters := [], returnType := none }, accessFlags := 2, code := none }
def k1c1 : Code := { maxStack := 11, maxLocals := 14, code := code, exceptionTable := #[], attributes := #[] }
def k1m1 : Method := { name := "law", desc := "(IIJJJJ)Z", sig := { parameters := [.int, .int, .long, .long, .long, .long], returnType := some .boolean }, accessFlags := 9, code := some k1c1 }
/-- com/example/tools_to_sandbox/toolstosandbox/service/EntryIsLivePinLaw -/
def k1 : Class := { plain "com/example/tools_to_sandbox/toolstosandbox/service/EntryIsLivePinLaw" (some 0) with
  accessFlags := 49
  interfaces := #[]
  cf := some (fileOf pool1 17 #[] #[{ accessFlags := 2, nameIndex := 5, descriptorIndex := 6, attributes := #[] }, { accessFlags := 9, nameIndex := 21, descriptorIndex := 22, attributes := #[] }] 49 2 #[] #[])
  fields := #[]
  methods := #[k1m0, k1m1]
  instanceTypes := #[]
  staticTypes := #[]
  resolved := Array.replicate 30 none
  statics := none }

def pool2 : Array CpInfo := pool [(1, .methodref 2 3), (0, .class_ 4), (0, .nameAndType 5 6), (0, u "java/lang/Object"), (0, u "<init>"), (0, u "()V"), (0, .class_ 8), (0, u "java/lang/Record")] 13

def k2c0 : Code := { maxStack := 1, maxLocals := 1, code := jdk_30_method_1_code, exceptionTable := #[], attributes := #[] }
def k2m0 : Method := { name := "<init>", desc := "()V", sig := { parameters := [], returnType := none }, accessFlags := 4, code := some k2c0 }
/-- java/lang/Record -/
def k2 : Class := { plain "java/lang/Record" (some 0) with
  accessFlags := 1057
  interfaces := #[]
  cf := some (fileOf pool2 7 #[] #[{ accessFlags := 4, nameIndex := 5, descriptorIndex := 6, attributes := #[] }] 1057 2 #[] #[])
  fields := #[]
  methods := #[k2m0]
  instanceTypes := #[]
  staticTypes := #[]
  resolved := Array.replicate 22 none
  statics := none }

def pool3 : Array CpInfo := pool [(1, .methodref 2 3), (0, .class_ 4), (0, .nameAndType 5 6), (0, u "java/lang/Record"), (0, u "<init>"), (0, u "()V"), (0, .fieldref 8 9), (0, .class_ 10), (0, .nameAndType 11 12), (0, u "com/example/tools_to_sandbox/toolstosandbox/service/HostProcesses$Entry"), (0, u "pid"), (0, u "J"), (0, .fieldref 8 14), (0, .nameAndType 15 12), (0, u "parent"), (0, .fieldref 8 17), (0, .nameAndType 18 12), (0, u "session"), (0, .fieldref 8 20), (0, .nameAndType 21 22), (0, u "state"), (0, u "C"), (0, .fieldref 8 24), (0, .nameAndType 25 12), (0, u "startTicks"), (18, u "(JJJCJ)V"), (29, u "STATE"), (0, u "I"), (2, u "PARENT"), (1, u "SESSION"), (1, u "START_TIME"), (1, u "ENV_START"), (1, u "ENV_END"), (6, u "isLive"), (0, u "()Z"), (8, .class_ 104), (0, u "com/example/tools_to_sandbox/toolstosandbox/service/HostProcesses")] 23

def k3c0 : Code := { maxStack := 3, maxLocals := 10, code := prog_81_method_1_code, exceptionTable := #[], attributes := #[] }
def k3m0 : Method := { name := "<init>", desc := "(JJJCJ)V", sig := { parameters := [.long, .long, .long, .char, .long], returnType := none }, accessFlags := 0, code := some k3c0 }
def k3c1 : Code := { maxStack := 2, maxLocals := 1, code := prog_81_method_4_code, exceptionTable := #[], attributes := #[] }
def k3m1 : Method := { name := "isLive", desc := "()Z", sig := { parameters := [], returnType := some .boolean }, accessFlags := 0, code := some k3c1 }
/-- com/example/tools_to_sandbox/toolstosandbox/service/HostProcesses$Entry -/
def k3 : Class := { plain "com/example/tools_to_sandbox/toolstosandbox/service/HostProcesses$Entry" (some 2) with
  accessFlags := 48
  interfaces := #[]
  cf := some (fileOf pool3 8 #[.nestHost 103] #[{ accessFlags := 0, nameIndex := 5, descriptorIndex := 44, attributes := #[] }, { accessFlags := 0, nameIndex := 93, descriptorIndex := 94, attributes := #[] }] 48 2 #[] #[{ accessFlags := 18, nameIndex := 11, descriptorIndex := 12, attributes := #[] }, { accessFlags := 18, nameIndex := 15, descriptorIndex := 12, attributes := #[] }, { accessFlags := 18, nameIndex := 18, descriptorIndex := 12, attributes := #[] }, { accessFlags := 18, nameIndex := 21, descriptorIndex := 22, attributes := #[] }, { accessFlags := 18, nameIndex := 25, descriptorIndex := 12, attributes := #[] }, { accessFlags := 26, nameIndex := 74, descriptorIndex := 75, attributes := #[] }, { accessFlags := 26, nameIndex := 78, descriptorIndex := 75, attributes := #[] }, { accessFlags := 26, nameIndex := 80, descriptorIndex := 75, attributes := #[] }, { accessFlags := 26, nameIndex := 82, descriptorIndex := 75, attributes := #[] }, { accessFlags := 26, nameIndex := 84, descriptorIndex := 75, attributes := #[] }, { accessFlags := 26, nameIndex := 86, descriptorIndex := 75, attributes := #[] }])
  fields := #[{ name := "pid", type := .long, accessFlags := 18, slot := 0, constantValue := 0 }, { name := "parent", type := .long, accessFlags := 18, slot := 1, constantValue := 0 }, { name := "session", type := .long, accessFlags := 18, slot := 2, constantValue := 0 }, { name := "state", type := .char, accessFlags := 18, slot := 3, constantValue := 0 }, { name := "startTicks", type := .long, accessFlags := 18, slot := 4, constantValue := 0 }, { name := "STATE", type := .int, accessFlags := 26, slot := 0, constantValue := 0 }, { name := "PARENT", type := .int, accessFlags := 26, slot := 1, constantValue := 0 }, { name := "SESSION", type := .int, accessFlags := 26, slot := 2, constantValue := 0 }, { name := "START_TIME", type := .int, accessFlags := 26, slot := 3, constantValue := 0 }, { name := "ENV_START", type := .int, accessFlags := 26, slot := 4, constantValue := 0 }, { name := "ENV_END", type := .int, accessFlags := 26, slot := 5, constantValue := 0 }]
  methods := #[k3m0, k3m1]
  instanceTypes := #[.long, .long, .long, .char, .long]
  staticTypes := #[.int, .int, .int, .int, .int, .int]
  resolved := Array.replicate 128 none
  statics := none }

def pool4 : Array CpInfo := pool [(1, u "java/lang/Cloneable"), (0, .class_ 1), (0, u "java/lang/Object"), (0, .class_ 3)] 3

/-- java/lang/Cloneable -/
def k4 : Class := { plain "java/lang/Cloneable" (some 0) with
  accessFlags := 1537
  interfaces := #[]
  cf := some (fileOf pool4 2 #[] #[] 1537 4 #[] #[])
  fields := #[]
  methods := #[]
  instanceTypes := #[]
  staticTypes := #[]
  resolved := Array.replicate 8 none
  statics := none }

def pool5 : Array CpInfo := pool [(1, u "java/io/Serializable"), (0, .class_ 1), (0, u "java/lang/Object"), (0, .class_ 3)] 3

/-- java/io/Serializable -/
def k5 : Class := { plain "java/io/Serializable" (some 0) with
  accessFlags := 1537
  interfaces := #[]
  cf := some (fileOf pool5 2 #[] #[] 1537 4 #[] #[])
  fields := #[]
  methods := #[]
  instanceTypes := #[]
  staticTypes := #[]
  resolved := Array.replicate 8 none
  statics := none }

/-- the primitive byte -/
def k6 : Class := { plain "byte" none with kind := .primitive 'B', accessFlags := 0x411 }
/-- [B -/
def k7 : Class := { plain "[B" (some 0) with kind := .array 6 .byte, interfaces := #[4, 5], accessFlags := 1041 }

/-- the primitive int -/
def k8 : Class := { plain "int" none with kind := .primitive 'I', accessFlags := 0x411 }
/-- [I -/
def k9 : Class := { plain "[I" (some 0) with kind := .array 8 .int, interfaces := #[4, 5], accessFlags := 1041 }

def heap : Heap := #[]
def classes : Array Class := #[k0, k1, k2, k3, k4, k5, k6, k7, k8, k9]
def interned : List (Array UInt16 × Addr) := []
def slotsUsed : Nat := 0
def theMethod : MethodId := ⟨1, 1⟩
def args0 : Array Value := #[.int 2, .int 83, .long 5, .long 7, .long 6, .long 2]
def aboutOver (below : List Frame) : State where
  vm := { classes := classes, interned := interned.toArray }
  heap := heap
  slotsUsed := slotsUsed
  threads := #[{ frames := .invoking theMethod args0 :: below }]
def below0 : List Frame := [.native { method := ⟨0, 0⟩, args := #[] }]
def about1 : State := aboutOver below0
def p0 : Program := .bare "" "" ""
def e0 : Env := launch0.env 0 0 0
theorem w_frames : about1.frames = Frame.invoking theMethod args0 :: below0 := rfl
set_option maxRecDepth 65536 in
theorem w_args : argsFit about1.vm theMethod args0 = true := by decide +kernel
set_option maxRecDepth 65536 in
theorem w_heap : heapFits about1 = true := by decide +kernel
set_option maxRecDepth 65536 in
theorem w_runnable : about1.curStatus? = some .runnable := by decide +kernel
set_option maxRecDepth 65536 in
theorem w_alone : about1.alone = true := by decide +kernel
set_option maxRecDepth 65536 in
theorem w_named : about1.methodNamed? x = some theMethod := by decide +kernel
set_option maxRecDepth 65536 in
theorem w_hears : about1.hears theMethod below0 = true := by decide +kernel
set_option maxRecDepth 65536 in
theorem w_ripe : about1.ripe theMethod args0 below0 = true := by decide +kernel
theorem w_running : about1.status = .running := rfl
set_option maxRecDepth 65536 in
theorem w_room : about1.hasRoom e0.platform room_1 = true :=
  launch0.hasRoom_least _ room_1 (by decide +kernel) (by decide +kernel) (by decide +kernel) (by decide +kernel) (by decide +kernel) (by decide +kernel)
theorem allAtoms_all (ts : List Jvm.Cond) (a : Array Jvm.Value) (st : Jvm.State) : (allAtoms ts).before a st = ts.all (fun c => c.before a st) := by
  induction ts with
  | nil => rfl
  | cons c t ih =>
    show (Jvm.Cond.and c (allAtoms t)).before a st = _
    rw [Jvm.Cond.before_and, ih, List.all_cons]
def words1 : List Jvm.Cond := Jvm.Cond.code x code maxLocals ret :: tables_1
/-- a 'code' word, met by the world's own term for the bytes: nothing is compared byte by byte -/
theorem code_word {y : MethodName} {bytes : ByteArray} {mx : Nat} {rt : Option FieldType} {a : Array Value} {s : State} {m : MethodId} {meth : Method} {c : Code} (h1 : s.methodNamed? y = some m) (h2 : s.vm.method? m = some meth) (h3 : meth.code = some c) (h4 : c.code = bytes)
    (h5 : (c.maxLocals == mx && c.exceptionTable.isEmpty && decide (c.maxStack ≤ mostOperands) && decide (meth.sig.returnType = rt) && !meth.locks && decide (parseMethodDescriptor y.desc = some meth.sig)) = true) : (Jvm.Cond.code y bytes mx rt).before a s = true := by
  simp only [Bool.and_eq_true, beq_iff_eq, Bool.not_eq_true', decide_eq_true_eq] at h5
  obtain ⟨⟨⟨⟨⟨g1, g2⟩, g3⟩, g4⟩, g5⟩, g6⟩ := h5
  simp [Cond.before, Cond.holds, Cond.value, h1, h2, h3, h4, g1, g2, g3, g4, g5, g6]
def isCode : Jvm.Cond → Bool
  | .code _ _ _ _ => true
  | _ => false
theorem all_split {L : List Jvm.Cond} {P : Jvm.Cond → Bool} (h1 : L.all (fun c => isCode c || P c) = true) (h2 : ∀ c ∈ L.filter isCode, P c = true) : L.all P = true := by
  refine List.all_eq_true.mpr fun c hc => ?_
  have h := List.all_eq_true.mp h1 c hc
  rcases Bool.eq_false_or_eq_true (isCode c) with hi | hi
  · exact h2 c (List.mem_filter.mpr ⟨hc, hi⟩)
  · simpa [hi] using h
set_option maxRecDepth 65536 in
theorem w_c0 : (Jvm.Cond.code x code maxLocals ret).before args0 about1 = true := code_word (m := ⟨1, 1⟩) (meth := k1m1) (c := k1c1) (by decide +kernel) rfl rfl rfl (by decide +kernel)
set_option maxRecDepth 65536 in
theorem w_c1 : (Jvm.Cond.code ({ cls := "com/example/tools_to_sandbox/toolstosandbox/service/HostProcesses$Entry", name := "<init>", desc := "(JJJCJ)V" } : Jvm.MethodName) prog_81_method_1_code (10 : Nat) (Option.none : Option Jvm.ClassFile.FieldType)).before args0 about1 = true := code_word (m := ⟨3, 0⟩) (meth := k3m0) (c := k3c0) (by decide +kernel) rfl rfl rfl (by decide +kernel)
set_option maxRecDepth 65536 in
theorem w_c2 : (Jvm.Cond.code ({ cls := "java/lang/Record", name := "<init>", desc := "()V" } : Jvm.MethodName) jdk_30_method_1_code (1 : Nat) (Option.none : Option Jvm.ClassFile.FieldType)).before args0 about1 = true := code_word (m := ⟨2, 0⟩) (meth := k2m0) (c := k2c0) (by decide +kernel) rfl rfl rfl (by decide +kernel)
set_option maxRecDepth 65536 in
theorem w_c3 : (Jvm.Cond.code ({ cls := "java/lang/Object", name := "<init>", desc := "()V" } : Jvm.MethodName) object_method_1_code (1 : Nat) (Option.none : Option Jvm.ClassFile.FieldType)).before args0 about1 = true := code_word (m := ⟨0, 0⟩) (meth := k0m0) (c := k0c0) (by decide +kernel) rfl rfl rfl (by decide +kernel)
set_option maxRecDepth 65536 in
theorem w_c4 : (Jvm.Cond.code ({ cls := "com/example/tools_to_sandbox/toolstosandbox/service/HostProcesses$Entry", name := "isLive", desc := "()Z" } : Jvm.MethodName) prog_81_method_4_code (1 : Nat) (Option.some Jvm.ClassFile.FieldType.boolean)).before args0 about1 = true := code_word (m := ⟨3, 1⟩) (meth := k3m1) (c := k3c1) (by decide +kernel) rfl rfl rfl (by decide +kernel)
def codes1 : List Jvm.Cond := [Jvm.Cond.code x code maxLocals ret, Jvm.Cond.code ({ cls := "com/example/tools_to_sandbox/toolstosandbox/service/HostProcesses$Entry", name := "<init>", desc := "(JJJCJ)V" } : Jvm.MethodName) prog_81_method_1_code (10 : Nat) (Option.none : Option Jvm.ClassFile.FieldType), Jvm.Cond.code ({ cls := "java/lang/Record", name := "<init>", desc := "()V" } : Jvm.MethodName) jdk_30_method_1_code (1 : Nat) (Option.none : Option Jvm.ClassFile.FieldType), Jvm.Cond.code ({ cls := "java/lang/Object", name := "<init>", desc := "()V" } : Jvm.MethodName) object_method_1_code (1 : Nat) (Option.none : Option Jvm.ClassFile.FieldType), Jvm.Cond.code ({ cls := "com/example/tools_to_sandbox/toolstosandbox/service/HostProcesses$Entry", name := "isLive", desc := "()Z" } : Jvm.MethodName) prog_81_method_4_code (1 : Nat) (Option.some Jvm.ClassFile.FieldType.boolean)]
set_option maxRecDepth 65536 in
theorem codes_eq : words1.filter isCode = codes1 := rfl
theorem w_codes : ∀ c ∈ words1.filter isCode, c.before args0 about1 = true := by
  rw [codes_eq]
  intro c hc
  simp only [codes1, List.mem_cons, List.not_mem_nil, or_false] at hc
  rcases hc with rfl | rfl | rfl | rfl | rfl
  · exact w_c0
  · exact w_c1
  · exact w_c2
  · exact w_c3
  · exact w_c4
set_option maxRecDepth 65536 in
theorem w_t1 : (words1.take 24).all (fun c => isCode c || c.before args0 about1) = true := by decide +kernel
set_option maxRecDepth 65536 in
theorem w_t2 : (words1.drop 24).all (fun c => isCode c || c.before args0 about1) = true := by decide +kernel
theorem w_tables : (allAtoms (Jvm.Cond.code x code maxLocals ret :: tables_1)).before args0 about1 = true := by
  rw [allAtoms_all]
  show words1.all (fun c => c.before args0 about1) = true
  refine all_split ?_ w_codes
  rw [← List.take_append_drop 24 words1, List.all_append, w_t1, w_t2]
  rfl
set_option maxRecDepth 65536 in
theorem w_case : (Jvm.Cond.and given_1 narrow_1).before args0 about1 = true := by decide +kernel
theorem w_applies : (headSpec (Jvm.Cond.code x code maxLocals ret :: tables_1) room_1).applies x e0.platform about1 = true :=
  (Spec.applies_iff w_frames).mpr ⟨w_running, w_runnable, w_alone, w_named, w_hears, w_ripe, w_room, w_tables⟩
theorem atStart : AtStart classFile x code maxLocals ret World_1 tables_1 room_1 Calls_1 rest_1 Pre_1 launch0 p0 e0 about1 theMethod args0 below0 :=
  ⟨lists_1, trivial, launch0.admits_env _ _ _, launch0.least_env, fairChoices_fair.cas, fairChoices_fair.clock, w_frames, w_args, w_heap, w_applies, trivial, trivial, w_case⟩
end start1
theorem witness_1 : WitnessClaimed_1 := ⟨start1.p0, start1.e0, start1.about1, start1.theMethod, start1.args0, start1.below0, start1.atStart⟩
end Jvm.Pilot.@@N@@
