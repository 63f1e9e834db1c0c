import JvmDerived
import JvmDerived.Pilot.@@N@@Statement
import JvmDerived.Pilot.@@N@@Code
set_option linter.unusedVariables false
set_option linter.unusedSimpArgs false
namespace Jvm.RoadKit
open Sem ClassFile Op Lib Jvm.Stand Jvm.Free Jvm.LawKit
section New
variable {p : Program} {l : Launch} {e : Env} {R : Room} {s : State} {m : MethodId} {args : Array Value} {below : List Frame} {meth : Method} {c : Code} {T : State} {locs : List Loc} {cells slots : Nat}
theorem retI (X : Stand p l e R s m args below meth c T locs cells slots) (hx : p.tables.exec = Jvm.exec) {pc : Nat} {Ls : Array Slot} {z : Int32} {rest : List Value} (hret : meth.sig.returnType = some .int) (hd : decode c.code pc = .ok (.ireturn, 1)) {fs : List Frame}
    (hl : ∀ (f : JFrame) (acts : List Action), f.method = m → f.locked = none → f.entered = [] → (doReturn e (T.setTop f) acts (some (.int z))).1 = T.setFrames fs) : Steps p.tables e below (T.setTop (mkF m pc Ls (.int z :: rest))) (T.setFrames fs) := by
  have hm' : T.vm.method? m = some meth := X.method'
  have hn : narrow .int (.int z) = .int z := rfl
  show Steps p.tables e below (T.setTop { method := m, pc := pc, locals := Ls, stack := _ :: rest, locked := none }) _
  jvm_step X.here [X.here.top, hx, hd, hm', hret, hn]
  first | (intro acts; rw [hl _ acts rfl rfl rfl]) | rw [hl _ _ rfl rfl rfl]
  exact Steps.refl _
end New
end Jvm.RoadKit
namespace Jvm.Pilot.@@N@@
open Jvm Jvm.ClassFile Sem Op Lib Jvm.Free Jvm.Stand Jvm.LawKit Jvm.RoadKit Bundle Jvm.Pilot.@@N@@.Jvm.D
section Own
variable {p : Program} {l : Launch} {e : Env} {R : Room} {s : State} {m : MethodId} {args : Array Value} {below : List Frame} {meth : Method} {c : Code} {T : State} {locs : List Loc} {cells slots : Nat} {Z : State} {h h' h0 : Heap} {a b : Addr} {sl : Nat} {v : Value}
/-- what is closed under a step taken ahead of it -/
def Bk (p : Program) (e : Env) (below : List Frame) (G : State → JFrame → Prop) : Prop :=
  ∀ (T T' : State) (g g' : JFrame), (∀ t, Steps p.tables e below (T'.setTop g') t → Steps p.tables e below (T.setTop g) t) → G T' g' → G T g
/-- from here the body comes to its end, with what Q says -/
def Goes (p : Program) (e : Env) (below : List Frame) (s : State) (Q : Option Value → Heap → List Loc → Prop) (cs sl : Nat) (T : State) (g : JFrame) : Prop :=
  ∃ s₂ o, Steps p.tables e below (T.setTop g) s₂ ∧ s₂.status = .running ∧ Ended s₂ below o ∧ ∃ v L, o = .returned v ∧ Q v s₂.heap L ∧ FrameEnd s o s₂ L cs sl
theorem Goes.bk (p : Program) (e : Env) (below : List Frame) (s : State) (Q : Option Value → Heap → List Loc → Prop) (cs sl : Nat) : Bk p e below (Goes p e below s Q cs sl) :=
  fun T T' g g' st ⟨s₂, o, h1, r⟩ => ⟨s₂, o, st _ h1, r⟩
variable {Q : Option Value → Heap → List Loc → Prop} {cs sn : Nat}
theorem Goes.retI (X : Stand p l e R s m args below meth c T locs cells slots) (hx : p.tables.exec = Jvm.exec) (hlk : meth.locks = false) (hret : meth.sig.returnType = some .int) {pc : Nat} {Ls : Array Slot} {z : Int32} {rest : List Value} (hd : decode c.code pc = .ok (.ireturn, 1))
    (hc : cells ≤ cs) (hs : slots ≤ sn) (hq : Q (some (.int z)) T.heap locs) : Goes p e below s Q cs sn T (mkF m pc Ls (.int z :: rest)) := by
  obtain ⟨fs, hr, hrun, hended, hW, hsame⟩ := X.leave (v := some (.int z)) (fun h => by rw [hret] at h; cases h) hlk
  exact ⟨_, _, Jvm.RoadKit.retI X hx hret hd hr, hrun, hended, _, _, rfl, hq, ⟨_, rfl⟩, hW, hsame.mono hc hs⟩
theorem Goes.retN (X : Stand p l e R s m args below meth c T locs cells slots) (hx : p.tables.exec = Jvm.exec) (hlk : meth.locks = false) {t : FieldType} (hret : meth.sig.returnType = some t) (ht : t = .boolean ∨ t = .byte ∨ t = .char ∨ t = .short) {pc : Nat} {Ls : Array Slot} {z : Int32} {rest : List Value} (hd : decode c.code pc = .ok (.ireturn, 1))
    (hc : cells ≤ cs) (hs : slots ≤ sn) (hq : Q (some (.int (nar t z))) T.heap locs) : Goes p e below s Q cs sn T (mkF m pc Ls (.int z :: rest)) := by
  obtain ⟨fs, hr, hrun, hended, hW, hsame⟩ := X.leave (v := some (.int (nar t z))) (fun h => by rw [hret] at h; cases h) hlk
  exact ⟨_, _, Jvm.RoadKit.retN X hx hret ht hd hr, hrun, hended, _, _, rfl, hq, ⟨_, rfl⟩, hW, hsame.mono hc hs⟩
theorem Goes.retV (X : Stand p l e R s m args below meth c T locs cells slots) (hx : p.tables.exec = Jvm.exec) (hlk : meth.locks = false) (hret : meth.sig.returnType = none) {pc : Nat} {Ls : Array Slot} (hd : decode c.code pc = .ok (.return_, 1))
    (hc : cells ≤ cs) (hs : slots ≤ sn) (hq : Q none T.heap locs) : Goes p e below s Q cs sn T (mkF m pc Ls []) := by
  obtain ⟨fs, hr, hrun, hended, hW, hsame⟩ := X.leave (v := none) (fun _ => rfl) hlk
  exact ⟨_, _, X.returnOut hx hret hd hr, hrun, hended, _, _, rfl, hq, ⟨_, rfl⟩, hW, hsame.mono hc hs⟩
theorem Goes.retL (X : Stand p l e R s m args below meth c T locs cells slots) (hx : p.tables.exec = Jvm.exec) (hlk : meth.locks = false) (hret : meth.sig.returnType = some .long) {pc : Nat} {Ls : Array Slot} {z : Int64} {rest : List Value} (hd : decode c.code pc = .ok (.lreturn, 1))
    (hc : cells ≤ cs) (hs : slots ≤ sn) (hq : Q (some (.long z)) T.heap locs) : Goes p e below s Q cs sn T (mkF m pc Ls (.long z :: rest)) := by
  obtain ⟨fs, hr, hrun, hended, hW, hsame⟩ := X.leave (v := some (.long z)) (fun h => by rw [hret] at h; cases h) hlk
  exact ⟨_, _, Jvm.RoadKit.retOut X hx hret rfl (Or.inr (Or.inl ⟨rfl, rfl, _, rfl⟩)) hd hr, hrun, hended, _, _, rfl, hq, ⟨_, rfl⟩, hW, hsame.mono hc hs⟩
theorem Goes.retA (X : Stand p l e R s m args below meth c T locs cells slots) (hx : p.tables.exec = Jvm.exec) (hlk : meth.locks = false) {t : FieldType} (ht : t.isReference = true) (hret : meth.sig.returnType = some t) {pc : Nat} {Ls : Array Slot} {z : Addr} {rest : List Value} (hd : decode c.code pc = .ok (.areturn, 1))
    (hc : cells ≤ cs) (hs : slots ≤ sn) (hq : Q (some (.ref z)) T.heap locs) : Goes p e below s Q cs sn T (mkF m pc Ls (.ref z :: rest)) := by
  obtain ⟨fs, hr, hrun, hended, hW, hsame⟩ := X.leave (v := some (.ref z)) (fun h => by rw [hret] at h; cases h) hlk
  exact ⟨_, _, Jvm.RoadKit.retOut X hx hret (by cases t <;> first | rfl | (cases ht; done)) (Or.inr (Or.inr (Or.inr (Or.inr ⟨rfl, ht, rfl⟩)))) hd hr, hrun, hended, _, _, rfl, hq, ⟨_, rfl⟩, hW, hsame.mono hc hs⟩
/-- an array: its kind, length and components -/
def Av (Z : State) (h : Heap) (a : Addr) (ty : FieldType) (n : Nat) (f : Nat → Value) : Prop :=
  ∃ c : Cell, Arr Z h a c ty ∧ c.slots.size = n ∧ n < 2 ^ 31 ∧ ∀ i, i < n → c.slots[i]? = some (f i)
variable {ty : FieldType} {n i : Nat} {f f' : Nat → Value} {j x : Int32}
theorem Av.lt (F : Av Z h a ty n f) : a < h.size := by obtain ⟨c, A, -⟩ := F; exact A.lt
theorem Av.ext (F : Av Z h a ty n f) (E : Ext h h') : Av Z h' a ty n f := by obtain ⟨c, A, r⟩ := F; exact ⟨c, A.ext E, r⟩
theorem Av.other (F : Av Z h b ty n f) (W : Wr h h' a sl v) (q : b ≠ a) : Av Z h' b ty n f := by obtain ⟨c, A, r⟩ := F; exact ⟨c, A.other W q, r⟩
theorem Av.keep {ws : List Addr} (F : Av Z h a ty n f) (K : Keep h h' ws) (q : a ∉ ws) : Av Z h' a ty n f := by obtain ⟨c, A, r⟩ := F; exact ⟨c, ⟨K.2.1 a c A.1 q, A.2⟩, r⟩
theorem Av.cong (F : Av Z h a ty n f) (q : ∀ i, i < n → f i = f' i) : Av Z h a ty n f' := by obtain ⟨c, A, r1, r2, r3⟩ := F; exact ⟨c, A, r1, r2, fun i hi => by rw [← q i hi]; exact r3 i hi⟩
theorem Av.bound (F : Av Z h a ty n f) : n < 2 ^ 31 := by obtain ⟨c, A, r1, r2, r3⟩ := F; exact r2
theorem tn_of {j : Int32} {i : Nat} (q : j.toInt = (i : Int)) : j.toNatClampNeg = i := by simp only [Int32.toNatClampNeg]; omega
theorem own_nn {j : Int32} {i : Nat} (q : j.toInt = (i : Int)) : ¬ j < 0 := by
  rw [Int32.lt_iff_toInt_lt]
  have e0 : (0 : Int32).toInt = 0 := rfl
  omega
theorem Av.new {k : ClassId} {z : Int32} (A : Arr Z h a (newA k ty z) ty) (q : z.toInt = (n : Int)) : Av Z h a ty n (fun _ => defaultValue ty) := by
  have e := tn_of q
  have hz := z.toInt_lt
  refine ⟨_, A, by rw [sz_new, e], by omega, fun i hi => ?_⟩
  simp [newA, e, hi]
theorem in_of {c : Cell} (S : c.slots.size = n) (hj : j.toInt = (i : Int)) (hi : i < n) : ¬ (j < 0 ∨ c.slots.size ≤ j.toNatClampNeg) := by
  rw [S, tn_of hj, Int32.lt_iff_toInt_lt]
  have e0 : (0 : Int32).toInt = 0 := rfl
  omega
theorem Av.ldI (X : Stand p l e R s m args below meth c T locs cells slots) (hx : p.tables.exec = Jvm.exec) (hZ : Z.Warmed39 s.vm) (eT : T.heap = h) (F : Av Z h a .int n f) (hj : j.toInt = (i : Int)) (hi : i < n) {g : JFrame} (hg : g.method = m) {rest : List Value} (hs : g.stack = .int j :: .ref a :: rest) (hd : decode c.code g.pc = .ok (.iaload, 1)) :
    ∀ t, Steps p.tables e below (T.setTop { g with pc := g.pc + 1, stack := f i :: rest }) t → Steps p.tables e below (T.setTop g) t := by
  obtain ⟨c, A, S, r, H⟩ := F
  exact X.iaload hx (by rw [eT]; exact A.1) (State.isArrayOf_alike hZ.alike A.2.1) A.2.2 (in_of S hj hi) (by rw [tn_of hj]; exact H i hi) hg hs hd
theorem Av.ldJ (X : Stand p l e R s m args below meth c T locs cells slots) (hx : p.tables.exec = Jvm.exec) (hZ : Z.Warmed39 s.vm) (eT : T.heap = h) (F : Av Z h a .long n f) (hj : j.toInt = (i : Int)) (hi : i < n) {g : JFrame} (hg : g.method = m) {rest : List Value} (hs : g.stack = .int j :: .ref a :: rest) (hd : decode c.code g.pc = .ok (.laload, 1)) :
    ∀ t, Steps p.tables e below (T.setTop { g with pc := g.pc + 1, stack := f i :: rest }) t → Steps p.tables e below (T.setTop g) t := by
  obtain ⟨c, A, S, r, H⟩ := F
  exact X.laload hx (by rw [eT]; exact A.1) (State.isArrayOf_alike hZ.alike A.2.1) A.2.2 (in_of S hj hi) (by rw [tn_of hj]; exact H i hi) hg hs hd
theorem Av.ldB (X : Stand p l e R s m args below meth c T locs cells slots) (hx : p.tables.exec = Jvm.exec) (hZ : Z.Warmed39 s.vm) (eT : T.heap = h) (F : Av Z h a .byte n f) (hj : j.toInt = (i : Int)) (hi : i < n) {g : JFrame} (hg : g.method = m) {rest : List Value} (hs : g.stack = .int j :: .ref a :: rest) (hd : decode c.code g.pc = .ok (.baload, 1)) :
    ∀ t, Steps p.tables e below (T.setTop { g with pc := g.pc + 1, stack := f i :: rest }) t → Steps p.tables e below (T.setTop g) t := by
  obtain ⟨c, A, S, r, H⟩ := F
  exact X.baloadBytes hx (by rw [eT]; exact A.1) (State.isArrayOf_alike hZ.alike A.2.1) A.2.2 (in_of S hj hi) (by rw [tn_of hj]; exact H i hi) hg hs hd
theorem Av.len (X : Stand p l e R s m args below meth c T locs cells slots) (hx : p.tables.exec = Jvm.exec) (hZ : Z.Warmed39 s.vm) (eT : T.heap = h) (F : Av Z h a ty n f) {g : JFrame} (hg : g.method = m) {rest : List Value} (hs : g.stack = .ref a :: rest) (hd : decode c.code g.pc = .ok (.arraylength, 1)) :
    ∀ t, Steps p.tables e below (T.setTop { g with pc := g.pc + 1, stack := .int (Nat.toInt32 n) :: rest }) t → Steps p.tables e below (T.setTop g) t := by
  obtain ⟨c, A, rfl, r, H⟩ := F
  exact X.arraylength hx (by rw [eT]; exact A.1) (State.isArrayOf_alike hZ.alike A.2.1) hg hs hd
/-- f with v at the place i -/
def upd {α : Type} (f : Nat → α) (i : Nat) (v : α) : Nat → α := fun k => if k = i then v else f k
theorem Av.set (F : Av Z h a ty n f) (hi : i < n) (W : Wr h h' a i v) : Av Z h' a ty n (upd f i v) := by
  obtain ⟨c, A, S, r, H⟩ := F
  refine ⟨_, A.same W, by rw [sz_set]; exact S, r, fun k hk => ?_⟩
  by_cases u : k = i
  · subst u; simp [Cell.setSlot, upd, S, hk]
  · simp only [Cell.setSlot, upd, u, if_false]
    rw [Array.getElem?_setIfInBounds_ne (Ne.symm u)]; exact H k hk
theorem Av.stI (X : Stand p l e R s m args below meth c T locs cells slots) (hx : p.tables.exec = Jvm.exec) (hZ : Z.Warmed39 s.vm) (eT : T.heap = h) (F : Av Z h a .int n f) (hj : j.toInt = (i : Int)) (hi : i < n) {g : JFrame} (hg : g.method = m) {rest : List Value} (hs : g.stack = .int x :: .int j :: .ref a :: rest) (hd : decode c.code g.pc = .ok (.iastore, 1)) :
    ∃ T' h', Stand p l e R s m args below meth c T' (locs ++ [⟨a, i⟩]) cells slots ∧ T'.heap = h' ∧ Wr h h' a i (.int x) ∧ Av Z h' a .int n (upd f i (.int x)) ∧ ∀ t, Steps p.tables e below (T'.setTop { g with pc := g.pc + 1, stack := rest }) t → Steps p.tables e below (T.setTop g) t := by
  have F' := F
  obtain ⟨c, A, S, r, H⟩ := F
  obtain ⟨T', h', X', e', W, st⟩ := Jvm.RoadKit.stI X hx hZ eT A (in_of S hj hi) hg hs hd
  rw [tn_of hj] at W X'
  exact ⟨T', h', X', e', W, F'.set hi W, st⟩
theorem Av.stJ {x : Int64} (X : Stand p l e R s m args below meth c T locs cells slots) (hx : p.tables.exec = Jvm.exec) (hZ : Z.Warmed39 s.vm) (eT : T.heap = h) (F : Av Z h a .long n f) (hj : j.toInt = (i : Int)) (hi : i < n) {g : JFrame} (hg : g.method = m) {rest : List Value} (hs : g.stack = .long x :: .int j :: .ref a :: rest) (hd : decode c.code g.pc = .ok (.lastore, 1)) :
    ∃ T' h', Stand p l e R s m args below meth c T' (locs ++ [⟨a, i⟩]) cells slots ∧ T'.heap = h' ∧ Wr h h' a i (.long x) ∧ Av Z h' a .long n (upd f i (.long x)) ∧ ∀ t, Steps p.tables e below (T'.setTop { g with pc := g.pc + 1, stack := rest }) t → Steps p.tables e below (T.setTop g) t := by
  have F' := F
  obtain ⟨c, A, S, r, H⟩ := F
  obtain ⟨T', h', X', e', W, st⟩ := Jvm.RoadKit.stJ X hx hZ eT A (in_of S hj hi) hg hs hd
  rw [tn_of hj] at W X'
  exact ⟨T', h', X', e', W, F'.set hi W, st⟩
theorem Av.stB (X : Stand p l e R s m args below meth c T locs cells slots) (hx : p.tables.exec = Jvm.exec) (hZ : Z.Warmed39 s.vm) (eT : T.heap = h) (F : Av Z h a .byte n f) (hj : j.toInt = (i : Int)) (hi : i < n) {g : JFrame} (hg : g.method = m) {rest : List Value} (hs : g.stack = .int x :: .int j :: .ref a :: rest) (hd : decode c.code g.pc = .ok (.bastore, 1)) :
    ∃ T' h', Stand p l e R s m args below meth c T' (locs ++ [⟨a, i⟩]) cells slots ∧ T'.heap = h' ∧ Wr h h' a i (.int (nar .byte x)) ∧ Av Z h' a .byte n (upd f i (.int (nar .byte x))) ∧ ∀ t, Steps p.tables e below (T'.setTop { g with pc := g.pc + 1, stack := rest }) t → Steps p.tables e below (T.setTop g) t := by
  have F' := F
  obtain ⟨c, A, S, r, H⟩ := F
  obtain ⟨T', h', X', e', W, st⟩ := Jvm.RoadKit.stB X hx hZ eT A (in_of S hj hi) hg hs hd
  rw [tn_of hj] at W X'
  exact ⟨T', h', X', e', W, F'.set hi W, st⟩
end Own
theorem d1_0 : decode prog_89_method_1_code 0 = .ok (.aload_n 0, 1) := by decide +kernel
theorem d1_1 : decode prog_89_method_1_code 1 = .ok (.invokespecial 1, 3) := by decide +kernel
theorem d1_4 : decode prog_89_method_1_code 4 = .ok (.aload_n 0, 1) := by decide +kernel
theorem d1_5 : decode prog_89_method_1_code 5 = .ok (.iconst 0, 1) := by decide +kernel
theorem d1_6 : decode prog_89_method_1_code 6 = .ok (.newarray .byte, 2) := by decide +kernel
theorem d1_8 : decode prog_89_method_1_code 8 = .ok (.putfield 7, 3) := by decide +kernel
theorem d1_11 : decode prog_89_method_1_code 11 = .ok (.iload_n 1, 1) := by decide +kernel
theorem d1_12 : decode prog_89_method_1_code 12 = .ok (.ifCond .ge 17, 3) := by decide +kernel
theorem d1_15 : decode prog_89_method_1_code 15 = .ok (.new 13, 3) := by decide +kernel
theorem d1_18 : decode prog_89_method_1_code 18 = .ok (.dup, 1) := by decide +kernel
theorem d1_19 : decode prog_89_method_1_code 19 = .ok (.iload_n 1, 1) := by decide +kernel
theorem d1_25 : decode prog_89_method_1_code 25 = .ok (.invokespecial 19, 3) := by decide +kernel
theorem d1_28 : decode prog_89_method_1_code 28 = .ok (.athrow, 1) := by decide +kernel
theorem d1_29 : decode prog_89_method_1_code 29 = .ok (.aload_n 0, 1) := by decide +kernel
theorem d1_30 : decode prog_89_method_1_code 30 = .ok (.iload_n 1, 1) := by decide +kernel
theorem d1_31 : decode prog_89_method_1_code 31 = .ok (.putfield 22, 3) := by decide +kernel
theorem d1_34 : decode prog_89_method_1_code 34 = .ok (.return_, 1) := by decide +kernel
theorem d3_0 : decode prog_89_method_2_code 0 = .ok (.iload_n 2, 1) := by decide +kernel
theorem d3_1 : decode prog_89_method_2_code 1 = .ok (.aload_n 0, 1) := by decide +kernel
theorem d3_2 : decode prog_89_method_2_code 2 = .ok (.getfield 22, 3) := by decide +kernel
theorem d3_5 : decode prog_89_method_2_code 5 = .ok (.aload_n 0, 1) := by decide +kernel
theorem d3_6 : decode prog_89_method_2_code 6 = .ok (.getfield 26, 3) := by decide +kernel
theorem d3_9 : decode prog_89_method_2_code 9 = .ok (.isub, 1) := by decide +kernel
theorem d3_10 : decode prog_89_method_2_code 10 = .ok (.invokestatic 29, 3) := by decide +kernel
theorem d3_13 : decode prog_89_method_2_code 13 = .ok (.istore_n 3, 1) := by decide +kernel
theorem d3_14 : decode prog_89_method_2_code 14 = .ok (.iload_n 3, 1) := by decide +kernel
theorem d3_15 : decode prog_89_method_2_code 15 = .ok (.iload_n 2, 1) := by decide +kernel
theorem d3_16 : decode prog_89_method_2_code 16 = .ok (.if_icmp .ge 8, 3) := by decide +kernel
theorem d3_19 : decode prog_89_method_2_code 19 = .ok (.aload_n 0, 1) := by decide +kernel
theorem d3_20 : decode prog_89_method_2_code 20 = .ok (.iconst 1, 1) := by decide +kernel
theorem d3_21 : decode prog_89_method_2_code 21 = .ok (.putfield 35, 3) := by decide +kernel
theorem d3_24 : decode prog_89_method_2_code 24 = .ok (.aload_n 0, 1) := by decide +kernel
theorem d3_25 : decode prog_89_method_2_code 25 = .ok (.getfield 26, 3) := by decide +kernel
theorem d3_28 : decode prog_89_method_2_code 28 = .ok (.iload_n 3, 1) := by decide +kernel
theorem d3_29 : decode prog_89_method_2_code 29 = .ok (.iadd, 1) := by decide +kernel
theorem d3_30 : decode prog_89_method_2_code 30 = .ok (.aload_n 0, 1) := by decide +kernel
theorem d3_31 : decode prog_89_method_2_code 31 = .ok (.getfield 7, 3) := by decide +kernel
theorem d3_34 : decode prog_89_method_2_code 34 = .ok (.arraylength, 1) := by decide +kernel
theorem d3_35 : decode prog_89_method_2_code 35 = .ok (.if_icmp .le 13, 3) := by decide +kernel
theorem d3_38 : decode prog_89_method_2_code 38 = .ok (.aload_n 0, 1) := by decide +kernel
theorem d3_39 : decode prog_89_method_2_code 39 = .ok (.aload_n 0, 1) := by decide +kernel
theorem d3_40 : decode prog_89_method_2_code 40 = .ok (.getfield 26, 3) := by decide +kernel
theorem d3_43 : decode prog_89_method_2_code 43 = .ok (.iload_n 3, 1) := by decide +kernel
theorem d3_44 : decode prog_89_method_2_code 44 = .ok (.iadd, 1) := by decide +kernel
theorem d3_45 : decode prog_89_method_2_code 45 = .ok (.invokevirtual 39, 3) := by decide +kernel
theorem d3_48 : decode prog_89_method_2_code 48 = .ok (.aload_n 1, 1) := by decide +kernel
theorem d3_49 : decode prog_89_method_2_code 49 = .ok (.iconst 0, 1) := by decide +kernel
theorem d3_50 : decode prog_89_method_2_code 50 = .ok (.aload_n 0, 1) := by decide +kernel
theorem d3_51 : decode prog_89_method_2_code 51 = .ok (.getfield 7, 3) := by decide +kernel
theorem d3_54 : decode prog_89_method_2_code 54 = .ok (.aload_n 0, 1) := by decide +kernel
theorem d3_55 : decode prog_89_method_2_code 55 = .ok (.getfield 26, 3) := by decide +kernel
theorem d3_58 : decode prog_89_method_2_code 58 = .ok (.iload_n 3, 1) := by decide +kernel
theorem d3_59 : decode prog_89_method_2_code 59 = .ok (.invokestatic 43, 3) := by decide +kernel
theorem d3_62 : decode prog_89_method_2_code 62 = .ok (.aload_n 0, 1) := by decide +kernel
theorem d3_63 : decode prog_89_method_2_code 63 = .ok (.dup, 1) := by decide +kernel
theorem d3_64 : decode prog_89_method_2_code 64 = .ok (.getfield 26, 3) := by decide +kernel
theorem d3_67 : decode prog_89_method_2_code 67 = .ok (.iload_n 3, 1) := by decide +kernel
theorem d3_68 : decode prog_89_method_2_code 68 = .ok (.iadd, 1) := by decide +kernel
theorem d3_69 : decode prog_89_method_2_code 69 = .ok (.putfield 26, 3) := by decide +kernel
theorem d3_72 : decode prog_89_method_2_code 72 = .ok (.return_, 1) := by decide +kernel
theorem d4_0 : decode jdk_29_method_69_code 0 = .ok (.iload_n 0, 1) := by decide +kernel
theorem d4_1 : decode jdk_29_method_69_code 1 = .ok (.iload_n 1, 1) := by decide +kernel
theorem d4_2 : decode jdk_29_method_69_code 2 = .ok (.if_icmp .gt 7, 3) := by decide +kernel
theorem d4_5 : decode jdk_29_method_69_code 5 = .ok (.iload_n 0, 1) := by decide +kernel
theorem d4_6 : decode jdk_29_method_69_code 6 = .ok (.goto 4, 3) := by decide +kernel
theorem d4_9 : decode jdk_29_method_69_code 9 = .ok (.iload_n 1, 1) := by decide +kernel
theorem d4_10 : decode jdk_29_method_69_code 10 = .ok (.ireturn, 1) := by decide +kernel
theorem d5_0 : decode prog_89_method_5_code 0 = .ok (.ldc2_w 55, 3) := by decide +kernel
theorem d5_3 : decode prog_89_method_5_code 3 = .ok (.aload_n 0, 1) := by decide +kernel
theorem d5_4 : decode prog_89_method_5_code 4 = .ok (.getfield 7, 3) := by decide +kernel
theorem d5_7 : decode prog_89_method_5_code 7 = .ok (.arraylength, 1) := by decide +kernel
theorem d5_8 : decode prog_89_method_5_code 8 = .ok (.i2l, 1) := by decide +kernel
theorem d5_9 : decode prog_89_method_5_code 9 = .ok (.lmul, 1) := by decide +kernel
theorem d5_10 : decode prog_89_method_5_code 10 = .ok (.lstore_n 2, 1) := by decide +kernel
theorem d5_11 : decode prog_89_method_5_code 11 = .ok (.lload_n 2, 1) := by decide +kernel
theorem d5_12 : decode prog_89_method_5_code 12 = .ok (.iload_n 1, 1) := by decide +kernel
theorem d5_13 : decode prog_89_method_5_code 13 = .ok (.i2l, 1) := by decide +kernel
theorem d5_14 : decode prog_89_method_5_code 14 = .ok (.invokestatic 57, 3) := by decide +kernel
theorem d5_17 : decode prog_89_method_5_code 17 = .ok (.aload_n 0, 1) := by decide +kernel
theorem d5_18 : decode prog_89_method_5_code 18 = .ok (.getfield 22, 3) := by decide +kernel
theorem d5_21 : decode prog_89_method_5_code 21 = .ok (.i2l, 1) := by decide +kernel
theorem d5_22 : decode prog_89_method_5_code 22 = .ok (.invokestatic 61, 3) := by decide +kernel
theorem d5_25 : decode prog_89_method_5_code 25 = .ok (.l2i, 1) := by decide +kernel
theorem d5_26 : decode prog_89_method_5_code 26 = .ok (.istore 4, 2) := by decide +kernel
theorem d5_28 : decode prog_89_method_5_code 28 = .ok (.aload_n 0, 1) := by decide +kernel
theorem d5_29 : decode prog_89_method_5_code 29 = .ok (.aload_n 0, 1) := by decide +kernel
theorem d5_30 : decode prog_89_method_5_code 30 = .ok (.getfield 7, 3) := by decide +kernel
theorem d5_33 : decode prog_89_method_5_code 33 = .ok (.iload 4, 2) := by decide +kernel
theorem d5_35 : decode prog_89_method_5_code 35 = .ok (.invokestatic 49, 3) := by decide +kernel
theorem d5_38 : decode prog_89_method_5_code 38 = .ok (.putfield 7, 3) := by decide +kernel
theorem d5_41 : decode prog_89_method_5_code 41 = .ok (.return_, 1) := by decide +kernel
theorem d6_0 : decode jdk_29_method_66_code 0 = .ok (.lload_n 0, 1) := by decide +kernel
theorem d6_1 : decode jdk_29_method_66_code 1 = .ok (.lload_n 2, 1) := by decide +kernel
theorem d6_2 : decode jdk_29_method_66_code 2 = .ok (.lcmp, 1) := by decide +kernel
theorem d6_3 : decode jdk_29_method_66_code 3 = .ok (.ifCond .lt 7, 3) := by decide +kernel
theorem d6_6 : decode jdk_29_method_66_code 6 = .ok (.lload_n 0, 1) := by decide +kernel
theorem d6_7 : decode jdk_29_method_66_code 7 = .ok (.goto 4, 3) := by decide +kernel
theorem d6_10 : decode jdk_29_method_66_code 10 = .ok (.lload_n 2, 1) := by decide +kernel
theorem d6_11 : decode jdk_29_method_66_code 11 = .ok (.lreturn, 1) := by decide +kernel
theorem d7_0 : decode jdk_29_method_70_code 0 = .ok (.lload_n 0, 1) := by decide +kernel
theorem d7_1 : decode jdk_29_method_70_code 1 = .ok (.lload_n 2, 1) := by decide +kernel
theorem d7_2 : decode jdk_29_method_70_code 2 = .ok (.lcmp, 1) := by decide +kernel
theorem d7_3 : decode jdk_29_method_70_code 3 = .ok (.ifCond .gt 7, 3) := by decide +kernel
theorem d7_6 : decode jdk_29_method_70_code 6 = .ok (.lload_n 0, 1) := by decide +kernel
theorem d7_7 : decode jdk_29_method_70_code 7 = .ok (.goto 4, 3) := by decide +kernel
theorem d7_10 : decode jdk_29_method_70_code 10 = .ok (.lload_n 2, 1) := by decide +kernel
theorem d7_11 : decode jdk_29_method_70_code 11 = .ok (.lreturn, 1) := by decide +kernel
theorem d8_0 : decode jdk_65_method_121_code 0 = .ok (.iload_n 1, 1) := by decide +kernel
theorem d8_1 : decode jdk_65_method_121_code 1 = .ok (.aload_n 0, 1) := by decide +kernel
theorem d8_2 : decode jdk_65_method_121_code 2 = .ok (.arraylength, 1) := by decide +kernel
theorem d8_3 : decode jdk_65_method_121_code 3 = .ok (.if_icmp .ne 11, 3) := by decide +kernel
theorem d8_6 : decode jdk_65_method_121_code 6 = .ok (.aload_n 0, 1) := by decide +kernel
theorem d8_7 : decode jdk_65_method_121_code 7 = .ok (.invokevirtual 310, 3) := by decide +kernel
theorem d8_10 : decode jdk_65_method_121_code 10 = .ok (.checkcast 311, 3) := by decide +kernel
theorem d8_13 : decode jdk_65_method_121_code 13 = .ok (.areturn, 1) := by decide +kernel
theorem d8_14 : decode jdk_65_method_121_code 14 = .ok (.iload_n 1, 1) := by decide +kernel
theorem d8_15 : decode jdk_65_method_121_code 15 = .ok (.newarray .byte, 2) := by decide +kernel
theorem d8_17 : decode jdk_65_method_121_code 17 = .ok (.astore_n 2, 1) := by decide +kernel
theorem d8_18 : decode jdk_65_method_121_code 18 = .ok (.aload_n 0, 1) := by decide +kernel
theorem d8_19 : decode jdk_65_method_121_code 19 = .ok (.iconst 0, 1) := by decide +kernel
theorem d8_20 : decode jdk_65_method_121_code 20 = .ok (.aload_n 2, 1) := by decide +kernel
theorem d8_21 : decode jdk_65_method_121_code 21 = .ok (.iconst 0, 1) := by decide +kernel
theorem d8_22 : decode jdk_65_method_121_code 22 = .ok (.aload_n 0, 1) := by decide +kernel
theorem d8_23 : decode jdk_65_method_121_code 23 = .ok (.arraylength, 1) := by decide +kernel
theorem d8_24 : decode jdk_65_method_121_code 24 = .ok (.iload_n 1, 1) := by decide +kernel
theorem d8_25 : decode jdk_65_method_121_code 25 = .ok (.invokestatic 304, 3) := by decide +kernel
theorem d8_28 : decode jdk_65_method_121_code 28 = .ok (.invokestatic 150, 3) := by decide +kernel
theorem d8_31 : decode jdk_65_method_121_code 31 = .ok (.aload_n 2, 1) := by decide +kernel
theorem d8_32 : decode jdk_65_method_121_code 32 = .ok (.areturn, 1) := by decide +kernel
theorem d9_0 : decode prog_89_method_3_code 0 = .ok (.aload_n 0, 1) := by decide +kernel
theorem d9_1 : decode prog_89_method_3_code 1 = .ok (.getfield 7, 3) := by decide +kernel
theorem d9_4 : decode prog_89_method_3_code 4 = .ok (.aload_n 0, 1) := by decide +kernel
theorem d9_5 : decode prog_89_method_3_code 5 = .ok (.getfield 26, 3) := by decide +kernel
theorem d9_8 : decode prog_89_method_3_code 8 = .ok (.invokestatic 49, 3) := by decide +kernel
theorem d9_11 : decode prog_89_method_3_code 11 = .ok (.areturn, 1) := by decide +kernel
theorem d10_0 : decode method_3_code 0 = .ok (.iload_n 1, 1) := by decide +kernel
theorem d10_1 : decode method_3_code 1 = .ok (.aload_n 0, 1) := by decide +kernel
theorem d10_2 : decode method_3_code 2 = .ok (.arraylength, 1) := by decide +kernel
theorem d10_3 : decode method_3_code 3 = .ok (.if_icmp .ge 19, 3) := by decide +kernel
theorem d10_6 : decode method_3_code 6 = .ok (.aload_n 0, 1) := by decide +kernel
theorem d10_7 : decode method_3_code 7 = .ok (.iload_n 1, 1) := by decide +kernel
theorem d10_8 : decode method_3_code 8 = .ok (.baload, 1) := by decide +kernel
theorem d10_9 : decode method_3_code 9 = .ok (.iload_n 1, 1) := by decide +kernel
theorem d10_10 : decode method_3_code 10 = .ok (.iload_n 2, 1) := by decide +kernel
theorem d10_11 : decode method_3_code 11 = .ok (.iload_n 3, 1) := by decide +kernel
theorem d10_12 : decode method_3_code 12 = .ok (.aload 4, 2) := by decide +kernel
theorem d10_14 : decode method_3_code 14 = .ok (.aload 5, 2) := by decide +kernel
theorem d10_16 : decode method_3_code 16 = .ok (.invokestatic 7, 3) := by decide +kernel
theorem d10_19 : decode method_3_code 19 = .ok (.if_icmp .ne 7, 3) := by decide +kernel
theorem d10_22 : decode method_3_code 22 = .ok (.iconst 1, 1) := by decide +kernel
theorem d10_23 : decode method_3_code 23 = .ok (.goto 4, 3) := by decide +kernel
theorem d10_26 : decode method_3_code 26 = .ok (.iconst 0, 1) := by decide +kernel
theorem d10_27 : decode method_3_code 27 = .ok (.ireturn, 1) := by decide +kernel
theorem d11_0 : decode method_2_code 0 = .ok (.iload_n 0, 1) := by decide +kernel
theorem d11_1 : decode method_2_code 1 = .ok (.iload_n 1, 1) := by decide +kernel
theorem d11_2 : decode method_2_code 2 = .ok (.if_icmp .ge 7, 3) := by decide +kernel
theorem d11_5 : decode method_2_code 5 = .ok (.aload_n 3, 1) := by decide +kernel
theorem d11_6 : decode method_2_code 6 = .ok (.iload_n 0, 1) := by decide +kernel
theorem d11_7 : decode method_2_code 7 = .ok (.baload, 1) := by decide +kernel
theorem d11_8 : decode method_2_code 8 = .ok (.ireturn, 1) := by decide +kernel
theorem d11_9 : decode method_2_code 9 = .ok (.iload_n 0, 1) := by decide +kernel
theorem d11_10 : decode method_2_code 10 = .ok (.iload_n 1, 1) := by decide +kernel
theorem d11_11 : decode method_2_code 11 = .ok (.iload_n 2, 1) := by decide +kernel
theorem d11_12 : decode method_2_code 12 = .ok (.iadd, 1) := by decide +kernel
theorem d11_13 : decode method_2_code 13 = .ok (.if_icmp .ge 10, 3) := by decide +kernel
theorem d11_16 : decode method_2_code 16 = .ok (.aload 4, 2) := by decide +kernel
theorem d11_18 : decode method_2_code 18 = .ok (.iload_n 0, 1) := by decide +kernel
theorem d11_19 : decode method_2_code 19 = .ok (.iload_n 1, 1) := by decide +kernel
theorem d11_20 : decode method_2_code 20 = .ok (.isub, 1) := by decide +kernel
theorem d11_21 : decode method_2_code 21 = .ok (.baload, 1) := by decide +kernel
theorem d11_22 : decode method_2_code 22 = .ok (.ireturn, 1) := by decide +kernel
theorem d11_23 : decode method_2_code 23 = .ok (.aload_n 3, 1) := by decide +kernel
theorem d11_24 : decode method_2_code 24 = .ok (.iload_n 0, 1) := by decide +kernel
theorem d11_25 : decode method_2_code 25 = .ok (.iload_n 1, 1) := by decide +kernel
theorem d11_26 : decode method_2_code 26 = .ok (.isub, 1) := by decide +kernel
theorem d11_27 : decode method_2_code 27 = .ok (.iload_n 2, 1) := by decide +kernel
theorem d11_28 : decode method_2_code 28 = .ok (.isub, 1) := by decide +kernel
theorem d11_29 : decode method_2_code 29 = .ok (.baload, 1) := by decide +kernel
theorem d11_30 : decode method_2_code 30 = .ok (.ireturn, 1) := by decide +kernel
theorem pd_0 : parseMethodDescriptor "(II)I" = some ⟨[.int, .int], some .int⟩ := by decide +kernel
theorem pd_1 : parseMethodDescriptor "(JJ)J" = some ⟨[.long, .long], some .long⟩ := by decide +kernel
theorem pd_2 : parseMethodDescriptor "([BI)[B" = some ⟨[(.array .byte), .int], some (.array .byte)⟩ := by decide +kernel
theorem pd_3 : parseMethodDescriptor "(I)V" = some ⟨[.int], none⟩ := by decide +kernel
theorem pd_4 : parseMethodDescriptor "(III[B[B)B" = some ⟨[.int, .int, .int, (.array .byte), (.array .byte)], some .byte⟩ := by decide +kernel
theorem pd_5 : parseMethodDescriptor "()[B" = some ⟨[], some (.array .byte)⟩ := by decide +kernel
theorem pd_6 : parseMethodDescriptor "([BIII[B[B)Z" = some ⟨[(.array .byte), .int, .int, .int, (.array .byte), (.array .byte)], some .boolean⟩ := by decide +kernel
theorem pd_7 : parseMethodDescriptor "([BI)V" = some ⟨[(.array .byte), .int], none⟩ := by decide +kernel
theorem tw0 {a0 : Array Value} {Z : State} (hw : ∀ d ∈ tables_1, d.before a0 Z = true) : (Jvm.Cond.constant "com/example/tools_to_sandbox/toolstosandbox/service/OutputCaptureToByteArrayPinLaw" (13 : Nat) (2147483647 : Int32)).before a0 Z = true := hw _ (List.mem_of_getElem? (i := 0) rfl)
theorem tw1 {a0 : Array Value} {Z : State} (hw : ∀ d ∈ tables_1, d.before a0 Z = true) : (Jvm.Cond.arrayClass Jvm.ClassFile.FieldType.byte).before a0 Z = true := hw _ (List.mem_of_getElem? (i := 1) rfl)
theorem tw2 {a0 : Array Value} {Z : State} (hw : ∀ d ∈ tables_1, d.before a0 Z = true) : (Jvm.Cond.classLink "com/example/tools_to_sandbox/toolstosandbox/service/OutputCaptureToByteArrayPinLaw" (14 : Nat) "com/example/tools_to_sandbox/toolstosandbox/service/OutputCapture").before a0 Z = true := hw _ (List.mem_of_getElem? (i := 2) rfl)
theorem tw3 {a0 : Array Value} {Z : State} (hw : ∀ d ∈ tables_1, d.before a0 Z = true) : (Jvm.Cond.instantiable "com/example/tools_to_sandbox/toolstosandbox/service/OutputCapture" (4 : Nat)).before a0 Z = true := hw _ (List.mem_of_getElem? (i := 3) rfl)
theorem tw4 {a0 : Array Value} {Z : State} (hw : ∀ d ∈ tables_1, d.before a0 Z = true) : (Jvm.Cond.initialized "com/example/tools_to_sandbox/toolstosandbox/service/OutputCapture").before a0 Z = true := hw _ (List.mem_of_getElem? (i := 4) rfl)
theorem tw5 {a0 : Array Value} {Z : State} (hw : ∀ d ∈ tables_1, d.before a0 Z = true) : (Jvm.Cond.methodLink "com/example/tools_to_sandbox/toolstosandbox/service/OutputCaptureToByteArrayPinLaw" (16 : Nat) ({ cls := "com/example/tools_to_sandbox/toolstosandbox/service/OutputCapture", name := "<init>", desc := "(I)V" } : Jvm.MethodName)).before a0 Z = true := hw _ (List.mem_of_getElem? (i := 5) rfl)
theorem tw6 {a0 : Array Value} {Z : State} (hw : ∀ d ∈ tables_1, d.before a0 Z = true) : (Jvm.Cond.instanceMethod ({ cls := "com/example/tools_to_sandbox/toolstosandbox/service/OutputCapture", name := "<init>", desc := "(I)V" } : Jvm.MethodName)).before a0 Z = true := hw _ (List.mem_of_getElem? (i := 6) rfl)
theorem tw7 {a0 : Array Value} {Z : State} (hw : ∀ d ∈ tables_1, d.before a0 Z = true) : (Jvm.Cond.code ({ cls := "com/example/tools_to_sandbox/toolstosandbox/service/OutputCapture", name := "<init>", desc := "(I)V" } : Jvm.MethodName) prog_89_method_1_code (2 : Nat) (Option.none : Option Jvm.ClassFile.FieldType)).before a0 Z = true := hw _ (List.mem_of_getElem? (i := 7) rfl)
theorem tw8 {a0 : Array Value} {Z : State} (hw : ∀ d ∈ tables_1, d.before a0 Z = true) : (Jvm.Cond.methodLink "com/example/tools_to_sandbox/toolstosandbox/service/OutputCapture" (1 : Nat) ({ cls := "java/lang/Object", name := "<init>", desc := "()V" } : Jvm.MethodName)).before a0 Z = true := hw _ (List.mem_of_getElem? (i := 8) rfl)
theorem tw9 {a0 : Array Value} {Z : State} (hw : ∀ d ∈ tables_1, d.before a0 Z = true) : (Jvm.Cond.instanceMethod ({ cls := "java/lang/Object", name := "<init>", desc := "()V" } : Jvm.MethodName)).before a0 Z = true := hw _ (List.mem_of_getElem? (i := 9) rfl)
theorem tw10 {a0 : Array Value} {Z : State} (hw : ∀ d ∈ tables_1, d.before a0 Z = true) : (Jvm.Cond.code ({ cls := "java/lang/Object", name := "<init>", desc := "()V" } : Jvm.MethodName) object_method_1_code (1 : Nat) (Option.none : Option Jvm.ClassFile.FieldType)).before a0 Z = true := hw _ (List.mem_of_getElem? (i := 10) rfl)
theorem tw11 {a0 : Array Value} {Z : State} (hw : ∀ d ∈ tables_1, d.before a0 Z = true) : (Jvm.Cond.fieldLink "com/example/tools_to_sandbox/toolstosandbox/service/OutputCapture" (7 : Nat) "com/example/tools_to_sandbox/toolstosandbox/service/OutputCapture" "bytes" "[B").before a0 Z = true := hw _ (List.mem_of_getElem? (i := 11) rfl)
theorem tw12 {a0 : Array Value} {Z : State} (hw : ∀ d ∈ tables_1, d.before a0 Z = true) : (Jvm.Cond.lays "com/example/tools_to_sandbox/toolstosandbox/service/OutputCapture" "com/example/tools_to_sandbox/toolstosandbox/service/OutputCapture" "bytes" "[B").before a0 Z = true := hw _ (List.mem_of_getElem? (i := 12) rfl)
theorem tw13 {a0 : Array Value} {Z : State} (hw : ∀ d ∈ tables_1, d.before a0 Z = true) : (Jvm.Cond.fieldLink "com/example/tools_to_sandbox/toolstosandbox/service/OutputCapture" (22 : Nat) "com/example/tools_to_sandbox/toolstosandbox/service/OutputCapture" "limit" "I").before a0 Z = true := hw _ (List.mem_of_getElem? (i := 13) rfl)
theorem tw14 {a0 : Array Value} {Z : State} (hw : ∀ d ∈ tables_1, d.before a0 Z = true) : (Jvm.Cond.laysFinal "com/example/tools_to_sandbox/toolstosandbox/service/OutputCapture" "com/example/tools_to_sandbox/toolstosandbox/service/OutputCapture" "limit" "I").before a0 Z = true := hw _ (List.mem_of_getElem? (i := 14) rfl)
theorem tw15 {a0 : Array Value} {Z : State} (hw : ∀ d ∈ tables_1, d.before a0 Z = true) : (Jvm.Cond.methodLink "com/example/tools_to_sandbox/toolstosandbox/service/OutputCaptureToByteArrayPinLaw" (19 : Nat) ({ cls := "com/example/tools_to_sandbox/toolstosandbox/service/OutputCapture", name := "keep", desc := "([BI)V" } : Jvm.MethodName)).before a0 Z = true := hw _ (List.mem_of_getElem? (i := 15) rfl)
theorem tw16 {a0 : Array Value} {Z : State} (hw : ∀ d ∈ tables_1, d.before a0 Z = true) : (Jvm.Cond.declares ({ cls := "com/example/tools_to_sandbox/toolstosandbox/service/OutputCapture", name := "keep", desc := "([BI)V" } : Jvm.MethodName)).before a0 Z = true := hw _ (List.mem_of_getElem? (i := 16) rfl)
theorem tw17 {a0 : Array Value} {Z : State} (hw : ∀ d ∈ tables_1, d.before a0 Z = true) : (Jvm.Cond.instanceMethod ({ cls := "com/example/tools_to_sandbox/toolstosandbox/service/OutputCapture", name := "keep", desc := "([BI)V" } : Jvm.MethodName)).before a0 Z = true := hw _ (List.mem_of_getElem? (i := 17) rfl)
theorem tw18 {a0 : Array Value} {Z : State} (hw : ∀ d ∈ tables_1, d.before a0 Z = true) : (Jvm.Cond.selects "com/example/tools_to_sandbox/toolstosandbox/service/OutputCapture" ({ cls := "com/example/tools_to_sandbox/toolstosandbox/service/OutputCapture", name := "keep", desc := "([BI)V" } : Jvm.MethodName) ({ cls := "com/example/tools_to_sandbox/toolstosandbox/service/OutputCapture", name := "keep", desc := "([BI)V" } : Jvm.MethodName)).before a0 Z = true := hw _ (List.mem_of_getElem? (i := 18) rfl)
theorem tw19 {a0 : Array Value} {Z : State} (hw : ∀ d ∈ tables_1, d.before a0 Z = true) : (Jvm.Cond.code ({ cls := "com/example/tools_to_sandbox/toolstosandbox/service/OutputCapture", name := "keep", desc := "([BI)V" } : Jvm.MethodName) prog_89_method_2_code (4 : Nat) (Option.none : Option Jvm.ClassFile.FieldType)).before a0 Z = true := hw _ (List.mem_of_getElem? (i := 19) rfl)
theorem tw20 {a0 : Array Value} {Z : State} (hw : ∀ d ∈ tables_1, d.before a0 Z = true) : (Jvm.Cond.fieldLink "com/example/tools_to_sandbox/toolstosandbox/service/OutputCapture" (26 : Nat) "com/example/tools_to_sandbox/toolstosandbox/service/OutputCapture" "size" "I").before a0 Z = true := hw _ (List.mem_of_getElem? (i := 20) rfl)
theorem tw21 {a0 : Array Value} {Z : State} (hw : ∀ d ∈ tables_1, d.before a0 Z = true) : (Jvm.Cond.lays "com/example/tools_to_sandbox/toolstosandbox/service/OutputCapture" "com/example/tools_to_sandbox/toolstosandbox/service/OutputCapture" "size" "I").before a0 Z = true := hw _ (List.mem_of_getElem? (i := 21) rfl)
theorem tw22 {a0 : Array Value} {Z : State} (hw : ∀ d ∈ tables_1, d.before a0 Z = true) : (Jvm.Cond.methodLink "com/example/tools_to_sandbox/toolstosandbox/service/OutputCapture" (29 : Nat) ({ cls := "java/lang/Math", name := "min", desc := "(II)I" } : Jvm.MethodName)).before a0 Z = true := hw _ (List.mem_of_getElem? (i := 22) rfl)
theorem tw23 {a0 : Array Value} {Z : State} (hw : ∀ d ∈ tables_1, d.before a0 Z = true) : (Jvm.Cond.static ({ cls := "java/lang/Math", name := "min", desc := "(II)I" } : Jvm.MethodName)).before a0 Z = true := hw _ (List.mem_of_getElem? (i := 23) rfl)
theorem tw24 {a0 : Array Value} {Z : State} (hw : ∀ d ∈ tables_1, d.before a0 Z = true) : (Jvm.Cond.initialized "java/lang/Math").before a0 Z = true := hw _ (List.mem_of_getElem? (i := 24) rfl)
theorem tw25 {a0 : Array Value} {Z : State} (hw : ∀ d ∈ tables_1, d.before a0 Z = true) : (Jvm.Cond.code ({ cls := "java/lang/Math", name := "min", desc := "(II)I" } : Jvm.MethodName) jdk_29_method_69_code (2 : Nat) (Option.some Jvm.ClassFile.FieldType.int)).before a0 Z = true := hw _ (List.mem_of_getElem? (i := 25) rfl)
theorem tw26 {a0 : Array Value} {Z : State} (hw : ∀ d ∈ tables_1, d.before a0 Z = true) : (Jvm.Cond.methodLink "com/example/tools_to_sandbox/toolstosandbox/service/OutputCapture" (39 : Nat) ({ cls := "com/example/tools_to_sandbox/toolstosandbox/service/OutputCapture", name := "grow", desc := "(I)V" } : Jvm.MethodName)).before a0 Z = true := hw _ (List.mem_of_getElem? (i := 26) rfl)
theorem tw27 {a0 : Array Value} {Z : State} (hw : ∀ d ∈ tables_1, d.before a0 Z = true) : (Jvm.Cond.instanceMethod ({ cls := "com/example/tools_to_sandbox/toolstosandbox/service/OutputCapture", name := "grow", desc := "(I)V" } : Jvm.MethodName)).before a0 Z = true := hw _ (List.mem_of_getElem? (i := 27) rfl)
theorem tw28 {a0 : Array Value} {Z : State} (hw : ∀ d ∈ tables_1, d.before a0 Z = true) : (Jvm.Cond.privateMethod ({ cls := "com/example/tools_to_sandbox/toolstosandbox/service/OutputCapture", name := "grow", desc := "(I)V" } : Jvm.MethodName)).before a0 Z = true := hw _ (List.mem_of_getElem? (i := 28) rfl)
theorem tw29 {a0 : Array Value} {Z : State} (hw : ∀ d ∈ tables_1, d.before a0 Z = true) : (Jvm.Cond.code ({ cls := "com/example/tools_to_sandbox/toolstosandbox/service/OutputCapture", name := "grow", desc := "(I)V" } : Jvm.MethodName) prog_89_method_5_code (5 : Nat) (Option.none : Option Jvm.ClassFile.FieldType)).before a0 Z = true := hw _ (List.mem_of_getElem? (i := 29) rfl)
theorem tw30 {a0 : Array Value} {Z : State} (hw : ∀ d ∈ tables_1, d.before a0 Z = true) : (Jvm.Cond.constantLong "com/example/tools_to_sandbox/toolstosandbox/service/OutputCapture" (55 : Nat) (2 : Int64)).before a0 Z = true := hw _ (List.mem_of_getElem? (i := 30) rfl)
theorem tw31 {a0 : Array Value} {Z : State} (hw : ∀ d ∈ tables_1, d.before a0 Z = true) : (Jvm.Cond.methodLink "com/example/tools_to_sandbox/toolstosandbox/service/OutputCapture" (57 : Nat) ({ cls := "java/lang/Math", name := "max", desc := "(JJ)J" } : Jvm.MethodName)).before a0 Z = true := hw _ (List.mem_of_getElem? (i := 31) rfl)
theorem tw32 {a0 : Array Value} {Z : State} (hw : ∀ d ∈ tables_1, d.before a0 Z = true) : (Jvm.Cond.static ({ cls := "java/lang/Math", name := "max", desc := "(JJ)J" } : Jvm.MethodName)).before a0 Z = true := hw _ (List.mem_of_getElem? (i := 32) rfl)
theorem tw33 {a0 : Array Value} {Z : State} (hw : ∀ d ∈ tables_1, d.before a0 Z = true) : (Jvm.Cond.code ({ cls := "java/lang/Math", name := "max", desc := "(JJ)J" } : Jvm.MethodName) jdk_29_method_66_code (4 : Nat) (Option.some Jvm.ClassFile.FieldType.long)).before a0 Z = true := hw _ (List.mem_of_getElem? (i := 33) rfl)
theorem tw34 {a0 : Array Value} {Z : State} (hw : ∀ d ∈ tables_1, d.before a0 Z = true) : (Jvm.Cond.methodLink "com/example/tools_to_sandbox/toolstosandbox/service/OutputCapture" (61 : Nat) ({ cls := "java/lang/Math", name := "min", desc := "(JJ)J" } : Jvm.MethodName)).before a0 Z = true := hw _ (List.mem_of_getElem? (i := 34) rfl)
theorem tw35 {a0 : Array Value} {Z : State} (hw : ∀ d ∈ tables_1, d.before a0 Z = true) : (Jvm.Cond.static ({ cls := "java/lang/Math", name := "min", desc := "(JJ)J" } : Jvm.MethodName)).before a0 Z = true := hw _ (List.mem_of_getElem? (i := 35) rfl)
theorem tw36 {a0 : Array Value} {Z : State} (hw : ∀ d ∈ tables_1, d.before a0 Z = true) : (Jvm.Cond.code ({ cls := "java/lang/Math", name := "min", desc := "(JJ)J" } : Jvm.MethodName) jdk_29_method_70_code (4 : Nat) (Option.some Jvm.ClassFile.FieldType.long)).before a0 Z = true := hw _ (List.mem_of_getElem? (i := 36) rfl)
theorem tw37 {a0 : Array Value} {Z : State} (hw : ∀ d ∈ tables_1, d.before a0 Z = true) : (Jvm.Cond.methodLink "com/example/tools_to_sandbox/toolstosandbox/service/OutputCapture" (49 : Nat) ({ cls := "java/util/Arrays", name := "copyOf", desc := "([BI)[B" } : Jvm.MethodName)).before a0 Z = true := hw _ (List.mem_of_getElem? (i := 37) rfl)
theorem tw38 {a0 : Array Value} {Z : State} (hw : ∀ d ∈ tables_1, d.before a0 Z = true) : (Jvm.Cond.static ({ cls := "java/util/Arrays", name := "copyOf", desc := "([BI)[B" } : Jvm.MethodName)).before a0 Z = true := hw _ (List.mem_of_getElem? (i := 38) rfl)
theorem tw39 {a0 : Array Value} {Z : State} (hw : ∀ d ∈ tables_1, d.before a0 Z = true) : (Jvm.Cond.initialized "java/util/Arrays").before a0 Z = true := hw _ (List.mem_of_getElem? (i := 39) rfl)
theorem tw40 {a0 : Array Value} {Z : State} (hw : ∀ d ∈ tables_1, d.before a0 Z = true) : (Jvm.Cond.code ({ cls := "java/util/Arrays", name := "copyOf", desc := "([BI)[B" } : Jvm.MethodName) jdk_65_method_121_code (3 : Nat) (Option.some (Jvm.ClassFile.FieldType.array Jvm.ClassFile.FieldType.byte))).before a0 Z = true := hw _ (List.mem_of_getElem? (i := 40) rfl)
theorem tw41 {a0 : Array Value} {Z : State} (hw : ∀ d ∈ tables_1, d.before a0 Z = true) : (Jvm.Cond.methodLink "java/util/Arrays" (304 : Nat) ({ cls := "java/lang/Math", name := "min", desc := "(II)I" } : Jvm.MethodName)).before a0 Z = true := hw _ (List.mem_of_getElem? (i := 41) rfl)
theorem tw42 {a0 : Array Value} {Z : State} (hw : ∀ d ∈ tables_1, d.before a0 Z = true) : (Jvm.Cond.methodLink "java/util/Arrays" (150 : Nat) ({ cls := "java/lang/System", name := "arraycopy", desc := "(Ljava/lang/Object;ILjava/lang/Object;II)V" } : Jvm.MethodName)).before a0 Z = true := hw _ (List.mem_of_getElem? (i := 42) rfl)
theorem tw43 {a0 : Array Value} {Z : State} (hw : ∀ d ∈ tables_1, d.before a0 Z = true) : (Jvm.Cond.static ({ cls := "java/lang/System", name := "arraycopy", desc := "(Ljava/lang/Object;ILjava/lang/Object;II)V" } : Jvm.MethodName)).before a0 Z = true := hw _ (List.mem_of_getElem? (i := 43) rfl)
theorem tw44 {a0 : Array Value} {Z : State} (hw : ∀ d ∈ tables_1, d.before a0 Z = true) : (Jvm.Cond.initialized "java/lang/System").before a0 Z = true := hw _ (List.mem_of_getElem? (i := 44) rfl)
theorem tw45 {a0 : Array Value} {Z : State} (hw : ∀ d ∈ tables_1, d.before a0 Z = true) : (Jvm.Cond.native ({ cls := "java/lang/System", name := "arraycopy", desc := "(Ljava/lang/Object;ILjava/lang/Object;II)V" } : Jvm.MethodName)).before a0 Z = true := hw _ (List.mem_of_getElem? (i := 45) rfl)
theorem tw46 {a0 : Array Value} {Z : State} (hw : ∀ d ∈ tables_1, d.before a0 Z = true) : (Jvm.Cond.methodLink "com/example/tools_to_sandbox/toolstosandbox/service/OutputCapture" (43 : Nat) ({ cls := "java/lang/System", name := "arraycopy", desc := "(Ljava/lang/Object;ILjava/lang/Object;II)V" } : Jvm.MethodName)).before a0 Z = true := hw _ (List.mem_of_getElem? (i := 46) rfl)
theorem tw47 {a0 : Array Value} {Z : State} (hw : ∀ d ∈ tables_1, d.before a0 Z = true) : (Jvm.Cond.fieldLink "com/example/tools_to_sandbox/toolstosandbox/service/OutputCapture" (35 : Nat) "com/example/tools_to_sandbox/toolstosandbox/service/OutputCapture" "truncated" "Z").before a0 Z = true := hw _ (List.mem_of_getElem? (i := 47) rfl)
theorem tw48 {a0 : Array Value} {Z : State} (hw : ∀ d ∈ tables_1, d.before a0 Z = true) : (Jvm.Cond.lays "com/example/tools_to_sandbox/toolstosandbox/service/OutputCapture" "com/example/tools_to_sandbox/toolstosandbox/service/OutputCapture" "truncated" "Z").before a0 Z = true := hw _ (List.mem_of_getElem? (i := 48) rfl)
theorem tw49 {a0 : Array Value} {Z : State} (hw : ∀ d ∈ tables_1, d.before a0 Z = true) : (Jvm.Cond.methodLink "com/example/tools_to_sandbox/toolstosandbox/service/OutputCaptureToByteArrayPinLaw" (23 : Nat) ({ cls := "java/lang/Math", name := "min", desc := "(II)I" } : Jvm.MethodName)).before a0 Z = true := hw _ (List.mem_of_getElem? (i := 49) rfl)
theorem tw50 {a0 : Array Value} {Z : State} (hw : ∀ d ∈ tables_1, d.before a0 Z = true) : (Jvm.Cond.methodLink "com/example/tools_to_sandbox/toolstosandbox/service/OutputCaptureToByteArrayPinLaw" (29 : Nat) ({ cls := "com/example/tools_to_sandbox/toolstosandbox/service/OutputCapture", name := "toByteArray", desc := "()[B" } : Jvm.MethodName)).before a0 Z = true := hw _ (List.mem_of_getElem? (i := 50) rfl)
theorem tw51 {a0 : Array Value} {Z : State} (hw : ∀ d ∈ tables_1, d.before a0 Z = true) : (Jvm.Cond.declares ({ cls := "com/example/tools_to_sandbox/toolstosandbox/service/OutputCapture", name := "toByteArray", desc := "()[B" } : Jvm.MethodName)).before a0 Z = true := hw _ (List.mem_of_getElem? (i := 51) rfl)
theorem tw52 {a0 : Array Value} {Z : State} (hw : ∀ d ∈ tables_1, d.before a0 Z = true) : (Jvm.Cond.instanceMethod ({ cls := "com/example/tools_to_sandbox/toolstosandbox/service/OutputCapture", name := "toByteArray", desc := "()[B" } : Jvm.MethodName)).before a0 Z = true := hw _ (List.mem_of_getElem? (i := 52) rfl)
theorem tw53 {a0 : Array Value} {Z : State} (hw : ∀ d ∈ tables_1, d.before a0 Z = true) : (Jvm.Cond.selects "com/example/tools_to_sandbox/toolstosandbox/service/OutputCapture" ({ cls := "com/example/tools_to_sandbox/toolstosandbox/service/OutputCapture", name := "toByteArray", desc := "()[B" } : Jvm.MethodName) ({ cls := "com/example/tools_to_sandbox/toolstosandbox/service/OutputCapture", name := "toByteArray", desc := "()[B" } : Jvm.MethodName)).before a0 Z = true := hw _ (List.mem_of_getElem? (i := 53) rfl)
theorem tw54 {a0 : Array Value} {Z : State} (hw : ∀ d ∈ tables_1, d.before a0 Z = true) : (Jvm.Cond.code ({ cls := "com/example/tools_to_sandbox/toolstosandbox/service/OutputCapture", name := "toByteArray", desc := "()[B" } : Jvm.MethodName) prog_89_method_3_code (1 : Nat) (Option.some (Jvm.ClassFile.FieldType.array Jvm.ClassFile.FieldType.byte))).before a0 Z = true := hw _ (List.mem_of_getElem? (i := 54) rfl)
theorem tw55 {a0 : Array Value} {Z : State} (hw : ∀ d ∈ tables_1, d.before a0 Z = true) : (Jvm.Cond.methodLink "java/util/Arrays" (310 : Nat) ({ cls := "[B", name := "clone", desc := "()Ljava/lang/Object;" } : Jvm.MethodName)).before a0 Z = true := hw _ (List.mem_of_getElem? (i := 55) rfl)
theorem tw56 {a0 : Array Value} {Z : State} (hw : ∀ d ∈ tables_1, d.before a0 Z = true) : (Jvm.Cond.sameMethod "[B" "java/lang/Object" "clone" "()Ljava/lang/Object;").before a0 Z = true := hw _ (List.mem_of_getElem? (i := 56) rfl)
theorem tw58 {a0 : Array Value} {Z : State} (hw : ∀ d ∈ tables_1, d.before a0 Z = true) : (Jvm.Cond.instanceMethod ({ cls := "java/lang/Object", name := "clone", desc := "()Ljava/lang/Object;" } : Jvm.MethodName)).before a0 Z = true := hw _ (List.mem_of_getElem? (i := 58) rfl)
theorem tw59 {a0 : Array Value} {Z : State} (hw : ∀ d ∈ tables_1, d.before a0 Z = true) : (Jvm.Cond.selects "[B" ({ cls := "[B", name := "clone", desc := "()Ljava/lang/Object;" } : Jvm.MethodName) ({ cls := "java/lang/Object", name := "clone", desc := "()Ljava/lang/Object;" } : Jvm.MethodName)).before a0 Z = true := hw _ (List.mem_of_getElem? (i := 59) rfl)
theorem tw60 {a0 : Array Value} {Z : State} (hw : ∀ d ∈ tables_1, d.before a0 Z = true) : (Jvm.Cond.native ({ cls := "java/lang/Object", name := "clone", desc := "()Ljava/lang/Object;" } : Jvm.MethodName)).before a0 Z = true := hw _ (List.mem_of_getElem? (i := 60) rfl)
theorem tw61 {a0 : Array Value} {Z : State} (hw : ∀ d ∈ tables_1, d.before a0 Z = true) : (Jvm.Cond.castable "[B" "java/lang/Cloneable").before a0 Z = true := hw _ (List.mem_of_getElem? (i := 61) rfl)
theorem tw62 {a0 : Array Value} {Z : State} (hw : ∀ d ∈ tables_1, d.before a0 Z = true) : (Jvm.Cond.classLink "java/util/Arrays" (311 : Nat) "[B").before a0 Z = true := hw _ (List.mem_of_getElem? (i := 62) rfl)
theorem tw64 {a0 : Array Value} {Z : State} (hw : ∀ d ∈ tables_1, d.before a0 Z = true) : (Jvm.Cond.methodLink "com/example/tools_to_sandbox/toolstosandbox/service/OutputCaptureToByteArrayPinLaw" (33 : Nat) ({ cls := "com/example/tools_to_sandbox/toolstosandbox/service/OutputCaptureToByteArrayPinLaw", name := "at", desc := "([BIII[B[B)Z" } : Jvm.MethodName)).before a0 Z = true := hw _ (List.mem_of_getElem? (i := 64) rfl)
theorem tw65 {a0 : Array Value} {Z : State} (hw : ∀ d ∈ tables_1, d.before a0 Z = true) : (Jvm.Cond.static ({ cls := "com/example/tools_to_sandbox/toolstosandbox/service/OutputCaptureToByteArrayPinLaw", name := "at", desc := "([BIII[B[B)Z" } : Jvm.MethodName)).before a0 Z = true := hw _ (List.mem_of_getElem? (i := 65) rfl)
theorem tw66 {a0 : Array Value} {Z : State} (hw : ∀ d ∈ tables_1, d.before a0 Z = true) : (Jvm.Cond.initialized "com/example/tools_to_sandbox/toolstosandbox/service/OutputCaptureToByteArrayPinLaw").before a0 Z = true := hw _ (List.mem_of_getElem? (i := 66) rfl)
theorem tw67 {a0 : Array Value} {Z : State} (hw : ∀ d ∈ tables_1, d.before a0 Z = true) : (Jvm.Cond.code ({ cls := "com/example/tools_to_sandbox/toolstosandbox/service/OutputCaptureToByteArrayPinLaw", name := "at", desc := "([BIII[B[B)Z" } : Jvm.MethodName) method_3_code (6 : Nat) (Option.some Jvm.ClassFile.FieldType.boolean)).before a0 Z = true := hw _ (List.mem_of_getElem? (i := 67) rfl)
theorem tw68 {a0 : Array Value} {Z : State} (hw : ∀ d ∈ tables_1, d.before a0 Z = true) : (Jvm.Cond.methodLink "com/example/tools_to_sandbox/toolstosandbox/service/OutputCaptureToByteArrayPinLaw" (7 : Nat) ({ cls := "com/example/tools_to_sandbox/toolstosandbox/service/OutputCaptureToByteArrayPinLaw", name := "exp", desc := "(III[B[B)B" } : Jvm.MethodName)).before a0 Z = true := hw _ (List.mem_of_getElem? (i := 68) rfl)
theorem tw69 {a0 : Array Value} {Z : State} (hw : ∀ d ∈ tables_1, d.before a0 Z = true) : (Jvm.Cond.static ({ cls := "com/example/tools_to_sandbox/toolstosandbox/service/OutputCaptureToByteArrayPinLaw", name := "exp", desc := "(III[B[B)B" } : Jvm.MethodName)).before a0 Z = true := hw _ (List.mem_of_getElem? (i := 69) rfl)
theorem tw70 {a0 : Array Value} {Z : State} (hw : ∀ d ∈ tables_1, d.before a0 Z = true) : (Jvm.Cond.code ({ cls := "com/example/tools_to_sandbox/toolstosandbox/service/OutputCaptureToByteArrayPinLaw", name := "exp", desc := "(III[B[B)B" } : Jvm.MethodName) method_2_code (5 : Nat) (Option.some Jvm.ClassFile.FieldType.byte)).before a0 Z = true := hw _ (List.mem_of_getElem? (i := 70) rfl)
section Byt
variable {p : Program} {l : Launch} {e : Env} {R : Room} {s : State} {m : MethodId} {args : Array Value} {below : List Frame} {meth : Method} {c : Code} {T : State} {locs : List Loc} {cells slots : Nat} {Z : State} {h h' h0 : Heap} {a b : Addr} {sl : Nat} {v : Value} {a0 : Array Value} {n n' n0 : Nat} {own : String} {index : Nat}
theorem own_ti {n : Nat} (h : n < 2 ^ 31) : (Nat.toInt32 n).toInt = n := len_toInt h
theorem own_selfsel {s : State} {args : Array Value} {y : MethodName} {n : Nat} (wi : (Cond.instantiable y.cls n).before args s = true) (hp : (Cond.privateMethod y).before args s = true) (hi : (Cond.instanceMethod y).before args s = true) (hy : y.cls ≠ "java/lang/invoke/MethodHandle" ∧ y.cls ≠ "java/lang/invoke/VarHandle") : (Cond.selects y.cls y y).before args s = true := by
  obtain ⟨c, k, h1, h2, -, h4, -⟩ := Cond.instantiable_spec wi
  exact Jvm.Stand.selects_self_of_private h1 h2 (Bool.or_eq_false_iff.mp h4).1 (Cond.privateMethod_at hp) hi hy
/-- an array of bytes -/
def Ab (Z : State) (h : Heap) (a : Addr) (n : Nat) (f : Nat → Int32) : Prop := Av Z h a .byte n (fun i => .int (f i)) ∧ Exa Z h a "[B" ∧ ∀ i, i < n → fits .byte (.int (f i)) = true
variable {f f' : Nat → Int32}
theorem Ab.lt (F : Ab Z h a n f) : a < h.size := F.1.lt
theorem Ab.ext (F : Ab Z h a n f) (E : Ext h h') : Ab Z h' a n f := ⟨F.1.ext E, F.2.1.ext E, F.2.2⟩
theorem Ab.other (F : Ab Z h b n f) (W : Wr h h' a sl v) (q : b ≠ a) : Ab Z h' b n f := ⟨F.1.other W q, F.2.1.wr W, F.2.2⟩
theorem Ab.keep {ws : List Addr} (F : Ab Z h a n f) (K : Keep h h' ws) (q : a ∉ ws) : Ab Z h' a n f := ⟨F.1.keep K q, F.2.1.keep K, F.2.2⟩
theorem Ab.cong (F : Ab Z h a n f) (q : ∀ i, i < n → f i = f' i) : Ab Z h a n f' := ⟨F.1.cong fun i hi => by rw [q i hi], F.2.1, fun i hi => by rw [← q i hi]; exact F.2.2 i hi⟩
theorem Av.arv {ty : FieldType} {f : Nat → Value} (F : Av Z h a ty n f) (G : ∀ i, i < n → fits ty (f i) = true) (dv : Value) : ∃ k, Arv Z h a k ty (Nat.toInt32 n) ((List.range n).map f) dv := by
  obtain ⟨c, A, S, r, H⟩ := F
  have hz : (Nat.toInt32 n).toInt = (n : Int) := own_ti r
  have e : ∀ i, i < n → ((List.range n).map f).getD i dv = f i := fun i hi => by simp [List.getD_eq_getElem?_getD, hi]
  exact ⟨c.cls, c, A, rfl, by rw [tn_of hz, S], own_nn hz, fun i hi => by rw [S] at hi; rw [e i hi]; exact H i hi, fun i hi => by rw [S] at hi; rw [e i hi]; exact G i hi⟩
theorem Arv.av {ty : FieldType} {k : ClassId} {z : Int32} {vs : List Value} {dv : Value} (F : Arv Z h a k ty z vs dv) (hz : z.toInt = (n : Int)) : Av Z h a ty n (fun i => vs.getD i dv) := by
  obtain ⟨c, A, -, S, -, H, -⟩ := F
  have := z.toInt_lt
  rw [tn_of hz] at S
  exact ⟨c, A, S, by omega, fun i hi => H i (by rw [S]; exact hi)⟩
theorem own_cat {f f' : Nat → Value} {n n' i j k x : Nat} (h1 : i + k ≤ n) (h2 : j + k ≤ n') (hx : x < n') (dv : Value) :
    (((List.range n').map f').take j ++ ((List.range k).map fun y => ((List.range n).map f).getD (i + y) dv) ++ ((List.range n').map f').drop (j + k)).getD x dv = if j ≤ x ∧ x < j + k then f (i + (x - j)) else f' x := by
  have lt : (((List.range n').map f').take j).length = j := by simp; omega
  have lu : ((List.range k).map fun y => ((List.range n).map f).getD (i + y) dv).length = k := by simp
  rw [List.getD_eq_getElem?_getD]
  by_cases q1 : x < j
  · rw [if_neg (by omega), List.append_assoc, List.getElem?_append_left (by omega), List.getElem?_take_of_lt q1]
    simp [hx]
  · by_cases q2 : x < j + k
    · rw [if_pos (by omega), List.getElem?_append_left (by rw [List.length_append]; omega), List.getElem?_append_right (by omega), lt]
      simp [show x - j < k by omega, List.getD_eq_getElem?_getD, show i + (x - j) < n by omega]
    · rw [if_neg (by omega), List.getElem?_append_right (by rw [List.length_append]; omega), List.length_append, lt, lu, List.getElem?_drop, show j + k + (x - (j + k)) = x by omega]
      simp [hx]
theorem Ab.copy (X : Stand p l e R s m args below meth c T locs cells slots) (hx : p.tables.exec = Jvm.exec) (hZ : Z.Warmed39 s.vm) (hown : s.vm.findClass own = some m.cls)
    (w1 : (Cond.methodLink own index Jvm.Stand.acN).before a0 Z = true) (w2 : (Cond.native Jvm.Stand.acN).before a0 Z = true) (w3 : (Cond.static Jvm.Stand.acN).before a0 Z = true) (w4 : (Cond.initialized "java/lang/System").before a0 Z = true) (eT : T.heap = h)
    (A : Ab Z h a n f) (B : Ab Z h b n' f') {sp dp nn : Int32} {i j k : Nat} (hi : sp.toInt = (i : Int)) (hj : dp.toInt = (j : Int)) (hk : nn.toInt = (k : Int)) (h1 : i + k ≤ n) (h2 : j + k ≤ n') (N : Fr n0 locs) (ge : n0 ≤ b)
    {g : JFrame} (hg : g.method = m) (hsize : g.locals.size = c.maxLocals) {rest : List Value} (hs : g.stack = .int nn :: .int dp :: .ref b :: .int sp :: .ref a :: rest) (hd : decode c.code g.pc = .ok (.invokestatic index, 3))
    (hf : 1 ≤ R.frames) {W : Nat} (hW : 2 * g.monitorRoom + (rest.map fun v => v.category).sum ≤ W) (hlo : W + (nativeFrameWords "java/lang/System" "arraycopy" 5 + 11) ≤ R.locals) :
    ∃ T' h' L, Stand p l e R s m args below meth c T' L cells slots ∧ T'.heap = h' ∧ Fr n0 L ∧ Keep h h' [b] ∧ Ab Z h' b n' (fun x => if j ≤ x ∧ x < j + k then f (i + (x - j)) else f' x) ∧
      ∀ target, Steps p.tables e below (T'.setTop { g with pc := g.pc + 3, stack := rest }) target → Steps p.tables e below (T.setTop g) target := by
  obtain ⟨kA, A'⟩ := A.1.arv A.2.2 (.int 0)
  obtain ⟨kB, B'⟩ := B.1.arv B.2.2 (.int 0)
  have bn := A.1.bound
  have bn' := B.1.bound
  have ez : (Nat.toInt32 n).toNatClampNeg = n := tn_of (own_ti bn)
  have ez' : (Nat.toInt32 n').toNatClampNeg = n' := tn_of (own_ti bn')
  obtain ⟨T', h', L, X', e', N', K, V, st⟩ := cpA X hx hZ hown w1 w2 w3 w4 eT A' B' (Or.inl ⟨rfl, rfl⟩) (own_nn hi) (own_nn hj) (own_nn hk) (by rw [tn_of hi, tn_of hk, ez]; exact h1) (by rw [tn_of hj, tn_of hk, ez']; exact h2) rfl (by rw [tn_of hj, tn_of hk]; simpa using h2) N ge hg hsize hs hd hf hW hlo
  refine ⟨T', h', L, X', e', N', K, ⟨?_, B.2.1.keep K, fun x hx => ?_⟩, st⟩
  · have V' := Arv.av V (own_ti bn')
    rw [tn_of hi, tn_of hj, tn_of hk] at V'
    refine V'.cong fun x hx => ?_
    rw [own_cat h1 h2 hx]
    dsimp only
    by_cases q : j ≤ x ∧ x < j + k
    · rw [if_pos q, if_pos q]
    · rw [if_neg q, if_neg q]
  · dsimp only
    split
    · exact A.2.2 _ (by omega)
    · exact B.2.2 _ hx
theorem Ab.clone (X : Stand p l e R s m args below meth c T locs cells slots) (hx : p.tables.exec = Jvm.exec) (hZ : Z.Warmed39 s.vm) (hown : s.vm.findClass own = some m.cls)
    (w1 : (Cond.methodLink own index ⟨"[B", "clone", "()Ljava/lang/Object;"⟩).before a0 Z = true) (w2 : (Cond.sameMethod "[B" "java/lang/Object" "clone" "()Ljava/lang/Object;").before a0 Z = true) (w3 : (Cond.native ⟨"java/lang/Object", "clone", "()Ljava/lang/Object;"⟩).before a0 Z = true)
    (w4 : (Cond.instanceMethod ⟨"java/lang/Object", "clone", "()Ljava/lang/Object;"⟩).before a0 Z = true) (w5 : (Cond.selects "[B" ⟨"[B", "clone", "()Ljava/lang/Object;"⟩ ⟨"java/lang/Object", "clone", "()Ljava/lang/Object;"⟩).before a0 Z = true) (w6 : (Cond.castable "[B" "java/lang/Cloneable").before a0 Z = true)
    (eT : T.heap = h) (A : Ab Z h a n f) {g : JFrame} (hg : g.method = m) (hsize : g.locals.size = c.maxLocals) {rest : List Value} (hs : g.stack = .ref a :: rest) (hd : decode c.code g.pc = .ok (.invokevirtual index, 3))
    (hf : 1 ≤ R.frames) {W cap : Nat} (hW : 2 * g.monitorRoom + (rest.map fun v => v.category).sum ≤ W) (hl : W + 14 ≤ R.locals) (hcap : n ≤ cap) (hc : cells + 1 ≤ R.cells) (hsl : slots + cap ≤ R.slots) :
    ∃ T' h', Stand p l e R s m args below meth c T' locs (cells + 1) (slots + cap) ∧ T'.heap = h' ∧ Ext h h' ∧ Ab Z h' h.size n f ∧
      ∀ target, Steps p.tables e below (T'.setTop { g with pc := g.pc + 3, stack := .ref h.size :: rest }) target → Steps p.tables e below (T.setTop g) target := by
  obtain ⟨⟨cl, A1, S, r, H⟩, E, G⟩ := A
  have FC : FitC Z cl := fitC_of A1 fun i hi v hv => by rw [S] at hi; rw [H i hi] at hv; cases hv; exact G i hi
  obtain ⟨T', h', X', e', ex, A', E', st⟩ := cloneA X hx hZ hown w1 w2 w3 w4 w5 w6 eT A1 E FC hg hsize hs hd hf hW hl (by rw [S]; exact hcap) hc hsl
  exact ⟨T', h', X', e', ex, ⟨⟨cloneOf cl, A', S, r, H⟩, E', G⟩, st⟩
theorem Ab.new (X : Stand p l e R s m args below meth c T locs cells slots) (hx : p.tables.exec = Jvm.exec) (hZ : Z.Warmed39 s.vm) (w : (Cond.arrayClass .byte).before a0 Z = true) (eT : T.heap = h) {g : JFrame} (hg : g.method = m) (hd : decode c.code g.pc = .ok (.newarray .byte, 2)) {z : Int32} {rest : List Value} (hs : g.stack = .int z :: rest)
    (hz : z.toInt = (n : Int)) {cap : Nat} (hcap : n ≤ cap) (hb : cap * 8 ≤ 536870912) (hc : cells + 1 ≤ R.cells) (hl : slots + cap ≤ R.slots) :
    ∃ T' h', Stand p l e R s m args below meth c T' locs (cells + 1) (slots + cap) ∧ T'.heap = h' ∧ Ext h h' ∧ Ab Z h' h.size n (fun _ => 0) ∧
      ∀ target, Steps p.tables e below (T'.setTop { g with pc := g.pc + 2, stack := .ref h.size :: rest }) target → Steps p.tables e below (T.setTop g) target := by
  obtain ⟨T', h', cA, X', e', ex, A, E, st⟩ := newPE X hx hZ (aty := .byte) w eT hg hd hs (own_nn hz) (by rw [tn_of hz]; exact hcap) hb hc hl (ad := "[B") rfl
  exact ⟨T', h', X', e', ex, ⟨Av.new A hz, E, fun _ _ => rfl⟩, st⟩
theorem Ab.st {j x : Int32} {i : Nat} (X : Stand p l e R s m args below meth c T locs cells slots) (hx : p.tables.exec = Jvm.exec) (hZ : Z.Warmed39 s.vm) (eT : T.heap = h) (F : Ab Z h a n f) (hj : j.toInt = (i : Int)) (hi : i < n) {g : JFrame} (hg : g.method = m) {rest : List Value} (hs : g.stack = .int x :: .int j :: .ref a :: rest) (hd : decode c.code g.pc = .ok (.bastore, 1)) :
    ∃ T' h', Stand p l e R s m args below meth c T' (locs ++ [⟨a, i⟩]) cells slots ∧ T'.heap = h' ∧ Wr h h' a i (.int (nar .byte x)) ∧ Ab Z h' a n (upd f i (nar .byte x)) ∧ ∀ t, Steps p.tables e below (T'.setTop { g with pc := g.pc + 1, stack := rest }) t → Steps p.tables e below (T.setTop g) t := by
  obtain ⟨T', h', X', e', W, V, st⟩ := Av.stB X hx hZ eT F.1 hj hi hg hs hd
  refine ⟨T', h', X', e', W, ⟨V.cong fun k hk => ?_, F.2.1.wr W, fun k hk => ?_⟩, st⟩
  · simp only [upd]; split <;> rfl
  · simp only [upd]; split
    · exact fits_nar_byte _
    · exact F.2.2 k hk
end Byt
theorem ef_rmMin (m : MethodId) (x0 : Int32) (x1 : Int32) : entryFrame m #[(.int x0), (.int x1)] 2 = mkF m 0 #[.val (.int x0), .val (.int x1)] [] := by first | (simp [entryFrame, mkF, argsToLocals, Value.category]; done) | rfl
def Q_rmMin (Z : State) (p1 : Int32) (p2 : Int32)  (h0 : Heap) (n0 : Nat) (v : Option Value) (h : Heap) (L : List Loc) : Prop := v = some (.int (if p2 < p1 then p2 else p1)) ∧ Fr n0 L ∧ h = h0
set_option maxRecDepth 65536 in
set_option maxHeartbeats 40000000 in
theorem rmMin (l : Launch) (Z : State) (a0 : Array Value) (hw : ∀ d ∈ tables_1, d.before a0 Z = true) (ws : List Jvm.Cond) (p1 : Int32) (p2 : Int32) (h0 : Heap) (n0 : Nat) (Z0 : n0 ≤ h0.size) :
    MetFree l (⟨"java/lang/Math", "min", "(II)I"⟩ : MethodName) (head1 (Jvm.Cond.code (⟨"java/lang/Math", "min", "(II)I"⟩ : MethodName) jdk_29_method_69_code 2 (some .int) :: ws) ({ frames := 0, cells := 0, slots := 0, locals := 0 } : Room)) (fun a U => a = #[(.int p1), (.int p2)] ∧ Z.Warmed39 U.vm ∧ U.heap = h0) (fun _ _ _ _ _ => True) (fun _ U o U' => ∃ v L, o = .returned v ∧ Q_rmMin Z p1 p2  h0 n0 v U'.heap L ∧ FrameEnd U o U' L ({ frames := 0, cells := 0, slots := 0, locals := 0 } : Room).cells ({ frames := 0, cells := 0, slots := 0, locals := 0 } : Room).slots) := by
  refine MetFree.of_bodySF (Jvm.Free.JP.mathPlain rfl (by decide +kernel)) hisR ?_
  intro p e s m args below meth c s₁ Bd hml0 hP hK
  obtain ⟨rfl, hZ, hh⟩ := hP
  have hx := Bd.exec
  have hby := Bd.bytes
  have hml : c.maxLocals = 2 := hml0
  have hown : s.vm.findClass "java/lang/Math" = some m.cls := findClass_of_methodNamed Bd.named
  have hnm := (name_of_methodNamed Bd.named Bd.method).1
  have X0 : Stand p l e ({ frames := 0, cells := 0, slots := 0, locals := 0 } : Room) s m #[(.int p1), (.int p2)] below meth c s₁ [] 0 0 := Stand.of_body Bd
  have e0 : s₁.heap = h0 := by rw [← hh, Bd.state]; rfl
  have N0 := Fr.nil n0
  have hlk : meth.locks = false := BodyLoose.notSynchronized Bd
  have hrt := Bd.returns
  have hG := Goes.bk p e below s (fun (v : Option Value) (h : Heap) (L : List Loc) => v = some (.int (if p2 < p1 then p2 else p1)) ∧ Fr n0 L ∧ h = h0) 0 0
  show Goes p e below s (fun (v : Option Value) (h : Heap) (L : List Loc) => v = some (.int (if p2 < p1 then p2 else p1)) ∧ Fr n0 L ∧ h = h0) 0 0 s₁ (entryFrame m #[(.int p1), (.int p2)] 2)
  rw [ef_rmMin m p1 p2]
  refine hG _ s₁ _ (mkF m 1 #[.val (.int p1), .val (.int p2)] [(.int p1)]) (fun t kq_ => XS.iloadN X0.here hx rfl (hb hby d4_0) rfl kq_) ?_
  refine hG _ s₁ _ (mkF m 2 #[.val (.int p1), .val (.int p2)] [(.int p2), (.int p1)]) (fun t kq_ => XS.iloadN X0.here hx rfl (hb hby d4_1) rfl kq_) ?_
  by_cases hc2 : p2 < p1
  · refine hG _ s₁ _ (mkF m 9 #[.val (.int p1), .val (.int p2)] []) (fun t kq_ => XS.icmpYes X0.here hx rfl (pc0 := 2) (pc' := 9) rfl (hb hby d4_2) rfl (tlt hc2).2.2.1 (by decide) (by decide) kq_) ?_
    refine hG _ s₁ _ (mkF m 10 #[.val (.int p1), .val (.int p2)] [(.int p2)]) (fun t kq_ => XS.iloadN X0.here hx rfl (hb hby d4_9) rfl kq_) ?_
    exact Goes.retI X0 hx hlk hrt (hb hby d4_10) (by decide : 0 ≤ 0) (by decide : 0 ≤ 0) (by (try rw [e0]); exact ⟨by rw [if_pos hc2], N0, rfl⟩)
  · refine hG _ s₁ _ (mkF m 5 #[.val (.int p1), .val (.int p2)] []) (fun t kq_ => XS.icmpNo X0.here hx rfl (hb hby d4_2) rfl (flt hc2).2.2.1 kq_) ?_
    refine hG _ s₁ _ (mkF m 6 #[.val (.int p1), .val (.int p2)] [(.int p1)]) (fun t kq_ => XS.iloadN X0.here hx rfl (hb hby d4_5) rfl kq_) ?_
    refine hG _ s₁ _ (mkF m 10 #[.val (.int p1), .val (.int p2)] [(.int p1)]) (fun t kq_ => XS.goto X0.here hx rfl (pc0 := 6) (pc' := 10) rfl (hb hby d4_6) (by decide) (by decide) kq_) ?_
    exact Goes.retI X0 hx hlk hrt (hb hby d4_10) (by decide : 0 ≤ 0) (by decide : 0 ≤ 0) (by (try rw [e0]); exact ⟨by rw [if_neg hc2], N0, rfl⟩)
theorem ef_rmMaxL (m : MethodId) (x0 : Int64) (x1 : Int64) : entryFrame m #[(.long x0), (.long x1)] 4 = mkF m 0 #[.val (.long x0), .second, .val (.long x1), .second] [] := by first | (simp [entryFrame, mkF, argsToLocals, Value.category]; done) | rfl
def Q_rmMaxL (Z : State) (q1 : Int64) (q2 : Int64)  (h0 : Heap) (n0 : Nat) (v : Option Value) (h : Heap) (L : List Loc) : Prop := v = some (.long (if lcmpW q1 q2 < 0 then q2 else q1)) ∧ Fr n0 L ∧ h = h0
set_option maxRecDepth 65536 in
set_option maxHeartbeats 40000000 in
theorem rmMaxL (l : Launch) (Z : State) (a0 : Array Value) (hw : ∀ d ∈ tables_1, d.before a0 Z = true) (ws : List Jvm.Cond) (q1 : Int64) (q2 : Int64) (h0 : Heap) (n0 : Nat) (Z0 : n0 ≤ h0.size) :
    MetFree l (⟨"java/lang/Math", "max", "(JJ)J"⟩ : MethodName) (head1 (Jvm.Cond.code (⟨"java/lang/Math", "max", "(JJ)J"⟩ : MethodName) jdk_29_method_66_code 4 (some .long) :: ws) ({ frames := 0, cells := 0, slots := 0, locals := 0 } : Room)) (fun a U => a = #[(.long q1), (.long q2)] ∧ Z.Warmed39 U.vm ∧ U.heap = h0) (fun _ _ _ _ _ => True) (fun _ U o U' => ∃ v L, o = .returned v ∧ Q_rmMaxL Z q1 q2  h0 n0 v U'.heap L ∧ FrameEnd U o U' L ({ frames := 0, cells := 0, slots := 0, locals := 0 } : Room).cells ({ frames := 0, cells := 0, slots := 0, locals := 0 } : Room).slots) := by
  refine MetFree.of_bodySF (Jvm.Free.JP.mathPlain rfl (by decide +kernel)) hisR ?_
  intro p e s m args below meth c s₁ Bd hml0 hP hK
  obtain ⟨rfl, hZ, hh⟩ := hP
  have hx := Bd.exec
  have hby := Bd.bytes
  have hml : c.maxLocals = 4 := hml0
  have hown : s.vm.findClass "java/lang/Math" = some m.cls := findClass_of_methodNamed Bd.named
  have hnm := (name_of_methodNamed Bd.named Bd.method).1
  have X0 : Stand p l e ({ frames := 0, cells := 0, slots := 0, locals := 0 } : Room) s m #[(.long q1), (.long q2)] below meth c s₁ [] 0 0 := Stand.of_body Bd
  have e0 : s₁.heap = h0 := by rw [← hh, Bd.state]; rfl
  have N0 := Fr.nil n0
  have hlk : meth.locks = false := BodyLoose.notSynchronized Bd
  have hrt := Bd.returns
  have hG := Goes.bk p e below s (fun (v : Option Value) (h : Heap) (L : List Loc) => v = some (.long (if lcmpW q1 q2 < 0 then q2 else q1)) ∧ Fr n0 L ∧ h = h0) 0 0
  show Goes p e below s (fun (v : Option Value) (h : Heap) (L : List Loc) => v = some (.long (if lcmpW q1 q2 < 0 then q2 else q1)) ∧ Fr n0 L ∧ h = h0) 0 0 s₁ (entryFrame m #[(.long q1), (.long q2)] 4)
  rw [ef_rmMaxL m q1 q2]
  refine hG _ s₁ _ (mkF m 1 #[.val (.long q1), .second, .val (.long q2), .second] [(.long q1)]) (fun t kq_ => XS.lloadN X0.here hx rfl (hb hby d6_0) rfl kq_) ?_
  refine hG _ s₁ _ (mkF m 2 #[.val (.long q1), .second, .val (.long q2), .second] [(.long q2), (.long q1)]) (fun t kq_ => XS.lloadN X0.here hx rfl (hb hby d6_1) rfl kq_) ?_
  refine hG _ s₁ _ (mkF m 3 #[.val (.long q1), .second, .val (.long q2), .second] [(.int (lcmpW q1 q2))]) (fun t kq_ => XS.lcmp X0.here hx rfl (hb hby d6_2) rfl kq_) ?_
  by_cases hc3 : (lcmpW q1 q2) < (0 : Int32)
  · refine hG _ s₁ _ (mkF m 10 #[.val (.long q1), .second, .val (.long q2), .second] []) (fun t kq_ => XS.ifYes X0.here hx rfl (pc0 := 3) (pc' := 10) rfl (hb hby d6_3) rfl ((if0 _ _).trans (tlt hc3).1) (by decide) (by decide) kq_) ?_
    refine hG _ s₁ _ (mkF m 11 #[.val (.long q1), .second, .val (.long q2), .second] [(.long q2)]) (fun t kq_ => XS.lloadN X0.here hx rfl (hb hby d6_10) rfl kq_) ?_
    exact Goes.retL X0 hx hlk hrt (hb hby d6_11) (by decide : 0 ≤ 0) (by decide : 0 ≤ 0) (by (try rw [e0]); exact ⟨by rw [if_pos hc3], N0, rfl⟩)
  · refine hG _ s₁ _ (mkF m 6 #[.val (.long q1), .second, .val (.long q2), .second] []) (fun t kq_ => XS.ifNo X0.here hx rfl (hb hby d6_3) rfl ((if0 _ _).trans (flt hc3).1) kq_) ?_
    refine hG _ s₁ _ (mkF m 7 #[.val (.long q1), .second, .val (.long q2), .second] [(.long q1)]) (fun t kq_ => XS.lloadN X0.here hx rfl (hb hby d6_6) rfl kq_) ?_
    refine hG _ s₁ _ (mkF m 11 #[.val (.long q1), .second, .val (.long q2), .second] [(.long q1)]) (fun t kq_ => XS.goto X0.here hx rfl (pc0 := 7) (pc' := 11) rfl (hb hby d6_7) (by decide) (by decide) kq_) ?_
    exact Goes.retL X0 hx hlk hrt (hb hby d6_11) (by decide : 0 ≤ 0) (by decide : 0 ≤ 0) (by (try rw [e0]); exact ⟨by rw [if_neg hc3], N0, rfl⟩)
theorem ef_rmMinL (m : MethodId) (x0 : Int64) (x1 : Int64) : entryFrame m #[(.long x0), (.long x1)] 4 = mkF m 0 #[.val (.long x0), .second, .val (.long x1), .second] [] := by first | (simp [entryFrame, mkF, argsToLocals, Value.category]; done) | rfl
def Q_rmMinL (Z : State) (q1 : Int64) (q2 : Int64)  (h0 : Heap) (n0 : Nat) (v : Option Value) (h : Heap) (L : List Loc) : Prop := v = some (.long (if 0 < lcmpW q1 q2 then q2 else q1)) ∧ Fr n0 L ∧ h = h0
set_option maxRecDepth 65536 in
set_option maxHeartbeats 40000000 in
theorem rmMinL (l : Launch) (Z : State) (a0 : Array Value) (hw : ∀ d ∈ tables_1, d.before a0 Z = true) (ws : List Jvm.Cond) (q1 : Int64) (q2 : Int64) (h0 : Heap) (n0 : Nat) (Z0 : n0 ≤ h0.size) :
    MetFree l (⟨"java/lang/Math", "min", "(JJ)J"⟩ : MethodName) (head1 (Jvm.Cond.code (⟨"java/lang/Math", "min", "(JJ)J"⟩ : MethodName) jdk_29_method_70_code 4 (some .long) :: ws) ({ frames := 0, cells := 0, slots := 0, locals := 0 } : Room)) (fun a U => a = #[(.long q1), (.long q2)] ∧ Z.Warmed39 U.vm ∧ U.heap = h0) (fun _ _ _ _ _ => True) (fun _ U o U' => ∃ v L, o = .returned v ∧ Q_rmMinL Z q1 q2  h0 n0 v U'.heap L ∧ FrameEnd U o U' L ({ frames := 0, cells := 0, slots := 0, locals := 0 } : Room).cells ({ frames := 0, cells := 0, slots := 0, locals := 0 } : Room).slots) := by
  refine MetFree.of_bodySF (Jvm.Free.JP.mathPlain rfl (by decide +kernel)) hisR ?_
  intro p e s m args below meth c s₁ Bd hml0 hP hK
  obtain ⟨rfl, hZ, hh⟩ := hP
  have hx := Bd.exec
  have hby := Bd.bytes
  have hml : c.maxLocals = 4 := hml0
  have hown : s.vm.findClass "java/lang/Math" = some m.cls := findClass_of_methodNamed Bd.named
  have hnm := (name_of_methodNamed Bd.named Bd.method).1
  have X0 : Stand p l e ({ frames := 0, cells := 0, slots := 0, locals := 0 } : Room) s m #[(.long q1), (.long q2)] below meth c s₁ [] 0 0 := Stand.of_body Bd
  have e0 : s₁.heap = h0 := by rw [← hh, Bd.state]; rfl
  have N0 := Fr.nil n0
  have hlk : meth.locks = false := BodyLoose.notSynchronized Bd
  have hrt := Bd.returns
  have hG := Goes.bk p e below s (fun (v : Option Value) (h : Heap) (L : List Loc) => v = some (.long (if 0 < lcmpW q1 q2 then q2 else q1)) ∧ Fr n0 L ∧ h = h0) 0 0
  show Goes p e below s (fun (v : Option Value) (h : Heap) (L : List Loc) => v = some (.long (if 0 < lcmpW q1 q2 then q2 else q1)) ∧ Fr n0 L ∧ h = h0) 0 0 s₁ (entryFrame m #[(.long q1), (.long q2)] 4)
  rw [ef_rmMinL m q1 q2]
  refine hG _ s₁ _ (mkF m 1 #[.val (.long q1), .second, .val (.long q2), .second] [(.long q1)]) (fun t kq_ => XS.lloadN X0.here hx rfl (hb hby d7_0) rfl kq_) ?_
  refine hG _ s₁ _ (mkF m 2 #[.val (.long q1), .second, .val (.long q2), .second] [(.long q2), (.long q1)]) (fun t kq_ => XS.lloadN X0.here hx rfl (hb hby d7_1) rfl kq_) ?_
  refine hG _ s₁ _ (mkF m 3 #[.val (.long q1), .second, .val (.long q2), .second] [(.int (lcmpW q1 q2))]) (fun t kq_ => XS.lcmp X0.here hx rfl (hb hby d7_2) rfl kq_) ?_
  by_cases hc3 : (0 : Int32) < (lcmpW q1 q2)
  · refine hG _ s₁ _ (mkF m 10 #[.val (.long q1), .second, .val (.long q2), .second] []) (fun t kq_ => XS.ifYes X0.here hx rfl (pc0 := 3) (pc' := 10) rfl (hb hby d7_3) rfl ((if0 _ _).trans (tlt hc3).2.2.1) (by decide) (by decide) kq_) ?_
    refine hG _ s₁ _ (mkF m 11 #[.val (.long q1), .second, .val (.long q2), .second] [(.long q2)]) (fun t kq_ => XS.lloadN X0.here hx rfl (hb hby d7_10) rfl kq_) ?_
    exact Goes.retL X0 hx hlk hrt (hb hby d7_11) (by decide : 0 ≤ 0) (by decide : 0 ≤ 0) (by (try rw [e0]); exact ⟨by rw [if_pos hc3], N0, rfl⟩)
  · refine hG _ s₁ _ (mkF m 6 #[.val (.long q1), .second, .val (.long q2), .second] []) (fun t kq_ => XS.ifNo X0.here hx rfl (hb hby d7_3) rfl ((if0 _ _).trans (flt hc3).2.2.1) kq_) ?_
    refine hG _ s₁ _ (mkF m 7 #[.val (.long q1), .second, .val (.long q2), .second] [(.long q1)]) (fun t kq_ => XS.lloadN X0.here hx rfl (hb hby d7_6) rfl kq_) ?_
    refine hG _ s₁ _ (mkF m 11 #[.val (.long q1), .second, .val (.long q2), .second] [(.long q1)]) (fun t kq_ => XS.goto X0.here hx rfl (pc0 := 7) (pc' := 11) rfl (hb hby d7_7) (by decide) (by decide) kq_) ?_
    exact Goes.retL X0 hx hlk hrt (hb hby d7_11) (by decide : 0 ≤ 0) (by decide : 0 ≤ 0) (by (try rw [e0]); exact ⟨by rw [if_neg hc3], N0, rfl⟩)
theorem own_min {x y : Int32} {a b : Nat} (hx : x.toInt = (a : Int)) (hy : y.toInt = (b : Int)) : ∃ k : Nat, (if y < x then y else x).toInt = (k : Int) ∧ k ≤ a ∧ k ≤ b ∧ (k = a ∨ k = b) := by
  by_cases q : y < x
  · rw [if_pos q]; rw [Int32.lt_iff_toInt_lt, hx, hy] at q; exact ⟨b, hy, by omega, by omega, by omega⟩
  · rw [if_neg q]; rw [Int32.lt_iff_toInt_lt, hx, hy] at q; exact ⟨a, hx, by omega, by omega, by omega⟩
theorem own_eqi {x : Int32} {n : Nat} (h : x.toInt = (n : Int)) : x = Nat.toInt32 n := by
  have := x.toInt_lt
  exact Int32.toInt_inj.mp (by rw [own_ti (by omega)]; exact h)
theorem own_ltn {x y : Int32} {a b : Nat} (hx : x.toInt = (a : Int)) (hy : y.toInt = (b : Int)) : x < y ↔ a < b := by
  rw [Int32.lt_iff_toInt_lt, hx, hy]; omega
theorem own_add {x y : Int32} {a b : Nat} (hx : x.toInt = (a : Int)) (hy : y.toInt = (b : Int)) (h : a + b < 1000) : (x + y).toInt = ((a + b : Nat) : Int) := by
  have := c_iadd x y; have := rng32 (x + y); omega
theorem own_sub {x y : Int32} {a b : Nat} (hx : x.toInt = (a : Int)) (hy : y.toInt = (b : Int)) (h : b ≤ a) : (x - y).toInt = ((a - b : Nat) : Int) := by
  have := c_isub x y; have := rng32 (x - y); have := rng32 x; omega
theorem own_nby {x : Int32} (h : fits .byte (.int x) = true) : nar .byte x = x := by
  obtain ⟨h1, h2⟩ := rng_byte h
  have h3 := c_i2b x
  rw [Int32.lt_iff_toInt_lt] at h1 h2
  have e1 : (-128 : Int32).toInt = -128 := rfl
  have e2 : (127 : Int32).toInt = 127 := rfl
  refine Int32.toInt_inj.mp ?_
  show x.toInt8.toInt32.toInt = x.toInt
  omega
theorem own_cap {n nd lm : Nat} {p2 li : Int32} (hn : n ≤ 9) (hnd : p2.toInt = (nd : Int)) (hlm : li.toInt = (lm : Int)) (h1 : nd ≤ lm) (h9 : lm ≤ 9) : ∃ k : Nat,
    ((if 0 < lcmpW (if lcmpW ((2 : Int64) * ((Nat.toInt32 n).toInt64)) (p2.toInt64) < 0 then (p2.toInt64) else ((2 : Int64) * ((Nat.toInt32 n).toInt64))) (li.toInt64) then (li.toInt64) else (if lcmpW ((2 : Int64) * ((Nat.toInt32 n).toInt64)) (p2.toInt64) < 0 then (p2.toInt64) else ((2 : Int64) * ((Nat.toInt32 n).toInt64)))).toInt32).toInt = (k : Int) ∧ nd ≤ k ∧ k ≤ lm := by
  have e1 : (p2.toInt64).toInt = nd := by rw [c_i2l]; exact hnd
  have e2 : (li.toInt64).toInt = lm := by rw [c_i2l]; exact hlm
  have e3 : ((2 : Int64) * ((Nat.toInt32 n).toInt64)).toInt = ((2 * n : Nat) : Int) := by
    have h1 := c_lmul 2 ((Nat.toInt32 n).toInt64)
    have h2 := rng64 ((2 : Int64) * ((Nat.toInt32 n).toInt64))
    have h3 : ((Nat.toInt32 n).toInt64).toInt = n := by rw [c_i2l]; exact own_ti (by omega)
    have h4 : (2 : Int64).toInt = 2 := rfl
    rw [h3, h4] at h1
    omega
  generalize ((2 : Int64) * ((Nat.toInt32 n).toInt64)) = u at *
  generalize (p2.toInt64) = w at *
  generalize (li.toInt64) = z at *
  have hM : ∃ k : Nat, (if lcmpW u w < 0 then w else u).toInt = (k : Int) ∧ nd ≤ k ∧ k ≤ 18 := by
    by_cases q : lcmpW u w < 0
    · rw [if_pos q]; exact ⟨nd, e1, by omega, by omega⟩
    · rw [if_neg q]; rw [lw_lt, Int64.lt_iff_toInt_lt] at q; exact ⟨2 * n, e3, by omega, by omega⟩
  generalize (if lcmpW u w < 0 then w else u) = M at *
  obtain ⟨k, hk, hk1, hk2⟩ := hM
  have conv : ∀ (x : Int64) (k : Nat), x.toInt = (k : Int) → k ≤ 18 → x.toInt32.toInt = (k : Int) := fun x k h1 h2 => by
    have := c_l2i x; have := rng32 x.toInt32; omega
  by_cases q : 0 < lcmpW M z
  · rw [if_pos q]; exact ⟨lm, conv _ _ e2 (by omega), h1, Nat.le_refl _⟩
  · rw [if_neg q]; rw [lw_gt, Int64.lt_iff_toInt_lt] at q; exact ⟨k, conv _ _ hk hk2, hk1, by omega⟩
theorem ef_rmCopy (m : MethodId) (x0 : Addr) (x1 : Int32) : entryFrame m #[(.ref x0), (.int x1)] 3 = mkF m 0 #[.val (.ref x0), .val (.int x1), .unset] [] := by first | (simp [entryFrame, mkF, argsToLocals, Value.category]; done) | rfl
theorem pn_rmCopy : plainName "java/util/Arrays" = true := by first | (simp [plainName, overriddenIn]; done) | decide +kernel
def Q_rmCopy (Z : State) (a1 : Addr) (p2 : Int32) (n k : Nat) (f : Nat → Int32) (h0 : Heap) (n0 : Nat) (v : Option Value) (h : Heap) (L : List Loc) : Prop := ∃ r, v = some (.ref r) ∧ Fr n0 L ∧ Keep h0 h [] ∧ h0.size ≤ r ∧ Ab Z h r k (fun i => if i < n then f i else 0)
set_option maxRecDepth 65536 in
set_option maxHeartbeats 40000000 in
theorem rmCopy (l : Launch) (Z : State) (a0 : Array Value) (hw : ∀ d ∈ tables_1, d.before a0 Z = true) (ws : List Jvm.Cond) (a1 : Addr) (p2 : Int32) (h0 : Heap) (n0 : Nat) (Z0 : n0 ≤ h0.size) (n k : Nat) (f : Nat → Int32) (V1 : Ab Z h0 a1 n f) (hk : p2.toInt = (k : Int)) (hk9 : k ≤ 9) (hn9 : n ≤ 9) :
    MetFree l (⟨"java/util/Arrays", "copyOf", "([BI)[B"⟩ : MethodName) (head1 (Jvm.Cond.code (⟨"java/util/Arrays", "copyOf", "([BI)[B"⟩ : MethodName) jdk_65_method_121_code 3 (some (.array .byte)) :: ws) ({ frames := 1, cells := 1, slots := 9, locals := 18 } : Room)) (fun a U => a = #[(.ref a1), (.int p2)] ∧ Z.Warmed39 U.vm ∧ U.heap = h0) (fun _ _ _ _ _ => True) (fun _ U o U' => ∃ v L, o = .returned v ∧ Q_rmCopy Z a1 p2 n k f h0 n0 v U'.heap L ∧ FrameEnd U o U' L ({ frames := 1, cells := 1, slots := 9, locals := 18 } : Room).cells ({ frames := 1, cells := 1, slots := 9, locals := 18 } : Room).slots) := by
  refine MetFree.of_bodySF (plainFor_of_name pn_rmCopy) hisR ?_
  intro p e s m args below meth c s₁ Bd hml0 hP hK
  obtain ⟨rfl, hZ, hh⟩ := hP
  have hx := Bd.exec
  have hby := Bd.bytes
  have hml : c.maxLocals = 3 := hml0
  have hown : s.vm.findClass "java/util/Arrays" = some m.cls := findClass_of_methodNamed Bd.named
  have hnm := (name_of_methodNamed Bd.named Bd.method).1
  have X0 : Stand p l e ({ frames := 1, cells := 1, slots := 9, locals := 18 } : Room) s m #[(.ref a1), (.int p2)] below meth c s₁ [] 0 0 := Stand.of_body Bd
  have e0 : s₁.heap = h0 := by rw [← hh, Bd.state]; rfl
  have N0 := Fr.nil n0
  have hlk : meth.locks = false := BodyLoose.notSynchronized Bd
  have hrt := Bd.returns
  have hG := Goes.bk p e below s (fun (v : Option Value) (h : Heap) (L : List Loc) => ∃ r, v = some (.ref r) ∧ Fr n0 L ∧ Keep h0 h [] ∧ h0.size ≤ r ∧ Ab Z h r k (fun i => if i < n then f i else 0)) 1 9
  show Goes p e below s (fun (v : Option Value) (h : Heap) (L : List Loc) => ∃ r, v = some (.ref r) ∧ Fr n0 L ∧ Keep h0 h [] ∧ h0.size ≤ r ∧ Ab Z h r k (fun i => if i < n then f i else 0)) 1 9 s₁ (entryFrame m #[(.ref a1), (.int p2)] 3)
  rw [ef_rmCopy m a1 p2]
  have K0 : Keep h0 h0 [] := Keep.refl h0 []
  refine hG _ s₁ _ (mkF m 1 #[.val (.ref a1), .val (.int p2), .unset] [(.int p2)]) (fun t kq_ => XS.iloadN X0.here hx rfl (hb hby d8_0) rfl kq_) ?_
  refine hG _ s₁ _ (mkF m 2 #[.val (.ref a1), .val (.int p2), .unset] [(.ref a1), (.int p2)]) (fun t kq_ => XS.aloadN X0.here hx rfl (hb hby d8_1) rfl rfl kq_) ?_
  refine hG _ s₁ _ (mkF m 3 #[.val (.ref a1), .val (.int p2), .unset] [(.int (Nat.toInt32 n)), (.int p2)]) (Av.len X0 hx hZ e0 V1.1 (g := (mkF m 2 #[.val (.ref a1), .val (.int p2), .unset] [(.ref a1), (.int p2)])) rfl rfl (hb hby d8_2)) ?_
  have hnt : (Nat.toInt32 n).toInt = (n : Int) := own_ti (by omega)
  by_cases hc3 : p2 = (Nat.toInt32 n)
  · refine hG _ s₁ _ (mkF m 6 #[.val (.ref a1), .val (.int p2), .unset] []) (fun t kq_ => XS.icmpNo X0.here hx rfl (hb hby d8_3) rfl (teq hc3).2 kq_) ?_
    have hkn : k = n := by rw [hc3, hnt] at hk; omega
    refine hG _ s₁ _ (mkF m 7 #[.val (.ref a1), .val (.int p2), .unset] [(.ref a1)]) (fun t kq_ => XS.aloadN X0.here hx rfl (hb hby d8_6) rfl rfl kq_) ?_
    obtain ⟨T101, h101, X101, e101, E101, V101, st101⟩ := Ab.clone X0 hx hZ hown (tw55 hw) (tw56 hw) (tw60 hw) (tw58 hw) (tw59 hw) (tw61 hw) e0 V1 (g := (mkF m 7 #[.val (.ref a1), .val (.int p2), .unset] [(.ref a1)])) rfl (by rw [hml]; rfl) rfl (hb hby d8_7) (by decide) (W := 0) (cap := 9) (by show 2 * 0 + _ ≤ _; exact Nat.le_of_eq rfl) (by decide) hn9 (by decide) (by decide)
    obtain ⟨b101, g101⟩ : ∃ z, z = h0.size := ⟨_, rfl⟩
    rw [← g101] at V101 st101
    have ne_a1_b101 : a1 ≠ b101 := Nat.ne_of_lt (Nat.lt_of_lt_of_le V1.lt (Nat.le_of_eq g101.symm))
    have g_b101 : n0 ≤ b101 := Nat.le_trans Z0 (Nat.le_of_eq g101.symm)
    have sz_b101 : h0.size ≤ b101 := Nat.le_trans K0.1 (Nat.le_of_eq g101.symm)
    have Zs102 : n0 ≤ h101.size := Nat.le_trans Z0 E101.1
    have KK103 : Keep h0 h101 [] := K0.ext E101
    refine hG _ T101 _ (mkF m 10 #[.val (.ref a1), .val (.int p2), .unset] [(.ref b101)]) st101 ?_
    obtain ⟨T104, X104, e104, st104⟩ := castY X101 hx hZ hown (tw62 hw) e101 (Ins.self V101.2.1) (g := (mkF m 10 #[.val (.ref a1), .val (.int p2), .unset] [(.ref b101)])) rfl rfl (hb hby d8_10)
    refine hG _ T104 _ (mkF m 13 #[.val (.ref a1), .val (.int p2), .unset] [(.ref b101)]) st104 ?_
    exact Goes.retA X104 hx hlk (t := (.array .byte)) rfl hrt (hb hby d8_13) (by decide : 1 ≤ 1) (by decide : 9 ≤ 9) (by (try rw [e104]); exact ⟨_, rfl, N0, KK103, sz_b101, by rw [hkn]; exact V101.cong (fun i hi => (if_pos hi).symm)⟩)
  · refine hG _ s₁ _ (mkF m 14 #[.val (.ref a1), .val (.int p2), .unset] []) (fun t kq_ => XS.icmpYes X0.here hx rfl (pc0 := 3) (pc' := 14) rfl (hb hby d8_3) rfl (feq hc3).2 (by decide) (by decide) kq_) ?_
    refine hG _ s₁ _ (mkF m 15 #[.val (.ref a1), .val (.int p2), .unset] [(.int p2)]) (fun t kq_ => XS.iloadN X0.here hx rfl (hb hby d8_14) rfl kq_) ?_
    have hz105 : p2.toInt = ((k : Nat) : Int) := hk
    obtain ⟨T105, h105, X105, e105, E105, V105, st105⟩ := Ab.new X0 hx hZ (tw1 hw) e0 (g := (mkF m 15 #[.val (.ref a1), .val (.int p2), .unset] [(.int p2)])) rfl (hb hby d8_15) rfl hz105 (cap := 9) hk9 (by decide) (by decide) (by decide)
    obtain ⟨b105, g105⟩ : ∃ z, z = h0.size := ⟨_, rfl⟩
    rw [← g105] at V105 st105
    have ne_a1_b105 : a1 ≠ b105 := Nat.ne_of_lt (Nat.lt_of_lt_of_le V1.lt (Nat.le_of_eq g105.symm))
    have g_b105 : n0 ≤ b105 := Nat.le_trans Z0 (Nat.le_of_eq g105.symm)
    have sz_b105 : h0.size ≤ b105 := Nat.le_trans K0.1 (Nat.le_of_eq g105.symm)
    have Zs106 : n0 ≤ h105.size := Nat.le_trans Z0 E105.1
    have KK107 : Keep h0 h105 [] := K0.ext E105
    refine hG _ T105 _ (mkF m 17 #[.val (.ref a1), .val (.int p2), .unset] [(.ref b105)]) st105 ?_
    refine hG _ T105 _ (mkF m 18 #[.val (.ref a1), .val (.int p2), .val (.ref b105)] []) (fun t kq_ => XS.astoreN X105.here hx rfl (hb hby d8_17) rfl rfl (l' := #[.val (.ref a1), .val (.int p2), .val (.ref b105)]) rfl kq_) ?_
    refine hG _ T105 _ (mkF m 19 #[.val (.ref a1), .val (.int p2), .val (.ref b105)] [(.ref a1)]) (fun t kq_ => XS.aloadN X105.here hx rfl (hb hby d8_18) rfl rfl kq_) ?_
    refine hG _ T105 _ (mkF m 20 #[.val (.ref a1), .val (.int p2), .val (.ref b105)] [(.int (0 : Int32)), (.ref a1)]) (fun t kq_ => XS.iconst X105.here hx rfl (hb hby d8_19) kq_) ?_
    refine hG _ T105 _ (mkF m 21 #[.val (.ref a1), .val (.int p2), .val (.ref b105)] [(.ref b105), (.int (0 : Int32)), (.ref a1)]) (fun t kq_ => XS.aloadN X105.here hx rfl (hb hby d8_20) rfl rfl kq_) ?_
    refine hG _ T105 _ (mkF m 22 #[.val (.ref a1), .val (.int p2), .val (.ref b105)] [(.int (0 : Int32)), (.ref b105), (.int (0 : Int32)), (.ref a1)]) (fun t kq_ => XS.iconst X105.here hx rfl (hb hby d8_21) kq_) ?_
    refine hG _ T105 _ (mkF m 23 #[.val (.ref a1), .val (.int p2), .val (.ref b105)] [(.ref a1), (.int (0 : Int32)), (.ref b105), (.int (0 : Int32)), (.ref a1)]) (fun t kq_ => XS.aloadN X105.here hx rfl (hb hby d8_22) rfl rfl kq_) ?_
    have V1'108 : Ab Z h105 a1 n f := (V1.ext E105)
    refine hG _ T105 _ (mkF m 24 #[.val (.ref a1), .val (.int p2), .val (.ref b105)] [(.int (Nat.toInt32 n)), (.int (0 : Int32)), (.ref b105), (.int (0 : Int32)), (.ref a1)]) (Av.len X105 hx hZ e105 V1'108.1 (g := (mkF m 23 #[.val (.ref a1), .val (.int p2), .val (.ref b105)] [(.ref a1), (.int (0 : Int32)), (.ref b105), (.int (0 : Int32)), (.ref a1)])) rfl rfl (hb hby d8_23)) ?_
    refine hG _ T105 _ (mkF m 25 #[.val (.ref a1), .val (.int p2), .val (.ref b105)] [(.int p2), (.int (Nat.toInt32 n)), (.int (0 : Int32)), (.ref b105), (.int (0 : Int32)), (.ref a1)]) (fun t kq_ => XS.iloadN X105.here hx rfl (hb hby d8_24) rfl kq_) ?_
    obtain ⟨_, _, ⟨T109, L109, k109, n109⟩, -, X109, ⟨Lc109, hQ109, l109, y109, z109⟩, st109⟩ := Jvm.LawKit.callS X105 hx (y := (⟨"java/lang/Math", "min", "(II)I"⟩ : MethodName)) hown (mvT hZ (tw41 hw)) (mvT hZ (tw23 hw)) (mvT hZ (tw24 hw)) (mvT hZ (tw25 hw)) (by decide) (backOf (W := 4) (rmMin l Z a0 hw [] (Nat.toInt32 n) p2 h105 n0 Zs106) hZ (tw25 hw) (tw24 hw) (by decide) (by decide)) (g := (mkF m 25 #[.val (.ref a1), .val (.int p2), .val (.ref b105)] [(.int p2), (.int (Nat.toInt32 n)), (.int (0 : Int32)), (.ref b105), (.int (0 : Int32)), (.ref a1)])) rfl (by rw [hml]; rfl) (argsL := [(.int (Nat.toInt32 n)), (.int p2)]) (rest := [(.int (0 : Int32)), (.ref b105), (.int (0 : Int32)), (.ref a1)]) (lenOf pd_0 rfl) rfl (by show 2 * 0 + _ ≤ _; exact Nat.le_of_eq rfl) (hb hby d8_25) (fun _ _ => ⟨rfl, e105, (by decide : 1 + 0 ≤ _), (by decide : 9 + 0 ≤ _)⟩)
    dsimp only [Pt.U, Pt.locs, Pt.cells, Pt.slots] at X109 l109 y109 z109 st109 hQ109
    subst l109 y109 z109
    obtain ⟨rfl, N109q, hh1⟩ := hQ109
    have N109 := Fr.app N0 N109q
    have e109 : T109.heap = h105 := hh1
    refine hG _ T109 _ (mkF m 28 #[.val (.ref a1), .val (.int p2), .val (.ref b105)] [(.int (if p2 < (Nat.toInt32 n) then p2 else (Nat.toInt32 n))), (.int (0 : Int32)), (.ref b105), (.int (0 : Int32)), (.ref a1)]) (fun t kq_ => st109 _ kq_) ?_
    obtain ⟨mn, hmn, hm1, hm2, hm3⟩ := own_min hnt hk
    obtain ⟨T110, h110, L110, X110, e110, N110, K110, V110, st110⟩ := Ab.copy X109 hx hZ hown (tw42 hw) (tw45 hw) (tw43 hw) (tw44 hw) e109 V1'108 V105 (i := 0) (j := 0) (k := mn) rfl rfl hmn (by omega) (by omega) N109 g_b105 (g := (mkF m 28 #[.val (.ref a1), .val (.int p2), .val (.ref b105)] [(.int (if p2 < (Nat.toInt32 n) then p2 else (Nat.toInt32 n))), (.int (0 : Int32)), (.ref b105), (.int (0 : Int32)), (.ref a1)])) rfl (by rw [hml]; rfl) rfl (hb hby d8_28) (by decide) (W := 0) (by show 2 * 0 + _ ≤ _; exact Nat.le_of_eq rfl) (by decide)
    have Zs111 : n0 ≤ h110.size := Nat.le_trans Zs106 K110.1
    have KK112 : Keep h0 h110 [] := KK107.trans K110 (allS (P := fun x => x ∈ [] ∨ h0.size ≤ x) (Or.inr sz_b105) all0)
    refine hG _ T110 _ (mkF m 31 #[.val (.ref a1), .val (.int p2), .val (.ref b105)] []) st110 ?_
    refine hG _ T110 _ (mkF m 32 #[.val (.ref a1), .val (.int p2), .val (.ref b105)] [(.ref b105)]) (fun t kq_ => XS.aloadN X110.here hx rfl (hb hby d8_31) rfl rfl kq_) ?_
    exact Goes.retA X110 hx hlk (t := (.array .byte)) rfl hrt (hb hby d8_32) (by decide : 1 ≤ 1) (by decide : 9 ≤ 9) (by (try rw [e110]); exact ⟨_, rfl, N110, KK112, sz_b105, V110.cong (fun i hi => by by_cases q : i < n <;> simp [q] <;> omega)⟩)
theorem ef_rmG (m : MethodId) (x0 : Addr) (x1 : Int32) : entryFrame m #[(.ref x0), (.int x1)] 5 = mkF m 0 #[.val (.ref x0), .val (.int x1), .unset, .unset, .unset] [] := by first | (simp [entryFrame, mkF, argsToLocals, Value.category]; done) | rfl
theorem pn_rmG : plainName "com/example/tools_to_sandbox/toolstosandbox/service/OutputCapture" = true := by first | (simp [plainName, overriddenIn]; done) | decide +kernel
def Q_rmG (Z : State) (a1 : Addr) (p2 : Int32) (li : Int32) (usz utr : Value) (ba : Addr) (n nd lm : Nat) (f : Nat → Int32) (h0 : Heap) (n0 : Nat) (v : Option Value) (h : Heap) (L : List Loc) : Prop := v = none ∧ Fr n0 L ∧ Keep h0 h [a1] ∧ ∃ (bb : Addr) (k : Nat), n0 ≤ bb ∧ h0.size ≤ bb ∧ nd ≤ k ∧ k ≤ lm ∧ Fld Z h a1 "com/example/tools_to_sandbox/toolstosandbox/service/OutputCapture" "bytes" "[B" (.ref bb) ∧ Fld Z h a1 "com/example/tools_to_sandbox/toolstosandbox/service/OutputCapture" "limit" "I" (.int li) ∧ Fld Z h a1 "com/example/tools_to_sandbox/toolstosandbox/service/OutputCapture" "size" "I" usz ∧ Fld Z h a1 "com/example/tools_to_sandbox/toolstosandbox/service/OutputCapture" "truncated" "Z" utr ∧ Ab Z h bb k (fun i => if i < n then f i else 0)
set_option maxRecDepth 65536 in
set_option maxHeartbeats 40000000 in
theorem rmG (l : Launch) (Z : State) (a0 : Array Value) (hw : ∀ d ∈ tables_1, d.before a0 Z = true) (ws : List Jvm.Cond) (a1 : Addr) (p2 : Int32) (h0 : Heap) (n0 : Nat) (Z0 : n0 ≤ h0.size) (li : Int32) (usz utr : Value) (ba : Addr) (n nd lm : Nat) (f : Nat → Int32) (E1 : Exa Z h0 a1 "com/example/tools_to_sandbox/toolstosandbox/service/OutputCapture") (g1 : n0 ≤ a1) (F_bytes : Fld Z h0 a1 "com/example/tools_to_sandbox/toolstosandbox/service/OutputCapture" "bytes" "[B" (.ref ba)) (F_limit : Fld Z h0 a1 "com/example/tools_to_sandbox/toolstosandbox/service/OutputCapture" "limit" "I" (.int li)) (F_size : Fld Z h0 a1 "com/example/tools_to_sandbox/toolstosandbox/service/OutputCapture" "size" "I" usz) (F_truncated : Fld Z h0 a1 "com/example/tools_to_sandbox/toolstosandbox/service/OutputCapture" "truncated" "Z" utr) (V1 : Ab Z h0 ba n f) (ne1 : a1 ≠ ba) (hn9 : n ≤ 9) (hnd : p2.toInt = (nd : Int)) (hlm : li.toInt = (lm : Int)) (hnl : nd ≤ lm) (h9 : lm ≤ 9) :
    MetFree l (⟨"com/example/tools_to_sandbox/toolstosandbox/service/OutputCapture", "grow", "(I)V"⟩ : MethodName) (head1 (Jvm.Cond.code (⟨"com/example/tools_to_sandbox/toolstosandbox/service/OutputCapture", "grow", "(I)V"⟩ : MethodName) prog_89_method_5_code 5 none :: ws) ({ frames := 2, cells := 1, slots := 9, locals := 33 } : Room)) (fun a U => a = #[(.ref a1), (.int p2)] ∧ Z.Warmed39 U.vm ∧ U.heap = h0) (fun _ _ _ _ _ => True) (fun _ U o U' => ∃ v L, o = .returned v ∧ Q_rmG Z a1 p2 li usz utr ba n nd lm f h0 n0 v U'.heap L ∧ FrameEnd U o U' L ({ frames := 2, cells := 1, slots := 9, locals := 33 } : Room).cells ({ frames := 2, cells := 1, slots := 9, locals := 33 } : Room).slots) := by
  refine MetFree.of_bodySF (plainFor_of_name pn_rmG) hisR ?_
  intro p e s m args below meth c s₁ Bd hml0 hP hK
  obtain ⟨rfl, hZ, hh⟩ := hP
  have hx := Bd.exec
  have hby := Bd.bytes
  have hml : c.maxLocals = 5 := hml0
  have hown : s.vm.findClass "com/example/tools_to_sandbox/toolstosandbox/service/OutputCapture" = some m.cls := findClass_of_methodNamed Bd.named
  have hnm := (name_of_methodNamed Bd.named Bd.method).1
  have X0 : Stand p l e ({ frames := 2, cells := 1, slots := 9, locals := 33 } : Room) s m #[(.ref a1), (.int p2)] below meth c s₁ [] 0 0 := Stand.of_body Bd
  have e0 : s₁.heap = h0 := by rw [← hh, Bd.state]; rfl
  have N0 := Fr.nil n0
  have hlk : meth.locks = false := BodyLoose.notSynchronized Bd
  have hrt := Bd.returns
  have hG := Goes.bk p e below s (fun (v : Option Value) (h : Heap) (L : List Loc) => v = none ∧ Fr n0 L ∧ Keep h0 h [a1] ∧ ∃ (bb : Addr) (k : Nat), n0 ≤ bb ∧ h0.size ≤ bb ∧ nd ≤ k ∧ k ≤ lm ∧ Fld Z h a1 "com/example/tools_to_sandbox/toolstosandbox/service/OutputCapture" "bytes" "[B" (.ref bb) ∧ Fld Z h a1 "com/example/tools_to_sandbox/toolstosandbox/service/OutputCapture" "limit" "I" (.int li) ∧ Fld Z h a1 "com/example/tools_to_sandbox/toolstosandbox/service/OutputCapture" "size" "I" usz ∧ Fld Z h a1 "com/example/tools_to_sandbox/toolstosandbox/service/OutputCapture" "truncated" "Z" utr ∧ Ab Z h bb k (fun i => if i < n then f i else 0)) 1 9
  show Goes p e below s (fun (v : Option Value) (h : Heap) (L : List Loc) => v = none ∧ Fr n0 L ∧ Keep h0 h [a1] ∧ ∃ (bb : Addr) (k : Nat), n0 ≤ bb ∧ h0.size ≤ bb ∧ nd ≤ k ∧ k ≤ lm ∧ Fld Z h a1 "com/example/tools_to_sandbox/toolstosandbox/service/OutputCapture" "bytes" "[B" (.ref bb) ∧ Fld Z h a1 "com/example/tools_to_sandbox/toolstosandbox/service/OutputCapture" "limit" "I" (.int li) ∧ Fld Z h a1 "com/example/tools_to_sandbox/toolstosandbox/service/OutputCapture" "size" "I" usz ∧ Fld Z h a1 "com/example/tools_to_sandbox/toolstosandbox/service/OutputCapture" "truncated" "Z" utr ∧ Ab Z h bb k (fun i => if i < n then f i else 0)) 1 9 s₁ (entryFrame m #[(.ref a1), (.int p2)] 5)
  rw [ef_rmG m a1 p2]
  have K0 : Keep h0 h0 [a1] := Keep.refl h0 [a1]
  refine hG _ s₁ _ (mkF m 3 #[.val (.ref a1), .val (.int p2), .unset, .unset, .unset] [(.long (2 : Int64))]) (X0.ldc2Long hx hown (mvT hZ (tw30 hw)) (g := (mkF m 0 #[.val (.ref a1), .val (.int p2), .unset, .unset, .unset] [])) rfl (hb hby d5_0)) ?_
  refine hG _ s₁ _ (mkF m 4 #[.val (.ref a1), .val (.int p2), .unset, .unset, .unset] [(.ref a1), (.long (2 : Int64))]) (fun t kq_ => XS.aloadN X0.here hx rfl (hb hby d5_3) rfl rfl kq_) ?_
  obtain ⟨T113, X113, e113, st113⟩ := getF X0 hx hZ hown (host := "") (Or.inl (tw11 hw)) Via.refl e0 F_bytes (g := (mkF m 4 #[.val (.ref a1), .val (.int p2), .unset, .unset, .unset] [(.ref a1), (.long (2 : Int64))])) rfl rfl (hb hby d5_4)
  refine hG _ T113 _ (mkF m 7 #[.val (.ref a1), .val (.int p2), .unset, .unset, .unset] [(.ref ba), (.long (2 : Int64))]) st113 ?_
  refine hG _ T113 _ (mkF m 8 #[.val (.ref a1), .val (.int p2), .unset, .unset, .unset] [(.int (Nat.toInt32 n)), (.long (2 : Int64))]) (Av.len X113 hx hZ e113 V1.1 (g := (mkF m 7 #[.val (.ref a1), .val (.int p2), .unset, .unset, .unset] [(.ref ba), (.long (2 : Int64))])) rfl rfl (hb hby d5_7)) ?_
  refine hG _ T113 _ (mkF m 9 #[.val (.ref a1), .val (.int p2), .unset, .unset, .unset] [(.long ((Nat.toInt32 n).toInt64)), (.long (2 : Int64))]) (fun t kq_ => XS.i2l X113.here hx rfl (hb hby d5_8) rfl kq_) ?_
  refine hG _ T113 _ (mkF m 10 #[.val (.ref a1), .val (.int p2), .unset, .unset, .unset] [(.long ((2 : Int64) * ((Nat.toInt32 n).toInt64)))]) (fun t kq_ => XS.lmul X113.here hx rfl (hb hby d5_9) rfl kq_) ?_
  refine hG _ T113 _ (mkF m 11 #[.val (.ref a1), .val (.int p2), .val (.long ((2 : Int64) * ((Nat.toInt32 n).toInt64))), .second, .unset] []) (fun t kq_ => XS.lstoreN X113.here hx rfl (hb hby d5_10) rfl (l' := #[.val (.ref a1), .val (.int p2), .val (.long ((2 : Int64) * ((Nat.toInt32 n).toInt64))), .second, .unset]) rfl kq_) ?_
  refine hG _ T113 _ (mkF m 12 #[.val (.ref a1), .val (.int p2), .val (.long ((2 : Int64) * ((Nat.toInt32 n).toInt64))), .second, .unset] [(.long ((2 : Int64) * ((Nat.toInt32 n).toInt64)))]) (fun t kq_ => XS.lloadN X113.here hx rfl (hb hby d5_11) rfl kq_) ?_
  refine hG _ T113 _ (mkF m 13 #[.val (.ref a1), .val (.int p2), .val (.long ((2 : Int64) * ((Nat.toInt32 n).toInt64))), .second, .unset] [(.int p2), (.long ((2 : Int64) * ((Nat.toInt32 n).toInt64)))]) (fun t kq_ => XS.iloadN X113.here hx rfl (hb hby d5_12) rfl kq_) ?_
  refine hG _ T113 _ (mkF m 14 #[.val (.ref a1), .val (.int p2), .val (.long ((2 : Int64) * ((Nat.toInt32 n).toInt64))), .second, .unset] [(.long (p2.toInt64)), (.long ((2 : Int64) * ((Nat.toInt32 n).toInt64)))]) (fun t kq_ => XS.i2l X113.here hx rfl (hb hby d5_13) rfl kq_) ?_
  obtain ⟨_, _, ⟨T114, L114, k114, n114⟩, -, X114, ⟨Lc114, hQ114, l114, y114, z114⟩, st114⟩ := Jvm.LawKit.callS X113 hx (y := (⟨"java/lang/Math", "max", "(JJ)J"⟩ : MethodName)) hown (mvT hZ (tw31 hw)) (mvT hZ (tw32 hw)) (mvT hZ (tw24 hw)) (mvT hZ (tw33 hw)) (by decide) (backOf (W := 0) (rmMaxL l Z a0 hw [] ((2 : Int64) * ((Nat.toInt32 n).toInt64)) (p2.toInt64) h0 n0 Z0) hZ (tw33 hw) (tw24 hw) (by decide) (by decide)) (g := (mkF m 14 #[.val (.ref a1), .val (.int p2), .val (.long ((2 : Int64) * ((Nat.toInt32 n).toInt64))), .second, .unset] [(.long (p2.toInt64)), (.long ((2 : Int64) * ((Nat.toInt32 n).toInt64)))])) rfl (by rw [hml]; rfl) (argsL := [(.long ((2 : Int64) * ((Nat.toInt32 n).toInt64))), (.long (p2.toInt64))]) (rest := []) (lenOf pd_1 rfl) rfl (by show 2 * 0 + _ ≤ _; exact Nat.le_of_eq rfl) (hb hby d5_14) (fun _ _ => ⟨rfl, e113, (by decide : 0 + 0 ≤ _), (by decide : 0 + 0 ≤ _)⟩)
  dsimp only [Pt.U, Pt.locs, Pt.cells, Pt.slots] at X114 l114 y114 z114 st114 hQ114
  subst l114 y114 z114
  obtain ⟨rfl, N114q, hq1⟩ := hQ114
  have N114 := Fr.app N0 N114q
  have e114 : T114.heap = h0 := hq1
  refine hG _ T114 _ (mkF m 17 #[.val (.ref a1), .val (.int p2), .val (.long ((2 : Int64) * ((Nat.toInt32 n).toInt64))), .second, .unset] [(.long (if lcmpW ((2 : Int64) * ((Nat.toInt32 n).toInt64)) (p2.toInt64) < 0 then (p2.toInt64) else ((2 : Int64) * ((Nat.toInt32 n).toInt64))))]) (fun t kq_ => st114 _ kq_) ?_
  refine hG _ T114 _ (mkF m 18 #[.val (.ref a1), .val (.int p2), .val (.long ((2 : Int64) * ((Nat.toInt32 n).toInt64))), .second, .unset] [(.ref a1), (.long (if lcmpW ((2 : Int64) * ((Nat.toInt32 n).toInt64)) (p2.toInt64) < 0 then (p2.toInt64) else ((2 : Int64) * ((Nat.toInt32 n).toInt64))))]) (fun t kq_ => XS.aloadN X114.here hx rfl (hb hby d5_17) rfl rfl kq_) ?_
  obtain ⟨T115, X115, e115, st115⟩ := getF X114 hx hZ hown (host := "") (Or.inl (tw13 hw)) Via.refl e114 F_limit (g := (mkF m 18 #[.val (.ref a1), .val (.int p2), .val (.long ((2 : Int64) * ((Nat.toInt32 n).toInt64))), .second, .unset] [(.ref a1), (.long (if lcmpW ((2 : Int64) * ((Nat.toInt32 n).toInt64)) (p2.toInt64) < 0 then (p2.toInt64) else ((2 : Int64) * ((Nat.toInt32 n).toInt64))))])) rfl rfl (hb hby d5_18)
  refine hG _ T115 _ (mkF m 21 #[.val (.ref a1), .val (.int p2), .val (.long ((2 : Int64) * ((Nat.toInt32 n).toInt64))), .second, .unset] [(.int li), (.long (if lcmpW ((2 : Int64) * ((Nat.toInt32 n).toInt64)) (p2.toInt64) < 0 then (p2.toInt64) else ((2 : Int64) * ((Nat.toInt32 n).toInt64))))]) st115 ?_
  refine hG _ T115 _ (mkF m 22 #[.val (.ref a1), .val (.int p2), .val (.long ((2 : Int64) * ((Nat.toInt32 n).toInt64))), .second, .unset] [(.long (li.toInt64)), (.long (if lcmpW ((2 : Int64) * ((Nat.toInt32 n).toInt64)) (p2.toInt64) < 0 then (p2.toInt64) else ((2 : Int64) * ((Nat.toInt32 n).toInt64))))]) (fun t kq_ => XS.i2l X115.here hx rfl (hb hby d5_21) rfl kq_) ?_
  obtain ⟨_, _, ⟨T116, L116, k116, n116⟩, -, X116, ⟨Lc116, hQ116, l116, y116, z116⟩, st116⟩ := Jvm.LawKit.callS X115 hx (y := (⟨"java/lang/Math", "min", "(JJ)J"⟩ : MethodName)) hown (mvT hZ (tw34 hw)) (mvT hZ (tw35 hw)) (mvT hZ (tw24 hw)) (mvT hZ (tw36 hw)) (by decide) (backOf (W := 0) (rmMinL l Z a0 hw [] (if lcmpW ((2 : Int64) * ((Nat.toInt32 n).toInt64)) (p2.toInt64) < 0 then (p2.toInt64) else ((2 : Int64) * ((Nat.toInt32 n).toInt64))) (li.toInt64) h0 n0 Z0) hZ (tw36 hw) (tw24 hw) (by decide) (by decide)) (g := (mkF m 22 #[.val (.ref a1), .val (.int p2), .val (.long ((2 : Int64) * ((Nat.toInt32 n).toInt64))), .second, .unset] [(.long (li.toInt64)), (.long (if lcmpW ((2 : Int64) * ((Nat.toInt32 n).toInt64)) (p2.toInt64) < 0 then (p2.toInt64) else ((2 : Int64) * ((Nat.toInt32 n).toInt64))))])) rfl (by rw [hml]; rfl) (argsL := [(.long (if lcmpW ((2 : Int64) * ((Nat.toInt32 n).toInt64)) (p2.toInt64) < 0 then (p2.toInt64) else ((2 : Int64) * ((Nat.toInt32 n).toInt64)))), (.long (li.toInt64))]) (rest := []) (lenOf pd_1 rfl) rfl (by show 2 * 0 + _ ≤ _; exact Nat.le_of_eq rfl) (hb hby d5_22) (fun _ _ => ⟨rfl, e115, (by decide : 0 + 0 ≤ _), (by decide : 0 + 0 ≤ _)⟩)
  dsimp only [Pt.U, Pt.locs, Pt.cells, Pt.slots] at X116 l116 y116 z116 st116 hQ116
  subst l116 y116 z116
  obtain ⟨rfl, N116q, hq2⟩ := hQ116
  have N116 := Fr.app N114 N116q
  have e116 : T116.heap = h0 := hq2
  refine hG _ T116 _ (mkF m 25 #[.val (.ref a1), .val (.int p2), .val (.long ((2 : Int64) * ((Nat.toInt32 n).toInt64))), .second, .unset] [(.long (if 0 < lcmpW (if lcmpW ((2 : Int64) * ((Nat.toInt32 n).toInt64)) (p2.toInt64) < 0 then (p2.toInt64) else ((2 : Int64) * ((Nat.toInt32 n).toInt64))) (li.toInt64) then (li.toInt64) else (if lcmpW ((2 : Int64) * ((Nat.toInt32 n).toInt64)) (p2.toInt64) < 0 then (p2.toInt64) else ((2 : Int64) * ((Nat.toInt32 n).toInt64)))))]) (fun t kq_ => st116 _ kq_) ?_
  obtain ⟨k, hk, hk1, hk2⟩ := own_cap hn9 hnd hlm hnl h9
  refine hG _ T116 _ (mkF m 26 #[.val (.ref a1), .val (.int p2), .val (.long ((2 : Int64) * ((Nat.toInt32 n).toInt64))), .second, .unset] [(.int ((if 0 < lcmpW (if lcmpW ((2 : Int64) * ((Nat.toInt32 n).toInt64)) (p2.toInt64) < 0 then (p2.toInt64) else ((2 : Int64) * ((Nat.toInt32 n).toInt64))) (li.toInt64) then (li.toInt64) else (if lcmpW ((2 : Int64) * ((Nat.toInt32 n).toInt64)) (p2.toInt64) < 0 then (p2.toInt64) else ((2 : Int64) * ((Nat.toInt32 n).toInt64)))).toInt32))]) (fun t kq_ => XS.l2i X116.here hx rfl (hb hby d5_25) rfl kq_) ?_
  refine hG _ T116 _ (mkF m 28 #[.val (.ref a1), .val (.int p2), .val (.long ((2 : Int64) * ((Nat.toInt32 n).toInt64))), .second, .val (.int ((if 0 < lcmpW (if lcmpW ((2 : Int64) * ((Nat.toInt32 n).toInt64)) (p2.toInt64) < 0 then (p2.toInt64) else ((2 : Int64) * ((Nat.toInt32 n).toInt64))) (li.toInt64) then (li.toInt64) else (if lcmpW ((2 : Int64) * ((Nat.toInt32 n).toInt64)) (p2.toInt64) < 0 then (p2.toInt64) else ((2 : Int64) * ((Nat.toInt32 n).toInt64)))).toInt32))] []) (fun t kq_ => XS.istore X116.here hx rfl (hb hby d5_26) rfl (l' := #[.val (.ref a1), .val (.int p2), .val (.long ((2 : Int64) * ((Nat.toInt32 n).toInt64))), .second, .val (.int ((if 0 < lcmpW (if lcmpW ((2 : Int64) * ((Nat.toInt32 n).toInt64)) (p2.toInt64) < 0 then (p2.toInt64) else ((2 : Int64) * ((Nat.toInt32 n).toInt64))) (li.toInt64) then (li.toInt64) else (if lcmpW ((2 : Int64) * ((Nat.toInt32 n).toInt64)) (p2.toInt64) < 0 then (p2.toInt64) else ((2 : Int64) * ((Nat.toInt32 n).toInt64)))).toInt32))]) rfl kq_) ?_
  generalize hcx : ((if 0 < lcmpW (if lcmpW ((2 : Int64) * ((Nat.toInt32 n).toInt64)) (p2.toInt64) < 0 then (p2.toInt64) else ((2 : Int64) * ((Nat.toInt32 n).toInt64))) (li.toInt64) then (li.toInt64) else (if lcmpW ((2 : Int64) * ((Nat.toInt32 n).toInt64)) (p2.toInt64) < 0 then (p2.toInt64) else ((2 : Int64) * ((Nat.toInt32 n).toInt64)))).toInt32) = cx at hk ⊢
  refine hG _ T116 _ (mkF m 29 #[.val (.ref a1), .val (.int p2), .val (.long ((2 : Int64) * ((Nat.toInt32 n).toInt64))), .second, .val (.int cx)] [(.ref a1)]) (fun t kq_ => XS.aloadN X116.here hx rfl (hb hby d5_28) rfl rfl kq_) ?_
  refine hG _ T116 _ (mkF m 30 #[.val (.ref a1), .val (.int p2), .val (.long ((2 : Int64) * ((Nat.toInt32 n).toInt64))), .second, .val (.int cx)] [(.ref a1), (.ref a1)]) (fun t kq_ => XS.aloadN X116.here hx rfl (hb hby d5_29) rfl rfl kq_) ?_
  obtain ⟨T117, X117, e117, st117⟩ := getF X116 hx hZ hown (host := "") (Or.inl (tw11 hw)) Via.refl e116 F_bytes (g := (mkF m 30 #[.val (.ref a1), .val (.int p2), .val (.long ((2 : Int64) * ((Nat.toInt32 n).toInt64))), .second, .val (.int cx)] [(.ref a1), (.ref a1)])) rfl rfl (hb hby d5_30)
  refine hG _ T117 _ (mkF m 33 #[.val (.ref a1), .val (.int p2), .val (.long ((2 : Int64) * ((Nat.toInt32 n).toInt64))), .second, .val (.int cx)] [(.ref ba), (.ref a1)]) st117 ?_
  refine hG _ T117 _ (mkF m 35 #[.val (.ref a1), .val (.int p2), .val (.long ((2 : Int64) * ((Nat.toInt32 n).toInt64))), .second, .val (.int cx)] [(.int cx), (.ref ba), (.ref a1)]) (fun t kq_ => XS.iload X117.here hx rfl (hb hby d5_33) rfl kq_) ?_
  obtain ⟨_, _, ⟨T118, L118, k118, n118⟩, -, X118, ⟨Lc118, hQ118, l118, y118, z118⟩, st118⟩ := Jvm.LawKit.callS X117 hx (y := (⟨"java/util/Arrays", "copyOf", "([BI)[B"⟩ : MethodName)) hown (mvT hZ (tw37 hw)) (mvT hZ (tw38 hw)) (mvT hZ (tw39 hw)) (mvT hZ (tw40 hw)) (by decide) (backOf (W := 1) (rmCopy l Z a0 hw [] ba cx h0 n0 Z0 n k f V1 hk (by omega) hn9) hZ (tw40 hw) (tw39 hw) (by decide) (by decide)) (g := (mkF m 35 #[.val (.ref a1), .val (.int p2), .val (.long ((2 : Int64) * ((Nat.toInt32 n).toInt64))), .second, .val (.int cx)] [(.int cx), (.ref ba), (.ref a1)])) rfl (by rw [hml]; rfl) (argsL := [(.ref ba), (.int cx)]) (rest := [(.ref a1)]) (lenOf pd_2 rfl) rfl (by show 2 * 0 + _ ≤ _; exact Nat.le_of_eq rfl) (hb hby d5_35) (fun _ _ => ⟨rfl, e117, (by decide : 0 + 1 ≤ _), (by decide : 0 + 9 ≤ _)⟩)
  dsimp only [Pt.U, Pt.locs, Pt.cells, Pt.slots] at X118 l118 y118 z118 st118 hQ118
  subst l118 y118 z118
  obtain ⟨bb, rfl, N118q, K3, hb3, V3⟩ := hQ118
  have N118 := Fr.app N116 N118q
  have Zs119 : n0 ≤ T118.heap.size := Nat.le_trans Z0 K3.1
  have KK120 : Keep h0 T118.heap [a1] := K0.trans K3 all0
  refine hG _ T118 _ (mkF m 38 #[.val (.ref a1), .val (.int p2), .val (.long ((2 : Int64) * ((Nat.toInt32 n).toInt64))), .second, .val (.int cx)] [(.ref bb), (.ref a1)]) (fun t kq_ => st118 _ kq_) ?_
  have neb : a1 ≠ bb := Nat.ne_of_lt (Nat.lt_of_lt_of_le E1.lt hb3)
  have F_bytes'121 : Fld Z T118.heap a1 "com/example/tools_to_sandbox/toolstosandbox/service/OutputCapture" "bytes" "[B" (.ref ba) := (F_bytes.keep K3 nin0)
  have E1'122 : Exa Z T118.heap a1 "com/example/tools_to_sandbox/toolstosandbox/service/OutputCapture" := (E1.keep K3)
  obtain ⟨T123, h123, X123, e123, W123, st123⟩ := putF X118 hx hZ hown (host := "") (Or.inl (tw11 hw)) Via.refl rfl F_bytes'121 E1'122 (Or.inl (tw12 hw)) (tw3 hw) (ty := (.array .byte)) (by decide) rfl rfl (g := (mkF m 38 #[.val (.ref a1), .val (.int p2), .val (.long ((2 : Int64) * ((Nat.toInt32 n).toInt64))), .second, .val (.int cx)] [(.ref bb), (.ref a1)])) rfl rfl (hb hby d5_38)
  have F_bytes_a1_123 : Fld Z h123 a1 "com/example/tools_to_sandbox/toolstosandbox/service/OutputCapture" "bytes" "[B" (.ref bb) := F_bytes'121.same W123
  have Zs124 : n0 ≤ h123.size := Nat.le_trans Zs119 (Keep.of_wr W123).1
  have KK125 : Keep h0 h123 [a1] := KK120.wr W123 (Or.inl (List.mem_of_getElem? (i := 0) rfl))
  have N123 := Fr.snoc X123 N118 g1
  refine hG _ T123 _ (mkF m 41 #[.val (.ref a1), .val (.int p2), .val (.long ((2 : Int64) * ((Nat.toInt32 n).toInt64))), .second, .val (.int cx)] []) st123 ?_
  have F_limit'126 : Fld Z h123 a1 "com/example/tools_to_sandbox/toolstosandbox/service/OutputCapture" "limit" "I" (.int li) := ((F_limit.keep K3 nin0).other W123 (Or.inr (slot_ne (Or.inr (tw14 hw)) (Or.inl (tw12 hw)) (by decide) (t := .int) (t' := (.array .byte)) (by decide) (by decide))))
  have F_size'127 : Fld Z h123 a1 "com/example/tools_to_sandbox/toolstosandbox/service/OutputCapture" "size" "I" usz := ((F_size.keep K3 nin0).other W123 (Or.inr (slot_ne (Or.inl (tw21 hw)) (Or.inl (tw12 hw)) (by decide) (t := .int) (t' := (.array .byte)) (by decide) (by decide))))
  have F_truncated'128 : Fld Z h123 a1 "com/example/tools_to_sandbox/toolstosandbox/service/OutputCapture" "truncated" "Z" utr := ((F_truncated.keep K3 nin0).other W123 (Or.inr (slot_ne (Or.inl (tw48 hw)) (Or.inl (tw12 hw)) (by decide) (t := .boolean) (t' := (.array .byte)) (by decide) (by decide))))
  have V3'129 : Ab Z h123 bb k (fun i => if i < n then f i else 0) := (V3.other W123 (Ne.symm neb))
  exact Goes.retV X123 hx hlk hrt (hb hby d5_41) (by decide : 1 ≤ 1) (by decide : 9 ≤ 9) (by (try rw [e123]); exact ⟨rfl, N123, KK125, bb, k, Nat.le_trans Z0 hb3, hb3, hk1, hk2, F_bytes_a1_123, F_limit'126, F_size'127, F_truncated'128, V3'129⟩)
theorem ef_rmI (m : MethodId) (x0 : Addr) (x1 : Int32) : entryFrame m #[(.ref x0), (.int x1)] 2 = mkF m 0 #[.val (.ref x0), .val (.int x1)] [] := by first | (simp [entryFrame, mkF, argsToLocals, Value.category]; done) | rfl
theorem pn_rmI : plainName "com/example/tools_to_sandbox/toolstosandbox/service/OutputCapture" = true := by first | (simp [plainName, overriddenIn]; done) | decide +kernel
def Q_rmI (Z : State) (a1 : Addr) (p2 : Int32) (ub ul usz utr : Value) (lm : Nat) (h0 : Heap) (n0 : Nat) (v : Option Value) (h : Heap) (L : List Loc) : Prop := v = none ∧ Fr n0 L ∧ Keep h0 h [a1] ∧ ∃ bb : Addr, n0 ≤ bb ∧ h0.size ≤ bb ∧ Fld Z h a1 "com/example/tools_to_sandbox/toolstosandbox/service/OutputCapture" "bytes" "[B" (.ref bb) ∧ Fld Z h a1 "com/example/tools_to_sandbox/toolstosandbox/service/OutputCapture" "limit" "I" (.int p2) ∧ Fld Z h a1 "com/example/tools_to_sandbox/toolstosandbox/service/OutputCapture" "size" "I" usz ∧ Fld Z h a1 "com/example/tools_to_sandbox/toolstosandbox/service/OutputCapture" "truncated" "Z" utr ∧ Ab Z h bb 0 (fun _ => 0)
set_option maxRecDepth 65536 in
set_option maxHeartbeats 40000000 in
theorem rmI (l : Launch) (Z : State) (a0 : Array Value) (hw : ∀ d ∈ tables_1, d.before a0 Z = true) (ws : List Jvm.Cond) (a1 : Addr) (p2 : Int32) (h0 : Heap) (n0 : Nat) (Z0 : n0 ≤ h0.size) (ub ul usz utr : Value) (lm : Nat) (E1 : Exa Z h0 a1 "com/example/tools_to_sandbox/toolstosandbox/service/OutputCapture") (g1 : n0 ≤ a1) (F_bytes : Fld Z h0 a1 "com/example/tools_to_sandbox/toolstosandbox/service/OutputCapture" "bytes" "[B" ub) (F_limit : Fld Z h0 a1 "com/example/tools_to_sandbox/toolstosandbox/service/OutputCapture" "limit" "I" ul) (F_size : Fld Z h0 a1 "com/example/tools_to_sandbox/toolstosandbox/service/OutputCapture" "size" "I" usz) (F_truncated : Fld Z h0 a1 "com/example/tools_to_sandbox/toolstosandbox/service/OutputCapture" "truncated" "Z" utr) (hlm : p2.toInt = (lm : Int)) :
    MetFree l (⟨"com/example/tools_to_sandbox/toolstosandbox/service/OutputCapture", "<init>", "(I)V"⟩ : MethodName) (head1 (Jvm.Cond.code (⟨"com/example/tools_to_sandbox/toolstosandbox/service/OutputCapture", "<init>", "(I)V"⟩ : MethodName) prog_89_method_1_code 2 none :: ws) ({ frames := 1, cells := 1, slots := 0, locals := 12 } : Room)) (fun a U => a = #[(.ref a1), (.int p2)] ∧ Z.Warmed39 U.vm ∧ U.heap = h0) (fun _ _ _ _ _ => True) (fun _ U o U' => ∃ v L, o = .returned v ∧ Q_rmI Z a1 p2 ub ul usz utr lm h0 n0 v U'.heap L ∧ FrameEnd U o U' L ({ frames := 1, cells := 1, slots := 0, locals := 12 } : Room).cells ({ frames := 1, cells := 1, slots := 0, locals := 12 } : Room).slots) := by
  refine MetFree.of_bodySF (plainFor_of_name pn_rmI) hisR ?_
  intro p e s m args below meth c s₁ Bd hml0 hP hK
  obtain ⟨rfl, hZ, hh⟩ := hP
  have hx := Bd.exec
  have hby := Bd.bytes
  have hml : c.maxLocals = 2 := hml0
  have hown : s.vm.findClass "com/example/tools_to_sandbox/toolstosandbox/service/OutputCapture" = some m.cls := findClass_of_methodNamed Bd.named
  have hnm := (name_of_methodNamed Bd.named Bd.method).1
  have X0 : Stand p l e ({ frames := 1, cells := 1, slots := 0, locals := 12 } : Room) s m #[(.ref a1), (.int p2)] below meth c s₁ [] 0 0 := Stand.of_body Bd
  have e0 : s₁.heap = h0 := by rw [← hh, Bd.state]; rfl
  have N0 := Fr.nil n0
  have hlk : meth.locks = false := BodyLoose.notSynchronized Bd
  have hrt := Bd.returns
  have hG := Goes.bk p e below s (fun (v : Option Value) (h : Heap) (L : List Loc) => v = none ∧ Fr n0 L ∧ Keep h0 h [a1] ∧ ∃ bb : Addr, n0 ≤ bb ∧ h0.size ≤ bb ∧ Fld Z h a1 "com/example/tools_to_sandbox/toolstosandbox/service/OutputCapture" "bytes" "[B" (.ref bb) ∧ Fld Z h a1 "com/example/tools_to_sandbox/toolstosandbox/service/OutputCapture" "limit" "I" (.int p2) ∧ Fld Z h a1 "com/example/tools_to_sandbox/toolstosandbox/service/OutputCapture" "size" "I" usz ∧ Fld Z h a1 "com/example/tools_to_sandbox/toolstosandbox/service/OutputCapture" "truncated" "Z" utr ∧ Ab Z h bb 0 (fun _ => 0)) 1 0
  show Goes p e below s (fun (v : Option Value) (h : Heap) (L : List Loc) => v = none ∧ Fr n0 L ∧ Keep h0 h [a1] ∧ ∃ bb : Addr, n0 ≤ bb ∧ h0.size ≤ bb ∧ Fld Z h a1 "com/example/tools_to_sandbox/toolstosandbox/service/OutputCapture" "bytes" "[B" (.ref bb) ∧ Fld Z h a1 "com/example/tools_to_sandbox/toolstosandbox/service/OutputCapture" "limit" "I" (.int p2) ∧ Fld Z h a1 "com/example/tools_to_sandbox/toolstosandbox/service/OutputCapture" "size" "I" usz ∧ Fld Z h a1 "com/example/tools_to_sandbox/toolstosandbox/service/OutputCapture" "truncated" "Z" utr ∧ Ab Z h bb 0 (fun _ => 0)) 1 0 s₁ (entryFrame m #[(.ref a1), (.int p2)] 2)
  rw [ef_rmI m a1 p2]
  have K0 : Keep h0 h0 [a1] := Keep.refl h0 [a1]
  refine hG _ s₁ _ (mkF m 1 #[.val (.ref a1), .val (.int p2)] [(.ref a1)]) (fun t kq_ => XS.aloadN X0.here hx rfl (hb hby d1_0) rfl rfl kq_) ?_
  obtain ⟨T130, X130, e130, st130⟩ := initO X0 hx hZ hown (tw8 hw) (tw9 hw) (tw10 hw) e0 (g := (mkF m 1 #[.val (.ref a1), .val (.int p2)] [(.ref a1)])) rfl (by rw [hml]; rfl) rfl (hb hby d1_1) (by decide) (W := 0) (by show 2 * 0 + _ ≤ _; exact Nat.le_of_eq rfl) (by decide)
  refine hG _ T130 _ (mkF m 4 #[.val (.ref a1), .val (.int p2)] []) st130 ?_
  refine hG _ T130 _ (mkF m 5 #[.val (.ref a1), .val (.int p2)] [(.ref a1)]) (fun t kq_ => XS.aloadN X130.here hx rfl (hb hby d1_4) rfl rfl kq_) ?_
  refine hG _ T130 _ (mkF m 6 #[.val (.ref a1), .val (.int p2)] [(.int (0 : Int32)), (.ref a1)]) (fun t kq_ => XS.iconst X130.here hx rfl (hb hby d1_5) kq_) ?_
  have hz131 : (0 : Int32).toInt = ((0 : Nat) : Int) := rfl
  obtain ⟨T131, h131, X131, e131, E131, V131, st131⟩ := Ab.new X130 hx hZ (tw1 hw) e130 (g := (mkF m 6 #[.val (.ref a1), .val (.int p2)] [(.int (0 : Int32)), (.ref a1)])) rfl (hb hby d1_6) rfl hz131 (cap := 0) (Nat.le_refl _) (by decide) (by decide) (by decide)
  obtain ⟨b131, g131⟩ : ∃ z, z = h0.size := ⟨_, rfl⟩
  rw [← g131] at V131 st131
  have ne_a1_b131 : a1 ≠ b131 := Nat.ne_of_lt (Nat.lt_of_lt_of_le E1.lt (Nat.le_of_eq g131.symm))
  have g_b131 : n0 ≤ b131 := Nat.le_trans Z0 (Nat.le_of_eq g131.symm)
  have sz_b131 : h0.size ≤ b131 := Nat.le_trans K0.1 (Nat.le_of_eq g131.symm)
  have Zs132 : n0 ≤ h131.size := Nat.le_trans Z0 E131.1
  have KK133 : Keep h0 h131 [a1] := K0.ext E131
  refine hG _ T131 _ (mkF m 8 #[.val (.ref a1), .val (.int p2)] [(.ref b131), (.ref a1)]) st131 ?_
  have F_bytes'134 : Fld Z h131 a1 "com/example/tools_to_sandbox/toolstosandbox/service/OutputCapture" "bytes" "[B" ub := (F_bytes.ext E131)
  have E1'135 : Exa Z h131 a1 "com/example/tools_to_sandbox/toolstosandbox/service/OutputCapture" := (E1.ext E131)
  obtain ⟨T136, h136, X136, e136, W136, st136⟩ := putF X131 hx hZ hown (host := "") (Or.inl (tw11 hw)) Via.refl e131 F_bytes'134 E1'135 (Or.inl (tw12 hw)) (tw3 hw) (ty := (.array .byte)) (by decide) rfl rfl (g := (mkF m 8 #[.val (.ref a1), .val (.int p2)] [(.ref b131), (.ref a1)])) rfl rfl (hb hby d1_8)
  have F_bytes_a1_136 : Fld Z h136 a1 "com/example/tools_to_sandbox/toolstosandbox/service/OutputCapture" "bytes" "[B" (.ref b131) := F_bytes'134.same W136
  have Zs137 : n0 ≤ h136.size := Nat.le_trans Zs132 (Keep.of_wr W136).1
  have KK138 : Keep h0 h136 [a1] := KK133.wr W136 (Or.inl (List.mem_of_getElem? (i := 0) rfl))
  have N136 := Fr.snoc X136 N0 g1
  refine hG _ T136 _ (mkF m 11 #[.val (.ref a1), .val (.int p2)] []) st136 ?_
  refine hG _ T136 _ (mkF m 12 #[.val (.ref a1), .val (.int p2)] [(.int p2)]) (fun t kq_ => XS.iloadN X136.here hx rfl (hb hby d1_11) rfl kq_) ?_
  refine hG _ T136 _ (mkF m 29 #[.val (.ref a1), .val (.int p2)] []) (fun t kq_ => XS.ifYes X136.here hx rfl (pc0 := 12) (pc' := 29) rfl (hb hby d1_12) rfl ((if0 _ _).trans (flt (own_nn hlm)).2.1) (by decide) (by decide) kq_) ?_
  refine hG _ T136 _ (mkF m 30 #[.val (.ref a1), .val (.int p2)] [(.ref a1)]) (fun t kq_ => XS.aloadN X136.here hx rfl (hb hby d1_29) rfl rfl kq_) ?_
  refine hG _ T136 _ (mkF m 31 #[.val (.ref a1), .val (.int p2)] [(.int p2), (.ref a1)]) (fun t kq_ => XS.iloadN X136.here hx rfl (hb hby d1_30) rfl kq_) ?_
  have F_limit'139 : Fld Z h136 a1 "com/example/tools_to_sandbox/toolstosandbox/service/OutputCapture" "limit" "I" ul := ((F_limit.ext E131).other W136 (Or.inr (slot_ne (Or.inr (tw14 hw)) (Or.inl (tw12 hw)) (by decide) (t := .int) (t' := (.array .byte)) (by decide) (by decide))))
  have E1'140 : Exa Z h136 a1 "com/example/tools_to_sandbox/toolstosandbox/service/OutputCapture" := (E1'135.wr W136)
  obtain ⟨T141, h141, X141, e141, W141, st141⟩ := putF X136 hx hZ hown (host := "") (Or.inl (tw13 hw)) Via.refl e136 F_limit'139 E1'140 (Or.inr ⟨(tw14 hw), rfl, hnm⟩) (tw3 hw) (ty := .int) (by decide) rfl rfl (g := (mkF m 31 #[.val (.ref a1), .val (.int p2)] [(.int p2), (.ref a1)])) rfl rfl (hb hby d1_31)
  have F_limit_a1_141 : Fld Z h141 a1 "com/example/tools_to_sandbox/toolstosandbox/service/OutputCapture" "limit" "I" (.int p2) := F_limit'139.same W141
  have Zs142 : n0 ≤ h141.size := Nat.le_trans Zs137 (Keep.of_wr W141).1
  have KK143 : Keep h0 h141 [a1] := KK138.wr W141 (Or.inl (List.mem_of_getElem? (i := 0) rfl))
  have N141 := Fr.snoc X141 N136 g1
  refine hG _ T141 _ (mkF m 34 #[.val (.ref a1), .val (.int p2)] []) st141 ?_
  have F_bytes_a1_136'144 : Fld Z h141 a1 "com/example/tools_to_sandbox/toolstosandbox/service/OutputCapture" "bytes" "[B" (.ref b131) := (F_bytes_a1_136.other W141 (Or.inr (slot_ne (Or.inl (tw12 hw)) (Or.inr (tw14 hw)) (by decide) (t := (.array .byte)) (t' := .int) (by decide) (by decide))))
  have F_size'145 : Fld Z h141 a1 "com/example/tools_to_sandbox/toolstosandbox/service/OutputCapture" "size" "I" usz := (((F_size.ext E131).other W136 (Or.inr (slot_ne (Or.inl (tw21 hw)) (Or.inl (tw12 hw)) (by decide) (t := .int) (t' := (.array .byte)) (by decide) (by decide)))).other W141 (Or.inr (slot_ne (Or.inl (tw21 hw)) (Or.inr (tw14 hw)) (by decide) (t := .int) (t' := .int) (by decide) (by decide))))
  have F_truncated'146 : Fld Z h141 a1 "com/example/tools_to_sandbox/toolstosandbox/service/OutputCapture" "truncated" "Z" utr := (((F_truncated.ext E131).other W136 (Or.inr (slot_ne (Or.inl (tw48 hw)) (Or.inl (tw12 hw)) (by decide) (t := .boolean) (t' := (.array .byte)) (by decide) (by decide)))).other W141 (Or.inr (slot_ne (Or.inl (tw48 hw)) (Or.inr (tw14 hw)) (by decide) (t := .boolean) (t' := .int) (by decide) (by decide))))
  have V131'147 : Ab Z h141 b131 0 (fun _ => 0) := ((V131.other W136 (Ne.symm ne_a1_b131)).other W141 (Ne.symm ne_a1_b131))
  exact Goes.retV X141 hx hlk hrt (hb hby d1_34) (by decide : 1 ≤ 1) (by decide : 0 ≤ 0) (by (try rw [e141]); exact ⟨rfl, N141, KK143, b131, g_b131, sz_b131, F_bytes_a1_136'144, F_limit_a1_141, F_size'145, F_truncated'146, V131'147⟩)
set_option maxRecDepth 65536 in
set_option maxHeartbeats 40000000 in
theorem kp48 {p : Program} {l : Launch} {e : Env} {s : State} {m : MethodId} {args : Array Value} {below : List Frame} {meth : Method} {c : Code} {T0 : State} {locs : List Loc} {Z : State} {a0 : Array Value} {h0 : Heap} {n0 : Nat} {hS0 : Heap} (a1 a2 ba : Addr) (p3 li sz : Int32) (lm s0 ct n : Nat) (f g : Nat → Int32) (kp : Int32) (k n1 : Nat) (f1 : Nat → Int32) (bb : Addr) (ut : Value)
    (X0 : Stand p l e ({ frames := 3, cells := 1, slots := 9, locals := 49 } : Room) s m args below meth c T0 locs 1 9) (hx : p.tables.exec = Jvm.exec) (hZ : Z.Warmed39 s.vm) (hw : ∀ d ∈ tables_1, d.before a0 Z = true) (hby : c.code = prog_89_method_2_code) (hml : c.maxLocals = 4) (hown : s.vm.findClass "com/example/tools_to_sandbox/toolstosandbox/service/OutputCapture" = some m.cls) (e0 : T0.heap = h0) (Z0 : n0 ≤ h0.size) (N0 : Fr n0 locs) (hlk : meth.locks = false) (hrt : meth.sig.returnType = none) (E1 : Exa Z h0 a1 "com/example/tools_to_sandbox/toolstosandbox/service/OutputCapture") (g1 : n0 ≤ a1) (VB : Ab Z h0 a2 4 g) (hlm : li.toInt = (lm : Int)) (h9 : lm ≤ 9) (hsz : sz.toInt = (s0 : Int)) (hs0 : s0 ≤ lm) (hct : p3.toInt = (ct : Int)) (hct4 : ct ≤ 4) (n21 : a2 ≠ a1) (n2b : a2 ≠ ba) (n1b : a1 ≠ ba) (F_bytes : Fld Z h0 a1 "com/example/tools_to_sandbox/toolstosandbox/service/OutputCapture" "bytes" "[B" (.ref bb)) (F_limit : Fld Z h0 a1 "com/example/tools_to_sandbox/toolstosandbox/service/OutputCapture" "limit" "I" (.int li)) (F_size : Fld Z h0 a1 "com/example/tools_to_sandbox/toolstosandbox/service/OutputCapture" "size" "I" (.int sz)) (F_truncated : Fld Z h0 a1 "com/example/tools_to_sandbox/toolstosandbox/service/OutputCapture" "truncated" "Z" ut) (hkp : kp.toInt = (k : Int)) (hk : k ≤ ct ∧ k ≤ lm - s0 ∧ (k = ct ∨ k = lm - s0)) (V1 : Ab Z h0 bb n1 f1) (hf1 : ∀ i, i < s0 → f1 i = f i) (hn1 : s0 + k ≤ n1) (hn1l : n1 ≤ lm) (gb : n0 ≤ bb) (n1c : a1 ≠ bb) (n2c : a2 ≠ bb) (hor : bb = ba ∨ hS0.size ≤ bb) (KS : Keep hS0 h0 [a1, ba]) (hcS : 0 < 1) :
    Goes p e below s (fun (v : Option Value) (h : Heap) (L : List Loc) => v = none ∧ Fr n0 L ∧ Keep hS0 h [a1, ba] ∧ ∃ (bb : Addr) (n' : Nat) (f' : Nat → Int32) (k : Nat) (sz' : Int32) (ut' : Value), (k ≤ ct ∧ k ≤ lm - s0 ∧ (k = ct ∨ k = lm - s0)) ∧ sz'.toInt = ((s0 + k : Nat) : Int) ∧ n0 ≤ bb ∧ (bb = ba ∨ hS0.size ≤ bb) ∧ s0 + k ≤ n' ∧ n' ≤ lm ∧ Fld Z h a1 "com/example/tools_to_sandbox/toolstosandbox/service/OutputCapture" "bytes" "[B" (.ref bb) ∧ Fld Z h a1 "com/example/tools_to_sandbox/toolstosandbox/service/OutputCapture" "limit" "I" (.int li) ∧ Fld Z h a1 "com/example/tools_to_sandbox/toolstosandbox/service/OutputCapture" "size" "I" (.int sz') ∧ Fld Z h a1 "com/example/tools_to_sandbox/toolstosandbox/service/OutputCapture" "truncated" "Z" ut' ∧ Ab Z h bb n' f' ∧ (∀ i, i < s0 → f' i = f i) ∧ ∀ i, i < k → f' (s0 + i) = g i) 1 9 T0 (mkF m 48 #[.val (.ref a1), .val (.ref a2), .val (.int p3), .val (.int kp)] []) := by
  have hG := Goes.bk p e below s (fun (v : Option Value) (h : Heap) (L : List Loc) => v = none ∧ Fr n0 L ∧ Keep hS0 h [a1, ba] ∧ ∃ (bb : Addr) (n' : Nat) (f' : Nat → Int32) (k : Nat) (sz' : Int32) (ut' : Value), (k ≤ ct ∧ k ≤ lm - s0 ∧ (k = ct ∨ k = lm - s0)) ∧ sz'.toInt = ((s0 + k : Nat) : Int) ∧ n0 ≤ bb ∧ (bb = ba ∨ hS0.size ≤ bb) ∧ s0 + k ≤ n' ∧ n' ≤ lm ∧ Fld Z h a1 "com/example/tools_to_sandbox/toolstosandbox/service/OutputCapture" "bytes" "[B" (.ref bb) ∧ Fld Z h a1 "com/example/tools_to_sandbox/toolstosandbox/service/OutputCapture" "limit" "I" (.int li) ∧ Fld Z h a1 "com/example/tools_to_sandbox/toolstosandbox/service/OutputCapture" "size" "I" (.int sz') ∧ Fld Z h a1 "com/example/tools_to_sandbox/toolstosandbox/service/OutputCapture" "truncated" "Z" ut' ∧ Ab Z h bb n' f' ∧ (∀ i, i < s0 → f' i = f i) ∧ ∀ i, i < k → f' (s0 + i) = g i) 1 9
  refine hG _ T0 _ (mkF m 49 #[.val (.ref a1), .val (.ref a2), .val (.int p3), .val (.int kp)] [(.ref a2)]) (fun t kq_ => XS.aloadN X0.here hx rfl (hb hby d3_48) rfl rfl kq_) ?_
  refine hG _ T0 _ (mkF m 50 #[.val (.ref a1), .val (.ref a2), .val (.int p3), .val (.int kp)] [(.int (0 : Int32)), (.ref a2)]) (fun t kq_ => XS.iconst X0.here hx rfl (hb hby d3_49) kq_) ?_
  refine hG _ T0 _ (mkF m 51 #[.val (.ref a1), .val (.ref a2), .val (.int p3), .val (.int kp)] [(.ref a1), (.int (0 : Int32)), (.ref a2)]) (fun t kq_ => XS.aloadN X0.here hx rfl (hb hby d3_50) rfl rfl kq_) ?_
  obtain ⟨T148, X148, e148, st148⟩ := getF X0 hx hZ hown (host := "") (Or.inl (tw11 hw)) Via.refl e0 F_bytes (g := (mkF m 51 #[.val (.ref a1), .val (.ref a2), .val (.int p3), .val (.int kp)] [(.ref a1), (.int (0 : Int32)), (.ref a2)])) rfl rfl (hb hby d3_51)
  refine hG _ T148 _ (mkF m 54 #[.val (.ref a1), .val (.ref a2), .val (.int p3), .val (.int kp)] [(.ref bb), (.int (0 : Int32)), (.ref a2)]) st148 ?_
  refine hG _ T148 _ (mkF m 55 #[.val (.ref a1), .val (.ref a2), .val (.int p3), .val (.int kp)] [(.ref a1), (.ref bb), (.int (0 : Int32)), (.ref a2)]) (fun t kq_ => XS.aloadN X148.here hx rfl (hb hby d3_54) rfl rfl kq_) ?_
  obtain ⟨T149, X149, e149, st149⟩ := getF X148 hx hZ hown (host := "") (Or.inl (tw20 hw)) Via.refl e148 F_size (g := (mkF m 55 #[.val (.ref a1), .val (.ref a2), .val (.int p3), .val (.int kp)] [(.ref a1), (.ref bb), (.int (0 : Int32)), (.ref a2)])) rfl rfl (hb hby d3_55)
  refine hG _ T149 _ (mkF m 58 #[.val (.ref a1), .val (.ref a2), .val (.int p3), .val (.int kp)] [(.int sz), (.ref bb), (.int (0 : Int32)), (.ref a2)]) st149 ?_
  refine hG _ T149 _ (mkF m 59 #[.val (.ref a1), .val (.ref a2), .val (.int p3), .val (.int kp)] [(.int kp), (.int sz), (.ref bb), (.int (0 : Int32)), (.ref a2)]) (fun t kq_ => XS.iloadN X149.here hx rfl (hb hby d3_58) rfl kq_) ?_
  obtain ⟨T150, h150, L150, X150, e150, N150, K150, V150, st150⟩ := Ab.copy X149 hx hZ hown (tw46 hw) (tw45 hw) (tw43 hw) (tw44 hw) e149 VB V1 (i := 0) (j := s0) (k := k) rfl hsz hkp (by omega) hn1 N0 gb (g := (mkF m 59 #[.val (.ref a1), .val (.ref a2), .val (.int p3), .val (.int kp)] [(.int kp), (.int sz), (.ref bb), (.int (0 : Int32)), (.ref a2)])) rfl (by rw [hml]; rfl) rfl (hb hby d3_59) (by decide) (W := 0) (by show 2 * 0 + _ ≤ _; exact Nat.le_of_eq rfl) (by decide)
  have Zs151 : n0 ≤ h150.size := Nat.le_trans Z0 K150.1
  refine hG _ T150 _ (mkF m 62 #[.val (.ref a1), .val (.ref a2), .val (.int p3), .val (.int kp)] []) st150 ?_
  have KS2 : Keep hS0 h150 [a1, ba] := KS.trans K150 (allS (P := fun x => x ∈ [a1, ba] ∨ hS0.size ≤ x) (hor.elim (fun z => Or.inl (by rw [z]; simp)) Or.inr) all0)
  refine hG _ T150 _ (mkF m 63 #[.val (.ref a1), .val (.ref a2), .val (.int p3), .val (.int kp)] [(.ref a1)]) (fun t kq_ => XS.aloadN X150.here hx rfl (hb hby d3_62) rfl rfl kq_) ?_
  refine hG _ T150 _ (mkF m 64 #[.val (.ref a1), .val (.ref a2), .val (.int p3), .val (.int kp)] [(.ref a1), (.ref a1)]) (fun t kq_ => XS.dup X150.here hx rfl (hb hby d3_63) rfl rfl kq_) ?_
  have F_size'152 : Fld Z h150 a1 "com/example/tools_to_sandbox/toolstosandbox/service/OutputCapture" "size" "I" (.int sz) := (F_size.keep K150 (ninS n1c nin0))
  obtain ⟨T153, X153, e153, st153⟩ := getF X150 hx hZ hown (host := "") (Or.inl (tw20 hw)) Via.refl e150 F_size'152 (g := (mkF m 64 #[.val (.ref a1), .val (.ref a2), .val (.int p3), .val (.int kp)] [(.ref a1), (.ref a1)])) rfl rfl (hb hby d3_64)
  refine hG _ T153 _ (mkF m 67 #[.val (.ref a1), .val (.ref a2), .val (.int p3), .val (.int kp)] [(.int sz), (.ref a1)]) st153 ?_
  refine hG _ T153 _ (mkF m 68 #[.val (.ref a1), .val (.ref a2), .val (.int p3), .val (.int kp)] [(.int kp), (.int sz), (.ref a1)]) (fun t kq_ => XS.iloadN X153.here hx rfl (hb hby d3_67) rfl kq_) ?_
  refine hG _ T153 _ (mkF m 69 #[.val (.ref a1), .val (.ref a2), .val (.int p3), .val (.int kp)] [(.int (sz + kp)), (.ref a1)]) (fun t kq_ => XS.iadd X153.here hx rfl (hb hby d3_68) rfl kq_) ?_
  have E1'154 : Exa Z h150 a1 "com/example/tools_to_sandbox/toolstosandbox/service/OutputCapture" := (E1.keep K150)
  obtain ⟨T155, h155, X155, e155, W155, st155⟩ := putF X153 hx hZ hown (host := "") (Or.inl (tw20 hw)) Via.refl e153 F_size'152 E1'154 (Or.inl (tw21 hw)) (tw3 hw) (ty := .int) (by decide) rfl rfl (g := (mkF m 69 #[.val (.ref a1), .val (.ref a2), .val (.int p3), .val (.int kp)] [(.int (sz + kp)), (.ref a1)])) rfl rfl (hb hby d3_69)
  have F_size_a1_155 : Fld Z h155 a1 "com/example/tools_to_sandbox/toolstosandbox/service/OutputCapture" "size" "I" (.int (sz + kp)) := F_size'152.same W155
  have Zs156 : n0 ≤ h155.size := Nat.le_trans Zs151 (Keep.of_wr W155).1
  have N155 := Fr.snoc X155 N150 g1
  refine hG _ T155 _ (mkF m 72 #[.val (.ref a1), .val (.ref a2), .val (.int p3), .val (.int kp)] []) st155 ?_
  have KS3 : Keep hS0 h155 [a1, ba] := KS2.wr W155 (Or.inl (List.mem_of_getElem? (i := 0) rfl))
  have F_bytes'157 : Fld Z h155 a1 "com/example/tools_to_sandbox/toolstosandbox/service/OutputCapture" "bytes" "[B" (.ref bb) := ((F_bytes.keep K150 (ninS n1c nin0)).other W155 (Or.inr (slot_ne (Or.inl (tw12 hw)) (Or.inl (tw21 hw)) (by decide) (t := (.array .byte)) (t' := .int) (by decide) (by decide))))
  have F_limit'158 : Fld Z h155 a1 "com/example/tools_to_sandbox/toolstosandbox/service/OutputCapture" "limit" "I" (.int li) := ((F_limit.keep K150 (ninS n1c nin0)).other W155 (Or.inr (slot_ne (Or.inr (tw14 hw)) (Or.inl (tw21 hw)) (by decide) (t := .int) (t' := .int) (by decide) (by decide))))
  have F_truncated'159 : Fld Z h155 a1 "com/example/tools_to_sandbox/toolstosandbox/service/OutputCapture" "truncated" "Z" ut := ((F_truncated.keep K150 (ninS n1c nin0)).other W155 (Or.inr (slot_ne (Or.inl (tw48 hw)) (Or.inl (tw21 hw)) (by decide) (t := .boolean) (t' := .int) (by decide) (by decide))))
  have V150'160 : Ab Z h155 bb n1 (fun x => if s0 ≤ x ∧ x < s0 + k then g (0 + (x - s0)) else f1 x) := (V150.other W155 (Ne.symm n1c))
  exact Goes.retV X155 hx hlk hrt (hb hby d3_72) (by decide : 1 ≤ 1) (by decide : 9 ≤ 9) (by (try rw [e155]); exact ⟨rfl, N155, KS3, bb, n1, _, k, _, ut, hk, own_add hsz hkp (by omega), gb, hor, hn1, hn1l, F_bytes'157, F_limit'158, F_size_a1_155, F_truncated'159, V150'160, fun i hi => by rw [if_neg (by omega)]; exact hf1 i hi, fun i hi => by rw [if_pos (by omega)]; congr 1; omega⟩)
set_option maxRecDepth 65536 in
set_option maxHeartbeats 40000000 in
theorem kp24 {p : Program} {l : Launch} {e : Env} {s : State} {m : MethodId} {args : Array Value} {below : List Frame} {meth : Method} {c : Code} {T0 : State} {locs : List Loc} {Z : State} {a0 : Array Value} {h0 : Heap} {n0 : Nat} {hS0 : Heap} (a1 a2 ba : Addr) (p3 li sz : Int32) (lm s0 ct n : Nat) (f g : Nat → Int32) (kp : Int32) (k : Nat) (ut : Value)
    (X0 : Stand p l e ({ frames := 3, cells := 1, slots := 9, locals := 49 } : Room) s m args below meth c T0 locs 0 0) (hx : p.tables.exec = Jvm.exec) (hZ : Z.Warmed39 s.vm) (hw : ∀ d ∈ tables_1, d.before a0 Z = true) (hby : c.code = prog_89_method_2_code) (hml : c.maxLocals = 4) (hown : s.vm.findClass "com/example/tools_to_sandbox/toolstosandbox/service/OutputCapture" = some m.cls) (e0 : T0.heap = h0) (Z0 : n0 ≤ h0.size) (N0 : Fr n0 locs) (hlk : meth.locks = false) (hrt : meth.sig.returnType = none) (E1 : Exa Z h0 a1 "com/example/tools_to_sandbox/toolstosandbox/service/OutputCapture") (g1 : n0 ≤ a1) (VB : Ab Z h0 a2 4 g) (hlm : li.toInt = (lm : Int)) (h9 : lm ≤ 9) (hsz : sz.toInt = (s0 : Int)) (hs0 : s0 ≤ lm) (hct : p3.toInt = (ct : Int)) (hct4 : ct ≤ 4) (n21 : a2 ≠ a1) (n2b : a2 ≠ ba) (n1b : a1 ≠ ba) (F_bytes : Fld Z h0 a1 "com/example/tools_to_sandbox/toolstosandbox/service/OutputCapture" "bytes" "[B" (.ref ba)) (F_limit : Fld Z h0 a1 "com/example/tools_to_sandbox/toolstosandbox/service/OutputCapture" "limit" "I" (.int li)) (F_size : Fld Z h0 a1 "com/example/tools_to_sandbox/toolstosandbox/service/OutputCapture" "size" "I" (.int sz)) (F_truncated : Fld Z h0 a1 "com/example/tools_to_sandbox/toolstosandbox/service/OutputCapture" "truncated" "Z" ut) (hkp : kp.toInt = (k : Int)) (hk : k ≤ ct ∧ k ≤ lm - s0 ∧ (k = ct ∨ k = lm - s0)) (V1 : Ab Z h0 ba n f) (hsn : s0 ≤ n) (hnl : n ≤ lm) (gb : n0 ≤ ba) (KS : Keep hS0 h0 [a1, ba]) :
    Goes p e below s (fun (v : Option Value) (h : Heap) (L : List Loc) => v = none ∧ Fr n0 L ∧ Keep hS0 h [a1, ba] ∧ ∃ (bb : Addr) (n' : Nat) (f' : Nat → Int32) (k : Nat) (sz' : Int32) (ut' : Value), (k ≤ ct ∧ k ≤ lm - s0 ∧ (k = ct ∨ k = lm - s0)) ∧ sz'.toInt = ((s0 + k : Nat) : Int) ∧ n0 ≤ bb ∧ (bb = ba ∨ hS0.size ≤ bb) ∧ s0 + k ≤ n' ∧ n' ≤ lm ∧ Fld Z h a1 "com/example/tools_to_sandbox/toolstosandbox/service/OutputCapture" "bytes" "[B" (.ref bb) ∧ Fld Z h a1 "com/example/tools_to_sandbox/toolstosandbox/service/OutputCapture" "limit" "I" (.int li) ∧ Fld Z h a1 "com/example/tools_to_sandbox/toolstosandbox/service/OutputCapture" "size" "I" (.int sz') ∧ Fld Z h a1 "com/example/tools_to_sandbox/toolstosandbox/service/OutputCapture" "truncated" "Z" ut' ∧ Ab Z h bb n' f' ∧ (∀ i, i < s0 → f' i = f i) ∧ ∀ i, i < k → f' (s0 + i) = g i) 1 9 T0 (mkF m 24 #[.val (.ref a1), .val (.ref a2), .val (.int p3), .val (.int kp)] []) := by
  have hG := Goes.bk p e below s (fun (v : Option Value) (h : Heap) (L : List Loc) => v = none ∧ Fr n0 L ∧ Keep hS0 h [a1, ba] ∧ ∃ (bb : Addr) (n' : Nat) (f' : Nat → Int32) (k : Nat) (sz' : Int32) (ut' : Value), (k ≤ ct ∧ k ≤ lm - s0 ∧ (k = ct ∨ k = lm - s0)) ∧ sz'.toInt = ((s0 + k : Nat) : Int) ∧ n0 ≤ bb ∧ (bb = ba ∨ hS0.size ≤ bb) ∧ s0 + k ≤ n' ∧ n' ≤ lm ∧ Fld Z h a1 "com/example/tools_to_sandbox/toolstosandbox/service/OutputCapture" "bytes" "[B" (.ref bb) ∧ Fld Z h a1 "com/example/tools_to_sandbox/toolstosandbox/service/OutputCapture" "limit" "I" (.int li) ∧ Fld Z h a1 "com/example/tools_to_sandbox/toolstosandbox/service/OutputCapture" "size" "I" (.int sz') ∧ Fld Z h a1 "com/example/tools_to_sandbox/toolstosandbox/service/OutputCapture" "truncated" "Z" ut' ∧ Ab Z h bb n' f' ∧ (∀ i, i < s0 → f' i = f i) ∧ ∀ i, i < k → f' (s0 + i) = g i) 1 9
  have hsk : (sz + kp).toInt = ((s0 + k : Nat) : Int) := own_add hsz hkp (by omega)
  have hnt : (Nat.toInt32 n).toInt = (n : Int) := own_ti (by omega)
  refine hG _ T0 _ (mkF m 25 #[.val (.ref a1), .val (.ref a2), .val (.int p3), .val (.int kp)] [(.ref a1)]) (fun t kq_ => XS.aloadN X0.here hx rfl (hb hby d3_24) rfl rfl kq_) ?_
  obtain ⟨T161, X161, e161, st161⟩ := getF X0 hx hZ hown (host := "") (Or.inl (tw20 hw)) Via.refl e0 F_size (g := (mkF m 25 #[.val (.ref a1), .val (.ref a2), .val (.int p3), .val (.int kp)] [(.ref a1)])) rfl rfl (hb hby d3_25)
  refine hG _ T161 _ (mkF m 28 #[.val (.ref a1), .val (.ref a2), .val (.int p3), .val (.int kp)] [(.int sz)]) st161 ?_
  refine hG _ T161 _ (mkF m 29 #[.val (.ref a1), .val (.ref a2), .val (.int p3), .val (.int kp)] [(.int kp), (.int sz)]) (fun t kq_ => XS.iloadN X161.here hx rfl (hb hby d3_28) rfl kq_) ?_
  refine hG _ T161 _ (mkF m 30 #[.val (.ref a1), .val (.ref a2), .val (.int p3), .val (.int kp)] [(.int (sz + kp))]) (fun t kq_ => XS.iadd X161.here hx rfl (hb hby d3_29) rfl kq_) ?_
  refine hG _ T161 _ (mkF m 31 #[.val (.ref a1), .val (.ref a2), .val (.int p3), .val (.int kp)] [(.ref a1), (.int (sz + kp))]) (fun t kq_ => XS.aloadN X161.here hx rfl (hb hby d3_30) rfl rfl kq_) ?_
  obtain ⟨T162, X162, e162, st162⟩ := getF X161 hx hZ hown (host := "") (Or.inl (tw11 hw)) Via.refl e161 F_bytes (g := (mkF m 31 #[.val (.ref a1), .val (.ref a2), .val (.int p3), .val (.int kp)] [(.ref a1), (.int (sz + kp))])) rfl rfl (hb hby d3_31)
  refine hG _ T162 _ (mkF m 34 #[.val (.ref a1), .val (.ref a2), .val (.int p3), .val (.int kp)] [(.ref ba), (.int (sz + kp))]) st162 ?_
  refine hG _ T162 _ (mkF m 35 #[.val (.ref a1), .val (.ref a2), .val (.int p3), .val (.int kp)] [(.int (Nat.toInt32 n)), (.int (sz + kp))]) (Av.len X162 hx hZ e162 V1.1 (g := (mkF m 34 #[.val (.ref a1), .val (.ref a2), .val (.int p3), .val (.int kp)] [(.ref ba), (.int (sz + kp))])) rfl rfl (hb hby d3_34)) ?_
  by_cases hc35 : (Nat.toInt32 n) < (sz + kp)
  · refine hG _ T162 _ (mkF m 38 #[.val (.ref a1), .val (.ref a2), .val (.int p3), .val (.int kp)] []) (fun t kq_ => XS.icmpNo X162.here hx rfl (hb hby d3_35) rfl (tlt hc35).2.2.2 kq_) ?_
    have hlt := (own_ltn hnt hsk).mp hc35
    refine hG _ T162 _ (mkF m 39 #[.val (.ref a1), .val (.ref a2), .val (.int p3), .val (.int kp)] [(.ref a1)]) (fun t kq_ => XS.aloadN X162.here hx rfl (hb hby d3_38) rfl rfl kq_) ?_
    refine hG _ T162 _ (mkF m 40 #[.val (.ref a1), .val (.ref a2), .val (.int p3), .val (.int kp)] [(.ref a1), (.ref a1)]) (fun t kq_ => XS.aloadN X162.here hx rfl (hb hby d3_39) rfl rfl kq_) ?_
    obtain ⟨T163, X163, e163, st163⟩ := getF X162 hx hZ hown (host := "") (Or.inl (tw20 hw)) Via.refl e162 F_size (g := (mkF m 40 #[.val (.ref a1), .val (.ref a2), .val (.int p3), .val (.int kp)] [(.ref a1), (.ref a1)])) rfl rfl (hb hby d3_40)
    refine hG _ T163 _ (mkF m 43 #[.val (.ref a1), .val (.ref a2), .val (.int p3), .val (.int kp)] [(.int sz), (.ref a1)]) st163 ?_
    refine hG _ T163 _ (mkF m 44 #[.val (.ref a1), .val (.ref a2), .val (.int p3), .val (.int kp)] [(.int kp), (.int sz), (.ref a1)]) (fun t kq_ => XS.iloadN X163.here hx rfl (hb hby d3_43) rfl kq_) ?_
    refine hG _ T163 _ (mkF m 45 #[.val (.ref a1), .val (.ref a2), .val (.int p3), .val (.int kp)] [(.int (sz + kp)), (.ref a1)]) (fun t kq_ => XS.iadd X163.here hx rfl (hb hby d3_44) rfl kq_) ?_
    obtain ⟨cq164, q164, q164'⟩ := E1.cell
    obtain ⟨_, _, ⟨T164, L164, k164, n164⟩, -, X164, ⟨Lc164, hQ164, l164, y164, z164⟩, st164⟩ := X163.privateBack hx (y := (⟨"com/example/tools_to_sandbox/toolstosandbox/service/OutputCapture", "grow", "(I)V"⟩ : MethodName)) hown (mvT hZ (tw26 hw)) (mvT hZ (tw27 hw)) (own_selfsel (y := (⟨"com/example/tools_to_sandbox/toolstosandbox/service/OutputCapture", "grow", "(I)V"⟩ : MethodName)) (mvT hZ (tw3 hw)) (mvP hZ (tw28 hw)) (mvT hZ (tw27 hw)) (by decide)) (Cond.privateMethod_at (mvP hZ (tw28 hw) (args := #[]))) (mvT hZ (tw29 hw)) (by decide) (backOf (W := 0) (rmG l Z a0 hw [] a1 (sz + kp) h0 n0 Z0 li (.int sz) ut ba n (s0 + k) lm f E1 g1 F_bytes F_limit F_size F_truncated V1 n1b (by omega) hsk hlm (by omega) h9) hZ (tw29 hw) (tw4 hw) (by decide) (by decide)) (g := (mkF m 45 #[.val (.ref a1), .val (.ref a2), .val (.int p3), .val (.int kp)] [(.int (sz + kp)), (.ref a1)])) rfl (by rw [hml]; rfl) (Steps.refl _) (a := a1) (by rw [e163]; exact q164) q164' (argsL := [(.int (sz + kp))]) (rest := []) (lenOf pd_3 rfl) rfl (by show 2 * 0 + _ ≤ _; exact Nat.le_of_eq rfl) (hb hby d3_45) (fun _ _ => ⟨rfl, e163, (by decide : 0 + 1 ≤ _), (by decide : 0 + 9 ≤ _)⟩)
    dsimp only [Pt.U, Pt.locs, Pt.cells, Pt.slots] at X164 l164 y164 z164 st164 hQ164
    subst l164 y164 z164
    obtain ⟨rfl, N164q, K2, bb, k2, gb2, hb2, hk21, hk22, G1, G2, G3, G4, V2⟩ := hQ164
    have N164 := Fr.app N0 N164q
    have Zs165 : n0 ≤ T164.heap.size := Nat.le_trans Z0 K2.1
    refine hG _ T164 _ (mkF m 48 #[.val (.ref a1), .val (.ref a2), .val (.int p3), .val (.int kp)] []) (fun t kq_ => st164.trans kq_) ?_
    have n1c : a1 ≠ bb := Nat.ne_of_lt (Nat.lt_of_lt_of_le E1.lt hb2)
    have n2c : a2 ≠ bb := Nat.ne_of_lt (Nat.lt_of_lt_of_le VB.lt hb2)
    have KS2 : Keep hS0 T164.heap [a1, ba] := KS.trans K2 (allS (P := fun x => x ∈ [a1, ba] ∨ hS0.size ≤ x) (Or.inl (List.mem_of_getElem? (i := 0) rfl)) all0)
    have E1'166 : Exa Z T164.heap a1 "com/example/tools_to_sandbox/toolstosandbox/service/OutputCapture" := (E1.keep K2)
    have VB'167 : Ab Z T164.heap a2 4 g := (VB.keep K2 (ninS n21 nin0))
    exact kp48 a1 a2 ba p3 li sz lm s0 ct n f g kp k k2 _ bb ut X164 hx hZ hw hby hml hown rfl Zs165 N164 hlk hrt E1'166 g1 VB'167 hlm h9 hsz hs0 hct hct4 n21 n2b n1b G1 G2 G3 G4 hkp hk V2 (fun i hi => if_pos (by omega)) hk21 hk22 gb2 n1c n2c (Or.inr (Nat.le_trans KS.1 hb2)) KS2 (by decide)
  · refine hG _ T162 _ (mkF m 48 #[.val (.ref a1), .val (.ref a2), .val (.int p3), .val (.int kp)] []) (fun t kq_ => XS.icmpYes X162.here hx rfl (pc0 := 35) (pc' := 48) rfl (hb hby d3_35) rfl (flt hc35).2.2.2 (by decide) (by decide) kq_) ?_
    have hlt : ¬ n < s0 + k := fun z => hc35 ((own_ltn hnt hsk).mpr z)
    have XM : Stand p l e ({ frames := 3, cells := 1, slots := 9, locals := 49 } : Room) s m args below meth c T162 locs 1 9 := X162.more (by decide) (by decide)
    exact kp48 a1 a2 ba p3 li sz lm s0 ct n f g kp k n f ba ut XM hx hZ hw hby hml hown e162 Z0 N0 hlk hrt E1 g1 VB hlm h9 hsz hs0 hct hct4 n21 n2b n1b F_bytes F_limit F_size F_truncated hkp hk V1 (fun i hi => rfl) (by omega) hnl gb n1b n2b (Or.inl rfl) KS (by decide)
set_option maxRecDepth 65536 in
set_option maxHeartbeats 40000000 in
theorem kp14 {p : Program} {l : Launch} {e : Env} {s : State} {m : MethodId} {args : Array Value} {below : List Frame} {meth : Method} {c : Code} {T0 : State} {locs : List Loc} {Z : State} {a0 : Array Value} {h0 : Heap} {n0 : Nat} {hS0 : Heap} (a1 a2 ba : Addr) (p3 li sz : Int32) (lm s0 ct n : Nat) (f g : Nat → Int32) (kp : Int32) (k : Nat) (ut : Value)
    (X0 : Stand p l e ({ frames := 3, cells := 1, slots := 9, locals := 49 } : Room) s m args below meth c T0 locs 0 0) (hx : p.tables.exec = Jvm.exec) (hZ : Z.Warmed39 s.vm) (hw : ∀ d ∈ tables_1, d.before a0 Z = true) (hby : c.code = prog_89_method_2_code) (hml : c.maxLocals = 4) (hown : s.vm.findClass "com/example/tools_to_sandbox/toolstosandbox/service/OutputCapture" = some m.cls) (e0 : T0.heap = h0) (Z0 : n0 ≤ h0.size) (N0 : Fr n0 locs) (hlk : meth.locks = false) (hrt : meth.sig.returnType = none) (E1 : Exa Z h0 a1 "com/example/tools_to_sandbox/toolstosandbox/service/OutputCapture") (g1 : n0 ≤ a1) (VB : Ab Z h0 a2 4 g) (hlm : li.toInt = (lm : Int)) (h9 : lm ≤ 9) (hsz : sz.toInt = (s0 : Int)) (hs0 : s0 ≤ lm) (hct : p3.toInt = (ct : Int)) (hct4 : ct ≤ 4) (n21 : a2 ≠ a1) (n2b : a2 ≠ ba) (n1b : a1 ≠ ba) (F_bytes : Fld Z h0 a1 "com/example/tools_to_sandbox/toolstosandbox/service/OutputCapture" "bytes" "[B" (.ref ba)) (F_limit : Fld Z h0 a1 "com/example/tools_to_sandbox/toolstosandbox/service/OutputCapture" "limit" "I" (.int li)) (F_size : Fld Z h0 a1 "com/example/tools_to_sandbox/toolstosandbox/service/OutputCapture" "size" "I" (.int sz)) (F_truncated : Fld Z h0 a1 "com/example/tools_to_sandbox/toolstosandbox/service/OutputCapture" "truncated" "Z" ut) (hkp : kp.toInt = (k : Int)) (hk : k ≤ ct ∧ k ≤ lm - s0 ∧ (k = ct ∨ k = lm - s0)) (V1 : Ab Z h0 ba n f) (hsn : s0 ≤ n) (hnl : n ≤ lm) (gb : n0 ≤ ba) (KS : Keep hS0 h0 [a1, ba]) :
    Goes p e below s (fun (v : Option Value) (h : Heap) (L : List Loc) => v = none ∧ Fr n0 L ∧ Keep hS0 h [a1, ba] ∧ ∃ (bb : Addr) (n' : Nat) (f' : Nat → Int32) (k : Nat) (sz' : Int32) (ut' : Value), (k ≤ ct ∧ k ≤ lm - s0 ∧ (k = ct ∨ k = lm - s0)) ∧ sz'.toInt = ((s0 + k : Nat) : Int) ∧ n0 ≤ bb ∧ (bb = ba ∨ hS0.size ≤ bb) ∧ s0 + k ≤ n' ∧ n' ≤ lm ∧ Fld Z h a1 "com/example/tools_to_sandbox/toolstosandbox/service/OutputCapture" "bytes" "[B" (.ref bb) ∧ Fld Z h a1 "com/example/tools_to_sandbox/toolstosandbox/service/OutputCapture" "limit" "I" (.int li) ∧ Fld Z h a1 "com/example/tools_to_sandbox/toolstosandbox/service/OutputCapture" "size" "I" (.int sz') ∧ Fld Z h a1 "com/example/tools_to_sandbox/toolstosandbox/service/OutputCapture" "truncated" "Z" ut' ∧ Ab Z h bb n' f' ∧ (∀ i, i < s0 → f' i = f i) ∧ ∀ i, i < k → f' (s0 + i) = g i) 1 9 T0 (mkF m 14 #[.val (.ref a1), .val (.ref a2), .val (.int p3), .val (.int kp)] []) := by
  have hG := Goes.bk p e below s (fun (v : Option Value) (h : Heap) (L : List Loc) => v = none ∧ Fr n0 L ∧ Keep hS0 h [a1, ba] ∧ ∃ (bb : Addr) (n' : Nat) (f' : Nat → Int32) (k : Nat) (sz' : Int32) (ut' : Value), (k ≤ ct ∧ k ≤ lm - s0 ∧ (k = ct ∨ k = lm - s0)) ∧ sz'.toInt = ((s0 + k : Nat) : Int) ∧ n0 ≤ bb ∧ (bb = ba ∨ hS0.size ≤ bb) ∧ s0 + k ≤ n' ∧ n' ≤ lm ∧ Fld Z h a1 "com/example/tools_to_sandbox/toolstosandbox/service/OutputCapture" "bytes" "[B" (.ref bb) ∧ Fld Z h a1 "com/example/tools_to_sandbox/toolstosandbox/service/OutputCapture" "limit" "I" (.int li) ∧ Fld Z h a1 "com/example/tools_to_sandbox/toolstosandbox/service/OutputCapture" "size" "I" (.int sz') ∧ Fld Z h a1 "com/example/tools_to_sandbox/toolstosandbox/service/OutputCapture" "truncated" "Z" ut' ∧ Ab Z h bb n' f' ∧ (∀ i, i < s0 → f' i = f i) ∧ ∀ i, i < k → f' (s0 + i) = g i) 1 9
  refine hG _ T0 _ (mkF m 15 #[.val (.ref a1), .val (.ref a2), .val (.int p3), .val (.int kp)] [(.int kp)]) (fun t kq_ => XS.iloadN X0.here hx rfl (hb hby d3_14) rfl kq_) ?_
  refine hG _ T0 _ (mkF m 16 #[.val (.ref a1), .val (.ref a2), .val (.int p3), .val (.int kp)] [(.int p3), (.int kp)]) (fun t kq_ => XS.iloadN X0.here hx rfl (hb hby d3_15) rfl kq_) ?_
  by_cases hc16 : kp < p3
  · refine hG _ T0 _ (mkF m 19 #[.val (.ref a1), .val (.ref a2), .val (.int p3), .val (.int kp)] []) (fun t kq_ => XS.icmpNo X0.here hx rfl (hb hby d3_16) rfl (tlt hc16).2.1 kq_) ?_
    refine hG _ T0 _ (mkF m 20 #[.val (.ref a1), .val (.ref a2), .val (.int p3), .val (.int kp)] [(.ref a1)]) (fun t kq_ => XS.aloadN X0.here hx rfl (hb hby d3_19) rfl rfl kq_) ?_
    refine hG _ T0 _ (mkF m 21 #[.val (.ref a1), .val (.ref a2), .val (.int p3), .val (.int kp)] [(.int (1 : Int32)), (.ref a1)]) (fun t kq_ => XS.iconst X0.here hx rfl (hb hby d3_20) kq_) ?_
    obtain ⟨T168, h168, X168, e168, W168, st168⟩ := putFN X0 hx hZ hown (tw47 hw) Via.refl e0 F_truncated E1 (Or.inl (tw48 hw)) (tw3 hw) (ty := .boolean) (v' := (.int (nar .boolean (1 : Int32)))) (by decide) rfl (fits_nar_bool _) (g := (mkF m 21 #[.val (.ref a1), .val (.ref a2), .val (.int p3), .val (.int kp)] [(.int (1 : Int32)), (.ref a1)])) rfl rfl (hb hby d3_21)
    have F_truncated_a1_168 : Fld Z h168 a1 "com/example/tools_to_sandbox/toolstosandbox/service/OutputCapture" "truncated" "Z" (.int (nar .boolean (1 : Int32))) := F_truncated.same W168
    have Zs169 : n0 ≤ h168.size := Nat.le_trans Z0 (Keep.of_wr W168).1
    have N168 := Fr.snoc X168 N0 g1
    refine hG _ T168 _ (mkF m 24 #[.val (.ref a1), .val (.ref a2), .val (.int p3), .val (.int kp)] []) st168 ?_
    have E1'170 : Exa Z h168 a1 "com/example/tools_to_sandbox/toolstosandbox/service/OutputCapture" := (E1.wr W168)
    have VB'171 : Ab Z h168 a2 4 g := (VB.other W168 n21)
    have F_bytes'172 : Fld Z h168 a1 "com/example/tools_to_sandbox/toolstosandbox/service/OutputCapture" "bytes" "[B" (.ref ba) := (F_bytes.other W168 (Or.inr (slot_ne (Or.inl (tw12 hw)) (Or.inl (tw48 hw)) (by decide) (t := (.array .byte)) (t' := .boolean) (by decide) (by decide))))
    have F_limit'173 : Fld Z h168 a1 "com/example/tools_to_sandbox/toolstosandbox/service/OutputCapture" "limit" "I" (.int li) := (F_limit.other W168 (Or.inr (slot_ne (Or.inr (tw14 hw)) (Or.inl (tw48 hw)) (by decide) (t := .int) (t' := .boolean) (by decide) (by decide))))
    have F_size'174 : Fld Z h168 a1 "com/example/tools_to_sandbox/toolstosandbox/service/OutputCapture" "size" "I" (.int sz) := (F_size.other W168 (Or.inr (slot_ne (Or.inl (tw21 hw)) (Or.inl (tw48 hw)) (by decide) (t := .int) (t' := .boolean) (by decide) (by decide))))
    have V1'175 : Ab Z h168 ba n f := (V1.other W168 (Ne.symm n1b))
    exact kp24 a1 a2 ba p3 li sz lm s0 ct n f g kp k _ X168 hx hZ hw hby hml hown e168 Zs169 N168 hlk hrt E1'170 g1 VB'171 hlm h9 hsz hs0 hct hct4 n21 n2b n1b F_bytes'172 F_limit'173 F_size'174 F_truncated_a1_168 hkp hk V1'175 hsn hnl gb (KS.wr W168 (Or.inl (List.mem_of_getElem? (i := 0) rfl)))
  · refine hG _ T0 _ (mkF m 24 #[.val (.ref a1), .val (.ref a2), .val (.int p3), .val (.int kp)] []) (fun t kq_ => XS.icmpYes X0.here hx rfl (pc0 := 16) (pc' := 24) rfl (hb hby d3_16) rfl (flt hc16).2.1 (by decide) (by decide) kq_) ?_
    exact kp24 a1 a2 ba p3 li sz lm s0 ct n f g kp k _ X0 hx hZ hw hby hml hown e0 Z0 N0 hlk hrt E1 g1 VB hlm h9 hsz hs0 hct hct4 n21 n2b n1b F_bytes F_limit F_size F_truncated hkp hk V1 hsn hnl gb KS
theorem ef_rmK (m : MethodId) (x0 : Addr) (x1 : Addr) (x2 : Int32) : entryFrame m #[(.ref x0), (.ref x1), (.int x2)] 4 = mkF m 0 #[.val (.ref x0), .val (.ref x1), .val (.int x2), .unset] [] := by first | (simp [entryFrame, mkF, argsToLocals, Value.category]; done) | rfl
theorem pn_rmK : plainName "com/example/tools_to_sandbox/toolstosandbox/service/OutputCapture" = true := by first | (simp [plainName, overriddenIn]; done) | decide +kernel
def Q_rmK (Z : State) (a1 : Addr) (a2 : Addr) (p3 : Int32) (li sz : Int32) (ba : Addr) (lm s0 ct n : Nat) (f g : Nat → Int32) (ut : Value) (h0 : Heap) (n0 : Nat) (v : Option Value) (h : Heap) (L : List Loc) : Prop := v = none ∧ Fr n0 L ∧ Keep h0 h [a1, ba] ∧ ∃ (bb : Addr) (n' : Nat) (f' : Nat → Int32) (k : Nat) (sz' : Int32) (ut' : Value), (k ≤ ct ∧ k ≤ lm - s0 ∧ (k = ct ∨ k = lm - s0)) ∧ sz'.toInt = ((s0 + k : Nat) : Int) ∧ n0 ≤ bb ∧ (bb = ba ∨ h0.size ≤ bb) ∧ s0 + k ≤ n' ∧ n' ≤ lm ∧ Fld Z h a1 "com/example/tools_to_sandbox/toolstosandbox/service/OutputCapture" "bytes" "[B" (.ref bb) ∧ Fld Z h a1 "com/example/tools_to_sandbox/toolstosandbox/service/OutputCapture" "limit" "I" (.int li) ∧ Fld Z h a1 "com/example/tools_to_sandbox/toolstosandbox/service/OutputCapture" "size" "I" (.int sz') ∧ Fld Z h a1 "com/example/tools_to_sandbox/toolstosandbox/service/OutputCapture" "truncated" "Z" ut' ∧ Ab Z h bb n' f' ∧ (∀ i, i < s0 → f' i = f i) ∧ ∀ i, i < k → f' (s0 + i) = g i
set_option maxRecDepth 65536 in
set_option maxHeartbeats 40000000 in
theorem rmK (l : Launch) (Z : State) (a0 : Array Value) (hw : ∀ d ∈ tables_1, d.before a0 Z = true) (ws : List Jvm.Cond) (a1 : Addr) (a2 : Addr) (p3 : Int32) (h0 : Heap) (n0 : Nat) (Z0 : n0 ≤ h0.size) (li sz : Int32) (ba : Addr) (lm s0 ct n : Nat) (f g : Nat → Int32) (ut : Value) (E1 : Exa Z h0 a1 "com/example/tools_to_sandbox/toolstosandbox/service/OutputCapture") (g1 : n0 ≤ a1) (VB : Ab Z h0 a2 4 g) (hlm : li.toInt = (lm : Int)) (h9 : lm ≤ 9) (hsz : sz.toInt = (s0 : Int)) (hs0 : s0 ≤ lm) (hct : p3.toInt = (ct : Int)) (hct4 : ct ≤ 4) (n21 : a2 ≠ a1) (n2b : a2 ≠ ba) (n1b : a1 ≠ ba) (F_bytes : Fld Z h0 a1 "com/example/tools_to_sandbox/toolstosandbox/service/OutputCapture" "bytes" "[B" (.ref ba)) (F_limit : Fld Z h0 a1 "com/example/tools_to_sandbox/toolstosandbox/service/OutputCapture" "limit" "I" (.int li)) (F_size : Fld Z h0 a1 "com/example/tools_to_sandbox/toolstosandbox/service/OutputCapture" "size" "I" (.int sz)) (F_truncated : Fld Z h0 a1 "com/example/tools_to_sandbox/toolstosandbox/service/OutputCapture" "truncated" "Z" ut) (V1 : Ab Z h0 ba n f) (hsn : s0 ≤ n) (hnl : n ≤ lm) (gb : n0 ≤ ba) :
    MetFree l (⟨"com/example/tools_to_sandbox/toolstosandbox/service/OutputCapture", "keep", "([BI)V"⟩ : MethodName) (head1 (Jvm.Cond.code (⟨"com/example/tools_to_sandbox/toolstosandbox/service/OutputCapture", "keep", "([BI)V"⟩ : MethodName) prog_89_method_2_code 4 none :: ws) ({ frames := 3, cells := 1, slots := 9, locals := 49 } : Room)) (fun a U => a = #[(.ref a1), (.ref a2), (.int p3)] ∧ Z.Warmed39 U.vm ∧ U.heap = h0) (fun _ _ _ _ _ => True) (fun _ U o U' => ∃ v L, o = .returned v ∧ Q_rmK Z a1 a2 p3 li sz ba lm s0 ct n f g ut h0 n0 v U'.heap L ∧ FrameEnd U o U' L ({ frames := 3, cells := 1, slots := 9, locals := 49 } : Room).cells ({ frames := 3, cells := 1, slots := 9, locals := 49 } : Room).slots) := by
  refine MetFree.of_bodySF (plainFor_of_name pn_rmK) hisR ?_
  intro p e s m args below meth c s₁ Bd hml0 hP hK
  obtain ⟨rfl, hZ, hh⟩ := hP
  have hx := Bd.exec
  have hby := Bd.bytes
  have hml : c.maxLocals = 4 := hml0
  have hown : s.vm.findClass "com/example/tools_to_sandbox/toolstosandbox/service/OutputCapture" = some m.cls := findClass_of_methodNamed Bd.named
  have hnm := (name_of_methodNamed Bd.named Bd.method).1
  have X0 : Stand p l e ({ frames := 3, cells := 1, slots := 9, locals := 49 } : Room) s m #[(.ref a1), (.ref a2), (.int p3)] below meth c s₁ [] 0 0 := Stand.of_body Bd
  have e0 : s₁.heap = h0 := by rw [← hh, Bd.state]; rfl
  have N0 := Fr.nil n0
  have hlk : meth.locks = false := BodyLoose.notSynchronized Bd
  have hrt := Bd.returns
  have hG := Goes.bk p e below s (fun (v : Option Value) (h : Heap) (L : List Loc) => v = none ∧ Fr n0 L ∧ Keep h0 h [a1, ba] ∧ ∃ (bb : Addr) (n' : Nat) (f' : Nat → Int32) (k : Nat) (sz' : Int32) (ut' : Value), (k ≤ ct ∧ k ≤ lm - s0 ∧ (k = ct ∨ k = lm - s0)) ∧ sz'.toInt = ((s0 + k : Nat) : Int) ∧ n0 ≤ bb ∧ (bb = ba ∨ h0.size ≤ bb) ∧ s0 + k ≤ n' ∧ n' ≤ lm ∧ Fld Z h a1 "com/example/tools_to_sandbox/toolstosandbox/service/OutputCapture" "bytes" "[B" (.ref bb) ∧ Fld Z h a1 "com/example/tools_to_sandbox/toolstosandbox/service/OutputCapture" "limit" "I" (.int li) ∧ Fld Z h a1 "com/example/tools_to_sandbox/toolstosandbox/service/OutputCapture" "size" "I" (.int sz') ∧ Fld Z h a1 "com/example/tools_to_sandbox/toolstosandbox/service/OutputCapture" "truncated" "Z" ut' ∧ Ab Z h bb n' f' ∧ (∀ i, i < s0 → f' i = f i) ∧ ∀ i, i < k → f' (s0 + i) = g i) 1 9
  show Goes p e below s (fun (v : Option Value) (h : Heap) (L : List Loc) => v = none ∧ Fr n0 L ∧ Keep h0 h [a1, ba] ∧ ∃ (bb : Addr) (n' : Nat) (f' : Nat → Int32) (k : Nat) (sz' : Int32) (ut' : Value), (k ≤ ct ∧ k ≤ lm - s0 ∧ (k = ct ∨ k = lm - s0)) ∧ sz'.toInt = ((s0 + k : Nat) : Int) ∧ n0 ≤ bb ∧ (bb = ba ∨ h0.size ≤ bb) ∧ s0 + k ≤ n' ∧ n' ≤ lm ∧ Fld Z h a1 "com/example/tools_to_sandbox/toolstosandbox/service/OutputCapture" "bytes" "[B" (.ref bb) ∧ Fld Z h a1 "com/example/tools_to_sandbox/toolstosandbox/service/OutputCapture" "limit" "I" (.int li) ∧ Fld Z h a1 "com/example/tools_to_sandbox/toolstosandbox/service/OutputCapture" "size" "I" (.int sz') ∧ Fld Z h a1 "com/example/tools_to_sandbox/toolstosandbox/service/OutputCapture" "truncated" "Z" ut' ∧ Ab Z h bb n' f' ∧ (∀ i, i < s0 → f' i = f i) ∧ ∀ i, i < k → f' (s0 + i) = g i) 1 9 s₁ (entryFrame m #[(.ref a1), (.ref a2), (.int p3)] 4)
  rw [ef_rmK m a1 a2 p3]
  refine hG _ s₁ _ (mkF m 1 #[.val (.ref a1), .val (.ref a2), .val (.int p3), .unset] [(.int p3)]) (fun t kq_ => XS.iloadN X0.here hx rfl (hb hby d3_0) rfl kq_) ?_
  refine hG _ s₁ _ (mkF m 2 #[.val (.ref a1), .val (.ref a2), .val (.int p3), .unset] [(.ref a1), (.int p3)]) (fun t kq_ => XS.aloadN X0.here hx rfl (hb hby d3_1) rfl rfl kq_) ?_
  obtain ⟨T176, X176, e176, st176⟩ := getF X0 hx hZ hown (host := "") (Or.inl (tw13 hw)) Via.refl e0 F_limit (g := (mkF m 2 #[.val (.ref a1), .val (.ref a2), .val (.int p3), .unset] [(.ref a1), (.int p3)])) rfl rfl (hb hby d3_2)
  refine hG _ T176 _ (mkF m 5 #[.val (.ref a1), .val (.ref a2), .val (.int p3), .unset] [(.int li), (.int p3)]) st176 ?_
  refine hG _ T176 _ (mkF m 6 #[.val (.ref a1), .val (.ref a2), .val (.int p3), .unset] [(.ref a1), (.int li), (.int p3)]) (fun t kq_ => XS.aloadN X176.here hx rfl (hb hby d3_5) rfl rfl kq_) ?_
  obtain ⟨T177, X177, e177, st177⟩ := getF X176 hx hZ hown (host := "") (Or.inl (tw20 hw)) Via.refl e176 F_size (g := (mkF m 6 #[.val (.ref a1), .val (.ref a2), .val (.int p3), .unset] [(.ref a1), (.int li), (.int p3)])) rfl rfl (hb hby d3_6)
  refine hG _ T177 _ (mkF m 9 #[.val (.ref a1), .val (.ref a2), .val (.int p3), .unset] [(.int sz), (.int li), (.int p3)]) st177 ?_
  refine hG _ T177 _ (mkF m 10 #[.val (.ref a1), .val (.ref a2), .val (.int p3), .unset] [(.int (li - sz)), (.int p3)]) (fun t kq_ => XS.isub X177.here hx rfl (hb hby d3_9) rfl kq_) ?_
  obtain ⟨_, _, ⟨T178, L178, k178, n178⟩, -, X178, ⟨Lc178, hQ178, l178, y178, z178⟩, st178⟩ := Jvm.LawKit.callS X177 hx (y := (⟨"java/lang/Math", "min", "(II)I"⟩ : MethodName)) hown (mvT hZ (tw22 hw)) (mvT hZ (tw23 hw)) (mvT hZ (tw24 hw)) (mvT hZ (tw25 hw)) (by decide) (backOf (W := 0) (rmMin l Z a0 hw [] p3 (li - sz) h0 n0 Z0) hZ (tw25 hw) (tw24 hw) (by decide) (by decide)) (g := (mkF m 10 #[.val (.ref a1), .val (.ref a2), .val (.int p3), .unset] [(.int (li - sz)), (.int p3)])) rfl (by rw [hml]; rfl) (argsL := [(.int p3), (.int (li - sz))]) (rest := []) (lenOf pd_0 rfl) rfl (by show 2 * 0 + _ ≤ _; exact Nat.le_of_eq rfl) (hb hby d3_10) (fun _ _ => ⟨rfl, e177, (by decide : 0 + 0 ≤ _), (by decide : 0 + 0 ≤ _)⟩)
  dsimp only [Pt.U, Pt.locs, Pt.cells, Pt.slots] at X178 l178 y178 z178 st178 hQ178
  subst l178 y178 z178
  obtain ⟨rfl, N178q, hq1⟩ := hQ178
  have N178 := Fr.app N0 N178q
  have e178 : T178.heap = h0 := hq1
  refine hG _ T178 _ (mkF m 13 #[.val (.ref a1), .val (.ref a2), .val (.int p3), .unset] [(.int (if (li - sz) < p3 then (li - sz) else p3))]) (fun t kq_ => st178 _ kq_) ?_
  refine hG _ T178 _ (mkF m 14 #[.val (.ref a1), .val (.ref a2), .val (.int p3), .val (.int (if (li - sz) < p3 then (li - sz) else p3))] []) (fun t kq_ => XS.istoreN X178.here hx rfl (hb hby d3_13) rfl (l' := #[.val (.ref a1), .val (.ref a2), .val (.int p3), .val (.int (if (li - sz) < p3 then (li - sz) else p3))]) rfl kq_) ?_
  obtain ⟨k, hkp, hk⟩ := own_min hct (own_sub hlm hsz hs0)
  exact kp14 a1 a2 ba p3 li sz lm s0 ct n f g _ k ut X178 hx hZ hw hby hml hown e178 Z0 N178 hlk hrt E1 g1 VB hlm h9 hsz hs0 hct hct4 n21 n2b n1b F_bytes F_limit F_size F_truncated hkp hk V1 hsn hnl gb (Keep.refl _ _)
theorem ef_rmT (m : MethodId) (x0 : Addr) : entryFrame m #[(.ref x0)] 1 = mkF m 0 #[.val (.ref x0)] [] := by first | (simp [entryFrame, mkF, argsToLocals, Value.category]; done) | rfl
theorem pn_rmT : plainName "com/example/tools_to_sandbox/toolstosandbox/service/OutputCapture" = true := by first | (simp [plainName, overriddenIn]; done) | decide +kernel
def Q_rmT (Z : State) (a1 : Addr) (sz : Int32) (ba : Addr) (s0 n : Nat) (f : Nat → Int32) (h0 : Heap) (n0 : Nat) (v : Option Value) (h : Heap) (L : List Loc) : Prop := ∃ r, v = some (.ref r) ∧ Fr n0 L ∧ Keep h0 h [] ∧ h0.size ≤ r ∧ Ab Z h r s0 f
set_option maxRecDepth 65536 in
set_option maxHeartbeats 40000000 in
theorem rmT (l : Launch) (Z : State) (a0 : Array Value) (hw : ∀ d ∈ tables_1, d.before a0 Z = true) (ws : List Jvm.Cond) (a1 : Addr) (h0 : Heap) (n0 : Nat) (Z0 : n0 ≤ h0.size) (sz : Int32) (ba : Addr) (s0 n : Nat) (f : Nat → Int32) (F_b : Fld Z h0 a1 "com/example/tools_to_sandbox/toolstosandbox/service/OutputCapture" "bytes" "[B" (.ref ba)) (F_z : Fld Z h0 a1 "com/example/tools_to_sandbox/toolstosandbox/service/OutputCapture" "size" "I" (.int sz)) (V1 : Ab Z h0 ba n f) (hsz : sz.toInt = (s0 : Int)) (hsn : s0 ≤ n) (hn9 : n ≤ 9) :
    MetFree l (⟨"com/example/tools_to_sandbox/toolstosandbox/service/OutputCapture", "toByteArray", "()[B"⟩ : MethodName) (head1 (Jvm.Cond.code (⟨"com/example/tools_to_sandbox/toolstosandbox/service/OutputCapture", "toByteArray", "()[B"⟩ : MethodName) prog_89_method_3_code 1 (some (.array .byte)) :: ws) ({ frames := 2, cells := 1, slots := 9, locals := 32 } : Room)) (fun a U => a = #[(.ref a1)] ∧ Z.Warmed39 U.vm ∧ U.heap = h0) (fun _ _ _ _ _ => True) (fun _ U o U' => ∃ v L, o = .returned v ∧ Q_rmT Z a1 sz ba s0 n f h0 n0 v U'.heap L ∧ FrameEnd U o U' L ({ frames := 2, cells := 1, slots := 9, locals := 32 } : Room).cells ({ frames := 2, cells := 1, slots := 9, locals := 32 } : Room).slots) := by
  refine MetFree.of_bodySF (plainFor_of_name pn_rmT) hisR ?_
  intro p e s m args below meth c s₁ Bd hml0 hP hK
  obtain ⟨rfl, hZ, hh⟩ := hP
  have hx := Bd.exec
  have hby := Bd.bytes
  have hml : c.maxLocals = 1 := hml0
  have hown : s.vm.findClass "com/example/tools_to_sandbox/toolstosandbox/service/OutputCapture" = some m.cls := findClass_of_methodNamed Bd.named
  have hnm := (name_of_methodNamed Bd.named Bd.method).1
  have X0 : Stand p l e ({ frames := 2, cells := 1, slots := 9, locals := 32 } : Room) s m #[(.ref a1)] below meth c s₁ [] 0 0 := Stand.of_body Bd
  have e0 : s₁.heap = h0 := by rw [← hh, Bd.state]; rfl
  have N0 := Fr.nil n0
  have hlk : meth.locks = false := BodyLoose.notSynchronized Bd
  have hrt := Bd.returns
  have hG := Goes.bk p e below s (fun (v : Option Value) (h : Heap) (L : List Loc) => ∃ r, v = some (.ref r) ∧ Fr n0 L ∧ Keep h0 h [] ∧ h0.size ≤ r ∧ Ab Z h r s0 f) 1 9
  show Goes p e below s (fun (v : Option Value) (h : Heap) (L : List Loc) => ∃ r, v = some (.ref r) ∧ Fr n0 L ∧ Keep h0 h [] ∧ h0.size ≤ r ∧ Ab Z h r s0 f) 1 9 s₁ (entryFrame m #[(.ref a1)] 1)
  rw [ef_rmT m a1]
  have K0 : Keep h0 h0 [] := Keep.refl h0 []
  refine hG _ s₁ _ (mkF m 1 #[.val (.ref a1)] [(.ref a1)]) (fun t kq_ => XS.aloadN X0.here hx rfl (hb hby d9_0) rfl rfl kq_) ?_
  obtain ⟨T179, X179, e179, st179⟩ := getF X0 hx hZ hown (host := "") (Or.inl (tw11 hw)) Via.refl e0 F_b (g := (mkF m 1 #[.val (.ref a1)] [(.ref a1)])) rfl rfl (hb hby d9_1)
  refine hG _ T179 _ (mkF m 4 #[.val (.ref a1)] [(.ref ba)]) st179 ?_
  refine hG _ T179 _ (mkF m 5 #[.val (.ref a1)] [(.ref a1), (.ref ba)]) (fun t kq_ => XS.aloadN X179.here hx rfl (hb hby d9_4) rfl rfl kq_) ?_
  obtain ⟨T180, X180, e180, st180⟩ := getF X179 hx hZ hown (host := "") (Or.inl (tw20 hw)) Via.refl e179 F_z (g := (mkF m 5 #[.val (.ref a1)] [(.ref a1), (.ref ba)])) rfl rfl (hb hby d9_5)
  refine hG _ T180 _ (mkF m 8 #[.val (.ref a1)] [(.int sz), (.ref ba)]) st180 ?_
  obtain ⟨_, _, ⟨T181, L181, k181, n181⟩, -, X181, ⟨Lc181, hQ181, l181, y181, z181⟩, st181⟩ := Jvm.LawKit.callS X180 hx (y := (⟨"java/util/Arrays", "copyOf", "([BI)[B"⟩ : MethodName)) hown (mvT hZ (tw37 hw)) (mvT hZ (tw38 hw)) (mvT hZ (tw39 hw)) (mvT hZ (tw40 hw)) (by decide) (backOf (W := 0) (rmCopy l Z a0 hw [] ba sz h0 n0 Z0 n s0 f V1 hsz (by omega) hn9) hZ (tw40 hw) (tw39 hw) (by decide) (by decide)) (g := (mkF m 8 #[.val (.ref a1)] [(.int sz), (.ref ba)])) rfl (by rw [hml]; rfl) (argsL := [(.ref ba), (.int sz)]) (rest := []) (lenOf pd_2 rfl) rfl (by show 2 * 0 + _ ≤ _; exact Nat.le_of_eq rfl) (hb hby d9_8) (fun _ _ => ⟨rfl, e180, (by decide : 0 + 1 ≤ _), (by decide : 0 + 9 ≤ _)⟩)
  dsimp only [Pt.U, Pt.locs, Pt.cells, Pt.slots] at X181 l181 y181 z181 st181 hQ181
  subst l181 y181 z181
  obtain ⟨bb, rfl, N181q, K3, hb3, V3⟩ := hQ181
  have N181 := Fr.app N0 N181q
  have Zs182 : n0 ≤ T181.heap.size := Nat.le_trans Z0 K3.1
  have KK183 : Keep h0 T181.heap [] := K0.trans K3 all0
  refine hG _ T181 _ (mkF m 11 #[.val (.ref a1)] [(.ref bb)]) (fun t kq_ => st181 _ kq_) ?_
  exact Goes.retA X181 hx hlk (t := (.array .byte)) rfl hrt (hb hby d9_11) (by decide : 1 ≤ 1) (by decide : 9 ≤ 9) ⟨bb, rfl, N181, K3, hb3, V3.cong (fun i hi => if_pos (by omega))⟩
def ex (g1 g2 : Nat → Int32) (k1 k2 i : Nat) : Int32 := if i < k1 then g1 i else if i < k1 + k2 then g2 (i - k1) else g1 (i - k1 - k2)
theorem ef_rmE (m : MethodId) (x0 : Int32) (x1 : Int32) (x2 : Int32) (x3 : Addr) (x4 : Addr) : entryFrame m #[(.int x0), (.int x1), (.int x2), (.ref x3), (.ref x4)] 5 = mkF m 0 #[.val (.int x0), .val (.int x1), .val (.int x2), .val (.ref x3), .val (.ref x4)] [] := by first | (simp [entryFrame, mkF, argsToLocals, Value.category]; done) | rfl
theorem pn_rmE : plainName "com/example/tools_to_sandbox/toolstosandbox/service/OutputCaptureToByteArrayPinLaw" = true := by first | (simp [plainName, overriddenIn]; done) | decide +kernel
def Q_rmE (Z : State) (p1 : Int32) (p2 : Int32) (p3 : Int32) (a4 : Addr) (a5 : Addr) (i k1 k2 : Nat) (g1 g2 : Nat → Int32) (h0 : Heap) (n0 : Nat) (v : Option Value) (h : Heap) (L : List Loc) : Prop := v = some (.int (ex g1 g2 k1 k2 i)) ∧ Fr n0 L ∧ h = h0
set_option maxRecDepth 65536 in
set_option maxHeartbeats 40000000 in
theorem rmE (l : Launch) (Z : State) (a0 : Array Value) (hw : ∀ d ∈ tables_1, d.before a0 Z = true) (ws : List Jvm.Cond) (p1 : Int32) (p2 : Int32) (p3 : Int32) (a4 : Addr) (a5 : Addr) (h0 : Heap) (n0 : Nat) (Z0 : n0 ≤ h0.size) (i k1 k2 : Nat) (g1 g2 : Nat → Int32) (hi : p1.toInt = (i : Int)) (hk1 : p2.toInt = (k1 : Int)) (hk2 : p3.toInt = (k2 : Int)) (l1 : k1 ≤ 4) (l2 : k2 ≤ 4) (hin : i < k1 + k2 + 4) (V1 : Ab Z h0 a4 4 g1) (V2 : Ab Z h0 a5 4 g2) :
    MetFree l (⟨"com/example/tools_to_sandbox/toolstosandbox/service/OutputCaptureToByteArrayPinLaw", "exp", "(III[B[B)B"⟩ : MethodName) (head1 (Jvm.Cond.code (⟨"com/example/tools_to_sandbox/toolstosandbox/service/OutputCaptureToByteArrayPinLaw", "exp", "(III[B[B)B"⟩ : MethodName) method_2_code 5 (some .byte) :: ws) ({ frames := 0, cells := 0, slots := 0, locals := 0 } : Room)) (fun a U => a = #[(.int p1), (.int p2), (.int p3), (.ref a4), (.ref a5)] ∧ Z.Warmed39 U.vm ∧ U.heap = h0) (fun _ _ _ _ _ => True) (fun _ U o U' => ∃ v L, o = .returned v ∧ Q_rmE Z p1 p2 p3 a4 a5 i k1 k2 g1 g2 h0 n0 v U'.heap L ∧ FrameEnd U o U' L ({ frames := 0, cells := 0, slots := 0, locals := 0 } : Room).cells ({ frames := 0, cells := 0, slots := 0, locals := 0 } : Room).slots) := by
  refine MetFree.of_bodySF (plainFor_of_name pn_rmE) hisR ?_
  intro p e s m args below meth c s₁ Bd hml0 hP hK
  obtain ⟨rfl, hZ, hh⟩ := hP
  have hx := Bd.exec
  have hby := Bd.bytes
  have hml : c.maxLocals = 5 := hml0
  have hown : s.vm.findClass "com/example/tools_to_sandbox/toolstosandbox/service/OutputCaptureToByteArrayPinLaw" = some m.cls := findClass_of_methodNamed Bd.named
  have hnm := (name_of_methodNamed Bd.named Bd.method).1
  have X0 : Stand p l e ({ frames := 0, cells := 0, slots := 0, locals := 0 } : Room) s m #[(.int p1), (.int p2), (.int p3), (.ref a4), (.ref a5)] below meth c s₁ [] 0 0 := Stand.of_body Bd
  have e0 : s₁.heap = h0 := by rw [← hh, Bd.state]; rfl
  have N0 := Fr.nil n0
  have hlk : meth.locks = false := BodyLoose.notSynchronized Bd
  have hrt := Bd.returns
  have hG := Goes.bk p e below s (fun (v : Option Value) (h : Heap) (L : List Loc) => v = some (.int (ex g1 g2 k1 k2 i)) ∧ Fr n0 L ∧ h = h0) 0 0
  show Goes p e below s (fun (v : Option Value) (h : Heap) (L : List Loc) => v = some (.int (ex g1 g2 k1 k2 i)) ∧ Fr n0 L ∧ h = h0) 0 0 s₁ (entryFrame m #[(.int p1), (.int p2), (.int p3), (.ref a4), (.ref a5)] 5)
  rw [ef_rmE m p1 p2 p3 a4 a5]
  refine hG _ s₁ _ (mkF m 1 #[.val (.int p1), .val (.int p2), .val (.int p3), .val (.ref a4), .val (.ref a5)] [(.int p1)]) (fun t kq_ => XS.iloadN X0.here hx rfl (hb hby d11_0) rfl kq_) ?_
  refine hG _ s₁ _ (mkF m 2 #[.val (.int p1), .val (.int p2), .val (.int p3), .val (.ref a4), .val (.ref a5)] [(.int p2), (.int p1)]) (fun t kq_ => XS.iloadN X0.here hx rfl (hb hby d11_1) rfl kq_) ?_
  by_cases hc2 : p1 < p2
  · refine hG _ s₁ _ (mkF m 5 #[.val (.int p1), .val (.int p2), .val (.int p3), .val (.ref a4), .val (.ref a5)] []) (fun t kq_ => XS.icmpNo X0.here hx rfl (hb hby d11_2) rfl (tlt hc2).2.1 kq_) ?_
    have hlt := (own_ltn hi hk1).mp hc2
    refine hG _ s₁ _ (mkF m 6 #[.val (.int p1), .val (.int p2), .val (.int p3), .val (.ref a4), .val (.ref a5)] [(.ref a4)]) (fun t kq_ => XS.aloadN X0.here hx rfl (hb hby d11_5) rfl rfl kq_) ?_
    refine hG _ s₁ _ (mkF m 7 #[.val (.int p1), .val (.int p2), .val (.int p3), .val (.ref a4), .val (.ref a5)] [(.int p1), (.ref a4)]) (fun t kq_ => XS.iloadN X0.here hx rfl (hb hby d11_6) rfl kq_) ?_
    refine hG _ s₁ _ (mkF m 8 #[.val (.int p1), .val (.int p2), .val (.int p3), .val (.ref a4), .val (.ref a5)] [(.int (g1 i))]) (Av.ldB X0 hx hZ e0 V1.1 (j := p1) (i := i) hi (by omega) (g := (mkF m 7 #[.val (.int p1), .val (.int p2), .val (.int p3), .val (.ref a4), .val (.ref a5)] [(.int p1), (.ref a4)])) rfl rfl (hb hby d11_7)) ?_
    exact Goes.retN X0 hx hlk (t := .byte) hrt (by simp) (hb hby d11_8) (by decide : 0 ≤ 0) (by decide : 0 ≤ 0) (by (try rw [e0]); exact ⟨by rw [own_nby (V1.2.2 i (by omega)), ex, if_pos hlt], N0, rfl⟩)
  · refine hG _ s₁ _ (mkF m 9 #[.val (.int p1), .val (.int p2), .val (.int p3), .val (.ref a4), .val (.ref a5)] []) (fun t kq_ => XS.icmpYes X0.here hx rfl (pc0 := 2) (pc' := 9) rfl (hb hby d11_2) rfl (flt hc2).2.1 (by decide) (by decide) kq_) ?_
    have hge : ¬ i < k1 := fun z => hc2 ((own_ltn hi hk1).mpr z)
    have hk12 : (p2 + p3).toInt = ((k1 + k2 : Nat) : Int) := own_add hk1 hk2 (by omega)
    have hs1 : (p1 - p2).toInt = ((i - k1 : Nat) : Int) := own_sub hi hk1 (by omega)
    refine hG _ s₁ _ (mkF m 10 #[.val (.int p1), .val (.int p2), .val (.int p3), .val (.ref a4), .val (.ref a5)] [(.int p1)]) (fun t kq_ => XS.iloadN X0.here hx rfl (hb hby d11_9) rfl kq_) ?_
    refine hG _ s₁ _ (mkF m 11 #[.val (.int p1), .val (.int p2), .val (.int p3), .val (.ref a4), .val (.ref a5)] [(.int p2), (.int p1)]) (fun t kq_ => XS.iloadN X0.here hx rfl (hb hby d11_10) rfl kq_) ?_
    refine hG _ s₁ _ (mkF m 12 #[.val (.int p1), .val (.int p2), .val (.int p3), .val (.ref a4), .val (.ref a5)] [(.int p3), (.int p2), (.int p1)]) (fun t kq_ => XS.iloadN X0.here hx rfl (hb hby d11_11) rfl kq_) ?_
    refine hG _ s₁ _ (mkF m 13 #[.val (.int p1), .val (.int p2), .val (.int p3), .val (.ref a4), .val (.ref a5)] [(.int (p2 + p3)), (.int p1)]) (fun t kq_ => XS.iadd X0.here hx rfl (hb hby d11_12) rfl kq_) ?_
    by_cases hc13 : p1 < (p2 + p3)
    · refine hG _ s₁ _ (mkF m 16 #[.val (.int p1), .val (.int p2), .val (.int p3), .val (.ref a4), .val (.ref a5)] []) (fun t kq_ => XS.icmpNo X0.here hx rfl (hb hby d11_13) rfl (tlt hc13).2.1 kq_) ?_
      have hlt := (own_ltn hi hk12).mp hc13
      refine hG _ s₁ _ (mkF m 18 #[.val (.int p1), .val (.int p2), .val (.int p3), .val (.ref a4), .val (.ref a5)] [(.ref a5)]) (fun t kq_ => XS.aload X0.here hx rfl (hb hby d11_16) rfl rfl kq_) ?_
      refine hG _ s₁ _ (mkF m 19 #[.val (.int p1), .val (.int p2), .val (.int p3), .val (.ref a4), .val (.ref a5)] [(.int p1), (.ref a5)]) (fun t kq_ => XS.iloadN X0.here hx rfl (hb hby d11_18) rfl kq_) ?_
      refine hG _ s₁ _ (mkF m 20 #[.val (.int p1), .val (.int p2), .val (.int p3), .val (.ref a4), .val (.ref a5)] [(.int p2), (.int p1), (.ref a5)]) (fun t kq_ => XS.iloadN X0.here hx rfl (hb hby d11_19) rfl kq_) ?_
      refine hG _ s₁ _ (mkF m 21 #[.val (.int p1), .val (.int p2), .val (.int p3), .val (.ref a4), .val (.ref a5)] [(.int (p1 - p2)), (.ref a5)]) (fun t kq_ => XS.isub X0.here hx rfl (hb hby d11_20) rfl kq_) ?_
      refine hG _ s₁ _ (mkF m 22 #[.val (.int p1), .val (.int p2), .val (.int p3), .val (.ref a4), .val (.ref a5)] [(.int (g2 (i - k1)))]) (Av.ldB X0 hx hZ e0 V2.1 (j := (p1 - p2)) (i := (i - k1)) hs1 (by omega) (g := (mkF m 21 #[.val (.int p1), .val (.int p2), .val (.int p3), .val (.ref a4), .val (.ref a5)] [(.int (p1 - p2)), (.ref a5)])) rfl rfl (hb hby d11_21)) ?_
      exact Goes.retN X0 hx hlk (t := .byte) hrt (by simp) (hb hby d11_22) (by decide : 0 ≤ 0) (by decide : 0 ≤ 0) (by (try rw [e0]); exact ⟨by rw [own_nby (V2.2.2 _ (by omega)), ex, if_neg hge, if_pos hlt], N0, rfl⟩)
    · refine hG _ s₁ _ (mkF m 23 #[.val (.int p1), .val (.int p2), .val (.int p3), .val (.ref a4), .val (.ref a5)] []) (fun t kq_ => XS.icmpYes X0.here hx rfl (pc0 := 13) (pc' := 23) rfl (hb hby d11_13) rfl (flt hc13).2.1 (by decide) (by decide) kq_) ?_
      have hge2 : ¬ i < k1 + k2 := fun z => hc13 ((own_ltn hi hk12).mpr z)
      have hs2 : ((p1 - p2) - p3).toInt = ((i - k1 - k2 : Nat) : Int) := own_sub hs1 hk2 (by omega)
      refine hG _ s₁ _ (mkF m 24 #[.val (.int p1), .val (.int p2), .val (.int p3), .val (.ref a4), .val (.ref a5)] [(.ref a4)]) (fun t kq_ => XS.aloadN X0.here hx rfl (hb hby d11_23) rfl rfl kq_) ?_
      refine hG _ s₁ _ (mkF m 25 #[.val (.int p1), .val (.int p2), .val (.int p3), .val (.ref a4), .val (.ref a5)] [(.int p1), (.ref a4)]) (fun t kq_ => XS.iloadN X0.here hx rfl (hb hby d11_24) rfl kq_) ?_
      refine hG _ s₁ _ (mkF m 26 #[.val (.int p1), .val (.int p2), .val (.int p3), .val (.ref a4), .val (.ref a5)] [(.int p2), (.int p1), (.ref a4)]) (fun t kq_ => XS.iloadN X0.here hx rfl (hb hby d11_25) rfl kq_) ?_
      refine hG _ s₁ _ (mkF m 27 #[.val (.int p1), .val (.int p2), .val (.int p3), .val (.ref a4), .val (.ref a5)] [(.int (p1 - p2)), (.ref a4)]) (fun t kq_ => XS.isub X0.here hx rfl (hb hby d11_26) rfl kq_) ?_
      refine hG _ s₁ _ (mkF m 28 #[.val (.int p1), .val (.int p2), .val (.int p3), .val (.ref a4), .val (.ref a5)] [(.int p3), (.int (p1 - p2)), (.ref a4)]) (fun t kq_ => XS.iloadN X0.here hx rfl (hb hby d11_27) rfl kq_) ?_
      refine hG _ s₁ _ (mkF m 29 #[.val (.int p1), .val (.int p2), .val (.int p3), .val (.ref a4), .val (.ref a5)] [(.int ((p1 - p2) - p3)), (.ref a4)]) (fun t kq_ => XS.isub X0.here hx rfl (hb hby d11_28) rfl kq_) ?_
      refine hG _ s₁ _ (mkF m 30 #[.val (.int p1), .val (.int p2), .val (.int p3), .val (.ref a4), .val (.ref a5)] [(.int (g1 (i - k1 - k2)))]) (Av.ldB X0 hx hZ e0 V1.1 (j := ((p1 - p2) - p3)) (i := (i - k1 - k2)) hs2 (by omega) (g := (mkF m 29 #[.val (.int p1), .val (.int p2), .val (.int p3), .val (.ref a4), .val (.ref a5)] [(.int ((p1 - p2) - p3)), (.ref a4)])) rfl rfl (hb hby d11_29)) ?_
      exact Goes.retN X0 hx hlk (t := .byte) hrt (by simp) (hb hby d11_30) (by decide : 0 ≤ 0) (by decide : 0 ≤ 0) (by (try rw [e0]); exact ⟨by rw [own_nby (V1.2.2 _ (by omega)), ex, if_neg hge, if_neg hge2], N0, rfl⟩)
theorem ef_rmAt (m : MethodId) (x0 : Addr) (x1 : Int32) (x2 : Int32) (x3 : Int32) (x4 : Addr) (x5 : Addr) : entryFrame m #[(.ref x0), (.int x1), (.int x2), (.int x3), (.ref x4), (.ref x5)] 6 = mkF m 0 #[.val (.ref x0), .val (.int x1), .val (.int x2), .val (.int x3), .val (.ref x4), .val (.ref x5)] [] := by first | (simp [entryFrame, mkF, argsToLocals, Value.category]; done) | rfl
theorem pn_rmAt : plainName "com/example/tools_to_sandbox/toolstosandbox/service/OutputCaptureToByteArrayPinLaw" = true := by first | (simp [plainName, overriddenIn]; done) | decide +kernel
def Q_rmAt (Z : State) (a1 : Addr) (p2 : Int32) (p3 : Int32) (p4 : Int32) (a5 : Addr) (a6 : Addr) (i k1 k2 n : Nat) (f g1 g2 : Nat → Int32) (h0 : Heap) (n0 : Nat) (v : Option Value) (h : Heap) (L : List Loc) : Prop := v = some (.int 1) ∧ Fr n0 L ∧ h = h0
set_option maxRecDepth 65536 in
set_option maxHeartbeats 40000000 in
theorem rmAt (l : Launch) (Z : State) (a0 : Array Value) (hw : ∀ d ∈ tables_1, d.before a0 Z = true) (ws : List Jvm.Cond) (a1 : Addr) (p2 : Int32) (p3 : Int32) (p4 : Int32) (a5 : Addr) (a6 : Addr) (h0 : Heap) (n0 : Nat) (Z0 : n0 ≤ h0.size) (i k1 k2 n : Nat) (f g1 g2 : Nat → Int32) (hi : p2.toInt = (i : Int)) (hk1 : p3.toInt = (k1 : Int)) (hk2 : p4.toInt = (k2 : Int)) (l1 : k1 ≤ 4) (l2 : k2 ≤ 4) (hn : n ≤ 9) (hin : i < n → i < k1 + k2 + 4 ∧ f i = ex g1 g2 k1 k2 i) (V0 : Ab Z h0 a1 n f) (V1 : Ab Z h0 a5 4 g1) (V2 : Ab Z h0 a6 4 g2) :
    MetFree l (⟨"com/example/tools_to_sandbox/toolstosandbox/service/OutputCaptureToByteArrayPinLaw", "at", "([BIII[B[B)Z"⟩ : MethodName) (head1 (Jvm.Cond.code (⟨"com/example/tools_to_sandbox/toolstosandbox/service/OutputCaptureToByteArrayPinLaw", "at", "([BIII[B[B)Z"⟩ : MethodName) method_3_code 6 (some .boolean) :: ws) ({ frames := 1, cells := 0, slots := 0, locals := 17 } : Room)) (fun a U => a = #[(.ref a1), (.int p2), (.int p3), (.int p4), (.ref a5), (.ref a6)] ∧ Z.Warmed39 U.vm ∧ U.heap = h0) (fun _ _ _ _ _ => True) (fun _ U o U' => ∃ v L, o = .returned v ∧ Q_rmAt Z a1 p2 p3 p4 a5 a6 i k1 k2 n f g1 g2 h0 n0 v U'.heap L ∧ FrameEnd U o U' L ({ frames := 1, cells := 0, slots := 0, locals := 17 } : Room).cells ({ frames := 1, cells := 0, slots := 0, locals := 17 } : Room).slots) := by
  refine MetFree.of_bodySF (plainFor_of_name pn_rmAt) hisR ?_
  intro p e s m args below meth c s₁ Bd hml0 hP hK
  obtain ⟨rfl, hZ, hh⟩ := hP
  have hx := Bd.exec
  have hby := Bd.bytes
  have hml : c.maxLocals = 6 := hml0
  have hown : s.vm.findClass "com/example/tools_to_sandbox/toolstosandbox/service/OutputCaptureToByteArrayPinLaw" = some m.cls := findClass_of_methodNamed Bd.named
  have hnm := (name_of_methodNamed Bd.named Bd.method).1
  have X0 : Stand p l e ({ frames := 1, cells := 0, slots := 0, locals := 17 } : Room) s m #[(.ref a1), (.int p2), (.int p3), (.int p4), (.ref a5), (.ref a6)] below meth c s₁ [] 0 0 := Stand.of_body Bd
  have e0 : s₁.heap = h0 := by rw [← hh, Bd.state]; rfl
  have N0 := Fr.nil n0
  have hlk : meth.locks = false := BodyLoose.notSynchronized Bd
  have hrt := Bd.returns
  have hG := Goes.bk p e below s (fun (v : Option Value) (h : Heap) (L : List Loc) => v = some (.int 1) ∧ Fr n0 L ∧ h = h0) 0 0
  show Goes p e below s (fun (v : Option Value) (h : Heap) (L : List Loc) => v = some (.int 1) ∧ Fr n0 L ∧ h = h0) 0 0 s₁ (entryFrame m #[(.ref a1), (.int p2), (.int p3), (.int p4), (.ref a5), (.ref a6)] 6)
  rw [ef_rmAt m a1 p2 p3 p4 a5 a6]
  have hnt : (Nat.toInt32 n).toInt = (n : Int) := own_ti (by omega)
  refine hG _ s₁ _ (mkF m 1 #[.val (.ref a1), .val (.int p2), .val (.int p3), .val (.int p4), .val (.ref a5), .val (.ref a6)] [(.int p2)]) (fun t kq_ => XS.iloadN X0.here hx rfl (hb hby d10_0) rfl kq_) ?_
  refine hG _ s₁ _ (mkF m 2 #[.val (.ref a1), .val (.int p2), .val (.int p3), .val (.int p4), .val (.ref a5), .val (.ref a6)] [(.ref a1), (.int p2)]) (fun t kq_ => XS.aloadN X0.here hx rfl (hb hby d10_1) rfl rfl kq_) ?_
  refine hG _ s₁ _ (mkF m 3 #[.val (.ref a1), .val (.int p2), .val (.int p3), .val (.int p4), .val (.ref a5), .val (.ref a6)] [(.int (Nat.toInt32 n)), (.int p2)]) (Av.len X0 hx hZ e0 V0.1 (g := (mkF m 2 #[.val (.ref a1), .val (.int p2), .val (.int p3), .val (.int p4), .val (.ref a5), .val (.ref a6)] [(.ref a1), (.int p2)])) rfl rfl (hb hby d10_2)) ?_
  by_cases hc3 : p2 < (Nat.toInt32 n)
  · refine hG _ s₁ _ (mkF m 6 #[.val (.ref a1), .val (.int p2), .val (.int p3), .val (.int p4), .val (.ref a5), .val (.ref a6)] []) (fun t kq_ => XS.icmpNo X0.here hx rfl (hb hby d10_3) rfl (tlt hc3).2.1 kq_) ?_
    have hlt := (own_ltn hi hnt).mp hc3
    obtain ⟨q1, q2⟩ := hin hlt
    refine hG _ s₁ _ (mkF m 7 #[.val (.ref a1), .val (.int p2), .val (.int p3), .val (.int p4), .val (.ref a5), .val (.ref a6)] [(.ref a1)]) (fun t kq_ => XS.aloadN X0.here hx rfl (hb hby d10_6) rfl rfl kq_) ?_
    refine hG _ s₁ _ (mkF m 8 #[.val (.ref a1), .val (.int p2), .val (.int p3), .val (.int p4), .val (.ref a5), .val (.ref a6)] [(.int p2), (.ref a1)]) (fun t kq_ => XS.iloadN X0.here hx rfl (hb hby d10_7) rfl kq_) ?_
    refine hG _ s₁ _ (mkF m 9 #[.val (.ref a1), .val (.int p2), .val (.int p3), .val (.int p4), .val (.ref a5), .val (.ref a6)] [(.int (f i))]) (Av.ldB X0 hx hZ e0 V0.1 (j := p2) (i := i) hi hlt (g := (mkF m 8 #[.val (.ref a1), .val (.int p2), .val (.int p3), .val (.int p4), .val (.ref a5), .val (.ref a6)] [(.int p2), (.ref a1)])) rfl rfl (hb hby d10_8)) ?_
    refine hG _ s₁ _ (mkF m 10 #[.val (.ref a1), .val (.int p2), .val (.int p3), .val (.int p4), .val (.ref a5), .val (.ref a6)] [(.int p2), (.int (f i))]) (fun t kq_ => XS.iloadN X0.here hx rfl (hb hby d10_9) rfl kq_) ?_
    refine hG _ s₁ _ (mkF m 11 #[.val (.ref a1), .val (.int p2), .val (.int p3), .val (.int p4), .val (.ref a5), .val (.ref a6)] [(.int p3), (.int p2), (.int (f i))]) (fun t kq_ => XS.iloadN X0.here hx rfl (hb hby d10_10) rfl kq_) ?_
    refine hG _ s₁ _ (mkF m 12 #[.val (.ref a1), .val (.int p2), .val (.int p3), .val (.int p4), .val (.ref a5), .val (.ref a6)] [(.int p4), (.int p3), (.int p2), (.int (f i))]) (fun t kq_ => XS.iloadN X0.here hx rfl (hb hby d10_11) rfl kq_) ?_
    refine hG _ s₁ _ (mkF m 14 #[.val (.ref a1), .val (.int p2), .val (.int p3), .val (.int p4), .val (.ref a5), .val (.ref a6)] [(.ref a5), (.int p4), (.int p3), (.int p2), (.int (f i))]) (fun t kq_ => XS.aload X0.here hx rfl (hb hby d10_12) rfl rfl kq_) ?_
    refine hG _ s₁ _ (mkF m 16 #[.val (.ref a1), .val (.int p2), .val (.int p3), .val (.int p4), .val (.ref a5), .val (.ref a6)] [(.ref a6), (.ref a5), (.int p4), (.int p3), (.int p2), (.int (f i))]) (fun t kq_ => XS.aload X0.here hx rfl (hb hby d10_14) rfl rfl kq_) ?_
    obtain ⟨_, _, ⟨T184, L184, k184, n184⟩, -, X184, ⟨Lc184, hQ184, l184, y184, z184⟩, st184⟩ := Jvm.LawKit.callS X0 hx (y := (⟨"com/example/tools_to_sandbox/toolstosandbox/service/OutputCaptureToByteArrayPinLaw", "exp", "(III[B[B)B"⟩ : MethodName)) hown (mvT hZ (tw68 hw)) (mvT hZ (tw69 hw)) (mvT hZ (tw66 hw)) (mvT hZ (tw70 hw)) (by decide) (backOf (W := 1) (rmE l Z a0 hw [] p2 p3 p4 a5 a6 h0 n0 Z0 i k1 k2 g1 g2 hi hk1 hk2 l1 l2 q1 V1 V2) hZ (tw70 hw) (tw66 hw) (by decide) (by decide)) (g := (mkF m 16 #[.val (.ref a1), .val (.int p2), .val (.int p3), .val (.int p4), .val (.ref a5), .val (.ref a6)] [(.ref a6), (.ref a5), (.int p4), (.int p3), (.int p2), (.int (f i))])) rfl (by rw [hml]; rfl) (argsL := [(.int p2), (.int p3), (.int p4), (.ref a5), (.ref a6)]) (rest := [(.int (f i))]) (lenOf pd_4 rfl) rfl (by show 2 * 0 + _ ≤ _; exact Nat.le_of_eq rfl) (hb hby d10_16) (fun _ _ => ⟨rfl, e0, (by decide : 0 + 0 ≤ _), (by decide : 0 + 0 ≤ _)⟩)
    dsimp only [Pt.U, Pt.locs, Pt.cells, Pt.slots] at X184 l184 y184 z184 st184 hQ184
    subst l184 y184 z184
    obtain ⟨rfl, N184q, hq1⟩ := hQ184
    have N184 := Fr.app N0 N184q
    have e184 : T184.heap = h0 := hq1
    refine hG _ T184 _ (mkF m 19 #[.val (.ref a1), .val (.int p2), .val (.int p3), .val (.int p4), .val (.ref a5), .val (.ref a6)] [(.int (ex g1 g2 k1 k2 i)), (.int (f i))]) (fun t kq_ => st184 _ kq_) ?_
    refine hG _ T184 _ (mkF m 22 #[.val (.ref a1), .val (.int p2), .val (.int p3), .val (.int p4), .val (.ref a5), .val (.ref a6)] []) (fun t kq_ => XS.icmpNo X184.here hx rfl (hb hby d10_19) rfl (teq q2).2 kq_) ?_
    refine hG _ T184 _ (mkF m 23 #[.val (.ref a1), .val (.int p2), .val (.int p3), .val (.int p4), .val (.ref a5), .val (.ref a6)] [(.int (1 : Int32))]) (fun t kq_ => XS.iconst X184.here hx rfl (hb hby d10_22) kq_) ?_
    refine hG _ T184 _ (mkF m 27 #[.val (.ref a1), .val (.int p2), .val (.int p3), .val (.int p4), .val (.ref a5), .val (.ref a6)] [(.int (1 : Int32))]) (fun t kq_ => XS.goto X184.here hx rfl (pc0 := 23) (pc' := 27) rfl (hb hby d10_23) (by decide) (by decide) kq_) ?_
    exact Goes.retN X184 hx hlk (t := .boolean) hrt (by simp) (hb hby d10_27) (by decide : 0 ≤ 0) (by decide : 0 ≤ 0) (by (try rw [e184]); exact ⟨rfl, N184, rfl⟩)
  · refine hG _ s₁ _ (mkF m 22 #[.val (.ref a1), .val (.int p2), .val (.int p3), .val (.int p4), .val (.ref a5), .val (.ref a6)] []) (fun t kq_ => XS.icmpYes X0.here hx rfl (pc0 := 3) (pc' := 22) rfl (hb hby d10_3) rfl (flt hc3).2.1 (by decide) (by decide) kq_) ?_
    refine hG _ s₁ _ (mkF m 23 #[.val (.ref a1), .val (.int p2), .val (.int p3), .val (.int p4), .val (.ref a5), .val (.ref a6)] [(.int (1 : Int32))]) (fun t kq_ => XS.iconst X0.here hx rfl (hb hby d10_22) kq_) ?_
    refine hG _ s₁ _ (mkF m 27 #[.val (.ref a1), .val (.int p2), .val (.int p3), .val (.int p4), .val (.ref a5), .val (.ref a6)] [(.int (1 : Int32))]) (fun t kq_ => XS.goto X0.here hx rfl (pc0 := 23) (pc' := 27) rfl (hb hby d10_23) (by decide) (by decide) kq_) ?_
    exact Goes.retN X0 hx hlk (t := .boolean) hrt (by simp) (hb hby d10_27) (by decide : 0 ≤ 0) (by decide : 0 ≤ 0) (by (try rw [e0]); exact ⟨rfl, N0, rfl⟩)
def cont (g1 g2 : Nat → Int32) (k1 k2 k3 : Nat) (f : Nat → Int32) : Prop := ∀ i, i < k1 + k2 + k3 → f i = ex g1 g2 k1 k2 i
theorem own_cont {g1 g2 f1 f2 f3 : Nat → Int32} {k1 k2 k3 : Nat} (h1 : ∀ i, i < k1 → f1 (0 + i) = g1 i) (h2 : ∀ i, i < k1 → f2 i = f1 i) (h3 : ∀ i, i < k2 → f2 (k1 + i) = g2 i) (h4 : ∀ i, i < k1 + k2 → f3 i = f2 i) (h5 : ∀ i, i < k3 → f3 (k1 + k2 + i) = g1 i) : cont g1 g2 k1 k2 k3 f3 := fun i hi => by
  unfold ex
  by_cases q1 : i < k1
  · rw [if_pos q1, h4 i (by omega), h2 i q1]; have := h1 i q1; rwa [Nat.zero_add] at this
  · rw [if_neg q1]
    by_cases q2 : i < k1 + k2
    · rw [if_pos q2, h4 i q2]; have := h3 (i - k1) (by omega); rwa [show k1 + (i - k1) = i by omega] at this
    · rw [if_neg q2]; have := h5 (i - k1 - k2) (by omega); rwa [show k1 + k2 + (i - k1 - k2) = i by omega] at this
set_option maxRecDepth 65536 in
set_option maxHeartbeats 40000000 in
theorem lw417 {p : Program} {l : Launch} {e : Env} {s : State} {m : MethodId} {args : Array Value} {below : List Frame} {meth : Method} {c : Code} {T0 : State} {locs : List Loc} {Z : State} {a0 : Array Value} {h0 : Heap} {n0 : Nat} (q1 : Int64) (p2 p3 p4 p5 : Int32) (lim c1 c2 c3 : Int32) (b1 b2 : Addr) (g1 g2 : Nat → Int32) (lm m1 m2 m3 : Nat) (k1 k2 k3 nn : Nat) (f3 : Nat → Int32) (ob bb : Addr) (sz j1 j2 j3 jn : Int32) (r : Addr)
    (X0 : Stand p l e room_1 s m args below meth c T0 locs 8 48) (hx : p.tables.exec = Jvm.exec) (hZ : Z.Warmed39 s.vm) (hw : ∀ d ∈ tables_1, d.before a0 Z = true) (hby : c.code = code) (hml : c.maxLocals = 20) (hown : s.vm.findClass "com/example/tools_to_sandbox/toolstosandbox/service/OutputCaptureToByteArrayPinLaw" = some m.cls) (e0 : T0.heap = h0) (Z0 : n0 ≤ h0.size) (N0 : Fr n0 locs) (hlk : meth.locks = false) (hrt : meth.sig.returnType = ret) (hlm : lim.toInt = (lm : Int)) (h9 : lm ≤ 9) (hc1 : c1.toInt = (m1 : Int)) (hc2 : c2.toInt = (m2 : Int)) (hc3 : c3.toInt = (m3 : Int)) (hm1 : m1 ≤ 4) (hm2 : m2 ≤ 4) (hm3 : m3 ≤ 4) (E1 : Exa Z h0 ob "com/example/tools_to_sandbox/toolstosandbox/service/OutputCapture") (F_b : Fld Z h0 ob "com/example/tools_to_sandbox/toolstosandbox/service/OutputCapture" "bytes" "[B" (.ref bb)) (F_z : Fld Z h0 ob "com/example/tools_to_sandbox/toolstosandbox/service/OutputCapture" "size" "I" (.int sz)) (V3 : Ab Z h0 bb nn f3) (V1 : Ab Z h0 b1 4 g1) (V2 : Ab Z h0 b2 4 g2) (hsz : sz.toInt = ((k1 + k2 + k3 : Nat) : Int)) (hsn : k1 + k2 + k3 ≤ nn) (hnn : nn ≤ 9) (hj1 : j1.toInt = (k1 : Int)) (hj2 : j2.toInt = (k2 : Int)) (hjn : jn.toInt = ((k1 + k2 + k3 : Nat) : Int)) (l1 : k1 ≤ 4) (l2 : k2 ≤ 4) (l3 : k3 ≤ 4) (hcon : cont g1 g2 k1 k2 k3 f3) :
    Goes p e below s (fun (v : Option Value) (h : Heap) (L : List Loc) => v = some (.int 1) ∧ Fr n0 L) 32 192 T0 (mkF m 417 #[.val (.long q1), .second, .val (.int p2), .val (.int p3), .val (.int p4), .val (.int p5), .val (.int lim), .val (.int c1), .val (.int c2), .val (.int c3), .val (.ref b1), .val (.ref b2), .val (.ref ob), .val (.int j1), .val (.int j2), .val (.int j3), .val (.int jn), .val (.ref r), .val (.int (1 : Int32)), .unset] []) := by
  have hG := Goes.bk p e below s (fun (v : Option Value) (h : Heap) (L : List Loc) => v = some (.int 1) ∧ Fr n0 L) 32 192
  have hnt : (Nat.toInt32 (k1 + k2 + k3)).toInt = ((k1 + k2 + k3 : Nat) : Int) := own_ti (by omega)
  refine hG _ T0 _ (mkF m 419 #[.val (.long q1), .second, .val (.int p2), .val (.int p3), .val (.int p4), .val (.int p5), .val (.int lim), .val (.int c1), .val (.int c2), .val (.int c3), .val (.ref b1), .val (.ref b2), .val (.ref ob), .val (.int j1), .val (.int j2), .val (.int j3), .val (.int jn), .val (.ref r), .val (.int (1 : Int32)), .unset] [(.ref ob)]) (fun t kq_ => XS.aload X0.here hx rfl (hb hby at_417) rfl rfl kq_) ?_
  obtain ⟨cq185, kq185, q185a, q185b, q185c⟩ := isOf hZ e0 E1
  obtain ⟨_, _, ⟨T185, L185, k185, n185⟩, -, X185, ⟨Lc185, hQ185, l185, y185, z185⟩, st185⟩ := X0.virtualBack hx (y := (⟨"com/example/tools_to_sandbox/toolstosandbox/service/OutputCapture", "toByteArray", "()[B"⟩ : MethodName)) (z := (⟨"com/example/tools_to_sandbox/toolstosandbox/service/OutputCapture", "toByteArray", "()[B"⟩ : MethodName)) hown (mvT hZ (tw50 hw)) (mvT hZ (tw51 hw)) (notFace_of_selects (args := #[]) (mvT hZ (tw53 hw))) (mvT hZ (tw53 hw)) (mvT hZ (tw52 hw)) (by decide) (backOf (W := 0) (rmT l Z a0 hw [] ob h0 n0 Z0 sz bb (k1 + k2 + k3) nn f3 F_b F_z V3 hsz hsn hnn) hZ (tw54 hw) (tw4 hw) (by decide) (by decide)) q185a q185c (g := (mkF m 419 #[.val (.long q1), .second, .val (.int p2), .val (.int p3), .val (.int p4), .val (.int p5), .val (.int lim), .val (.int c1), .val (.int c2), .val (.int c3), .val (.ref b1), .val (.ref b2), .val (.ref ob), .val (.int j1), .val (.int j2), .val (.int j3), .val (.int jn), .val (.ref r), .val (.int (1 : Int32)), .unset] [(.ref ob)])) rfl (by rw [hml]; rfl) (Steps.refl _) (argsL := []) (rest := []) (lenOf pd_5 rfl) rfl (by show 2 * 0 + _ ≤ _; exact Nat.le_of_eq rfl) (hb hby at_419) (fun _ _ => ⟨rfl, e0, (by decide : 8 + 1 ≤ _), (by decide : 48 + 9 ≤ _)⟩)
  dsimp only [Pt.U, Pt.locs, Pt.cells, Pt.slots] at X185 l185 y185 z185 st185 hQ185
  subst l185 y185 z185
  obtain ⟨r2, rfl, N185q, Kr2, hbr2, Vr2⟩ := hQ185
  have N185 := Fr.app N0 N185q
  have Zs186 : n0 ≤ T185.heap.size := Nat.le_trans Z0 Kr2.1
  refine hG _ T185 _ (mkF m 422 #[.val (.long q1), .second, .val (.int p2), .val (.int p3), .val (.int p4), .val (.int p5), .val (.int lim), .val (.int c1), .val (.int c2), .val (.int c3), .val (.ref b1), .val (.ref b2), .val (.ref ob), .val (.int j1), .val (.int j2), .val (.int j3), .val (.int jn), .val (.ref r), .val (.int (1 : Int32)), .unset] [(.ref r2)]) (fun t kq_ => st185.trans kq_) ?_
  refine hG _ T185 _ (mkF m 424 #[.val (.long q1), .second, .val (.int p2), .val (.int p3), .val (.int p4), .val (.int p5), .val (.int lim), .val (.int c1), .val (.int c2), .val (.int c3), .val (.ref b1), .val (.ref b2), .val (.ref ob), .val (.int j1), .val (.int j2), .val (.int j3), .val (.int jn), .val (.ref r), .val (.int (1 : Int32)), .val (.ref r2)] []) (fun t kq_ => XS.astore X185.here hx rfl (hb hby at_422) rfl rfl (l' := #[.val (.long q1), .second, .val (.int p2), .val (.int p3), .val (.int p4), .val (.int p5), .val (.int lim), .val (.int c1), .val (.int c2), .val (.int c3), .val (.ref b1), .val (.ref b2), .val (.ref ob), .val (.int j1), .val (.int j2), .val (.int j3), .val (.int jn), .val (.ref r), .val (.int (1 : Int32)), .val (.ref r2)]) rfl kq_) ?_
  refine hG _ T185 _ (mkF m 426 #[.val (.long q1), .second, .val (.int p2), .val (.int p3), .val (.int p4), .val (.int p5), .val (.int lim), .val (.int c1), .val (.int c2), .val (.int c3), .val (.ref b1), .val (.ref b2), .val (.ref ob), .val (.int j1), .val (.int j2), .val (.int j3), .val (.int jn), .val (.ref r), .val (.int (1 : Int32)), .val (.ref r2)] [(.ref r2)]) (fun t kq_ => XS.aload X185.here hx rfl (hb hby at_424) rfl rfl kq_) ?_
  refine hG _ T185 _ (mkF m 427 #[.val (.long q1), .second, .val (.int p2), .val (.int p3), .val (.int p4), .val (.int p5), .val (.int lim), .val (.int c1), .val (.int c2), .val (.int c3), .val (.ref b1), .val (.ref b2), .val (.ref ob), .val (.int j1), .val (.int j2), .val (.int j3), .val (.int jn), .val (.ref r), .val (.int (1 : Int32)), .val (.ref r2)] [(.int (Nat.toInt32 (k1 + k2 + k3)))]) (Av.len X185 hx hZ rfl Vr2.1 (g := (mkF m 426 #[.val (.long q1), .second, .val (.int p2), .val (.int p3), .val (.int p4), .val (.int p5), .val (.int lim), .val (.int c1), .val (.int c2), .val (.int c3), .val (.ref b1), .val (.ref b2), .val (.ref ob), .val (.int j1), .val (.int j2), .val (.int j3), .val (.int jn), .val (.ref r), .val (.int (1 : Int32)), .val (.ref r2)] [(.ref r2)])) rfl rfl (hb hby at_426)) ?_
  refine hG _ T185 _ (mkF m 429 #[.val (.long q1), .second, .val (.int p2), .val (.int p3), .val (.int p4), .val (.int p5), .val (.int lim), .val (.int c1), .val (.int c2), .val (.int c3), .val (.ref b1), .val (.ref b2), .val (.ref ob), .val (.int j1), .val (.int j2), .val (.int j3), .val (.int jn), .val (.ref r), .val (.int (1 : Int32)), .val (.ref r2)] [(.int jn), (.int (Nat.toInt32 (k1 + k2 + k3)))]) (fun t kq_ => XS.iload X185.here hx rfl (hb hby at_427) rfl kq_) ?_
  refine hG _ T185 _ (mkF m 432 #[.val (.long q1), .second, .val (.int p2), .val (.int p3), .val (.int p4), .val (.int p5), .val (.int lim), .val (.int c1), .val (.int c2), .val (.int c3), .val (.ref b1), .val (.ref b2), .val (.ref ob), .val (.int j1), .val (.int j2), .val (.int j3), .val (.int jn), .val (.ref r), .val (.int (1 : Int32)), .val (.ref r2)] []) (fun t kq_ => XS.icmpNo X185.here hx rfl (hb hby at_429) rfl (teq (own_eqi hjn).symm).2 kq_) ?_
  refine hG _ T185 _ (mkF m 434 #[.val (.long q1), .second, .val (.int p2), .val (.int p3), .val (.int p4), .val (.int p5), .val (.int lim), .val (.int c1), .val (.int c2), .val (.int c3), .val (.ref b1), .val (.ref b2), .val (.ref ob), .val (.int j1), .val (.int j2), .val (.int j3), .val (.int jn), .val (.ref r), .val (.int (1 : Int32)), .val (.ref r2)] [(.int jn)]) (fun t kq_ => XS.iload X185.here hx rfl (hb hby at_432) rfl kq_) ?_
  by_cases hc434 : jn = (0 : Int32)
  · refine hG _ T185 _ (mkF m 456 #[.val (.long q1), .second, .val (.int p2), .val (.int p3), .val (.int p4), .val (.int p5), .val (.int lim), .val (.int c1), .val (.int c2), .val (.int c3), .val (.ref b1), .val (.ref b2), .val (.ref ob), .val (.int j1), .val (.int j2), .val (.int j3), .val (.int jn), .val (.ref r), .val (.int (1 : Int32)), .val (.ref r2)] []) (fun t kq_ => XS.ifYes X185.here hx rfl (pc0 := 434) (pc' := 456) rfl (hb hby at_434) rfl ((if0 _ _).trans (teq hc434).1) (by decide) (by decide) kq_) ?_
    refine hG _ T185 _ (mkF m 457 #[.val (.long q1), .second, .val (.int p2), .val (.int p3), .val (.int p4), .val (.int p5), .val (.int lim), .val (.int c1), .val (.int c2), .val (.int c3), .val (.ref b1), .val (.ref b2), .val (.ref ob), .val (.int j1), .val (.int j2), .val (.int j3), .val (.int jn), .val (.ref r), .val (.int (1 : Int32)), .val (.ref r2)] [(.int (1 : Int32))]) (fun t kq_ => XS.iconst X185.here hx rfl (hb hby at_456) kq_) ?_
    refine hG _ T185 _ (mkF m 461 #[.val (.long q1), .second, .val (.int p2), .val (.int p3), .val (.int p4), .val (.int p5), .val (.int lim), .val (.int c1), .val (.int c2), .val (.int c3), .val (.ref b1), .val (.ref b2), .val (.ref ob), .val (.int j1), .val (.int j2), .val (.int j3), .val (.int jn), .val (.ref r), .val (.int (1 : Int32)), .val (.ref r2)] [(.int (1 : Int32))]) (fun t kq_ => XS.goto X185.here hx rfl (pc0 := 457) (pc' := 461) rfl (hb hby at_457) (by decide) (by decide) kq_) ?_
    exact Goes.retN X185 hx hlk (t := .boolean) hrt (by simp) (hb hby at_461) (by decide : 9 ≤ 32) (by decide : 57 ≤ 192) ⟨rfl, N185⟩
  · refine hG _ T185 _ (mkF m 437 #[.val (.long q1), .second, .val (.int p2), .val (.int p3), .val (.int p4), .val (.int p5), .val (.int lim), .val (.int c1), .val (.int c2), .val (.int c3), .val (.ref b1), .val (.ref b2), .val (.ref ob), .val (.int j1), .val (.int j2), .val (.int j3), .val (.int jn), .val (.ref r), .val (.int (1 : Int32)), .val (.ref r2)] []) (fun t kq_ => XS.ifNo X185.here hx rfl (hb hby at_434) rfl ((if0 _ _).trans (feq hc434).1) kq_) ?_
    have hpos : 0 < k1 + k2 + k3 := Nat.pos_of_ne_zero fun z => hc434 (Int32.toInt_inj.mp (by rw [hjn, z]; rfl))
    refine hG _ T185 _ (mkF m 439 #[.val (.long q1), .second, .val (.int p2), .val (.int p3), .val (.int p4), .val (.int p5), .val (.int lim), .val (.int c1), .val (.int c2), .val (.int c3), .val (.ref b1), .val (.ref b2), .val (.ref ob), .val (.int j1), .val (.int j2), .val (.int j3), .val (.int jn), .val (.ref r), .val (.int (1 : Int32)), .val (.ref r2)] [(.ref r2)]) (fun t kq_ => XS.aload X185.here hx rfl (hb hby at_437) rfl rfl kq_) ?_
    refine hG _ T185 _ (mkF m 440 #[.val (.long q1), .second, .val (.int p2), .val (.int p3), .val (.int p4), .val (.int p5), .val (.int lim), .val (.int c1), .val (.int c2), .val (.int c3), .val (.ref b1), .val (.ref b2), .val (.ref ob), .val (.int j1), .val (.int j2), .val (.int j3), .val (.int jn), .val (.ref r), .val (.int (1 : Int32)), .val (.ref r2)] [(.int (0 : Int32)), (.ref r2)]) (fun t kq_ => XS.iconst X185.here hx rfl (hb hby at_439) kq_) ?_
    refine hG _ T185 _ (mkF m 441 #[.val (.long q1), .second, .val (.int p2), .val (.int p3), .val (.int p4), .val (.int p5), .val (.int lim), .val (.int c1), .val (.int c2), .val (.int c3), .val (.ref b1), .val (.ref b2), .val (.ref ob), .val (.int j1), .val (.int j2), .val (.int j3), .val (.int jn), .val (.ref r), .val (.int (1 : Int32)), .val (.ref r2)] [(.int (f3 0))]) (Av.ldB X185 hx hZ rfl Vr2.1 (j := (0 : Int32)) (i := 0) rfl hpos (g := (mkF m 440 #[.val (.long q1), .second, .val (.int p2), .val (.int p3), .val (.int p4), .val (.int p5), .val (.int lim), .val (.int c1), .val (.int c2), .val (.int c3), .val (.ref b1), .val (.ref b2), .val (.ref ob), .val (.int j1), .val (.int j2), .val (.int j3), .val (.int jn), .val (.ref r), .val (.int (1 : Int32)), .val (.ref r2)] [(.int (0 : Int32)), (.ref r2)])) rfl rfl (hb hby at_440)) ?_
    refine hG _ T185 _ (mkF m 442 #[.val (.long q1), .second, .val (.int p2), .val (.int p3), .val (.int p4), .val (.int p5), .val (.int lim), .val (.int c1), .val (.int c2), .val (.int c3), .val (.ref b1), .val (.ref b2), .val (.ref ob), .val (.int j1), .val (.int j2), .val (.int j3), .val (.int jn), .val (.ref r), .val (.int (1 : Int32)), .val (.ref r2)] [(.int (0 : Int32)), (.int (f3 0))]) (fun t kq_ => XS.iconst X185.here hx rfl (hb hby at_441) kq_) ?_
    refine hG _ T185 _ (mkF m 444 #[.val (.long q1), .second, .val (.int p2), .val (.int p3), .val (.int p4), .val (.int p5), .val (.int lim), .val (.int c1), .val (.int c2), .val (.int c3), .val (.ref b1), .val (.ref b2), .val (.ref ob), .val (.int j1), .val (.int j2), .val (.int j3), .val (.int jn), .val (.ref r), .val (.int (1 : Int32)), .val (.ref r2)] [(.int j1), (.int (0 : Int32)), (.int (f3 0))]) (fun t kq_ => XS.iload X185.here hx rfl (hb hby at_442) rfl kq_) ?_
    refine hG _ T185 _ (mkF m 446 #[.val (.long q1), .second, .val (.int p2), .val (.int p3), .val (.int p4), .val (.int p5), .val (.int lim), .val (.int c1), .val (.int c2), .val (.int c3), .val (.ref b1), .val (.ref b2), .val (.ref ob), .val (.int j1), .val (.int j2), .val (.int j3), .val (.int jn), .val (.ref r), .val (.int (1 : Int32)), .val (.ref r2)] [(.int j2), (.int j1), (.int (0 : Int32)), (.int (f3 0))]) (fun t kq_ => XS.iload X185.here hx rfl (hb hby at_444) rfl kq_) ?_
    refine hG _ T185 _ (mkF m 448 #[.val (.long q1), .second, .val (.int p2), .val (.int p3), .val (.int p4), .val (.int p5), .val (.int lim), .val (.int c1), .val (.int c2), .val (.int c3), .val (.ref b1), .val (.ref b2), .val (.ref ob), .val (.int j1), .val (.int j2), .val (.int j3), .val (.int jn), .val (.ref r), .val (.int (1 : Int32)), .val (.ref r2)] [(.ref b1), (.int j2), (.int j1), (.int (0 : Int32)), (.int (f3 0))]) (fun t kq_ => XS.aload X185.here hx rfl (hb hby at_446) rfl rfl kq_) ?_
    refine hG _ T185 _ (mkF m 450 #[.val (.long q1), .second, .val (.int p2), .val (.int p3), .val (.int p4), .val (.int p5), .val (.int lim), .val (.int c1), .val (.int c2), .val (.int c3), .val (.ref b1), .val (.ref b2), .val (.ref ob), .val (.int j1), .val (.int j2), .val (.int j3), .val (.int jn), .val (.ref r), .val (.int (1 : Int32)), .val (.ref r2)] [(.ref b2), (.ref b1), (.int j2), (.int j1), (.int (0 : Int32)), (.int (f3 0))]) (fun t kq_ => XS.aload X185.here hx rfl (hb hby at_448) rfl rfl kq_) ?_
    have V1'187 : Ab Z T185.heap b1 4 g1 := (V1.keep Kr2 nin0)
    have V2'188 : Ab Z T185.heap b2 4 g2 := (V2.keep Kr2 nin0)
    obtain ⟨_, _, ⟨T189, L189, k189, n189⟩, -, X189, ⟨Lc189, hQ189, l189, y189, z189⟩, st189⟩ := Jvm.LawKit.callS X185 hx (y := (⟨"com/example/tools_to_sandbox/toolstosandbox/service/OutputCaptureToByteArrayPinLaw", "exp", "(III[B[B)B"⟩ : MethodName)) hown (mvT hZ (tw68 hw)) (mvT hZ (tw69 hw)) (mvT hZ (tw66 hw)) (mvT hZ (tw70 hw)) (by decide) (backOf (W := 1) (rmE l Z a0 hw [] (0 : Int32) j1 j2 b1 b2 T185.heap n0 Zs186 0 k1 k2 g1 g2 rfl hj1 hj2 l1 l2 (by omega) V1'187 V2'188) hZ (tw70 hw) (tw66 hw) (by decide) (by decide)) (g := (mkF m 450 #[.val (.long q1), .second, .val (.int p2), .val (.int p3), .val (.int p4), .val (.int p5), .val (.int lim), .val (.int c1), .val (.int c2), .val (.int c3), .val (.ref b1), .val (.ref b2), .val (.ref ob), .val (.int j1), .val (.int j2), .val (.int j3), .val (.int jn), .val (.ref r), .val (.int (1 : Int32)), .val (.ref r2)] [(.ref b2), (.ref b1), (.int j2), (.int j1), (.int (0 : Int32)), (.int (f3 0))])) rfl (by rw [hml]; rfl) (argsL := [(.int (0 : Int32)), (.int j1), (.int j2), (.ref b1), (.ref b2)]) (rest := [(.int (f3 0))]) (lenOf pd_4 rfl) rfl (by show 2 * 0 + _ ≤ _; exact Nat.le_of_eq rfl) (hb hby at_450) (fun _ _ => ⟨rfl, rfl, (by decide : 9 + 0 ≤ _), (by decide : 57 + 0 ≤ _)⟩)
    dsimp only [Pt.U, Pt.locs, Pt.cells, Pt.slots] at X189 l189 y189 z189 st189 hQ189
    subst l189 y189 z189
    obtain ⟨rfl, N189q, hq9⟩ := hQ189
    have N189 := Fr.app N185 N189q
    have e189 : T189.heap = T185.heap := hq9
    refine hG _ T189 _ (mkF m 453 #[.val (.long q1), .second, .val (.int p2), .val (.int p3), .val (.int p4), .val (.int p5), .val (.int lim), .val (.int c1), .val (.int c2), .val (.int c3), .val (.ref b1), .val (.ref b2), .val (.ref ob), .val (.int j1), .val (.int j2), .val (.int j3), .val (.int jn), .val (.ref r), .val (.int (1 : Int32)), .val (.ref r2)] [(.int (ex g1 g2 k1 k2 0)), (.int (f3 0))]) (fun t kq_ => st189 _ kq_) ?_
    refine hG _ T189 _ (mkF m 456 #[.val (.long q1), .second, .val (.int p2), .val (.int p3), .val (.int p4), .val (.int p5), .val (.int lim), .val (.int c1), .val (.int c2), .val (.int c3), .val (.ref b1), .val (.ref b2), .val (.ref ob), .val (.int j1), .val (.int j2), .val (.int j3), .val (.int jn), .val (.ref r), .val (.int (1 : Int32)), .val (.ref r2)] []) (fun t kq_ => XS.icmpNo X189.here hx rfl (hb hby at_453) rfl (teq (hcon 0 hpos)).2 kq_) ?_
    refine hG _ T189 _ (mkF m 457 #[.val (.long q1), .second, .val (.int p2), .val (.int p3), .val (.int p4), .val (.int p5), .val (.int lim), .val (.int c1), .val (.int c2), .val (.int c3), .val (.ref b1), .val (.ref b2), .val (.ref ob), .val (.int j1), .val (.int j2), .val (.int j3), .val (.int jn), .val (.ref r), .val (.int (1 : Int32)), .val (.ref r2)] [(.int (1 : Int32))]) (fun t kq_ => XS.iconst X189.here hx rfl (hb hby at_456) kq_) ?_
    refine hG _ T189 _ (mkF m 461 #[.val (.long q1), .second, .val (.int p2), .val (.int p3), .val (.int p4), .val (.int p5), .val (.int lim), .val (.int c1), .val (.int c2), .val (.int c3), .val (.ref b1), .val (.ref b2), .val (.ref ob), .val (.int j1), .val (.int j2), .val (.int j3), .val (.int jn), .val (.ref r), .val (.int (1 : Int32)), .val (.ref r2)] [(.int (1 : Int32))]) (fun t kq_ => XS.goto X189.here hx rfl (pc0 := 457) (pc' := 461) rfl (hb hby at_457) (by decide) (by decide) kq_) ?_
    exact Goes.retN X189 hx hlk (t := .boolean) hrt (by simp) (hb hby at_461) (by decide : 9 ≤ 32) (by decide : 57 ≤ 192) (by (try rw [e189]); exact ⟨rfl, N189⟩)
set_option maxRecDepth 65536 in
set_option maxHeartbeats 40000000 in
theorem lw198 {p : Program} {l : Launch} {e : Env} {s : State} {m : MethodId} {args : Array Value} {below : List Frame} {meth : Method} {c : Code} {T0 : State} {locs : List Loc} {Z : State} {a0 : Array Value} {h0 : Heap} {n0 : Nat} (q1 : Int64) (p2 p3 p4 p5 : Int32) (lim c1 c2 c3 : Int32) (b1 b2 : Addr) (g1 g2 : Nat → Int32) (lm m1 m2 m3 : Nat) (k1 k2 k3 nn : Nat) (f3 : Nat → Int32) (ob bb : Addr) (sz j1 j2 j3 jn : Int32)
    (X0 : Stand p l e room_1 s m args below meth c T0 locs 7 39) (hx : p.tables.exec = Jvm.exec) (hZ : Z.Warmed39 s.vm) (hw : ∀ d ∈ tables_1, d.before a0 Z = true) (hby : c.code = code) (hml : c.maxLocals = 20) (hown : s.vm.findClass "com/example/tools_to_sandbox/toolstosandbox/service/OutputCaptureToByteArrayPinLaw" = some m.cls) (e0 : T0.heap = h0) (Z0 : n0 ≤ h0.size) (N0 : Fr n0 locs) (hlk : meth.locks = false) (hrt : meth.sig.returnType = ret) (hlm : lim.toInt = (lm : Int)) (h9 : lm ≤ 9) (hc1 : c1.toInt = (m1 : Int)) (hc2 : c2.toInt = (m2 : Int)) (hc3 : c3.toInt = (m3 : Int)) (hm1 : m1 ≤ 4) (hm2 : m2 ≤ 4) (hm3 : m3 ≤ 4) (E1 : Exa Z h0 ob "com/example/tools_to_sandbox/toolstosandbox/service/OutputCapture") (F_b : Fld Z h0 ob "com/example/tools_to_sandbox/toolstosandbox/service/OutputCapture" "bytes" "[B" (.ref bb)) (F_z : Fld Z h0 ob "com/example/tools_to_sandbox/toolstosandbox/service/OutputCapture" "size" "I" (.int sz)) (V3 : Ab Z h0 bb nn f3) (V1 : Ab Z h0 b1 4 g1) (V2 : Ab Z h0 b2 4 g2) (hsz : sz.toInt = ((k1 + k2 + k3 : Nat) : Int)) (hsn : k1 + k2 + k3 ≤ nn) (hnn : nn ≤ 9) (hj1 : j1.toInt = (k1 : Int)) (hj2 : j2.toInt = (k2 : Int)) (hjn : jn.toInt = ((k1 + k2 + k3 : Nat) : Int)) (l1 : k1 ≤ 4) (l2 : k2 ≤ 4) (l3 : k3 ≤ 4) (hcon : cont g1 g2 k1 k2 k3 f3) :
    Goes p e below s (fun (v : Option Value) (h : Heap) (L : List Loc) => v = some (.int 1) ∧ Fr n0 L) 32 192 T0 (mkF m 198 #[.val (.long q1), .second, .val (.int p2), .val (.int p3), .val (.int p4), .val (.int p5), .val (.int lim), .val (.int c1), .val (.int c2), .val (.int c3), .val (.ref b1), .val (.ref b2), .val (.ref ob), .val (.int j1), .val (.int j2), .val (.int j3), .val (.int jn), .unset, .unset, .unset] []) := by
  have hG := Goes.bk p e below s (fun (v : Option Value) (h : Heap) (L : List Loc) => v = some (.int 1) ∧ Fr n0 L) 32 192
  refine hG _ T0 _ (mkF m 200 #[.val (.long q1), .second, .val (.int p2), .val (.int p3), .val (.int p4), .val (.int p5), .val (.int lim), .val (.int c1), .val (.int c2), .val (.int c3), .val (.ref b1), .val (.ref b2), .val (.ref ob), .val (.int j1), .val (.int j2), .val (.int j3), .val (.int jn), .unset, .unset, .unset] [(.ref ob)]) (fun t kq_ => XS.aload X0.here hx rfl (hb hby at_198) rfl rfl kq_) ?_
  obtain ⟨cq190, kq190, q190a, q190b, q190c⟩ := isOf hZ e0 E1
  obtain ⟨_, _, ⟨T190, L190, k190, n190⟩, -, X190, ⟨Lc190, hQ190, l190, y190, z190⟩, st190⟩ := X0.virtualBack hx (y := (⟨"com/example/tools_to_sandbox/toolstosandbox/service/OutputCapture", "toByteArray", "()[B"⟩ : MethodName)) (z := (⟨"com/example/tools_to_sandbox/toolstosandbox/service/OutputCapture", "toByteArray", "()[B"⟩ : MethodName)) hown (mvT hZ (tw50 hw)) (mvT hZ (tw51 hw)) (notFace_of_selects (args := #[]) (mvT hZ (tw53 hw))) (mvT hZ (tw53 hw)) (mvT hZ (tw52 hw)) (by decide) (backOf (W := 0) (rmT l Z a0 hw [] ob h0 n0 Z0 sz bb (k1 + k2 + k3) nn f3 F_b F_z V3 hsz hsn hnn) hZ (tw54 hw) (tw4 hw) (by decide) (by decide)) q190a q190c (g := (mkF m 200 #[.val (.long q1), .second, .val (.int p2), .val (.int p3), .val (.int p4), .val (.int p5), .val (.int lim), .val (.int c1), .val (.int c2), .val (.int c3), .val (.ref b1), .val (.ref b2), .val (.ref ob), .val (.int j1), .val (.int j2), .val (.int j3), .val (.int jn), .unset, .unset, .unset] [(.ref ob)])) rfl (by rw [hml]; rfl) (Steps.refl _) (argsL := []) (rest := []) (lenOf pd_5 rfl) rfl (by show 2 * 0 + _ ≤ _; exact Nat.le_of_eq rfl) (hb hby at_200) (fun _ _ => ⟨rfl, e0, (by decide : 7 + 1 ≤ _), (by decide : 39 + 9 ≤ _)⟩)
  dsimp only [Pt.U, Pt.locs, Pt.cells, Pt.slots] at X190 l190 y190 z190 st190 hQ190
  subst l190 y190 z190
  obtain ⟨r, rfl, N190q, Kr, hbr, Vr⟩ := hQ190
  have N190 := Fr.app N0 N190q
  have Zs191 : n0 ≤ T190.heap.size := Nat.le_trans Z0 Kr.1
  refine hG _ T190 _ (mkF m 203 #[.val (.long q1), .second, .val (.int p2), .val (.int p3), .val (.int p4), .val (.int p5), .val (.int lim), .val (.int c1), .val (.int c2), .val (.int c3), .val (.ref b1), .val (.ref b2), .val (.ref ob), .val (.int j1), .val (.int j2), .val (.int j3), .val (.int jn), .unset, .unset, .unset] [(.ref r)]) (fun t kq_ => st190.trans kq_) ?_
  refine hG _ T190 _ (mkF m 205 #[.val (.long q1), .second, .val (.int p2), .val (.int p3), .val (.int p4), .val (.int p5), .val (.int lim), .val (.int c1), .val (.int c2), .val (.int c3), .val (.ref b1), .val (.ref b2), .val (.ref ob), .val (.int j1), .val (.int j2), .val (.int j3), .val (.int jn), .val (.ref r), .unset, .unset] []) (fun t kq_ => XS.astore X190.here hx rfl (hb hby at_203) rfl rfl (l' := #[.val (.long q1), .second, .val (.int p2), .val (.int p3), .val (.int p4), .val (.int p5), .val (.int lim), .val (.int c1), .val (.int c2), .val (.int c3), .val (.ref b1), .val (.ref b2), .val (.ref ob), .val (.int j1), .val (.int j2), .val (.int j3), .val (.int jn), .val (.ref r), .unset, .unset]) rfl kq_) ?_
  refine hG _ T190 _ (mkF m 207 #[.val (.long q1), .second, .val (.int p2), .val (.int p3), .val (.int p4), .val (.int p5), .val (.int lim), .val (.int c1), .val (.int c2), .val (.int c3), .val (.ref b1), .val (.ref b2), .val (.ref ob), .val (.int j1), .val (.int j2), .val (.int j3), .val (.int jn), .val (.ref r), .unset, .unset] [(.ref r)]) (fun t kq_ => XS.aload X190.here hx rfl (hb hby at_205) rfl rfl kq_) ?_
  refine hG _ T190 _ (mkF m 208 #[.val (.long q1), .second, .val (.int p2), .val (.int p3), .val (.int p4), .val (.int p5), .val (.int lim), .val (.int c1), .val (.int c2), .val (.int c3), .val (.ref b1), .val (.ref b2), .val (.ref ob), .val (.int j1), .val (.int j2), .val (.int j3), .val (.int jn), .val (.ref r), .unset, .unset] [(.int (Nat.toInt32 (k1 + k2 + k3)))]) (Av.len X190 hx hZ rfl Vr.1 (g := (mkF m 207 #[.val (.long q1), .second, .val (.int p2), .val (.int p3), .val (.int p4), .val (.int p5), .val (.int lim), .val (.int c1), .val (.int c2), .val (.int c3), .val (.ref b1), .val (.ref b2), .val (.ref ob), .val (.int j1), .val (.int j2), .val (.int j3), .val (.int jn), .val (.ref r), .unset, .unset] [(.ref r)])) rfl rfl (hb hby at_207)) ?_
  refine hG _ T190 _ (mkF m 210 #[.val (.long q1), .second, .val (.int p2), .val (.int p3), .val (.int p4), .val (.int p5), .val (.int lim), .val (.int c1), .val (.int c2), .val (.int c3), .val (.ref b1), .val (.ref b2), .val (.ref ob), .val (.int j1), .val (.int j2), .val (.int j3), .val (.int jn), .val (.ref r), .unset, .unset] [(.int jn), (.int (Nat.toInt32 (k1 + k2 + k3)))]) (fun t kq_ => XS.iload X190.here hx rfl (hb hby at_208) rfl kq_) ?_
  refine hG _ T190 _ (mkF m 213 #[.val (.long q1), .second, .val (.int p2), .val (.int p3), .val (.int p4), .val (.int p5), .val (.int lim), .val (.int c1), .val (.int c2), .val (.int c3), .val (.ref b1), .val (.ref b2), .val (.ref ob), .val (.int j1), .val (.int j2), .val (.int j3), .val (.int jn), .val (.ref r), .unset, .unset] []) (fun t kq_ => XS.icmpNo X190.here hx rfl (hb hby at_210) rfl (teq (own_eqi hjn).symm).2 kq_) ?_
  refine hG _ T190 _ (mkF m 215 #[.val (.long q1), .second, .val (.int p2), .val (.int p3), .val (.int p4), .val (.int p5), .val (.int lim), .val (.int c1), .val (.int c2), .val (.int c3), .val (.ref b1), .val (.ref b2), .val (.ref ob), .val (.int j1), .val (.int j2), .val (.int j3), .val (.int jn), .val (.ref r), .unset, .unset] [(.ref r)]) (fun t kq_ => XS.aload X190.here hx rfl (hb hby at_213) rfl rfl kq_) ?_
  refine hG _ T190 _ (mkF m 216 #[.val (.long q1), .second, .val (.int p2), .val (.int p3), .val (.int p4), .val (.int p5), .val (.int lim), .val (.int c1), .val (.int c2), .val (.int c3), .val (.ref b1), .val (.ref b2), .val (.ref ob), .val (.int j1), .val (.int j2), .val (.int j3), .val (.int jn), .val (.ref r), .unset, .unset] [(.int (0 : Int32)), (.ref r)]) (fun t kq_ => XS.iconst X190.here hx rfl (hb hby at_215) kq_) ?_
  refine hG _ T190 _ (mkF m 218 #[.val (.long q1), .second, .val (.int p2), .val (.int p3), .val (.int p4), .val (.int p5), .val (.int lim), .val (.int c1), .val (.int c2), .val (.int c3), .val (.ref b1), .val (.ref b2), .val (.ref ob), .val (.int j1), .val (.int j2), .val (.int j3), .val (.int jn), .val (.ref r), .unset, .unset] [(.int j1), (.int (0 : Int32)), (.ref r)]) (fun t kq_ => XS.iload X190.here hx rfl (hb hby at_216) rfl kq_) ?_
  refine hG _ T190 _ (mkF m 220 #[.val (.long q1), .second, .val (.int p2), .val (.int p3), .val (.int p4), .val (.int p5), .val (.int lim), .val (.int c1), .val (.int c2), .val (.int c3), .val (.ref b1), .val (.ref b2), .val (.ref ob), .val (.int j1), .val (.int j2), .val (.int j3), .val (.int jn), .val (.ref r), .unset, .unset] [(.int j2), (.int j1), (.int (0 : Int32)), (.ref r)]) (fun t kq_ => XS.iload X190.here hx rfl (hb hby at_218) rfl kq_) ?_
  refine hG _ T190 _ (mkF m 222 #[.val (.long q1), .second, .val (.int p2), .val (.int p3), .val (.int p4), .val (.int p5), .val (.int lim), .val (.int c1), .val (.int c2), .val (.int c3), .val (.ref b1), .val (.ref b2), .val (.ref ob), .val (.int j1), .val (.int j2), .val (.int j3), .val (.int jn), .val (.ref r), .unset, .unset] [(.ref b1), (.int j2), (.int j1), (.int (0 : Int32)), (.ref r)]) (fun t kq_ => XS.aload X190.here hx rfl (hb hby at_220) rfl rfl kq_) ?_
  refine hG _ T190 _ (mkF m 224 #[.val (.long q1), .second, .val (.int p2), .val (.int p3), .val (.int p4), .val (.int p5), .val (.int lim), .val (.int c1), .val (.int c2), .val (.int c3), .val (.ref b1), .val (.ref b2), .val (.ref ob), .val (.int j1), .val (.int j2), .val (.int j3), .val (.int jn), .val (.ref r), .unset, .unset] [(.ref b2), (.ref b1), (.int j2), (.int j1), (.int (0 : Int32)), (.ref r)]) (fun t kq_ => XS.aload X190.here hx rfl (hb hby at_222) rfl rfl kq_) ?_
  have hin : ∀ i, i < k1 + k2 + k3 → i < k1 + k2 + 4 ∧ f3 i = ex g1 g2 k1 k2 i := fun i hi => ⟨by omega, hcon i hi⟩
  have V1'193 : Ab Z T190.heap b1 4 g1 := (V1.keep Kr nin0)
  have V2'194 : Ab Z T190.heap b2 4 g2 := (V2.keep Kr nin0)
  obtain ⟨_, _, ⟨T195, L195, k195, n195⟩, -, X195, ⟨Lc195, hQ195, l195, y195, z195⟩, st195⟩ := Jvm.LawKit.callS X190 hx (y := (⟨"com/example/tools_to_sandbox/toolstosandbox/service/OutputCaptureToByteArrayPinLaw", "at", "([BIII[B[B)Z"⟩ : MethodName)) hown (mvT hZ (tw64 hw)) (mvT hZ (tw65 hw)) (mvT hZ (tw66 hw)) (mvT hZ (tw67 hw)) (by decide) (backOf (W := 0) (rmAt l Z a0 hw [] r (0 : Int32) j1 j2 b1 b2 T190.heap n0 Zs191 0 k1 k2 (k1 + k2 + k3) f3 g1 g2 rfl hj1 hj2 l1 l2 (by omega) (hin 0) Vr V1'193 V2'194) hZ (tw67 hw) (tw66 hw) (by decide) (by decide)) (g := (mkF m 224 #[.val (.long q1), .second, .val (.int p2), .val (.int p3), .val (.int p4), .val (.int p5), .val (.int lim), .val (.int c1), .val (.int c2), .val (.int c3), .val (.ref b1), .val (.ref b2), .val (.ref ob), .val (.int j1), .val (.int j2), .val (.int j3), .val (.int jn), .val (.ref r), .unset, .unset] [(.ref b2), (.ref b1), (.int j2), (.int j1), (.int (0 : Int32)), (.ref r)])) rfl (by rw [hml]; rfl) (argsL := [(.ref r), (.int (0 : Int32)), (.int j1), (.int j2), (.ref b1), (.ref b2)]) (rest := []) (lenOf pd_6 rfl) rfl (by show 2 * 0 + _ ≤ _; exact Nat.le_of_eq rfl) (hb hby at_224) (fun _ _ => ⟨rfl, rfl, (by decide : 8 + 0 ≤ _), (by decide : 48 + 0 ≤ _)⟩)
  dsimp only [Pt.U, Pt.locs, Pt.cells, Pt.slots] at X195 l195 y195 z195 st195 hQ195
  subst l195 y195 z195
  obtain ⟨rfl, N195q, hq192⟩ := hQ195
  have N195 := Fr.app N190 N195q
  have e195 : T195.heap = T190.heap := hq192
  refine hG _ T195 _ (mkF m 227 #[.val (.long q1), .second, .val (.int p2), .val (.int p3), .val (.int p4), .val (.int p5), .val (.int lim), .val (.int c1), .val (.int c2), .val (.int c3), .val (.ref b1), .val (.ref b2), .val (.ref ob), .val (.int j1), .val (.int j2), .val (.int j3), .val (.int jn), .val (.ref r), .unset, .unset] [(.int (1 : Int32))]) (fun t kq_ => st195 _ kq_) ?_
  refine hG _ T195 _ (mkF m 230 #[.val (.long q1), .second, .val (.int p2), .val (.int p3), .val (.int p4), .val (.int p5), .val (.int lim), .val (.int c1), .val (.int c2), .val (.int c3), .val (.ref b1), .val (.ref b2), .val (.ref ob), .val (.int j1), .val (.int j2), .val (.int j3), .val (.int jn), .val (.ref r), .unset, .unset] []) (fun t kq_ => XS.ifNo X195.here hx rfl (hb hby at_227) rfl ((if0 _ _).trans (feq (by decide)).1) kq_) ?_
  refine hG _ T195 _ (mkF m 232 #[.val (.long q1), .second, .val (.int p2), .val (.int p3), .val (.int p4), .val (.int p5), .val (.int lim), .val (.int c1), .val (.int c2), .val (.int c3), .val (.ref b1), .val (.ref b2), .val (.ref ob), .val (.int j1), .val (.int j2), .val (.int j3), .val (.int jn), .val (.ref r), .unset, .unset] [(.ref r)]) (fun t kq_ => XS.aload X195.here hx rfl (hb hby at_230) rfl rfl kq_) ?_
  refine hG _ T195 _ (mkF m 233 #[.val (.long q1), .second, .val (.int p2), .val (.int p3), .val (.int p4), .val (.int p5), .val (.int lim), .val (.int c1), .val (.int c2), .val (.int c3), .val (.ref b1), .val (.ref b2), .val (.ref ob), .val (.int j1), .val (.int j2), .val (.int j3), .val (.int jn), .val (.ref r), .unset, .unset] [(.int (1 : Int32)), (.ref r)]) (fun t kq_ => XS.iconst X195.here hx rfl (hb hby at_232) kq_) ?_
  refine hG _ T195 _ (mkF m 235 #[.val (.long q1), .second, .val (.int p2), .val (.int p3), .val (.int p4), .val (.int p5), .val (.int lim), .val (.int c1), .val (.int c2), .val (.int c3), .val (.ref b1), .val (.ref b2), .val (.ref ob), .val (.int j1), .val (.int j2), .val (.int j3), .val (.int jn), .val (.ref r), .unset, .unset] [(.int j1), (.int (1 : Int32)), (.ref r)]) (fun t kq_ => XS.iload X195.here hx rfl (hb hby at_233) rfl kq_) ?_
  refine hG _ T195 _ (mkF m 237 #[.val (.long q1), .second, .val (.int p2), .val (.int p3), .val (.int p4), .val (.int p5), .val (.int lim), .val (.int c1), .val (.int c2), .val (.int c3), .val (.ref b1), .val (.ref b2), .val (.ref ob), .val (.int j1), .val (.int j2), .val (.int j3), .val (.int jn), .val (.ref r), .unset, .unset] [(.int j2), (.int j1), (.int (1 : Int32)), (.ref r)]) (fun t kq_ => XS.iload X195.here hx rfl (hb hby at_235) rfl kq_) ?_
  refine hG _ T195 _ (mkF m 239 #[.val (.long q1), .second, .val (.int p2), .val (.int p3), .val (.int p4), .val (.int p5), .val (.int lim), .val (.int c1), .val (.int c2), .val (.int c3), .val (.ref b1), .val (.ref b2), .val (.ref ob), .val (.int j1), .val (.int j2), .val (.int j3), .val (.int jn), .val (.ref r), .unset, .unset] [(.ref b1), (.int j2), (.int j1), (.int (1 : Int32)), (.ref r)]) (fun t kq_ => XS.aload X195.here hx rfl (hb hby at_237) rfl rfl kq_) ?_
  refine hG _ T195 _ (mkF m 241 #[.val (.long q1), .second, .val (.int p2), .val (.int p3), .val (.int p4), .val (.int p5), .val (.int lim), .val (.int c1), .val (.int c2), .val (.int c3), .val (.ref b1), .val (.ref b2), .val (.ref ob), .val (.int j1), .val (.int j2), .val (.int j3), .val (.int jn), .val (.ref r), .unset, .unset] [(.ref b2), (.ref b1), (.int j2), (.int j1), (.int (1 : Int32)), (.ref r)]) (fun t kq_ => XS.aload X195.here hx rfl (hb hby at_239) rfl rfl kq_) ?_
  obtain ⟨_, _, ⟨T197, L197, k197, n197⟩, -, X197, ⟨Lc197, hQ197, l197, y197, z197⟩, st197⟩ := Jvm.LawKit.callS X195 hx (y := (⟨"com/example/tools_to_sandbox/toolstosandbox/service/OutputCaptureToByteArrayPinLaw", "at", "([BIII[B[B)Z"⟩ : MethodName)) hown (mvT hZ (tw64 hw)) (mvT hZ (tw65 hw)) (mvT hZ (tw66 hw)) (mvT hZ (tw67 hw)) (by decide) (backOf (W := 0) (rmAt l Z a0 hw [] r (1 : Int32) j1 j2 b1 b2 T190.heap n0 Zs191 1 k1 k2 (k1 + k2 + k3) f3 g1 g2 rfl hj1 hj2 l1 l2 (by omega) (hin 1) Vr V1'193 V2'194) hZ (tw67 hw) (tw66 hw) (by decide) (by decide)) (g := (mkF m 241 #[.val (.long q1), .second, .val (.int p2), .val (.int p3), .val (.int p4), .val (.int p5), .val (.int lim), .val (.int c1), .val (.int c2), .val (.int c3), .val (.ref b1), .val (.ref b2), .val (.ref ob), .val (.int j1), .val (.int j2), .val (.int j3), .val (.int jn), .val (.ref r), .unset, .unset] [(.ref b2), (.ref b1), (.int j2), (.int j1), (.int (1 : Int32)), (.ref r)])) rfl (by rw [hml]; rfl) (argsL := [(.ref r), (.int (1 : Int32)), (.int j1), (.int j2), (.ref b1), (.ref b2)]) (rest := []) (lenOf pd_6 rfl) rfl (by show 2 * 0 + _ ≤ _; exact Nat.le_of_eq rfl) (hb hby at_241) (fun _ _ => ⟨rfl, e195, (by decide : 8 + 0 ≤ _), (by decide : 48 + 0 ≤ _)⟩)
  dsimp only [Pt.U, Pt.locs, Pt.cells, Pt.slots] at X197 l197 y197 z197 st197 hQ197
  subst l197 y197 z197
  obtain ⟨rfl, N197q, hq196⟩ := hQ197
  have N197 := Fr.app N195 N197q
  have e197 : T197.heap = T190.heap := hq196
  refine hG _ T197 _ (mkF m 244 #[.val (.long q1), .second, .val (.int p2), .val (.int p3), .val (.int p4), .val (.int p5), .val (.int lim), .val (.int c1), .val (.int c2), .val (.int c3), .val (.ref b1), .val (.ref b2), .val (.ref ob), .val (.int j1), .val (.int j2), .val (.int j3), .val (.int jn), .val (.ref r), .unset, .unset] [(.int (1 : Int32))]) (fun t kq_ => st197 _ kq_) ?_
  refine hG _ T197 _ (mkF m 247 #[.val (.long q1), .second, .val (.int p2), .val (.int p3), .val (.int p4), .val (.int p5), .val (.int lim), .val (.int c1), .val (.int c2), .val (.int c3), .val (.ref b1), .val (.ref b2), .val (.ref ob), .val (.int j1), .val (.int j2), .val (.int j3), .val (.int jn), .val (.ref r), .unset, .unset] []) (fun t kq_ => XS.ifNo X197.here hx rfl (hb hby at_244) rfl ((if0 _ _).trans (feq (by decide)).1) kq_) ?_
  refine hG _ T197 _ (mkF m 249 #[.val (.long q1), .second, .val (.int p2), .val (.int p3), .val (.int p4), .val (.int p5), .val (.int lim), .val (.int c1), .val (.int c2), .val (.int c3), .val (.ref b1), .val (.ref b2), .val (.ref ob), .val (.int j1), .val (.int j2), .val (.int j3), .val (.int jn), .val (.ref r), .unset, .unset] [(.ref r)]) (fun t kq_ => XS.aload X197.here hx rfl (hb hby at_247) rfl rfl kq_) ?_
  refine hG _ T197 _ (mkF m 250 #[.val (.long q1), .second, .val (.int p2), .val (.int p3), .val (.int p4), .val (.int p5), .val (.int lim), .val (.int c1), .val (.int c2), .val (.int c3), .val (.ref b1), .val (.ref b2), .val (.ref ob), .val (.int j1), .val (.int j2), .val (.int j3), .val (.int jn), .val (.ref r), .unset, .unset] [(.int (2 : Int32)), (.ref r)]) (fun t kq_ => XS.iconst X197.here hx rfl (hb hby at_249) kq_) ?_
  refine hG _ T197 _ (mkF m 252 #[.val (.long q1), .second, .val (.int p2), .val (.int p3), .val (.int p4), .val (.int p5), .val (.int lim), .val (.int c1), .val (.int c2), .val (.int c3), .val (.ref b1), .val (.ref b2), .val (.ref ob), .val (.int j1), .val (.int j2), .val (.int j3), .val (.int jn), .val (.ref r), .unset, .unset] [(.int j1), (.int (2 : Int32)), (.ref r)]) (fun t kq_ => XS.iload X197.here hx rfl (hb hby at_250) rfl kq_) ?_
  refine hG _ T197 _ (mkF m 254 #[.val (.long q1), .second, .val (.int p2), .val (.int p3), .val (.int p4), .val (.int p5), .val (.int lim), .val (.int c1), .val (.int c2), .val (.int c3), .val (.ref b1), .val (.ref b2), .val (.ref ob), .val (.int j1), .val (.int j2), .val (.int j3), .val (.int jn), .val (.ref r), .unset, .unset] [(.int j2), (.int j1), (.int (2 : Int32)), (.ref r)]) (fun t kq_ => XS.iload X197.here hx rfl (hb hby at_252) rfl kq_) ?_
  refine hG _ T197 _ (mkF m 256 #[.val (.long q1), .second, .val (.int p2), .val (.int p3), .val (.int p4), .val (.int p5), .val (.int lim), .val (.int c1), .val (.int c2), .val (.int c3), .val (.ref b1), .val (.ref b2), .val (.ref ob), .val (.int j1), .val (.int j2), .val (.int j3), .val (.int jn), .val (.ref r), .unset, .unset] [(.ref b1), (.int j2), (.int j1), (.int (2 : Int32)), (.ref r)]) (fun t kq_ => XS.aload X197.here hx rfl (hb hby at_254) rfl rfl kq_) ?_
  refine hG _ T197 _ (mkF m 258 #[.val (.long q1), .second, .val (.int p2), .val (.int p3), .val (.int p4), .val (.int p5), .val (.int lim), .val (.int c1), .val (.int c2), .val (.int c3), .val (.ref b1), .val (.ref b2), .val (.ref ob), .val (.int j1), .val (.int j2), .val (.int j3), .val (.int jn), .val (.ref r), .unset, .unset] [(.ref b2), (.ref b1), (.int j2), (.int j1), (.int (2 : Int32)), (.ref r)]) (fun t kq_ => XS.aload X197.here hx rfl (hb hby at_256) rfl rfl kq_) ?_
  obtain ⟨_, _, ⟨T199, L199, k199, n199⟩, -, X199, ⟨Lc199, hQ199, l199, y199, z199⟩, st199⟩ := Jvm.LawKit.callS X197 hx (y := (⟨"com/example/tools_to_sandbox/toolstosandbox/service/OutputCaptureToByteArrayPinLaw", "at", "([BIII[B[B)Z"⟩ : MethodName)) hown (mvT hZ (tw64 hw)) (mvT hZ (tw65 hw)) (mvT hZ (tw66 hw)) (mvT hZ (tw67 hw)) (by decide) (backOf (W := 0) (rmAt l Z a0 hw [] r (2 : Int32) j1 j2 b1 b2 T190.heap n0 Zs191 2 k1 k2 (k1 + k2 + k3) f3 g1 g2 rfl hj1 hj2 l1 l2 (by omega) (hin 2) Vr V1'193 V2'194) hZ (tw67 hw) (tw66 hw) (by decide) (by decide)) (g := (mkF m 258 #[.val (.long q1), .second, .val (.int p2), .val (.int p3), .val (.int p4), .val (.int p5), .val (.int lim), .val (.int c1), .val (.int c2), .val (.int c3), .val (.ref b1), .val (.ref b2), .val (.ref ob), .val (.int j1), .val (.int j2), .val (.int j3), .val (.int jn), .val (.ref r), .unset, .unset] [(.ref b2), (.ref b1), (.int j2), (.int j1), (.int (2 : Int32)), (.ref r)])) rfl (by rw [hml]; rfl) (argsL := [(.ref r), (.int (2 : Int32)), (.int j1), (.int j2), (.ref b1), (.ref b2)]) (rest := []) (lenOf pd_6 rfl) rfl (by show 2 * 0 + _ ≤ _; exact Nat.le_of_eq rfl) (hb hby at_258) (fun _ _ => ⟨rfl, e197, (by decide : 8 + 0 ≤ _), (by decide : 48 + 0 ≤ _)⟩)
  dsimp only [Pt.U, Pt.locs, Pt.cells, Pt.slots] at X199 l199 y199 z199 st199 hQ199
  subst l199 y199 z199
  obtain ⟨rfl, N199q, hq198⟩ := hQ199
  have N199 := Fr.app N197 N199q
  have e199 : T199.heap = T190.heap := hq198
  refine hG _ T199 _ (mkF m 261 #[.val (.long q1), .second, .val (.int p2), .val (.int p3), .val (.int p4), .val (.int p5), .val (.int lim), .val (.int c1), .val (.int c2), .val (.int c3), .val (.ref b1), .val (.ref b2), .val (.ref ob), .val (.int j1), .val (.int j2), .val (.int j3), .val (.int jn), .val (.ref r), .unset, .unset] [(.int (1 : Int32))]) (fun t kq_ => st199 _ kq_) ?_
  refine hG _ T199 _ (mkF m 264 #[.val (.long q1), .second, .val (.int p2), .val (.int p3), .val (.int p4), .val (.int p5), .val (.int lim), .val (.int c1), .val (.int c2), .val (.int c3), .val (.ref b1), .val (.ref b2), .val (.ref ob), .val (.int j1), .val (.int j2), .val (.int j3), .val (.int jn), .val (.ref r), .unset, .unset] []) (fun t kq_ => XS.ifNo X199.here hx rfl (hb hby at_261) rfl ((if0 _ _).trans (feq (by decide)).1) kq_) ?_
  refine hG _ T199 _ (mkF m 266 #[.val (.long q1), .second, .val (.int p2), .val (.int p3), .val (.int p4), .val (.int p5), .val (.int lim), .val (.int c1), .val (.int c2), .val (.int c3), .val (.ref b1), .val (.ref b2), .val (.ref ob), .val (.int j1), .val (.int j2), .val (.int j3), .val (.int jn), .val (.ref r), .unset, .unset] [(.ref r)]) (fun t kq_ => XS.aload X199.here hx rfl (hb hby at_264) rfl rfl kq_) ?_
  refine hG _ T199 _ (mkF m 267 #[.val (.long q1), .second, .val (.int p2), .val (.int p3), .val (.int p4), .val (.int p5), .val (.int lim), .val (.int c1), .val (.int c2), .val (.int c3), .val (.ref b1), .val (.ref b2), .val (.ref ob), .val (.int j1), .val (.int j2), .val (.int j3), .val (.int jn), .val (.ref r), .unset, .unset] [(.int (3 : Int32)), (.ref r)]) (fun t kq_ => XS.iconst X199.here hx rfl (hb hby at_266) kq_) ?_
  refine hG _ T199 _ (mkF m 269 #[.val (.long q1), .second, .val (.int p2), .val (.int p3), .val (.int p4), .val (.int p5), .val (.int lim), .val (.int c1), .val (.int c2), .val (.int c3), .val (.ref b1), .val (.ref b2), .val (.ref ob), .val (.int j1), .val (.int j2), .val (.int j3), .val (.int jn), .val (.ref r), .unset, .unset] [(.int j1), (.int (3 : Int32)), (.ref r)]) (fun t kq_ => XS.iload X199.here hx rfl (hb hby at_267) rfl kq_) ?_
  refine hG _ T199 _ (mkF m 271 #[.val (.long q1), .second, .val (.int p2), .val (.int p3), .val (.int p4), .val (.int p5), .val (.int lim), .val (.int c1), .val (.int c2), .val (.int c3), .val (.ref b1), .val (.ref b2), .val (.ref ob), .val (.int j1), .val (.int j2), .val (.int j3), .val (.int jn), .val (.ref r), .unset, .unset] [(.int j2), (.int j1), (.int (3 : Int32)), (.ref r)]) (fun t kq_ => XS.iload X199.here hx rfl (hb hby at_269) rfl kq_) ?_
  refine hG _ T199 _ (mkF m 273 #[.val (.long q1), .second, .val (.int p2), .val (.int p3), .val (.int p4), .val (.int p5), .val (.int lim), .val (.int c1), .val (.int c2), .val (.int c3), .val (.ref b1), .val (.ref b2), .val (.ref ob), .val (.int j1), .val (.int j2), .val (.int j3), .val (.int jn), .val (.ref r), .unset, .unset] [(.ref b1), (.int j2), (.int j1), (.int (3 : Int32)), (.ref r)]) (fun t kq_ => XS.aload X199.here hx rfl (hb hby at_271) rfl rfl kq_) ?_
  refine hG _ T199 _ (mkF m 275 #[.val (.long q1), .second, .val (.int p2), .val (.int p3), .val (.int p4), .val (.int p5), .val (.int lim), .val (.int c1), .val (.int c2), .val (.int c3), .val (.ref b1), .val (.ref b2), .val (.ref ob), .val (.int j1), .val (.int j2), .val (.int j3), .val (.int jn), .val (.ref r), .unset, .unset] [(.ref b2), (.ref b1), (.int j2), (.int j1), (.int (3 : Int32)), (.ref r)]) (fun t kq_ => XS.aload X199.here hx rfl (hb hby at_273) rfl rfl kq_) ?_
  obtain ⟨_, _, ⟨T201, L201, k201, n201⟩, -, X201, ⟨Lc201, hQ201, l201, y201, z201⟩, st201⟩ := Jvm.LawKit.callS X199 hx (y := (⟨"com/example/tools_to_sandbox/toolstosandbox/service/OutputCaptureToByteArrayPinLaw", "at", "([BIII[B[B)Z"⟩ : MethodName)) hown (mvT hZ (tw64 hw)) (mvT hZ (tw65 hw)) (mvT hZ (tw66 hw)) (mvT hZ (tw67 hw)) (by decide) (backOf (W := 0) (rmAt l Z a0 hw [] r (3 : Int32) j1 j2 b1 b2 T190.heap n0 Zs191 3 k1 k2 (k1 + k2 + k3) f3 g1 g2 rfl hj1 hj2 l1 l2 (by omega) (hin 3) Vr V1'193 V2'194) hZ (tw67 hw) (tw66 hw) (by decide) (by decide)) (g := (mkF m 275 #[.val (.long q1), .second, .val (.int p2), .val (.int p3), .val (.int p4), .val (.int p5), .val (.int lim), .val (.int c1), .val (.int c2), .val (.int c3), .val (.ref b1), .val (.ref b2), .val (.ref ob), .val (.int j1), .val (.int j2), .val (.int j3), .val (.int jn), .val (.ref r), .unset, .unset] [(.ref b2), (.ref b1), (.int j2), (.int j1), (.int (3 : Int32)), (.ref r)])) rfl (by rw [hml]; rfl) (argsL := [(.ref r), (.int (3 : Int32)), (.int j1), (.int j2), (.ref b1), (.ref b2)]) (rest := []) (lenOf pd_6 rfl) rfl (by show 2 * 0 + _ ≤ _; exact Nat.le_of_eq rfl) (hb hby at_275) (fun _ _ => ⟨rfl, e199, (by decide : 8 + 0 ≤ _), (by decide : 48 + 0 ≤ _)⟩)
  dsimp only [Pt.U, Pt.locs, Pt.cells, Pt.slots] at X201 l201 y201 z201 st201 hQ201
  subst l201 y201 z201
  obtain ⟨rfl, N201q, hq200⟩ := hQ201
  have N201 := Fr.app N199 N201q
  have e201 : T201.heap = T190.heap := hq200
  refine hG _ T201 _ (mkF m 278 #[.val (.long q1), .second, .val (.int p2), .val (.int p3), .val (.int p4), .val (.int p5), .val (.int lim), .val (.int c1), .val (.int c2), .val (.int c3), .val (.ref b1), .val (.ref b2), .val (.ref ob), .val (.int j1), .val (.int j2), .val (.int j3), .val (.int jn), .val (.ref r), .unset, .unset] [(.int (1 : Int32))]) (fun t kq_ => st201 _ kq_) ?_
  refine hG _ T201 _ (mkF m 281 #[.val (.long q1), .second, .val (.int p2), .val (.int p3), .val (.int p4), .val (.int p5), .val (.int lim), .val (.int c1), .val (.int c2), .val (.int c3), .val (.ref b1), .val (.ref b2), .val (.ref ob), .val (.int j1), .val (.int j2), .val (.int j3), .val (.int jn), .val (.ref r), .unset, .unset] []) (fun t kq_ => XS.ifNo X201.here hx rfl (hb hby at_278) rfl ((if0 _ _).trans (feq (by decide)).1) kq_) ?_
  refine hG _ T201 _ (mkF m 283 #[.val (.long q1), .second, .val (.int p2), .val (.int p3), .val (.int p4), .val (.int p5), .val (.int lim), .val (.int c1), .val (.int c2), .val (.int c3), .val (.ref b1), .val (.ref b2), .val (.ref ob), .val (.int j1), .val (.int j2), .val (.int j3), .val (.int jn), .val (.ref r), .unset, .unset] [(.ref r)]) (fun t kq_ => XS.aload X201.here hx rfl (hb hby at_281) rfl rfl kq_) ?_
  refine hG _ T201 _ (mkF m 284 #[.val (.long q1), .second, .val (.int p2), .val (.int p3), .val (.int p4), .val (.int p5), .val (.int lim), .val (.int c1), .val (.int c2), .val (.int c3), .val (.ref b1), .val (.ref b2), .val (.ref ob), .val (.int j1), .val (.int j2), .val (.int j3), .val (.int jn), .val (.ref r), .unset, .unset] [(.int (4 : Int32)), (.ref r)]) (fun t kq_ => XS.iconst X201.here hx rfl (hb hby at_283) kq_) ?_
  refine hG _ T201 _ (mkF m 286 #[.val (.long q1), .second, .val (.int p2), .val (.int p3), .val (.int p4), .val (.int p5), .val (.int lim), .val (.int c1), .val (.int c2), .val (.int c3), .val (.ref b1), .val (.ref b2), .val (.ref ob), .val (.int j1), .val (.int j2), .val (.int j3), .val (.int jn), .val (.ref r), .unset, .unset] [(.int j1), (.int (4 : Int32)), (.ref r)]) (fun t kq_ => XS.iload X201.here hx rfl (hb hby at_284) rfl kq_) ?_
  refine hG _ T201 _ (mkF m 288 #[.val (.long q1), .second, .val (.int p2), .val (.int p3), .val (.int p4), .val (.int p5), .val (.int lim), .val (.int c1), .val (.int c2), .val (.int c3), .val (.ref b1), .val (.ref b2), .val (.ref ob), .val (.int j1), .val (.int j2), .val (.int j3), .val (.int jn), .val (.ref r), .unset, .unset] [(.int j2), (.int j1), (.int (4 : Int32)), (.ref r)]) (fun t kq_ => XS.iload X201.here hx rfl (hb hby at_286) rfl kq_) ?_
  refine hG _ T201 _ (mkF m 290 #[.val (.long q1), .second, .val (.int p2), .val (.int p3), .val (.int p4), .val (.int p5), .val (.int lim), .val (.int c1), .val (.int c2), .val (.int c3), .val (.ref b1), .val (.ref b2), .val (.ref ob), .val (.int j1), .val (.int j2), .val (.int j3), .val (.int jn), .val (.ref r), .unset, .unset] [(.ref b1), (.int j2), (.int j1), (.int (4 : Int32)), (.ref r)]) (fun t kq_ => XS.aload X201.here hx rfl (hb hby at_288) rfl rfl kq_) ?_
  refine hG _ T201 _ (mkF m 292 #[.val (.long q1), .second, .val (.int p2), .val (.int p3), .val (.int p4), .val (.int p5), .val (.int lim), .val (.int c1), .val (.int c2), .val (.int c3), .val (.ref b1), .val (.ref b2), .val (.ref ob), .val (.int j1), .val (.int j2), .val (.int j3), .val (.int jn), .val (.ref r), .unset, .unset] [(.ref b2), (.ref b1), (.int j2), (.int j1), (.int (4 : Int32)), (.ref r)]) (fun t kq_ => XS.aload X201.here hx rfl (hb hby at_290) rfl rfl kq_) ?_
  obtain ⟨_, _, ⟨T203, L203, k203, n203⟩, -, X203, ⟨Lc203, hQ203, l203, y203, z203⟩, st203⟩ := Jvm.LawKit.callS X201 hx (y := (⟨"com/example/tools_to_sandbox/toolstosandbox/service/OutputCaptureToByteArrayPinLaw", "at", "([BIII[B[B)Z"⟩ : MethodName)) hown (mvT hZ (tw64 hw)) (mvT hZ (tw65 hw)) (mvT hZ (tw66 hw)) (mvT hZ (tw67 hw)) (by decide) (backOf (W := 0) (rmAt l Z a0 hw [] r (4 : Int32) j1 j2 b1 b2 T190.heap n0 Zs191 4 k1 k2 (k1 + k2 + k3) f3 g1 g2 rfl hj1 hj2 l1 l2 (by omega) (hin 4) Vr V1'193 V2'194) hZ (tw67 hw) (tw66 hw) (by decide) (by decide)) (g := (mkF m 292 #[.val (.long q1), .second, .val (.int p2), .val (.int p3), .val (.int p4), .val (.int p5), .val (.int lim), .val (.int c1), .val (.int c2), .val (.int c3), .val (.ref b1), .val (.ref b2), .val (.ref ob), .val (.int j1), .val (.int j2), .val (.int j3), .val (.int jn), .val (.ref r), .unset, .unset] [(.ref b2), (.ref b1), (.int j2), (.int j1), (.int (4 : Int32)), (.ref r)])) rfl (by rw [hml]; rfl) (argsL := [(.ref r), (.int (4 : Int32)), (.int j1), (.int j2), (.ref b1), (.ref b2)]) (rest := []) (lenOf pd_6 rfl) rfl (by show 2 * 0 + _ ≤ _; exact Nat.le_of_eq rfl) (hb hby at_292) (fun _ _ => ⟨rfl, e201, (by decide : 8 + 0 ≤ _), (by decide : 48 + 0 ≤ _)⟩)
  dsimp only [Pt.U, Pt.locs, Pt.cells, Pt.slots] at X203 l203 y203 z203 st203 hQ203
  subst l203 y203 z203
  obtain ⟨rfl, N203q, hq202⟩ := hQ203
  have N203 := Fr.app N201 N203q
  have e203 : T203.heap = T190.heap := hq202
  refine hG _ T203 _ (mkF m 295 #[.val (.long q1), .second, .val (.int p2), .val (.int p3), .val (.int p4), .val (.int p5), .val (.int lim), .val (.int c1), .val (.int c2), .val (.int c3), .val (.ref b1), .val (.ref b2), .val (.ref ob), .val (.int j1), .val (.int j2), .val (.int j3), .val (.int jn), .val (.ref r), .unset, .unset] [(.int (1 : Int32))]) (fun t kq_ => st203 _ kq_) ?_
  refine hG _ T203 _ (mkF m 298 #[.val (.long q1), .second, .val (.int p2), .val (.int p3), .val (.int p4), .val (.int p5), .val (.int lim), .val (.int c1), .val (.int c2), .val (.int c3), .val (.ref b1), .val (.ref b2), .val (.ref ob), .val (.int j1), .val (.int j2), .val (.int j3), .val (.int jn), .val (.ref r), .unset, .unset] []) (fun t kq_ => XS.ifNo X203.here hx rfl (hb hby at_295) rfl ((if0 _ _).trans (feq (by decide)).1) kq_) ?_
  refine hG _ T203 _ (mkF m 300 #[.val (.long q1), .second, .val (.int p2), .val (.int p3), .val (.int p4), .val (.int p5), .val (.int lim), .val (.int c1), .val (.int c2), .val (.int c3), .val (.ref b1), .val (.ref b2), .val (.ref ob), .val (.int j1), .val (.int j2), .val (.int j3), .val (.int jn), .val (.ref r), .unset, .unset] [(.ref r)]) (fun t kq_ => XS.aload X203.here hx rfl (hb hby at_298) rfl rfl kq_) ?_
  refine hG _ T203 _ (mkF m 301 #[.val (.long q1), .second, .val (.int p2), .val (.int p3), .val (.int p4), .val (.int p5), .val (.int lim), .val (.int c1), .val (.int c2), .val (.int c3), .val (.ref b1), .val (.ref b2), .val (.ref ob), .val (.int j1), .val (.int j2), .val (.int j3), .val (.int jn), .val (.ref r), .unset, .unset] [(.int (5 : Int32)), (.ref r)]) (fun t kq_ => XS.iconst X203.here hx rfl (hb hby at_300) kq_) ?_
  refine hG _ T203 _ (mkF m 303 #[.val (.long q1), .second, .val (.int p2), .val (.int p3), .val (.int p4), .val (.int p5), .val (.int lim), .val (.int c1), .val (.int c2), .val (.int c3), .val (.ref b1), .val (.ref b2), .val (.ref ob), .val (.int j1), .val (.int j2), .val (.int j3), .val (.int jn), .val (.ref r), .unset, .unset] [(.int j1), (.int (5 : Int32)), (.ref r)]) (fun t kq_ => XS.iload X203.here hx rfl (hb hby at_301) rfl kq_) ?_
  refine hG _ T203 _ (mkF m 305 #[.val (.long q1), .second, .val (.int p2), .val (.int p3), .val (.int p4), .val (.int p5), .val (.int lim), .val (.int c1), .val (.int c2), .val (.int c3), .val (.ref b1), .val (.ref b2), .val (.ref ob), .val (.int j1), .val (.int j2), .val (.int j3), .val (.int jn), .val (.ref r), .unset, .unset] [(.int j2), (.int j1), (.int (5 : Int32)), (.ref r)]) (fun t kq_ => XS.iload X203.here hx rfl (hb hby at_303) rfl kq_) ?_
  refine hG _ T203 _ (mkF m 307 #[.val (.long q1), .second, .val (.int p2), .val (.int p3), .val (.int p4), .val (.int p5), .val (.int lim), .val (.int c1), .val (.int c2), .val (.int c3), .val (.ref b1), .val (.ref b2), .val (.ref ob), .val (.int j1), .val (.int j2), .val (.int j3), .val (.int jn), .val (.ref r), .unset, .unset] [(.ref b1), (.int j2), (.int j1), (.int (5 : Int32)), (.ref r)]) (fun t kq_ => XS.aload X203.here hx rfl (hb hby at_305) rfl rfl kq_) ?_
  refine hG _ T203 _ (mkF m 309 #[.val (.long q1), .second, .val (.int p2), .val (.int p3), .val (.int p4), .val (.int p5), .val (.int lim), .val (.int c1), .val (.int c2), .val (.int c3), .val (.ref b1), .val (.ref b2), .val (.ref ob), .val (.int j1), .val (.int j2), .val (.int j3), .val (.int jn), .val (.ref r), .unset, .unset] [(.ref b2), (.ref b1), (.int j2), (.int j1), (.int (5 : Int32)), (.ref r)]) (fun t kq_ => XS.aload X203.here hx rfl (hb hby at_307) rfl rfl kq_) ?_
  obtain ⟨_, _, ⟨T205, L205, k205, n205⟩, -, X205, ⟨Lc205, hQ205, l205, y205, z205⟩, st205⟩ := Jvm.LawKit.callS X203 hx (y := (⟨"com/example/tools_to_sandbox/toolstosandbox/service/OutputCaptureToByteArrayPinLaw", "at", "([BIII[B[B)Z"⟩ : MethodName)) hown (mvT hZ (tw64 hw)) (mvT hZ (tw65 hw)) (mvT hZ (tw66 hw)) (mvT hZ (tw67 hw)) (by decide) (backOf (W := 0) (rmAt l Z a0 hw [] r (5 : Int32) j1 j2 b1 b2 T190.heap n0 Zs191 5 k1 k2 (k1 + k2 + k3) f3 g1 g2 rfl hj1 hj2 l1 l2 (by omega) (hin 5) Vr V1'193 V2'194) hZ (tw67 hw) (tw66 hw) (by decide) (by decide)) (g := (mkF m 309 #[.val (.long q1), .second, .val (.int p2), .val (.int p3), .val (.int p4), .val (.int p5), .val (.int lim), .val (.int c1), .val (.int c2), .val (.int c3), .val (.ref b1), .val (.ref b2), .val (.ref ob), .val (.int j1), .val (.int j2), .val (.int j3), .val (.int jn), .val (.ref r), .unset, .unset] [(.ref b2), (.ref b1), (.int j2), (.int j1), (.int (5 : Int32)), (.ref r)])) rfl (by rw [hml]; rfl) (argsL := [(.ref r), (.int (5 : Int32)), (.int j1), (.int j2), (.ref b1), (.ref b2)]) (rest := []) (lenOf pd_6 rfl) rfl (by show 2 * 0 + _ ≤ _; exact Nat.le_of_eq rfl) (hb hby at_309) (fun _ _ => ⟨rfl, e203, (by decide : 8 + 0 ≤ _), (by decide : 48 + 0 ≤ _)⟩)
  dsimp only [Pt.U, Pt.locs, Pt.cells, Pt.slots] at X205 l205 y205 z205 st205 hQ205
  subst l205 y205 z205
  obtain ⟨rfl, N205q, hq204⟩ := hQ205
  have N205 := Fr.app N203 N205q
  have e205 : T205.heap = T190.heap := hq204
  refine hG _ T205 _ (mkF m 312 #[.val (.long q1), .second, .val (.int p2), .val (.int p3), .val (.int p4), .val (.int p5), .val (.int lim), .val (.int c1), .val (.int c2), .val (.int c3), .val (.ref b1), .val (.ref b2), .val (.ref ob), .val (.int j1), .val (.int j2), .val (.int j3), .val (.int jn), .val (.ref r), .unset, .unset] [(.int (1 : Int32))]) (fun t kq_ => st205 _ kq_) ?_
  refine hG _ T205 _ (mkF m 315 #[.val (.long q1), .second, .val (.int p2), .val (.int p3), .val (.int p4), .val (.int p5), .val (.int lim), .val (.int c1), .val (.int c2), .val (.int c3), .val (.ref b1), .val (.ref b2), .val (.ref ob), .val (.int j1), .val (.int j2), .val (.int j3), .val (.int jn), .val (.ref r), .unset, .unset] []) (fun t kq_ => XS.ifNo X205.here hx rfl (hb hby at_312) rfl ((if0 _ _).trans (feq (by decide)).1) kq_) ?_
  refine hG _ T205 _ (mkF m 317 #[.val (.long q1), .second, .val (.int p2), .val (.int p3), .val (.int p4), .val (.int p5), .val (.int lim), .val (.int c1), .val (.int c2), .val (.int c3), .val (.ref b1), .val (.ref b2), .val (.ref ob), .val (.int j1), .val (.int j2), .val (.int j3), .val (.int jn), .val (.ref r), .unset, .unset] [(.ref r)]) (fun t kq_ => XS.aload X205.here hx rfl (hb hby at_315) rfl rfl kq_) ?_
  refine hG _ T205 _ (mkF m 319 #[.val (.long q1), .second, .val (.int p2), .val (.int p3), .val (.int p4), .val (.int p5), .val (.int lim), .val (.int c1), .val (.int c2), .val (.int c3), .val (.ref b1), .val (.ref b2), .val (.ref ob), .val (.int j1), .val (.int j2), .val (.int j3), .val (.int jn), .val (.ref r), .unset, .unset] [(.int (6 : Int32)), (.ref r)]) (fun t kq_ => XS.bipush X205.here hx rfl (hb hby at_317) kq_) ?_
  refine hG _ T205 _ (mkF m 321 #[.val (.long q1), .second, .val (.int p2), .val (.int p3), .val (.int p4), .val (.int p5), .val (.int lim), .val (.int c1), .val (.int c2), .val (.int c3), .val (.ref b1), .val (.ref b2), .val (.ref ob), .val (.int j1), .val (.int j2), .val (.int j3), .val (.int jn), .val (.ref r), .unset, .unset] [(.int j1), (.int (6 : Int32)), (.ref r)]) (fun t kq_ => XS.iload X205.here hx rfl (hb hby at_319) rfl kq_) ?_
  refine hG _ T205 _ (mkF m 323 #[.val (.long q1), .second, .val (.int p2), .val (.int p3), .val (.int p4), .val (.int p5), .val (.int lim), .val (.int c1), .val (.int c2), .val (.int c3), .val (.ref b1), .val (.ref b2), .val (.ref ob), .val (.int j1), .val (.int j2), .val (.int j3), .val (.int jn), .val (.ref r), .unset, .unset] [(.int j2), (.int j1), (.int (6 : Int32)), (.ref r)]) (fun t kq_ => XS.iload X205.here hx rfl (hb hby at_321) rfl kq_) ?_
  refine hG _ T205 _ (mkF m 325 #[.val (.long q1), .second, .val (.int p2), .val (.int p3), .val (.int p4), .val (.int p5), .val (.int lim), .val (.int c1), .val (.int c2), .val (.int c3), .val (.ref b1), .val (.ref b2), .val (.ref ob), .val (.int j1), .val (.int j2), .val (.int j3), .val (.int jn), .val (.ref r), .unset, .unset] [(.ref b1), (.int j2), (.int j1), (.int (6 : Int32)), (.ref r)]) (fun t kq_ => XS.aload X205.here hx rfl (hb hby at_323) rfl rfl kq_) ?_
  refine hG _ T205 _ (mkF m 327 #[.val (.long q1), .second, .val (.int p2), .val (.int p3), .val (.int p4), .val (.int p5), .val (.int lim), .val (.int c1), .val (.int c2), .val (.int c3), .val (.ref b1), .val (.ref b2), .val (.ref ob), .val (.int j1), .val (.int j2), .val (.int j3), .val (.int jn), .val (.ref r), .unset, .unset] [(.ref b2), (.ref b1), (.int j2), (.int j1), (.int (6 : Int32)), (.ref r)]) (fun t kq_ => XS.aload X205.here hx rfl (hb hby at_325) rfl rfl kq_) ?_
  obtain ⟨_, _, ⟨T207, L207, k207, n207⟩, -, X207, ⟨Lc207, hQ207, l207, y207, z207⟩, st207⟩ := Jvm.LawKit.callS X205 hx (y := (⟨"com/example/tools_to_sandbox/toolstosandbox/service/OutputCaptureToByteArrayPinLaw", "at", "([BIII[B[B)Z"⟩ : MethodName)) hown (mvT hZ (tw64 hw)) (mvT hZ (tw65 hw)) (mvT hZ (tw66 hw)) (mvT hZ (tw67 hw)) (by decide) (backOf (W := 0) (rmAt l Z a0 hw [] r (6 : Int32) j1 j2 b1 b2 T190.heap n0 Zs191 6 k1 k2 (k1 + k2 + k3) f3 g1 g2 rfl hj1 hj2 l1 l2 (by omega) (hin 6) Vr V1'193 V2'194) hZ (tw67 hw) (tw66 hw) (by decide) (by decide)) (g := (mkF m 327 #[.val (.long q1), .second, .val (.int p2), .val (.int p3), .val (.int p4), .val (.int p5), .val (.int lim), .val (.int c1), .val (.int c2), .val (.int c3), .val (.ref b1), .val (.ref b2), .val (.ref ob), .val (.int j1), .val (.int j2), .val (.int j3), .val (.int jn), .val (.ref r), .unset, .unset] [(.ref b2), (.ref b1), (.int j2), (.int j1), (.int (6 : Int32)), (.ref r)])) rfl (by rw [hml]; rfl) (argsL := [(.ref r), (.int (6 : Int32)), (.int j1), (.int j2), (.ref b1), (.ref b2)]) (rest := []) (lenOf pd_6 rfl) rfl (by show 2 * 0 + _ ≤ _; exact Nat.le_of_eq rfl) (hb hby at_327) (fun _ _ => ⟨rfl, e205, (by decide : 8 + 0 ≤ _), (by decide : 48 + 0 ≤ _)⟩)
  dsimp only [Pt.U, Pt.locs, Pt.cells, Pt.slots] at X207 l207 y207 z207 st207 hQ207
  subst l207 y207 z207
  obtain ⟨rfl, N207q, hq206⟩ := hQ207
  have N207 := Fr.app N205 N207q
  have e207 : T207.heap = T190.heap := hq206
  refine hG _ T207 _ (mkF m 330 #[.val (.long q1), .second, .val (.int p2), .val (.int p3), .val (.int p4), .val (.int p5), .val (.int lim), .val (.int c1), .val (.int c2), .val (.int c3), .val (.ref b1), .val (.ref b2), .val (.ref ob), .val (.int j1), .val (.int j2), .val (.int j3), .val (.int jn), .val (.ref r), .unset, .unset] [(.int (1 : Int32))]) (fun t kq_ => st207 _ kq_) ?_
  refine hG _ T207 _ (mkF m 333 #[.val (.long q1), .second, .val (.int p2), .val (.int p3), .val (.int p4), .val (.int p5), .val (.int lim), .val (.int c1), .val (.int c2), .val (.int c3), .val (.ref b1), .val (.ref b2), .val (.ref ob), .val (.int j1), .val (.int j2), .val (.int j3), .val (.int jn), .val (.ref r), .unset, .unset] []) (fun t kq_ => XS.ifNo X207.here hx rfl (hb hby at_330) rfl ((if0 _ _).trans (feq (by decide)).1) kq_) ?_
  refine hG _ T207 _ (mkF m 335 #[.val (.long q1), .second, .val (.int p2), .val (.int p3), .val (.int p4), .val (.int p5), .val (.int lim), .val (.int c1), .val (.int c2), .val (.int c3), .val (.ref b1), .val (.ref b2), .val (.ref ob), .val (.int j1), .val (.int j2), .val (.int j3), .val (.int jn), .val (.ref r), .unset, .unset] [(.ref r)]) (fun t kq_ => XS.aload X207.here hx rfl (hb hby at_333) rfl rfl kq_) ?_
  refine hG _ T207 _ (mkF m 337 #[.val (.long q1), .second, .val (.int p2), .val (.int p3), .val (.int p4), .val (.int p5), .val (.int lim), .val (.int c1), .val (.int c2), .val (.int c3), .val (.ref b1), .val (.ref b2), .val (.ref ob), .val (.int j1), .val (.int j2), .val (.int j3), .val (.int jn), .val (.ref r), .unset, .unset] [(.int (7 : Int32)), (.ref r)]) (fun t kq_ => XS.bipush X207.here hx rfl (hb hby at_335) kq_) ?_
  refine hG _ T207 _ (mkF m 339 #[.val (.long q1), .second, .val (.int p2), .val (.int p3), .val (.int p4), .val (.int p5), .val (.int lim), .val (.int c1), .val (.int c2), .val (.int c3), .val (.ref b1), .val (.ref b2), .val (.ref ob), .val (.int j1), .val (.int j2), .val (.int j3), .val (.int jn), .val (.ref r), .unset, .unset] [(.int j1), (.int (7 : Int32)), (.ref r)]) (fun t kq_ => XS.iload X207.here hx rfl (hb hby at_337) rfl kq_) ?_
  refine hG _ T207 _ (mkF m 341 #[.val (.long q1), .second, .val (.int p2), .val (.int p3), .val (.int p4), .val (.int p5), .val (.int lim), .val (.int c1), .val (.int c2), .val (.int c3), .val (.ref b1), .val (.ref b2), .val (.ref ob), .val (.int j1), .val (.int j2), .val (.int j3), .val (.int jn), .val (.ref r), .unset, .unset] [(.int j2), (.int j1), (.int (7 : Int32)), (.ref r)]) (fun t kq_ => XS.iload X207.here hx rfl (hb hby at_339) rfl kq_) ?_
  refine hG _ T207 _ (mkF m 343 #[.val (.long q1), .second, .val (.int p2), .val (.int p3), .val (.int p4), .val (.int p5), .val (.int lim), .val (.int c1), .val (.int c2), .val (.int c3), .val (.ref b1), .val (.ref b2), .val (.ref ob), .val (.int j1), .val (.int j2), .val (.int j3), .val (.int jn), .val (.ref r), .unset, .unset] [(.ref b1), (.int j2), (.int j1), (.int (7 : Int32)), (.ref r)]) (fun t kq_ => XS.aload X207.here hx rfl (hb hby at_341) rfl rfl kq_) ?_
  refine hG _ T207 _ (mkF m 345 #[.val (.long q1), .second, .val (.int p2), .val (.int p3), .val (.int p4), .val (.int p5), .val (.int lim), .val (.int c1), .val (.int c2), .val (.int c3), .val (.ref b1), .val (.ref b2), .val (.ref ob), .val (.int j1), .val (.int j2), .val (.int j3), .val (.int jn), .val (.ref r), .unset, .unset] [(.ref b2), (.ref b1), (.int j2), (.int j1), (.int (7 : Int32)), (.ref r)]) (fun t kq_ => XS.aload X207.here hx rfl (hb hby at_343) rfl rfl kq_) ?_
  obtain ⟨_, _, ⟨T209, L209, k209, n209⟩, -, X209, ⟨Lc209, hQ209, l209, y209, z209⟩, st209⟩ := Jvm.LawKit.callS X207 hx (y := (⟨"com/example/tools_to_sandbox/toolstosandbox/service/OutputCaptureToByteArrayPinLaw", "at", "([BIII[B[B)Z"⟩ : MethodName)) hown (mvT hZ (tw64 hw)) (mvT hZ (tw65 hw)) (mvT hZ (tw66 hw)) (mvT hZ (tw67 hw)) (by decide) (backOf (W := 0) (rmAt l Z a0 hw [] r (7 : Int32) j1 j2 b1 b2 T190.heap n0 Zs191 7 k1 k2 (k1 + k2 + k3) f3 g1 g2 rfl hj1 hj2 l1 l2 (by omega) (hin 7) Vr V1'193 V2'194) hZ (tw67 hw) (tw66 hw) (by decide) (by decide)) (g := (mkF m 345 #[.val (.long q1), .second, .val (.int p2), .val (.int p3), .val (.int p4), .val (.int p5), .val (.int lim), .val (.int c1), .val (.int c2), .val (.int c3), .val (.ref b1), .val (.ref b2), .val (.ref ob), .val (.int j1), .val (.int j2), .val (.int j3), .val (.int jn), .val (.ref r), .unset, .unset] [(.ref b2), (.ref b1), (.int j2), (.int j1), (.int (7 : Int32)), (.ref r)])) rfl (by rw [hml]; rfl) (argsL := [(.ref r), (.int (7 : Int32)), (.int j1), (.int j2), (.ref b1), (.ref b2)]) (rest := []) (lenOf pd_6 rfl) rfl (by show 2 * 0 + _ ≤ _; exact Nat.le_of_eq rfl) (hb hby at_345) (fun _ _ => ⟨rfl, e207, (by decide : 8 + 0 ≤ _), (by decide : 48 + 0 ≤ _)⟩)
  dsimp only [Pt.U, Pt.locs, Pt.cells, Pt.slots] at X209 l209 y209 z209 st209 hQ209
  subst l209 y209 z209
  obtain ⟨rfl, N209q, hq208⟩ := hQ209
  have N209 := Fr.app N207 N209q
  have e209 : T209.heap = T190.heap := hq208
  refine hG _ T209 _ (mkF m 348 #[.val (.long q1), .second, .val (.int p2), .val (.int p3), .val (.int p4), .val (.int p5), .val (.int lim), .val (.int c1), .val (.int c2), .val (.int c3), .val (.ref b1), .val (.ref b2), .val (.ref ob), .val (.int j1), .val (.int j2), .val (.int j3), .val (.int jn), .val (.ref r), .unset, .unset] [(.int (1 : Int32))]) (fun t kq_ => st209 _ kq_) ?_
  refine hG _ T209 _ (mkF m 351 #[.val (.long q1), .second, .val (.int p2), .val (.int p3), .val (.int p4), .val (.int p5), .val (.int lim), .val (.int c1), .val (.int c2), .val (.int c3), .val (.ref b1), .val (.ref b2), .val (.ref ob), .val (.int j1), .val (.int j2), .val (.int j3), .val (.int jn), .val (.ref r), .unset, .unset] []) (fun t kq_ => XS.ifNo X209.here hx rfl (hb hby at_348) rfl ((if0 _ _).trans (feq (by decide)).1) kq_) ?_
  refine hG _ T209 _ (mkF m 353 #[.val (.long q1), .second, .val (.int p2), .val (.int p3), .val (.int p4), .val (.int p5), .val (.int lim), .val (.int c1), .val (.int c2), .val (.int c3), .val (.ref b1), .val (.ref b2), .val (.ref ob), .val (.int j1), .val (.int j2), .val (.int j3), .val (.int jn), .val (.ref r), .unset, .unset] [(.ref r)]) (fun t kq_ => XS.aload X209.here hx rfl (hb hby at_351) rfl rfl kq_) ?_
  refine hG _ T209 _ (mkF m 355 #[.val (.long q1), .second, .val (.int p2), .val (.int p3), .val (.int p4), .val (.int p5), .val (.int lim), .val (.int c1), .val (.int c2), .val (.int c3), .val (.ref b1), .val (.ref b2), .val (.ref ob), .val (.int j1), .val (.int j2), .val (.int j3), .val (.int jn), .val (.ref r), .unset, .unset] [(.int (8 : Int32)), (.ref r)]) (fun t kq_ => XS.bipush X209.here hx rfl (hb hby at_353) kq_) ?_
  refine hG _ T209 _ (mkF m 357 #[.val (.long q1), .second, .val (.int p2), .val (.int p3), .val (.int p4), .val (.int p5), .val (.int lim), .val (.int c1), .val (.int c2), .val (.int c3), .val (.ref b1), .val (.ref b2), .val (.ref ob), .val (.int j1), .val (.int j2), .val (.int j3), .val (.int jn), .val (.ref r), .unset, .unset] [(.int j1), (.int (8 : Int32)), (.ref r)]) (fun t kq_ => XS.iload X209.here hx rfl (hb hby at_355) rfl kq_) ?_
  refine hG _ T209 _ (mkF m 359 #[.val (.long q1), .second, .val (.int p2), .val (.int p3), .val (.int p4), .val (.int p5), .val (.int lim), .val (.int c1), .val (.int c2), .val (.int c3), .val (.ref b1), .val (.ref b2), .val (.ref ob), .val (.int j1), .val (.int j2), .val (.int j3), .val (.int jn), .val (.ref r), .unset, .unset] [(.int j2), (.int j1), (.int (8 : Int32)), (.ref r)]) (fun t kq_ => XS.iload X209.here hx rfl (hb hby at_357) rfl kq_) ?_
  refine hG _ T209 _ (mkF m 361 #[.val (.long q1), .second, .val (.int p2), .val (.int p3), .val (.int p4), .val (.int p5), .val (.int lim), .val (.int c1), .val (.int c2), .val (.int c3), .val (.ref b1), .val (.ref b2), .val (.ref ob), .val (.int j1), .val (.int j2), .val (.int j3), .val (.int jn), .val (.ref r), .unset, .unset] [(.ref b1), (.int j2), (.int j1), (.int (8 : Int32)), (.ref r)]) (fun t kq_ => XS.aload X209.here hx rfl (hb hby at_359) rfl rfl kq_) ?_
  refine hG _ T209 _ (mkF m 363 #[.val (.long q1), .second, .val (.int p2), .val (.int p3), .val (.int p4), .val (.int p5), .val (.int lim), .val (.int c1), .val (.int c2), .val (.int c3), .val (.ref b1), .val (.ref b2), .val (.ref ob), .val (.int j1), .val (.int j2), .val (.int j3), .val (.int jn), .val (.ref r), .unset, .unset] [(.ref b2), (.ref b1), (.int j2), (.int j1), (.int (8 : Int32)), (.ref r)]) (fun t kq_ => XS.aload X209.here hx rfl (hb hby at_361) rfl rfl kq_) ?_
  obtain ⟨_, _, ⟨T211, L211, k211, n211⟩, -, X211, ⟨Lc211, hQ211, l211, y211, z211⟩, st211⟩ := Jvm.LawKit.callS X209 hx (y := (⟨"com/example/tools_to_sandbox/toolstosandbox/service/OutputCaptureToByteArrayPinLaw", "at", "([BIII[B[B)Z"⟩ : MethodName)) hown (mvT hZ (tw64 hw)) (mvT hZ (tw65 hw)) (mvT hZ (tw66 hw)) (mvT hZ (tw67 hw)) (by decide) (backOf (W := 0) (rmAt l Z a0 hw [] r (8 : Int32) j1 j2 b1 b2 T190.heap n0 Zs191 8 k1 k2 (k1 + k2 + k3) f3 g1 g2 rfl hj1 hj2 l1 l2 (by omega) (hin 8) Vr V1'193 V2'194) hZ (tw67 hw) (tw66 hw) (by decide) (by decide)) (g := (mkF m 363 #[.val (.long q1), .second, .val (.int p2), .val (.int p3), .val (.int p4), .val (.int p5), .val (.int lim), .val (.int c1), .val (.int c2), .val (.int c3), .val (.ref b1), .val (.ref b2), .val (.ref ob), .val (.int j1), .val (.int j2), .val (.int j3), .val (.int jn), .val (.ref r), .unset, .unset] [(.ref b2), (.ref b1), (.int j2), (.int j1), (.int (8 : Int32)), (.ref r)])) rfl (by rw [hml]; rfl) (argsL := [(.ref r), (.int (8 : Int32)), (.int j1), (.int j2), (.ref b1), (.ref b2)]) (rest := []) (lenOf pd_6 rfl) rfl (by show 2 * 0 + _ ≤ _; exact Nat.le_of_eq rfl) (hb hby at_363) (fun _ _ => ⟨rfl, e209, (by decide : 8 + 0 ≤ _), (by decide : 48 + 0 ≤ _)⟩)
  dsimp only [Pt.U, Pt.locs, Pt.cells, Pt.slots] at X211 l211 y211 z211 st211 hQ211
  subst l211 y211 z211
  obtain ⟨rfl, N211q, hq210⟩ := hQ211
  have N211 := Fr.app N209 N211q
  have e211 : T211.heap = T190.heap := hq210
  refine hG _ T211 _ (mkF m 366 #[.val (.long q1), .second, .val (.int p2), .val (.int p3), .val (.int p4), .val (.int p5), .val (.int lim), .val (.int c1), .val (.int c2), .val (.int c3), .val (.ref b1), .val (.ref b2), .val (.ref ob), .val (.int j1), .val (.int j2), .val (.int j3), .val (.int jn), .val (.ref r), .unset, .unset] [(.int (1 : Int32))]) (fun t kq_ => st211 _ kq_) ?_
  refine hG _ T211 _ (mkF m 369 #[.val (.long q1), .second, .val (.int p2), .val (.int p3), .val (.int p4), .val (.int p5), .val (.int lim), .val (.int c1), .val (.int c2), .val (.int c3), .val (.ref b1), .val (.ref b2), .val (.ref ob), .val (.int j1), .val (.int j2), .val (.int j3), .val (.int jn), .val (.ref r), .unset, .unset] []) (fun t kq_ => XS.ifNo X211.here hx rfl (hb hby at_366) rfl ((if0 _ _).trans (feq (by decide)).1) kq_) ?_
  refine hG _ T211 _ (mkF m 371 #[.val (.long q1), .second, .val (.int p2), .val (.int p3), .val (.int p4), .val (.int p5), .val (.int lim), .val (.int c1), .val (.int c2), .val (.int c3), .val (.ref b1), .val (.ref b2), .val (.ref ob), .val (.int j1), .val (.int j2), .val (.int j3), .val (.int jn), .val (.ref r), .unset, .unset] [(.ref r)]) (fun t kq_ => XS.aload X211.here hx rfl (hb hby at_369) rfl rfl kq_) ?_
  refine hG _ T211 _ (mkF m 373 #[.val (.long q1), .second, .val (.int p2), .val (.int p3), .val (.int p4), .val (.int p5), .val (.int lim), .val (.int c1), .val (.int c2), .val (.int c3), .val (.ref b1), .val (.ref b2), .val (.ref ob), .val (.int j1), .val (.int j2), .val (.int j3), .val (.int jn), .val (.ref r), .unset, .unset] [(.int (9 : Int32)), (.ref r)]) (fun t kq_ => XS.bipush X211.here hx rfl (hb hby at_371) kq_) ?_
  refine hG _ T211 _ (mkF m 375 #[.val (.long q1), .second, .val (.int p2), .val (.int p3), .val (.int p4), .val (.int p5), .val (.int lim), .val (.int c1), .val (.int c2), .val (.int c3), .val (.ref b1), .val (.ref b2), .val (.ref ob), .val (.int j1), .val (.int j2), .val (.int j3), .val (.int jn), .val (.ref r), .unset, .unset] [(.int j1), (.int (9 : Int32)), (.ref r)]) (fun t kq_ => XS.iload X211.here hx rfl (hb hby at_373) rfl kq_) ?_
  refine hG _ T211 _ (mkF m 377 #[.val (.long q1), .second, .val (.int p2), .val (.int p3), .val (.int p4), .val (.int p5), .val (.int lim), .val (.int c1), .val (.int c2), .val (.int c3), .val (.ref b1), .val (.ref b2), .val (.ref ob), .val (.int j1), .val (.int j2), .val (.int j3), .val (.int jn), .val (.ref r), .unset, .unset] [(.int j2), (.int j1), (.int (9 : Int32)), (.ref r)]) (fun t kq_ => XS.iload X211.here hx rfl (hb hby at_375) rfl kq_) ?_
  refine hG _ T211 _ (mkF m 379 #[.val (.long q1), .second, .val (.int p2), .val (.int p3), .val (.int p4), .val (.int p5), .val (.int lim), .val (.int c1), .val (.int c2), .val (.int c3), .val (.ref b1), .val (.ref b2), .val (.ref ob), .val (.int j1), .val (.int j2), .val (.int j3), .val (.int jn), .val (.ref r), .unset, .unset] [(.ref b1), (.int j2), (.int j1), (.int (9 : Int32)), (.ref r)]) (fun t kq_ => XS.aload X211.here hx rfl (hb hby at_377) rfl rfl kq_) ?_
  refine hG _ T211 _ (mkF m 381 #[.val (.long q1), .second, .val (.int p2), .val (.int p3), .val (.int p4), .val (.int p5), .val (.int lim), .val (.int c1), .val (.int c2), .val (.int c3), .val (.ref b1), .val (.ref b2), .val (.ref ob), .val (.int j1), .val (.int j2), .val (.int j3), .val (.int jn), .val (.ref r), .unset, .unset] [(.ref b2), (.ref b1), (.int j2), (.int j1), (.int (9 : Int32)), (.ref r)]) (fun t kq_ => XS.aload X211.here hx rfl (hb hby at_379) rfl rfl kq_) ?_
  obtain ⟨_, _, ⟨T213, L213, k213, n213⟩, -, X213, ⟨Lc213, hQ213, l213, y213, z213⟩, st213⟩ := Jvm.LawKit.callS X211 hx (y := (⟨"com/example/tools_to_sandbox/toolstosandbox/service/OutputCaptureToByteArrayPinLaw", "at", "([BIII[B[B)Z"⟩ : MethodName)) hown (mvT hZ (tw64 hw)) (mvT hZ (tw65 hw)) (mvT hZ (tw66 hw)) (mvT hZ (tw67 hw)) (by decide) (backOf (W := 0) (rmAt l Z a0 hw [] r (9 : Int32) j1 j2 b1 b2 T190.heap n0 Zs191 9 k1 k2 (k1 + k2 + k3) f3 g1 g2 rfl hj1 hj2 l1 l2 (by omega) (hin 9) Vr V1'193 V2'194) hZ (tw67 hw) (tw66 hw) (by decide) (by decide)) (g := (mkF m 381 #[.val (.long q1), .second, .val (.int p2), .val (.int p3), .val (.int p4), .val (.int p5), .val (.int lim), .val (.int c1), .val (.int c2), .val (.int c3), .val (.ref b1), .val (.ref b2), .val (.ref ob), .val (.int j1), .val (.int j2), .val (.int j3), .val (.int jn), .val (.ref r), .unset, .unset] [(.ref b2), (.ref b1), (.int j2), (.int j1), (.int (9 : Int32)), (.ref r)])) rfl (by rw [hml]; rfl) (argsL := [(.ref r), (.int (9 : Int32)), (.int j1), (.int j2), (.ref b1), (.ref b2)]) (rest := []) (lenOf pd_6 rfl) rfl (by show 2 * 0 + _ ≤ _; exact Nat.le_of_eq rfl) (hb hby at_381) (fun _ _ => ⟨rfl, e211, (by decide : 8 + 0 ≤ _), (by decide : 48 + 0 ≤ _)⟩)
  dsimp only [Pt.U, Pt.locs, Pt.cells, Pt.slots] at X213 l213 y213 z213 st213 hQ213
  subst l213 y213 z213
  obtain ⟨rfl, N213q, hq212⟩ := hQ213
  have N213 := Fr.app N211 N213q
  have e213 : T213.heap = T190.heap := hq212
  refine hG _ T213 _ (mkF m 384 #[.val (.long q1), .second, .val (.int p2), .val (.int p3), .val (.int p4), .val (.int p5), .val (.int lim), .val (.int c1), .val (.int c2), .val (.int c3), .val (.ref b1), .val (.ref b2), .val (.ref ob), .val (.int j1), .val (.int j2), .val (.int j3), .val (.int jn), .val (.ref r), .unset, .unset] [(.int (1 : Int32))]) (fun t kq_ => st213 _ kq_) ?_
  refine hG _ T213 _ (mkF m 387 #[.val (.long q1), .second, .val (.int p2), .val (.int p3), .val (.int p4), .val (.int p5), .val (.int lim), .val (.int c1), .val (.int c2), .val (.int c3), .val (.ref b1), .val (.ref b2), .val (.ref ob), .val (.int j1), .val (.int j2), .val (.int j3), .val (.int jn), .val (.ref r), .unset, .unset] []) (fun t kq_ => XS.ifNo X213.here hx rfl (hb hby at_384) rfl ((if0 _ _).trans (feq (by decide)).1) kq_) ?_
  refine hG _ T213 _ (mkF m 388 #[.val (.long q1), .second, .val (.int p2), .val (.int p3), .val (.int p4), .val (.int p5), .val (.int lim), .val (.int c1), .val (.int c2), .val (.int c3), .val (.ref b1), .val (.ref b2), .val (.ref ob), .val (.int j1), .val (.int j2), .val (.int j3), .val (.int jn), .val (.ref r), .unset, .unset] [(.int (1 : Int32))]) (fun t kq_ => XS.iconst X213.here hx rfl (hb hby at_387) kq_) ?_
  refine hG _ T213 _ (mkF m 392 #[.val (.long q1), .second, .val (.int p2), .val (.int p3), .val (.int p4), .val (.int p5), .val (.int lim), .val (.int c1), .val (.int c2), .val (.int c3), .val (.ref b1), .val (.ref b2), .val (.ref ob), .val (.int j1), .val (.int j2), .val (.int j3), .val (.int jn), .val (.ref r), .unset, .unset] [(.int (1 : Int32))]) (fun t kq_ => XS.goto X213.here hx rfl (pc0 := 388) (pc' := 392) rfl (hb hby at_388) (by decide) (by decide) kq_) ?_
  refine hG _ T213 _ (mkF m 394 #[.val (.long q1), .second, .val (.int p2), .val (.int p3), .val (.int p4), .val (.int p5), .val (.int lim), .val (.int c1), .val (.int c2), .val (.int c3), .val (.ref b1), .val (.ref b2), .val (.ref ob), .val (.int j1), .val (.int j2), .val (.int j3), .val (.int jn), .val (.ref r), .val (.int (1 : Int32)), .unset] []) (fun t kq_ => XS.istore X213.here hx rfl (hb hby at_392) rfl (l' := #[.val (.long q1), .second, .val (.int p2), .val (.int p3), .val (.int p4), .val (.int p5), .val (.int lim), .val (.int c1), .val (.int c2), .val (.int c3), .val (.ref b1), .val (.ref b2), .val (.ref ob), .val (.int j1), .val (.int j2), .val (.int j3), .val (.int jn), .val (.ref r), .val (.int (1 : Int32)), .unset]) rfl kq_) ?_
  refine hG _ T213 _ (mkF m 396 #[.val (.long q1), .second, .val (.int p2), .val (.int p3), .val (.int p4), .val (.int p5), .val (.int lim), .val (.int c1), .val (.int c2), .val (.int c3), .val (.ref b1), .val (.ref b2), .val (.ref ob), .val (.int j1), .val (.int j2), .val (.int j3), .val (.int jn), .val (.ref r), .val (.int (1 : Int32)), .unset] [(.int (1 : Int32))]) (fun t kq_ => XS.iload X213.here hx rfl (hb hby at_394) rfl kq_) ?_
  refine hG _ T213 _ (mkF m 401 #[.val (.long q1), .second, .val (.int p2), .val (.int p3), .val (.int p4), .val (.int p5), .val (.int lim), .val (.int c1), .val (.int c2), .val (.int c3), .val (.ref b1), .val (.ref b2), .val (.ref ob), .val (.int j1), .val (.int j2), .val (.int j3), .val (.int jn), .val (.ref r), .val (.int (1 : Int32)), .unset] []) (fun t kq_ => XS.ifYes X213.here hx rfl (pc0 := 396) (pc' := 401) rfl (hb hby at_396) rfl ((if0 _ _).trans (feq (by decide)).2) (by decide) (by decide) kq_) ?_
  refine hG _ T213 _ (mkF m 403 #[.val (.long q1), .second, .val (.int p2), .val (.int p3), .val (.int p4), .val (.int p5), .val (.int lim), .val (.int c1), .val (.int c2), .val (.int c3), .val (.ref b1), .val (.ref b2), .val (.ref ob), .val (.int j1), .val (.int j2), .val (.int j3), .val (.int jn), .val (.ref r), .val (.int (1 : Int32)), .unset] [(.int jn)]) (fun t kq_ => XS.iload X213.here hx rfl (hb hby at_401) rfl kq_) ?_
  have hnr : ∀ a b : Addr, a < h0.size → h0.size ≤ b → a ≠ b := fun a b q1 q2 => Nat.ne_of_lt (Nat.lt_of_lt_of_le q1 q2)
  have nr_ob : ob ≠ r := hnr _ _ E1.lt hbr
  have nr_bb : bb ≠ r := hnr _ _ V3.lt hbr
  have nr_b1 : b1 ≠ r := hnr _ _ V1.lt hbr
  have nr_b2 : b2 ≠ r := hnr _ _ V2.lt hbr
  have gr : n0 ≤ r := Nat.le_trans Z0 hbr
  by_cases hc403 : (0 : Int32) < jn
  · refine hG _ T213 _ (mkF m 406 #[.val (.long q1), .second, .val (.int p2), .val (.int p3), .val (.int p4), .val (.int p5), .val (.int lim), .val (.int c1), .val (.int c2), .val (.int c3), .val (.ref b1), .val (.ref b2), .val (.ref ob), .val (.int j1), .val (.int j2), .val (.int j3), .val (.int jn), .val (.ref r), .val (.int (1 : Int32)), .unset] []) (fun t kq_ => XS.ifNo X213.here hx rfl (hb hby at_403) rfl ((if0 _ _).trans (tlt hc403).2.2.2) kq_) ?_
    have hpos : 0 < k1 + k2 + k3 := by rw [Int32.lt_iff_toInt_lt, hjn] at hc403; have e0 : (0 : Int32).toInt = 0 := rfl; omega
    refine hG _ T213 _ (mkF m 408 #[.val (.long q1), .second, .val (.int p2), .val (.int p3), .val (.int p4), .val (.int p5), .val (.int lim), .val (.int c1), .val (.int c2), .val (.int c3), .val (.ref b1), .val (.ref b2), .val (.ref ob), .val (.int j1), .val (.int j2), .val (.int j3), .val (.int jn), .val (.ref r), .val (.int (1 : Int32)), .unset] [(.ref r)]) (fun t kq_ => XS.aload X213.here hx rfl (hb hby at_406) rfl rfl kq_) ?_
    refine hG _ T213 _ (mkF m 409 #[.val (.long q1), .second, .val (.int p2), .val (.int p3), .val (.int p4), .val (.int p5), .val (.int lim), .val (.int c1), .val (.int c2), .val (.int c3), .val (.ref b1), .val (.ref b2), .val (.ref ob), .val (.int j1), .val (.int j2), .val (.int j3), .val (.int jn), .val (.ref r), .val (.int (1 : Int32)), .unset] [(.int (0 : Int32)), (.ref r)]) (fun t kq_ => XS.iconst X213.here hx rfl (hb hby at_408) kq_) ?_
    refine hG _ T213 _ (mkF m 411 #[.val (.long q1), .second, .val (.int p2), .val (.int p3), .val (.int p4), .val (.int p5), .val (.int lim), .val (.int c1), .val (.int c2), .val (.int c3), .val (.ref b1), .val (.ref b2), .val (.ref ob), .val (.int j1), .val (.int j2), .val (.int j3), .val (.int jn), .val (.ref r), .val (.int (1 : Int32)), .unset] [(.ref r), (.int (0 : Int32)), (.ref r)]) (fun t kq_ => XS.aload X213.here hx rfl (hb hby at_409) rfl rfl kq_) ?_
    refine hG _ T213 _ (mkF m 412 #[.val (.long q1), .second, .val (.int p2), .val (.int p3), .val (.int p4), .val (.int p5), .val (.int lim), .val (.int c1), .val (.int c2), .val (.int c3), .val (.ref b1), .val (.ref b2), .val (.ref ob), .val (.int j1), .val (.int j2), .val (.int j3), .val (.int jn), .val (.ref r), .val (.int (1 : Int32)), .unset] [(.int (0 : Int32)), (.ref r), (.int (0 : Int32)), (.ref r)]) (fun t kq_ => XS.iconst X213.here hx rfl (hb hby at_411) kq_) ?_
    refine hG _ T213 _ (mkF m 413 #[.val (.long q1), .second, .val (.int p2), .val (.int p3), .val (.int p4), .val (.int p5), .val (.int lim), .val (.int c1), .val (.int c2), .val (.int c3), .val (.ref b1), .val (.ref b2), .val (.ref ob), .val (.int j1), .val (.int j2), .val (.int j3), .val (.int jn), .val (.ref r), .val (.int (1 : Int32)), .unset] [(.int (f3 0)), (.int (0 : Int32)), (.ref r)]) (Av.ldB X213 hx hZ e213 Vr.1 (j := (0 : Int32)) (i := 0) rfl hpos (g := (mkF m 412 #[.val (.long q1), .second, .val (.int p2), .val (.int p3), .val (.int p4), .val (.int p5), .val (.int lim), .val (.int c1), .val (.int c2), .val (.int c3), .val (.ref b1), .val (.ref b2), .val (.ref ob), .val (.int j1), .val (.int j2), .val (.int j3), .val (.int jn), .val (.ref r), .val (.int (1 : Int32)), .unset] [(.int (0 : Int32)), (.ref r), (.int (0 : Int32)), (.ref r)])) rfl rfl (hb hby at_412)) ?_
    refine hG _ T213 _ (mkF m 414 #[.val (.long q1), .second, .val (.int p2), .val (.int p3), .val (.int p4), .val (.int p5), .val (.int lim), .val (.int c1), .val (.int c2), .val (.int c3), .val (.ref b1), .val (.ref b2), .val (.ref ob), .val (.int j1), .val (.int j2), .val (.int j3), .val (.int jn), .val (.ref r), .val (.int (1 : Int32)), .unset] [(.int (1 : Int32)), (.int (f3 0)), (.int (0 : Int32)), (.ref r)]) (fun t kq_ => XS.iconst X213.here hx rfl (hb hby at_413) kq_) ?_
    refine hG _ T213 _ (mkF m 415 #[.val (.long q1), .second, .val (.int p2), .val (.int p3), .val (.int p4), .val (.int p5), .val (.int lim), .val (.int c1), .val (.int c2), .val (.int c3), .val (.ref b1), .val (.ref b2), .val (.ref ob), .val (.int j1), .val (.int j2), .val (.int j3), .val (.int jn), .val (.ref r), .val (.int (1 : Int32)), .unset] [(.int ((f3 0) ^^^ (1 : Int32))), (.int (0 : Int32)), (.ref r)]) (fun t kq_ => XS.ixor X213.here hx rfl (hb hby at_414) rfl kq_) ?_
    refine hG _ T213 _ (mkF m 416 #[.val (.long q1), .second, .val (.int p2), .val (.int p3), .val (.int p4), .val (.int p5), .val (.int lim), .val (.int c1), .val (.int c2), .val (.int c3), .val (.ref b1), .val (.ref b2), .val (.ref ob), .val (.int j1), .val (.int j2), .val (.int j3), .val (.int jn), .val (.ref r), .val (.int (1 : Int32)), .unset] [(.int (((f3 0) ^^^ (1 : Int32)).toInt8.toInt32)), (.int (0 : Int32)), (.ref r)]) (fun t kq_ => XS.i2b X213.here hx rfl (hb hby at_415) rfl kq_) ?_
    obtain ⟨T214, h214, X214, e214, W214, V214, st214⟩ := Ab.st X213 hx hZ e213 Vr (j := (0 : Int32)) (i := 0) rfl hpos (g := (mkF m 416 #[.val (.long q1), .second, .val (.int p2), .val (.int p3), .val (.int p4), .val (.int p5), .val (.int lim), .val (.int c1), .val (.int c2), .val (.int c3), .val (.ref b1), .val (.ref b2), .val (.ref ob), .val (.int j1), .val (.int j2), .val (.int j3), .val (.int jn), .val (.ref r), .val (.int (1 : Int32)), .unset] [(.int (((f3 0) ^^^ (1 : Int32)).toInt8.toInt32)), (.int (0 : Int32)), (.ref r)])) rfl rfl (hb hby at_416)
    have Zs215 : n0 ≤ h214.size := Nat.le_trans Zs191 (Keep.of_wr W214).1
    have N214 := Fr.snoc X214 N213 gr
    refine hG _ T214 _ (mkF m 417 #[.val (.long q1), .second, .val (.int p2), .val (.int p3), .val (.int p4), .val (.int p5), .val (.int lim), .val (.int c1), .val (.int c2), .val (.int c3), .val (.ref b1), .val (.ref b2), .val (.ref ob), .val (.int j1), .val (.int j2), .val (.int j3), .val (.int jn), .val (.ref r), .val (.int (1 : Int32)), .unset] []) st214 ?_
    have E1'216 : Exa Z h214 ob "com/example/tools_to_sandbox/toolstosandbox/service/OutputCapture" := ((E1.keep Kr).wr W214)
    have F_b'217 : Fld Z h214 ob "com/example/tools_to_sandbox/toolstosandbox/service/OutputCapture" "bytes" "[B" (.ref bb) := ((F_b.keep Kr nin0).other W214 (Or.inl nr_ob))
    have F_z'218 : Fld Z h214 ob "com/example/tools_to_sandbox/toolstosandbox/service/OutputCapture" "size" "I" (.int sz) := ((F_z.keep Kr nin0).other W214 (Or.inl nr_ob))
    have V3'219 : Ab Z h214 bb nn f3 := ((V3.keep Kr nin0).other W214 nr_bb)
    have V1'220 : Ab Z h214 b1 4 g1 := (V1'193.other W214 nr_b1)
    have V2'221 : Ab Z h214 b2 4 g2 := (V2'194.other W214 nr_b2)
    exact lw417 _ _ _ _ _ lim c1 c2 c3 b1 b2 g1 g2 lm m1 m2 m3 k1 k2 k3 nn f3 ob bb sz j1 j2 j3 jn r X214 hx hZ hw hby hml hown e214 Zs215 N214 hlk hrt hlm h9 hc1 hc2 hc3 hm1 hm2 hm3 E1'216 F_b'217 F_z'218 V3'219 V1'220 V2'221 hsz hsn hnn hj1 hj2 hjn l1 l2 l3 hcon
  · refine hG _ T213 _ (mkF m 417 #[.val (.long q1), .second, .val (.int p2), .val (.int p3), .val (.int p4), .val (.int p5), .val (.int lim), .val (.int c1), .val (.int c2), .val (.int c3), .val (.ref b1), .val (.ref b2), .val (.ref ob), .val (.int j1), .val (.int j2), .val (.int j3), .val (.int jn), .val (.ref r), .val (.int (1 : Int32)), .unset] []) (fun t kq_ => XS.ifYes X213.here hx rfl (pc0 := 403) (pc' := 417) rfl (hb hby at_403) rfl ((if0 _ _).trans (flt hc403).2.2.2) (by decide) (by decide) kq_) ?_
    have E1'222 : Exa Z T190.heap ob "com/example/tools_to_sandbox/toolstosandbox/service/OutputCapture" := (E1.keep Kr)
    have F_b'223 : Fld Z T190.heap ob "com/example/tools_to_sandbox/toolstosandbox/service/OutputCapture" "bytes" "[B" (.ref bb) := (F_b.keep Kr nin0)
    have F_z'224 : Fld Z T190.heap ob "com/example/tools_to_sandbox/toolstosandbox/service/OutputCapture" "size" "I" (.int sz) := (F_z.keep Kr nin0)
    have V3'225 : Ab Z T190.heap bb nn f3 := (V3.keep Kr nin0)
    exact lw417 _ _ _ _ _ lim c1 c2 c3 b1 b2 g1 g2 lm m1 m2 m3 k1 k2 k3 nn f3 ob bb sz j1 j2 j3 jn r X213 hx hZ hw hby hml hown e213 Zs191 N213 hlk hrt hlm h9 hc1 hc2 hc3 hm1 hm2 hm3 E1'222 F_b'223 F_z'224 V3'225 V1'193 V2'194 hsz hsn hnn hj1 hj2 hjn l1 l2 l3 hcon
set_option maxRecDepth 65536 in
set_option maxHeartbeats 40000000 in
theorem lw114 {p : Program} {l : Launch} {e : Env} {s : State} {m : MethodId} {args : Array Value} {below : List Frame} {meth : Method} {c : Code} {T0 : State} {locs : List Loc} {Z : State} {a0 : Array Value} {h0 : Heap} {n0 : Nat} (q1 : Int64) (p2 p3 p4 p5 : Int32) (lim c1 c2 c3 : Int32) (b1 b2 : Addr) (g1 g2 : Nat → Int32) (lm m1 m2 m3 : Nat)
    (X0 : Stand p l e room_1 s m args below meth c T0 locs 2 8) (hx : p.tables.exec = Jvm.exec) (hZ : Z.Warmed39 s.vm) (hw : ∀ d ∈ tables_1, d.before a0 Z = true) (hby : c.code = code) (hml : c.maxLocals = 20) (hown : s.vm.findClass "com/example/tools_to_sandbox/toolstosandbox/service/OutputCaptureToByteArrayPinLaw" = some m.cls) (e0 : T0.heap = h0) (Z0 : n0 ≤ h0.size) (N0 : Fr n0 locs) (hlk : meth.locks = false) (hrt : meth.sig.returnType = ret) (hlm : lim.toInt = (lm : Int)) (h9 : lm ≤ 9) (hc1 : c1.toInt = (m1 : Int)) (hc2 : c2.toInt = (m2 : Int)) (hc3 : c3.toInt = (m3 : Int)) (hm1 : m1 ≤ 4) (hm2 : m2 ≤ 4) (hm3 : m3 ≤ 4) (V1 : Ab Z h0 b1 4 g1) (V2 : Ab Z h0 b2 4 g2) :
    Goes p e below s (fun (v : Option Value) (h : Heap) (L : List Loc) => v = some (.int 1) ∧ Fr n0 L) 32 192 T0 (mkF m 114 #[.val (.long q1), .second, .val (.int p2), .val (.int p3), .val (.int p4), .val (.int p5), .val (.int lim), .val (.int c1), .val (.int c2), .val (.int c3), .val (.ref b1), .val (.ref b2), .unset, .unset, .unset, .unset, .unset, .unset, .unset, .unset] []) := by
  have hG := Goes.bk p e below s (fun (v : Option Value) (h : Heap) (L : List Loc) => v = some (.int 1) ∧ Fr n0 L) 32 192
  obtain ⟨T226, h226, X226, e226, E226, A226, D226, -, st226⟩ := newO X0 hx hZ hown (tw2 hw) (tw3 hw) (tw4 hw) e0 (g := (mkF m 114 #[.val (.long q1), .second, .val (.int p2), .val (.int p3), .val (.int p4), .val (.int p5), .val (.int lim), .val (.int c1), .val (.int c2), .val (.int c3), .val (.ref b1), .val (.ref b2), .unset, .unset, .unset, .unset, .unset, .unset, .unset, .unset] [])) rfl (hb hby at_114) (by decide) (by decide)
  obtain ⟨b226, g226⟩ : ∃ z, z = h0.size := ⟨_, rfl⟩
  rw [← g226] at A226 D226 st226
  have ne_b1_b226 : b1 ≠ b226 := Nat.ne_of_lt (Nat.lt_of_lt_of_le V1.lt (Nat.le_of_eq g226.symm))
  have ne_b2_b226 : b2 ≠ b226 := Nat.ne_of_lt (Nat.lt_of_lt_of_le V2.lt (Nat.le_of_eq g226.symm))
  have g_b226 : n0 ≤ b226 := Nat.le_trans Z0 (Nat.le_of_eq g226.symm)
  have Zs227 : n0 ≤ h226.size := Nat.le_trans Z0 E226.1
  have F_bytes_b226 : Fld Z h226 b226 "com/example/tools_to_sandbox/toolstosandbox/service/OutputCapture" "bytes" "[B" .null := D226 (Or.inl (tw12 hw)) (ty := (.array .byte)) (by decide)
  have F_limit_b226 : Fld Z h226 b226 "com/example/tools_to_sandbox/toolstosandbox/service/OutputCapture" "limit" "I" (.int (0 : Int32)) := D226 (Or.inr (tw14 hw)) (ty := .int) (by decide)
  have F_size_b226 : Fld Z h226 b226 "com/example/tools_to_sandbox/toolstosandbox/service/OutputCapture" "size" "I" (.int (0 : Int32)) := D226 (Or.inl (tw21 hw)) (ty := .int) (by decide)
  have F_truncated_b226 : Fld Z h226 b226 "com/example/tools_to_sandbox/toolstosandbox/service/OutputCapture" "truncated" "Z" (.int (0 : Int32)) := D226 (Or.inl (tw48 hw)) (ty := .boolean) (by decide)
  refine hG _ T226 _ (mkF m 117 #[.val (.long q1), .second, .val (.int p2), .val (.int p3), .val (.int p4), .val (.int p5), .val (.int lim), .val (.int c1), .val (.int c2), .val (.int c3), .val (.ref b1), .val (.ref b2), .unset, .unset, .unset, .unset, .unset, .unset, .unset, .unset] [(.ref b226)]) st226 ?_
  refine hG _ T226 _ (mkF m 118 #[.val (.long q1), .second, .val (.int p2), .val (.int p3), .val (.int p4), .val (.int p5), .val (.int lim), .val (.int c1), .val (.int c2), .val (.int c3), .val (.ref b1), .val (.ref b2), .unset, .unset, .unset, .unset, .unset, .unset, .unset, .unset] [(.ref b226), (.ref b226)]) (fun t kq_ => XS.dup X226.here hx rfl (hb hby at_117) rfl rfl kq_) ?_
  refine hG _ T226 _ (mkF m 120 #[.val (.long q1), .second, .val (.int p2), .val (.int p3), .val (.int p4), .val (.int p5), .val (.int lim), .val (.int c1), .val (.int c2), .val (.int c3), .val (.ref b1), .val (.ref b2), .unset, .unset, .unset, .unset, .unset, .unset, .unset, .unset] [(.int lim), (.ref b226), (.ref b226)]) (fun t kq_ => XS.iload X226.here hx rfl (hb hby at_118) rfl kq_) ?_
  obtain ⟨_, _, ⟨T228, L228, k228, n228⟩, -, X228, ⟨Lc228, hQ228, l228, y228, z228⟩, st228⟩ := X226.specialBack hx (y := (⟨"com/example/tools_to_sandbox/toolstosandbox/service/OutputCapture", "<init>", "(I)V"⟩ : MethodName)) rfl hown (mvT hZ (tw5 hw)) (mvT hZ (tw6 hw)) (mvT hZ (tw7 hw)) (by decide) (backOf (W := 1) (rmI l Z a0 hw [] b226 lim h226 n0 Zs227 _ _ _ _ lm A226 g_b226 F_bytes_b226 F_limit_b226 F_size_b226 F_truncated_b226 hlm) hZ (tw7 hw) (tw4 hw) (by decide) (by decide)) (g := (mkF m 120 #[.val (.long q1), .second, .val (.int p2), .val (.int p3), .val (.int p4), .val (.int p5), .val (.int lim), .val (.int c1), .val (.int c2), .val (.int c3), .val (.ref b1), .val (.ref b2), .unset, .unset, .unset, .unset, .unset, .unset, .unset, .unset] [(.int lim), (.ref b226), (.ref b226)])) rfl (by rw [hml]; rfl) (Steps.refl _) (a := b226) (argsL := [(.int lim)]) (rest := [(.ref b226)]) (lenOf pd_3 rfl) rfl (by show 2 * 0 + _ ≤ _; exact Nat.le_of_eq rfl) (hb hby at_120) (fun _ _ => ⟨rfl, e226, (by decide : 3 + 1 ≤ _), (by decide : 12 + 0 ≤ _)⟩)
  dsimp only [Pt.U, Pt.locs, Pt.cells, Pt.slots] at X228 l228 y228 z228 st228 hQ228
  subst l228 y228 z228
  obtain ⟨rfl, N228q, K1, bb1, gb1, hb1, G1a, G1b, G1c, G1d, V3a⟩ := hQ228
  have N228 := Fr.app N0 N228q
  have Zs229 : n0 ≤ T228.heap.size := Nat.le_trans Zs227 K1.1
  refine hG _ T228 _ (mkF m 123 #[.val (.long q1), .second, .val (.int p2), .val (.int p3), .val (.int p4), .val (.int p5), .val (.int lim), .val (.int c1), .val (.int c2), .val (.int c3), .val (.ref b1), .val (.ref b2), .unset, .unset, .unset, .unset, .unset, .unset, .unset, .unset] [(.ref b226)]) (fun t kq_ => st228.trans kq_) ?_
  have nb1_b226 : b226 ≠ bb1 := Nat.ne_of_lt (Nat.lt_of_lt_of_le A226.lt hb1)
  have nb1_b1 : b1 ≠ bb1 := Nat.ne_of_lt (Nat.lt_of_lt_of_le (Nat.lt_of_lt_of_le V1.lt E226.1) hb1)
  have nb1_b2 : b2 ≠ bb1 := Nat.ne_of_lt (Nat.lt_of_lt_of_le (Nat.lt_of_lt_of_le V2.lt E226.1) hb1)
  refine hG _ T228 _ (mkF m 125 #[.val (.long q1), .second, .val (.int p2), .val (.int p3), .val (.int p4), .val (.int p5), .val (.int lim), .val (.int c1), .val (.int c2), .val (.int c3), .val (.ref b1), .val (.ref b2), .val (.ref b226), .unset, .unset, .unset, .unset, .unset, .unset, .unset] []) (fun t kq_ => XS.astore X228.here hx rfl (hb hby at_123) rfl rfl (l' := #[.val (.long q1), .second, .val (.int p2), .val (.int p3), .val (.int p4), .val (.int p5), .val (.int lim), .val (.int c1), .val (.int c2), .val (.int c3), .val (.ref b1), .val (.ref b2), .val (.ref b226), .unset, .unset, .unset, .unset, .unset, .unset, .unset]) rfl kq_) ?_
  refine hG _ T228 _ (mkF m 127 #[.val (.long q1), .second, .val (.int p2), .val (.int p3), .val (.int p4), .val (.int p5), .val (.int lim), .val (.int c1), .val (.int c2), .val (.int c3), .val (.ref b1), .val (.ref b2), .val (.ref b226), .unset, .unset, .unset, .unset, .unset, .unset, .unset] [(.ref b226)]) (fun t kq_ => XS.aload X228.here hx rfl (hb hby at_125) rfl rfl kq_) ?_
  refine hG _ T228 _ (mkF m 129 #[.val (.long q1), .second, .val (.int p2), .val (.int p3), .val (.int p4), .val (.int p5), .val (.int lim), .val (.int c1), .val (.int c2), .val (.int c3), .val (.ref b1), .val (.ref b2), .val (.ref b226), .unset, .unset, .unset, .unset, .unset, .unset, .unset] [(.ref b1), (.ref b226)]) (fun t kq_ => XS.aload X228.here hx rfl (hb hby at_127) rfl rfl kq_) ?_
  refine hG _ T228 _ (mkF m 131 #[.val (.long q1), .second, .val (.int p2), .val (.int p3), .val (.int p4), .val (.int p5), .val (.int lim), .val (.int c1), .val (.int c2), .val (.int c3), .val (.ref b1), .val (.ref b2), .val (.ref b226), .unset, .unset, .unset, .unset, .unset, .unset, .unset] [(.int c1), (.ref b1), (.ref b226)]) (fun t kq_ => XS.iload X228.here hx rfl (hb hby at_129) rfl kq_) ?_
  have V1'230 : Ab Z T228.heap b1 4 g1 := ((V1.ext E226).keep K1 (ninS ne_b1_b226 nin0))
  have V2'231 : Ab Z T228.heap b2 4 g2 := ((V2.ext E226).keep K1 (ninS ne_b2_b226 nin0))
  have A226'232 : Exa Z T228.heap b226 "com/example/tools_to_sandbox/toolstosandbox/service/OutputCapture" := (A226.keep K1)
  obtain ⟨cq233, kq233, q233a, q233b, q233c⟩ := isOf hZ rfl A226'232
  obtain ⟨_, _, ⟨T233, L233, k233, n233⟩, -, X233, ⟨Lc233, hQ233, l233, y233, z233⟩, st233⟩ := X228.virtualBack hx (y := (⟨"com/example/tools_to_sandbox/toolstosandbox/service/OutputCapture", "keep", "([BI)V"⟩ : MethodName)) (z := (⟨"com/example/tools_to_sandbox/toolstosandbox/service/OutputCapture", "keep", "([BI)V"⟩ : MethodName)) hown (mvT hZ (tw15 hw)) (mvT hZ (tw16 hw)) (notFace_of_selects (args := #[]) (mvT hZ (tw18 hw))) (mvT hZ (tw18 hw)) (mvT hZ (tw17 hw)) (by decide) (backOf (W := 0) (rmK l Z a0 hw [] b226 b1 c1 T228.heap n0 Zs229 lim (0 : Int32) bb1 lm (0) m1 0 (fun _ => 0) g1 (.int (0 : Int32)) A226'232 g_b226 V1'230 hlm h9 rfl (by omega) hc1 hm1 ne_b1_b226 nb1_b1 nb1_b226 G1a G1b G1c G1d V3a (Nat.le_refl _) (Nat.zero_le _) gb1) hZ (tw19 hw) (tw4 hw) (by decide) (by decide)) q233a q233c (g := (mkF m 131 #[.val (.long q1), .second, .val (.int p2), .val (.int p3), .val (.int p4), .val (.int p5), .val (.int lim), .val (.int c1), .val (.int c2), .val (.int c3), .val (.ref b1), .val (.ref b2), .val (.ref b226), .unset, .unset, .unset, .unset, .unset, .unset, .unset] [(.int c1), (.ref b1), (.ref b226)])) rfl (by rw [hml]; rfl) (Steps.refl _) (argsL := [(.ref b1), (.int c1)]) (rest := []) (lenOf pd_7 rfl) rfl (by show 2 * 0 + _ ≤ _; exact Nat.le_of_eq rfl) (hb hby at_131) (fun _ _ => ⟨rfl, rfl, (by decide : 4 + 1 ≤ _), (by decide : 12 + 9 ≤ _)⟩)
  dsimp only [Pt.U, Pt.locs, Pt.cells, Pt.slots] at X233 l233 y233 z233 st233 hQ233
  subst l233 y233 z233
  obtain ⟨rfl, N233q, K2_, bb2, n2, f2, k2, s2, u2, hk2, hs2, gb2, hor2, hn2a, hn2b, G2a, G2b, G2c, G2d, V3_2, hf2a, hf2b⟩ := hQ233
  have N233 := Fr.app N228 N233q
  have Zs234 : n0 ≤ T233.heap.size := Nat.le_trans Zs229 K2_.1
  refine hG _ T233 _ (mkF m 134 #[.val (.long q1), .second, .val (.int p2), .val (.int p3), .val (.int p4), .val (.int p5), .val (.int lim), .val (.int c1), .val (.int c2), .val (.int c3), .val (.ref b1), .val (.ref b2), .val (.ref b226), .unset, .unset, .unset, .unset, .unset, .unset, .unset] []) (fun t kq_ => st233.trans kq_) ?_
  have nb2_b226 : b226 ≠ bb2 := hor2.elim (fun z => by rw [z]; exact nb1_b226) (fun z => Nat.ne_of_lt (Nat.lt_of_lt_of_le A226'232.lt z))
  have nb2_b1 : b1 ≠ bb2 := hor2.elim (fun z => by rw [z]; exact nb1_b1) (fun z => Nat.ne_of_lt (Nat.lt_of_lt_of_le V1'230.lt z))
  have nb2_b2 : b2 ≠ bb2 := hor2.elim (fun z => by rw [z]; exact nb1_b2) (fun z => Nat.ne_of_lt (Nat.lt_of_lt_of_le V2'231.lt z))
  refine hG _ T233 _ (mkF m 136 #[.val (.long q1), .second, .val (.int p2), .val (.int p3), .val (.int p4), .val (.int p5), .val (.int lim), .val (.int c1), .val (.int c2), .val (.int c3), .val (.ref b1), .val (.ref b2), .val (.ref b226), .unset, .unset, .unset, .unset, .unset, .unset, .unset] [(.ref b226)]) (fun t kq_ => XS.aload X233.here hx rfl (hb hby at_134) rfl rfl kq_) ?_
  refine hG _ T233 _ (mkF m 138 #[.val (.long q1), .second, .val (.int p2), .val (.int p3), .val (.int p4), .val (.int p5), .val (.int lim), .val (.int c1), .val (.int c2), .val (.int c3), .val (.ref b1), .val (.ref b2), .val (.ref b226), .unset, .unset, .unset, .unset, .unset, .unset, .unset] [(.ref b2), (.ref b226)]) (fun t kq_ => XS.aload X233.here hx rfl (hb hby at_136) rfl rfl kq_) ?_
  refine hG _ T233 _ (mkF m 140 #[.val (.long q1), .second, .val (.int p2), .val (.int p3), .val (.int p4), .val (.int p5), .val (.int lim), .val (.int c1), .val (.int c2), .val (.int c3), .val (.ref b1), .val (.ref b2), .val (.ref b226), .unset, .unset, .unset, .unset, .unset, .unset, .unset] [(.int c2), (.ref b2), (.ref b226)]) (fun t kq_ => XS.iload X233.here hx rfl (hb hby at_138) rfl kq_) ?_
  have V1'235 : Ab Z T233.heap b1 4 g1 := (V1'230.keep K2_ (ninS ne_b1_b226 (ninS nb1_b1 nin0)))
  have V2'236 : Ab Z T233.heap b2 4 g2 := (V2'231.keep K2_ (ninS ne_b2_b226 (ninS nb1_b2 nin0)))
  have A226'237 : Exa Z T233.heap b226 "com/example/tools_to_sandbox/toolstosandbox/service/OutputCapture" := (A226'232.keep K2_)
  obtain ⟨cq238, kq238, q238a, q238b, q238c⟩ := isOf hZ rfl A226'237
  obtain ⟨_, _, ⟨T238, L238, k238, n238⟩, -, X238, ⟨Lc238, hQ238, l238, y238, z238⟩, st238⟩ := X233.virtualBack hx (y := (⟨"com/example/tools_to_sandbox/toolstosandbox/service/OutputCapture", "keep", "([BI)V"⟩ : MethodName)) (z := (⟨"com/example/tools_to_sandbox/toolstosandbox/service/OutputCapture", "keep", "([BI)V"⟩ : MethodName)) hown (mvT hZ (tw15 hw)) (mvT hZ (tw16 hw)) (notFace_of_selects (args := #[]) (mvT hZ (tw18 hw))) (mvT hZ (tw18 hw)) (mvT hZ (tw17 hw)) (by decide) (backOf (W := 0) (rmK l Z a0 hw [] b226 b2 c2 T233.heap n0 Zs234 lim s2 bb2 lm (0 + k2) m2 n2 f2 g2 u2 A226'237 g_b226 V2'236 hlm h9 hs2 (by omega) hc2 hm2 ne_b2_b226 nb2_b2 nb2_b226 G2a G2b G2c G2d V3_2 hn2a hn2b gb2) hZ (tw19 hw) (tw4 hw) (by decide) (by decide)) q238a q238c (g := (mkF m 140 #[.val (.long q1), .second, .val (.int p2), .val (.int p3), .val (.int p4), .val (.int p5), .val (.int lim), .val (.int c1), .val (.int c2), .val (.int c3), .val (.ref b1), .val (.ref b2), .val (.ref b226), .unset, .unset, .unset, .unset, .unset, .unset, .unset] [(.int c2), (.ref b2), (.ref b226)])) rfl (by rw [hml]; rfl) (Steps.refl _) (argsL := [(.ref b2), (.int c2)]) (rest := []) (lenOf pd_7 rfl) rfl (by show 2 * 0 + _ ≤ _; exact Nat.le_of_eq rfl) (hb hby at_140) (fun _ _ => ⟨rfl, rfl, (by decide : 5 + 1 ≤ _), (by decide : 21 + 9 ≤ _)⟩)
  dsimp only [Pt.U, Pt.locs, Pt.cells, Pt.slots] at X238 l238 y238 z238 st238 hQ238
  subst l238 y238 z238
  obtain ⟨rfl, N238q, K3_, bb3, n3, f3, k3, s3, u3, hk3, hs3, gb3, hor3, hn3a, hn3b, G3a, G3b, G3c, G3d, V3_3, hf3a, hf3b⟩ := hQ238
  have N238 := Fr.app N233 N238q
  have Zs239 : n0 ≤ T238.heap.size := Nat.le_trans Zs234 K3_.1
  refine hG _ T238 _ (mkF m 143 #[.val (.long q1), .second, .val (.int p2), .val (.int p3), .val (.int p4), .val (.int p5), .val (.int lim), .val (.int c1), .val (.int c2), .val (.int c3), .val (.ref b1), .val (.ref b2), .val (.ref b226), .unset, .unset, .unset, .unset, .unset, .unset, .unset] []) (fun t kq_ => st238.trans kq_) ?_
  have nb3_b226 : b226 ≠ bb3 := hor3.elim (fun z => by rw [z]; exact nb2_b226) (fun z => Nat.ne_of_lt (Nat.lt_of_lt_of_le A226'237.lt z))
  have nb3_b1 : b1 ≠ bb3 := hor3.elim (fun z => by rw [z]; exact nb2_b1) (fun z => Nat.ne_of_lt (Nat.lt_of_lt_of_le V1'235.lt z))
  have nb3_b2 : b2 ≠ bb3 := hor3.elim (fun z => by rw [z]; exact nb2_b2) (fun z => Nat.ne_of_lt (Nat.lt_of_lt_of_le V2'236.lt z))
  refine hG _ T238 _ (mkF m 145 #[.val (.long q1), .second, .val (.int p2), .val (.int p3), .val (.int p4), .val (.int p5), .val (.int lim), .val (.int c1), .val (.int c2), .val (.int c3), .val (.ref b1), .val (.ref b2), .val (.ref b226), .unset, .unset, .unset, .unset, .unset, .unset, .unset] [(.ref b226)]) (fun t kq_ => XS.aload X238.here hx rfl (hb hby at_143) rfl rfl kq_) ?_
  refine hG _ T238 _ (mkF m 147 #[.val (.long q1), .second, .val (.int p2), .val (.int p3), .val (.int p4), .val (.int p5), .val (.int lim), .val (.int c1), .val (.int c2), .val (.int c3), .val (.ref b1), .val (.ref b2), .val (.ref b226), .unset, .unset, .unset, .unset, .unset, .unset, .unset] [(.ref b1), (.ref b226)]) (fun t kq_ => XS.aload X238.here hx rfl (hb hby at_145) rfl rfl kq_) ?_
  refine hG _ T238 _ (mkF m 149 #[.val (.long q1), .second, .val (.int p2), .val (.int p3), .val (.int p4), .val (.int p5), .val (.int lim), .val (.int c1), .val (.int c2), .val (.int c3), .val (.ref b1), .val (.ref b2), .val (.ref b226), .unset, .unset, .unset, .unset, .unset, .unset, .unset] [(.int c3), (.ref b1), (.ref b226)]) (fun t kq_ => XS.iload X238.here hx rfl (hb hby at_147) rfl kq_) ?_
  have V1'240 : Ab Z T238.heap b1 4 g1 := (V1'235.keep K3_ (ninS ne_b1_b226 (ninS nb2_b1 nin0)))
  have V2'241 : Ab Z T238.heap b2 4 g2 := (V2'236.keep K3_ (ninS ne_b2_b226 (ninS nb2_b2 nin0)))
  have A226'242 : Exa Z T238.heap b226 "com/example/tools_to_sandbox/toolstosandbox/service/OutputCapture" := (A226'237.keep K3_)
  obtain ⟨cq243, kq243, q243a, q243b, q243c⟩ := isOf hZ rfl A226'242
  obtain ⟨_, _, ⟨T243, L243, k243, n243⟩, -, X243, ⟨Lc243, hQ243, l243, y243, z243⟩, st243⟩ := X238.virtualBack hx (y := (⟨"com/example/tools_to_sandbox/toolstosandbox/service/OutputCapture", "keep", "([BI)V"⟩ : MethodName)) (z := (⟨"com/example/tools_to_sandbox/toolstosandbox/service/OutputCapture", "keep", "([BI)V"⟩ : MethodName)) hown (mvT hZ (tw15 hw)) (mvT hZ (tw16 hw)) (notFace_of_selects (args := #[]) (mvT hZ (tw18 hw))) (mvT hZ (tw18 hw)) (mvT hZ (tw17 hw)) (by decide) (backOf (W := 0) (rmK l Z a0 hw [] b226 b1 c3 T238.heap n0 Zs239 lim s3 bb3 lm (0 + k2 + k3) m3 n3 f3 g1 u3 A226'242 g_b226 V1'240 hlm h9 hs3 (by omega) hc3 hm3 ne_b1_b226 nb3_b1 nb3_b226 G3a G3b G3c G3d V3_3 hn3a hn3b gb3) hZ (tw19 hw) (tw4 hw) (by decide) (by decide)) q243a q243c (g := (mkF m 149 #[.val (.long q1), .second, .val (.int p2), .val (.int p3), .val (.int p4), .val (.int p5), .val (.int lim), .val (.int c1), .val (.int c2), .val (.int c3), .val (.ref b1), .val (.ref b2), .val (.ref b226), .unset, .unset, .unset, .unset, .unset, .unset, .unset] [(.int c3), (.ref b1), (.ref b226)])) rfl (by rw [hml]; rfl) (Steps.refl _) (argsL := [(.ref b1), (.int c3)]) (rest := []) (lenOf pd_7 rfl) rfl (by show 2 * 0 + _ ≤ _; exact Nat.le_of_eq rfl) (hb hby at_149) (fun _ _ => ⟨rfl, rfl, (by decide : 6 + 1 ≤ _), (by decide : 30 + 9 ≤ _)⟩)
  dsimp only [Pt.U, Pt.locs, Pt.cells, Pt.slots] at X243 l243 y243 z243 st243 hQ243
  subst l243 y243 z243
  obtain ⟨rfl, N243q, K4_, bb4, n4, f4, k4, s4, u4, hk4, hs4, gb4, hor4, hn4a, hn4b, G4a, G4b, G4c, G4d, V3_4, hf4a, hf4b⟩ := hQ243
  have N243 := Fr.app N238 N243q
  have Zs244 : n0 ≤ T243.heap.size := Nat.le_trans Zs239 K4_.1
  refine hG _ T243 _ (mkF m 152 #[.val (.long q1), .second, .val (.int p2), .val (.int p3), .val (.int p4), .val (.int p5), .val (.int lim), .val (.int c1), .val (.int c2), .val (.int c3), .val (.ref b1), .val (.ref b2), .val (.ref b226), .unset, .unset, .unset, .unset, .unset, .unset, .unset] []) (fun t kq_ => st243.trans kq_) ?_
  have nb4_b226 : b226 ≠ bb4 := hor4.elim (fun z => by rw [z]; exact nb3_b226) (fun z => Nat.ne_of_lt (Nat.lt_of_lt_of_le A226'242.lt z))
  have nb4_b1 : b1 ≠ bb4 := hor4.elim (fun z => by rw [z]; exact nb3_b1) (fun z => Nat.ne_of_lt (Nat.lt_of_lt_of_le V1'240.lt z))
  have nb4_b2 : b2 ≠ bb4 := hor4.elim (fun z => by rw [z]; exact nb3_b2) (fun z => Nat.ne_of_lt (Nat.lt_of_lt_of_le V2'241.lt z))
  refine hG _ T243 _ (mkF m 154 #[.val (.long q1), .second, .val (.int p2), .val (.int p3), .val (.int p4), .val (.int p5), .val (.int lim), .val (.int c1), .val (.int c2), .val (.int c3), .val (.ref b1), .val (.ref b2), .val (.ref b226), .unset, .unset, .unset, .unset, .unset, .unset, .unset] [(.int c1)]) (fun t kq_ => XS.iload X243.here hx rfl (hb hby at_152) rfl kq_) ?_
  refine hG _ T243 _ (mkF m 156 #[.val (.long q1), .second, .val (.int p2), .val (.int p3), .val (.int p4), .val (.int p5), .val (.int lim), .val (.int c1), .val (.int c2), .val (.int c3), .val (.ref b1), .val (.ref b2), .val (.ref b226), .unset, .unset, .unset, .unset, .unset, .unset, .unset] [(.int lim), (.int c1)]) (fun t kq_ => XS.iload X243.here hx rfl (hb hby at_154) rfl kq_) ?_
  obtain ⟨_, _, ⟨T246, L246, k246, n246⟩, -, X246, ⟨Lc246, hQ246, l246, y246, z246⟩, st246⟩ := Jvm.LawKit.callS X243 hx (y := (⟨"java/lang/Math", "min", "(II)I"⟩ : MethodName)) hown (mvT hZ (tw49 hw)) (mvT hZ (tw23 hw)) (mvT hZ (tw24 hw)) (mvT hZ (tw25 hw)) (by decide) (backOf (W := 0) (rmMin l Z a0 hw [] c1 lim T243.heap n0 Zs244) hZ (tw25 hw) (tw24 hw) (by decide) (by decide)) (g := (mkF m 156 #[.val (.long q1), .second, .val (.int p2), .val (.int p3), .val (.int p4), .val (.int p5), .val (.int lim), .val (.int c1), .val (.int c2), .val (.int c3), .val (.ref b1), .val (.ref b2), .val (.ref b226), .unset, .unset, .unset, .unset, .unset, .unset, .unset] [(.int lim), (.int c1)])) rfl (by rw [hml]; rfl) (argsL := [(.int c1), (.int lim)]) (rest := []) (lenOf pd_0 rfl) rfl (by show 2 * 0 + _ ≤ _; exact Nat.le_of_eq rfl) (hb hby at_156) (fun _ _ => ⟨rfl, rfl, (by decide : 7 + 0 ≤ _), (by decide : 39 + 0 ≤ _)⟩)
  dsimp only [Pt.U, Pt.locs, Pt.cells, Pt.slots] at X246 l246 y246 z246 st246 hQ246
  subst l246 y246 z246
  obtain ⟨rfl, N246q, hq245⟩ := hQ246
  have N246 := Fr.app N243 N246q
  have e246 : T246.heap = T243.heap := hq245
  refine hG _ T246 _ (mkF m 159 #[.val (.long q1), .second, .val (.int p2), .val (.int p3), .val (.int p4), .val (.int p5), .val (.int lim), .val (.int c1), .val (.int c2), .val (.int c3), .val (.ref b1), .val (.ref b2), .val (.ref b226), .unset, .unset, .unset, .unset, .unset, .unset, .unset] [(.int (if lim < c1 then lim else c1))]) (fun t kq_ => st246 _ kq_) ?_
  refine hG _ T246 _ (mkF m 161 #[.val (.long q1), .second, .val (.int p2), .val (.int p3), .val (.int p4), .val (.int p5), .val (.int lim), .val (.int c1), .val (.int c2), .val (.int c3), .val (.ref b1), .val (.ref b2), .val (.ref b226), .val (.int (if lim < c1 then lim else c1)), .unset, .unset, .unset, .unset, .unset, .unset] []) (fun t kq_ => XS.istore X246.here hx rfl (hb hby at_159) rfl (l' := #[.val (.long q1), .second, .val (.int p2), .val (.int p3), .val (.int p4), .val (.int p5), .val (.int lim), .val (.int c1), .val (.int c2), .val (.int c3), .val (.ref b1), .val (.ref b2), .val (.ref b226), .val (.int (if lim < c1 then lim else c1)), .unset, .unset, .unset, .unset, .unset, .unset]) rfl kq_) ?_
  obtain ⟨x1, hx1, hx1a⟩ := own_min hc1 hlm
  have ex1 : x1 = k2 := by omega
  rw [ex1] at hx1
  generalize hJ1 : (if lim < c1 then lim else c1) = j1 at hx1 ⊢
  have hd1 : (lim - j1).toInt = ((lm - k2 : Nat) : Int) := own_sub hlm hx1 (by omega)
  refine hG _ T246 _ (mkF m 163 #[.val (.long q1), .second, .val (.int p2), .val (.int p3), .val (.int p4), .val (.int p5), .val (.int lim), .val (.int c1), .val (.int c2), .val (.int c3), .val (.ref b1), .val (.ref b2), .val (.ref b226), .val (.int j1), .unset, .unset, .unset, .unset, .unset, .unset] [(.int c2)]) (fun t kq_ => XS.iload X246.here hx rfl (hb hby at_161) rfl kq_) ?_
  refine hG _ T246 _ (mkF m 165 #[.val (.long q1), .second, .val (.int p2), .val (.int p3), .val (.int p4), .val (.int p5), .val (.int lim), .val (.int c1), .val (.int c2), .val (.int c3), .val (.ref b1), .val (.ref b2), .val (.ref b226), .val (.int j1), .unset, .unset, .unset, .unset, .unset, .unset] [(.int lim), (.int c2)]) (fun t kq_ => XS.iload X246.here hx rfl (hb hby at_163) rfl kq_) ?_
  refine hG _ T246 _ (mkF m 167 #[.val (.long q1), .second, .val (.int p2), .val (.int p3), .val (.int p4), .val (.int p5), .val (.int lim), .val (.int c1), .val (.int c2), .val (.int c3), .val (.ref b1), .val (.ref b2), .val (.ref b226), .val (.int j1), .unset, .unset, .unset, .unset, .unset, .unset] [(.int j1), (.int lim), (.int c2)]) (fun t kq_ => XS.iload X246.here hx rfl (hb hby at_165) rfl kq_) ?_
  refine hG _ T246 _ (mkF m 168 #[.val (.long q1), .second, .val (.int p2), .val (.int p3), .val (.int p4), .val (.int p5), .val (.int lim), .val (.int c1), .val (.int c2), .val (.int c3), .val (.ref b1), .val (.ref b2), .val (.ref b226), .val (.int j1), .unset, .unset, .unset, .unset, .unset, .unset] [(.int (lim - j1)), (.int c2)]) (fun t kq_ => XS.isub X246.here hx rfl (hb hby at_167) rfl kq_) ?_
  obtain ⟨_, _, ⟨T248, L248, k248, n248⟩, -, X248, ⟨Lc248, hQ248, l248, y248, z248⟩, st248⟩ := Jvm.LawKit.callS X246 hx (y := (⟨"java/lang/Math", "min", "(II)I"⟩ : MethodName)) hown (mvT hZ (tw49 hw)) (mvT hZ (tw23 hw)) (mvT hZ (tw24 hw)) (mvT hZ (tw25 hw)) (by decide) (backOf (W := 0) (rmMin l Z a0 hw [] c2 (lim - j1) T243.heap n0 Zs244) hZ (tw25 hw) (tw24 hw) (by decide) (by decide)) (g := (mkF m 168 #[.val (.long q1), .second, .val (.int p2), .val (.int p3), .val (.int p4), .val (.int p5), .val (.int lim), .val (.int c1), .val (.int c2), .val (.int c3), .val (.ref b1), .val (.ref b2), .val (.ref b226), .val (.int j1), .unset, .unset, .unset, .unset, .unset, .unset] [(.int (lim - j1)), (.int c2)])) rfl (by rw [hml]; rfl) (argsL := [(.int c2), (.int (lim - j1))]) (rest := []) (lenOf pd_0 rfl) rfl (by show 2 * 0 + _ ≤ _; exact Nat.le_of_eq rfl) (hb hby at_168) (fun _ _ => ⟨rfl, e246, (by decide : 7 + 0 ≤ _), (by decide : 39 + 0 ≤ _)⟩)
  dsimp only [Pt.U, Pt.locs, Pt.cells, Pt.slots] at X248 l248 y248 z248 st248 hQ248
  subst l248 y248 z248
  obtain ⟨rfl, N248q, hq247⟩ := hQ248
  have N248 := Fr.app N246 N248q
  have e248 : T248.heap = T243.heap := hq247
  refine hG _ T248 _ (mkF m 171 #[.val (.long q1), .second, .val (.int p2), .val (.int p3), .val (.int p4), .val (.int p5), .val (.int lim), .val (.int c1), .val (.int c2), .val (.int c3), .val (.ref b1), .val (.ref b2), .val (.ref b226), .val (.int j1), .unset, .unset, .unset, .unset, .unset, .unset] [(.int (if (lim - j1) < c2 then (lim - j1) else c2))]) (fun t kq_ => st248 _ kq_) ?_
  refine hG _ T248 _ (mkF m 173 #[.val (.long q1), .second, .val (.int p2), .val (.int p3), .val (.int p4), .val (.int p5), .val (.int lim), .val (.int c1), .val (.int c2), .val (.int c3), .val (.ref b1), .val (.ref b2), .val (.ref b226), .val (.int j1), .val (.int (if (lim - j1) < c2 then (lim - j1) else c2)), .unset, .unset, .unset, .unset, .unset] []) (fun t kq_ => XS.istore X248.here hx rfl (hb hby at_171) rfl (l' := #[.val (.long q1), .second, .val (.int p2), .val (.int p3), .val (.int p4), .val (.int p5), .val (.int lim), .val (.int c1), .val (.int c2), .val (.int c3), .val (.ref b1), .val (.ref b2), .val (.ref b226), .val (.int j1), .val (.int (if (lim - j1) < c2 then (lim - j1) else c2)), .unset, .unset, .unset, .unset, .unset]) rfl kq_) ?_
  obtain ⟨x2, hx2, hx2a⟩ := own_min hc2 hd1
  have ex2 : x2 = k3 := by omega
  rw [ex2] at hx2
  generalize hJ2 : (if (lim - j1) < c2 then (lim - j1) else c2) = j2 at hx2 ⊢
  have hd2 : ((lim - j1) - j2).toInt = ((lm - k2 - k3 : Nat) : Int) := own_sub hd1 hx2 (by omega)
  refine hG _ T248 _ (mkF m 175 #[.val (.long q1), .second, .val (.int p2), .val (.int p3), .val (.int p4), .val (.int p5), .val (.int lim), .val (.int c1), .val (.int c2), .val (.int c3), .val (.ref b1), .val (.ref b2), .val (.ref b226), .val (.int j1), .val (.int j2), .unset, .unset, .unset, .unset, .unset] [(.int c3)]) (fun t kq_ => XS.iload X248.here hx rfl (hb hby at_173) rfl kq_) ?_
  refine hG _ T248 _ (mkF m 177 #[.val (.long q1), .second, .val (.int p2), .val (.int p3), .val (.int p4), .val (.int p5), .val (.int lim), .val (.int c1), .val (.int c2), .val (.int c3), .val (.ref b1), .val (.ref b2), .val (.ref b226), .val (.int j1), .val (.int j2), .unset, .unset, .unset, .unset, .unset] [(.int lim), (.int c3)]) (fun t kq_ => XS.iload X248.here hx rfl (hb hby at_175) rfl kq_) ?_
  refine hG _ T248 _ (mkF m 179 #[.val (.long q1), .second, .val (.int p2), .val (.int p3), .val (.int p4), .val (.int p5), .val (.int lim), .val (.int c1), .val (.int c2), .val (.int c3), .val (.ref b1), .val (.ref b2), .val (.ref b226), .val (.int j1), .val (.int j2), .unset, .unset, .unset, .unset, .unset] [(.int j1), (.int lim), (.int c3)]) (fun t kq_ => XS.iload X248.here hx rfl (hb hby at_177) rfl kq_) ?_
  refine hG _ T248 _ (mkF m 180 #[.val (.long q1), .second, .val (.int p2), .val (.int p3), .val (.int p4), .val (.int p5), .val (.int lim), .val (.int c1), .val (.int c2), .val (.int c3), .val (.ref b1), .val (.ref b2), .val (.ref b226), .val (.int j1), .val (.int j2), .unset, .unset, .unset, .unset, .unset] [(.int (lim - j1)), (.int c3)]) (fun t kq_ => XS.isub X248.here hx rfl (hb hby at_179) rfl kq_) ?_
  refine hG _ T248 _ (mkF m 182 #[.val (.long q1), .second, .val (.int p2), .val (.int p3), .val (.int p4), .val (.int p5), .val (.int lim), .val (.int c1), .val (.int c2), .val (.int c3), .val (.ref b1), .val (.ref b2), .val (.ref b226), .val (.int j1), .val (.int j2), .unset, .unset, .unset, .unset, .unset] [(.int j2), (.int (lim - j1)), (.int c3)]) (fun t kq_ => XS.iload X248.here hx rfl (hb hby at_180) rfl kq_) ?_
  refine hG _ T248 _ (mkF m 183 #[.val (.long q1), .second, .val (.int p2), .val (.int p3), .val (.int p4), .val (.int p5), .val (.int lim), .val (.int c1), .val (.int c2), .val (.int c3), .val (.ref b1), .val (.ref b2), .val (.ref b226), .val (.int j1), .val (.int j2), .unset, .unset, .unset, .unset, .unset] [(.int ((lim - j1) - j2)), (.int c3)]) (fun t kq_ => XS.isub X248.here hx rfl (hb hby at_182) rfl kq_) ?_
  obtain ⟨_, _, ⟨T250, L250, k250, n250⟩, -, X250, ⟨Lc250, hQ250, l250, y250, z250⟩, st250⟩ := Jvm.LawKit.callS X248 hx (y := (⟨"java/lang/Math", "min", "(II)I"⟩ : MethodName)) hown (mvT hZ (tw49 hw)) (mvT hZ (tw23 hw)) (mvT hZ (tw24 hw)) (mvT hZ (tw25 hw)) (by decide) (backOf (W := 0) (rmMin l Z a0 hw [] c3 ((lim - j1) - j2) T243.heap n0 Zs244) hZ (tw25 hw) (tw24 hw) (by decide) (by decide)) (g := (mkF m 183 #[.val (.long q1), .second, .val (.int p2), .val (.int p3), .val (.int p4), .val (.int p5), .val (.int lim), .val (.int c1), .val (.int c2), .val (.int c3), .val (.ref b1), .val (.ref b2), .val (.ref b226), .val (.int j1), .val (.int j2), .unset, .unset, .unset, .unset, .unset] [(.int ((lim - j1) - j2)), (.int c3)])) rfl (by rw [hml]; rfl) (argsL := [(.int c3), (.int ((lim - j1) - j2))]) (rest := []) (lenOf pd_0 rfl) rfl (by show 2 * 0 + _ ≤ _; exact Nat.le_of_eq rfl) (hb hby at_183) (fun _ _ => ⟨rfl, e248, (by decide : 7 + 0 ≤ _), (by decide : 39 + 0 ≤ _)⟩)
  dsimp only [Pt.U, Pt.locs, Pt.cells, Pt.slots] at X250 l250 y250 z250 st250 hQ250
  subst l250 y250 z250
  obtain ⟨rfl, N250q, hq249⟩ := hQ250
  have N250 := Fr.app N248 N250q
  have e250 : T250.heap = T243.heap := hq249
  refine hG _ T250 _ (mkF m 186 #[.val (.long q1), .second, .val (.int p2), .val (.int p3), .val (.int p4), .val (.int p5), .val (.int lim), .val (.int c1), .val (.int c2), .val (.int c3), .val (.ref b1), .val (.ref b2), .val (.ref b226), .val (.int j1), .val (.int j2), .unset, .unset, .unset, .unset, .unset] [(.int (if ((lim - j1) - j2) < c3 then ((lim - j1) - j2) else c3))]) (fun t kq_ => st250 _ kq_) ?_
  refine hG _ T250 _ (mkF m 188 #[.val (.long q1), .second, .val (.int p2), .val (.int p3), .val (.int p4), .val (.int p5), .val (.int lim), .val (.int c1), .val (.int c2), .val (.int c3), .val (.ref b1), .val (.ref b2), .val (.ref b226), .val (.int j1), .val (.int j2), .val (.int (if ((lim - j1) - j2) < c3 then ((lim - j1) - j2) else c3)), .unset, .unset, .unset, .unset] []) (fun t kq_ => XS.istore X250.here hx rfl (hb hby at_186) rfl (l' := #[.val (.long q1), .second, .val (.int p2), .val (.int p3), .val (.int p4), .val (.int p5), .val (.int lim), .val (.int c1), .val (.int c2), .val (.int c3), .val (.ref b1), .val (.ref b2), .val (.ref b226), .val (.int j1), .val (.int j2), .val (.int (if ((lim - j1) - j2) < c3 then ((lim - j1) - j2) else c3)), .unset, .unset, .unset, .unset]) rfl kq_) ?_
  obtain ⟨x3, hx3, hx3a⟩ := own_min hc3 hd2
  have ex3 : x3 = k4 := by omega
  rw [ex3] at hx3
  generalize hJ3 : (if ((lim - j1) - j2) < c3 then ((lim - j1) - j2) else c3) = j3 at hx3 ⊢
  have hd4 : ((j1 + j2) + j3).toInt = ((k2 + k3 + k4 : Nat) : Int) := own_add (own_add hx1 hx2 (by omega)) hx3 (by omega)
  refine hG _ T250 _ (mkF m 190 #[.val (.long q1), .second, .val (.int p2), .val (.int p3), .val (.int p4), .val (.int p5), .val (.int lim), .val (.int c1), .val (.int c2), .val (.int c3), .val (.ref b1), .val (.ref b2), .val (.ref b226), .val (.int j1), .val (.int j2), .val (.int j3), .unset, .unset, .unset, .unset] [(.int j1)]) (fun t kq_ => XS.iload X250.here hx rfl (hb hby at_188) rfl kq_) ?_
  refine hG _ T250 _ (mkF m 192 #[.val (.long q1), .second, .val (.int p2), .val (.int p3), .val (.int p4), .val (.int p5), .val (.int lim), .val (.int c1), .val (.int c2), .val (.int c3), .val (.ref b1), .val (.ref b2), .val (.ref b226), .val (.int j1), .val (.int j2), .val (.int j3), .unset, .unset, .unset, .unset] [(.int j2), (.int j1)]) (fun t kq_ => XS.iload X250.here hx rfl (hb hby at_190) rfl kq_) ?_
  refine hG _ T250 _ (mkF m 193 #[.val (.long q1), .second, .val (.int p2), .val (.int p3), .val (.int p4), .val (.int p5), .val (.int lim), .val (.int c1), .val (.int c2), .val (.int c3), .val (.ref b1), .val (.ref b2), .val (.ref b226), .val (.int j1), .val (.int j2), .val (.int j3), .unset, .unset, .unset, .unset] [(.int (j1 + j2))]) (fun t kq_ => XS.iadd X250.here hx rfl (hb hby at_192) rfl kq_) ?_
  refine hG _ T250 _ (mkF m 195 #[.val (.long q1), .second, .val (.int p2), .val (.int p3), .val (.int p4), .val (.int p5), .val (.int lim), .val (.int c1), .val (.int c2), .val (.int c3), .val (.ref b1), .val (.ref b2), .val (.ref b226), .val (.int j1), .val (.int j2), .val (.int j3), .unset, .unset, .unset, .unset] [(.int j3), (.int (j1 + j2))]) (fun t kq_ => XS.iload X250.here hx rfl (hb hby at_193) rfl kq_) ?_
  refine hG _ T250 _ (mkF m 196 #[.val (.long q1), .second, .val (.int p2), .val (.int p3), .val (.int p4), .val (.int p5), .val (.int lim), .val (.int c1), .val (.int c2), .val (.int c3), .val (.ref b1), .val (.ref b2), .val (.ref b226), .val (.int j1), .val (.int j2), .val (.int j3), .unset, .unset, .unset, .unset] [(.int ((j1 + j2) + j3))]) (fun t kq_ => XS.iadd X250.here hx rfl (hb hby at_195) rfl kq_) ?_
  refine hG _ T250 _ (mkF m 198 #[.val (.long q1), .second, .val (.int p2), .val (.int p3), .val (.int p4), .val (.int p5), .val (.int lim), .val (.int c1), .val (.int c2), .val (.int c3), .val (.ref b1), .val (.ref b2), .val (.ref b226), .val (.int j1), .val (.int j2), .val (.int j3), .val (.int ((j1 + j2) + j3)), .unset, .unset, .unset] []) (fun t kq_ => XS.istore X250.here hx rfl (hb hby at_196) rfl (l' := #[.val (.long q1), .second, .val (.int p2), .val (.int p3), .val (.int p4), .val (.int p5), .val (.int lim), .val (.int c1), .val (.int c2), .val (.int c3), .val (.ref b1), .val (.ref b2), .val (.ref b226), .val (.int j1), .val (.int j2), .val (.int j3), .val (.int ((j1 + j2) + j3)), .unset, .unset, .unset]) rfl kq_) ?_
  have A226'251 : Exa Z T243.heap b226 "com/example/tools_to_sandbox/toolstosandbox/service/OutputCapture" := (A226'242.keep K4_)
  have V1'252 : Ab Z T243.heap b1 4 g1 := (V1'240.keep K4_ (ninS ne_b1_b226 (ninS nb3_b1 nin0)))
  have V2'253 : Ab Z T243.heap b2 4 g2 := (V2'241.keep K4_ (ninS ne_b2_b226 (ninS nb3_b2 nin0)))
  exact lw198 _ _ _ _ _ lim c1 c2 c3 b1 b2 g1 g2 lm m1 m2 m3 k2 k3 k4 n4 f4 b226 bb4 s4 j1 j2 j3 _ X250 hx hZ hw hby hml hown e250 Zs244 N250 hlk hrt hlm h9 hc1 hc2 hc3 hm1 hm2 hm3 A226'251 G4a G4c V3_4 V1'252 V2'253 (by rw [hs4]; omega) (by omega) (by omega) hx1 hx2 hd4 (by omega) (by omega) (by omega) (own_cont hf2b (fun i hi => hf3a i (by omega)) (fun i hi => by have := hf3b i hi; rwa [Nat.zero_add] at this) (fun i hi => hf4a i (by omega)) (fun i hi => by have := hf4b i hi; rwa [Nat.zero_add] at this))
set_option maxRecDepth 65536 in
set_option maxHeartbeats 40000000 in
theorem lw35 {p : Program} {l : Launch} {e : Env} {s : State} {m : MethodId} {args : Array Value} {below : List Frame} {meth : Method} {c : Code} {T0 : State} {locs : List Loc} {Z : State} {a0 : Array Value} {h0 : Heap} {n0 : Nat} (q1 : Int64) (p2 p3 p4 p5 : Int32) (lim c1 c2 c3 : Int32) (lm m1 m2 m3 : Nat)
    (X0 : Stand p l e room_1 s m args below meth c T0 locs 0 0) (hx : p.tables.exec = Jvm.exec) (hZ : Z.Warmed39 s.vm) (hw : ∀ d ∈ tables_1, d.before a0 Z = true) (hby : c.code = code) (hml : c.maxLocals = 20) (hown : s.vm.findClass "com/example/tools_to_sandbox/toolstosandbox/service/OutputCaptureToByteArrayPinLaw" = some m.cls) (e0 : T0.heap = h0) (Z0 : n0 ≤ h0.size) (N0 : Fr n0 locs) (hlk : meth.locks = false) (hrt : meth.sig.returnType = ret) (hlm : lim.toInt = (lm : Int)) (h9 : lm ≤ 9) (hc1 : c1.toInt = (m1 : Int)) (hc2 : c2.toInt = (m2 : Int)) (hc3 : c3.toInt = (m3 : Int)) (hm1 : m1 ≤ 4) (hm2 : m2 ≤ 4) (hm3 : m3 ≤ 4) :
    Goes p e below s (fun (v : Option Value) (h : Heap) (L : List Loc) => v = some (.int 1) ∧ Fr n0 L) 32 192 T0 (mkF m 35 #[.val (.long q1), .second, .val (.int p2), .val (.int p3), .val (.int p4), .val (.int p5), .val (.int lim), .val (.int c1), .val (.int c2), .val (.int c3), .unset, .unset, .unset, .unset, .unset, .unset, .unset, .unset, .unset, .unset] []) := by
  have hG := Goes.bk p e below s (fun (v : Option Value) (h : Heap) (L : List Loc) => v = some (.int 1) ∧ Fr n0 L) 32 192
  refine hG _ T0 _ (mkF m 36 #[.val (.long q1), .second, .val (.int p2), .val (.int p3), .val (.int p4), .val (.int p5), .val (.int lim), .val (.int c1), .val (.int c2), .val (.int c3), .unset, .unset, .unset, .unset, .unset, .unset, .unset, .unset, .unset, .unset] [(.int (4 : Int32))]) (fun t kq_ => XS.iconst X0.here hx rfl (hb hby at_35) kq_) ?_
  have hz254 : (4 : Int32).toInt = ((4 : Nat) : Int) := rfl
  obtain ⟨T254, h254, X254, e254, E254, V254, st254⟩ := Ab.new X0 hx hZ (tw1 hw) e0 (g := (mkF m 36 #[.val (.long q1), .second, .val (.int p2), .val (.int p3), .val (.int p4), .val (.int p5), .val (.int lim), .val (.int c1), .val (.int c2), .val (.int c3), .unset, .unset, .unset, .unset, .unset, .unset, .unset, .unset, .unset, .unset] [(.int (4 : Int32))])) rfl (hb hby at_36) rfl hz254 (cap := 4) (Nat.le_refl _) (by decide) (by decide) (by decide)
  obtain ⟨b254, g254⟩ : ∃ z, z = h0.size := ⟨_, rfl⟩
  rw [← g254] at V254 st254
  have g_b254 : n0 ≤ b254 := Nat.le_trans Z0 (Nat.le_of_eq g254.symm)
  have Zs255 : n0 ≤ h254.size := Nat.le_trans Z0 E254.1
  refine hG _ T254 _ (mkF m 38 #[.val (.long q1), .second, .val (.int p2), .val (.int p3), .val (.int p4), .val (.int p5), .val (.int lim), .val (.int c1), .val (.int c2), .val (.int c3), .unset, .unset, .unset, .unset, .unset, .unset, .unset, .unset, .unset, .unset] [(.ref b254)]) st254 ?_
  refine hG _ T254 _ (mkF m 39 #[.val (.long q1), .second, .val (.int p2), .val (.int p3), .val (.int p4), .val (.int p5), .val (.int lim), .val (.int c1), .val (.int c2), .val (.int c3), .unset, .unset, .unset, .unset, .unset, .unset, .unset, .unset, .unset, .unset] [(.ref b254), (.ref b254)]) (fun t kq_ => XS.dup X254.here hx rfl (hb hby at_38) rfl rfl kq_) ?_
  refine hG _ T254 _ (mkF m 40 #[.val (.long q1), .second, .val (.int p2), .val (.int p3), .val (.int p4), .val (.int p5), .val (.int lim), .val (.int c1), .val (.int c2), .val (.int c3), .unset, .unset, .unset, .unset, .unset, .unset, .unset, .unset, .unset, .unset] [(.int (0 : Int32)), (.ref b254), (.ref b254)]) (fun t kq_ => XS.iconst X254.here hx rfl (hb hby at_39) kq_) ?_
  refine hG _ T254 _ (mkF m 41 #[.val (.long q1), .second, .val (.int p2), .val (.int p3), .val (.int p4), .val (.int p5), .val (.int lim), .val (.int c1), .val (.int c2), .val (.int c3), .unset, .unset, .unset, .unset, .unset, .unset, .unset, .unset, .unset, .unset] [(.long q1), (.int (0 : Int32)), (.ref b254), (.ref b254)]) (fun t kq_ => XS.lloadN X254.here hx rfl (hb hby at_40) rfl kq_) ?_
  refine hG _ T254 _ (mkF m 42 #[.val (.long q1), .second, .val (.int p2), .val (.int p3), .val (.int p4), .val (.int p5), .val (.int lim), .val (.int c1), .val (.int c2), .val (.int c3), .unset, .unset, .unset, .unset, .unset, .unset, .unset, .unset, .unset, .unset] [(.int (q1.toInt32)), (.int (0 : Int32)), (.ref b254), (.ref b254)]) (fun t kq_ => XS.l2i X254.here hx rfl (hb hby at_41) rfl kq_) ?_
  refine hG _ T254 _ (mkF m 43 #[.val (.long q1), .second, .val (.int p2), .val (.int p3), .val (.int p4), .val (.int p5), .val (.int lim), .val (.int c1), .val (.int c2), .val (.int c3), .unset, .unset, .unset, .unset, .unset, .unset, .unset, .unset, .unset, .unset] [(.int ((q1.toInt32).toInt8.toInt32)), (.int (0 : Int32)), (.ref b254), (.ref b254)]) (fun t kq_ => XS.i2b X254.here hx rfl (hb hby at_42) rfl kq_) ?_
  obtain ⟨T256, h256, X256, e256, W256, V256, st256⟩ := Ab.st X254 hx hZ e254 V254 (j := (0 : Int32)) (i := 0) rfl (by decide) (g := (mkF m 43 #[.val (.long q1), .second, .val (.int p2), .val (.int p3), .val (.int p4), .val (.int p5), .val (.int lim), .val (.int c1), .val (.int c2), .val (.int c3), .unset, .unset, .unset, .unset, .unset, .unset, .unset, .unset, .unset, .unset] [(.int ((q1.toInt32).toInt8.toInt32)), (.int (0 : Int32)), (.ref b254), (.ref b254)])) rfl rfl (hb hby at_43)
  have Zs257 : n0 ≤ h256.size := Nat.le_trans Zs255 (Keep.of_wr W256).1
  have N256 := Fr.snoc X256 N0 g_b254
  refine hG _ T256 _ (mkF m 44 #[.val (.long q1), .second, .val (.int p2), .val (.int p3), .val (.int p4), .val (.int p5), .val (.int lim), .val (.int c1), .val (.int c2), .val (.int c3), .unset, .unset, .unset, .unset, .unset, .unset, .unset, .unset, .unset, .unset] [(.ref b254)]) st256 ?_
  refine hG _ T256 _ (mkF m 45 #[.val (.long q1), .second, .val (.int p2), .val (.int p3), .val (.int p4), .val (.int p5), .val (.int lim), .val (.int c1), .val (.int c2), .val (.int c3), .unset, .unset, .unset, .unset, .unset, .unset, .unset, .unset, .unset, .unset] [(.ref b254), (.ref b254)]) (fun t kq_ => XS.dup X256.here hx rfl (hb hby at_44) rfl rfl kq_) ?_
  refine hG _ T256 _ (mkF m 46 #[.val (.long q1), .second, .val (.int p2), .val (.int p3), .val (.int p4), .val (.int p5), .val (.int lim), .val (.int c1), .val (.int c2), .val (.int c3), .unset, .unset, .unset, .unset, .unset, .unset, .unset, .unset, .unset, .unset] [(.int (1 : Int32)), (.ref b254), (.ref b254)]) (fun t kq_ => XS.iconst X256.here hx rfl (hb hby at_45) kq_) ?_
  refine hG _ T256 _ (mkF m 47 #[.val (.long q1), .second, .val (.int p2), .val (.int p3), .val (.int p4), .val (.int p5), .val (.int lim), .val (.int c1), .val (.int c2), .val (.int c3), .unset, .unset, .unset, .unset, .unset, .unset, .unset, .unset, .unset, .unset] [(.long q1), (.int (1 : Int32)), (.ref b254), (.ref b254)]) (fun t kq_ => XS.lloadN X256.here hx rfl (hb hby at_46) rfl kq_) ?_
  refine hG _ T256 _ (mkF m 49 #[.val (.long q1), .second, .val (.int p2), .val (.int p3), .val (.int p4), .val (.int p5), .val (.int lim), .val (.int c1), .val (.int c2), .val (.int c3), .unset, .unset, .unset, .unset, .unset, .unset, .unset, .unset, .unset, .unset] [(.int (8 : Int32)), (.long q1), (.int (1 : Int32)), (.ref b254), (.ref b254)]) (fun t kq_ => XS.bipush X256.here hx rfl (hb hby at_47) kq_) ?_
  refine hG _ T256 _ (mkF m 50 #[.val (.long q1), .second, .val (.int p2), .val (.int p3), .val (.int p4), .val (.int p5), .val (.int lim), .val (.int c1), .val (.int c2), .val (.int c3), .unset, .unset, .unset, .unset, .unset, .unset, .unset, .unset, .unset, .unset] [(.long (q1 >>> ((8 : Int32) &&& 0x3f).toInt64)), (.int (1 : Int32)), (.ref b254), (.ref b254)]) (fun t kq_ => XS.lshr X256.here hx rfl (hb hby at_49) rfl kq_) ?_
  refine hG _ T256 _ (mkF m 51 #[.val (.long q1), .second, .val (.int p2), .val (.int p3), .val (.int p4), .val (.int p5), .val (.int lim), .val (.int c1), .val (.int c2), .val (.int c3), .unset, .unset, .unset, .unset, .unset, .unset, .unset, .unset, .unset, .unset] [(.int ((q1 >>> ((8 : Int32) &&& 0x3f).toInt64).toInt32)), (.int (1 : Int32)), (.ref b254), (.ref b254)]) (fun t kq_ => XS.l2i X256.here hx rfl (hb hby at_50) rfl kq_) ?_
  refine hG _ T256 _ (mkF m 52 #[.val (.long q1), .second, .val (.int p2), .val (.int p3), .val (.int p4), .val (.int p5), .val (.int lim), .val (.int c1), .val (.int c2), .val (.int c3), .unset, .unset, .unset, .unset, .unset, .unset, .unset, .unset, .unset, .unset] [(.int (((q1 >>> ((8 : Int32) &&& 0x3f).toInt64).toInt32).toInt8.toInt32)), (.int (1 : Int32)), (.ref b254), (.ref b254)]) (fun t kq_ => XS.i2b X256.here hx rfl (hb hby at_51) rfl kq_) ?_
  obtain ⟨T258, h258, X258, e258, W258, V258, st258⟩ := Ab.st X256 hx hZ e256 V256 (j := (1 : Int32)) (i := 1) rfl (by decide) (g := (mkF m 52 #[.val (.long q1), .second, .val (.int p2), .val (.int p3), .val (.int p4), .val (.int p5), .val (.int lim), .val (.int c1), .val (.int c2), .val (.int c3), .unset, .unset, .unset, .unset, .unset, .unset, .unset, .unset, .unset, .unset] [(.int (((q1 >>> ((8 : Int32) &&& 0x3f).toInt64).toInt32).toInt8.toInt32)), (.int (1 : Int32)), (.ref b254), (.ref b254)])) rfl rfl (hb hby at_52)
  have Zs259 : n0 ≤ h258.size := Nat.le_trans Zs257 (Keep.of_wr W258).1
  have N258 := Fr.snoc X258 N256 g_b254
  refine hG _ T258 _ (mkF m 53 #[.val (.long q1), .second, .val (.int p2), .val (.int p3), .val (.int p4), .val (.int p5), .val (.int lim), .val (.int c1), .val (.int c2), .val (.int c3), .unset, .unset, .unset, .unset, .unset, .unset, .unset, .unset, .unset, .unset] [(.ref b254)]) st258 ?_
  refine hG _ T258 _ (mkF m 54 #[.val (.long q1), .second, .val (.int p2), .val (.int p3), .val (.int p4), .val (.int p5), .val (.int lim), .val (.int c1), .val (.int c2), .val (.int c3), .unset, .unset, .unset, .unset, .unset, .unset, .unset, .unset, .unset, .unset] [(.ref b254), (.ref b254)]) (fun t kq_ => XS.dup X258.here hx rfl (hb hby at_53) rfl rfl kq_) ?_
  refine hG _ T258 _ (mkF m 55 #[.val (.long q1), .second, .val (.int p2), .val (.int p3), .val (.int p4), .val (.int p5), .val (.int lim), .val (.int c1), .val (.int c2), .val (.int c3), .unset, .unset, .unset, .unset, .unset, .unset, .unset, .unset, .unset, .unset] [(.int (2 : Int32)), (.ref b254), (.ref b254)]) (fun t kq_ => XS.iconst X258.here hx rfl (hb hby at_54) kq_) ?_
  refine hG _ T258 _ (mkF m 56 #[.val (.long q1), .second, .val (.int p2), .val (.int p3), .val (.int p4), .val (.int p5), .val (.int lim), .val (.int c1), .val (.int c2), .val (.int c3), .unset, .unset, .unset, .unset, .unset, .unset, .unset, .unset, .unset, .unset] [(.long q1), (.int (2 : Int32)), (.ref b254), (.ref b254)]) (fun t kq_ => XS.lloadN X258.here hx rfl (hb hby at_55) rfl kq_) ?_
  refine hG _ T258 _ (mkF m 58 #[.val (.long q1), .second, .val (.int p2), .val (.int p3), .val (.int p4), .val (.int p5), .val (.int lim), .val (.int c1), .val (.int c2), .val (.int c3), .unset, .unset, .unset, .unset, .unset, .unset, .unset, .unset, .unset, .unset] [(.int (16 : Int32)), (.long q1), (.int (2 : Int32)), (.ref b254), (.ref b254)]) (fun t kq_ => XS.bipush X258.here hx rfl (hb hby at_56) kq_) ?_
  refine hG _ T258 _ (mkF m 59 #[.val (.long q1), .second, .val (.int p2), .val (.int p3), .val (.int p4), .val (.int p5), .val (.int lim), .val (.int c1), .val (.int c2), .val (.int c3), .unset, .unset, .unset, .unset, .unset, .unset, .unset, .unset, .unset, .unset] [(.long (q1 >>> ((16 : Int32) &&& 0x3f).toInt64)), (.int (2 : Int32)), (.ref b254), (.ref b254)]) (fun t kq_ => XS.lshr X258.here hx rfl (hb hby at_58) rfl kq_) ?_
  refine hG _ T258 _ (mkF m 60 #[.val (.long q1), .second, .val (.int p2), .val (.int p3), .val (.int p4), .val (.int p5), .val (.int lim), .val (.int c1), .val (.int c2), .val (.int c3), .unset, .unset, .unset, .unset, .unset, .unset, .unset, .unset, .unset, .unset] [(.int ((q1 >>> ((16 : Int32) &&& 0x3f).toInt64).toInt32)), (.int (2 : Int32)), (.ref b254), (.ref b254)]) (fun t kq_ => XS.l2i X258.here hx rfl (hb hby at_59) rfl kq_) ?_
  refine hG _ T258 _ (mkF m 61 #[.val (.long q1), .second, .val (.int p2), .val (.int p3), .val (.int p4), .val (.int p5), .val (.int lim), .val (.int c1), .val (.int c2), .val (.int c3), .unset, .unset, .unset, .unset, .unset, .unset, .unset, .unset, .unset, .unset] [(.int (((q1 >>> ((16 : Int32) &&& 0x3f).toInt64).toInt32).toInt8.toInt32)), (.int (2 : Int32)), (.ref b254), (.ref b254)]) (fun t kq_ => XS.i2b X258.here hx rfl (hb hby at_60) rfl kq_) ?_
  obtain ⟨T260, h260, X260, e260, W260, V260, st260⟩ := Ab.st X258 hx hZ e258 V258 (j := (2 : Int32)) (i := 2) rfl (by decide) (g := (mkF m 61 #[.val (.long q1), .second, .val (.int p2), .val (.int p3), .val (.int p4), .val (.int p5), .val (.int lim), .val (.int c1), .val (.int c2), .val (.int c3), .unset, .unset, .unset, .unset, .unset, .unset, .unset, .unset, .unset, .unset] [(.int (((q1 >>> ((16 : Int32) &&& 0x3f).toInt64).toInt32).toInt8.toInt32)), (.int (2 : Int32)), (.ref b254), (.ref b254)])) rfl rfl (hb hby at_61)
  have Zs261 : n0 ≤ h260.size := Nat.le_trans Zs259 (Keep.of_wr W260).1
  have N260 := Fr.snoc X260 N258 g_b254
  refine hG _ T260 _ (mkF m 62 #[.val (.long q1), .second, .val (.int p2), .val (.int p3), .val (.int p4), .val (.int p5), .val (.int lim), .val (.int c1), .val (.int c2), .val (.int c3), .unset, .unset, .unset, .unset, .unset, .unset, .unset, .unset, .unset, .unset] [(.ref b254)]) st260 ?_
  refine hG _ T260 _ (mkF m 63 #[.val (.long q1), .second, .val (.int p2), .val (.int p3), .val (.int p4), .val (.int p5), .val (.int lim), .val (.int c1), .val (.int c2), .val (.int c3), .unset, .unset, .unset, .unset, .unset, .unset, .unset, .unset, .unset, .unset] [(.ref b254), (.ref b254)]) (fun t kq_ => XS.dup X260.here hx rfl (hb hby at_62) rfl rfl kq_) ?_
  refine hG _ T260 _ (mkF m 64 #[.val (.long q1), .second, .val (.int p2), .val (.int p3), .val (.int p4), .val (.int p5), .val (.int lim), .val (.int c1), .val (.int c2), .val (.int c3), .unset, .unset, .unset, .unset, .unset, .unset, .unset, .unset, .unset, .unset] [(.int (3 : Int32)), (.ref b254), (.ref b254)]) (fun t kq_ => XS.iconst X260.here hx rfl (hb hby at_63) kq_) ?_
  refine hG _ T260 _ (mkF m 65 #[.val (.long q1), .second, .val (.int p2), .val (.int p3), .val (.int p4), .val (.int p5), .val (.int lim), .val (.int c1), .val (.int c2), .val (.int c3), .unset, .unset, .unset, .unset, .unset, .unset, .unset, .unset, .unset, .unset] [(.long q1), (.int (3 : Int32)), (.ref b254), (.ref b254)]) (fun t kq_ => XS.lloadN X260.here hx rfl (hb hby at_64) rfl kq_) ?_
  refine hG _ T260 _ (mkF m 67 #[.val (.long q1), .second, .val (.int p2), .val (.int p3), .val (.int p4), .val (.int p5), .val (.int lim), .val (.int c1), .val (.int c2), .val (.int c3), .unset, .unset, .unset, .unset, .unset, .unset, .unset, .unset, .unset, .unset] [(.int (24 : Int32)), (.long q1), (.int (3 : Int32)), (.ref b254), (.ref b254)]) (fun t kq_ => XS.bipush X260.here hx rfl (hb hby at_65) kq_) ?_
  refine hG _ T260 _ (mkF m 68 #[.val (.long q1), .second, .val (.int p2), .val (.int p3), .val (.int p4), .val (.int p5), .val (.int lim), .val (.int c1), .val (.int c2), .val (.int c3), .unset, .unset, .unset, .unset, .unset, .unset, .unset, .unset, .unset, .unset] [(.long (q1 >>> ((24 : Int32) &&& 0x3f).toInt64)), (.int (3 : Int32)), (.ref b254), (.ref b254)]) (fun t kq_ => XS.lshr X260.here hx rfl (hb hby at_67) rfl kq_) ?_
  refine hG _ T260 _ (mkF m 69 #[.val (.long q1), .second, .val (.int p2), .val (.int p3), .val (.int p4), .val (.int p5), .val (.int lim), .val (.int c1), .val (.int c2), .val (.int c3), .unset, .unset, .unset, .unset, .unset, .unset, .unset, .unset, .unset, .unset] [(.int ((q1 >>> ((24 : Int32) &&& 0x3f).toInt64).toInt32)), (.int (3 : Int32)), (.ref b254), (.ref b254)]) (fun t kq_ => XS.l2i X260.here hx rfl (hb hby at_68) rfl kq_) ?_
  refine hG _ T260 _ (mkF m 70 #[.val (.long q1), .second, .val (.int p2), .val (.int p3), .val (.int p4), .val (.int p5), .val (.int lim), .val (.int c1), .val (.int c2), .val (.int c3), .unset, .unset, .unset, .unset, .unset, .unset, .unset, .unset, .unset, .unset] [(.int (((q1 >>> ((24 : Int32) &&& 0x3f).toInt64).toInt32).toInt8.toInt32)), (.int (3 : Int32)), (.ref b254), (.ref b254)]) (fun t kq_ => XS.i2b X260.here hx rfl (hb hby at_69) rfl kq_) ?_
  obtain ⟨T262, h262, X262, e262, W262, V262, st262⟩ := Ab.st X260 hx hZ e260 V260 (j := (3 : Int32)) (i := 3) rfl (by decide) (g := (mkF m 70 #[.val (.long q1), .second, .val (.int p2), .val (.int p3), .val (.int p4), .val (.int p5), .val (.int lim), .val (.int c1), .val (.int c2), .val (.int c3), .unset, .unset, .unset, .unset, .unset, .unset, .unset, .unset, .unset, .unset] [(.int (((q1 >>> ((24 : Int32) &&& 0x3f).toInt64).toInt32).toInt8.toInt32)), (.int (3 : Int32)), (.ref b254), (.ref b254)])) rfl rfl (hb hby at_70)
  have Zs263 : n0 ≤ h262.size := Nat.le_trans Zs261 (Keep.of_wr W262).1
  have N262 := Fr.snoc X262 N260 g_b254
  refine hG _ T262 _ (mkF m 71 #[.val (.long q1), .second, .val (.int p2), .val (.int p3), .val (.int p4), .val (.int p5), .val (.int lim), .val (.int c1), .val (.int c2), .val (.int c3), .unset, .unset, .unset, .unset, .unset, .unset, .unset, .unset, .unset, .unset] [(.ref b254)]) st262 ?_
  refine hG _ T262 _ (mkF m 73 #[.val (.long q1), .second, .val (.int p2), .val (.int p3), .val (.int p4), .val (.int p5), .val (.int lim), .val (.int c1), .val (.int c2), .val (.int c3), .val (.ref b254), .unset, .unset, .unset, .unset, .unset, .unset, .unset, .unset, .unset] []) (fun t kq_ => XS.astore X262.here hx rfl (hb hby at_71) rfl rfl (l' := #[.val (.long q1), .second, .val (.int p2), .val (.int p3), .val (.int p4), .val (.int p5), .val (.int lim), .val (.int c1), .val (.int c2), .val (.int c3), .val (.ref b254), .unset, .unset, .unset, .unset, .unset, .unset, .unset, .unset, .unset]) rfl kq_) ?_
  refine hG _ T262 _ (mkF m 74 #[.val (.long q1), .second, .val (.int p2), .val (.int p3), .val (.int p4), .val (.int p5), .val (.int lim), .val (.int c1), .val (.int c2), .val (.int c3), .val (.ref b254), .unset, .unset, .unset, .unset, .unset, .unset, .unset, .unset, .unset] [(.int (4 : Int32))]) (fun t kq_ => XS.iconst X262.here hx rfl (hb hby at_73) kq_) ?_
  have hz264 : (4 : Int32).toInt = ((4 : Nat) : Int) := rfl
  obtain ⟨T264, h264, X264, e264, E264, V264, st264⟩ := Ab.new X262 hx hZ (tw1 hw) e262 (g := (mkF m 74 #[.val (.long q1), .second, .val (.int p2), .val (.int p3), .val (.int p4), .val (.int p5), .val (.int lim), .val (.int c1), .val (.int c2), .val (.int c3), .val (.ref b254), .unset, .unset, .unset, .unset, .unset, .unset, .unset, .unset, .unset] [(.int (4 : Int32))])) rfl (hb hby at_74) rfl hz264 (cap := 4) (Nat.le_refl _) (by decide) (by decide) (by decide)
  obtain ⟨b264, g264⟩ : ∃ z, z = h262.size := ⟨_, rfl⟩
  rw [← g264] at V264 st264
  have ne_b254_b264 : b254 ≠ b264 := Nat.ne_of_lt (Nat.lt_of_lt_of_le V262.lt (Nat.le_of_eq g264.symm))
  have g_b264 : n0 ≤ b264 := Nat.le_trans Zs263 (Nat.le_of_eq g264.symm)
  have Zs265 : n0 ≤ h264.size := Nat.le_trans Zs263 E264.1
  refine hG _ T264 _ (mkF m 76 #[.val (.long q1), .second, .val (.int p2), .val (.int p3), .val (.int p4), .val (.int p5), .val (.int lim), .val (.int c1), .val (.int c2), .val (.int c3), .val (.ref b254), .unset, .unset, .unset, .unset, .unset, .unset, .unset, .unset, .unset] [(.ref b264)]) st264 ?_
  refine hG _ T264 _ (mkF m 77 #[.val (.long q1), .second, .val (.int p2), .val (.int p3), .val (.int p4), .val (.int p5), .val (.int lim), .val (.int c1), .val (.int c2), .val (.int c3), .val (.ref b254), .unset, .unset, .unset, .unset, .unset, .unset, .unset, .unset, .unset] [(.ref b264), (.ref b264)]) (fun t kq_ => XS.dup X264.here hx rfl (hb hby at_76) rfl rfl kq_) ?_
  refine hG _ T264 _ (mkF m 78 #[.val (.long q1), .second, .val (.int p2), .val (.int p3), .val (.int p4), .val (.int p5), .val (.int lim), .val (.int c1), .val (.int c2), .val (.int c3), .val (.ref b254), .unset, .unset, .unset, .unset, .unset, .unset, .unset, .unset, .unset] [(.int (0 : Int32)), (.ref b264), (.ref b264)]) (fun t kq_ => XS.iconst X264.here hx rfl (hb hby at_77) kq_) ?_
  refine hG _ T264 _ (mkF m 79 #[.val (.long q1), .second, .val (.int p2), .val (.int p3), .val (.int p4), .val (.int p5), .val (.int lim), .val (.int c1), .val (.int c2), .val (.int c3), .val (.ref b254), .unset, .unset, .unset, .unset, .unset, .unset, .unset, .unset, .unset] [(.long q1), (.int (0 : Int32)), (.ref b264), (.ref b264)]) (fun t kq_ => XS.lloadN X264.here hx rfl (hb hby at_78) rfl kq_) ?_
  refine hG _ T264 _ (mkF m 81 #[.val (.long q1), .second, .val (.int p2), .val (.int p3), .val (.int p4), .val (.int p5), .val (.int lim), .val (.int c1), .val (.int c2), .val (.int c3), .val (.ref b254), .unset, .unset, .unset, .unset, .unset, .unset, .unset, .unset, .unset] [(.int (32 : Int32)), (.long q1), (.int (0 : Int32)), (.ref b264), (.ref b264)]) (fun t kq_ => XS.bipush X264.here hx rfl (hb hby at_79) kq_) ?_
  refine hG _ T264 _ (mkF m 82 #[.val (.long q1), .second, .val (.int p2), .val (.int p3), .val (.int p4), .val (.int p5), .val (.int lim), .val (.int c1), .val (.int c2), .val (.int c3), .val (.ref b254), .unset, .unset, .unset, .unset, .unset, .unset, .unset, .unset, .unset] [(.long (q1 >>> ((32 : Int32) &&& 0x3f).toInt64)), (.int (0 : Int32)), (.ref b264), (.ref b264)]) (fun t kq_ => XS.lshr X264.here hx rfl (hb hby at_81) rfl kq_) ?_
  refine hG _ T264 _ (mkF m 83 #[.val (.long q1), .second, .val (.int p2), .val (.int p3), .val (.int p4), .val (.int p5), .val (.int lim), .val (.int c1), .val (.int c2), .val (.int c3), .val (.ref b254), .unset, .unset, .unset, .unset, .unset, .unset, .unset, .unset, .unset] [(.int ((q1 >>> ((32 : Int32) &&& 0x3f).toInt64).toInt32)), (.int (0 : Int32)), (.ref b264), (.ref b264)]) (fun t kq_ => XS.l2i X264.here hx rfl (hb hby at_82) rfl kq_) ?_
  refine hG _ T264 _ (mkF m 84 #[.val (.long q1), .second, .val (.int p2), .val (.int p3), .val (.int p4), .val (.int p5), .val (.int lim), .val (.int c1), .val (.int c2), .val (.int c3), .val (.ref b254), .unset, .unset, .unset, .unset, .unset, .unset, .unset, .unset, .unset] [(.int (((q1 >>> ((32 : Int32) &&& 0x3f).toInt64).toInt32).toInt8.toInt32)), (.int (0 : Int32)), (.ref b264), (.ref b264)]) (fun t kq_ => XS.i2b X264.here hx rfl (hb hby at_83) rfl kq_) ?_
  obtain ⟨T266, h266, X266, e266, W266, V266, st266⟩ := Ab.st X264 hx hZ e264 V264 (j := (0 : Int32)) (i := 0) rfl (by decide) (g := (mkF m 84 #[.val (.long q1), .second, .val (.int p2), .val (.int p3), .val (.int p4), .val (.int p5), .val (.int lim), .val (.int c1), .val (.int c2), .val (.int c3), .val (.ref b254), .unset, .unset, .unset, .unset, .unset, .unset, .unset, .unset, .unset] [(.int (((q1 >>> ((32 : Int32) &&& 0x3f).toInt64).toInt32).toInt8.toInt32)), (.int (0 : Int32)), (.ref b264), (.ref b264)])) rfl rfl (hb hby at_84)
  have Zs267 : n0 ≤ h266.size := Nat.le_trans Zs265 (Keep.of_wr W266).1
  have N266 := Fr.snoc X266 N262 g_b264
  refine hG _ T266 _ (mkF m 85 #[.val (.long q1), .second, .val (.int p2), .val (.int p3), .val (.int p4), .val (.int p5), .val (.int lim), .val (.int c1), .val (.int c2), .val (.int c3), .val (.ref b254), .unset, .unset, .unset, .unset, .unset, .unset, .unset, .unset, .unset] [(.ref b264)]) st266 ?_
  refine hG _ T266 _ (mkF m 86 #[.val (.long q1), .second, .val (.int p2), .val (.int p3), .val (.int p4), .val (.int p5), .val (.int lim), .val (.int c1), .val (.int c2), .val (.int c3), .val (.ref b254), .unset, .unset, .unset, .unset, .unset, .unset, .unset, .unset, .unset] [(.ref b264), (.ref b264)]) (fun t kq_ => XS.dup X266.here hx rfl (hb hby at_85) rfl rfl kq_) ?_
  refine hG _ T266 _ (mkF m 87 #[.val (.long q1), .second, .val (.int p2), .val (.int p3), .val (.int p4), .val (.int p5), .val (.int lim), .val (.int c1), .val (.int c2), .val (.int c3), .val (.ref b254), .unset, .unset, .unset, .unset, .unset, .unset, .unset, .unset, .unset] [(.int (1 : Int32)), (.ref b264), (.ref b264)]) (fun t kq_ => XS.iconst X266.here hx rfl (hb hby at_86) kq_) ?_
  refine hG _ T266 _ (mkF m 88 #[.val (.long q1), .second, .val (.int p2), .val (.int p3), .val (.int p4), .val (.int p5), .val (.int lim), .val (.int c1), .val (.int c2), .val (.int c3), .val (.ref b254), .unset, .unset, .unset, .unset, .unset, .unset, .unset, .unset, .unset] [(.long q1), (.int (1 : Int32)), (.ref b264), (.ref b264)]) (fun t kq_ => XS.lloadN X266.here hx rfl (hb hby at_87) rfl kq_) ?_
  refine hG _ T266 _ (mkF m 90 #[.val (.long q1), .second, .val (.int p2), .val (.int p3), .val (.int p4), .val (.int p5), .val (.int lim), .val (.int c1), .val (.int c2), .val (.int c3), .val (.ref b254), .unset, .unset, .unset, .unset, .unset, .unset, .unset, .unset, .unset] [(.int (40 : Int32)), (.long q1), (.int (1 : Int32)), (.ref b264), (.ref b264)]) (fun t kq_ => XS.bipush X266.here hx rfl (hb hby at_88) kq_) ?_
  refine hG _ T266 _ (mkF m 91 #[.val (.long q1), .second, .val (.int p2), .val (.int p3), .val (.int p4), .val (.int p5), .val (.int lim), .val (.int c1), .val (.int c2), .val (.int c3), .val (.ref b254), .unset, .unset, .unset, .unset, .unset, .unset, .unset, .unset, .unset] [(.long (q1 >>> ((40 : Int32) &&& 0x3f).toInt64)), (.int (1 : Int32)), (.ref b264), (.ref b264)]) (fun t kq_ => XS.lshr X266.here hx rfl (hb hby at_90) rfl kq_) ?_
  refine hG _ T266 _ (mkF m 92 #[.val (.long q1), .second, .val (.int p2), .val (.int p3), .val (.int p4), .val (.int p5), .val (.int lim), .val (.int c1), .val (.int c2), .val (.int c3), .val (.ref b254), .unset, .unset, .unset, .unset, .unset, .unset, .unset, .unset, .unset] [(.int ((q1 >>> ((40 : Int32) &&& 0x3f).toInt64).toInt32)), (.int (1 : Int32)), (.ref b264), (.ref b264)]) (fun t kq_ => XS.l2i X266.here hx rfl (hb hby at_91) rfl kq_) ?_
  refine hG _ T266 _ (mkF m 93 #[.val (.long q1), .second, .val (.int p2), .val (.int p3), .val (.int p4), .val (.int p5), .val (.int lim), .val (.int c1), .val (.int c2), .val (.int c3), .val (.ref b254), .unset, .unset, .unset, .unset, .unset, .unset, .unset, .unset, .unset] [(.int (((q1 >>> ((40 : Int32) &&& 0x3f).toInt64).toInt32).toInt8.toInt32)), (.int (1 : Int32)), (.ref b264), (.ref b264)]) (fun t kq_ => XS.i2b X266.here hx rfl (hb hby at_92) rfl kq_) ?_
  obtain ⟨T268, h268, X268, e268, W268, V268, st268⟩ := Ab.st X266 hx hZ e266 V266 (j := (1 : Int32)) (i := 1) rfl (by decide) (g := (mkF m 93 #[.val (.long q1), .second, .val (.int p2), .val (.int p3), .val (.int p4), .val (.int p5), .val (.int lim), .val (.int c1), .val (.int c2), .val (.int c3), .val (.ref b254), .unset, .unset, .unset, .unset, .unset, .unset, .unset, .unset, .unset] [(.int (((q1 >>> ((40 : Int32) &&& 0x3f).toInt64).toInt32).toInt8.toInt32)), (.int (1 : Int32)), (.ref b264), (.ref b264)])) rfl rfl (hb hby at_93)
  have Zs269 : n0 ≤ h268.size := Nat.le_trans Zs267 (Keep.of_wr W268).1
  have N268 := Fr.snoc X268 N266 g_b264
  refine hG _ T268 _ (mkF m 94 #[.val (.long q1), .second, .val (.int p2), .val (.int p3), .val (.int p4), .val (.int p5), .val (.int lim), .val (.int c1), .val (.int c2), .val (.int c3), .val (.ref b254), .unset, .unset, .unset, .unset, .unset, .unset, .unset, .unset, .unset] [(.ref b264)]) st268 ?_
  refine hG _ T268 _ (mkF m 95 #[.val (.long q1), .second, .val (.int p2), .val (.int p3), .val (.int p4), .val (.int p5), .val (.int lim), .val (.int c1), .val (.int c2), .val (.int c3), .val (.ref b254), .unset, .unset, .unset, .unset, .unset, .unset, .unset, .unset, .unset] [(.ref b264), (.ref b264)]) (fun t kq_ => XS.dup X268.here hx rfl (hb hby at_94) rfl rfl kq_) ?_
  refine hG _ T268 _ (mkF m 96 #[.val (.long q1), .second, .val (.int p2), .val (.int p3), .val (.int p4), .val (.int p5), .val (.int lim), .val (.int c1), .val (.int c2), .val (.int c3), .val (.ref b254), .unset, .unset, .unset, .unset, .unset, .unset, .unset, .unset, .unset] [(.int (2 : Int32)), (.ref b264), (.ref b264)]) (fun t kq_ => XS.iconst X268.here hx rfl (hb hby at_95) kq_) ?_
  refine hG _ T268 _ (mkF m 97 #[.val (.long q1), .second, .val (.int p2), .val (.int p3), .val (.int p4), .val (.int p5), .val (.int lim), .val (.int c1), .val (.int c2), .val (.int c3), .val (.ref b254), .unset, .unset, .unset, .unset, .unset, .unset, .unset, .unset, .unset] [(.long q1), (.int (2 : Int32)), (.ref b264), (.ref b264)]) (fun t kq_ => XS.lloadN X268.here hx rfl (hb hby at_96) rfl kq_) ?_
  refine hG _ T268 _ (mkF m 99 #[.val (.long q1), .second, .val (.int p2), .val (.int p3), .val (.int p4), .val (.int p5), .val (.int lim), .val (.int c1), .val (.int c2), .val (.int c3), .val (.ref b254), .unset, .unset, .unset, .unset, .unset, .unset, .unset, .unset, .unset] [(.int (48 : Int32)), (.long q1), (.int (2 : Int32)), (.ref b264), (.ref b264)]) (fun t kq_ => XS.bipush X268.here hx rfl (hb hby at_97) kq_) ?_
  refine hG _ T268 _ (mkF m 100 #[.val (.long q1), .second, .val (.int p2), .val (.int p3), .val (.int p4), .val (.int p5), .val (.int lim), .val (.int c1), .val (.int c2), .val (.int c3), .val (.ref b254), .unset, .unset, .unset, .unset, .unset, .unset, .unset, .unset, .unset] [(.long (q1 >>> ((48 : Int32) &&& 0x3f).toInt64)), (.int (2 : Int32)), (.ref b264), (.ref b264)]) (fun t kq_ => XS.lshr X268.here hx rfl (hb hby at_99) rfl kq_) ?_
  refine hG _ T268 _ (mkF m 101 #[.val (.long q1), .second, .val (.int p2), .val (.int p3), .val (.int p4), .val (.int p5), .val (.int lim), .val (.int c1), .val (.int c2), .val (.int c3), .val (.ref b254), .unset, .unset, .unset, .unset, .unset, .unset, .unset, .unset, .unset] [(.int ((q1 >>> ((48 : Int32) &&& 0x3f).toInt64).toInt32)), (.int (2 : Int32)), (.ref b264), (.ref b264)]) (fun t kq_ => XS.l2i X268.here hx rfl (hb hby at_100) rfl kq_) ?_
  refine hG _ T268 _ (mkF m 102 #[.val (.long q1), .second, .val (.int p2), .val (.int p3), .val (.int p4), .val (.int p5), .val (.int lim), .val (.int c1), .val (.int c2), .val (.int c3), .val (.ref b254), .unset, .unset, .unset, .unset, .unset, .unset, .unset, .unset, .unset] [(.int (((q1 >>> ((48 : Int32) &&& 0x3f).toInt64).toInt32).toInt8.toInt32)), (.int (2 : Int32)), (.ref b264), (.ref b264)]) (fun t kq_ => XS.i2b X268.here hx rfl (hb hby at_101) rfl kq_) ?_
  obtain ⟨T270, h270, X270, e270, W270, V270, st270⟩ := Ab.st X268 hx hZ e268 V268 (j := (2 : Int32)) (i := 2) rfl (by decide) (g := (mkF m 102 #[.val (.long q1), .second, .val (.int p2), .val (.int p3), .val (.int p4), .val (.int p5), .val (.int lim), .val (.int c1), .val (.int c2), .val (.int c3), .val (.ref b254), .unset, .unset, .unset, .unset, .unset, .unset, .unset, .unset, .unset] [(.int (((q1 >>> ((48 : Int32) &&& 0x3f).toInt64).toInt32).toInt8.toInt32)), (.int (2 : Int32)), (.ref b264), (.ref b264)])) rfl rfl (hb hby at_102)
  have Zs271 : n0 ≤ h270.size := Nat.le_trans Zs269 (Keep.of_wr W270).1
  have N270 := Fr.snoc X270 N268 g_b264
  refine hG _ T270 _ (mkF m 103 #[.val (.long q1), .second, .val (.int p2), .val (.int p3), .val (.int p4), .val (.int p5), .val (.int lim), .val (.int c1), .val (.int c2), .val (.int c3), .val (.ref b254), .unset, .unset, .unset, .unset, .unset, .unset, .unset, .unset, .unset] [(.ref b264)]) st270 ?_
  refine hG _ T270 _ (mkF m 104 #[.val (.long q1), .second, .val (.int p2), .val (.int p3), .val (.int p4), .val (.int p5), .val (.int lim), .val (.int c1), .val (.int c2), .val (.int c3), .val (.ref b254), .unset, .unset, .unset, .unset, .unset, .unset, .unset, .unset, .unset] [(.ref b264), (.ref b264)]) (fun t kq_ => XS.dup X270.here hx rfl (hb hby at_103) rfl rfl kq_) ?_
  refine hG _ T270 _ (mkF m 105 #[.val (.long q1), .second, .val (.int p2), .val (.int p3), .val (.int p4), .val (.int p5), .val (.int lim), .val (.int c1), .val (.int c2), .val (.int c3), .val (.ref b254), .unset, .unset, .unset, .unset, .unset, .unset, .unset, .unset, .unset] [(.int (3 : Int32)), (.ref b264), (.ref b264)]) (fun t kq_ => XS.iconst X270.here hx rfl (hb hby at_104) kq_) ?_
  refine hG _ T270 _ (mkF m 106 #[.val (.long q1), .second, .val (.int p2), .val (.int p3), .val (.int p4), .val (.int p5), .val (.int lim), .val (.int c1), .val (.int c2), .val (.int c3), .val (.ref b254), .unset, .unset, .unset, .unset, .unset, .unset, .unset, .unset, .unset] [(.long q1), (.int (3 : Int32)), (.ref b264), (.ref b264)]) (fun t kq_ => XS.lloadN X270.here hx rfl (hb hby at_105) rfl kq_) ?_
  refine hG _ T270 _ (mkF m 108 #[.val (.long q1), .second, .val (.int p2), .val (.int p3), .val (.int p4), .val (.int p5), .val (.int lim), .val (.int c1), .val (.int c2), .val (.int c3), .val (.ref b254), .unset, .unset, .unset, .unset, .unset, .unset, .unset, .unset, .unset] [(.int (56 : Int32)), (.long q1), (.int (3 : Int32)), (.ref b264), (.ref b264)]) (fun t kq_ => XS.bipush X270.here hx rfl (hb hby at_106) kq_) ?_
  refine hG _ T270 _ (mkF m 109 #[.val (.long q1), .second, .val (.int p2), .val (.int p3), .val (.int p4), .val (.int p5), .val (.int lim), .val (.int c1), .val (.int c2), .val (.int c3), .val (.ref b254), .unset, .unset, .unset, .unset, .unset, .unset, .unset, .unset, .unset] [(.long (q1 >>> ((56 : Int32) &&& 0x3f).toInt64)), (.int (3 : Int32)), (.ref b264), (.ref b264)]) (fun t kq_ => XS.lshr X270.here hx rfl (hb hby at_108) rfl kq_) ?_
  refine hG _ T270 _ (mkF m 110 #[.val (.long q1), .second, .val (.int p2), .val (.int p3), .val (.int p4), .val (.int p5), .val (.int lim), .val (.int c1), .val (.int c2), .val (.int c3), .val (.ref b254), .unset, .unset, .unset, .unset, .unset, .unset, .unset, .unset, .unset] [(.int ((q1 >>> ((56 : Int32) &&& 0x3f).toInt64).toInt32)), (.int (3 : Int32)), (.ref b264), (.ref b264)]) (fun t kq_ => XS.l2i X270.here hx rfl (hb hby at_109) rfl kq_) ?_
  refine hG _ T270 _ (mkF m 111 #[.val (.long q1), .second, .val (.int p2), .val (.int p3), .val (.int p4), .val (.int p5), .val (.int lim), .val (.int c1), .val (.int c2), .val (.int c3), .val (.ref b254), .unset, .unset, .unset, .unset, .unset, .unset, .unset, .unset, .unset] [(.int (((q1 >>> ((56 : Int32) &&& 0x3f).toInt64).toInt32).toInt8.toInt32)), (.int (3 : Int32)), (.ref b264), (.ref b264)]) (fun t kq_ => XS.i2b X270.here hx rfl (hb hby at_110) rfl kq_) ?_
  obtain ⟨T272, h272, X272, e272, W272, V272, st272⟩ := Ab.st X270 hx hZ e270 V270 (j := (3 : Int32)) (i := 3) rfl (by decide) (g := (mkF m 111 #[.val (.long q1), .second, .val (.int p2), .val (.int p3), .val (.int p4), .val (.int p5), .val (.int lim), .val (.int c1), .val (.int c2), .val (.int c3), .val (.ref b254), .unset, .unset, .unset, .unset, .unset, .unset, .unset, .unset, .unset] [(.int (((q1 >>> ((56 : Int32) &&& 0x3f).toInt64).toInt32).toInt8.toInt32)), (.int (3 : Int32)), (.ref b264), (.ref b264)])) rfl rfl (hb hby at_111)
  have Zs273 : n0 ≤ h272.size := Nat.le_trans Zs271 (Keep.of_wr W272).1
  have N272 := Fr.snoc X272 N270 g_b264
  refine hG _ T272 _ (mkF m 112 #[.val (.long q1), .second, .val (.int p2), .val (.int p3), .val (.int p4), .val (.int p5), .val (.int lim), .val (.int c1), .val (.int c2), .val (.int c3), .val (.ref b254), .unset, .unset, .unset, .unset, .unset, .unset, .unset, .unset, .unset] [(.ref b264)]) st272 ?_
  refine hG _ T272 _ (mkF m 114 #[.val (.long q1), .second, .val (.int p2), .val (.int p3), .val (.int p4), .val (.int p5), .val (.int lim), .val (.int c1), .val (.int c2), .val (.int c3), .val (.ref b254), .val (.ref b264), .unset, .unset, .unset, .unset, .unset, .unset, .unset, .unset] []) (fun t kq_ => XS.astore X272.here hx rfl (hb hby at_112) rfl rfl (l' := #[.val (.long q1), .second, .val (.int p2), .val (.int p3), .val (.int p4), .val (.int p5), .val (.int lim), .val (.int c1), .val (.int c2), .val (.int c3), .val (.ref b254), .val (.ref b264), .unset, .unset, .unset, .unset, .unset, .unset, .unset, .unset]) rfl kq_) ?_
  have V262'274 : Ab Z h272 b254 4 (upd (upd (upd (upd (fun _ => 0) 0 (nar .byte ((q1.toInt32).toInt8.toInt32))) 1 (nar .byte (((q1 >>> ((8 : Int32) &&& 0x3f).toInt64).toInt32).toInt8.toInt32))) 2 (nar .byte (((q1 >>> ((16 : Int32) &&& 0x3f).toInt64).toInt32).toInt8.toInt32))) 3 (nar .byte (((q1 >>> ((24 : Int32) &&& 0x3f).toInt64).toInt32).toInt8.toInt32))) := (((((V262.ext E264).other W266 ne_b254_b264).other W268 ne_b254_b264).other W270 ne_b254_b264).other W272 ne_b254_b264)
  exact lw114 _ _ _ _ _ lim c1 c2 c3 b254 b264 _ _ lm m1 m2 m3 X272 hx hZ hw hby hml hown e272 Zs273 N272 hlk hrt hlm h9 hc1 hc2 hc3 hm1 hm2 hm3 V262'274 V272
theorem own_rem (x : Int32) {y : Int32} {n : Nat} (hy : y.toInt = (n : Int)) (hn : 1 ≤ n) : ∃ k : Nat, ((x &&& (2147483647 : Int32)) % y).toInt = (k : Int) ∧ k < n := by
  have h1 := (c_and x 2147483647 (by decide)).1
  have h2 := (c_iremV (x &&& 2147483647) y).1 h1 (by omega)
  exact ⟨((x &&& (2147483647 : Int32)) % y).toInt.toNat, by omega, by omega⟩
theorem ef_rm0 (m : MethodId) (x0 : Int64) (x1 : Int32) (x2 : Int32) (x3 : Int32) (x4 : Int32) : entryFrame m #[(.long x0), (.int x1), (.int x2), (.int x3), (.int x4)] maxLocals = mkF m 0 #[.val (.long x0), .second, .val (.int x1), .val (.int x2), .val (.int x3), .val (.int x4), .unset, .unset, .unset, .unset, .unset, .unset, .unset, .unset, .unset, .unset, .unset, .unset, .unset, .unset] [] := by first | (simp [entryFrame, mkF, argsToLocals, Value.category, maxLocals]; done) | rfl
theorem pn_rm0 : plainName "com/example/tools_to_sandbox/toolstosandbox/service/OutputCaptureToByteArrayPinLaw" = true := by first | (simp [plainName, overriddenIn]; done) | decide +kernel
def Q_rm0 (Z : State) (q1 : Int64) (p2 : Int32) (p3 : Int32) (p4 : Int32) (p5 : Int32)  (h0 : Heap) (n0 : Nat) (v : Option Value) (h : Heap) (L : List Loc) : Prop := v = some (.int 1) ∧ Fr n0 L
set_option maxRecDepth 65536 in
set_option maxHeartbeats 40000000 in
theorem rm0 (l : Launch) (Z : State) (a0 : Array Value) (hw : ∀ d ∈ tables_1, d.before a0 Z = true) (ws : List Jvm.Cond) (q1 : Int64) (p2 : Int32) (p3 : Int32) (p4 : Int32) (p5 : Int32) (h0 : Heap) (n0 : Nat) (Z0 : n0 ≤ h0.size) :
    MetFree l x (head1 (Jvm.Cond.code x code maxLocals ret :: ws) room_1) (fun a U => a = #[(.long q1), (.int p2), (.int p3), (.int p4), (.int p5)] ∧ Z.Warmed39 U.vm ∧ U.heap = h0) (fun _ _ _ _ _ => True) (fun _ U o U' => ∃ v L, o = .returned v ∧ Q_rm0 Z q1 p2 p3 p4 p5  h0 n0 v U'.heap L ∧ FrameEnd U o U' L 32 192) := by
  refine MetFree.of_bodySF (plainFor_of_name pn_rm0) hisR ?_
  intro p e s m args below meth c s₁ Bd hml0 hP hK
  obtain ⟨rfl, hZ, hh⟩ := hP
  have hx := Bd.exec
  have hby := Bd.bytes
  have hml : c.maxLocals = 20 := hml0
  have hown : s.vm.findClass "com/example/tools_to_sandbox/toolstosandbox/service/OutputCaptureToByteArrayPinLaw" = some m.cls := findClass_of_methodNamed Bd.named
  have hnm := (name_of_methodNamed Bd.named Bd.method).1
  have X0 : Stand p l e room_1 s m #[(.long q1), (.int p2), (.int p3), (.int p4), (.int p5)] below meth c s₁ [] 0 0 := Stand.of_body Bd
  have e0 : s₁.heap = h0 := by rw [← hh, Bd.state]; rfl
  have N0 := Fr.nil n0
  have hlk : meth.locks = false := BodyLoose.notSynchronized Bd
  have hrt := Bd.returns
  have hG := Goes.bk p e below s (fun (v : Option Value) (h : Heap) (L : List Loc) => v = some (.int 1) ∧ Fr n0 L) 32 192
  show Goes p e below s (fun (v : Option Value) (h : Heap) (L : List Loc) => v = some (.int 1) ∧ Fr n0 L) 32 192 s₁ (entryFrame m #[(.long q1), (.int p2), (.int p3), (.int p4), (.int p5)] maxLocals)
  rw [ef_rm0 m q1 p2 p3 p4 p5]
  refine hG _ s₁ _ (mkF m 1 #[.val (.long q1), .second, .val (.int p2), .val (.int p3), .val (.int p4), .val (.int p5), .unset, .unset, .unset, .unset, .unset, .unset, .unset, .unset, .unset, .unset, .unset, .unset, .unset, .unset] [(.int p2)]) (fun t kq_ => XS.iloadN X0.here hx rfl (hb hby at_0) rfl kq_) ?_
  refine hG _ s₁ _ (mkF m 3 #[.val (.long q1), .second, .val (.int p2), .val (.int p3), .val (.int p4), .val (.int p5), .unset, .unset, .unset, .unset, .unset, .unset, .unset, .unset, .unset, .unset, .unset, .unset, .unset, .unset] [(.int (2147483647 : Int32)), (.int p2)]) (X0.ldcInt hx hown (mvT hZ (tw0 hw)) (g := (mkF m 1 #[.val (.long q1), .second, .val (.int p2), .val (.int p3), .val (.int p4), .val (.int p5), .unset, .unset, .unset, .unset, .unset, .unset, .unset, .unset, .unset, .unset, .unset, .unset, .unset, .unset] [(.int p2)])) rfl (hb hby at_1)) ?_
  refine hG _ s₁ _ (mkF m 4 #[.val (.long q1), .second, .val (.int p2), .val (.int p3), .val (.int p4), .val (.int p5), .unset, .unset, .unset, .unset, .unset, .unset, .unset, .unset, .unset, .unset, .unset, .unset, .unset, .unset] [(.int (p2 &&& (2147483647 : Int32)))]) (fun t kq_ => XS.iand X0.here hx rfl (hb hby at_3) rfl kq_) ?_
  refine hG _ s₁ _ (mkF m 6 #[.val (.long q1), .second, .val (.int p2), .val (.int p3), .val (.int p4), .val (.int p5), .unset, .unset, .unset, .unset, .unset, .unset, .unset, .unset, .unset, .unset, .unset, .unset, .unset, .unset] [(.int (10 : Int32)), (.int (p2 &&& (2147483647 : Int32)))]) (fun t kq_ => XS.bipush X0.here hx rfl (hb hby at_4) kq_) ?_
  refine hG _ s₁ _ (mkF m 7 #[.val (.long q1), .second, .val (.int p2), .val (.int p3), .val (.int p4), .val (.int p5), .unset, .unset, .unset, .unset, .unset, .unset, .unset, .unset, .unset, .unset, .unset, .unset, .unset, .unset] [(.int ((p2 &&& (2147483647 : Int32)) % (10 : Int32)))]) (fun t kq_ => iremM X0 hx rfl (hb hby at_6) rfl (by decide) kq_) ?_
  refine hG _ s₁ _ (mkF m 9 #[.val (.long q1), .second, .val (.int p2), .val (.int p3), .val (.int p4), .val (.int p5), .val (.int ((p2 &&& (2147483647 : Int32)) % (10 : Int32))), .unset, .unset, .unset, .unset, .unset, .unset, .unset, .unset, .unset, .unset, .unset, .unset, .unset] []) (fun t kq_ => XS.istore X0.here hx rfl (hb hby at_7) rfl (l' := #[.val (.long q1), .second, .val (.int p2), .val (.int p3), .val (.int p4), .val (.int p5), .val (.int ((p2 &&& (2147483647 : Int32)) % (10 : Int32))), .unset, .unset, .unset, .unset, .unset, .unset, .unset, .unset, .unset, .unset, .unset, .unset, .unset]) rfl kq_) ?_
  refine hG _ s₁ _ (mkF m 10 #[.val (.long q1), .second, .val (.int p2), .val (.int p3), .val (.int p4), .val (.int p5), .val (.int ((p2 &&& (2147483647 : Int32)) % (10 : Int32))), .unset, .unset, .unset, .unset, .unset, .unset, .unset, .unset, .unset, .unset, .unset, .unset, .unset] [(.int p3)]) (fun t kq_ => XS.iloadN X0.here hx rfl (hb hby at_9) rfl kq_) ?_
  refine hG _ s₁ _ (mkF m 12 #[.val (.long q1), .second, .val (.int p2), .val (.int p3), .val (.int p4), .val (.int p5), .val (.int ((p2 &&& (2147483647 : Int32)) % (10 : Int32))), .unset, .unset, .unset, .unset, .unset, .unset, .unset, .unset, .unset, .unset, .unset, .unset, .unset] [(.int (2147483647 : Int32)), (.int p3)]) (X0.ldcInt hx hown (mvT hZ (tw0 hw)) (g := (mkF m 10 #[.val (.long q1), .second, .val (.int p2), .val (.int p3), .val (.int p4), .val (.int p5), .val (.int ((p2 &&& (2147483647 : Int32)) % (10 : Int32))), .unset, .unset, .unset, .unset, .unset, .unset, .unset, .unset, .unset, .unset, .unset, .unset, .unset] [(.int p3)])) rfl (hb hby at_10)) ?_
  refine hG _ s₁ _ (mkF m 13 #[.val (.long q1), .second, .val (.int p2), .val (.int p3), .val (.int p4), .val (.int p5), .val (.int ((p2 &&& (2147483647 : Int32)) % (10 : Int32))), .unset, .unset, .unset, .unset, .unset, .unset, .unset, .unset, .unset, .unset, .unset, .unset, .unset] [(.int (p3 &&& (2147483647 : Int32)))]) (fun t kq_ => XS.iand X0.here hx rfl (hb hby at_12) rfl kq_) ?_
  refine hG _ s₁ _ (mkF m 14 #[.val (.long q1), .second, .val (.int p2), .val (.int p3), .val (.int p4), .val (.int p5), .val (.int ((p2 &&& (2147483647 : Int32)) % (10 : Int32))), .unset, .unset, .unset, .unset, .unset, .unset, .unset, .unset, .unset, .unset, .unset, .unset, .unset] [(.int (5 : Int32)), (.int (p3 &&& (2147483647 : Int32)))]) (fun t kq_ => XS.iconst X0.here hx rfl (hb hby at_13) kq_) ?_
  refine hG _ s₁ _ (mkF m 15 #[.val (.long q1), .second, .val (.int p2), .val (.int p3), .val (.int p4), .val (.int p5), .val (.int ((p2 &&& (2147483647 : Int32)) % (10 : Int32))), .unset, .unset, .unset, .unset, .unset, .unset, .unset, .unset, .unset, .unset, .unset, .unset, .unset] [(.int ((p3 &&& (2147483647 : Int32)) % (5 : Int32)))]) (fun t kq_ => iremM X0 hx rfl (hb hby at_14) rfl (by decide) kq_) ?_
  refine hG _ s₁ _ (mkF m 17 #[.val (.long q1), .second, .val (.int p2), .val (.int p3), .val (.int p4), .val (.int p5), .val (.int ((p2 &&& (2147483647 : Int32)) % (10 : Int32))), .val (.int ((p3 &&& (2147483647 : Int32)) % (5 : Int32))), .unset, .unset, .unset, .unset, .unset, .unset, .unset, .unset, .unset, .unset, .unset, .unset] []) (fun t kq_ => XS.istore X0.here hx rfl (hb hby at_15) rfl (l' := #[.val (.long q1), .second, .val (.int p2), .val (.int p3), .val (.int p4), .val (.int p5), .val (.int ((p2 &&& (2147483647 : Int32)) % (10 : Int32))), .val (.int ((p3 &&& (2147483647 : Int32)) % (5 : Int32))), .unset, .unset, .unset, .unset, .unset, .unset, .unset, .unset, .unset, .unset, .unset, .unset]) rfl kq_) ?_
  refine hG _ s₁ _ (mkF m 19 #[.val (.long q1), .second, .val (.int p2), .val (.int p3), .val (.int p4), .val (.int p5), .val (.int ((p2 &&& (2147483647 : Int32)) % (10 : Int32))), .val (.int ((p3 &&& (2147483647 : Int32)) % (5 : Int32))), .unset, .unset, .unset, .unset, .unset, .unset, .unset, .unset, .unset, .unset, .unset, .unset] [(.int p4)]) (fun t kq_ => XS.iload X0.here hx rfl (hb hby at_17) rfl kq_) ?_
  refine hG _ s₁ _ (mkF m 21 #[.val (.long q1), .second, .val (.int p2), .val (.int p3), .val (.int p4), .val (.int p5), .val (.int ((p2 &&& (2147483647 : Int32)) % (10 : Int32))), .val (.int ((p3 &&& (2147483647 : Int32)) % (5 : Int32))), .unset, .unset, .unset, .unset, .unset, .unset, .unset, .unset, .unset, .unset, .unset, .unset] [(.int (2147483647 : Int32)), (.int p4)]) (X0.ldcInt hx hown (mvT hZ (tw0 hw)) (g := (mkF m 19 #[.val (.long q1), .second, .val (.int p2), .val (.int p3), .val (.int p4), .val (.int p5), .val (.int ((p2 &&& (2147483647 : Int32)) % (10 : Int32))), .val (.int ((p3 &&& (2147483647 : Int32)) % (5 : Int32))), .unset, .unset, .unset, .unset, .unset, .unset, .unset, .unset, .unset, .unset, .unset, .unset] [(.int p4)])) rfl (hb hby at_19)) ?_
  refine hG _ s₁ _ (mkF m 22 #[.val (.long q1), .second, .val (.int p2), .val (.int p3), .val (.int p4), .val (.int p5), .val (.int ((p2 &&& (2147483647 : Int32)) % (10 : Int32))), .val (.int ((p3 &&& (2147483647 : Int32)) % (5 : Int32))), .unset, .unset, .unset, .unset, .unset, .unset, .unset, .unset, .unset, .unset, .unset, .unset] [(.int (p4 &&& (2147483647 : Int32)))]) (fun t kq_ => XS.iand X0.here hx rfl (hb hby at_21) rfl kq_) ?_
  refine hG _ s₁ _ (mkF m 23 #[.val (.long q1), .second, .val (.int p2), .val (.int p3), .val (.int p4), .val (.int p5), .val (.int ((p2 &&& (2147483647 : Int32)) % (10 : Int32))), .val (.int ((p3 &&& (2147483647 : Int32)) % (5 : Int32))), .unset, .unset, .unset, .unset, .unset, .unset, .unset, .unset, .unset, .unset, .unset, .unset] [(.int (5 : Int32)), (.int (p4 &&& (2147483647 : Int32)))]) (fun t kq_ => XS.iconst X0.here hx rfl (hb hby at_22) kq_) ?_
  refine hG _ s₁ _ (mkF m 24 #[.val (.long q1), .second, .val (.int p2), .val (.int p3), .val (.int p4), .val (.int p5), .val (.int ((p2 &&& (2147483647 : Int32)) % (10 : Int32))), .val (.int ((p3 &&& (2147483647 : Int32)) % (5 : Int32))), .unset, .unset, .unset, .unset, .unset, .unset, .unset, .unset, .unset, .unset, .unset, .unset] [(.int ((p4 &&& (2147483647 : Int32)) % (5 : Int32)))]) (fun t kq_ => iremM X0 hx rfl (hb hby at_23) rfl (by decide) kq_) ?_
  refine hG _ s₁ _ (mkF m 26 #[.val (.long q1), .second, .val (.int p2), .val (.int p3), .val (.int p4), .val (.int p5), .val (.int ((p2 &&& (2147483647 : Int32)) % (10 : Int32))), .val (.int ((p3 &&& (2147483647 : Int32)) % (5 : Int32))), .val (.int ((p4 &&& (2147483647 : Int32)) % (5 : Int32))), .unset, .unset, .unset, .unset, .unset, .unset, .unset, .unset, .unset, .unset, .unset] []) (fun t kq_ => XS.istore X0.here hx rfl (hb hby at_24) rfl (l' := #[.val (.long q1), .second, .val (.int p2), .val (.int p3), .val (.int p4), .val (.int p5), .val (.int ((p2 &&& (2147483647 : Int32)) % (10 : Int32))), .val (.int ((p3 &&& (2147483647 : Int32)) % (5 : Int32))), .val (.int ((p4 &&& (2147483647 : Int32)) % (5 : Int32))), .unset, .unset, .unset, .unset, .unset, .unset, .unset, .unset, .unset, .unset, .unset]) rfl kq_) ?_
  refine hG _ s₁ _ (mkF m 28 #[.val (.long q1), .second, .val (.int p2), .val (.int p3), .val (.int p4), .val (.int p5), .val (.int ((p2 &&& (2147483647 : Int32)) % (10 : Int32))), .val (.int ((p3 &&& (2147483647 : Int32)) % (5 : Int32))), .val (.int ((p4 &&& (2147483647 : Int32)) % (5 : Int32))), .unset, .unset, .unset, .unset, .unset, .unset, .unset, .unset, .unset, .unset, .unset] [(.int p5)]) (fun t kq_ => XS.iload X0.here hx rfl (hb hby at_26) rfl kq_) ?_
  refine hG _ s₁ _ (mkF m 30 #[.val (.long q1), .second, .val (.int p2), .val (.int p3), .val (.int p4), .val (.int p5), .val (.int ((p2 &&& (2147483647 : Int32)) % (10 : Int32))), .val (.int ((p3 &&& (2147483647 : Int32)) % (5 : Int32))), .val (.int ((p4 &&& (2147483647 : Int32)) % (5 : Int32))), .unset, .unset, .unset, .unset, .unset, .unset, .unset, .unset, .unset, .unset, .unset] [(.int (2147483647 : Int32)), (.int p5)]) (X0.ldcInt hx hown (mvT hZ (tw0 hw)) (g := (mkF m 28 #[.val (.long q1), .second, .val (.int p2), .val (.int p3), .val (.int p4), .val (.int p5), .val (.int ((p2 &&& (2147483647 : Int32)) % (10 : Int32))), .val (.int ((p3 &&& (2147483647 : Int32)) % (5 : Int32))), .val (.int ((p4 &&& (2147483647 : Int32)) % (5 : Int32))), .unset, .unset, .unset, .unset, .unset, .unset, .unset, .unset, .unset, .unset, .unset] [(.int p5)])) rfl (hb hby at_28)) ?_
  refine hG _ s₁ _ (mkF m 31 #[.val (.long q1), .second, .val (.int p2), .val (.int p3), .val (.int p4), .val (.int p5), .val (.int ((p2 &&& (2147483647 : Int32)) % (10 : Int32))), .val (.int ((p3 &&& (2147483647 : Int32)) % (5 : Int32))), .val (.int ((p4 &&& (2147483647 : Int32)) % (5 : Int32))), .unset, .unset, .unset, .unset, .unset, .unset, .unset, .unset, .unset, .unset, .unset] [(.int (p5 &&& (2147483647 : Int32)))]) (fun t kq_ => XS.iand X0.here hx rfl (hb hby at_30) rfl kq_) ?_
  refine hG _ s₁ _ (mkF m 32 #[.val (.long q1), .second, .val (.int p2), .val (.int p3), .val (.int p4), .val (.int p5), .val (.int ((p2 &&& (2147483647 : Int32)) % (10 : Int32))), .val (.int ((p3 &&& (2147483647 : Int32)) % (5 : Int32))), .val (.int ((p4 &&& (2147483647 : Int32)) % (5 : Int32))), .unset, .unset, .unset, .unset, .unset, .unset, .unset, .unset, .unset, .unset, .unset] [(.int (5 : Int32)), (.int (p5 &&& (2147483647 : Int32)))]) (fun t kq_ => XS.iconst X0.here hx rfl (hb hby at_31) kq_) ?_
  refine hG _ s₁ _ (mkF m 33 #[.val (.long q1), .second, .val (.int p2), .val (.int p3), .val (.int p4), .val (.int p5), .val (.int ((p2 &&& (2147483647 : Int32)) % (10 : Int32))), .val (.int ((p3 &&& (2147483647 : Int32)) % (5 : Int32))), .val (.int ((p4 &&& (2147483647 : Int32)) % (5 : Int32))), .unset, .unset, .unset, .unset, .unset, .unset, .unset, .unset, .unset, .unset, .unset] [(.int ((p5 &&& (2147483647 : Int32)) % (5 : Int32)))]) (fun t kq_ => iremM X0 hx rfl (hb hby at_32) rfl (by decide) kq_) ?_
  refine hG _ s₁ _ (mkF m 35 #[.val (.long q1), .second, .val (.int p2), .val (.int p3), .val (.int p4), .val (.int p5), .val (.int ((p2 &&& (2147483647 : Int32)) % (10 : Int32))), .val (.int ((p3 &&& (2147483647 : Int32)) % (5 : Int32))), .val (.int ((p4 &&& (2147483647 : Int32)) % (5 : Int32))), .val (.int ((p5 &&& (2147483647 : Int32)) % (5 : Int32))), .unset, .unset, .unset, .unset, .unset, .unset, .unset, .unset, .unset, .unset] []) (fun t kq_ => XS.istore X0.here hx rfl (hb hby at_33) rfl (l' := #[.val (.long q1), .second, .val (.int p2), .val (.int p3), .val (.int p4), .val (.int p5), .val (.int ((p2 &&& (2147483647 : Int32)) % (10 : Int32))), .val (.int ((p3 &&& (2147483647 : Int32)) % (5 : Int32))), .val (.int ((p4 &&& (2147483647 : Int32)) % (5 : Int32))), .val (.int ((p5 &&& (2147483647 : Int32)) % (5 : Int32))), .unset, .unset, .unset, .unset, .unset, .unset, .unset, .unset, .unset, .unset]) rfl kq_) ?_
  obtain ⟨lm, hlm, llm⟩ := own_rem p2 (y := 10) (n := 10) rfl (by decide)
  obtain ⟨m1, hm1, lm1⟩ := own_rem p3 (y := 5) (n := 5) rfl (by decide)
  obtain ⟨m2, hm2, lm2⟩ := own_rem p4 (y := 5) (n := 5) rfl (by decide)
  obtain ⟨m3, hm3, lm3⟩ := own_rem p5 (y := 5) (n := 5) rfl (by decide)
  exact lw35 _ _ _ _ _ _ _ _ _ lm m1 m2 m3 X0 hx hZ hw hby hml hown e0 Z0 N0 hlk hrt hlm (by omega) hm1 hm2 hm3 (by omega) (by omega) (by omega)
set_option maxRecDepth 65536 in
set_option maxHeartbeats 40000000 in
theorem comes_1 {Post : Tables → Env → Array Value → State → Outcome → State → Prop} (hpost : ∀ tb e args s v u, (limb_1_1.after args s (.returned v) u = true ∧ limb_1_2.after args s (.returned v) u = true ∧ True) → FrameEnd s (.returned v) u (Jvm.fieldLocs frame_1_writes args s ++ Jvm.arrayLocs frame_1_arrays args s ++ Jvm.staticLocs frame_1_statics s) 32 192 → Post tb e args s (.returned v) u) :
    ArmFor flags0 classFile x code maxLocals ret World_1 tables_1 room_1 Calls_1 rest_1 Pre_1 Post := by
  intro l hfl _ _ p e ha hc hk s m args below hf hA hF happ hP
  obtain ⟨hcalls, hrest, hpre⟩ := hP
  obtain ⟨-, -, -, hnamed, -, -, -, hat⟩ := (Spec.applies_iff hf).mp happ
  obtain ⟨hg, hn⟩ := and_e (Cond.before_iff.mp (show (Jvm.Cond.and given_1 narrow_1).before args s = true from hpre))
  obtain ⟨g0, r0⟩ := and_e hg
  obtain ⟨a0, r1⟩ := and_e r0
  obtain ⟨a1, r2⟩ := and_e r1
  obtain ⟨a2, r3⟩ := and_e r2
  obtain ⟨a3, r4⟩ := and_e r3
  obtain ⟨w0, w1, w2, w3, w4, rfl⟩ : ∃ w0 w1 w2 w3 w4 : Value, args = #[w0, w1, w2, w3, w4] := by
    have hs : args.size = 5 := by simpa [Cond.value, given_1] using g0
    obtain ⟨L⟩ := args
    match L, hs with
    | [w0, w1, w2, w3, w4], _ => exact ⟨w0, w1, w2, w3, w4, rfl⟩
  have hw := fun d (hd : d ∈ tables_1) => atoms_spec (ws := Jvm.Cond.code x code maxLocals ret :: tables_1) hat d (List.mem_cons_of_mem _ hd)
  obtain ⟨i0, ei0⟩ := isL_v a0
  obtain rfl : w0 = (.long i0) := Option.some.inj ei0
  obtain ⟨i1, ei1⟩ := is_v a1
  obtain rfl : w1 = (.int i1) := Option.some.inj ei1
  obtain ⟨i2, ei2⟩ := is_v a2
  obtain rfl : w2 = (.int i2) := Option.some.inj ei2
  obtain ⟨i3, ei3⟩ := is_v a3
  obtain rfl : w3 = (.int i3) := Option.some.inj ei3
  obtain ⟨i4, ei4⟩ := is_v r4
  obtain rfl : w4 = (.int i4) := Option.some.inj ei4
  obtain ⟨n, o, h1, h2, h3, _, L, rfl, ⟨rfl, N⟩, hq⟩ := rm0 l s _ hw tables_1 i0 i1 i2 i3 i4 s.heap s.heap.size (Nat.le_refl _) p e ha hc hk s m _ below hf ((Spec.applies_iff_loose hf).mp happ).1 ⟨rfl, State.Warmed39.refl s, rfl⟩ trivial
  refine ⟨n, _, h1, h2, h3, hpost _ _ _ _ _ _ ⟨Cond.after_iff.mpr rfl, Cond.after_iff.mpr (eq_i res_at (Term.int_eval (1)) rfl), trivial⟩ ⟨hq.1, hq.2.1, (hq.2.2.sift fun y hy => Or.inr (N y hy)).mono (by decide) (by decide)⟩⟩
theorem main_1_1 : Claimed_1_1 := comes_1 fun _ _ _ _ _ _ h hF => ⟨h.1, hF⟩
theorem main_1_2 : Claimed_1_2 := comes_1 fun _ _ _ _ _ _ h hF => ⟨h.2.1, hF⟩
end Jvm.Pilot.@@N@@
namespace Jvm.Pilot.@@N@@
open Jvm Jvm.ClassFile Sem Op Lib Jvm.Free Jvm.Stand Jvm.Pilot.@@N@@.Jvm.D
/-! MADE BY PROGRAM (witnessworld.py) out of the Statement's table words and the real class files: 12 classes; the members and pool entries that the words name. The judged class is class 1, her method 3. -/
namespace start1
open Jvm.ClassFile
def u (s : String) : CpInfo := .utf8 (stringToUtf16 s)
/-- a pool by its gaps: so many unusable entries, then the entry; so many at the end -/
def gap : Nat → List CpInfo → List CpInfo
  | 0, r => r
  | n + 1, r => .unusable :: gap n r
def poolList (es : List (Nat × CpInfo)) (last : Nat) : List CpInfo := es.foldr (fun e r => gap e.1 (e.2 :: r)) (gap last [])
def pool (es : List (Nat × CpInfo)) (last : Nat) : Array CpInfo := ⟨poolList es last⟩
def fileOf (pool : Array CpInfo) (this : Nat) (attrs : Array Attribute := #[]) (ms : Array MethodInfo := #[]) (fl : Nat := 33) (sup : Nat := 0) (ifs : Array Nat := #[]) (fds : Array FieldInfo := #[]) : ClassFile where
  minorVersion := 0
  majorVersion := 65
  constantPool := pool
  accessFlags := fl
  thisClass := this
  superClass := sup
  interfaces := ifs
  fields := fds
  methods := ms
  attributes := attrs
def plain (name : String) (sup : Option ClassId) : Class where
  name := name
  kind := .ordinary
  loader := none
  accessFlags := 33
  super := sup
  interfaces := #[]
  cf := none
  fields := #[]
  methods := #[]
  instanceTypes := #[]
  staticTypes := #[]
  resolved := #[]
  callSites := []
  init := .initialized
  statics := none
  mirror := none

def pool0 : Array CpInfo := pool [(5, u "<init>"), (0, u "()V"), (1, .class_ 10), (1, u "java/lang/Object"), (85, u "clone"), (0, u "()Ljava/lang/Object;")] 26

def k0c0 : Code := { maxStack := 0, maxLocals := 1, code := object_method_1_code, exceptionTable := #[], attributes := #[] }
def k0m0 : Method := { name := "<init>", desc := "()V", sig := { parameters := [], returnType := none }, accessFlags := 1, code := some k0c0 }
def k0m1 : Method := { name := "clone", desc := "()Ljava/lang/Object;", sig := { parameters := [], returnType := some (.object "java/lang/Object") }, accessFlags := 260, code := none }
/-- java/lang/Object -/
def k0 : Class := { plain "java/lang/Object" none with
  accessFlags := 33
  interfaces := #[]
  cf := some (fileOf pool0 8 #[] #[{ accessFlags := 1, nameIndex := 5, descriptorIndex := 6, attributes := #[] }, { accessFlags := 260, nameIndex := 96, descriptorIndex := 97, attributes := #[] }] 33 0 #[] #[])
  fields := #[]
  methods := #[k0m0, k0m1]
  instanceTypes := #[]
  staticTypes := #[]
  resolved := Array.replicate 124 none
  statics := none }

def pool1 : Array CpInfo := pool [(2, .class_ 4), (1, u "java/lang/Object"), (0, u "<init>"), (0, u "()V"), (0, .methodref 8 9), (0, .class_ 10), (0, .nameAndType 11 12), (0, u "com/example/tools_to_sandbox/toolstosandbox/service/OutputCaptureToByteArrayPinLaw"), (0, u "exp"), (0, u "(III[B[B)B"), (0, .integer 2147483647), (0, .class_ 15), (0, u "com/example/tools_to_sandbox/toolstosandbox/service/OutputCapture"), (0, .methodref 14 17), (0, .nameAndType 5 18), (0, u "(I)V"), (0, .methodref 14 20), (0, .nameAndType 21 22), (0, u "keep"), (0, u "([BI)V"), (0, .methodref 24 25), (0, .class_ 26), (0, .nameAndType 27 28), (0, u "java/lang/Math"), (0, u "min"), (0, u "(II)I"), (0, .methodref 14 30), (0, .nameAndType 31 32), (0, u "toByteArray"), (0, u "()[B"), (0, .methodref 8 34), (0, .nameAndType 35 36), (0, u "at"), (0, u "([BIII[B[B)Z"), (3, u "law"), (0, u "(JIIII)Z")] 4

def k1m0 : Method := { name := "<init>", desc := "()V", sig := { parameters := [], returnType := none }, accessFlags := 1, code := none }
def k1c1 : Code := { maxStack := 3, maxLocals := 5, code := method_2_code, exceptionTable := #[], attributes := #[] }
def k1m1 : Method := { name := "exp", desc := "(III[B[B)B", sig := { parameters := [.int, .int, .int, (.array .byte), (.array .byte)], returnType := some .byte }, accessFlags := 10, code := some k1c1 }
def k1c2 : Code := { maxStack := 6, maxLocals := 6, code := method_3_code, exceptionTable := #[], attributes := #[] }
def k1m2 : Method := { name := "at", desc := "([BIII[B[B)Z", sig := { parameters := [(.array .byte), .int, .int, .int, (.array .byte), (.array .byte)], returnType := some .boolean }, accessFlags := 10, code := some k1c2 }
def k1c3 : Code := { maxStack := 6, maxLocals := 20, code := code, exceptionTable := #[], attributes := #[] }
def k1m3 : Method := { name := "law", desc := "(JIIII)Z", sig := { parameters := [.long, .int, .int, .int, .int], returnType := some .boolean }, accessFlags := 9, code := some k1c3 }
/-- com/example/tools_to_sandbox/toolstosandbox/service/OutputCaptureToByteArrayPinLaw -/
def k1 : Class := { plain "com/example/tools_to_sandbox/toolstosandbox/service/OutputCaptureToByteArrayPinLaw" (some 0) with
  accessFlags := 49
  interfaces := #[]
  cf := some (fileOf pool1 8 #[] #[{ accessFlags := 1, nameIndex := 5, descriptorIndex := 6, attributes := #[] }, { accessFlags := 10, nameIndex := 11, descriptorIndex := 12, attributes := #[] }, { accessFlags := 10, nameIndex := 35, descriptorIndex := 36, attributes := #[] }, { accessFlags := 9, nameIndex := 40, descriptorIndex := 41, attributes := #[] }] 49 2 #[] #[])
  fields := #[]
  methods := #[k1m0, k1m1, k1m2, k1m3]
  instanceTypes := #[]
  staticTypes := #[]
  resolved := Array.replicate 46 none
  statics := none }

def pool2 : Array CpInfo := pool [(1, .methodref 2 3), (0, .class_ 4), (0, .nameAndType 5 6), (0, u "java/lang/Object"), (0, u "<init>"), (0, u "()V"), (0, .fieldref 8 9), (0, .class_ 10), (0, .nameAndType 11 12), (0, u "com/example/tools_to_sandbox/toolstosandbox/service/OutputCapture"), (0, u "bytes"), (0, u "[B"), (9, .fieldref 8 23), (0, .nameAndType 24 25), (0, u "limit"), (0, u "I"), (0, .fieldref 8 27), (0, .nameAndType 28 25), (0, u "size"), (0, .methodref 30 31), (0, .class_ 32), (0, .nameAndType 33 34), (0, u "java/lang/Math"), (0, u "min"), (0, u "(II)I"), (0, .fieldref 8 36), (0, .nameAndType 37 38), (0, u "truncated"), (0, u "Z"), (0, .methodref 8 40), (0, .nameAndType 41 42), (0, u "grow"), (0, u "(I)V"), (0, .methodref 44 45), (0, .class_ 46), (0, .nameAndType 47 48), (0, u "java/lang/System"), (0, u "arraycopy"), (0, u "(Ljava/lang/Object;ILjava/lang/Object;II)V"), (0, .methodref 50 51), (0, .class_ 52), (0, .nameAndType 53 54), (0, u "java/util/Arrays"), (0, u "copyOf"), (0, u "([BI)[B"), (0, .long 2), (1, .methodref 30 58), (0, .nameAndType 59 60), (0, u "max"), (0, u "(JJ)J"), (0, .methodref 30 62), (0, .nameAndType 33 60), (3, u "keep"), (0, u "([BI)V"), (0, u "toByteArray"), (0, u "()[B")] 18

def k2c0 : Code := { maxStack := 3, maxLocals := 2, code := prog_89_method_1_code, exceptionTable := #[], attributes := #[] }
def k2m0 : Method := { name := "<init>", desc := "(I)V", sig := { parameters := [.int], returnType := none }, accessFlags := 0, code := some k2c0 }
def k2c1 : Code := { maxStack := 5, maxLocals := 4, code := prog_89_method_2_code, exceptionTable := #[], attributes := #[] }
def k2m1 : Method := { name := "keep", desc := "([BI)V", sig := { parameters := [(.array .byte), .int], returnType := none }, accessFlags := 0, code := some k2c1 }
def k2c2 : Code := { maxStack := 2, maxLocals := 1, code := prog_89_method_3_code, exceptionTable := #[], attributes := #[] }
def k2m2 : Method := { name := "toByteArray", desc := "()[B", sig := { parameters := [], returnType := some (.array .byte) }, accessFlags := 0, code := some k2c2 }
def k2c3 : Code := { maxStack := 4, maxLocals := 5, code := prog_89_method_5_code, exceptionTable := #[], attributes := #[] }
def k2m3 : Method := { name := "grow", desc := "(I)V", sig := { parameters := [.int], returnType := none }, accessFlags := 2, code := some k2c3 }
/-- com/example/tools_to_sandbox/toolstosandbox/service/OutputCapture -/
def k2 : Class := { plain "com/example/tools_to_sandbox/toolstosandbox/service/OutputCapture" (some 0) with
  accessFlags := 48
  interfaces := #[]
  cf := some (fileOf pool2 8 #[] #[{ accessFlags := 0, nameIndex := 5, descriptorIndex := 42, attributes := #[] }, { accessFlags := 0, nameIndex := 66, descriptorIndex := 67, attributes := #[] }, { accessFlags := 0, nameIndex := 68, descriptorIndex := 69, attributes := #[] }, { accessFlags := 2, nameIndex := 41, descriptorIndex := 42, attributes := #[] }] 48 2 #[] #[{ accessFlags := 18, nameIndex := 24, descriptorIndex := 25, attributes := #[] }, { accessFlags := 2, nameIndex := 11, descriptorIndex := 12, attributes := #[] }, { accessFlags := 2, nameIndex := 28, descriptorIndex := 25, attributes := #[] }, { accessFlags := 2, nameIndex := 37, descriptorIndex := 38, attributes := #[] }])
  fields := #[{ name := "limit", type := .int, accessFlags := 18, slot := 0, constantValue := 0 }, { name := "bytes", type := (.array .byte), accessFlags := 2, slot := 1, constantValue := 0 }, { name := "size", type := .int, accessFlags := 2, slot := 2, constantValue := 0 }, { name := "truncated", type := .boolean, accessFlags := 2, slot := 3, constantValue := 0 }]
  methods := #[k2m0, k2m1, k2m2, k2m3]
  instanceTypes := #[.int, (.array .byte), .int, .boolean]
  staticTypes := #[]
  resolved := Array.replicate 88 none
  statics := none }

def pool3 : Array CpInfo := pool [(1, .class_ 2), (0, u "java/lang/Math"), (1, .class_ 6), (1, u "java/lang/Object"), (0, u "<init>"), (0, u "()V"), (89, .class_ 100), (1, u "java/lang/Math$RandomNumberGeneratorHolder"), (20, u "(JJ)J"), (50, u "negativeZeroFloatBits"), (0, u "J"), (2, u "negativeZeroDoubleBits"), (21, u "max"), (2, u "min"), (43, u "$assertionsDisabled"), (0, u "Z"), (88, u "(II)I"), (2, u "twoToTheDoubleScaleDown"), (0, u "D"), (4, u "twoToTheDoubleScaleUp"), (9, u "E"), (3, u "PI"), (2, u "TAU"), (2, u "DEGREES_TO_RADIANS"), (0, u "RADIANS_TO_DEGREES")] 94

def k3m0 : Method := { name := "<init>", desc := "()V", sig := { parameters := [], returnType := none }, accessFlags := 2, code := none }
def k3c1 : Code := { maxStack := 4, maxLocals := 4, code := jdk_29_method_66_code, exceptionTable := #[], attributes := #[] }
def k3m1 : Method := { name := "max", desc := "(JJ)J", sig := { parameters := [.long, .long], returnType := some .long }, accessFlags := 9, code := some k3c1 }
def k3c2 : Code := { maxStack := 2, maxLocals := 2, code := jdk_29_method_69_code, exceptionTable := #[], attributes := #[] }
def k3m2 : Method := { name := "min", desc := "(II)I", sig := { parameters := [.int, .int], returnType := some .int }, accessFlags := 9, code := some k3c2 }
def k3c3 : Code := { maxStack := 4, maxLocals := 4, code := jdk_29_method_70_code, exceptionTable := #[], attributes := #[] }
def k3m3 : Method := { name := "min", desc := "(JJ)J", sig := { parameters := [.long, .long], returnType := some .long }, accessFlags := 9, code := some k3c3 }
/-- java/lang/Math -/
def k3 : Class := { plain "java/lang/Math" (some 0) with
  accessFlags := 49
  interfaces := #[]
  cf := some (fileOf pool3 1 #[.nestMembers #[98]] #[{ accessFlags := 2, nameIndex := 7, descriptorIndex := 8, attributes := #[] }, { accessFlags := 9, nameIndex := 198, descriptorIndex := 121, attributes := #[] }, { accessFlags := 9, nameIndex := 201, descriptorIndex := 335, attributes := #[] }, { accessFlags := 9, nameIndex := 201, descriptorIndex := 121, attributes := #[] }] 49 4 #[] #[{ accessFlags := 25, nameIndex := 354, descriptorIndex := 339, attributes := #[] }, { accessFlags := 25, nameIndex := 358, descriptorIndex := 339, attributes := #[] }, { accessFlags := 25, nameIndex := 361, descriptorIndex := 339, attributes := #[] }, { accessFlags := 26, nameIndex := 364, descriptorIndex := 339, attributes := #[] }, { accessFlags := 26, nameIndex := 365, descriptorIndex := 339, attributes := #[] }, { accessFlags := 26, nameIndex := 172, descriptorIndex := 173, attributes := #[] }, { accessFlags := 26, nameIndex := 176, descriptorIndex := 173, attributes := #[] }, { accessFlags := 8, nameIndex := 344, descriptorIndex := 339, attributes := #[] }, { accessFlags := 8, nameIndex := 338, descriptorIndex := 339, attributes := #[] }, { accessFlags := 4120, nameIndex := 245, descriptorIndex := 246, attributes := #[] }])
  fields := #[{ name := "E", type := .double, accessFlags := 25, slot := 0, constantValue := 0 }, { name := "PI", type := .double, accessFlags := 25, slot := 1, constantValue := 0 }, { name := "TAU", type := .double, accessFlags := 25, slot := 2, constantValue := 0 }, { name := "DEGREES_TO_RADIANS", type := .double, accessFlags := 26, slot := 3, constantValue := 0 }, { name := "RADIANS_TO_DEGREES", type := .double, accessFlags := 26, slot := 4, constantValue := 0 }, { name := "negativeZeroFloatBits", type := .long, accessFlags := 26, slot := 5, constantValue := 0 }, { name := "negativeZeroDoubleBits", type := .long, accessFlags := 26, slot := 6, constantValue := 0 }, { name := "twoToTheDoubleScaleUp", type := .double, accessFlags := 8, slot := 7, constantValue := 0 }, { name := "twoToTheDoubleScaleDown", type := .double, accessFlags := 8, slot := 8, constantValue := 0 }, { name := "$assertionsDisabled", type := .boolean, accessFlags := 4120, slot := 9, constantValue := 0 }]
  methods := #[k3m0, k3m1, k3m2, k3m3]
  instanceTypes := #[]
  staticTypes := #[.double, .double, .double, .double, .double, .long, .long, .double, .double, .boolean]
  resolved := Array.replicate 460 none
  statics := none }

def pool4 : Array CpInfo := pool [(2, .class_ 4), (1, u "java/lang/Object"), (0, u "<init>"), (0, u "()V"), (7, .class_ 16), (1, u "java/util/Arrays"), (57, .class_ 76), (1, u "java/util/Arrays$NaturalOrder"), (32, u "()Ljava/lang/Object;"), (3, .class_ 115), (1, u "java/util/Arrays$LegacyMergeSort"), (1, u "Z"), (10, .nameAndType 129 109), (0, u "clone"), (20, .methodref 151 152), (0, .class_ 153), (0, .nameAndType 154 155), (0, u "java/lang/System"), (0, u "arraycopy"), (0, u "(Ljava/lang/Object;ILjava/lang/Object;II)V"), (146, u "copyOf"), (1, .methodref 305 306), (0, .class_ 307), (0, .nameAndType 308 309), (0, u "java/lang/Math"), (0, u "min"), (0, u "(II)I"), (0, .methodref 311 128), (0, .class_ 312), (0, u "[B"), (62, .class_ 376), (0, u "java/util/Arrays$ArrayList"), (68, u "$assertionsDisabled"), (269, u "MIN_ARRAY_SORT_GRAN"), (0, u "I"), (2, u "INSERTIONSORT_THRESHOLD"), (149, u "([BI)[B"), (105, .class_ 976), (0, u "java/util/Arrays$ArrayItr")] 52

def k4m0 : Method := { name := "<init>", desc := "()V", sig := { parameters := [], returnType := none }, accessFlags := 2, code := none }
def k4c1 : Code := { maxStack := 6, maxLocals := 3, code := jdk_65_method_121_code, exceptionTable := #[], attributes := #[] }
def k4m1 : Method := { name := "copyOf", desc := "([BI)[B", sig := { parameters := [(.array .byte), .int], returnType := some (.array .byte) }, accessFlags := 9, code := some k4c1 }
/-- java/util/Arrays -/
def k4 : Class := { plain "java/util/Arrays" (some 0) with
  accessFlags := 49
  interfaces := #[]
  cf := some (fileOf pool4 14 #[.nestMembers #[975, 375, 113, 74]] #[{ accessFlags := 2, nameIndex := 5, descriptorIndex := 6, attributes := #[] }, { accessFlags := 9, nameIndex := 302, descriptorIndex := 869, attributes := #[] }] 49 2 #[] #[{ accessFlags := 26, nameIndex := 715, descriptorIndex := 716, attributes := #[] }, { accessFlags := 26, nameIndex := 719, descriptorIndex := 716, attributes := #[] }, { accessFlags := 4120, nameIndex := 445, descriptorIndex := 117, attributes := #[] }])
  fields := #[{ name := "MIN_ARRAY_SORT_GRAN", type := .int, accessFlags := 26, slot := 0, constantValue := 0 }, { name := "INSERTIONSORT_THRESHOLD", type := .int, accessFlags := 26, slot := 1, constantValue := 0 }, { name := "$assertionsDisabled", type := .boolean, accessFlags := 4120, slot := 2, constantValue := 0 }]
  methods := #[k4m0, k4m1]
  instanceTypes := #[]
  staticTypes := #[.int, .int, .boolean]
  resolved := Array.replicate 1029 none
  statics := none }

def pool5 : Array CpInfo := pool [(2, .class_ 4), (1, u "java/lang/Object"), (0, u "<init>"), (0, u "()V"), (1, .class_ 10), (1, u "java/lang/System"), (0, u "allowSecurityManager"), (0, u "I"), (16, u "cons"), (0, u "Ljava/io/Console;"), (77, .class_ 110), (1, u "java/lang/System$CallersHolder"), (43, u "initialErrStream"), (0, u "Ljava/io/PrintStream;"), (19, u "security"), (0, u "Ljava/lang/SecurityManager;"), (31, .class_ 209), (0, u "java/lang/System$1"), (7, u "props"), (0, u "Ljava/util/Properties;"), (2, u "lineSeparator"), (0, u "Ljava/lang/String;"), (96, .class_ 321), (1, u "java/lang/System$LoggerFinder"), (5, .class_ 328), (0, u "java/lang/System$Logger"), (67, u "err"), (2, u "out"), (91, u "notSupportedJnuEncoding"), (15, u "in"), (17, u "initialIn"), (0, u "Ljava/io/InputStream;"), (35, u "bootLayer"), (0, u "Ljava/lang/ModuleLayer;"), (99, .class_ 664), (0, u "java/lang/System$2"), (9, u "NEVER"), (2, u "MAYBE"), (49, u "arraycopy"), (0, u "(Ljava/lang/Object;ILjava/lang/Object;II)V"), (72, .class_ 802), (0, u "java/lang/System$Logger$Level")] 31

def k5m0 : Method := { name := "<init>", desc := "()V", sig := { parameters := [], returnType := none }, accessFlags := 2, code := none }
def k5m1 : Method := { name := "arraycopy", desc := "(Ljava/lang/Object;ILjava/lang/Object;II)V", sig := { parameters := [(.object "java/lang/Object"), .int, (.object "java/lang/Object"), .int, .int], returnType := none }, accessFlags := 265, code := none }
/-- java/lang/System -/
def k5 : Class := { plain "java/lang/System" (some 0) with
  accessFlags := 49
  interfaces := #[]
  cf := some (fileOf pool5 8 #[.nestMembers #[319, 327, 801, 108, 663, 208]] #[{ accessFlags := 2, nameIndex := 5, descriptorIndex := 6, attributes := #[] }, { accessFlags := 265, nameIndex := 727, descriptorIndex := 728, attributes := #[] }] 49 2 #[] #[{ accessFlags := 25, nameIndex := 507, descriptorIndex := 526, attributes := #[] }, { accessFlags := 25, nameIndex := 399, descriptorIndex := 155, attributes := #[] }, { accessFlags := 25, nameIndex := 396, descriptorIndex := 155, attributes := #[] }, { accessFlags := 10, nameIndex := 525, descriptorIndex := 526, attributes := #[] }, { accessFlags := 26, nameIndex := 674, descriptorIndex := 12, attributes := #[] }, { accessFlags := 26, nameIndex := 677, descriptorIndex := 12, attributes := #[] }, { accessFlags := 10, nameIndex := 11, descriptorIndex := 12, attributes := #[] }, { accessFlags := 74, nameIndex := 175, descriptorIndex := 176, attributes := #[] }, { accessFlags := 10, nameIndex := 491, descriptorIndex := 222, attributes := #[] }, { accessFlags := 74, nameIndex := 29, descriptorIndex := 30, attributes := #[] }, { accessFlags := 74, nameIndex := 154, descriptorIndex := 155, attributes := #[] }, { accessFlags := 10, nameIndex := 217, descriptorIndex := 218, attributes := #[] }, { accessFlags := 10, nameIndex := 221, descriptorIndex := 222, attributes := #[] }, { accessFlags := 8, nameIndex := 562, descriptorIndex := 563, attributes := #[] }])
  fields := #[{ name := "in", type := (.object "java/io/InputStream"), accessFlags := 25, slot := 0, constantValue := 0 }, { name := "out", type := (.object "java/io/PrintStream"), accessFlags := 25, slot := 1, constantValue := 0 }, { name := "err", type := (.object "java/io/PrintStream"), accessFlags := 25, slot := 2, constantValue := 0 }, { name := "initialIn", type := (.object "java/io/InputStream"), accessFlags := 10, slot := 3, constantValue := 0 }, { name := "NEVER", type := .int, accessFlags := 26, slot := 4, constantValue := 0 }, { name := "MAYBE", type := .int, accessFlags := 26, slot := 5, constantValue := 0 }, { name := "allowSecurityManager", type := .int, accessFlags := 10, slot := 6, constantValue := 0 }, { name := "security", type := (.object "java/lang/SecurityManager"), accessFlags := 74, slot := 7, constantValue := 0 }, { name := "notSupportedJnuEncoding", type := (.object "java/lang/String"), accessFlags := 10, slot := 8, constantValue := 0 }, { name := "cons", type := (.object "java/io/Console"), accessFlags := 74, slot := 9, constantValue := 0 }, { name := "initialErrStream", type := (.object "java/io/PrintStream"), accessFlags := 74, slot := 10, constantValue := 0 }, { name := "props", type := (.object "java/util/Properties"), accessFlags := 10, slot := 11, constantValue := 0 }, { name := "lineSeparator", type := (.object "java/lang/String"), accessFlags := 10, slot := 12, constantValue := 0 }, { name := "bootLayer", type := (.object "java/lang/ModuleLayer"), accessFlags := 8, slot := 13, constantValue := 0 }]
  methods := #[k5m0, k5m1]
  instanceTypes := #[]
  staticTypes := #[(.object "java/io/InputStream"), (.object "java/io/PrintStream"), (.object "java/io/PrintStream"), (.object "java/io/InputStream"), .int, .int, .int, (.object "java/lang/SecurityManager"), (.object "java/lang/String"), (.object "java/io/Console"), (.object "java/io/PrintStream"), (.object "java/util/Properties"), (.object "java/lang/String"), (.object "java/lang/ModuleLayer")]
  resolved := Array.replicate 834 none
  statics := none }

def pool6 : Array CpInfo := pool [(1, .class_ 2), (0, u "java/lang/Cloneable"), (0, .class_ 4), (0, u "java/lang/Object")] 2

/-- java/lang/Cloneable -/
def k6 : Class := { plain "java/lang/Cloneable" (some 0) with
  accessFlags := 1537
  interfaces := #[]
  cf := some (fileOf pool6 1 #[] #[] 1537 3 #[] #[])
  fields := #[]
  methods := #[]
  instanceTypes := #[]
  staticTypes := #[]
  resolved := Array.replicate 7 none
  statics := none }

def pool7 : Array CpInfo := pool [(1, u "java/io/Serializable"), (0, .class_ 1), (0, u "java/lang/Object"), (0, .class_ 3)] 3

/-- java/io/Serializable -/
def k7 : Class := { plain "java/io/Serializable" (some 0) with
  accessFlags := 1537
  interfaces := #[]
  cf := some (fileOf pool7 2 #[] #[] 1537 4 #[] #[])
  fields := #[]
  methods := #[]
  instanceTypes := #[]
  staticTypes := #[]
  resolved := Array.replicate 8 none
  statics := none }

/-- the primitive byte -/
def k8 : Class := { plain "byte" none with kind := .primitive 'B', accessFlags := 0x411 }
/-- [B -/
def k9 : Class := { plain "[B" (some 0) with kind := .array 8 .byte, interfaces := #[6, 7], accessFlags := 1041 }

/-- the primitive int -/
def k10 : Class := { plain "int" none with kind := .primitive 'I', accessFlags := 0x411 }
/-- [I -/
def k11 : Class := { plain "[I" (some 0) with kind := .array 10 .int, interfaces := #[6, 7], accessFlags := 1041 }

def heap : Heap := #[]
def classes : Array Class := #[k0, k1, k2, k3, k4, k5, k6, k7, k8, k9, k10, k11]
def interned : List (Array UInt16 × Addr) := []
def slotsUsed : Nat := 0
def theMethod : MethodId := ⟨1, 3⟩
def args0 : Array Value := #[.long 5, .int 7, .int 3, .int 2, .int 4]
def aboutOver (below : List Frame) : State where
  vm := { classes := classes, interned := interned.toArray }
  heap := heap
  slotsUsed := slotsUsed
  threads := #[{ frames := .invoking theMethod args0 :: below }]
def below0 : List Frame := [.native { method := ⟨0, 0⟩, args := #[] }]
def about1 : State := aboutOver below0
def p0 : Program := .bare "" "" ""
def e0 : Env := launch0.env 0 0 0
theorem w_frames : about1.frames = Frame.invoking theMethod args0 :: below0 := rfl
set_option maxRecDepth 65536 in
theorem w_args : argsFit about1.vm theMethod args0 = true := by decide +kernel
set_option maxRecDepth 65536 in
theorem w_heap : heapFits about1 = true := by decide +kernel
set_option maxRecDepth 65536 in
theorem w_runnable : about1.curStatus? = some .runnable := by decide +kernel
set_option maxRecDepth 65536 in
theorem w_alone : about1.alone = true := by decide +kernel
set_option maxRecDepth 65536 in
theorem w_named : about1.methodNamed? x = some theMethod := by decide +kernel
set_option maxRecDepth 65536 in
theorem w_hears : about1.hears theMethod below0 = true := by decide +kernel
set_option maxRecDepth 65536 in
theorem w_ripe : about1.ripe theMethod args0 below0 = true := by decide +kernel
theorem w_running : about1.status = .running := rfl
set_option maxRecDepth 65536 in
theorem w_room : about1.hasRoom e0.platform room_1 = true :=
  launch0.hasRoom_least _ room_1 (by decide +kernel) (by decide +kernel) (by decide +kernel) (by decide +kernel) (by decide +kernel) (by decide +kernel)
theorem allAtoms_all (ts : List Jvm.Cond) (a : Array Jvm.Value) (st : Jvm.State) : (allAtoms ts).before a st = ts.all (fun c => c.before a st) := by
  induction ts with
  | nil => rfl
  | cons c t ih =>
    show (Jvm.Cond.and c (allAtoms t)).before a st = _
    rw [Jvm.Cond.before_and, ih, List.all_cons]
def words1 : List Jvm.Cond := Jvm.Cond.code x code maxLocals ret :: tables_1
/-- a 'code' word, met by the world's own term for the bytes: nothing is compared byte by byte -/
theorem code_word {y : MethodName} {bytes : ByteArray} {mx : Nat} {rt : Option FieldType} {a : Array Value} {s : State} {m : MethodId} {meth : Method} {c : Code} (h1 : s.methodNamed? y = some m) (h2 : s.vm.method? m = some meth) (h3 : meth.code = some c) (h4 : c.code = bytes)
    (h5 : (c.maxLocals == mx && c.exceptionTable.isEmpty && decide (c.maxStack ≤ mostOperands) && decide (meth.sig.returnType = rt) && !meth.locks && decide (parseMethodDescriptor y.desc = some meth.sig)) = true) : (Jvm.Cond.code y bytes mx rt).before a s = true := by
  simp only [Bool.and_eq_true, beq_iff_eq, Bool.not_eq_true', decide_eq_true_eq] at h5
  obtain ⟨⟨⟨⟨⟨g1, g2⟩, g3⟩, g4⟩, g5⟩, g6⟩ := h5
  simp [Cond.before, Cond.holds, Cond.value, h1, h2, h3, h4, g1, g2, g3, g4, g5, g6]
def isCode : Jvm.Cond → Bool
  | .code _ _ _ _ => true
  | _ => false
theorem all_split {L : List Jvm.Cond} {P : Jvm.Cond → Bool} (h1 : L.all (fun c => isCode c || P c) = true) (h2 : ∀ c ∈ L.filter isCode, P c = true) : L.all P = true := by
  refine List.all_eq_true.mpr fun c hc => ?_
  have h := List.all_eq_true.mp h1 c hc
  rcases Bool.eq_false_or_eq_true (isCode c) with hi | hi
  · exact h2 c (List.mem_filter.mpr ⟨hc, hi⟩)
  · simpa [hi] using h
set_option maxRecDepth 65536 in
theorem w_c0 : (Jvm.Cond.code x code maxLocals ret).before args0 about1 = true := code_word (m := ⟨1, 3⟩) (meth := k1m3) (c := k1c3) (by decide +kernel) rfl rfl rfl (by decide +kernel)
set_option maxRecDepth 65536 in
theorem w_c1 : (Jvm.Cond.code ({ cls := "com/example/tools_to_sandbox/toolstosandbox/service/OutputCapture", name := "<init>", desc := "(I)V" } : Jvm.MethodName) prog_89_method_1_code (2 : Nat) (Option.none : Option Jvm.ClassFile.FieldType)).before args0 about1 = true := code_word (m := ⟨2, 0⟩) (meth := k2m0) (c := k2c0) (by decide +kernel) rfl rfl rfl (by decide +kernel)
set_option maxRecDepth 65536 in
theorem w_c2 : (Jvm.Cond.code ({ cls := "java/lang/Object", name := "<init>", desc := "()V" } : Jvm.MethodName) object_method_1_code (1 : Nat) (Option.none : Option Jvm.ClassFile.FieldType)).before args0 about1 = true := code_word (m := ⟨0, 0⟩) (meth := k0m0) (c := k0c0) (by decide +kernel) rfl rfl rfl (by decide +kernel)
set_option maxRecDepth 65536 in
theorem w_c3 : (Jvm.Cond.code ({ cls := "com/example/tools_to_sandbox/toolstosandbox/service/OutputCapture", name := "keep", desc := "([BI)V" } : Jvm.MethodName) prog_89_method_2_code (4 : Nat) (Option.none : Option Jvm.ClassFile.FieldType)).before args0 about1 = true := code_word (m := ⟨2, 1⟩) (meth := k2m1) (c := k2c1) (by decide +kernel) rfl rfl rfl (by decide +kernel)
set_option maxRecDepth 65536 in
theorem w_c4 : (Jvm.Cond.code ({ cls := "java/lang/Math", name := "min", desc := "(II)I" } : Jvm.MethodName) jdk_29_method_69_code (2 : Nat) (Option.some Jvm.ClassFile.FieldType.int)).before args0 about1 = true := code_word (m := ⟨3, 2⟩) (meth := k3m2) (c := k3c2) (by decide +kernel) rfl rfl rfl (by decide +kernel)
set_option maxRecDepth 65536 in
theorem w_c5 : (Jvm.Cond.code ({ cls := "com/example/tools_to_sandbox/toolstosandbox/service/OutputCapture", name := "grow", desc := "(I)V" } : Jvm.MethodName) prog_89_method_5_code (5 : Nat) (Option.none : Option Jvm.ClassFile.FieldType)).before args0 about1 = true := code_word (m := ⟨2, 3⟩) (meth := k2m3) (c := k2c3) (by decide +kernel) rfl rfl rfl (by decide +kernel)
set_option maxRecDepth 65536 in
theorem w_c6 : (Jvm.Cond.code ({ cls := "java/lang/Math", name := "max", desc := "(JJ)J" } : Jvm.MethodName) jdk_29_method_66_code (4 : Nat) (Option.some Jvm.ClassFile.FieldType.long)).before args0 about1 = true := code_word (m := ⟨3, 1⟩) (meth := k3m1) (c := k3c1) (by decide +kernel) rfl rfl rfl (by decide +kernel)
set_option maxRecDepth 65536 in
theorem w_c7 : (Jvm.Cond.code ({ cls := "java/lang/Math", name := "min", desc := "(JJ)J" } : Jvm.MethodName) jdk_29_method_70_code (4 : Nat) (Option.some Jvm.ClassFile.FieldType.long)).before args0 about1 = true := code_word (m := ⟨3, 3⟩) (meth := k3m3) (c := k3c3) (by decide +kernel) rfl rfl rfl (by decide +kernel)
set_option maxRecDepth 65536 in
theorem w_c8 : (Jvm.Cond.code ({ cls := "java/util/Arrays", name := "copyOf", desc := "([BI)[B" } : Jvm.MethodName) jdk_65_method_121_code (3 : Nat) (Option.some (Jvm.ClassFile.FieldType.array Jvm.ClassFile.FieldType.byte))).before args0 about1 = true := code_word (m := ⟨4, 1⟩) (meth := k4m1) (c := k4c1) (by decide +kernel) rfl rfl rfl (by decide +kernel)
set_option maxRecDepth 65536 in
theorem w_c9 : (Jvm.Cond.code ({ cls := "com/example/tools_to_sandbox/toolstosandbox/service/OutputCapture", name := "toByteArray", desc := "()[B" } : Jvm.MethodName) prog_89_method_3_code (1 : Nat) (Option.some (Jvm.ClassFile.FieldType.array Jvm.ClassFile.FieldType.byte))).before args0 about1 = true := code_word (m := ⟨2, 2⟩) (meth := k2m2) (c := k2c2) (by decide +kernel) rfl rfl rfl (by decide +kernel)
set_option maxRecDepth 65536 in
theorem w_c10 : (Jvm.Cond.code ({ cls := "com/example/tools_to_sandbox/toolstosandbox/service/OutputCaptureToByteArrayPinLaw", name := "at", desc := "([BIII[B[B)Z" } : Jvm.MethodName) method_3_code (6 : Nat) (Option.some Jvm.ClassFile.FieldType.boolean)).before args0 about1 = true := code_word (m := ⟨1, 2⟩) (meth := k1m2) (c := k1c2) (by decide +kernel) rfl rfl rfl (by decide +kernel)
set_option maxRecDepth 65536 in
theorem w_c11 : (Jvm.Cond.code ({ cls := "com/example/tools_to_sandbox/toolstosandbox/service/OutputCaptureToByteArrayPinLaw", name := "exp", desc := "(III[B[B)B" } : Jvm.MethodName) method_2_code (5 : Nat) (Option.some Jvm.ClassFile.FieldType.byte)).before args0 about1 = true := code_word (m := ⟨1, 1⟩) (meth := k1m1) (c := k1c1) (by decide +kernel) rfl rfl rfl (by decide +kernel)
def codes1 : List Jvm.Cond := [Jvm.Cond.code x code maxLocals ret, Jvm.Cond.code ({ cls := "com/example/tools_to_sandbox/toolstosandbox/service/OutputCapture", name := "<init>", desc := "(I)V" } : Jvm.MethodName) prog_89_method_1_code (2 : Nat) (Option.none : Option Jvm.ClassFile.FieldType), Jvm.Cond.code ({ cls := "java/lang/Object", name := "<init>", desc := "()V" } : Jvm.MethodName) object_method_1_code (1 : Nat) (Option.none : Option Jvm.ClassFile.FieldType), Jvm.Cond.code ({ cls := "com/example/tools_to_sandbox/toolstosandbox/service/OutputCapture", name := "keep", desc := "([BI)V" } : Jvm.MethodName) prog_89_method_2_code (4 : Nat) (Option.none : Option Jvm.ClassFile.FieldType), Jvm.Cond.code ({ cls := "java/lang/Math", name := "min", desc := "(II)I" } : Jvm.MethodName) jdk_29_method_69_code (2 : Nat) (Option.some Jvm.ClassFile.FieldType.int), Jvm.Cond.code ({ cls := "com/example/tools_to_sandbox/toolstosandbox/service/OutputCapture", name := "grow", desc := "(I)V" } : Jvm.MethodName) prog_89_method_5_code (5 : Nat) (Option.none : Option Jvm.ClassFile.FieldType), Jvm.Cond.code ({ cls := "java/lang/Math", name := "max", desc := "(JJ)J" } : Jvm.MethodName) jdk_29_method_66_code (4 : Nat) (Option.some Jvm.ClassFile.FieldType.long), Jvm.Cond.code ({ cls := "java/lang/Math", name := "min", desc := "(JJ)J" } : Jvm.MethodName) jdk_29_method_70_code (4 : Nat) (Option.some Jvm.ClassFile.FieldType.long), Jvm.Cond.code ({ cls := "java/util/Arrays", name := "copyOf", desc := "([BI)[B" } : Jvm.MethodName) jdk_65_method_121_code (3 : Nat) (Option.some (Jvm.ClassFile.FieldType.array Jvm.ClassFile.FieldType.byte)), Jvm.Cond.code ({ cls := "com/example/tools_to_sandbox/toolstosandbox/service/OutputCapture", name := "toByteArray", desc := "()[B" } : Jvm.MethodName) prog_89_method_3_code (1 : Nat) (Option.some (Jvm.ClassFile.FieldType.array Jvm.ClassFile.FieldType.byte)), Jvm.Cond.code ({ cls := "com/example/tools_to_sandbox/toolstosandbox/service/OutputCaptureToByteArrayPinLaw", name := "at", desc := "([BIII[B[B)Z" } : Jvm.MethodName) method_3_code (6 : Nat) (Option.some Jvm.ClassFile.FieldType.boolean), Jvm.Cond.code ({ cls := "com/example/tools_to_sandbox/toolstosandbox/service/OutputCaptureToByteArrayPinLaw", name := "exp", desc := "(III[B[B)B" } : Jvm.MethodName) method_2_code (5 : Nat) (Option.some Jvm.ClassFile.FieldType.byte)]
set_option maxRecDepth 65536 in
theorem codes_eq : words1.filter isCode = codes1 := rfl
theorem w_codes : ∀ c ∈ words1.filter isCode, c.before args0 about1 = true := by
  rw [codes_eq]
  intro c hc
  simp only [codes1, List.mem_cons, List.not_mem_nil, or_false] at hc
  rcases hc with rfl | rfl | rfl | rfl | rfl | rfl | rfl | rfl | rfl | rfl | rfl | rfl
  · exact w_c0
  · exact w_c1
  · exact w_c2
  · exact w_c3
  · exact w_c4
  · exact w_c5
  · exact w_c6
  · exact w_c7
  · exact w_c8
  · exact w_c9
  · exact w_c10
  · exact w_c11
set_option maxRecDepth 65536 in
theorem w_t1 : (words1.take 24).all (fun c => isCode c || c.before args0 about1) = true := by decide +kernel
set_option maxRecDepth 65536 in
theorem w_t2 : ((words1.drop 24).take 24).all (fun c => isCode c || c.before args0 about1) = true := by decide +kernel
set_option maxRecDepth 65536 in
theorem w_t3 : ((words1.drop 24).drop 24).all (fun c => isCode c || c.before args0 about1) = true := by decide +kernel
theorem w_tables : (allAtoms (Jvm.Cond.code x code maxLocals ret :: tables_1)).before args0 about1 = true := by
  rw [allAtoms_all]
  show words1.all (fun c => c.before args0 about1) = true
  refine all_split ?_ w_codes
  rw [← List.take_append_drop 24 words1, List.all_append, w_t1, ← List.take_append_drop 24 (words1.drop 24), List.all_append, w_t2, w_t3]
  rfl
set_option maxRecDepth 65536 in
theorem w_case : (Jvm.Cond.and given_1 narrow_1).before args0 about1 = true := by decide +kernel
theorem w_applies : (headSpec (Jvm.Cond.code x code maxLocals ret :: tables_1) room_1).applies x e0.platform about1 = true :=
  (Spec.applies_iff w_frames).mpr ⟨w_running, w_runnable, w_alone, w_named, w_hears, w_ripe, w_room, w_tables⟩
theorem atStart : AtStart classFile x code maxLocals ret World_1 tables_1 room_1 Calls_1 rest_1 Pre_1 launch0 p0 e0 about1 theMethod args0 below0 :=
  ⟨lists_1, trivial, launch0.admits_env _ _ _, launch0.least_env, fairChoices_fair.cas, fairChoices_fair.clock, w_frames, w_args, w_heap, w_applies, trivial, trivial, w_case⟩
end start1
theorem witness_1 : WitnessClaimed_1 := ⟨start1.p0, start1.e0, start1.about1, start1.theMethod, start1.args0, start1.below0, start1.atStart⟩
end Jvm.Pilot.@@N@@
