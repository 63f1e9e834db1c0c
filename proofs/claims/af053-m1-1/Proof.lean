import JvmDerived
import JvmDerived.Pilot.@@N@@Statement
import JvmDerived.Pilot.@@N@@Code
set_option linter.unusedVariables false
set_option linter.unusedSimpArgs false
namespace Jvm.RoadKit
open Sem ClassFile Op Lib Jvm.Stand Jvm.Free Jvm.LawKit
section New
variable {p : Program} {l : Launch} {e : Env} {R : Room} {s : State} {m : MethodId} {args : Array Value} {below : List Frame} {meth : Method} {c : Code} {T : State} {locs : List Loc} {cells slots : Nat}
theorem retI (X : Stand p l e R s m args below meth c T locs cells slots) (hx : p.tables.exec = Jvm.exec) {pc : Nat} {Ls : Array Slot} {z : Int32} {rest : List Value} (hret : meth.sig.returnType = some .int) (hd : decode c.code pc = .ok (.ireturn, 1)) {fs : List Frame}
    (hl : ∀ (f : JFrame) (acts : List Action), f.method = m → f.locked = none → f.entered = [] → (doReturn e (T.setTop f) acts (some (.int z))).1 = T.setFrames fs) : Steps p.tables e below (T.setTop (mkF m pc Ls (.int z :: rest))) (T.setFrames fs) := by
  have hm' : T.vm.method? m = some meth := X.method'
  have hn : narrow .int (.int z) = .int z := rfl
  show Steps p.tables e below (T.setTop { method := m, pc := pc, locals := Ls, stack := _ :: rest, locked := none }) _
  jvm_step X.here [X.here.top, hx, hd, hm', hret, hn]
  first | (intro acts; rw [hl _ acts rfl rfl rfl]) | rw [hl _ _ rfl rfl rfl]
  exact Steps.refl _
end New
end Jvm.RoadKit
namespace Jvm.Pilot.@@N@@
open Jvm Jvm.ClassFile Sem Op Lib Jvm.Free Jvm.Stand Jvm.LawKit Jvm.RoadKit Bundle Jvm.Pilot.@@N@@.Jvm.D
section Own
variable {p : Program} {l : Launch} {e : Env} {R : Room} {s : State} {m : MethodId} {args : Array Value} {below : List Frame} {meth : Method} {c : Code} {T : State} {locs : List Loc} {cells slots : Nat} {Z : State} {h h' h0 : Heap} {a b : Addr} {sl : Nat} {v : Value}
/-- what is closed under a step taken ahead of it -/
def Bk (p : Program) (e : Env) (below : List Frame) (G : State → JFrame → Prop) : Prop :=
  ∀ (T T' : State) (g g' : JFrame), (∀ t, Steps p.tables e below (T'.setTop g') t → Steps p.tables e below (T.setTop g) t) → G T' g' → G T g
/-- from here the body comes to its end, with what Q says -/
def Goes (p : Program) (e : Env) (below : List Frame) (s : State) (Q : Option Value → Heap → List Loc → Prop) (cs sl : Nat) (T : State) (g : JFrame) : Prop :=
  ∃ s₂ o, Steps p.tables e below (T.setTop g) s₂ ∧ s₂.status = .running ∧ Ended s₂ below o ∧ ∃ v L, o = .returned v ∧ Q v s₂.heap L ∧ FrameEnd s o s₂ L cs sl
theorem Goes.bk (p : Program) (e : Env) (below : List Frame) (s : State) (Q : Option Value → Heap → List Loc → Prop) (cs sl : Nat) : Bk p e below (Goes p e below s Q cs sl) :=
  fun T T' g g' st ⟨s₂, o, h1, r⟩ => ⟨s₂, o, st _ h1, r⟩
variable {Q : Option Value → Heap → List Loc → Prop} {cs sn : Nat}
theorem Goes.retI (X : Stand p l e R s m args below meth c T locs cells slots) (hx : p.tables.exec = Jvm.exec) (hlk : meth.locks = false) (hret : meth.sig.returnType = some .int) {pc : Nat} {Ls : Array Slot} {z : Int32} {rest : List Value} (hd : decode c.code pc = .ok (.ireturn, 1))
    (hc : cells ≤ cs) (hs : slots ≤ sn) (hq : Q (some (.int z)) T.heap locs) : Goes p e below s Q cs sn T (mkF m pc Ls (.int z :: rest)) := by
  obtain ⟨fs, hr, hrun, hended, hW, hsame⟩ := X.leave (v := some (.int z)) (fun h => by rw [hret] at h; cases h) hlk
  exact ⟨_, _, Jvm.RoadKit.retI X hx hret hd hr, hrun, hended, _, _, rfl, hq, ⟨_, rfl⟩, hW, hsame.mono hc hs⟩
theorem Goes.retN (X : Stand p l e R s m args below meth c T locs cells slots) (hx : p.tables.exec = Jvm.exec) (hlk : meth.locks = false) {t : FieldType} (hret : meth.sig.returnType = some t) (ht : t = .boolean ∨ t = .byte ∨ t = .char ∨ t = .short) {pc : Nat} {Ls : Array Slot} {z : Int32} {rest : List Value} (hd : decode c.code pc = .ok (.ireturn, 1))
    (hc : cells ≤ cs) (hs : slots ≤ sn) (hq : Q (some (.int (nar t z))) T.heap locs) : Goes p e below s Q cs sn T (mkF m pc Ls (.int z :: rest)) := by
  obtain ⟨fs, hr, hrun, hended, hW, hsame⟩ := X.leave (v := some (.int (nar t z))) (fun h => by rw [hret] at h; cases h) hlk
  exact ⟨_, _, Jvm.RoadKit.retN X hx hret ht hd hr, hrun, hended, _, _, rfl, hq, ⟨_, rfl⟩, hW, hsame.mono hc hs⟩
theorem Goes.retV (X : Stand p l e R s m args below meth c T locs cells slots) (hx : p.tables.exec = Jvm.exec) (hlk : meth.locks = false) (hret : meth.sig.returnType = none) {pc : Nat} {Ls : Array Slot} (hd : decode c.code pc = .ok (.return_, 1))
    (hc : cells ≤ cs) (hs : slots ≤ sn) (hq : Q none T.heap locs) : Goes p e below s Q cs sn T (mkF m pc Ls []) := by
  obtain ⟨fs, hr, hrun, hended, hW, hsame⟩ := X.leave (v := none) (fun _ => rfl) hlk
  exact ⟨_, _, X.returnOut hx hret hd hr, hrun, hended, _, _, rfl, hq, ⟨_, rfl⟩, hW, hsame.mono hc hs⟩
theorem Goes.retL (X : Stand p l e R s m args below meth c T locs cells slots) (hx : p.tables.exec = Jvm.exec) (hlk : meth.locks = false) (hret : meth.sig.returnType = some .long) {pc : Nat} {Ls : Array Slot} {z : Int64} {rest : List Value} (hd : decode c.code pc = .ok (.lreturn, 1))
    (hc : cells ≤ cs) (hs : slots ≤ sn) (hq : Q (some (.long z)) T.heap locs) : Goes p e below s Q cs sn T (mkF m pc Ls (.long z :: rest)) := by
  obtain ⟨fs, hr, hrun, hended, hW, hsame⟩ := X.leave (v := some (.long z)) (fun h => by rw [hret] at h; cases h) hlk
  exact ⟨_, _, Jvm.RoadKit.retOut X hx hret rfl (Or.inr (Or.inl ⟨rfl, rfl, _, rfl⟩)) hd hr, hrun, hended, _, _, rfl, hq, ⟨_, rfl⟩, hW, hsame.mono hc hs⟩
theorem Goes.retA (X : Stand p l e R s m args below meth c T locs cells slots) (hx : p.tables.exec = Jvm.exec) (hlk : meth.locks = false) {t : FieldType} (ht : t.isReference = true) (hret : meth.sig.returnType = some t) {pc : Nat} {Ls : Array Slot} {z : Addr} {rest : List Value} (hd : decode c.code pc = .ok (.areturn, 1))
    (hc : cells ≤ cs) (hs : slots ≤ sn) (hq : Q (some (.ref z)) T.heap locs) : Goes p e below s Q cs sn T (mkF m pc Ls (.ref z :: rest)) := by
  obtain ⟨fs, hr, hrun, hended, hW, hsame⟩ := X.leave (v := some (.ref z)) (fun h => by rw [hret] at h; cases h) hlk
  exact ⟨_, _, Jvm.RoadKit.retOut X hx hret (by cases t <;> first | rfl | (cases ht; done)) (Or.inr (Or.inr (Or.inr (Or.inr ⟨rfl, ht, rfl⟩)))) hd hr, hrun, hended, _, _, rfl, hq, ⟨_, rfl⟩, hW, hsame.mono hc hs⟩
/-- an array: its kind, length and components -/
def Av (Z : State) (h : Heap) (a : Addr) (ty : FieldType) (n : Nat) (f : Nat → Value) : Prop :=
  ∃ c : Cell, Arr Z h a c ty ∧ c.slots.size = n ∧ n < 2 ^ 31 ∧ ∀ i, i < n → c.slots[i]? = some (f i)
variable {ty : FieldType} {n i : Nat} {f f' : Nat → Value} {j x : Int32}
theorem Av.lt (F : Av Z h a ty n f) : a < h.size := by obtain ⟨c, A, -⟩ := F; exact A.lt
theorem Av.ext (F : Av Z h a ty n f) (E : Ext h h') : Av Z h' a ty n f := by obtain ⟨c, A, r⟩ := F; exact ⟨c, A.ext E, r⟩
theorem Av.other (F : Av Z h b ty n f) (W : Wr h h' a sl v) (q : b ≠ a) : Av Z h' b ty n f := by obtain ⟨c, A, r⟩ := F; exact ⟨c, A.other W q, r⟩
theorem Av.keep {ws : List Addr} (F : Av Z h a ty n f) (K : Keep h h' ws) (q : a ∉ ws) : Av Z h' a ty n f := by obtain ⟨c, A, r⟩ := F; exact ⟨c, ⟨K.2.1 a c A.1 q, A.2⟩, r⟩
theorem Av.cong (F : Av Z h a ty n f) (q : ∀ i, i < n → f i = f' i) : Av Z h a ty n f' := by obtain ⟨c, A, r1, r2, r3⟩ := F; exact ⟨c, A, r1, r2, fun i hi => by rw [← q i hi]; exact r3 i hi⟩
theorem Av.bound (F : Av Z h a ty n f) : n < 2 ^ 31 := by obtain ⟨c, A, r1, r2, r3⟩ := F; exact r2
theorem tn_of {j : Int32} {i : Nat} (q : j.toInt = (i : Int)) : j.toNatClampNeg = i := by simp only [Int32.toNatClampNeg]; omega
theorem own_nn {j : Int32} {i : Nat} (q : j.toInt = (i : Int)) : ¬ j < 0 := by
  rw [Int32.lt_iff_toInt_lt]
  have e0 : (0 : Int32).toInt = 0 := rfl
  omega
theorem Av.new {k : ClassId} {z : Int32} (A : Arr Z h a (newA k ty z) ty) (q : z.toInt = (n : Int)) : Av Z h a ty n (fun _ => defaultValue ty) := by
  have e := tn_of q
  have hz := z.toInt_lt
  refine ⟨_, A, by rw [sz_new, e], by omega, fun i hi => ?_⟩
  simp [newA, e, hi]
theorem in_of {c : Cell} (S : c.slots.size = n) (hj : j.toInt = (i : Int)) (hi : i < n) : ¬ (j < 0 ∨ c.slots.size ≤ j.toNatClampNeg) := by
  rw [S, tn_of hj, Int32.lt_iff_toInt_lt]
  have e0 : (0 : Int32).toInt = 0 := rfl
  omega
theorem Av.ldI (X : Stand p l e R s m args below meth c T locs cells slots) (hx : p.tables.exec = Jvm.exec) (hZ : Z.Warmed39 s.vm) (eT : T.heap = h) (F : Av Z h a .int n f) (hj : j.toInt = (i : Int)) (hi : i < n) {g : JFrame} (hg : g.method = m) {rest : List Value} (hs : g.stack = .int j :: .ref a :: rest) (hd : decode c.code g.pc = .ok (.iaload, 1)) :
    ∀ t, Steps p.tables e below (T.setTop { g with pc := g.pc + 1, stack := f i :: rest }) t → Steps p.tables e below (T.setTop g) t := by
  obtain ⟨c, A, S, r, H⟩ := F
  exact X.iaload hx (by rw [eT]; exact A.1) (State.isArrayOf_alike hZ.alike A.2.1) A.2.2 (in_of S hj hi) (by rw [tn_of hj]; exact H i hi) hg hs hd
theorem Av.ldJ (X : Stand p l e R s m args below meth c T locs cells slots) (hx : p.tables.exec = Jvm.exec) (hZ : Z.Warmed39 s.vm) (eT : T.heap = h) (F : Av Z h a .long n f) (hj : j.toInt = (i : Int)) (hi : i < n) {g : JFrame} (hg : g.method = m) {rest : List Value} (hs : g.stack = .int j :: .ref a :: rest) (hd : decode c.code g.pc = .ok (.laload, 1)) :
    ∀ t, Steps p.tables e below (T.setTop { g with pc := g.pc + 1, stack := f i :: rest }) t → Steps p.tables e below (T.setTop g) t := by
  obtain ⟨c, A, S, r, H⟩ := F
  exact X.laload hx (by rw [eT]; exact A.1) (State.isArrayOf_alike hZ.alike A.2.1) A.2.2 (in_of S hj hi) (by rw [tn_of hj]; exact H i hi) hg hs hd
theorem Av.ldB (X : Stand p l e R s m args below meth c T locs cells slots) (hx : p.tables.exec = Jvm.exec) (hZ : Z.Warmed39 s.vm) (eT : T.heap = h) (F : Av Z h a .byte n f) (hj : j.toInt = (i : Int)) (hi : i < n) {g : JFrame} (hg : g.method = m) {rest : List Value} (hs : g.stack = .int j :: .ref a :: rest) (hd : decode c.code g.pc = .ok (.baload, 1)) :
    ∀ t, Steps p.tables e below (T.setTop { g with pc := g.pc + 1, stack := f i :: rest }) t → Steps p.tables e below (T.setTop g) t := by
  obtain ⟨c, A, S, r, H⟩ := F
  exact X.baloadBytes hx (by rw [eT]; exact A.1) (State.isArrayOf_alike hZ.alike A.2.1) A.2.2 (in_of S hj hi) (by rw [tn_of hj]; exact H i hi) hg hs hd
theorem Av.len (X : Stand p l e R s m args below meth c T locs cells slots) (hx : p.tables.exec = Jvm.exec) (hZ : Z.Warmed39 s.vm) (eT : T.heap = h) (F : Av Z h a ty n f) {g : JFrame} (hg : g.method = m) {rest : List Value} (hs : g.stack = .ref a :: rest) (hd : decode c.code g.pc = .ok (.arraylength, 1)) :
    ∀ t, Steps p.tables e below (T.setTop { g with pc := g.pc + 1, stack := .int (Nat.toInt32 n) :: rest }) t → Steps p.tables e below (T.setTop g) t := by
  obtain ⟨c, A, rfl, r, H⟩ := F
  exact X.arraylength hx (by rw [eT]; exact A.1) (State.isArrayOf_alike hZ.alike A.2.1) hg hs hd
/-- f with v at the place i -/
def upd {α : Type} (f : Nat → α) (i : Nat) (v : α) : Nat → α := fun k => if k = i then v else f k
theorem Av.set (F : Av Z h a ty n f) (hi : i < n) (W : Wr h h' a i v) : Av Z h' a ty n (upd f i v) := by
  obtain ⟨c, A, S, r, H⟩ := F
  refine ⟨_, A.same W, by rw [sz_set]; exact S, r, fun k hk => ?_⟩
  by_cases u : k = i
  · subst u; simp [Cell.setSlot, upd, S, hk]
  · simp only [Cell.setSlot, upd, u, if_false]
    rw [Array.getElem?_setIfInBounds_ne (Ne.symm u)]; exact H k hk
theorem Av.stI (X : Stand p l e R s m args below meth c T locs cells slots) (hx : p.tables.exec = Jvm.exec) (hZ : Z.Warmed39 s.vm) (eT : T.heap = h) (F : Av Z h a .int n f) (hj : j.toInt = (i : Int)) (hi : i < n) {g : JFrame} (hg : g.method = m) {rest : List Value} (hs : g.stack = .int x :: .int j :: .ref a :: rest) (hd : decode c.code g.pc = .ok (.iastore, 1)) :
    ∃ T' h', Stand p l e R s m args below meth c T' (locs ++ [⟨a, i⟩]) cells slots ∧ T'.heap = h' ∧ Wr h h' a i (.int x) ∧ Av Z h' a .int n (upd f i (.int x)) ∧ ∀ t, Steps p.tables e below (T'.setTop { g with pc := g.pc + 1, stack := rest }) t → Steps p.tables e below (T.setTop g) t := by
  have F' := F
  obtain ⟨c, A, S, r, H⟩ := F
  obtain ⟨T', h', X', e', W, st⟩ := Jvm.RoadKit.stI X hx hZ eT A (in_of S hj hi) hg hs hd
  rw [tn_of hj] at W X'
  exact ⟨T', h', X', e', W, F'.set hi W, st⟩
theorem Av.stJ {x : Int64} (X : Stand p l e R s m args below meth c T locs cells slots) (hx : p.tables.exec = Jvm.exec) (hZ : Z.Warmed39 s.vm) (eT : T.heap = h) (F : Av Z h a .long n f) (hj : j.toInt = (i : Int)) (hi : i < n) {g : JFrame} (hg : g.method = m) {rest : List Value} (hs : g.stack = .long x :: .int j :: .ref a :: rest) (hd : decode c.code g.pc = .ok (.lastore, 1)) :
    ∃ T' h', Stand p l e R s m args below meth c T' (locs ++ [⟨a, i⟩]) cells slots ∧ T'.heap = h' ∧ Wr h h' a i (.long x) ∧ Av Z h' a .long n (upd f i (.long x)) ∧ ∀ t, Steps p.tables e below (T'.setTop { g with pc := g.pc + 1, stack := rest }) t → Steps p.tables e below (T.setTop g) t := by
  have F' := F
  obtain ⟨c, A, S, r, H⟩ := F
  obtain ⟨T', h', X', e', W, st⟩ := Jvm.RoadKit.stJ X hx hZ eT A (in_of S hj hi) hg hs hd
  rw [tn_of hj] at W X'
  exact ⟨T', h', X', e', W, F'.set hi W, st⟩
theorem Av.stB (X : Stand p l e R s m args below meth c T locs cells slots) (hx : p.tables.exec = Jvm.exec) (hZ : Z.Warmed39 s.vm) (eT : T.heap = h) (F : Av Z h a .byte n f) (hj : j.toInt = (i : Int)) (hi : i < n) {g : JFrame} (hg : g.method = m) {rest : List Value} (hs : g.stack = .int x :: .int j :: .ref a :: rest) (hd : decode c.code g.pc = .ok (.bastore, 1)) :
    ∃ T' h', Stand p l e R s m args below meth c T' (locs ++ [⟨a, i⟩]) cells slots ∧ T'.heap = h' ∧ Wr h h' a i (.int (nar .byte x)) ∧ Av Z h' a .byte n (upd f i (.int (nar .byte x))) ∧ ∀ t, Steps p.tables e below (T'.setTop { g with pc := g.pc + 1, stack := rest }) t → Steps p.tables e below (T.setTop g) t := by
  have F' := F
  obtain ⟨c, A, S, r, H⟩ := F
  obtain ⟨T', h', X', e', W, st⟩ := Jvm.RoadKit.stB X hx hZ eT A (in_of S hj hi) hg hs hd
  rw [tn_of hj] at W X'
  exact ⟨T', h', X', e', W, F'.set hi W, st⟩
end Own
theorem d1_0 : decode prog_72_method_1_code 0 = .ok (.aload_n 0, 1) := by decide +kernel
theorem d1_1 : decode prog_72_method_1_code 1 = .ok (.invokespecial 1, 3) := by decide +kernel
theorem d1_4 : decode prog_72_method_1_code 4 = .ok (.aload_n 0, 1) := by decide +kernel
theorem d1_5 : decode prog_72_method_1_code 5 = .ok (.iload_n 1, 1) := by decide +kernel
theorem d1_6 : decode prog_72_method_1_code 6 = .ok (.putfield 7, 3) := by decide +kernel
theorem d1_9 : decode prog_72_method_1_code 9 = .ok (.aload_n 0, 1) := by decide +kernel
theorem d1_10 : decode prog_72_method_1_code 10 = .ok (.iload_n 1, 1) := by decide +kernel
theorem d1_11 : decode prog_72_method_1_code 11 = .ok (.bipush 63, 2) := by decide +kernel
theorem d1_13 : decode prog_72_method_1_code 13 = .ok (.iadd, 1) := by decide +kernel
theorem d1_14 : decode prog_72_method_1_code 14 = .ok (.bipush 6, 2) := by decide +kernel
theorem d1_16 : decode prog_72_method_1_code 16 = .ok (.iushr, 1) := by decide +kernel
theorem d1_17 : decode prog_72_method_1_code 17 = .ok (.newarray .long, 2) := by decide +kernel
theorem d1_19 : decode prog_72_method_1_code 19 = .ok (.putfield 13, 3) := by decide +kernel
theorem d1_22 : decode prog_72_method_1_code 22 = .ok (.aload_n 0, 1) := by decide +kernel
theorem d1_23 : decode prog_72_method_1_code 23 = .ok (.aload_n 0, 1) := by decide +kernel
theorem d1_24 : decode prog_72_method_1_code 24 = .ok (.getfield 13, 3) := by decide +kernel
theorem d1_27 : decode prog_72_method_1_code 27 = .ok (.arraylength, 1) := by decide +kernel
theorem d1_28 : decode prog_72_method_1_code 28 = .ok (.bipush 63, 2) := by decide +kernel
theorem d1_30 : decode prog_72_method_1_code 30 = .ok (.iadd, 1) := by decide +kernel
theorem d1_31 : decode prog_72_method_1_code 31 = .ok (.bipush 6, 2) := by decide +kernel
theorem d1_33 : decode prog_72_method_1_code 33 = .ok (.iushr, 1) := by decide +kernel
theorem d1_34 : decode prog_72_method_1_code 34 = .ok (.newarray .long, 2) := by decide +kernel
theorem d1_36 : decode prog_72_method_1_code 36 = .ok (.putfield 17, 3) := by decide +kernel
theorem d1_39 : decode prog_72_method_1_code 39 = .ok (.return_, 1) := by decide +kernel
theorem d3_0 : decode prog_72_method_3_code 0 = .ok (.iconst 0, 1) := by decide +kernel
theorem d3_1 : decode prog_72_method_3_code 1 = .ok (.istore_n 1, 1) := by decide +kernel
theorem d3_2 : decode prog_72_method_3_code 2 = .ok (.iload_n 1, 1) := by decide +kernel
theorem d3_3 : decode prog_72_method_3_code 3 = .ok (.aload_n 0, 1) := by decide +kernel
theorem d3_4 : decode prog_72_method_3_code 4 = .ok (.getfield 7, 3) := by decide +kernel
theorem d3_7 : decode prog_72_method_3_code 7 = .ok (.if_icmp .ge 62, 3) := by decide +kernel
theorem d3_10 : decode prog_72_method_3_code 10 = .ok (.iload_n 1, 1) := by decide +kernel
theorem d3_11 : decode prog_72_method_3_code 11 = .ok (.bipush 6, 2) := by decide +kernel
theorem d3_13 : decode prog_72_method_3_code 13 = .ok (.iushr, 1) := by decide +kernel
theorem d3_14 : decode prog_72_method_3_code 14 = .ok (.istore_n 2, 1) := by decide +kernel
theorem d3_15 : decode prog_72_method_3_code 15 = .ok (.aload_n 0, 1) := by decide +kernel
theorem d3_16 : decode prog_72_method_3_code 16 = .ok (.getfield 13, 3) := by decide +kernel
theorem d3_19 : decode prog_72_method_3_code 19 = .ok (.iload_n 2, 1) := by decide +kernel
theorem d3_20 : decode prog_72_method_3_code 20 = .ok (.aload_n 0, 1) := by decide +kernel
theorem d3_21 : decode prog_72_method_3_code 21 = .ok (.getfield 7, 3) := by decide +kernel
theorem d3_24 : decode prog_72_method_3_code 24 = .ok (.iload_n 1, 1) := by decide +kernel
theorem d3_25 : decode prog_72_method_3_code 25 = .ok (.isub, 1) := by decide +kernel
theorem d3_26 : decode prog_72_method_3_code 26 = .ok (.bipush 64, 2) := by decide +kernel
theorem d3_28 : decode prog_72_method_3_code 28 = .ok (.if_icmp .lt 9, 3) := by decide +kernel
theorem d3_31 : decode prog_72_method_3_code 31 = .ok (.ldc2_w 20, 3) := by decide +kernel
theorem d3_34 : decode prog_72_method_3_code 34 = .ok (.goto 13, 3) := by decide +kernel
theorem d3_37 : decode prog_72_method_3_code 37 = .ok (.lconst 1, 1) := by decide +kernel
theorem d3_38 : decode prog_72_method_3_code 38 = .ok (.aload_n 0, 1) := by decide +kernel
theorem d3_39 : decode prog_72_method_3_code 39 = .ok (.getfield 7, 3) := by decide +kernel
theorem d3_42 : decode prog_72_method_3_code 42 = .ok (.iload_n 1, 1) := by decide +kernel
theorem d3_43 : decode prog_72_method_3_code 43 = .ok (.isub, 1) := by decide +kernel
theorem d3_44 : decode prog_72_method_3_code 44 = .ok (.lshl, 1) := by decide +kernel
theorem d3_45 : decode prog_72_method_3_code 45 = .ok (.lconst 1, 1) := by decide +kernel
theorem d3_46 : decode prog_72_method_3_code 46 = .ok (.lsub, 1) := by decide +kernel
theorem d3_47 : decode prog_72_method_3_code 47 = .ok (.lastore, 1) := by decide +kernel
theorem d3_48 : decode prog_72_method_3_code 48 = .ok (.aload_n 0, 1) := by decide +kernel
theorem d3_49 : decode prog_72_method_3_code 49 = .ok (.getfield 17, 3) := by decide +kernel
theorem d3_52 : decode prog_72_method_3_code 52 = .ok (.iload_n 2, 1) := by decide +kernel
theorem d3_53 : decode prog_72_method_3_code 53 = .ok (.bipush 6, 2) := by decide +kernel
theorem d3_55 : decode prog_72_method_3_code 55 = .ok (.iushr, 1) := by decide +kernel
theorem d3_56 : decode prog_72_method_3_code 56 = .ok (.dup2, 1) := by decide +kernel
theorem d3_57 : decode prog_72_method_3_code 57 = .ok (.laload, 1) := by decide +kernel
theorem d3_58 : decode prog_72_method_3_code 58 = .ok (.lconst 1, 1) := by decide +kernel
theorem d3_59 : decode prog_72_method_3_code 59 = .ok (.iload_n 2, 1) := by decide +kernel
theorem d3_60 : decode prog_72_method_3_code 60 = .ok (.lshl, 1) := by decide +kernel
theorem d3_61 : decode prog_72_method_3_code 61 = .ok (.lor, 1) := by decide +kernel
theorem d3_62 : decode prog_72_method_3_code 62 = .ok (.lastore, 1) := by decide +kernel
theorem d3_63 : decode prog_72_method_3_code 63 = .ok (.iinc 1 64, 3) := by decide +kernel
theorem d3_66 : decode prog_72_method_3_code 66 = .ok (.goto (-64), 3) := by decide +kernel
theorem d3_69 : decode prog_72_method_3_code 69 = .ok (.return_, 1) := by decide +kernel
theorem d4_0 : decode prog_72_method_4_code 0 = .ok (.iload_n 1, 1) := by decide +kernel
theorem d4_1 : decode prog_72_method_4_code 1 = .ok (.bipush 6, 2) := by decide +kernel
theorem d4_3 : decode prog_72_method_4_code 3 = .ok (.iushr, 1) := by decide +kernel
theorem d4_4 : decode prog_72_method_4_code 4 = .ok (.istore_n 2, 1) := by decide +kernel
theorem d4_5 : decode prog_72_method_4_code 5 = .ok (.iload_n 2, 1) := by decide +kernel
theorem d4_6 : decode prog_72_method_4_code 6 = .ok (.aload_n 0, 1) := by decide +kernel
theorem d4_7 : decode prog_72_method_4_code 7 = .ok (.getfield 13, 3) := by decide +kernel
theorem d4_10 : decode prog_72_method_4_code 10 = .ok (.arraylength, 1) := by decide +kernel
theorem d4_11 : decode prog_72_method_4_code 11 = .ok (.if_icmp .lt 5, 3) := by decide +kernel
theorem d4_14 : decode prog_72_method_4_code 14 = .ok (.iconst (-1), 1) := by decide +kernel
theorem d4_15 : decode prog_72_method_4_code 15 = .ok (.ireturn, 1) := by decide +kernel
theorem d4_16 : decode prog_72_method_4_code 16 = .ok (.aload_n 0, 1) := by decide +kernel
theorem d4_17 : decode prog_72_method_4_code 17 = .ok (.getfield 13, 3) := by decide +kernel
theorem d4_20 : decode prog_72_method_4_code 20 = .ok (.iload_n 2, 1) := by decide +kernel
theorem d4_21 : decode prog_72_method_4_code 21 = .ok (.laload, 1) := by decide +kernel
theorem d4_22 : decode prog_72_method_4_code 22 = .ok (.ldc2_w 20, 3) := by decide +kernel
theorem d4_25 : decode prog_72_method_4_code 25 = .ok (.iload_n 1, 1) := by decide +kernel
theorem d4_26 : decode prog_72_method_4_code 26 = .ok (.lshl, 1) := by decide +kernel
theorem d4_27 : decode prog_72_method_4_code 27 = .ok (.land, 1) := by decide +kernel
theorem d4_28 : decode prog_72_method_4_code 28 = .ok (.lstore_n 3, 1) := by decide +kernel
theorem d4_29 : decode prog_72_method_4_code 29 = .ok (.lload_n 3, 1) := by decide +kernel
theorem d4_30 : decode prog_72_method_4_code 30 = .ok (.lconst 0, 1) := by decide +kernel
theorem d4_31 : decode prog_72_method_4_code 31 = .ok (.lcmp, 1) := by decide +kernel
theorem d4_32 : decode prog_72_method_4_code 32 = .ok (.ifCond .eq 13, 3) := by decide +kernel
theorem d4_35 : decode prog_72_method_4_code 35 = .ok (.iload_n 2, 1) := by decide +kernel
theorem d4_36 : decode prog_72_method_4_code 36 = .ok (.bipush 6, 2) := by decide +kernel
theorem d4_38 : decode prog_72_method_4_code 38 = .ok (.ishl, 1) := by decide +kernel
theorem d4_39 : decode prog_72_method_4_code 39 = .ok (.lload_n 3, 1) := by decide +kernel
theorem d4_40 : decode prog_72_method_4_code 40 = .ok (.invokestatic 22, 3) := by decide +kernel
theorem d4_43 : decode prog_72_method_4_code 43 = .ok (.iadd, 1) := by decide +kernel
theorem d4_44 : decode prog_72_method_4_code 44 = .ok (.ireturn, 1) := by decide +kernel
theorem d4_45 : decode prog_72_method_4_code 45 = .ok (.iload_n 2, 1) := by decide +kernel
theorem d4_46 : decode prog_72_method_4_code 46 = .ok (.iconst 1, 1) := by decide +kernel
theorem d4_47 : decode prog_72_method_4_code 47 = .ok (.iadd, 1) := by decide +kernel
theorem d4_48 : decode prog_72_method_4_code 48 = .ok (.istore 5, 2) := by decide +kernel
theorem d4_50 : decode prog_72_method_4_code 50 = .ok (.iload 5, 2) := by decide +kernel
theorem d4_52 : decode prog_72_method_4_code 52 = .ok (.bipush 6, 2) := by decide +kernel
theorem d4_54 : decode prog_72_method_4_code 54 = .ok (.iushr, 1) := by decide +kernel
theorem d4_55 : decode prog_72_method_4_code 55 = .ok (.istore 6, 2) := by decide +kernel
theorem d4_57 : decode prog_72_method_4_code 57 = .ok (.iload 6, 2) := by decide +kernel
theorem d4_59 : decode prog_72_method_4_code 59 = .ok (.aload_n 0, 1) := by decide +kernel
theorem d4_60 : decode prog_72_method_4_code 60 = .ok (.getfield 17, 3) := by decide +kernel
theorem d4_63 : decode prog_72_method_4_code 63 = .ok (.arraylength, 1) := by decide +kernel
theorem d4_64 : decode prog_72_method_4_code 64 = .ok (.if_icmp .lt 5, 3) := by decide +kernel
theorem d4_67 : decode prog_72_method_4_code 67 = .ok (.iconst (-1), 1) := by decide +kernel
theorem d4_68 : decode prog_72_method_4_code 68 = .ok (.ireturn, 1) := by decide +kernel
theorem d4_69 : decode prog_72_method_4_code 69 = .ok (.aload_n 0, 1) := by decide +kernel
theorem d4_70 : decode prog_72_method_4_code 70 = .ok (.getfield 17, 3) := by decide +kernel
theorem d4_73 : decode prog_72_method_4_code 73 = .ok (.iload 6, 2) := by decide +kernel
theorem d4_75 : decode prog_72_method_4_code 75 = .ok (.laload, 1) := by decide +kernel
theorem d4_76 : decode prog_72_method_4_code 76 = .ok (.ldc2_w 20, 3) := by decide +kernel
theorem d4_79 : decode prog_72_method_4_code 79 = .ok (.iload 5, 2) := by decide +kernel
theorem d4_81 : decode prog_72_method_4_code 81 = .ok (.lshl, 1) := by decide +kernel
theorem d4_82 : decode prog_72_method_4_code 82 = .ok (.land, 1) := by decide +kernel
theorem d4_83 : decode prog_72_method_4_code 83 = .ok (.lstore 7, 2) := by decide +kernel
theorem d4_85 : decode prog_72_method_4_code 85 = .ok (.lload 7, 2) := by decide +kernel
theorem d4_87 : decode prog_72_method_4_code 87 = .ok (.lconst 0, 1) := by decide +kernel
theorem d4_88 : decode prog_72_method_4_code 88 = .ok (.lcmp, 1) := by decide +kernel
theorem d4_89 : decode prog_72_method_4_code 89 = .ok (.ifCond .ne 30, 3) := by decide +kernel
theorem d4_92 : decode prog_72_method_4_code 92 = .ok (.iinc 6 1, 3) := by decide +kernel
theorem d4_95 : decode prog_72_method_4_code 95 = .ok (.iload 6, 2) := by decide +kernel
theorem d4_97 : decode prog_72_method_4_code 97 = .ok (.aload_n 0, 1) := by decide +kernel
theorem d4_98 : decode prog_72_method_4_code 98 = .ok (.getfield 17, 3) := by decide +kernel
theorem d4_101 : decode prog_72_method_4_code 101 = .ok (.arraylength, 1) := by decide +kernel
theorem d4_102 : decode prog_72_method_4_code 102 = .ok (.if_icmp .ne 5, 3) := by decide +kernel
theorem d4_105 : decode prog_72_method_4_code 105 = .ok (.iconst (-1), 1) := by decide +kernel
theorem d4_106 : decode prog_72_method_4_code 106 = .ok (.ireturn, 1) := by decide +kernel
theorem d4_107 : decode prog_72_method_4_code 107 = .ok (.aload_n 0, 1) := by decide +kernel
theorem d4_108 : decode prog_72_method_4_code 108 = .ok (.getfield 17, 3) := by decide +kernel
theorem d4_111 : decode prog_72_method_4_code 111 = .ok (.iload 6, 2) := by decide +kernel
theorem d4_113 : decode prog_72_method_4_code 113 = .ok (.laload, 1) := by decide +kernel
theorem d4_114 : decode prog_72_method_4_code 114 = .ok (.lstore 7, 2) := by decide +kernel
theorem d4_116 : decode prog_72_method_4_code 116 = .ok (.goto (-31), 3) := by decide +kernel
theorem d4_119 : decode prog_72_method_4_code 119 = .ok (.iload 6, 2) := by decide +kernel
theorem d4_121 : decode prog_72_method_4_code 121 = .ok (.bipush 6, 2) := by decide +kernel
theorem d4_123 : decode prog_72_method_4_code 123 = .ok (.ishl, 1) := by decide +kernel
theorem d4_124 : decode prog_72_method_4_code 124 = .ok (.lload 7, 2) := by decide +kernel
theorem d4_126 : decode prog_72_method_4_code 126 = .ok (.invokestatic 22, 3) := by decide +kernel
theorem d4_129 : decode prog_72_method_4_code 129 = .ok (.iadd, 1) := by decide +kernel
theorem d4_130 : decode prog_72_method_4_code 130 = .ok (.istore 9, 2) := by decide +kernel
theorem d4_132 : decode prog_72_method_4_code 132 = .ok (.iload 9, 2) := by decide +kernel
theorem d4_134 : decode prog_72_method_4_code 134 = .ok (.bipush 6, 2) := by decide +kernel
theorem d4_136 : decode prog_72_method_4_code 136 = .ok (.ishl, 1) := by decide +kernel
theorem d4_137 : decode prog_72_method_4_code 137 = .ok (.aload_n 0, 1) := by decide +kernel
theorem d4_138 : decode prog_72_method_4_code 138 = .ok (.getfield 13, 3) := by decide +kernel
theorem d4_141 : decode prog_72_method_4_code 141 = .ok (.iload 9, 2) := by decide +kernel
theorem d4_143 : decode prog_72_method_4_code 143 = .ok (.laload, 1) := by decide +kernel
theorem d4_144 : decode prog_72_method_4_code 144 = .ok (.invokestatic 22, 3) := by decide +kernel
theorem d4_147 : decode prog_72_method_4_code 147 = .ok (.iadd, 1) := by decide +kernel
theorem d4_148 : decode prog_72_method_4_code 148 = .ok (.ireturn, 1) := by decide +kernel
theorem d5_0 : decode prog_72_method_5_code 0 = .ok (.iconst 0, 1) := by decide +kernel
theorem d5_1 : decode prog_72_method_5_code 1 = .ok (.istore_n 1, 1) := by decide +kernel
theorem d5_2 : decode prog_72_method_5_code 2 = .ok (.iload_n 1, 1) := by decide +kernel
theorem d5_3 : decode prog_72_method_5_code 3 = .ok (.aload_n 0, 1) := by decide +kernel
theorem d5_4 : decode prog_72_method_5_code 4 = .ok (.getfield 17, 3) := by decide +kernel
theorem d5_7 : decode prog_72_method_5_code 7 = .ok (.arraylength, 1) := by decide +kernel
theorem d5_8 : decode prog_72_method_5_code 8 = .ok (.if_icmp .ge 53, 3) := by decide +kernel
theorem d5_11 : decode prog_72_method_5_code 11 = .ok (.aload_n 0, 1) := by decide +kernel
theorem d5_12 : decode prog_72_method_5_code 12 = .ok (.getfield 17, 3) := by decide +kernel
theorem d5_15 : decode prog_72_method_5_code 15 = .ok (.iload_n 1, 1) := by decide +kernel
theorem d5_16 : decode prog_72_method_5_code 16 = .ok (.laload, 1) := by decide +kernel
theorem d5_17 : decode prog_72_method_5_code 17 = .ok (.lstore_n 2, 1) := by decide +kernel
theorem d5_18 : decode prog_72_method_5_code 18 = .ok (.lload_n 2, 1) := by decide +kernel
theorem d5_19 : decode prog_72_method_5_code 19 = .ok (.lconst 0, 1) := by decide +kernel
theorem d5_20 : decode prog_72_method_5_code 20 = .ok (.lcmp, 1) := by decide +kernel
theorem d5_21 : decode prog_72_method_5_code 21 = .ok (.ifCond .eq 27, 3) := by decide +kernel
theorem d5_24 : decode prog_72_method_5_code 24 = .ok (.aload_n 0, 1) := by decide +kernel
theorem d5_25 : decode prog_72_method_5_code 25 = .ok (.getfield 13, 3) := by decide +kernel
theorem d5_28 : decode prog_72_method_5_code 28 = .ok (.iload_n 1, 1) := by decide +kernel
theorem d5_29 : decode prog_72_method_5_code 29 = .ok (.bipush 6, 2) := by decide +kernel
theorem d5_31 : decode prog_72_method_5_code 31 = .ok (.ishl, 1) := by decide +kernel
theorem d5_32 : decode prog_72_method_5_code 32 = .ok (.lload_n 2, 1) := by decide +kernel
theorem d5_33 : decode prog_72_method_5_code 33 = .ok (.invokestatic 22, 3) := by decide +kernel
theorem d5_36 : decode prog_72_method_5_code 36 = .ok (.iadd, 1) := by decide +kernel
theorem d5_37 : decode prog_72_method_5_code 37 = .ok (.lconst 0, 1) := by decide +kernel
theorem d5_38 : decode prog_72_method_5_code 38 = .ok (.lastore, 1) := by decide +kernel
theorem d5_39 : decode prog_72_method_5_code 39 = .ok (.lload_n 2, 1) := by decide +kernel
theorem d5_40 : decode prog_72_method_5_code 40 = .ok (.lload_n 2, 1) := by decide +kernel
theorem d5_41 : decode prog_72_method_5_code 41 = .ok (.lconst 1, 1) := by decide +kernel
theorem d5_42 : decode prog_72_method_5_code 42 = .ok (.lsub, 1) := by decide +kernel
theorem d5_43 : decode prog_72_method_5_code 43 = .ok (.land, 1) := by decide +kernel
theorem d5_44 : decode prog_72_method_5_code 44 = .ok (.lstore_n 2, 1) := by decide +kernel
theorem d5_45 : decode prog_72_method_5_code 45 = .ok (.goto (-27), 3) := by decide +kernel
theorem d5_48 : decode prog_72_method_5_code 48 = .ok (.aload_n 0, 1) := by decide +kernel
theorem d5_49 : decode prog_72_method_5_code 49 = .ok (.getfield 17, 3) := by decide +kernel
theorem d5_52 : decode prog_72_method_5_code 52 = .ok (.iload_n 1, 1) := by decide +kernel
theorem d5_53 : decode prog_72_method_5_code 53 = .ok (.lconst 0, 1) := by decide +kernel
theorem d5_54 : decode prog_72_method_5_code 54 = .ok (.lastore, 1) := by decide +kernel
theorem d5_55 : decode prog_72_method_5_code 55 = .ok (.iinc 1 1, 3) := by decide +kernel
theorem d5_58 : decode prog_72_method_5_code 58 = .ok (.goto (-56), 3) := by decide +kernel
theorem d5_61 : decode prog_72_method_5_code 61 = .ok (.return_, 1) := by decide +kernel
theorem d6_0 : decode jdk_35_method_49_code 0 = .ok (.lload_n 0, 1) := by decide +kernel
theorem d6_1 : decode jdk_35_method_49_code 1 = .ok (.l2i, 1) := by decide +kernel
theorem d6_2 : decode jdk_35_method_49_code 2 = .ok (.istore_n 2, 1) := by decide +kernel
theorem d6_3 : decode jdk_35_method_49_code 3 = .ok (.iload_n 2, 1) := by decide +kernel
theorem d6_4 : decode jdk_35_method_49_code 4 = .ok (.ifCond .ne 17, 3) := by decide +kernel
theorem d6_7 : decode jdk_35_method_49_code 7 = .ok (.bipush 32, 2) := by decide +kernel
theorem d6_9 : decode jdk_35_method_49_code 9 = .ok (.lload_n 0, 1) := by decide +kernel
theorem d6_10 : decode jdk_35_method_49_code 10 = .ok (.bipush 32, 2) := by decide +kernel
theorem d6_12 : decode jdk_35_method_49_code 12 = .ok (.lushr, 1) := by decide +kernel
theorem d6_13 : decode jdk_35_method_49_code 13 = .ok (.l2i, 1) := by decide +kernel
theorem d6_14 : decode jdk_35_method_49_code 14 = .ok (.invokestatic 311, 3) := by decide +kernel
theorem d6_17 : decode jdk_35_method_49_code 17 = .ok (.iadd, 1) := by decide +kernel
theorem d6_18 : decode jdk_35_method_49_code 18 = .ok (.goto 7, 3) := by decide +kernel
theorem d6_21 : decode jdk_35_method_49_code 21 = .ok (.iload_n 2, 1) := by decide +kernel
theorem d6_22 : decode jdk_35_method_49_code 22 = .ok (.invokestatic 311, 3) := by decide +kernel
theorem d6_25 : decode jdk_35_method_49_code 25 = .ok (.ireturn, 1) := by decide +kernel
theorem d7_0 : decode jdk_33_method_48_code 0 = .ok (.iload_n 0, 1) := by decide +kernel
theorem d7_1 : decode jdk_33_method_48_code 1 = .ok (.iconst (-1), 1) := by decide +kernel
theorem d7_2 : decode jdk_33_method_48_code 2 = .ok (.ixor, 1) := by decide +kernel
theorem d7_3 : decode jdk_33_method_48_code 3 = .ok (.iload_n 0, 1) := by decide +kernel
theorem d7_4 : decode jdk_33_method_48_code 4 = .ok (.iconst 1, 1) := by decide +kernel
theorem d7_5 : decode jdk_33_method_48_code 5 = .ok (.isub, 1) := by decide +kernel
theorem d7_6 : decode jdk_33_method_48_code 6 = .ok (.iand, 1) := by decide +kernel
theorem d7_7 : decode jdk_33_method_48_code 7 = .ok (.istore_n 0, 1) := by decide +kernel
theorem d7_8 : decode jdk_33_method_48_code 8 = .ok (.iload_n 0, 1) := by decide +kernel
theorem d7_9 : decode jdk_33_method_48_code 9 = .ok (.ifCond .gt 8, 3) := by decide +kernel
theorem d7_12 : decode jdk_33_method_48_code 12 = .ok (.iload_n 0, 1) := by decide +kernel
theorem d7_13 : decode jdk_33_method_48_code 13 = .ok (.bipush 32, 2) := by decide +kernel
theorem d7_15 : decode jdk_33_method_48_code 15 = .ok (.iand, 1) := by decide +kernel
theorem d7_16 : decode jdk_33_method_48_code 16 = .ok (.ireturn, 1) := by decide +kernel
theorem d7_17 : decode jdk_33_method_48_code 17 = .ok (.iconst 1, 1) := by decide +kernel
theorem d7_18 : decode jdk_33_method_48_code 18 = .ok (.istore_n 1, 1) := by decide +kernel
theorem d7_19 : decode jdk_33_method_48_code 19 = .ok (.iload_n 0, 1) := by decide +kernel
theorem d7_20 : decode jdk_33_method_48_code 20 = .ok (.ldc_w 264, 3) := by decide +kernel
theorem d7_23 : decode jdk_33_method_48_code 23 = .ok (.if_icmp .le 11, 3) := by decide +kernel
theorem d7_26 : decode jdk_33_method_48_code 26 = .ok (.iinc 1 16, 3) := by decide +kernel
theorem d7_29 : decode jdk_33_method_48_code 29 = .ok (.iload_n 0, 1) := by decide +kernel
theorem d7_30 : decode jdk_33_method_48_code 30 = .ok (.bipush 16, 2) := by decide +kernel
theorem d7_32 : decode jdk_33_method_48_code 32 = .ok (.iushr, 1) := by decide +kernel
theorem d7_33 : decode jdk_33_method_48_code 33 = .ok (.istore_n 0, 1) := by decide +kernel
theorem d7_34 : decode jdk_33_method_48_code 34 = .ok (.iload_n 0, 1) := by decide +kernel
theorem d7_35 : decode jdk_33_method_48_code 35 = .ok (.sipush 256, 3) := by decide +kernel
theorem d7_38 : decode jdk_33_method_48_code 38 = .ok (.if_icmp .le 11, 3) := by decide +kernel
theorem d7_41 : decode jdk_33_method_48_code 41 = .ok (.iinc 1 8, 3) := by decide +kernel
theorem d7_44 : decode jdk_33_method_48_code 44 = .ok (.iload_n 0, 1) := by decide +kernel
theorem d7_45 : decode jdk_33_method_48_code 45 = .ok (.bipush 8, 2) := by decide +kernel
theorem d7_47 : decode jdk_33_method_48_code 47 = .ok (.iushr, 1) := by decide +kernel
theorem d7_48 : decode jdk_33_method_48_code 48 = .ok (.istore_n 0, 1) := by decide +kernel
theorem d7_49 : decode jdk_33_method_48_code 49 = .ok (.iload_n 0, 1) := by decide +kernel
theorem d7_50 : decode jdk_33_method_48_code 50 = .ok (.bipush 16, 2) := by decide +kernel
theorem d7_52 : decode jdk_33_method_48_code 52 = .ok (.if_icmp .le 10, 3) := by decide +kernel
theorem d7_55 : decode jdk_33_method_48_code 55 = .ok (.iinc 1 4, 3) := by decide +kernel
theorem d7_58 : decode jdk_33_method_48_code 58 = .ok (.iload_n 0, 1) := by decide +kernel
theorem d7_59 : decode jdk_33_method_48_code 59 = .ok (.iconst 4, 1) := by decide +kernel
theorem d7_60 : decode jdk_33_method_48_code 60 = .ok (.iushr, 1) := by decide +kernel
theorem d7_61 : decode jdk_33_method_48_code 61 = .ok (.istore_n 0, 1) := by decide +kernel
theorem d7_62 : decode jdk_33_method_48_code 62 = .ok (.iload_n 0, 1) := by decide +kernel
theorem d7_63 : decode jdk_33_method_48_code 63 = .ok (.iconst 4, 1) := by decide +kernel
theorem d7_64 : decode jdk_33_method_48_code 64 = .ok (.if_icmp .le 10, 3) := by decide +kernel
theorem d7_67 : decode jdk_33_method_48_code 67 = .ok (.iinc 1 2, 3) := by decide +kernel
theorem d7_70 : decode jdk_33_method_48_code 70 = .ok (.iload_n 0, 1) := by decide +kernel
theorem d7_71 : decode jdk_33_method_48_code 71 = .ok (.iconst 2, 1) := by decide +kernel
theorem d7_72 : decode jdk_33_method_48_code 72 = .ok (.iushr, 1) := by decide +kernel
theorem d7_73 : decode jdk_33_method_48_code 73 = .ok (.istore_n 0, 1) := by decide +kernel
theorem d7_74 : decode jdk_33_method_48_code 74 = .ok (.iload_n 1, 1) := by decide +kernel
theorem d7_75 : decode jdk_33_method_48_code 75 = .ok (.iload_n 0, 1) := by decide +kernel
theorem d7_76 : decode jdk_33_method_48_code 76 = .ok (.iconst 1, 1) := by decide +kernel
theorem d7_77 : decode jdk_33_method_48_code 77 = .ok (.iushr, 1) := by decide +kernel
theorem d7_78 : decode jdk_33_method_48_code 78 = .ok (.iadd, 1) := by decide +kernel
theorem d7_79 : decode jdk_33_method_48_code 79 = .ok (.ireturn, 1) := by decide +kernel
theorem pd_0 : parseMethodDescriptor "(I)I" = some ⟨[.int], some .int⟩ := by decide +kernel
theorem pd_1 : parseMethodDescriptor "(J)I" = some ⟨[.long], some .int⟩ := by decide +kernel
theorem pd_2 : parseMethodDescriptor "()V" = some ⟨[], none⟩ := by decide +kernel
theorem pd_3 : parseMethodDescriptor "(I)V" = some ⟨[.int], none⟩ := by decide +kernel
theorem tw0 {a0 : Array Value} {Z : State} (hw : ∀ d ∈ tables_1, d.before a0 Z = true) : (Jvm.Cond.classLink "com/example/polite_edges/politeedges/layered/SparseBitSetSetAllPinLaw" (7 : Nat) "com/example/polite_edges/politeedges/layered/SparseBitSet").before a0 Z = true := hw _ (List.mem_of_getElem? (i := 0) rfl)
theorem tw1 {a0 : Array Value} {Z : State} (hw : ∀ d ∈ tables_1, d.before a0 Z = true) : (Jvm.Cond.instantiable "com/example/polite_edges/politeedges/layered/SparseBitSet" (3 : Nat)).before a0 Z = true := hw _ (List.mem_of_getElem? (i := 1) rfl)
theorem tw2 {a0 : Array Value} {Z : State} (hw : ∀ d ∈ tables_1, d.before a0 Z = true) : (Jvm.Cond.initialized "com/example/polite_edges/politeedges/layered/SparseBitSet").before a0 Z = true := hw _ (List.mem_of_getElem? (i := 2) rfl)
theorem tw3 {a0 : Array Value} {Z : State} (hw : ∀ d ∈ tables_1, d.before a0 Z = true) : (Jvm.Cond.methodLink "com/example/polite_edges/politeedges/layered/SparseBitSetSetAllPinLaw" (9 : Nat) ({ cls := "com/example/polite_edges/politeedges/layered/SparseBitSet", name := "<init>", desc := "(I)V" } : Jvm.MethodName)).before a0 Z = true := hw _ (List.mem_of_getElem? (i := 3) rfl)
theorem tw4 {a0 : Array Value} {Z : State} (hw : ∀ d ∈ tables_1, d.before a0 Z = true) : (Jvm.Cond.instanceMethod ({ cls := "com/example/polite_edges/politeedges/layered/SparseBitSet", name := "<init>", desc := "(I)V" } : Jvm.MethodName)).before a0 Z = true := hw _ (List.mem_of_getElem? (i := 4) rfl)
theorem tw5 {a0 : Array Value} {Z : State} (hw : ∀ d ∈ tables_1, d.before a0 Z = true) : (Jvm.Cond.code ({ cls := "com/example/polite_edges/politeedges/layered/SparseBitSet", name := "<init>", desc := "(I)V" } : Jvm.MethodName) prog_72_method_1_code (2 : Nat) (Option.none : Option Jvm.ClassFile.FieldType)).before a0 Z = true := hw _ (List.mem_of_getElem? (i := 5) rfl)
theorem tw6 {a0 : Array Value} {Z : State} (hw : ∀ d ∈ tables_1, d.before a0 Z = true) : (Jvm.Cond.methodLink "com/example/polite_edges/politeedges/layered/SparseBitSet" (1 : Nat) ({ cls := "java/lang/Object", name := "<init>", desc := "()V" } : Jvm.MethodName)).before a0 Z = true := hw _ (List.mem_of_getElem? (i := 6) rfl)
theorem tw7 {a0 : Array Value} {Z : State} (hw : ∀ d ∈ tables_1, d.before a0 Z = true) : (Jvm.Cond.instanceMethod ({ cls := "java/lang/Object", name := "<init>", desc := "()V" } : Jvm.MethodName)).before a0 Z = true := hw _ (List.mem_of_getElem? (i := 7) rfl)
theorem tw8 {a0 : Array Value} {Z : State} (hw : ∀ d ∈ tables_1, d.before a0 Z = true) : (Jvm.Cond.code ({ cls := "java/lang/Object", name := "<init>", desc := "()V" } : Jvm.MethodName) object_method_1_code (1 : Nat) (Option.none : Option Jvm.ClassFile.FieldType)).before a0 Z = true := hw _ (List.mem_of_getElem? (i := 8) rfl)
theorem tw9 {a0 : Array Value} {Z : State} (hw : ∀ d ∈ tables_1, d.before a0 Z = true) : (Jvm.Cond.fieldLink "com/example/polite_edges/politeedges/layered/SparseBitSet" (7 : Nat) "com/example/polite_edges/politeedges/layered/SparseBitSet" "capacity" "I").before a0 Z = true := hw _ (List.mem_of_getElem? (i := 9) rfl)
theorem tw10 {a0 : Array Value} {Z : State} (hw : ∀ d ∈ tables_1, d.before a0 Z = true) : (Jvm.Cond.laysFinal "com/example/polite_edges/politeedges/layered/SparseBitSet" "com/example/polite_edges/politeedges/layered/SparseBitSet" "capacity" "I").before a0 Z = true := hw _ (List.mem_of_getElem? (i := 10) rfl)
theorem tw11 {a0 : Array Value} {Z : State} (hw : ∀ d ∈ tables_1, d.before a0 Z = true) : (Jvm.Cond.arrayClass Jvm.ClassFile.FieldType.long).before a0 Z = true := hw _ (List.mem_of_getElem? (i := 11) rfl)
theorem tw12 {a0 : Array Value} {Z : State} (hw : ∀ d ∈ tables_1, d.before a0 Z = true) : (Jvm.Cond.fieldLink "com/example/polite_edges/politeedges/layered/SparseBitSet" (13 : Nat) "com/example/polite_edges/politeedges/layered/SparseBitSet" "words" "[J").before a0 Z = true := hw _ (List.mem_of_getElem? (i := 12) rfl)
theorem tw13 {a0 : Array Value} {Z : State} (hw : ∀ d ∈ tables_1, d.before a0 Z = true) : (Jvm.Cond.laysFinal "com/example/polite_edges/politeedges/layered/SparseBitSet" "com/example/polite_edges/politeedges/layered/SparseBitSet" "words" "[J").before a0 Z = true := hw _ (List.mem_of_getElem? (i := 13) rfl)
theorem tw14 {a0 : Array Value} {Z : State} (hw : ∀ d ∈ tables_1, d.before a0 Z = true) : (Jvm.Cond.fieldLink "com/example/polite_edges/politeedges/layered/SparseBitSet" (17 : Nat) "com/example/polite_edges/politeedges/layered/SparseBitSet" "summary" "[J").before a0 Z = true := hw _ (List.mem_of_getElem? (i := 14) rfl)
theorem tw15 {a0 : Array Value} {Z : State} (hw : ∀ d ∈ tables_1, d.before a0 Z = true) : (Jvm.Cond.laysFinal "com/example/polite_edges/politeedges/layered/SparseBitSet" "com/example/polite_edges/politeedges/layered/SparseBitSet" "summary" "[J").before a0 Z = true := hw _ (List.mem_of_getElem? (i := 15) rfl)
theorem tw16 {a0 : Array Value} {Z : State} (hw : ∀ d ∈ tables_1, d.before a0 Z = true) : (Jvm.Cond.methodLink "com/example/polite_edges/politeedges/layered/SparseBitSetSetAllPinLaw" (12 : Nat) ({ cls := "com/example/polite_edges/politeedges/layered/SparseBitSet", name := "setAll", desc := "()V" } : Jvm.MethodName)).before a0 Z = true := hw _ (List.mem_of_getElem? (i := 16) rfl)
theorem tw17 {a0 : Array Value} {Z : State} (hw : ∀ d ∈ tables_1, d.before a0 Z = true) : (Jvm.Cond.declares ({ cls := "com/example/polite_edges/politeedges/layered/SparseBitSet", name := "setAll", desc := "()V" } : Jvm.MethodName)).before a0 Z = true := hw _ (List.mem_of_getElem? (i := 17) rfl)
theorem tw18 {a0 : Array Value} {Z : State} (hw : ∀ d ∈ tables_1, d.before a0 Z = true) : (Jvm.Cond.instanceMethod ({ cls := "com/example/polite_edges/politeedges/layered/SparseBitSet", name := "setAll", desc := "()V" } : Jvm.MethodName)).before a0 Z = true := hw _ (List.mem_of_getElem? (i := 18) rfl)
theorem tw19 {a0 : Array Value} {Z : State} (hw : ∀ d ∈ tables_1, d.before a0 Z = true) : (Jvm.Cond.selects "com/example/polite_edges/politeedges/layered/SparseBitSet" ({ cls := "com/example/polite_edges/politeedges/layered/SparseBitSet", name := "setAll", desc := "()V" } : Jvm.MethodName) ({ cls := "com/example/polite_edges/politeedges/layered/SparseBitSet", name := "setAll", desc := "()V" } : Jvm.MethodName)).before a0 Z = true := hw _ (List.mem_of_getElem? (i := 19) rfl)
theorem tw20 {a0 : Array Value} {Z : State} (hw : ∀ d ∈ tables_1, d.before a0 Z = true) : (Jvm.Cond.code ({ cls := "com/example/polite_edges/politeedges/layered/SparseBitSet", name := "setAll", desc := "()V" } : Jvm.MethodName) prog_72_method_3_code (3 : Nat) (Option.none : Option Jvm.ClassFile.FieldType)).before a0 Z = true := hw _ (List.mem_of_getElem? (i := 20) rfl)
theorem tw21 {a0 : Array Value} {Z : State} (hw : ∀ d ∈ tables_1, d.before a0 Z = true) : (Jvm.Cond.methodLink "com/example/polite_edges/politeedges/layered/SparseBitSetSetAllPinLaw" (16 : Nat) ({ cls := "com/example/polite_edges/politeedges/layered/SparseBitSet", name := "nextSetBit", desc := "(I)I" } : Jvm.MethodName)).before a0 Z = true := hw _ (List.mem_of_getElem? (i := 21) rfl)
theorem tw22 {a0 : Array Value} {Z : State} (hw : ∀ d ∈ tables_1, d.before a0 Z = true) : (Jvm.Cond.declares ({ cls := "com/example/polite_edges/politeedges/layered/SparseBitSet", name := "nextSetBit", desc := "(I)I" } : Jvm.MethodName)).before a0 Z = true := hw _ (List.mem_of_getElem? (i := 22) rfl)
theorem tw23 {a0 : Array Value} {Z : State} (hw : ∀ d ∈ tables_1, d.before a0 Z = true) : (Jvm.Cond.instanceMethod ({ cls := "com/example/polite_edges/politeedges/layered/SparseBitSet", name := "nextSetBit", desc := "(I)I" } : Jvm.MethodName)).before a0 Z = true := hw _ (List.mem_of_getElem? (i := 23) rfl)
theorem tw24 {a0 : Array Value} {Z : State} (hw : ∀ d ∈ tables_1, d.before a0 Z = true) : (Jvm.Cond.selects "com/example/polite_edges/politeedges/layered/SparseBitSet" ({ cls := "com/example/polite_edges/politeedges/layered/SparseBitSet", name := "nextSetBit", desc := "(I)I" } : Jvm.MethodName) ({ cls := "com/example/polite_edges/politeedges/layered/SparseBitSet", name := "nextSetBit", desc := "(I)I" } : Jvm.MethodName)).before a0 Z = true := hw _ (List.mem_of_getElem? (i := 24) rfl)
theorem tw25 {a0 : Array Value} {Z : State} (hw : ∀ d ∈ tables_1, d.before a0 Z = true) : (Jvm.Cond.code ({ cls := "com/example/polite_edges/politeedges/layered/SparseBitSet", name := "nextSetBit", desc := "(I)I" } : Jvm.MethodName) prog_72_method_4_code (10 : Nat) (Option.some Jvm.ClassFile.FieldType.int)).before a0 Z = true := hw _ (List.mem_of_getElem? (i := 25) rfl)
theorem tw26 {a0 : Array Value} {Z : State} (hw : ∀ d ∈ tables_1, d.before a0 Z = true) : (Jvm.Cond.constant "com/example/polite_edges/politeedges/layered/SparseBitSetSetAllPinLaw" (20 : Nat) (65535 : Int32)).before a0 Z = true := hw _ (List.mem_of_getElem? (i := 26) rfl)
theorem tw27 {a0 : Array Value} {Z : State} (hw : ∀ d ∈ tables_1, d.before a0 Z = true) : (Jvm.Cond.methodLink "com/example/polite_edges/politeedges/layered/SparseBitSetSetAllPinLaw" (21 : Nat) ({ cls := "com/example/polite_edges/politeedges/layered/SparseBitSet", name := "clear", desc := "()V" } : Jvm.MethodName)).before a0 Z = true := hw _ (List.mem_of_getElem? (i := 27) rfl)
theorem tw28 {a0 : Array Value} {Z : State} (hw : ∀ d ∈ tables_1, d.before a0 Z = true) : (Jvm.Cond.declares ({ cls := "com/example/polite_edges/politeedges/layered/SparseBitSet", name := "clear", desc := "()V" } : Jvm.MethodName)).before a0 Z = true := hw _ (List.mem_of_getElem? (i := 28) rfl)
theorem tw29 {a0 : Array Value} {Z : State} (hw : ∀ d ∈ tables_1, d.before a0 Z = true) : (Jvm.Cond.instanceMethod ({ cls := "com/example/polite_edges/politeedges/layered/SparseBitSet", name := "clear", desc := "()V" } : Jvm.MethodName)).before a0 Z = true := hw _ (List.mem_of_getElem? (i := 29) rfl)
theorem tw30 {a0 : Array Value} {Z : State} (hw : ∀ d ∈ tables_1, d.before a0 Z = true) : (Jvm.Cond.selects "com/example/polite_edges/politeedges/layered/SparseBitSet" ({ cls := "com/example/polite_edges/politeedges/layered/SparseBitSet", name := "clear", desc := "()V" } : Jvm.MethodName) ({ cls := "com/example/polite_edges/politeedges/layered/SparseBitSet", name := "clear", desc := "()V" } : Jvm.MethodName)).before a0 Z = true := hw _ (List.mem_of_getElem? (i := 30) rfl)
theorem tw31 {a0 : Array Value} {Z : State} (hw : ∀ d ∈ tables_1, d.before a0 Z = true) : (Jvm.Cond.code ({ cls := "com/example/polite_edges/politeedges/layered/SparseBitSet", name := "clear", desc := "()V" } : Jvm.MethodName) prog_72_method_5_code (4 : Nat) (Option.none : Option Jvm.ClassFile.FieldType)).before a0 Z = true := hw _ (List.mem_of_getElem? (i := 31) rfl)
theorem tw32 {a0 : Array Value} {Z : State} (hw : ∀ d ∈ tables_1, d.before a0 Z = true) : (Jvm.Cond.constant "com/example/polite_edges/politeedges/layered/SparseBitSetSetAllPinLaw" (15 : Nat) (2147483647 : Int32)).before a0 Z = true := hw _ (List.mem_of_getElem? (i := 32) rfl)
theorem tw33 {a0 : Array Value} {Z : State} (hw : ∀ d ∈ tables_1, d.before a0 Z = true) : (Jvm.Cond.constantLong "com/example/polite_edges/politeedges/layered/SparseBitSet" (20 : Nat) (-1 : Int64)).before a0 Z = true := hw _ (List.mem_of_getElem? (i := 33) rfl)
theorem tw34 {a0 : Array Value} {Z : State} (hw : ∀ d ∈ tables_1, d.before a0 Z = true) : (Jvm.Cond.methodLink "com/example/polite_edges/politeedges/layered/SparseBitSet" (22 : Nat) ({ cls := "java/lang/Long", name := "numberOfTrailingZeros", desc := "(J)I" } : Jvm.MethodName)).before a0 Z = true := hw _ (List.mem_of_getElem? (i := 34) rfl)
theorem tw35 {a0 : Array Value} {Z : State} (hw : ∀ d ∈ tables_1, d.before a0 Z = true) : (Jvm.Cond.static ({ cls := "java/lang/Long", name := "numberOfTrailingZeros", desc := "(J)I" } : Jvm.MethodName)).before a0 Z = true := hw _ (List.mem_of_getElem? (i := 35) rfl)
theorem tw36 {a0 : Array Value} {Z : State} (hw : ∀ d ∈ tables_1, d.before a0 Z = true) : (Jvm.Cond.initialized "java/lang/Long").before a0 Z = true := hw _ (List.mem_of_getElem? (i := 36) rfl)
theorem tw37 {a0 : Array Value} {Z : State} (hw : ∀ d ∈ tables_1, d.before a0 Z = true) : (Jvm.Cond.code ({ cls := "java/lang/Long", name := "numberOfTrailingZeros", desc := "(J)I" } : Jvm.MethodName) jdk_35_method_49_code (3 : Nat) (Option.some Jvm.ClassFile.FieldType.int)).before a0 Z = true := hw _ (List.mem_of_getElem? (i := 37) rfl)
theorem tw38 {a0 : Array Value} {Z : State} (hw : ∀ d ∈ tables_1, d.before a0 Z = true) : (Jvm.Cond.methodLink "java/lang/Long" (311 : Nat) ({ cls := "java/lang/Integer", name := "numberOfTrailingZeros", desc := "(I)I" } : Jvm.MethodName)).before a0 Z = true := hw _ (List.mem_of_getElem? (i := 38) rfl)
theorem tw39 {a0 : Array Value} {Z : State} (hw : ∀ d ∈ tables_1, d.before a0 Z = true) : (Jvm.Cond.static ({ cls := "java/lang/Integer", name := "numberOfTrailingZeros", desc := "(I)I" } : Jvm.MethodName)).before a0 Z = true := hw _ (List.mem_of_getElem? (i := 39) rfl)
theorem tw40 {a0 : Array Value} {Z : State} (hw : ∀ d ∈ tables_1, d.before a0 Z = true) : (Jvm.Cond.initialized "java/lang/Integer").before a0 Z = true := hw _ (List.mem_of_getElem? (i := 40) rfl)
theorem tw41 {a0 : Array Value} {Z : State} (hw : ∀ d ∈ tables_1, d.before a0 Z = true) : (Jvm.Cond.code ({ cls := "java/lang/Integer", name := "numberOfTrailingZeros", desc := "(I)I" } : Jvm.MethodName) jdk_33_method_48_code (2 : Nat) (Option.some Jvm.ClassFile.FieldType.int)).before a0 Z = true := hw _ (List.mem_of_getElem? (i := 41) rfl)
theorem tw42 {a0 : Array Value} {Z : State} (hw : ∀ d ∈ tables_1, d.before a0 Z = true) : (Jvm.Cond.constant "java/lang/Integer" (264 : Nat) (65536 : Int32)).before a0 Z = true := hw _ (List.mem_of_getElem? (i := 42) rfl)
theorem own_ti {n : Nat} (h : n < 2 ^ 31) : (Nat.toInt32 n).toInt = n := len_toInt h
theorem own_eqi {x : Int32} {n : Nat} (h : x.toInt = (n : Int)) : x = Nat.toInt32 n := by
  have := x.toInt_lt
  exact Int32.toInt_inj.mp (by rw [own_ti (by omega)]; exact h)
/-! bits of a long -/
def bt (x : Int64) (i : Nat) : Bool := x.toBitVec.getLsbD i
theorem bt_ext {x y : Int64} (h : ∀ i, i < 64 → bt x i = bt y i) : x = y :=
  Int64.toBitVec_inj.mp (BitVec.eq_of_getLsbD_eq fun i hi => h i hi)
theorem bt_0 (i : Nat) : bt 0 i = false := by
  show (0#64).getLsbD i = false
  simp
theorem bt_and (x y : Int64) (i : Nat) : bt (x &&& y) i = (bt x i && bt y i) := by
  show (x.toBitVec &&& y.toBitVec).getLsbD i = _
  rw [BitVec.getLsbD_and]; rfl
theorem bt_or (x y : Int64) (i : Nat) : bt (x ||| y) i = (bt x i || bt y i) := by
  show (x.toBitVec ||| y.toBitVec).getLsbD i = _
  rw [BitVec.getLsbD_or]; rfl
theorem bt_big {x : Int64} {i : Nat} (h : 64 ≤ i) : bt x i = false := BitVec.getLsbD_of_ge _ _ h
theorem bt_lt {x : Int64} {i : Nat} (h : bt x i = true) : i < 64 := Nat.lt_of_not_le fun q => by rw [bt_big q] at h; cases h
theorem bt_m1 {i : Nat} (h : i < 64) : bt (-1) i = true := by
  have : ∀ i : Fin 64, bt (-1) i.val = true := by decide +kernel
  exact this ⟨i, h⟩
theorem bt_1 (i : Nat) : bt 1 i = decide (i = 0) := by
  by_cases h : i < 64
  · have : ∀ i : Fin 64, bt 1 i.val = decide (i.val = 0) := by decide +kernel
    exact this ⟨i, h⟩
  · rw [bt_big (by omega)]; exact (decide_eq_false (by omega)).symm
theorem own_tonat {q : Int32} {f : Nat} (hq : q.toInt = (f : Int)) : q.toBitVec.toNat = f := by
  have h1 : q.toBitVec.toInt = f := hq
  have h2 := q.toBitVec.isLt
  rw [BitVec.toInt_eq_toNat_cond] at h1
  split at h1 <;> omega
theorem bt_shl (x : Int64) {q : Int32} {f : Nat} (hq : q.toInt = (f : Int)) {i : Nat} (hi : i < 64) : bt (x <<< (q &&& 0x3f).toInt64) i = (decide (f % 64 ≤ i) && bt x (i - f % 64)) := by
  have hk : q.toBitVec.toNat % 64 = f % 64 := by rw [own_tonat hq]
  show (x.toBitVec <<< ((q &&& 0x3f).toInt64.toBitVec.smod 64)).getLsbD i = _
  rw [BitVec.shiftLeft_eq', (sm64 q _ hk).1, smod64 _ (sm64 q _ hk).2, BitVec.getLsbD_shiftLeft]
  by_cases h : f % 64 ≤ i
  · simp [hi, h, bt, Nat.not_lt.mpr h]
  · simp [hi, h, Nat.lt_of_not_le h]
/-- the lowest bit -/
def Low (x : Int64) (k : Nat) : Prop := bt x k = true ∧ ∀ i, i < k → bt x i = false
theorem Low.lt {x : Int64} {k : Nat} (h : Low x k) : k < 64 := bt_lt h.1
theorem Low.ne {x : Int64} {k : Nat} (h : Low x k) : x ≠ 0 := fun e => by have := h.1; rw [e, bt_0] at this; cases this
theorem low_up (x : Int64) (n : Nat) : bt x n = true → ∃ k, Low x k := by
  induction n using Nat.strongRecOn with
  | ind n ih =>
    intro h
    by_cases q : ∃ i, i < n ∧ bt x i = true
    · obtain ⟨i, hi, hb⟩ := q
      exact ih i hi hb
    · refine ⟨n, h, fun i hi => ?_⟩
      cases hb : bt x i with
      | false => rfl
      | true => exact absurd ⟨i, hi, hb⟩ q
theorem low_of {x : Int64} (h : x ≠ 0) : ∃ k, Low x k := by
  by_cases q : ∃ i, bt x i = true
  · obtain ⟨i, hi⟩ := q
    exact low_up x i hi
  · refine absurd (bt_ext fun i _ => ?_) h
    rw [bt_0]
    cases hb : bt x i with
    | false => rfl
    | true => exact absurd ⟨i, hb⟩ q
theorem own_pred {A k : Nat} (h1 : A.testBit k = true) (h2 : ∀ i, i < k → A.testBit i = false) (j : Nat) : (A - 1).testBit j = if j < k then true else if j = k then false else A.testBit j := by
  have hm : A % 2 ^ k = 0 := by
    refine Nat.eq_of_testBit_eq fun i => ?_
    rw [Nat.testBit_mod_two_pow, Nat.zero_testBit]
    by_cases hi : i < k
    · simp [h2 i hi]
    · simp [hi]
  obtain ⟨B, hB⟩ : ∃ B, B = A / 2 ^ k := ⟨_, rfl⟩
  have hA : A = 2 ^ k * B := by have := Nat.div_add_mod A (2 ^ k); rw [hm, ← hB] at this; omega
  have hpos : 0 < 2 ^ k := Nat.two_pow_pos k
  have hb : ∀ j, k ≤ j → A.testBit j = B.testBit (j - k) := fun j hj => by
    rw [hB, Nat.testBit_div_two_pow]; congr 1; omega
  have hodd : B % 2 = 1 := by
    have := hb k (Nat.le_refl _)
    rw [h1, Nat.sub_self, Nat.testBit_zero] at this
    exact of_decide_eq_true this.symm
  have e : A - 1 = 2 ^ k * (B - 1) + (2 ^ k - 1) := by
    have : 2 ^ k * B = 2 ^ k * (B - 1) + 2 ^ k := by
      rw [← Nat.mul_succ]; congr 1; omega
    omega
  rw [e, Nat.testBit_two_pow_mul_add _ (by omega : 2 ^ k - 1 < 2 ^ k)]
  by_cases hj : j < k
  · rw [if_pos hj, if_pos hj, Nat.testBit_two_pow_sub_one]; exact decide_eq_true hj
  · rw [if_neg hj, if_neg hj]
    by_cases hjk : j = k
    · rw [if_pos hjk, hjk, Nat.sub_self, Nat.testBit_zero]; exact decide_eq_false (by omega)
    · rw [if_neg hjk, hb j (by omega)]
      obtain ⟨m, hm⟩ : ∃ m, j - k = m + 1 := ⟨j - k - 1, by omega⟩
      rw [hm, Nat.testBit_succ, Nat.testBit_succ]; congr 1; omega
theorem own_sub1 {x : Int64} (h : x ≠ 0) : (x - 1).toBitVec.toNat = x.toBitVec.toNat - 1 := by
  have h0 : x.toBitVec.toNat ≠ 0 := fun q => h (Int64.toBitVec_inj.mp (BitVec.eq_of_toNat_eq q))
  have h1 := x.toBitVec.isLt
  show (x.toBitVec - (1 : Int64).toBitVec).toNat = _
  rw [BitVec.toNat_sub, show (1 : Int64).toBitVec.toNat = 1 from rfl]
  omega
theorem bt_pred {x : Int64} {k : Nat} (h : Low x k) (j : Nat) : bt (x - 1) j = if j < k then true else if j = k then false else bt x j := by
  show (x - 1).toBitVec.toNat.testBit j = _
  rw [own_sub1 h.ne]
  exact own_pred (A := x.toBitVec.toNat) h.1 h.2 j
theorem bt_clr {x : Int64} {k : Nat} (h : Low x k) (j : Nat) : bt (x &&& (x - 1)) j = (bt x j && decide (j ≠ k)) := by
  rw [bt_and, bt_pred h]
  by_cases h1 : j < k
  · rw [if_pos h1, h.2 j h1]; rfl
  · rw [if_neg h1]
    by_cases h2 : j = k
    · rw [if_pos h2, h2]; simp
    · rw [if_neg h2]; simp [h2]
theorem clr_lt {x : Int64} (h : x ≠ 0) : (x &&& (x - 1)).toBitVec.toNat < x.toBitVec.toNat := by
  have h0 : x.toBitVec.toNat ≠ 0 := fun q => h (Int64.toBitVec_inj.mp (BitVec.eq_of_toNat_eq q))
  have h1 : (x &&& (x - 1)).toBitVec.toNat ≤ (x - 1).toBitVec.toNat := by
    show (x.toBitVec &&& (x - 1).toBitVec).toNat ≤ _
    rw [BitVec.toNat_and]; exact Nat.and_le_right
  rw [own_sub1 h] at h1
  omega
/-! the number of trailing zeros -/
def Low32 (a : Int32) (k : Nat) : Prop := a.toBitVec.getLsbD k = true ∧ ∀ i, i < k → a.toBitVec.getLsbD i = false
theorem own_sub32 {x : Int32} (h : x ≠ 0) : (x - 1).toBitVec.toNat = x.toBitVec.toNat - 1 := by
  have h0 : x.toBitVec.toNat ≠ 0 := fun q => h (Int32.toBitVec_inj.mp (BitVec.eq_of_toNat_eq q))
  have h1 := x.toBitVec.isLt
  show (x.toBitVec - (1 : Int32).toBitVec).toNat = _
  rw [BitVec.toNat_sub, show (1 : Int32).toBitVec.toNat = 1 from rfl]
  omega
theorem own_m132 {i : Nat} (h : i < 32) : (-1 : Int32).toBitVec.getLsbD i = true := by
  have : ∀ i : Fin 32, (-1 : Int32).toBitVec.getLsbD i.val = true := by decide +kernel
  exact this ⟨i, h⟩
theorem own_msk {a : Int32} {k : Nat} (h : Low32 a k) (hk : k < 32) : ((a ^^^ (-1 : Int32)) &&& (a - (1 : Int32))) = Nat.toInt32 (2 ^ k - 1) := by
  have h0 : a ≠ 0 := fun e => by
    have q := h.1; rw [e] at q
    have : (0#32).getLsbD k = true := q
    simp at this
  refine Int32.toBitVec_inj.mp (BitVec.eq_of_getLsbD_eq fun j hj => ?_)
  have e1 : (a - 1).toBitVec.getLsbD j = if j < k then true else if j = k then false else a.toBitVec.getLsbD j := by
    show (a - 1).toBitVec.toNat.testBit j = _
    rw [own_sub32 h0]
    exact own_pred (A := a.toBitVec.toNat) h.1 h.2 j
  have e2 : (Nat.toInt32 (2 ^ k - 1)).toBitVec.getLsbD j = decide (j < k) := by
    show (BitVec.ofNat 32 (2 ^ k - 1)).getLsbD j = _
    rw [BitVec.getLsbD_ofNat, Nat.testBit_two_pow_sub_one]; simp [hj]
  rw [e2]
  show ((a.toBitVec ^^^ (-1 : Int32).toBitVec) &&& (a - 1).toBitVec).getLsbD j = _
  rw [BitVec.getLsbD_and, BitVec.getLsbD_xor, own_m132 hj, e1]
  by_cases h1 : j < k
  · rw [if_pos h1, h.2 j h1]; simp [h1]
  · rw [if_neg h1]
    by_cases h2 : j = k
    · rw [if_pos h2]; simp [h1]
    · rw [if_neg h2]; simp [h1]
def f74 (n i : Int32) : Int32 := n + ((i.toUInt32 >>> ((1 : Int32) &&& 31).toUInt32).toInt32)
def f62 (n i : Int32) : Int32 := if (4 : Int32) < i then f74 (n + (2 : Int32)) ((i.toUInt32 >>> ((2 : Int32) &&& 31).toUInt32).toInt32) else f74 n i
def f49 (n i : Int32) : Int32 := if (16 : Int32) < i then f62 (n + (4 : Int32)) ((i.toUInt32 >>> ((4 : Int32) &&& 31).toUInt32).toInt32) else f62 n i
def f34 (n i : Int32) : Int32 := if (256 : Int32) < i then f49 (n + (8 : Int32)) ((i.toUInt32 >>> ((8 : Int32) &&& 31).toUInt32).toInt32) else f49 n i
def f19 (n i : Int32) : Int32 := if (65536 : Int32) < i then f34 (n + (16 : Int32)) ((i.toUInt32 >>> ((16 : Int32) &&& 31).toUInt32).toInt32) else f34 n i
def f8 (i : Int32) : Int32 := if (0 : Int32) < i then f19 (1 : Int32) i else (i &&& (32 : Int32))
theorem own_f8 {k : Nat} (hk : k < 32) : f8 (Nat.toInt32 (2 ^ k - 1)) = Nat.toInt32 k := by
  have : ∀ k : Fin 32, f8 (Nat.toInt32 (2 ^ k.val - 1)) = Nat.toInt32 k.val := by decide +kernel
  exact this ⟨k, hk⟩
theorem bt_l2i (x : Int64) {i : Nat} (hi : i < 32) : x.toInt32.toBitVec.getLsbD i = bt x i := by
  show (x.toBitVec.signExtend 32).getLsbD i = _
  rw [BitVec.getLsbD_signExtend]
  simp [hi, bt, show i < 64 by omega]
theorem bt_hi (x : Int64) {i : Nat} : bt ((x.toUInt64 >>> ((32 : Int32) &&& 0x3f).toInt64.toUInt64).toInt64) i = bt x (32 + i) := by
  show (x.toBitVec >>> (((32 : Int32) &&& 0x3f).toInt64.toBitVec % 64)).getLsbD i = _
  rw [BitVec.ushiftRight_eq', BitVec.getLsbD_ushiftRight, show (((32 : Int32) &&& 0x3f).toInt64.toBitVec % 64).toNat = 32 by decide +kernel]; rfl
theorem low_lo {x : Int64} {k : Nat} (h : Low x k) (hk : k < 32) : Low32 x.toInt32 k := ⟨by rw [bt_l2i x hk]; exact h.1, fun i hi => by rw [bt_l2i x (by omega)]; exact h.2 i hi⟩
theorem low_hi {x : Int64} {k : Nat} (h : Low x k) (hk : ¬ k < 32) : Low32 ((x.toUInt64 >>> ((32 : Int32) &&& 0x3f).toInt64.toUInt64).toInt64).toInt32 (k - 32) := by
  have := h.lt
  exact ⟨by rw [bt_l2i _ (by omega), bt_hi, show 32 + (k - 32) = k by omega]; exact h.1, fun i hi => by rw [bt_l2i _ (by omega), bt_hi]; exact h.2 _ (by omega)⟩
theorem low_nz {a : Int32} {k : Nat} (h : Low32 a k) : ¬ a = 0 := fun e => by
  have q := h.1; rw [e] at q
  have : (0#32).getLsbD k = true := q
  simp at this
theorem low_z {x : Int64} {k : Nat} (h : Low x k) (hk : ¬ k < 32) : x.toInt32 = 0 :=
  Int32.toBitVec_inj.mp (BitVec.eq_of_getLsbD_eq fun j hj => by rw [bt_l2i x hj, h.2 j (by omega)]; show false = (0#32).getLsbD j; simp)
theorem own_32 {k : Nat} (hk : ¬ k < 32) : (32 : Int32) + Nat.toInt32 (k - 32) = Nat.toInt32 k := by
  have : (32 : Int32) = Nat.toInt32 32 := rfl
  rw [this]
  have e : Nat.toInt32 32 + Nat.toInt32 (k - 32) = Nat.toInt32 (32 + (k - 32)) := (Int32.ofNat_add 32 (k - 32)).symm
  rw [e, show 32 + (k - 32) = k by omega]
/-! the set -/
def Wd (w : Nat → Int64) : Nat → Value := fun i => .long (w i)
def mem (n : Nat) (w : Nat → Int64) (b : Nat) : Prop := b / 64 < n ∧ bt (w (b / 64)) (b % 64) = true
def Sx (n ns : Nat) (w u : Nat → Int64) : Prop := n ≤ 64 * ns ∧ ∀ i, i < 64 * ns → (bt (u (i / 64)) (i % 64) = true ↔ i < n ∧ w i ≠ 0)
theorem Sx.at {n ns : Nat} {w u : Nat → Int64} (h : Sx n ns w u) {q k : Nat} (hq : q < ns) (hk : k < 64) : bt (u q) k = true ↔ 64 * q + k < n ∧ w (64 * q + k) ≠ 0 := by
  have := h.2 (64 * q + k) (by omega)
  rw [show (64 * q + k) / 64 = q by omega, show (64 * q + k) % 64 = k by omega] at this
  exact this
theorem mem_nz {n : Nat} {w : Nat → Int64} {b : Nat} (h : mem n w b) : w (b / 64) ≠ 0 := fun e => by have := h.2; rw [e, bt_0] at this; cases this
def Nx (n : Nat) (w : Nat → Int64) (f : Nat) (r : Int32) : Prop := (r = -1 ∧ ∀ b, f ≤ b → ¬ mem n w b) ∨ ∃ b, r = Nat.toInt32 b ∧ f ≤ b ∧ mem n w b ∧ ∀ c, f ≤ c → c < b → ¬ mem n w c
theorem nx_far {n : Nat} {w : Nat → Int64} {f : Nat} (h : n ≤ f / 64) : Nx n w f (-1) := Or.inl ⟨rfl, fun b hb hm => by have := hm.1; omega⟩
theorem own_sh6 {q : Int32} {a k : Nat} (hq : q.toInt = (a : Int)) (ha : a < 65536) (hk : k < 64) : (q <<< ((6 : Int32) &&& 31)) + Nat.toInt32 k = Nat.toInt32 (64 * a + k) := by
  have h1 := c_ishl q 6 6 (by decide)
  have h2 := rng32 (q <<< ((6 : Int32) &&& 31))
  have h3 := c_iadd (q <<< ((6 : Int32) &&& 31)) (Nat.toInt32 k)
  have h4 := rng32 ((q <<< ((6 : Int32) &&& 31)) + Nat.toInt32 k)
  have h5 : (Nat.toInt32 k).toInt = k := own_ti (by omega)
  have h6 : ((2 ^ 6 : Nat) : Int) = 64 := rfl
  refine Int32.toInt_inj.mp ?_
  rw [own_ti (by omega)]
  rw [h6, hq] at h1
  omega
theorem own_ush6 {q : Int32} {f : Nat} (hq : q.toInt = (f : Int)) : ((q.toUInt32 >>> ((6 : Int32) &&& 31).toUInt32).toInt32).toInt = ((f / 64 : Nat) : Int) := by
  have h1 := c_iushr q 6 6 (by decide) (by decide)
  have h2 := q.toInt_lt
  have h6 : ((2 ^ 6 : Nat) : Int) = 64 := rfl
  rw [h1, hq, h6]
  omega
theorem own_plus {q : Int32} {f d : Nat} (hq : q.toInt = (f : Int)) (hf : f < 1000000) (hd : d < 1000) {z : Int32} (hz : z.toInt = (d : Int)) : (q + z).toInt = ((f + d : Nat) : Int) := by
  have := c_iadd q z; have := rng32 (q + z); omega
theorem nx_here {n : Nat} {w : Nat → Int64} {f : Nat} {bx : Int64} {k : Nat} {wd : Int32} (hn : f / 64 < n) (h256 : n ≤ 256) (hwd : wd.toInt = ((f / 64 : Nat) : Int)) (hbx : ∀ i, i < 64 → bt bx i = (bt (w (f / 64)) i && decide (f % 64 ≤ i))) (hk : Low bx k) : Nx n w f ((wd <<< ((6 : Int32) &&& 31)) + Nat.toInt32 k) := by
  have hk64 := hk.lt
  refine Or.inr ⟨64 * (f / 64) + k, own_sh6 hwd (by omega) hk64, ?_, ⟨?_, ?_⟩, fun c h1 h2 hm => ?_⟩
  · have := hk.1; rw [hbx k hk64] at this; simp at this; omega
  · omega
  · have := hk.1; rw [hbx k hk64] at this; simp at this
    rw [show (64 * (f / 64) + k) / 64 = f / 64 by omega, show (64 * (f / 64) + k) % 64 = k by omega]; exact this.1
  · have e : c / 64 = f / 64 := by omega
    have := hk.2 (c % 64) (by omega)
    rw [hbx _ (by omega)] at this
    have h3 := hm.2
    rw [e] at h3
    rw [h3] at this; simp at this; omega
/-- what is known at the search over the summary: the part q, the held bits -/
def Hd (n ns : Nat) (w u : Nat → Int64) (f q : Nat) (held : Int64) : Prop := (∀ i, i < 64 → bt held i = true → bt (u q) i = true ∧ f / 64 < 64 * q + i) ∧ ∀ b, f ≤ b → mem n w b → 64 * q ≤ b / 64 ∧ (b / 64 / 64 = q → bt held (b / 64 % 64) = true)
theorem hd_start {n ns : Nat} {w u : Nat → Int64} {f : Nat} {bx held : Int64} (hS : Sx n ns w u) (hbx : ∀ i, i < 64 → bt bx i = (bt (w (f / 64)) i && decide (f % 64 ≤ i))) (h0 : bx = 0) (hheld : ∀ i, i < 64 → bt held i = (bt (u ((f / 64 + 1) / 64)) i && decide ((f / 64 + 1) % 64 ≤ i))) : Hd n ns w u f ((f / 64 + 1) / 64) held := by
  refine ⟨fun i hi h => ?_, fun b hb hm => ?_⟩
  · rw [hheld i hi] at h; simp at h; exact ⟨h.1, by omega⟩
  · have hne : b / 64 ≠ f / 64 := fun e => by
      have := hbx (b % 64) (by omega)
      rw [h0, bt_0, ← e, hm.2] at this
      simp at this; omega
    refine ⟨by omega, fun e => ?_⟩
    rw [hheld _ (by omega)]
    have h1 := (hS.2 (b / 64) (by have := hm.1; have := hS.1; omega)).mpr ⟨hm.1, mem_nz hm⟩
    rw [e] at h1
    rw [h1]; simp; omega
theorem hd_next {n ns : Nat} {w u : Nat → Int64} {f q : Nat} {held : Int64} (hS : Sx n ns w u) (h : Hd n ns w u f q held) (h0 : held = 0) (hf : f / 64 < 64 * (q + 1)) (hq : q + 1 < ns) : Hd n ns w u f (q + 1) (u (q + 1)) := by
  refine ⟨fun i hi h1 => ⟨h1, by omega⟩, fun b hb hm => ?_⟩
  obtain ⟨h1, h2⟩ := h.2 b hb hm
  have h3 : b / 64 / 64 ≠ q := fun e => by have := h2 e; rw [h0, bt_0] at this; cases this
  refine ⟨by omega, fun e => ?_⟩
  have h4 := (hS.2 (b / 64) (by have := hm.1; have := hS.1; omega)).mpr ⟨hm.1, mem_nz hm⟩
  rw [e] at h4; exact h4
theorem hd_end {n ns : Nat} {w u : Nat → Int64} {f q : Nat} {held : Int64} (hS : Sx n ns w u) (h : Hd n ns w u f q held) (h0 : held = 0) (hq : q + 1 = ns) : Nx n w f (-1) := by
  refine Or.inl ⟨rfl, fun b hb hm => ?_⟩
  obtain ⟨h1, h2⟩ := h.2 b hb hm
  have h3 : b / 64 / 64 ≠ q := fun e => by have := h2 e; rw [h0, bt_0] at this; cases this
  have := hm.1; have := hS.1
  omega
theorem hd_none {n ns : Nat} {w u : Nat → Int64} {f : Nat} {bx : Int64} (hS : Sx n ns w u) (hbx : ∀ i, i < 64 → bt bx i = (bt (w (f / 64)) i && decide (f % 64 ≤ i))) (h0 : bx = 0) (hq : ns ≤ (f / 64 + 1) / 64) : Nx n w f (-1) := by
  refine Or.inl ⟨rfl, fun b hb hm => ?_⟩
  have hne : b / 64 ≠ f / 64 := fun e => by
    have := hbx (b % 64) (by omega)
    rw [h0, bt_0, ← e, hm.2] at this
    simp at this; omega
  have := hm.1; have := hS.1
  omega
theorem hd_found {n ns : Nat} {w u : Nat → Int64} {f q : Nat} {held : Int64} {k k2 : Nat} {j : Int32} (hS : Sx n ns w u) (h : Hd n ns w u f q held) (hq : q < ns) (h256 : n ≤ 256) (hk : Low held k) (hk2 : Low (w (64 * q + k)) k2) (hj : j = Nat.toInt32 (64 * q + k)) : Nx n w f ((j <<< ((6 : Int32) &&& 31)) + Nat.toInt32 k2) := by
  have hk64 := hk.lt
  have hk264 := hk2.lt
  obtain ⟨h1, h2⟩ := h.1 k hk64 hk.1
  obtain ⟨h3, h4⟩ := (hS.at hq hk64).mp h1
  have hji : j.toInt = ((64 * q + k : Nat) : Int) := by rw [hj]; exact own_ti (by omega)
  refine Or.inr ⟨64 * (64 * q + k) + k2, own_sh6 hji (by omega) hk264, by omega, ⟨by omega, ?_⟩, fun c hc1 hc2 hm => ?_⟩
  · rw [show (64 * (64 * q + k) + k2) / 64 = 64 * q + k by omega, show (64 * (64 * q + k) + k2) % 64 = k2 by omega]; exact hk2.1
  · obtain ⟨h5, h6⟩ := h.2 c hc1 hm
    by_cases e : c / 64 / 64 = q
    · have h7 := h6 e
      have h8 : ¬ c / 64 % 64 < k := fun z => by rw [hk.2 _ z] at h7; cases h7
      have h9 : c / 64 = 64 * q + k := by omega
      have h10 := hm.2
      rw [h9, hk2.2 (c % 64) (by omega)] at h10; cases h10
    · omega
/-- a bit is set -/
theorem sx_set {n ns : Nat} {w u : Nat → Int64} {b : Nat} {mb ms : Int64} (hS : Sx n ns w u) (hb : b / 64 < n) (h1 : ∀ i, i < 64 → bt mb i = decide (b % 64 = i)) (h2 : ∀ i, i < 64 → bt ms i = decide (b / 64 % 64 = i)) :
    Sx n ns (upd w (b / 64) (w (b / 64) ||| mb)) (upd u (b / 64 / 64) (u (b / 64 / 64) ||| ms)) ∧ ∀ c, mem n (upd w (b / 64) (w (b / 64) ||| mb)) c ↔ mem n w c ∨ c = b := by
  have hnz : w (b / 64) ||| mb ≠ 0 := fun e => by
    have := bt_or (w (b / 64)) mb (b % 64)
    rw [e, bt_0, h1 _ (by omega)] at this
    simp at this
  refine ⟨⟨hS.1, fun i hi => ?_⟩, fun c => ?_⟩
  · have h0 := hS.2 i hi
    by_cases e : i = b / 64
    · subst e
      simp only [upd, if_true]
      rw [bt_or, h2 _ (by omega)]
      simp [hnz, hb]
    · have e1 : upd w (b / 64) (w (b / 64) ||| mb) i = w i := by simp only [upd, e, if_false]
      rw [e1, ← h0]
      by_cases e2 : i / 64 = b / 64 / 64
      · have e3 : upd u (b / 64 / 64) (u (b / 64 / 64) ||| ms) (i / 64) = (u (i / 64) ||| ms) := by simp only [upd, e2, if_true]
        rw [e3, bt_or, h2 _ (by omega), decide_eq_false (by omega)]; simp
      · have e3 : upd u (b / 64 / 64) (u (b / 64 / 64) ||| ms) (i / 64) = u (i / 64) := by simp only [upd, e2, if_false]
        rw [e3]
  · unfold mem
    by_cases e : c / 64 = b / 64
    · have e1 : upd w (b / 64) (w (b / 64) ||| mb) (c / 64) = (w (c / 64) ||| mb) := by simp only [upd, e, if_true]
      rw [e1, bt_or, h1 _ (by omega)]
      constructor
      · intro ⟨q1, q2⟩
        cases hq : bt (w (c / 64)) (c % 64) with
        | true => exact Or.inl ⟨q1, rfl⟩
        | false => rw [hq] at q2; simp at q2; exact Or.inr (by omega)
      · intro q
        rcases q with q | q
        · exact ⟨q.1, by rw [q.2]; rfl⟩
        · subst q; exact ⟨hb, by simp⟩
    · have e1 : upd w (b / 64) (w (b / 64) ||| mb) (c / 64) = w (c / 64) := by simp only [upd, e, if_false]
      rw [e1]
      constructor
      · exact Or.inl
      · intro q
        rcases q with q | q
        · exact q
        · exact absurd (by rw [q]) e
theorem bt_one {q : Int32} {f : Nat} (hq : q.toInt = (f : Int)) : ∀ i, i < 64 → bt ((1 : Int64) <<< (q &&& 0x3f).toInt64) i = decide (f % 64 = i) := fun i hi => by
  rw [bt_shl _ hq hi, bt_1]
  by_cases h : f % 64 = i
  · simp [h]
  · by_cases h2 : f % 64 ≤ i
    · simp [h, h2]; omega
    · simp [h, h2]
theorem bt_from {q : Int32} {f : Nat} (hq : q.toInt = (f : Int)) (x : Int64) : ∀ i, i < 64 → bt (x &&& ((-1 : Int64) <<< (q &&& 0x3f).toInt64)) i = (bt x i && decide (f % 64 ≤ i)) := fun i hi => by
  rw [bt_and, bt_shl _ hq hi]
  by_cases h2 : f % 64 ≤ i
  · rw [bt_m1 (by omega)]; simp [h2]
  · simp [h2]
theorem upd_wd (w : Nat → Int64) (k : Nat) (v : Int64) (i : Nat) : upd (Wd w) k (.long v) i = Wd (upd w k v) i := by
  simp only [upd, Wd]; split <;> rfl
theorem sx_zero {n ns : Nat} (h : n ≤ 64 * ns) : Sx n ns (fun _ => 0) (fun _ => 0) := ⟨h, fun i _ => by simp [bt_0]⟩
theorem mem_zero (n b : Nat) : ¬ mem n (fun _ => 0) b := fun h => by have := h.2; simp [bt_0] at this
/-! setAll -/
def Sa (c n ns k : Nat) (w u : Nat → Int64) : Prop := (∀ i, i < n → ∀ j, j < 64 → bt (w i) j = (decide (i < k) && decide (64 * i + j < c))) ∧ ∀ i, i < 64 * ns → bt (u (i / 64)) (i % 64) = decide (i < k)
theorem sa_zero (c n ns : Nat) : Sa c n ns 0 (fun _ => 0) (fun _ => 0) := ⟨fun i _ j _ => by simp [bt_0], fun i _ => by simp [bt_0]⟩
theorem sa_next {c n ns k : Nat} {w u : Nat → Int64} {v m : Int64} (h : Sa c n ns k w u) (h1 : ∀ j, j < 64 → bt v j = decide (64 * k + j < c)) (h2 : ∀ i, i < 64 → bt m i = decide (k % 64 = i)) : Sa c n ns (k + 1) (upd w k v) (upd u (k / 64) (u (k / 64) ||| m)) := by
  refine ⟨fun i hi j hj => ?_, fun i hi => ?_⟩
  · by_cases e : i = k
    · subst e; simp only [upd, if_true]; rw [h1 j hj]; simp
    · simp only [upd, e, if_false]; rw [h.1 i hi j hj, show decide (i < k + 1) = decide (i < k) from decide_eq_decide.mpr (by omega)]
  · by_cases e : i / 64 = k / 64
    · have e1 : upd u (k / 64) (u (k / 64) ||| m) (i / 64) = (u (i / 64) ||| m) := by simp only [upd, e, if_true]
      rw [e1, bt_or, h.2 i hi, h2 _ (by omega)]
      by_cases q : i = k
      · subst q; simp
      · rw [decide_eq_false (show ¬ k % 64 = i % 64 by omega), Bool.or_false]; exact decide_eq_decide.mpr (by omega)
    · have e1 : upd u (k / 64) (u (k / 64) ||| m) (i / 64) = u (i / 64) := by simp only [upd, e, if_false]
      rw [e1, h.2 i hi]; exact decide_eq_decide.mpr (by omega)
theorem sa_end {c n ns : Nat} {w u : Nat → Int64} (hn : n = (c + 63) / 64) (hns : n ≤ 64 * ns) (h : Sa c n ns n w u) : Sx n ns w u ∧ ∀ b, mem n w b ↔ b < c := by
  have key : ∀ b, mem n w b ↔ b < c := fun b => by
    unfold mem
    constructor
    · intro ⟨q1, q2⟩
      rw [h.1 _ q1 _ (by omega)] at q2; simp at q2; omega
    · intro q
      have q1 : b / 64 < n := by omega
      refine ⟨q1, ?_⟩
      rw [h.1 _ q1 _ (by omega)]; simp; omega
  refine ⟨⟨hns, fun i hi => ?_⟩, key⟩
  rw [h.2 i hi]
  constructor
  · intro q
    have q1 : i < n := of_decide_eq_true q
    refine ⟨q1, fun e => ?_⟩
    have := h.1 i q1 0 (by omega)
    rw [e, bt_0] at this; simp at this; omega
  · intro q; exact decide_eq_true q.1
theorem bt_full {j d : Nat} {q : Int32} (hq : q.toInt = (d : Int)) (hd : d < 64) (hj : j < 64) : bt (((1 : Int64) <<< (q &&& 0x3f).toInt64) - (1 : Int64)) j = decide (j < d) := by
  have h1 := bt_one hq
  have hl : Low ((1 : Int64) <<< (q &&& 0x3f).toInt64) d := ⟨by rw [h1 d hd]; exact decide_eq_true (by omega), fun i hi => by rw [h1 i (by omega)]; exact decide_eq_false (by omega)⟩
  rw [bt_pred hl]
  by_cases a : j < d
  · rw [if_pos a]; exact (decide_eq_true a).symm
  · rw [if_neg a]
    by_cases b : j = d
    · rw [if_pos b]; exact (decide_eq_false a).symm
    · rw [if_neg b, h1 j hj]; rw [decide_eq_false (show ¬ d % 64 = j by omega)]; exact (decide_eq_false a).symm
/-! clear -/
def Oc (n ns p : Nat) (w u : Nat → Int64) : Prop := (∀ i, i < n → i / 64 < p → w i = 0) ∧ (∀ i, i < 64 * ns → p ≤ i / 64 → (bt (u (i / 64)) (i % 64) = true ↔ i < n ∧ w i ≠ 0)) ∧ ∀ q, q < p → u q = 0
def Ic (n ns p : Nat) (w u : Nat → Int64) (held : Int64) : Prop := (∀ i, i < n → i / 64 < p → w i = 0) ∧ (∀ k, k < 64 → bt held k = true → 64 * p + k < n) ∧ (∀ i, i < n → i / 64 = p → w i ≠ 0 → bt held (i % 64) = true) ∧ (∀ i, i < 64 * ns → p < i / 64 → (bt (u (i / 64)) (i % 64) = true ↔ i < n ∧ w i ≠ 0)) ∧ ∀ q, q < p → u q = 0
theorem oc_start {n ns : Nat} {w u : Nat → Int64} (h : Sx n ns w u) : Oc n ns 0 w u := ⟨fun i _ q => absurd q (Nat.not_lt_zero _), fun i hi _ => h.2 i hi, fun q h => absurd h (Nat.not_lt_zero _)⟩
theorem ic_start {n ns p : Nat} {w u : Nat → Int64} (hn : n ≤ 64 * ns) (h : Oc n ns p w u) (hp : p < ns) : Ic n ns p w u (u p) := by
  refine ⟨h.1, fun k hk hb => ?_, fun i hi e hw => ?_, fun i hi hp' => h.2.1 i hi (by omega), h.2.2⟩
  · have := h.2.1 (64 * p + k) (by omega) (by omega)
    rw [show (64 * p + k) / 64 = p by omega, show (64 * p + k) % 64 = k by omega] at this
    exact (this.mp hb).1
  · have := (h.2.1 i (by omega) (by omega)).mpr ⟨hi, hw⟩
    rw [e] at this; exact this
theorem ic_step {n ns p k : Nat} {w u : Nat → Int64} {held : Int64} (h : Ic n ns p w u held) (hk : Low held k) : Ic n ns p (upd w (64 * p + k) 0) u (held &&& (held - 1)) := by
  have hk64 := hk.lt
  refine ⟨fun i hi hp => ?_, fun j hj hb => ?_, fun i hi e hw => ?_, fun i hi hp => ?_, h.2.2.2.2⟩
  · by_cases q : i = 64 * p + k
    · simp only [upd, q, if_true]
    · simp only [upd, q, if_false]; exact h.1 i hi hp
  · rw [bt_clr hk] at hb; simp at hb; exact h.2.1 j hj hb.1
  · have q : i ≠ 64 * p + k := fun z => hw (by simp only [upd, z, if_true])
    have hw' : w i ≠ 0 := by simpa only [upd, q, if_false] using hw
    rw [bt_clr hk, h.2.2.1 i hi e hw']; simp; omega
  · have q : i ≠ 64 * p + k := by omega
    have e1 : upd w (64 * p + k) 0 i = w i := by simp only [upd, q, if_false]
    rw [e1]; exact h.2.2.2.1 i hi hp
theorem ic_end {n ns p : Nat} {w u : Nat → Int64} (h : Ic n ns p w u 0) : Oc n ns (p + 1) w (upd u p 0) := by
  refine ⟨fun i hi hp => ?_, fun i hi hp => ?_, fun q hq => ?_⟩
  · by_cases q : i / 64 < p
    · exact h.1 i hi q
    · refine Classical.byContradiction fun z => ?_
      have := h.2.2.1 i hi (by omega) z
      rw [bt_0] at this; cases this
  · have q : i / 64 ≠ p := by omega
    have e1 : upd u p 0 (i / 64) = u (i / 64) := by simp only [upd, q, if_false]
    rw [e1]; exact h.2.2.2.1 i hi (by omega)
  · by_cases e : q = p
    · simp only [upd, e, if_true]
    · simp only [upd, e, if_false]; exact h.2.2.2.2 q (by omega)
theorem oc_mem {n ns : Nat} {w u : Nat → Int64} (hn : n ≤ 64 * ns) (h : Oc n ns ns w u) (b : Nat) : ¬ mem n w b := fun hm => mem_nz hm (h.1 _ hm.1 (by have := hm.1; omega))
theorem oc_sx {n ns : Nat} {w u : Nat → Int64} (hn : n ≤ 64 * ns) (h : Oc n ns ns w u) : Sx n ns w u := ⟨hn, fun i hi => by
  rw [h.2.2 (i / 64) (by omega), bt_0]
  constructor
  · intro q; cases q
  · intro q; exact absurd (h.1 i q.1 (by omega)) q.2⟩
theorem own_ltn {x : Int32} {a b : Nat} (hx : x.toInt = (a : Int)) (hb : b < 2 ^ 31) : x < Nat.toInt32 b ↔ a < b := by
  rw [Int32.lt_iff_toInt_lt, own_ti hb, hx]; omega
theorem own_eqn {x : Int32} {a b : Nat} (hx : x.toInt = (a : Int)) (hb : b < 2 ^ 31) : x = Nat.toInt32 b ↔ a = b := by
  constructor
  · intro q; rw [q, own_ti hb] at hx; omega
  · intro q; subst q; exact own_eqi hx
theorem ef_rm1 (m : MethodId) (x0 : Addr) (x1 : Int32) : entryFrame m #[(.ref x0), (.int x1)] 2 = mkF m 0 #[.val (.ref x0), .val (.int x1)] [] := by first | (simp [entryFrame, mkF, argsToLocals, Value.category]; done) | rfl
theorem pn_rm1 : plainName "com/example/polite_edges/politeedges/layered/SparseBitSet" = true := by first | (simp [plainName, overriddenIn]; done) | decide +kernel
def Q_rm1 (Z : State) (a1 : Addr) (p2 : Int32) (u_capacity u_words u_summary : Value) (cp : Nat) (h0 : Heap) (n0 : Nat) (v : Option Value) (h : Heap) (L : List Loc) : Prop := v = none ∧ Fr n0 L ∧ Keep h0 h [a1] ∧ ∃ wa sa : Addr, n0 ≤ wa ∧ n0 ≤ sa ∧ a1 ≠ wa ∧ a1 ≠ sa ∧ wa ≠ sa ∧ Fld Z h a1 "com/example/polite_edges/politeedges/layered/SparseBitSet" "capacity" "I" (.int p2) ∧ Fld Z h a1 "com/example/polite_edges/politeedges/layered/SparseBitSet" "words" "[J" (.ref wa) ∧ Fld Z h a1 "com/example/polite_edges/politeedges/layered/SparseBitSet" "summary" "[J" (.ref sa) ∧ Av Z h wa .long ((cp + 63) / 64) (Wd fun _ => 0) ∧ Av Z h sa .long (((cp + 63) / 64 + 63) / 64) (Wd fun _ => 0)
set_option maxRecDepth 65536 in
set_option maxHeartbeats 40000000 in
theorem rm1 (l : Launch) (Z : State) (a0 : Array Value) (hw : ∀ d ∈ tables_1, d.before a0 Z = true) (ws : List Jvm.Cond) (a1 : Addr) (p2 : Int32) (h0 : Heap) (n0 : Nat) (Z0 : n0 ≤ h0.size) (u_capacity u_words u_summary : Value) (cp : Nat) (E1 : Exa Z h0 a1 "com/example/polite_edges/politeedges/layered/SparseBitSet") (g1 : n0 ≤ a1) (F_capacity : Fld Z h0 a1 "com/example/polite_edges/politeedges/layered/SparseBitSet" "capacity" "I" u_capacity) (F_words : Fld Z h0 a1 "com/example/polite_edges/politeedges/layered/SparseBitSet" "words" "[J" u_words) (F_summary : Fld Z h0 a1 "com/example/polite_edges/politeedges/layered/SparseBitSet" "summary" "[J" u_summary) (hc : p2.toInt = (cp : Int)) (hcb : cp ≤ 16384) :
    MetFree l (⟨"com/example/polite_edges/politeedges/layered/SparseBitSet", "<init>", "(I)V"⟩ : MethodName) (head1 (Jvm.Cond.code (⟨"com/example/polite_edges/politeedges/layered/SparseBitSet", "<init>", "(I)V"⟩ : MethodName) prog_72_method_1_code 2 none :: ws) ({ frames := 1, cells := 2, slots := 260, locals := 12 } : Room)) (fun a U => a = #[(.ref a1), (.int p2)] ∧ Z.Warmed39 U.vm ∧ U.heap = h0) (fun _ _ _ _ _ => True) (fun _ U o U' => ∃ v L, o = .returned v ∧ Q_rm1 Z a1 p2 u_capacity u_words u_summary cp h0 n0 v U'.heap L ∧ FrameEnd U o U' L ({ frames := 1, cells := 2, slots := 260, locals := 12 } : Room).cells ({ frames := 1, cells := 2, slots := 260, locals := 12 } : Room).slots) := by
  refine MetFree.of_bodySF (plainFor_of_name pn_rm1) hisR ?_
  intro p e s m args below meth c s₁ Bd hml0 hP hK
  obtain ⟨rfl, hZ, hh⟩ := hP
  have hx := Bd.exec
  have hby := Bd.bytes
  have hml : c.maxLocals = 2 := hml0
  have hown : s.vm.findClass "com/example/polite_edges/politeedges/layered/SparseBitSet" = some m.cls := findClass_of_methodNamed Bd.named
  have hnm := (name_of_methodNamed Bd.named Bd.method).1
  have X0 : Stand p l e ({ frames := 1, cells := 2, slots := 260, locals := 12 } : Room) s m #[(.ref a1), (.int p2)] below meth c s₁ [] 0 0 := Stand.of_body Bd
  have e0 : s₁.heap = h0 := by rw [← hh, Bd.state]; rfl
  have N0 := Fr.nil n0
  have hlk : meth.locks = false := BodyLoose.notSynchronized Bd
  have hrt := Bd.returns
  have hG := Goes.bk p e below s (fun (v : Option Value) (h : Heap) (L : List Loc) => v = none ∧ Fr n0 L ∧ Keep h0 h [a1] ∧ ∃ wa sa : Addr, n0 ≤ wa ∧ n0 ≤ sa ∧ a1 ≠ wa ∧ a1 ≠ sa ∧ wa ≠ sa ∧ Fld Z h a1 "com/example/polite_edges/politeedges/layered/SparseBitSet" "capacity" "I" (.int p2) ∧ Fld Z h a1 "com/example/polite_edges/politeedges/layered/SparseBitSet" "words" "[J" (.ref wa) ∧ Fld Z h a1 "com/example/polite_edges/politeedges/layered/SparseBitSet" "summary" "[J" (.ref sa) ∧ Av Z h wa .long ((cp + 63) / 64) (Wd fun _ => 0) ∧ Av Z h sa .long (((cp + 63) / 64 + 63) / 64) (Wd fun _ => 0)) 2 260
  show Goes p e below s (fun (v : Option Value) (h : Heap) (L : List Loc) => v = none ∧ Fr n0 L ∧ Keep h0 h [a1] ∧ ∃ wa sa : Addr, n0 ≤ wa ∧ n0 ≤ sa ∧ a1 ≠ wa ∧ a1 ≠ sa ∧ wa ≠ sa ∧ Fld Z h a1 "com/example/polite_edges/politeedges/layered/SparseBitSet" "capacity" "I" (.int p2) ∧ Fld Z h a1 "com/example/polite_edges/politeedges/layered/SparseBitSet" "words" "[J" (.ref wa) ∧ Fld Z h a1 "com/example/polite_edges/politeedges/layered/SparseBitSet" "summary" "[J" (.ref sa) ∧ Av Z h wa .long ((cp + 63) / 64) (Wd fun _ => 0) ∧ Av Z h sa .long (((cp + 63) / 64 + 63) / 64) (Wd fun _ => 0)) 2 260 s₁ (entryFrame m #[(.ref a1), (.int p2)] 2)
  rw [ef_rm1 m a1 p2]
  have K0 : Keep h0 h0 [a1] := Keep.refl h0 [a1]
  refine hG _ s₁ _ (mkF m 1 #[.val (.ref a1), .val (.int p2)] [(.ref a1)]) (fun t kq_ => XS.aloadN X0.here hx rfl (hb hby d1_0) rfl rfl kq_) ?_
  obtain ⟨T1, X1, e1, st1⟩ := initO X0 hx hZ hown (tw6 hw) (tw7 hw) (tw8 hw) e0 (g := (mkF m 1 #[.val (.ref a1), .val (.int p2)] [(.ref a1)])) rfl (by rw [hml]; rfl) rfl (hb hby d1_1) (by decide) (W := 0) (by show 2 * 0 + _ ≤ _; exact Nat.le_of_eq rfl) (by decide)
  refine hG _ T1 _ (mkF m 4 #[.val (.ref a1), .val (.int p2)] []) st1 ?_
  refine hG _ T1 _ (mkF m 5 #[.val (.ref a1), .val (.int p2)] [(.ref a1)]) (fun t kq_ => XS.aloadN X1.here hx rfl (hb hby d1_4) rfl rfl kq_) ?_
  refine hG _ T1 _ (mkF m 6 #[.val (.ref a1), .val (.int p2)] [(.int p2), (.ref a1)]) (fun t kq_ => XS.iloadN X1.here hx rfl (hb hby d1_5) rfl kq_) ?_
  obtain ⟨T2, h2, X2, e2, W2, st2⟩ := putF X1 hx hZ hown (host := "") (Or.inl (tw9 hw)) Via.refl e1 F_capacity E1 (Or.inr ⟨(tw10 hw), rfl, hnm⟩) (tw1 hw) (ty := .int) (by decide) rfl rfl (g := (mkF m 6 #[.val (.ref a1), .val (.int p2)] [(.int p2), (.ref a1)])) rfl rfl (hb hby d1_6)
  have F_capacity_a1_2 : Fld Z h2 a1 "com/example/polite_edges/politeedges/layered/SparseBitSet" "capacity" "I" (.int p2) := F_capacity.same W2
  have Zs3 : n0 ≤ h2.size := Nat.le_trans Z0 (Keep.of_wr W2).1
  have KK4 : Keep h0 h2 [a1] := K0.wr W2 (Or.inl (List.mem_of_getElem? (i := 0) rfl))
  have N2 := Fr.snoc X2 N0 g1
  refine hG _ T2 _ (mkF m 9 #[.val (.ref a1), .val (.int p2)] []) st2 ?_
  refine hG _ T2 _ (mkF m 10 #[.val (.ref a1), .val (.int p2)] [(.ref a1)]) (fun t kq_ => XS.aloadN X2.here hx rfl (hb hby d1_9) rfl rfl kq_) ?_
  refine hG _ T2 _ (mkF m 11 #[.val (.ref a1), .val (.int p2)] [(.int p2), (.ref a1)]) (fun t kq_ => XS.iloadN X2.here hx rfl (hb hby d1_10) rfl kq_) ?_
  refine hG _ T2 _ (mkF m 13 #[.val (.ref a1), .val (.int p2)] [(.int (63 : Int32)), (.int p2), (.ref a1)]) (fun t kq_ => XS.bipush X2.here hx rfl (hb hby d1_11) kq_) ?_
  refine hG _ T2 _ (mkF m 14 #[.val (.ref a1), .val (.int p2)] [(.int (p2 + (63 : Int32))), (.ref a1)]) (fun t kq_ => XS.iadd X2.here hx rfl (hb hby d1_13) rfl kq_) ?_
  refine hG _ T2 _ (mkF m 16 #[.val (.ref a1), .val (.int p2)] [(.int (6 : Int32)), (.int (p2 + (63 : Int32))), (.ref a1)]) (fun t kq_ => XS.bipush X2.here hx rfl (hb hby d1_14) kq_) ?_
  refine hG _ T2 _ (mkF m 17 #[.val (.ref a1), .val (.int p2)] [(.int (((p2 + (63 : Int32)).toUInt32 >>> ((6 : Int32) &&& 31).toUInt32).toInt32)), (.ref a1)]) (fun t kq_ => XS.iushr X2.here hx rfl (hb hby d1_16) rfl kq_) ?_
  have E1'6 : Exa Z h2 a1 "com/example/polite_edges/politeedges/layered/SparseBitSet" := (E1.wr W2)
  have hz5 : (((p2 + (63 : Int32)).toUInt32 >>> ((6 : Int32) &&& 31).toUInt32).toInt32).toInt = ((((cp + 63) / 64) : Nat) : Int) := own_ush6 (own_plus hc (by omega) (by decide) (d := 63) rfl)
  obtain ⟨T5, h5, k5, X5, e5, E5, A5, st5⟩ := newP (aty := .long) X2 hx hZ (tw11 hw) e2 (g := (mkF m 17 #[.val (.ref a1), .val (.int p2)] [(.int (((p2 + (63 : Int32)).toUInt32 >>> ((6 : Int32) &&& 31).toUInt32).toInt32)), (.ref a1)])) rfl (hb hby d1_17) rfl (own_nn hz5) (cap := 256) (by rw [tn_of hz5]; exact (by omega)) (by decide) (by decide) (by decide)
  obtain ⟨b5, g5⟩ : ∃ z, z = h2.size := ⟨_, rfl⟩
  rw [← g5] at A5 st5
  have ne_a1_b5 : a1 ≠ b5 := Nat.ne_of_lt (Nat.lt_of_lt_of_le E1'6.lt (Nat.le_of_eq g5.symm))
  have g_b5 : n0 ≤ b5 := Nat.le_trans Zs3 (Nat.le_of_eq g5.symm)
  have sz_b5 : h0.size ≤ b5 := Nat.le_trans KK4.1 (Nat.le_of_eq g5.symm)
  have Zs7 : n0 ≤ h5.size := Nat.le_trans Zs3 E5.1
  have KK8 : Keep h0 h5 [a1] := KK4.ext E5
  have V_b5 : Av Z h5 b5 .long ((cp + 63) / 64) (fun _ => (.long (0 : Int64))) := Av.new A5 hz5
  refine hG _ T5 _ (mkF m 19 #[.val (.ref a1), .val (.int p2)] [(.ref b5), (.ref a1)]) st5 ?_
  have F_words'9 : Fld Z h5 a1 "com/example/polite_edges/politeedges/layered/SparseBitSet" "words" "[J" u_words := ((F_words.other W2 (Or.inr (slot_ne (Or.inr (tw13 hw)) (Or.inr (tw10 hw)) (by decide) (t := (.array .long)) (t' := .int) (by decide) (by decide)))).ext E5)
  have E1'10 : Exa Z h5 a1 "com/example/polite_edges/politeedges/layered/SparseBitSet" := (E1'6.ext E5)
  obtain ⟨T11, h11, X11, e11, W11, st11⟩ := putF X5 hx hZ hown (host := "") (Or.inl (tw12 hw)) Via.refl e5 F_words'9 E1'10 (Or.inr ⟨(tw13 hw), rfl, hnm⟩) (tw1 hw) (ty := (.array .long)) (by decide) rfl rfl (g := (mkF m 19 #[.val (.ref a1), .val (.int p2)] [(.ref b5), (.ref a1)])) rfl rfl (hb hby d1_19)
  have F_words_a1_11 : Fld Z h11 a1 "com/example/polite_edges/politeedges/layered/SparseBitSet" "words" "[J" (.ref b5) := F_words'9.same W11
  have Zs12 : n0 ≤ h11.size := Nat.le_trans Zs7 (Keep.of_wr W11).1
  have KK13 : Keep h0 h11 [a1] := KK8.wr W11 (Or.inl (List.mem_of_getElem? (i := 0) rfl))
  have N11 := Fr.snoc X11 N2 g1
  refine hG _ T11 _ (mkF m 22 #[.val (.ref a1), .val (.int p2)] []) st11 ?_
  refine hG _ T11 _ (mkF m 23 #[.val (.ref a1), .val (.int p2)] [(.ref a1)]) (fun t kq_ => XS.aloadN X11.here hx rfl (hb hby d1_22) rfl rfl kq_) ?_
  refine hG _ T11 _ (mkF m 24 #[.val (.ref a1), .val (.int p2)] [(.ref a1), (.ref a1)]) (fun t kq_ => XS.aloadN X11.here hx rfl (hb hby d1_23) rfl rfl kq_) ?_
  obtain ⟨T14, X14, e14, st14⟩ := getF X11 hx hZ hown (host := "") (Or.inl (tw12 hw)) Via.refl e11 F_words_a1_11 (g := (mkF m 24 #[.val (.ref a1), .val (.int p2)] [(.ref a1), (.ref a1)])) rfl rfl (hb hby d1_24)
  refine hG _ T14 _ (mkF m 27 #[.val (.ref a1), .val (.int p2)] [(.ref b5), (.ref a1)]) st14 ?_
  have V_b5'15 : Av Z h11 b5 .long ((cp + 63) / 64) (fun _ => (.long (0 : Int64))) := (V_b5.other W11 (Ne.symm ne_a1_b5))
  refine hG _ T14 _ (mkF m 28 #[.val (.ref a1), .val (.int p2)] [(.int (Nat.toInt32 ((cp + 63) / 64))), (.ref a1)]) (Av.len X14 hx hZ e14 V_b5'15 (g := (mkF m 27 #[.val (.ref a1), .val (.int p2)] [(.ref b5), (.ref a1)])) rfl rfl (hb hby d1_27)) ?_
  refine hG _ T14 _ (mkF m 30 #[.val (.ref a1), .val (.int p2)] [(.int (63 : Int32)), (.int (Nat.toInt32 ((cp + 63) / 64))), (.ref a1)]) (fun t kq_ => XS.bipush X14.here hx rfl (hb hby d1_28) kq_) ?_
  refine hG _ T14 _ (mkF m 31 #[.val (.ref a1), .val (.int p2)] [(.int ((Nat.toInt32 ((cp + 63) / 64)) + (63 : Int32))), (.ref a1)]) (fun t kq_ => XS.iadd X14.here hx rfl (hb hby d1_30) rfl kq_) ?_
  refine hG _ T14 _ (mkF m 33 #[.val (.ref a1), .val (.int p2)] [(.int (6 : Int32)), (.int ((Nat.toInt32 ((cp + 63) / 64)) + (63 : Int32))), (.ref a1)]) (fun t kq_ => XS.bipush X14.here hx rfl (hb hby d1_31) kq_) ?_
  refine hG _ T14 _ (mkF m 34 #[.val (.ref a1), .val (.int p2)] [(.int ((((Nat.toInt32 ((cp + 63) / 64)) + (63 : Int32)).toUInt32 >>> ((6 : Int32) &&& 31).toUInt32).toInt32)), (.ref a1)]) (fun t kq_ => XS.iushr X14.here hx rfl (hb hby d1_33) rfl kq_) ?_
  have E1'17 : Exa Z h11 a1 "com/example/polite_edges/politeedges/layered/SparseBitSet" := (E1'10.wr W11)
  have hz16 : ((((Nat.toInt32 ((cp + 63) / 64)) + (63 : Int32)).toUInt32 >>> ((6 : Int32) &&& 31).toUInt32).toInt32).toInt = (((((cp + 63) / 64 + 63) / 64) : Nat) : Int) := own_ush6 (own_plus (own_ti (by omega)) (by omega) (by decide) (d := 63) rfl)
  obtain ⟨T16, h16, k16, X16, e16, E16, A16, st16⟩ := newP (aty := .long) X14 hx hZ (tw11 hw) e14 (g := (mkF m 34 #[.val (.ref a1), .val (.int p2)] [(.int ((((Nat.toInt32 ((cp + 63) / 64)) + (63 : Int32)).toUInt32 >>> ((6 : Int32) &&& 31).toUInt32).toInt32)), (.ref a1)])) rfl (hb hby d1_34) rfl (own_nn hz16) (cap := 4) (by rw [tn_of hz16]; exact (by omega)) (by decide) (by decide) (by decide)
  obtain ⟨b16, g16⟩ : ∃ z, z = h11.size := ⟨_, rfl⟩
  rw [← g16] at A16 st16
  have ne_a1_b16 : a1 ≠ b16 := Nat.ne_of_lt (Nat.lt_of_lt_of_le E1'17.lt (Nat.le_of_eq g16.symm))
  have ne_b5_b16 : b5 ≠ b16 := Nat.ne_of_lt (Nat.lt_of_lt_of_le V_b5'15.lt (Nat.le_of_eq g16.symm))
  have g_b16 : n0 ≤ b16 := Nat.le_trans Zs12 (Nat.le_of_eq g16.symm)
  have sz_b16 : h0.size ≤ b16 := Nat.le_trans KK13.1 (Nat.le_of_eq g16.symm)
  have Zs18 : n0 ≤ h16.size := Nat.le_trans Zs12 E16.1
  have KK19 : Keep h0 h16 [a1] := KK13.ext E16
  have V_b16 : Av Z h16 b16 .long (((cp + 63) / 64 + 63) / 64) (fun _ => (.long (0 : Int64))) := Av.new A16 hz16
  refine hG _ T16 _ (mkF m 36 #[.val (.ref a1), .val (.int p2)] [(.ref b16), (.ref a1)]) st16 ?_
  have F_summary'20 : Fld Z h16 a1 "com/example/polite_edges/politeedges/layered/SparseBitSet" "summary" "[J" u_summary := ((((F_summary.other W2 (Or.inr (slot_ne (Or.inr (tw15 hw)) (Or.inr (tw10 hw)) (by decide) (t := (.array .long)) (t' := .int) (by decide) (by decide)))).ext E5).other W11 (Or.inr (slot_ne (Or.inr (tw15 hw)) (Or.inr (tw13 hw)) (by decide) (t := (.array .long)) (t' := (.array .long)) (by decide) (by decide)))).ext E16)
  have E1'21 : Exa Z h16 a1 "com/example/polite_edges/politeedges/layered/SparseBitSet" := (E1'17.ext E16)
  obtain ⟨T22, h22, X22, e22, W22, st22⟩ := putF X16 hx hZ hown (host := "") (Or.inl (tw14 hw)) Via.refl e16 F_summary'20 E1'21 (Or.inr ⟨(tw15 hw), rfl, hnm⟩) (tw1 hw) (ty := (.array .long)) (by decide) rfl rfl (g := (mkF m 36 #[.val (.ref a1), .val (.int p2)] [(.ref b16), (.ref a1)])) rfl rfl (hb hby d1_36)
  have F_summary_a1_22 : Fld Z h22 a1 "com/example/polite_edges/politeedges/layered/SparseBitSet" "summary" "[J" (.ref b16) := F_summary'20.same W22
  have Zs23 : n0 ≤ h22.size := Nat.le_trans Zs18 (Keep.of_wr W22).1
  have KK24 : Keep h0 h22 [a1] := KK19.wr W22 (Or.inl (List.mem_of_getElem? (i := 0) rfl))
  have N22 := Fr.snoc X22 N11 g1
  refine hG _ T22 _ (mkF m 39 #[.val (.ref a1), .val (.int p2)] []) st22 ?_
  have F_capacity_a1_2'25 : Fld Z h22 a1 "com/example/polite_edges/politeedges/layered/SparseBitSet" "capacity" "I" (.int p2) := ((((F_capacity_a1_2.ext E5).other W11 (Or.inr (slot_ne (Or.inr (tw10 hw)) (Or.inr (tw13 hw)) (by decide) (t := .int) (t' := (.array .long)) (by decide) (by decide)))).ext E16).other W22 (Or.inr (slot_ne (Or.inr (tw10 hw)) (Or.inr (tw15 hw)) (by decide) (t := .int) (t' := (.array .long)) (by decide) (by decide))))
  have F_words_a1_11'26 : Fld Z h22 a1 "com/example/polite_edges/politeedges/layered/SparseBitSet" "words" "[J" (.ref b5) := ((F_words_a1_11.ext E16).other W22 (Or.inr (slot_ne (Or.inr (tw13 hw)) (Or.inr (tw15 hw)) (by decide) (t := (.array .long)) (t' := (.array .long)) (by decide) (by decide))))
  have V_b5'27 : Av Z h22 b5 .long ((cp + 63) / 64) (fun _ => (.long (0 : Int64))) := ((V_b5'15.ext E16).other W22 (Ne.symm ne_a1_b5))
  have V_b16'28 : Av Z h22 b16 .long (((cp + 63) / 64 + 63) / 64) (fun _ => (.long (0 : Int64))) := (V_b16.other W22 (Ne.symm ne_a1_b16))
  exact Goes.retV X22 hx hlk hrt (hb hby d1_39) (by decide : 2 ≤ 2) (by decide : 260 ≤ 260) (by (try rw [e22]); exact ⟨rfl, N22, KK24, b5, b16, g_b5, g_b16, ne_a1_b5, ne_a1_b16, ne_b5_b16, F_capacity_a1_2'25, F_words_a1_11'26, F_summary_a1_22, V_b5'27, V_b16'28⟩)
set_option maxRecDepth 65536 in
set_option maxHeartbeats 40000000 in
theorem nz74 {p : Program} {l : Launch} {e : Env} {s : State} {m : MethodId} {args : Array Value} {below : List Frame} {meth : Method} {c : Code} {T0 : State} {locs : List Loc} {Z : State} {a0 : Array Value} {h0 : Heap} {n0 : Nat} (i nn : Int32)
    (X0 : Stand p l e ({ frames := 0, cells := 0, slots := 0, locals := 0 } : Room) s m args below meth c T0 locs 0 0) (hx : p.tables.exec = Jvm.exec) (hZ : Z.Warmed39 s.vm) (hw : ∀ d ∈ tables_1, d.before a0 Z = true) (hby : c.code = jdk_33_method_48_code) (hml : c.maxLocals = 2) (hown : s.vm.findClass "java/lang/Integer" = some m.cls) (e0 : T0.heap = h0) (Z0 : n0 ≤ h0.size) (N0 : Fr n0 locs) (hlk : meth.locks = false) (hrt : meth.sig.returnType = (some .int)) :
    Goes p e below s (fun (v : Option Value) (h : Heap) (L : List Loc) => v = some (.int (f74 nn i)) ∧ Fr n0 L ∧ h = h0) 0 0 T0 (mkF m 74 #[.val (.int i), .val (.int nn)] []) := by
  have hG := Goes.bk p e below s (fun (v : Option Value) (h : Heap) (L : List Loc) => v = some (.int (f74 nn i)) ∧ Fr n0 L ∧ h = h0) 0 0
  refine hG _ T0 _ (mkF m 75 #[.val (.int i), .val (.int nn)] [(.int nn)]) (fun t kq_ => XS.iloadN X0.here hx rfl (hb hby d7_74) rfl kq_) ?_
  refine hG _ T0 _ (mkF m 76 #[.val (.int i), .val (.int nn)] [(.int i), (.int nn)]) (fun t kq_ => XS.iloadN X0.here hx rfl (hb hby d7_75) rfl kq_) ?_
  refine hG _ T0 _ (mkF m 77 #[.val (.int i), .val (.int nn)] [(.int (1 : Int32)), (.int i), (.int nn)]) (fun t kq_ => XS.iconst X0.here hx rfl (hb hby d7_76) kq_) ?_
  refine hG _ T0 _ (mkF m 78 #[.val (.int i), .val (.int nn)] [(.int ((i.toUInt32 >>> ((1 : Int32) &&& 31).toUInt32).toInt32)), (.int nn)]) (fun t kq_ => XS.iushr X0.here hx rfl (hb hby d7_77) rfl kq_) ?_
  refine hG _ T0 _ (mkF m 79 #[.val (.int i), .val (.int nn)] [(.int (nn + ((i.toUInt32 >>> ((1 : Int32) &&& 31).toUInt32).toInt32)))]) (fun t kq_ => XS.iadd X0.here hx rfl (hb hby d7_78) rfl kq_) ?_
  exact Goes.retI X0 hx hlk hrt (hb hby d7_79) (by decide : 0 ≤ 0) (by decide : 0 ≤ 0) (by (try rw [e0]); exact ⟨rfl, N0, rfl⟩)
set_option maxRecDepth 65536 in
set_option maxHeartbeats 40000000 in
theorem nz62 {p : Program} {l : Launch} {e : Env} {s : State} {m : MethodId} {args : Array Value} {below : List Frame} {meth : Method} {c : Code} {T0 : State} {locs : List Loc} {Z : State} {a0 : Array Value} {h0 : Heap} {n0 : Nat} (i nn : Int32)
    (X0 : Stand p l e ({ frames := 0, cells := 0, slots := 0, locals := 0 } : Room) s m args below meth c T0 locs 0 0) (hx : p.tables.exec = Jvm.exec) (hZ : Z.Warmed39 s.vm) (hw : ∀ d ∈ tables_1, d.before a0 Z = true) (hby : c.code = jdk_33_method_48_code) (hml : c.maxLocals = 2) (hown : s.vm.findClass "java/lang/Integer" = some m.cls) (e0 : T0.heap = h0) (Z0 : n0 ≤ h0.size) (N0 : Fr n0 locs) (hlk : meth.locks = false) (hrt : meth.sig.returnType = (some .int)) :
    Goes p e below s (fun (v : Option Value) (h : Heap) (L : List Loc) => v = some (.int (f62 nn i)) ∧ Fr n0 L ∧ h = h0) 0 0 T0 (mkF m 62 #[.val (.int i), .val (.int nn)] []) := by
  have hG := Goes.bk p e below s (fun (v : Option Value) (h : Heap) (L : List Loc) => v = some (.int (f62 nn i)) ∧ Fr n0 L ∧ h = h0) 0 0
  refine hG _ T0 _ (mkF m 63 #[.val (.int i), .val (.int nn)] [(.int i)]) (fun t kq_ => XS.iloadN X0.here hx rfl (hb hby d7_62) rfl kq_) ?_
  refine hG _ T0 _ (mkF m 64 #[.val (.int i), .val (.int nn)] [(.int (4 : Int32)), (.int i)]) (fun t kq_ => XS.iconst X0.here hx rfl (hb hby d7_63) kq_) ?_
  by_cases hc64 : (4 : Int32) < i
  · refine hG _ T0 _ (mkF m 67 #[.val (.int i), .val (.int nn)] []) (fun t kq_ => XS.icmpNo X0.here hx rfl (hb hby d7_64) rfl (tlt hc64).2.2.2 kq_) ?_
    refine hG _ T0 _ (mkF m 70 #[.val (.int i), .val (.int (nn + (2 : Int32)))] []) (fun t kq_ => XS.iinc X0.here hx rfl (hb hby d7_67) rfl (l' := #[.val (.int i), .val (.int (nn + (2 : Int32)))]) rfl kq_) ?_
    refine hG _ T0 _ (mkF m 71 #[.val (.int i), .val (.int (nn + (2 : Int32)))] [(.int i)]) (fun t kq_ => XS.iloadN X0.here hx rfl (hb hby d7_70) rfl kq_) ?_
    refine hG _ T0 _ (mkF m 72 #[.val (.int i), .val (.int (nn + (2 : Int32)))] [(.int (2 : Int32)), (.int i)]) (fun t kq_ => XS.iconst X0.here hx rfl (hb hby d7_71) kq_) ?_
    refine hG _ T0 _ (mkF m 73 #[.val (.int i), .val (.int (nn + (2 : Int32)))] [(.int ((i.toUInt32 >>> ((2 : Int32) &&& 31).toUInt32).toInt32))]) (fun t kq_ => XS.iushr X0.here hx rfl (hb hby d7_72) rfl kq_) ?_
    refine hG _ T0 _ (mkF m 74 #[.val (.int ((i.toUInt32 >>> ((2 : Int32) &&& 31).toUInt32).toInt32)), .val (.int (nn + (2 : Int32)))] []) (fun t kq_ => XS.istoreN X0.here hx rfl (hb hby d7_73) rfl (l' := #[.val (.int ((i.toUInt32 >>> ((2 : Int32) &&& 31).toUInt32).toInt32)), .val (.int (nn + (2 : Int32)))]) rfl kq_) ?_
    have hq : f62 nn i = f74 (nn + (2 : Int32)) ((i.toUInt32 >>> ((2 : Int32) &&& 31).toUInt32).toInt32) := if_pos hc64
    rw [hq]
    exact nz74 _ _ X0 hx hZ hw hby hml hown e0 Z0 N0 hlk hrt
  · refine hG _ T0 _ (mkF m 74 #[.val (.int i), .val (.int nn)] []) (fun t kq_ => XS.icmpYes X0.here hx rfl (pc0 := 64) (pc' := 74) rfl (hb hby d7_64) rfl (flt hc64).2.2.2 (by decide) (by decide) kq_) ?_
    have hq : f62 nn i = f74 nn i := if_neg hc64
    rw [hq]
    exact nz74 _ _ X0 hx hZ hw hby hml hown e0 Z0 N0 hlk hrt
set_option maxRecDepth 65536 in
set_option maxHeartbeats 40000000 in
theorem nz49 {p : Program} {l : Launch} {e : Env} {s : State} {m : MethodId} {args : Array Value} {below : List Frame} {meth : Method} {c : Code} {T0 : State} {locs : List Loc} {Z : State} {a0 : Array Value} {h0 : Heap} {n0 : Nat} (i nn : Int32)
    (X0 : Stand p l e ({ frames := 0, cells := 0, slots := 0, locals := 0 } : Room) s m args below meth c T0 locs 0 0) (hx : p.tables.exec = Jvm.exec) (hZ : Z.Warmed39 s.vm) (hw : ∀ d ∈ tables_1, d.before a0 Z = true) (hby : c.code = jdk_33_method_48_code) (hml : c.maxLocals = 2) (hown : s.vm.findClass "java/lang/Integer" = some m.cls) (e0 : T0.heap = h0) (Z0 : n0 ≤ h0.size) (N0 : Fr n0 locs) (hlk : meth.locks = false) (hrt : meth.sig.returnType = (some .int)) :
    Goes p e below s (fun (v : Option Value) (h : Heap) (L : List Loc) => v = some (.int (f49 nn i)) ∧ Fr n0 L ∧ h = h0) 0 0 T0 (mkF m 49 #[.val (.int i), .val (.int nn)] []) := by
  have hG := Goes.bk p e below s (fun (v : Option Value) (h : Heap) (L : List Loc) => v = some (.int (f49 nn i)) ∧ Fr n0 L ∧ h = h0) 0 0
  refine hG _ T0 _ (mkF m 50 #[.val (.int i), .val (.int nn)] [(.int i)]) (fun t kq_ => XS.iloadN X0.here hx rfl (hb hby d7_49) rfl kq_) ?_
  refine hG _ T0 _ (mkF m 52 #[.val (.int i), .val (.int nn)] [(.int (16 : Int32)), (.int i)]) (fun t kq_ => XS.bipush X0.here hx rfl (hb hby d7_50) kq_) ?_
  by_cases hc52 : (16 : Int32) < i
  · refine hG _ T0 _ (mkF m 55 #[.val (.int i), .val (.int nn)] []) (fun t kq_ => XS.icmpNo X0.here hx rfl (hb hby d7_52) rfl (tlt hc52).2.2.2 kq_) ?_
    refine hG _ T0 _ (mkF m 58 #[.val (.int i), .val (.int (nn + (4 : Int32)))] []) (fun t kq_ => XS.iinc X0.here hx rfl (hb hby d7_55) rfl (l' := #[.val (.int i), .val (.int (nn + (4 : Int32)))]) rfl kq_) ?_
    refine hG _ T0 _ (mkF m 59 #[.val (.int i), .val (.int (nn + (4 : Int32)))] [(.int i)]) (fun t kq_ => XS.iloadN X0.here hx rfl (hb hby d7_58) rfl kq_) ?_
    refine hG _ T0 _ (mkF m 60 #[.val (.int i), .val (.int (nn + (4 : Int32)))] [(.int (4 : Int32)), (.int i)]) (fun t kq_ => XS.iconst X0.here hx rfl (hb hby d7_59) kq_) ?_
    refine hG _ T0 _ (mkF m 61 #[.val (.int i), .val (.int (nn + (4 : Int32)))] [(.int ((i.toUInt32 >>> ((4 : Int32) &&& 31).toUInt32).toInt32))]) (fun t kq_ => XS.iushr X0.here hx rfl (hb hby d7_60) rfl kq_) ?_
    refine hG _ T0 _ (mkF m 62 #[.val (.int ((i.toUInt32 >>> ((4 : Int32) &&& 31).toUInt32).toInt32)), .val (.int (nn + (4 : Int32)))] []) (fun t kq_ => XS.istoreN X0.here hx rfl (hb hby d7_61) rfl (l' := #[.val (.int ((i.toUInt32 >>> ((4 : Int32) &&& 31).toUInt32).toInt32)), .val (.int (nn + (4 : Int32)))]) rfl kq_) ?_
    have hq : f49 nn i = f62 (nn + (4 : Int32)) ((i.toUInt32 >>> ((4 : Int32) &&& 31).toUInt32).toInt32) := if_pos hc52
    rw [hq]
    exact nz62 _ _ X0 hx hZ hw hby hml hown e0 Z0 N0 hlk hrt
  · refine hG _ T0 _ (mkF m 62 #[.val (.int i), .val (.int nn)] []) (fun t kq_ => XS.icmpYes X0.here hx rfl (pc0 := 52) (pc' := 62) rfl (hb hby d7_52) rfl (flt hc52).2.2.2 (by decide) (by decide) kq_) ?_
    have hq : f49 nn i = f62 nn i := if_neg hc52
    rw [hq]
    exact nz62 _ _ X0 hx hZ hw hby hml hown e0 Z0 N0 hlk hrt
set_option maxRecDepth 65536 in
set_option maxHeartbeats 40000000 in
theorem nz34 {p : Program} {l : Launch} {e : Env} {s : State} {m : MethodId} {args : Array Value} {below : List Frame} {meth : Method} {c : Code} {T0 : State} {locs : List Loc} {Z : State} {a0 : Array Value} {h0 : Heap} {n0 : Nat} (i nn : Int32)
    (X0 : Stand p l e ({ frames := 0, cells := 0, slots := 0, locals := 0 } : Room) s m args below meth c T0 locs 0 0) (hx : p.tables.exec = Jvm.exec) (hZ : Z.Warmed39 s.vm) (hw : ∀ d ∈ tables_1, d.before a0 Z = true) (hby : c.code = jdk_33_method_48_code) (hml : c.maxLocals = 2) (hown : s.vm.findClass "java/lang/Integer" = some m.cls) (e0 : T0.heap = h0) (Z0 : n0 ≤ h0.size) (N0 : Fr n0 locs) (hlk : meth.locks = false) (hrt : meth.sig.returnType = (some .int)) :
    Goes p e below s (fun (v : Option Value) (h : Heap) (L : List Loc) => v = some (.int (f34 nn i)) ∧ Fr n0 L ∧ h = h0) 0 0 T0 (mkF m 34 #[.val (.int i), .val (.int nn)] []) := by
  have hG := Goes.bk p e below s (fun (v : Option Value) (h : Heap) (L : List Loc) => v = some (.int (f34 nn i)) ∧ Fr n0 L ∧ h = h0) 0 0
  refine hG _ T0 _ (mkF m 35 #[.val (.int i), .val (.int nn)] [(.int i)]) (fun t kq_ => XS.iloadN X0.here hx rfl (hb hby d7_34) rfl kq_) ?_
  refine hG _ T0 _ (mkF m 38 #[.val (.int i), .val (.int nn)] [(.int (256 : Int32)), (.int i)]) (fun t kq_ => XS.sipush X0.here hx rfl (hb hby d7_35) kq_) ?_
  by_cases hc38 : (256 : Int32) < i
  · refine hG _ T0 _ (mkF m 41 #[.val (.int i), .val (.int nn)] []) (fun t kq_ => XS.icmpNo X0.here hx rfl (hb hby d7_38) rfl (tlt hc38).2.2.2 kq_) ?_
    refine hG _ T0 _ (mkF m 44 #[.val (.int i), .val (.int (nn + (8 : Int32)))] []) (fun t kq_ => XS.iinc X0.here hx rfl (hb hby d7_41) rfl (l' := #[.val (.int i), .val (.int (nn + (8 : Int32)))]) rfl kq_) ?_
    refine hG _ T0 _ (mkF m 45 #[.val (.int i), .val (.int (nn + (8 : Int32)))] [(.int i)]) (fun t kq_ => XS.iloadN X0.here hx rfl (hb hby d7_44) rfl kq_) ?_
    refine hG _ T0 _ (mkF m 47 #[.val (.int i), .val (.int (nn + (8 : Int32)))] [(.int (8 : Int32)), (.int i)]) (fun t kq_ => XS.bipush X0.here hx rfl (hb hby d7_45) kq_) ?_
    refine hG _ T0 _ (mkF m 48 #[.val (.int i), .val (.int (nn + (8 : Int32)))] [(.int ((i.toUInt32 >>> ((8 : Int32) &&& 31).toUInt32).toInt32))]) (fun t kq_ => XS.iushr X0.here hx rfl (hb hby d7_47) rfl kq_) ?_
    refine hG _ T0 _ (mkF m 49 #[.val (.int ((i.toUInt32 >>> ((8 : Int32) &&& 31).toUInt32).toInt32)), .val (.int (nn + (8 : Int32)))] []) (fun t kq_ => XS.istoreN X0.here hx rfl (hb hby d7_48) rfl (l' := #[.val (.int ((i.toUInt32 >>> ((8 : Int32) &&& 31).toUInt32).toInt32)), .val (.int (nn + (8 : Int32)))]) rfl kq_) ?_
    have hq : f34 nn i = f49 (nn + (8 : Int32)) ((i.toUInt32 >>> ((8 : Int32) &&& 31).toUInt32).toInt32) := if_pos hc38
    rw [hq]
    exact nz49 _ _ X0 hx hZ hw hby hml hown e0 Z0 N0 hlk hrt
  · refine hG _ T0 _ (mkF m 49 #[.val (.int i), .val (.int nn)] []) (fun t kq_ => XS.icmpYes X0.here hx rfl (pc0 := 38) (pc' := 49) rfl (hb hby d7_38) rfl (flt hc38).2.2.2 (by decide) (by decide) kq_) ?_
    have hq : f34 nn i = f49 nn i := if_neg hc38
    rw [hq]
    exact nz49 _ _ X0 hx hZ hw hby hml hown e0 Z0 N0 hlk hrt
set_option maxRecDepth 65536 in
set_option maxHeartbeats 40000000 in
theorem nz19 {p : Program} {l : Launch} {e : Env} {s : State} {m : MethodId} {args : Array Value} {below : List Frame} {meth : Method} {c : Code} {T0 : State} {locs : List Loc} {Z : State} {a0 : Array Value} {h0 : Heap} {n0 : Nat} (i nn : Int32)
    (X0 : Stand p l e ({ frames := 0, cells := 0, slots := 0, locals := 0 } : Room) s m args below meth c T0 locs 0 0) (hx : p.tables.exec = Jvm.exec) (hZ : Z.Warmed39 s.vm) (hw : ∀ d ∈ tables_1, d.before a0 Z = true) (hby : c.code = jdk_33_method_48_code) (hml : c.maxLocals = 2) (hown : s.vm.findClass "java/lang/Integer" = some m.cls) (e0 : T0.heap = h0) (Z0 : n0 ≤ h0.size) (N0 : Fr n0 locs) (hlk : meth.locks = false) (hrt : meth.sig.returnType = (some .int)) :
    Goes p e below s (fun (v : Option Value) (h : Heap) (L : List Loc) => v = some (.int (f19 nn i)) ∧ Fr n0 L ∧ h = h0) 0 0 T0 (mkF m 19 #[.val (.int i), .val (.int nn)] []) := by
  have hG := Goes.bk p e below s (fun (v : Option Value) (h : Heap) (L : List Loc) => v = some (.int (f19 nn i)) ∧ Fr n0 L ∧ h = h0) 0 0
  refine hG _ T0 _ (mkF m 20 #[.val (.int i), .val (.int nn)] [(.int i)]) (fun t kq_ => XS.iloadN X0.here hx rfl (hb hby d7_19) rfl kq_) ?_
  refine hG _ T0 _ (mkF m 23 #[.val (.int i), .val (.int nn)] [(.int (65536 : Int32)), (.int i)]) (X0.ldcwInt hx hown (mvT hZ (tw42 hw)) (g := (mkF m 20 #[.val (.int i), .val (.int nn)] [(.int i)])) rfl (hb hby d7_20)) ?_
  by_cases hc23 : (65536 : Int32) < i
  · refine hG _ T0 _ (mkF m 26 #[.val (.int i), .val (.int nn)] []) (fun t kq_ => XS.icmpNo X0.here hx rfl (hb hby d7_23) rfl (tlt hc23).2.2.2 kq_) ?_
    refine hG _ T0 _ (mkF m 29 #[.val (.int i), .val (.int (nn + (16 : Int32)))] []) (fun t kq_ => XS.iinc X0.here hx rfl (hb hby d7_26) rfl (l' := #[.val (.int i), .val (.int (nn + (16 : Int32)))]) rfl kq_) ?_
    refine hG _ T0 _ (mkF m 30 #[.val (.int i), .val (.int (nn + (16 : Int32)))] [(.int i)]) (fun t kq_ => XS.iloadN X0.here hx rfl (hb hby d7_29) rfl kq_) ?_
    refine hG _ T0 _ (mkF m 32 #[.val (.int i), .val (.int (nn + (16 : Int32)))] [(.int (16 : Int32)), (.int i)]) (fun t kq_ => XS.bipush X0.here hx rfl (hb hby d7_30) kq_) ?_
    refine hG _ T0 _ (mkF m 33 #[.val (.int i), .val (.int (nn + (16 : Int32)))] [(.int ((i.toUInt32 >>> ((16 : Int32) &&& 31).toUInt32).toInt32))]) (fun t kq_ => XS.iushr X0.here hx rfl (hb hby d7_32) rfl kq_) ?_
    refine hG _ T0 _ (mkF m 34 #[.val (.int ((i.toUInt32 >>> ((16 : Int32) &&& 31).toUInt32).toInt32)), .val (.int (nn + (16 : Int32)))] []) (fun t kq_ => XS.istoreN X0.here hx rfl (hb hby d7_33) rfl (l' := #[.val (.int ((i.toUInt32 >>> ((16 : Int32) &&& 31).toUInt32).toInt32)), .val (.int (nn + (16 : Int32)))]) rfl kq_) ?_
    have hq : f19 nn i = f34 (nn + (16 : Int32)) ((i.toUInt32 >>> ((16 : Int32) &&& 31).toUInt32).toInt32) := if_pos hc23
    rw [hq]
    exact nz34 _ _ X0 hx hZ hw hby hml hown e0 Z0 N0 hlk hrt
  · refine hG _ T0 _ (mkF m 34 #[.val (.int i), .val (.int nn)] []) (fun t kq_ => XS.icmpYes X0.here hx rfl (pc0 := 23) (pc' := 34) rfl (hb hby d7_23) rfl (flt hc23).2.2.2 (by decide) (by decide) kq_) ?_
    have hq : f19 nn i = f34 nn i := if_neg hc23
    rw [hq]
    exact nz34 _ _ X0 hx hZ hw hby hml hown e0 Z0 N0 hlk hrt
set_option maxRecDepth 65536 in
set_option maxHeartbeats 40000000 in
theorem nz8 {p : Program} {l : Launch} {e : Env} {s : State} {m : MethodId} {args : Array Value} {below : List Frame} {meth : Method} {c : Code} {T0 : State} {locs : List Loc} {Z : State} {a0 : Array Value} {h0 : Heap} {n0 : Nat} (i : Int32)
    (X0 : Stand p l e ({ frames := 0, cells := 0, slots := 0, locals := 0 } : Room) s m args below meth c T0 locs 0 0) (hx : p.tables.exec = Jvm.exec) (hZ : Z.Warmed39 s.vm) (hw : ∀ d ∈ tables_1, d.before a0 Z = true) (hby : c.code = jdk_33_method_48_code) (hml : c.maxLocals = 2) (hown : s.vm.findClass "java/lang/Integer" = some m.cls) (e0 : T0.heap = h0) (Z0 : n0 ≤ h0.size) (N0 : Fr n0 locs) (hlk : meth.locks = false) (hrt : meth.sig.returnType = (some .int)) :
    Goes p e below s (fun (v : Option Value) (h : Heap) (L : List Loc) => v = some (.int (f8 i)) ∧ Fr n0 L ∧ h = h0) 0 0 T0 (mkF m 8 #[.val (.int i), .unset] []) := by
  have hG := Goes.bk p e below s (fun (v : Option Value) (h : Heap) (L : List Loc) => v = some (.int (f8 i)) ∧ Fr n0 L ∧ h = h0) 0 0
  refine hG _ T0 _ (mkF m 9 #[.val (.int i), .unset] [(.int i)]) (fun t kq_ => XS.iloadN X0.here hx rfl (hb hby d7_8) rfl kq_) ?_
  by_cases hc9 : (0 : Int32) < i
  · refine hG _ T0 _ (mkF m 17 #[.val (.int i), .unset] []) (fun t kq_ => XS.ifYes X0.here hx rfl (pc0 := 9) (pc' := 17) rfl (hb hby d7_9) rfl ((if0 _ _).trans (tlt hc9).2.2.1) (by decide) (by decide) kq_) ?_
    refine hG _ T0 _ (mkF m 18 #[.val (.int i), .unset] [(.int (1 : Int32))]) (fun t kq_ => XS.iconst X0.here hx rfl (hb hby d7_17) kq_) ?_
    refine hG _ T0 _ (mkF m 19 #[.val (.int i), .val (.int (1 : Int32))] []) (fun t kq_ => XS.istoreN X0.here hx rfl (hb hby d7_18) rfl (l' := #[.val (.int i), .val (.int (1 : Int32))]) rfl kq_) ?_
    have hq : f8 i = f19 (1 : Int32) i := if_pos hc9
    rw [hq]
    exact nz19 _ _ X0 hx hZ hw hby hml hown e0 Z0 N0 hlk hrt
  · refine hG _ T0 _ (mkF m 12 #[.val (.int i), .unset] []) (fun t kq_ => XS.ifNo X0.here hx rfl (hb hby d7_9) rfl ((if0 _ _).trans (flt hc9).2.2.1) kq_) ?_
    refine hG _ T0 _ (mkF m 13 #[.val (.int i), .unset] [(.int i)]) (fun t kq_ => XS.iloadN X0.here hx rfl (hb hby d7_12) rfl kq_) ?_
    refine hG _ T0 _ (mkF m 15 #[.val (.int i), .unset] [(.int (32 : Int32)), (.int i)]) (fun t kq_ => XS.bipush X0.here hx rfl (hb hby d7_13) kq_) ?_
    refine hG _ T0 _ (mkF m 16 #[.val (.int i), .unset] [(.int (i &&& (32 : Int32)))]) (fun t kq_ => XS.iand X0.here hx rfl (hb hby d7_15) rfl kq_) ?_
    exact Goes.retI X0 hx hlk hrt (hb hby d7_16) (by decide : 0 ≤ 0) (by decide : 0 ≤ 0) (by (try rw [e0]); exact ⟨by rw [show f8 i = (i &&& (32 : Int32)) from if_neg hc9], N0, rfl⟩)
theorem ef_rmJ (m : MethodId) (x0 : Int32) : entryFrame m #[(.int x0)] 2 = mkF m 0 #[.val (.int x0), .unset] [] := by first | (simp [entryFrame, mkF, argsToLocals, Value.category]; done) | rfl
theorem pn_rmJ : plainName "java/lang/Integer" = true := by first | (simp [plainName, overriddenIn]; done) | decide +kernel
def Q_rmJ (Z : State) (p1 : Int32) (k : Nat) (h0 : Heap) (n0 : Nat) (v : Option Value) (h : Heap) (L : List Loc) : Prop := v = some (.int (Nat.toInt32 k)) ∧ Fr n0 L ∧ h = h0
set_option maxRecDepth 65536 in
set_option maxHeartbeats 40000000 in
theorem rmJ (l : Launch) (Z : State) (a0 : Array Value) (hw : ∀ d ∈ tables_1, d.before a0 Z = true) (ws : List Jvm.Cond) (p1 : Int32) (h0 : Heap) (n0 : Nat) (Z0 : n0 ≤ h0.size) (k : Nat) (hl : Low32 p1 k) (hk : k < 32) :
    MetFree l (⟨"java/lang/Integer", "numberOfTrailingZeros", "(I)I"⟩ : MethodName) (head1 (Jvm.Cond.code (⟨"java/lang/Integer", "numberOfTrailingZeros", "(I)I"⟩ : MethodName) jdk_33_method_48_code 2 (some .int) :: ws) ({ frames := 0, cells := 0, slots := 0, locals := 0 } : Room)) (fun a U => a = #[(.int p1)] ∧ Z.Warmed39 U.vm ∧ U.heap = h0) (fun _ _ _ _ _ => True) (fun _ U o U' => ∃ v L, o = .returned v ∧ Q_rmJ Z p1 k h0 n0 v U'.heap L ∧ FrameEnd U o U' L ({ frames := 0, cells := 0, slots := 0, locals := 0 } : Room).cells ({ frames := 0, cells := 0, slots := 0, locals := 0 } : Room).slots) := by
  refine MetFree.of_bodySF (plainFor_of_name pn_rmJ) hisR ?_
  intro p e s m args below meth c s₁ Bd hml0 hP hK
  obtain ⟨rfl, hZ, hh⟩ := hP
  have hx := Bd.exec
  have hby := Bd.bytes
  have hml : c.maxLocals = 2 := hml0
  have hown : s.vm.findClass "java/lang/Integer" = some m.cls := findClass_of_methodNamed Bd.named
  have hnm := (name_of_methodNamed Bd.named Bd.method).1
  have X0 : Stand p l e ({ frames := 0, cells := 0, slots := 0, locals := 0 } : Room) s m #[(.int p1)] below meth c s₁ [] 0 0 := Stand.of_body Bd
  have e0 : s₁.heap = h0 := by rw [← hh, Bd.state]; rfl
  have N0 := Fr.nil n0
  have hlk : meth.locks = false := BodyLoose.notSynchronized Bd
  have hrt := Bd.returns
  have hG := Goes.bk p e below s (fun (v : Option Value) (h : Heap) (L : List Loc) => v = some (.int (Nat.toInt32 k)) ∧ Fr n0 L ∧ h = h0) 0 0
  show Goes p e below s (fun (v : Option Value) (h : Heap) (L : List Loc) => v = some (.int (Nat.toInt32 k)) ∧ Fr n0 L ∧ h = h0) 0 0 s₁ (entryFrame m #[(.int p1)] 2)
  rw [ef_rmJ m p1]
  refine hG _ s₁ _ (mkF m 1 #[.val (.int p1), .unset] [(.int p1)]) (fun t kq_ => XS.iloadN X0.here hx rfl (hb hby d7_0) rfl kq_) ?_
  refine hG _ s₁ _ (mkF m 2 #[.val (.int p1), .unset] [(.int (-1 : Int32)), (.int p1)]) (fun t kq_ => XS.iconst X0.here hx rfl (hb hby d7_1) kq_) ?_
  refine hG _ s₁ _ (mkF m 3 #[.val (.int p1), .unset] [(.int (p1 ^^^ (-1 : Int32)))]) (fun t kq_ => XS.ixor X0.here hx rfl (hb hby d7_2) rfl kq_) ?_
  refine hG _ s₁ _ (mkF m 4 #[.val (.int p1), .unset] [(.int p1), (.int (p1 ^^^ (-1 : Int32)))]) (fun t kq_ => XS.iloadN X0.here hx rfl (hb hby d7_3) rfl kq_) ?_
  refine hG _ s₁ _ (mkF m 5 #[.val (.int p1), .unset] [(.int (1 : Int32)), (.int p1), (.int (p1 ^^^ (-1 : Int32)))]) (fun t kq_ => XS.iconst X0.here hx rfl (hb hby d7_4) kq_) ?_
  refine hG _ s₁ _ (mkF m 6 #[.val (.int p1), .unset] [(.int (p1 - (1 : Int32))), (.int (p1 ^^^ (-1 : Int32)))]) (fun t kq_ => XS.isub X0.here hx rfl (hb hby d7_5) rfl kq_) ?_
  refine hG _ s₁ _ (mkF m 7 #[.val (.int p1), .unset] [(.int ((p1 ^^^ (-1 : Int32)) &&& (p1 - (1 : Int32))))]) (fun t kq_ => XS.iand X0.here hx rfl (hb hby d7_6) rfl kq_) ?_
  refine hG _ s₁ _ (mkF m 8 #[.val (.int ((p1 ^^^ (-1 : Int32)) &&& (p1 - (1 : Int32)))), .unset] []) (fun t kq_ => XS.istoreN X0.here hx rfl (hb hby d7_7) rfl (l' := #[.val (.int ((p1 ^^^ (-1 : Int32)) &&& (p1 - (1 : Int32)))), .unset]) rfl kq_) ?_
  rw [own_msk hl hk]
  have hq : Nat.toInt32 k = f8 (Nat.toInt32 (2 ^ k - 1)) := (own_f8 hk).symm
  rw [hq]
  exact nz8 _ X0 hx hZ hw hby hml hown e0 Z0 N0 hlk hrt
theorem ef_rmL (m : MethodId) (x0 : Int64) : entryFrame m #[(.long x0)] 3 = mkF m 0 #[.val (.long x0), .second, .unset] [] := by first | (simp [entryFrame, mkF, argsToLocals, Value.category]; done) | rfl
theorem pn_rmL : plainName "java/lang/Long" = true := by first | (simp [plainName, overriddenIn]; done) | decide +kernel
def Q_rmL (Z : State) (q1 : Int64) (k : Nat) (h0 : Heap) (n0 : Nat) (v : Option Value) (h : Heap) (L : List Loc) : Prop := v = some (.int (Nat.toInt32 k)) ∧ Fr n0 L ∧ h = h0
set_option maxRecDepth 65536 in
set_option maxHeartbeats 40000000 in
theorem rmL (l : Launch) (Z : State) (a0 : Array Value) (hw : ∀ d ∈ tables_1, d.before a0 Z = true) (ws : List Jvm.Cond) (q1 : Int64) (h0 : Heap) (n0 : Nat) (Z0 : n0 ≤ h0.size) (k : Nat) (hl : Low q1 k) :
    MetFree l (⟨"java/lang/Long", "numberOfTrailingZeros", "(J)I"⟩ : MethodName) (head1 (Jvm.Cond.code (⟨"java/lang/Long", "numberOfTrailingZeros", "(J)I"⟩ : MethodName) jdk_35_method_49_code 3 (some .int) :: ws) ({ frames := 1, cells := 0, slots := 0, locals := 14 } : Room)) (fun a U => a = #[(.long q1)] ∧ Z.Warmed39 U.vm ∧ U.heap = h0) (fun _ _ _ _ _ => True) (fun _ U o U' => ∃ v L, o = .returned v ∧ Q_rmL Z q1 k h0 n0 v U'.heap L ∧ FrameEnd U o U' L ({ frames := 1, cells := 0, slots := 0, locals := 14 } : Room).cells ({ frames := 1, cells := 0, slots := 0, locals := 14 } : Room).slots) := by
  refine MetFree.of_bodySF (plainFor_of_name pn_rmL) hisR ?_
  intro p e s m args below meth c s₁ Bd hml0 hP hK
  obtain ⟨rfl, hZ, hh⟩ := hP
  have hx := Bd.exec
  have hby := Bd.bytes
  have hml : c.maxLocals = 3 := hml0
  have hown : s.vm.findClass "java/lang/Long" = some m.cls := findClass_of_methodNamed Bd.named
  have hnm := (name_of_methodNamed Bd.named Bd.method).1
  have X0 : Stand p l e ({ frames := 1, cells := 0, slots := 0, locals := 14 } : Room) s m #[(.long q1)] below meth c s₁ [] 0 0 := Stand.of_body Bd
  have e0 : s₁.heap = h0 := by rw [← hh, Bd.state]; rfl
  have N0 := Fr.nil n0
  have hlk : meth.locks = false := BodyLoose.notSynchronized Bd
  have hrt := Bd.returns
  have hG := Goes.bk p e below s (fun (v : Option Value) (h : Heap) (L : List Loc) => v = some (.int (Nat.toInt32 k)) ∧ Fr n0 L ∧ h = h0) 0 0
  show Goes p e below s (fun (v : Option Value) (h : Heap) (L : List Loc) => v = some (.int (Nat.toInt32 k)) ∧ Fr n0 L ∧ h = h0) 0 0 s₁ (entryFrame m #[(.long q1)] 3)
  rw [ef_rmL m q1]
  refine hG _ s₁ _ (mkF m 1 #[.val (.long q1), .second, .unset] [(.long q1)]) (fun t kq_ => XS.lloadN X0.here hx rfl (hb hby d6_0) rfl kq_) ?_
  refine hG _ s₁ _ (mkF m 2 #[.val (.long q1), .second, .unset] [(.int (q1.toInt32))]) (fun t kq_ => XS.l2i X0.here hx rfl (hb hby d6_1) rfl kq_) ?_
  refine hG _ s₁ _ (mkF m 3 #[.val (.long q1), .second, .val (.int (q1.toInt32))] []) (fun t kq_ => XS.istoreN X0.here hx rfl (hb hby d6_2) rfl (l' := #[.val (.long q1), .second, .val (.int (q1.toInt32))]) rfl kq_) ?_
  refine hG _ s₁ _ (mkF m 4 #[.val (.long q1), .second, .val (.int (q1.toInt32))] [(.int (q1.toInt32))]) (fun t kq_ => XS.iloadN X0.here hx rfl (hb hby d6_3) rfl kq_) ?_
  have hk64 := hl.lt
  by_cases hk : k < 32
  · refine hG _ s₁ _ (mkF m 21 #[.val (.long q1), .second, .val (.int (q1.toInt32))] []) (fun t kq_ => XS.ifYes X0.here hx rfl (pc0 := 4) (pc' := 21) rfl (hb hby d6_4) rfl ((if0 _ _).trans (feq (low_nz (low_lo hl hk))).2) (by decide) (by decide) kq_) ?_
    refine hG _ s₁ _ (mkF m 22 #[.val (.long q1), .second, .val (.int (q1.toInt32))] [(.int (q1.toInt32))]) (fun t kq_ => XS.iloadN X0.here hx rfl (hb hby d6_21) rfl kq_) ?_
    obtain ⟨_, _, ⟨T29, L29, k29, n29⟩, -, X29, ⟨Lc29, hQ29, l29, y29, z29⟩, st29⟩ := Jvm.LawKit.callS X0 hx (y := (⟨"java/lang/Integer", "numberOfTrailingZeros", "(I)I"⟩ : MethodName)) hown (mvT hZ (tw38 hw)) (mvT hZ (tw39 hw)) (mvT hZ (tw40 hw)) (mvT hZ (tw41 hw)) (by decide) (backOf (W := 0) (rmJ l Z a0 hw [] q1.toInt32 h0 n0 Z0 k (low_lo hl hk) hk) hZ (tw41 hw) (tw40 hw) (by decide) (by decide)) (g := (mkF m 22 #[.val (.long q1), .second, .val (.int (q1.toInt32))] [(.int (q1.toInt32))])) rfl (by rw [hml]; rfl) (argsL := [(.int (q1.toInt32))]) (rest := []) (lenOf pd_0 rfl) rfl (by show 2 * 0 + _ ≤ _; exact Nat.le_of_eq rfl) (hb hby d6_22) (fun _ _ => ⟨rfl, e0, (by decide : 0 + 0 ≤ _), (by decide : 0 + 0 ≤ _)⟩)
    dsimp only [Pt.U, Pt.locs, Pt.cells, Pt.slots] at X29 l29 y29 z29 st29 hQ29
    subst l29 y29 z29
    obtain ⟨rfl, N29q, hh1⟩ := hQ29
    have N29 := Fr.app N0 N29q
    have e29 : T29.heap = h0 := hh1
    refine hG _ T29 _ (mkF m 25 #[.val (.long q1), .second, .val (.int (q1.toInt32))] [(.int (Nat.toInt32 k))]) (fun t kq_ => st29 _ kq_) ?_
    exact Goes.retI X29 hx hlk hrt (hb hby d6_25) (by decide : 0 ≤ 0) (by decide : 0 ≤ 0) (by (try rw [e29]); exact ⟨rfl, N29, rfl⟩)
  · refine hG _ s₁ _ (mkF m 7 #[.val (.long q1), .second, .val (.int (q1.toInt32))] []) (fun t kq_ => XS.ifNo X0.here hx rfl (hb hby d6_4) rfl ((if0 _ _).trans (teq (low_z hl hk)).2) kq_) ?_
    refine hG _ s₁ _ (mkF m 9 #[.val (.long q1), .second, .val (.int (q1.toInt32))] [(.int (32 : Int32))]) (fun t kq_ => XS.bipush X0.here hx rfl (hb hby d6_7) kq_) ?_
    refine hG _ s₁ _ (mkF m 10 #[.val (.long q1), .second, .val (.int (q1.toInt32))] [(.long q1), (.int (32 : Int32))]) (fun t kq_ => XS.lloadN X0.here hx rfl (hb hby d6_9) rfl kq_) ?_
    refine hG _ s₁ _ (mkF m 12 #[.val (.long q1), .second, .val (.int (q1.toInt32))] [(.int (32 : Int32)), (.long q1), (.int (32 : Int32))]) (fun t kq_ => XS.bipush X0.here hx rfl (hb hby d6_10) kq_) ?_
    refine hG _ s₁ _ (mkF m 13 #[.val (.long q1), .second, .val (.int (q1.toInt32))] [(.long ((q1.toUInt64 >>> ((32 : Int32) &&& 0x3f).toInt64.toUInt64).toInt64)), (.int (32 : Int32))]) (fun t kq_ => XS.lushr X0.here hx rfl (hb hby d6_12) rfl kq_) ?_
    refine hG _ s₁ _ (mkF m 14 #[.val (.long q1), .second, .val (.int (q1.toInt32))] [(.int (((q1.toUInt64 >>> ((32 : Int32) &&& 0x3f).toInt64.toUInt64).toInt64).toInt32)), (.int (32 : Int32))]) (fun t kq_ => XS.l2i X0.here hx rfl (hb hby d6_13) rfl kq_) ?_
    obtain ⟨_, _, ⟨T30, L30, k30, n30⟩, -, X30, ⟨Lc30, hQ30, l30, y30, z30⟩, st30⟩ := Jvm.LawKit.callS X0 hx (y := (⟨"java/lang/Integer", "numberOfTrailingZeros", "(I)I"⟩ : MethodName)) hown (mvT hZ (tw38 hw)) (mvT hZ (tw39 hw)) (mvT hZ (tw40 hw)) (mvT hZ (tw41 hw)) (by decide) (backOf (W := 1) (rmJ l Z a0 hw [] _ h0 n0 Z0 (k - 32) (low_hi hl hk) (by omega)) hZ (tw41 hw) (tw40 hw) (by decide) (by decide)) (g := (mkF m 14 #[.val (.long q1), .second, .val (.int (q1.toInt32))] [(.int (((q1.toUInt64 >>> ((32 : Int32) &&& 0x3f).toInt64.toUInt64).toInt64).toInt32)), (.int (32 : Int32))])) rfl (by rw [hml]; rfl) (argsL := [(.int (((q1.toUInt64 >>> ((32 : Int32) &&& 0x3f).toInt64.toUInt64).toInt64).toInt32))]) (rest := [(.int (32 : Int32))]) (lenOf pd_0 rfl) rfl (by show 2 * 0 + _ ≤ _; exact Nat.le_of_eq rfl) (hb hby d6_14) (fun _ _ => ⟨rfl, e0, (by decide : 0 + 0 ≤ _), (by decide : 0 + 0 ≤ _)⟩)
    dsimp only [Pt.U, Pt.locs, Pt.cells, Pt.slots] at X30 l30 y30 z30 st30 hQ30
    subst l30 y30 z30
    obtain ⟨rfl, N30q, hh1⟩ := hQ30
    have N30 := Fr.app N0 N30q
    have e30 : T30.heap = h0 := hh1
    refine hG _ T30 _ (mkF m 17 #[.val (.long q1), .second, .val (.int (q1.toInt32))] [(.int (Nat.toInt32 (k - 32))), (.int (32 : Int32))]) (fun t kq_ => st30 _ kq_) ?_
    refine hG _ T30 _ (mkF m 18 #[.val (.long q1), .second, .val (.int (q1.toInt32))] [(.int ((32 : Int32) + (Nat.toInt32 (k - 32))))]) (fun t kq_ => XS.iadd X30.here hx rfl (hb hby d6_17) rfl kq_) ?_
    refine hG _ T30 _ (mkF m 25 #[.val (.long q1), .second, .val (.int (q1.toInt32))] [(.int ((32 : Int32) + (Nat.toInt32 (k - 32))))]) (fun t kq_ => XS.goto X30.here hx rfl (pc0 := 18) (pc' := 25) rfl (hb hby d6_18) (by decide) (by decide) kq_) ?_
    exact Goes.retI X30 hx hlk hrt (hb hby d6_25) (by decide : 0 ≤ 0) (by decide : 0 ≤ 0) (by (try rw [e30]); exact ⟨by rw [own_32 hk], N30, rfl⟩)
set_option maxRecDepth 65536 in
set_option maxHeartbeats 40000000 in
theorem nb85 {p : Program} {l : Launch} {e : Env} {s : State} {m : MethodId} {args : Array Value} {below : List Frame} {meth : Method} {c : Code} {Z : State} {a0 : Array Value} {n0 : Nat} {locs : List Loc} {h0 : Heap} (a1 wa sa : Addr) (p2 : Int32) (w u : Nat → Int64) (n ns f : Nat) (wd nx : Int32) (bx : Int64) (hx : p.tables.exec = Jvm.exec) (hZ : Z.Warmed39 s.vm) (hw : ∀ d ∈ tables_1, d.before a0 Z = true) (hby : c.code = prog_72_method_4_code) (hml : c.maxLocals = 10) (hown : s.vm.findClass "com/example/polite_edges/politeedges/layered/SparseBitSet" = some m.cls) (Z0 : n0 ≤ h0.size) (N0 : Fr n0 locs) (hlk : meth.locks = false) (hrt : meth.sig.returnType = (some .int)) (F_w : Fld Z h0 a1 "com/example/polite_edges/politeedges/layered/SparseBitSet" "words" "[J" (.ref wa)) (F_s : Fld Z h0 a1 "com/example/polite_edges/politeedges/layered/SparseBitSet" "summary" "[J" (.ref sa)) (V_w : Av Z h0 wa .long n (Wd w)) (V_s : Av Z h0 sa .long ns (Wd u)) (hS : Sx n ns w u) (h256 : n ≤ 256) (h4 : ns ≤ 4) (hf : p2.toInt = (f : Int)) (hfb : f < 200000) (j : Nat) :
    ∀ (q : Nat) (pt : Int32) (held : Int64) (T0 : State), q + j = ns → q < ns → Stand p l e ({ frames := 2, cells := 0, slots := 0, locals := 29 } : Room) s m args below meth c T0 locs 0 0 → T0.heap = h0 → pt.toInt = (q : Int) → f / 64 < 64 * (q + 1) → Hd n ns w u f q held → Goes p e below s (fun (v : Option Value) (h : Heap) (L : List Loc) => ∃ r, v = some (.int r) ∧ Fr n0 L ∧ h = h0 ∧ Nx n w f r) 0 0 T0 (mkF m 85 #[.val (.ref a1), .val (.int p2), .val (.int wd), .val (.long bx), .second, .val (.int nx), .val (.int pt), .val (.long held), .second, .unset] []) := by
  have hG := Goes.bk p e below s (fun (v : Option Value) (h : Heap) (L : List Loc) => ∃ r, v = some (.int r) ∧ Fr n0 L ∧ h = h0 ∧ Nx n w f r) 0 0
  induction j with
  | zero => intro q pt held T0 h1 h2; omega
  | succ j ih =>
    intro q pt held T0 hj hq X0 e0 hpt hfq hH
    refine hG _ T0 _ (mkF m 87 #[.val (.ref a1), .val (.int p2), .val (.int wd), .val (.long bx), .second, .val (.int nx), .val (.int pt), .val (.long held), .second, .unset] [(.long held)]) (fun t kq_ => XS.lload X0.here hx rfl (hb hby d4_85) rfl kq_) ?_
    refine hG _ T0 _ (mkF m 88 #[.val (.ref a1), .val (.int p2), .val (.int wd), .val (.long bx), .second, .val (.int nx), .val (.int pt), .val (.long held), .second, .unset] [(.long (0 : Int64)), (.long held)]) (fun t kq_ => XS.lconst X0.here hx rfl (hb hby d4_87) kq_) ?_
    refine hG _ T0 _ (mkF m 89 #[.val (.ref a1), .val (.int p2), .val (.int wd), .val (.long bx), .second, .val (.int nx), .val (.int pt), .val (.long held), .second, .unset] [(.int (lcmpW held (0 : Int64)))]) (fun t kq_ => XS.lcmp X0.here hx rfl (hb hby d4_88) rfl kq_) ?_
    by_cases hc89 : (lcmpW held (0 : Int64)) = (0 : Int32)
    · refine hG _ T0 _ (mkF m 92 #[.val (.ref a1), .val (.int p2), .val (.int wd), .val (.long bx), .second, .val (.int nx), .val (.int pt), .val (.long held), .second, .unset] []) (fun t kq_ => XS.ifNo X0.here hx rfl (hb hby d4_89) rfl ((if0 _ _).trans (teq hc89).2) kq_) ?_
      have h0' : held = 0 := (lw_eq _ _).mp hc89
      refine hG _ T0 _ (mkF m 95 #[.val (.ref a1), .val (.int p2), .val (.int wd), .val (.long bx), .second, .val (.int nx), .val (.int (pt + (1 : Int32))), .val (.long held), .second, .unset] []) (fun t kq_ => XS.iinc X0.here hx rfl (hb hby d4_92) rfl (l' := #[.val (.ref a1), .val (.int p2), .val (.int wd), .val (.long bx), .second, .val (.int nx), .val (.int (pt + (1 : Int32))), .val (.long held), .second, .unset]) rfl kq_) ?_
      refine hG _ T0 _ (mkF m 97 #[.val (.ref a1), .val (.int p2), .val (.int wd), .val (.long bx), .second, .val (.int nx), .val (.int (pt + (1 : Int32))), .val (.long held), .second, .unset] [(.int (pt + (1 : Int32)))]) (fun t kq_ => XS.iload X0.here hx rfl (hb hby d4_95) rfl kq_) ?_
      refine hG _ T0 _ (mkF m 98 #[.val (.ref a1), .val (.int p2), .val (.int wd), .val (.long bx), .second, .val (.int nx), .val (.int (pt + (1 : Int32))), .val (.long held), .second, .unset] [(.ref a1), (.int (pt + (1 : Int32)))]) (fun t kq_ => XS.aloadN X0.here hx rfl (hb hby d4_97) rfl rfl kq_) ?_
      obtain ⟨T31, X31, e31, st31⟩ := getF X0 hx hZ hown (host := "") (Or.inl (tw14 hw)) Via.refl e0 F_s (g := (mkF m 98 #[.val (.ref a1), .val (.int p2), .val (.int wd), .val (.long bx), .second, .val (.int nx), .val (.int (pt + (1 : Int32))), .val (.long held), .second, .unset] [(.ref a1), (.int (pt + (1 : Int32)))])) rfl rfl (hb hby d4_98)
      refine hG _ T31 _ (mkF m 101 #[.val (.ref a1), .val (.int p2), .val (.int wd), .val (.long bx), .second, .val (.int nx), .val (.int (pt + (1 : Int32))), .val (.long held), .second, .unset] [(.ref sa), (.int (pt + (1 : Int32)))]) st31 ?_
      refine hG _ T31 _ (mkF m 102 #[.val (.ref a1), .val (.int p2), .val (.int wd), .val (.long bx), .second, .val (.int nx), .val (.int (pt + (1 : Int32))), .val (.long held), .second, .unset] [(.int (Nat.toInt32 ns)), (.int (pt + (1 : Int32)))]) (Av.len X31 hx hZ e31 V_s (g := (mkF m 101 #[.val (.ref a1), .val (.int p2), .val (.int wd), .val (.long bx), .second, .val (.int nx), .val (.int (pt + (1 : Int32))), .val (.long held), .second, .unset] [(.ref sa), (.int (pt + (1 : Int32)))])) rfl rfl (hb hby d4_101)) ?_
      have hpt1 : (pt + (1 : Int32)).toInt = ((q + 1 : Nat) : Int) := own_plus hpt (by omega) (by decide) (d := 1) rfl
      by_cases hc102 : (pt + (1 : Int32)) = (Nat.toInt32 ns)
      · refine hG _ T31 _ (mkF m 105 #[.val (.ref a1), .val (.int p2), .val (.int wd), .val (.long bx), .second, .val (.int nx), .val (.int (pt + (1 : Int32))), .val (.long held), .second, .unset] []) (fun t kq_ => XS.icmpNo X31.here hx rfl (hb hby d4_102) rfl (teq hc102).2 kq_) ?_
        have hqe := (own_eqn hpt1 (by omega)).mp hc102
        refine hG _ T31 _ (mkF m 106 #[.val (.ref a1), .val (.int p2), .val (.int wd), .val (.long bx), .second, .val (.int nx), .val (.int (pt + (1 : Int32))), .val (.long held), .second, .unset] [(.int (-1 : Int32))]) (fun t kq_ => XS.iconst X31.here hx rfl (hb hby d4_105) kq_) ?_
        exact Goes.retI X31 hx hlk hrt (hb hby d4_106) (by decide : 0 ≤ 0) (by decide : 0 ≤ 0) (by (try rw [e31]); exact ⟨_, rfl, N0, rfl, hd_end hS hH h0' hqe⟩)
      · refine hG _ T31 _ (mkF m 107 #[.val (.ref a1), .val (.int p2), .val (.int wd), .val (.long bx), .second, .val (.int nx), .val (.int (pt + (1 : Int32))), .val (.long held), .second, .unset] []) (fun t kq_ => XS.icmpYes X31.here hx rfl (pc0 := 102) (pc' := 107) rfl (hb hby d4_102) rfl (feq hc102).2 (by decide) (by decide) kq_) ?_
        have hqe : q + 1 < ns := Nat.lt_of_le_of_ne hq fun z => hc102 ((own_eqn hpt1 (by omega)).mpr z)
        refine hG _ T31 _ (mkF m 108 #[.val (.ref a1), .val (.int p2), .val (.int wd), .val (.long bx), .second, .val (.int nx), .val (.int (pt + (1 : Int32))), .val (.long held), .second, .unset] [(.ref a1)]) (fun t kq_ => XS.aloadN X31.here hx rfl (hb hby d4_107) rfl rfl kq_) ?_
        obtain ⟨T32, X32, e32, st32⟩ := getF X31 hx hZ hown (host := "") (Or.inl (tw14 hw)) Via.refl e31 F_s (g := (mkF m 108 #[.val (.ref a1), .val (.int p2), .val (.int wd), .val (.long bx), .second, .val (.int nx), .val (.int (pt + (1 : Int32))), .val (.long held), .second, .unset] [(.ref a1)])) rfl rfl (hb hby d4_108)
        refine hG _ T32 _ (mkF m 111 #[.val (.ref a1), .val (.int p2), .val (.int wd), .val (.long bx), .second, .val (.int nx), .val (.int (pt + (1 : Int32))), .val (.long held), .second, .unset] [(.ref sa)]) st32 ?_
        refine hG _ T32 _ (mkF m 113 #[.val (.ref a1), .val (.int p2), .val (.int wd), .val (.long bx), .second, .val (.int nx), .val (.int (pt + (1 : Int32))), .val (.long held), .second, .unset] [(.int (pt + (1 : Int32))), (.ref sa)]) (fun t kq_ => XS.iload X32.here hx rfl (hb hby d4_111) rfl kq_) ?_
        refine hG _ T32 _ (mkF m 114 #[.val (.ref a1), .val (.int p2), .val (.int wd), .val (.long bx), .second, .val (.int nx), .val (.int (pt + (1 : Int32))), .val (.long held), .second, .unset] [(.long (u (q + 1)))]) (Av.ldJ X32 hx hZ e32 V_s (j := (pt + (1 : Int32))) (i := (q + 1)) hpt1 hqe (g := (mkF m 113 #[.val (.ref a1), .val (.int p2), .val (.int wd), .val (.long bx), .second, .val (.int nx), .val (.int (pt + (1 : Int32))), .val (.long held), .second, .unset] [(.int (pt + (1 : Int32))), (.ref sa)])) rfl rfl (hb hby d4_113)) ?_
        refine hG _ T32 _ (mkF m 116 #[.val (.ref a1), .val (.int p2), .val (.int wd), .val (.long bx), .second, .val (.int nx), .val (.int (pt + (1 : Int32))), .val (.long (u (q + 1))), .second, .unset] []) (fun t kq_ => XS.lstore X32.here hx rfl (hb hby d4_114) rfl (l' := #[.val (.ref a1), .val (.int p2), .val (.int wd), .val (.long bx), .second, .val (.int nx), .val (.int (pt + (1 : Int32))), .val (.long (u (q + 1))), .second, .unset]) rfl kq_) ?_
        refine hG _ T32 _ (mkF m 85 #[.val (.ref a1), .val (.int p2), .val (.int wd), .val (.long bx), .second, .val (.int nx), .val (.int (pt + (1 : Int32))), .val (.long (u (q + 1))), .second, .unset] []) (fun t kq_ => XS.goto X32.here hx rfl (pc0 := 116) (pc' := 85) rfl (hb hby d4_116) (by decide) (by decide) kq_) ?_
        exact ih (q + 1) _ _ _ (by omega) hqe X32 e32 hpt1 (by omega) (hd_next hS hH h0' (by omega) hqe)
    · refine hG _ T0 _ (mkF m 119 #[.val (.ref a1), .val (.int p2), .val (.int wd), .val (.long bx), .second, .val (.int nx), .val (.int pt), .val (.long held), .second, .unset] []) (fun t kq_ => XS.ifYes X0.here hx rfl (pc0 := 89) (pc' := 119) rfl (hb hby d4_89) rfl ((if0 _ _).trans (feq hc89).2) (by decide) (by decide) kq_) ?_
      obtain ⟨k, hk⟩ := low_of (fun z => hc89 ((lw_eq _ _).mpr z) : held ≠ 0)
      have hk64 := hk.lt
      refine hG _ T0 _ (mkF m 121 #[.val (.ref a1), .val (.int p2), .val (.int wd), .val (.long bx), .second, .val (.int nx), .val (.int pt), .val (.long held), .second, .unset] [(.int pt)]) (fun t kq_ => XS.iload X0.here hx rfl (hb hby d4_119) rfl kq_) ?_
      refine hG _ T0 _ (mkF m 123 #[.val (.ref a1), .val (.int p2), .val (.int wd), .val (.long bx), .second, .val (.int nx), .val (.int pt), .val (.long held), .second, .unset] [(.int (6 : Int32)), (.int pt)]) (fun t kq_ => XS.bipush X0.here hx rfl (hb hby d4_121) kq_) ?_
      refine hG _ T0 _ (mkF m 124 #[.val (.ref a1), .val (.int p2), .val (.int wd), .val (.long bx), .second, .val (.int nx), .val (.int pt), .val (.long held), .second, .unset] [(.int (pt <<< ((6 : Int32) &&& 31)))]) (fun t kq_ => XS.ishl X0.here hx rfl (hb hby d4_123) rfl kq_) ?_
      refine hG _ T0 _ (mkF m 126 #[.val (.ref a1), .val (.int p2), .val (.int wd), .val (.long bx), .second, .val (.int nx), .val (.int pt), .val (.long held), .second, .unset] [(.long held), (.int (pt <<< ((6 : Int32) &&& 31)))]) (fun t kq_ => XS.lload X0.here hx rfl (hb hby d4_124) rfl kq_) ?_
      obtain ⟨_, _, ⟨T33, L33, k33, n33⟩, -, X33, ⟨Lc33, hQ33, l33, y33, z33⟩, st33⟩ := Jvm.LawKit.callS X0 hx (y := (⟨"java/lang/Long", "numberOfTrailingZeros", "(J)I"⟩ : MethodName)) hown (mvT hZ (tw34 hw)) (mvT hZ (tw35 hw)) (mvT hZ (tw36 hw)) (mvT hZ (tw37 hw)) (by decide) (backOf (W := 1) (rmL l Z a0 hw [] held h0 n0 Z0 k hk) hZ (tw37 hw) (tw36 hw) (by decide) (by decide)) (g := (mkF m 126 #[.val (.ref a1), .val (.int p2), .val (.int wd), .val (.long bx), .second, .val (.int nx), .val (.int pt), .val (.long held), .second, .unset] [(.long held), (.int (pt <<< ((6 : Int32) &&& 31)))])) rfl (by rw [hml]; rfl) (argsL := [(.long held)]) (rest := [(.int (pt <<< ((6 : Int32) &&& 31)))]) (lenOf pd_1 rfl) rfl (by show 2 * 0 + _ ≤ _; exact Nat.le_of_eq rfl) (hb hby d4_126) (fun _ _ => ⟨rfl, e0, (by decide : 0 + 0 ≤ _), (by decide : 0 + 0 ≤ _)⟩)
      dsimp only [Pt.U, Pt.locs, Pt.cells, Pt.slots] at X33 l33 y33 z33 st33 hQ33
      subst l33 y33 z33
      obtain ⟨rfl, N33q, hh1⟩ := hQ33
      have N33 := Fr.app N0 N33q
      have e33 : T33.heap = h0 := hh1
      refine hG _ T33 _ (mkF m 129 #[.val (.ref a1), .val (.int p2), .val (.int wd), .val (.long bx), .second, .val (.int nx), .val (.int pt), .val (.long held), .second, .unset] [(.int (Nat.toInt32 k)), (.int (pt <<< ((6 : Int32) &&& 31)))]) (fun t kq_ => st33 _ kq_) ?_
      refine hG _ T33 _ (mkF m 130 #[.val (.ref a1), .val (.int p2), .val (.int wd), .val (.long bx), .second, .val (.int nx), .val (.int pt), .val (.long held), .second, .unset] [(.int ((pt <<< ((6 : Int32) &&& 31)) + (Nat.toInt32 k)))]) (fun t kq_ => XS.iadd X33.here hx rfl (hb hby d4_129) rfl kq_) ?_
      rw [own_sh6 hpt (by omega) hk64]
      obtain ⟨hw1, hw2⟩ := (hS.at hq hk64).mp (hH.1 k hk64 hk.1).1
      obtain ⟨k2, hk2⟩ := low_of hw2
      refine hG _ T33 _ (mkF m 132 #[.val (.ref a1), .val (.int p2), .val (.int wd), .val (.long bx), .second, .val (.int nx), .val (.int pt), .val (.long held), .second, .val (.int (Nat.toInt32 (64 * q + k)))] []) (fun t kq_ => XS.istore X33.here hx rfl (hb hby d4_130) rfl (l' := #[.val (.ref a1), .val (.int p2), .val (.int wd), .val (.long bx), .second, .val (.int nx), .val (.int pt), .val (.long held), .second, .val (.int (Nat.toInt32 (64 * q + k)))]) rfl kq_) ?_
      refine hG _ T33 _ (mkF m 134 #[.val (.ref a1), .val (.int p2), .val (.int wd), .val (.long bx), .second, .val (.int nx), .val (.int pt), .val (.long held), .second, .val (.int (Nat.toInt32 (64 * q + k)))] [(.int (Nat.toInt32 (64 * q + k)))]) (fun t kq_ => XS.iload X33.here hx rfl (hb hby d4_132) rfl kq_) ?_
      refine hG _ T33 _ (mkF m 136 #[.val (.ref a1), .val (.int p2), .val (.int wd), .val (.long bx), .second, .val (.int nx), .val (.int pt), .val (.long held), .second, .val (.int (Nat.toInt32 (64 * q + k)))] [(.int (6 : Int32)), (.int (Nat.toInt32 (64 * q + k)))]) (fun t kq_ => XS.bipush X33.here hx rfl (hb hby d4_134) kq_) ?_
      refine hG _ T33 _ (mkF m 137 #[.val (.ref a1), .val (.int p2), .val (.int wd), .val (.long bx), .second, .val (.int nx), .val (.int pt), .val (.long held), .second, .val (.int (Nat.toInt32 (64 * q + k)))] [(.int ((Nat.toInt32 (64 * q + k)) <<< ((6 : Int32) &&& 31)))]) (fun t kq_ => XS.ishl X33.here hx rfl (hb hby d4_136) rfl kq_) ?_
      refine hG _ T33 _ (mkF m 138 #[.val (.ref a1), .val (.int p2), .val (.int wd), .val (.long bx), .second, .val (.int nx), .val (.int pt), .val (.long held), .second, .val (.int (Nat.toInt32 (64 * q + k)))] [(.ref a1), (.int ((Nat.toInt32 (64 * q + k)) <<< ((6 : Int32) &&& 31)))]) (fun t kq_ => XS.aloadN X33.here hx rfl (hb hby d4_137) rfl rfl kq_) ?_
      obtain ⟨T34, X34, e34, st34⟩ := getF X33 hx hZ hown (host := "") (Or.inl (tw12 hw)) Via.refl e33 F_w (g := (mkF m 138 #[.val (.ref a1), .val (.int p2), .val (.int wd), .val (.long bx), .second, .val (.int nx), .val (.int pt), .val (.long held), .second, .val (.int (Nat.toInt32 (64 * q + k)))] [(.ref a1), (.int ((Nat.toInt32 (64 * q + k)) <<< ((6 : Int32) &&& 31)))])) rfl rfl (hb hby d4_138)
      refine hG _ T34 _ (mkF m 141 #[.val (.ref a1), .val (.int p2), .val (.int wd), .val (.long bx), .second, .val (.int nx), .val (.int pt), .val (.long held), .second, .val (.int (Nat.toInt32 (64 * q + k)))] [(.ref wa), (.int ((Nat.toInt32 (64 * q + k)) <<< ((6 : Int32) &&& 31)))]) st34 ?_
      refine hG _ T34 _ (mkF m 143 #[.val (.ref a1), .val (.int p2), .val (.int wd), .val (.long bx), .second, .val (.int nx), .val (.int pt), .val (.long held), .second, .val (.int (Nat.toInt32 (64 * q + k)))] [(.int (Nat.toInt32 (64 * q + k))), (.ref wa), (.int ((Nat.toInt32 (64 * q + k)) <<< ((6 : Int32) &&& 31)))]) (fun t kq_ => XS.iload X34.here hx rfl (hb hby d4_141) rfl kq_) ?_
      refine hG _ T34 _ (mkF m 144 #[.val (.ref a1), .val (.int p2), .val (.int wd), .val (.long bx), .second, .val (.int nx), .val (.int pt), .val (.long held), .second, .val (.int (Nat.toInt32 (64 * q + k)))] [(.long (w (64 * q + k))), (.int ((Nat.toInt32 (64 * q + k)) <<< ((6 : Int32) &&& 31)))]) (Av.ldJ X34 hx hZ e34 V_w (j := (Nat.toInt32 (64 * q + k))) (i := (64 * q + k)) (own_ti (by omega)) hw1 (g := (mkF m 143 #[.val (.ref a1), .val (.int p2), .val (.int wd), .val (.long bx), .second, .val (.int nx), .val (.int pt), .val (.long held), .second, .val (.int (Nat.toInt32 (64 * q + k)))] [(.int (Nat.toInt32 (64 * q + k))), (.ref wa), (.int ((Nat.toInt32 (64 * q + k)) <<< ((6 : Int32) &&& 31)))])) rfl rfl (hb hby d4_143)) ?_
      obtain ⟨_, _, ⟨T35, L35, k35, n35⟩, -, X35, ⟨Lc35, hQ35, l35, y35, z35⟩, st35⟩ := Jvm.LawKit.callS X34 hx (y := (⟨"java/lang/Long", "numberOfTrailingZeros", "(J)I"⟩ : MethodName)) hown (mvT hZ (tw34 hw)) (mvT hZ (tw35 hw)) (mvT hZ (tw36 hw)) (mvT hZ (tw37 hw)) (by decide) (backOf (W := 1) (rmL l Z a0 hw [] (w (64 * q + k)) h0 n0 Z0 k2 hk2) hZ (tw37 hw) (tw36 hw) (by decide) (by decide)) (g := (mkF m 144 #[.val (.ref a1), .val (.int p2), .val (.int wd), .val (.long bx), .second, .val (.int nx), .val (.int pt), .val (.long held), .second, .val (.int (Nat.toInt32 (64 * q + k)))] [(.long (w (64 * q + k))), (.int ((Nat.toInt32 (64 * q + k)) <<< ((6 : Int32) &&& 31)))])) rfl (by rw [hml]; rfl) (argsL := [(.long (w (64 * q + k)))]) (rest := [(.int ((Nat.toInt32 (64 * q + k)) <<< ((6 : Int32) &&& 31)))]) (lenOf pd_1 rfl) rfl (by show 2 * 0 + _ ≤ _; exact Nat.le_of_eq rfl) (hb hby d4_144) (fun _ _ => ⟨rfl, e34, (by decide : 0 + 0 ≤ _), (by decide : 0 + 0 ≤ _)⟩)
      dsimp only [Pt.U, Pt.locs, Pt.cells, Pt.slots] at X35 l35 y35 z35 st35 hQ35
      subst l35 y35 z35
      obtain ⟨rfl, N35q, hh2⟩ := hQ35
      have N35 := Fr.app N33 N35q
      have e35 : T35.heap = h0 := hh2
      refine hG _ T35 _ (mkF m 147 #[.val (.ref a1), .val (.int p2), .val (.int wd), .val (.long bx), .second, .val (.int nx), .val (.int pt), .val (.long held), .second, .val (.int (Nat.toInt32 (64 * q + k)))] [(.int (Nat.toInt32 k2)), (.int ((Nat.toInt32 (64 * q + k)) <<< ((6 : Int32) &&& 31)))]) (fun t kq_ => st35 _ kq_) ?_
      refine hG _ T35 _ (mkF m 148 #[.val (.ref a1), .val (.int p2), .val (.int wd), .val (.long bx), .second, .val (.int nx), .val (.int pt), .val (.long held), .second, .val (.int (Nat.toInt32 (64 * q + k)))] [(.int (((Nat.toInt32 (64 * q + k)) <<< ((6 : Int32) &&& 31)) + (Nat.toInt32 k2)))]) (fun t kq_ => XS.iadd X35.here hx rfl (hb hby d4_147) rfl kq_) ?_
      exact Goes.retI X35 hx hlk hrt (hb hby d4_148) (by decide : 0 ≤ 0) (by decide : 0 ≤ 0) (by (try rw [e35]); exact ⟨_, rfl, N35, rfl, hd_found hS hH hq h256 hk hk2 rfl⟩)
set_option maxRecDepth 65536 in
set_option maxHeartbeats 40000000 in
theorem nb57 {p : Program} {l : Launch} {e : Env} {s : State} {m : MethodId} {args : Array Value} {below : List Frame} {meth : Method} {c : Code} {T0 : State} {locs : List Loc} {Z : State} {a0 : Array Value} {h0 : Heap} {n0 : Nat} (a1 wa sa : Addr) (p2 : Int32) (w u : Nat → Int64) (n ns f : Nat) (wd nx pt : Int32) (bx : Int64)
    (X0 : Stand p l e ({ frames := 2, cells := 0, slots := 0, locals := 29 } : Room) s m args below meth c T0 locs 0 0) (hx : p.tables.exec = Jvm.exec) (hZ : Z.Warmed39 s.vm) (hw : ∀ d ∈ tables_1, d.before a0 Z = true) (hby : c.code = prog_72_method_4_code) (hml : c.maxLocals = 10) (hown : s.vm.findClass "com/example/polite_edges/politeedges/layered/SparseBitSet" = some m.cls) (e0 : T0.heap = h0) (Z0 : n0 ≤ h0.size) (N0 : Fr n0 locs) (hlk : meth.locks = false) (hrt : meth.sig.returnType = (some .int)) (F_w : Fld Z h0 a1 "com/example/polite_edges/politeedges/layered/SparseBitSet" "words" "[J" (.ref wa)) (F_s : Fld Z h0 a1 "com/example/polite_edges/politeedges/layered/SparseBitSet" "summary" "[J" (.ref sa)) (V_w : Av Z h0 wa .long n (Wd w)) (V_s : Av Z h0 sa .long ns (Wd u)) (hS : Sx n ns w u) (h256 : n ≤ 256) (h4 : ns ≤ 4) (hf : p2.toInt = (f : Int)) (hfb : f < 200000) (hbx : ∀ i, i < 64 → bt bx i = (bt (w (f / 64)) i && decide (f % 64 ≤ i))) (hb0 : bx = 0) (hnx : nx.toInt = ((f / 64 + 1 : Nat) : Int)) (hpt : pt.toInt = (((f / 64 + 1) / 64 : Nat) : Int)) :
    Goes p e below s (fun (v : Option Value) (h : Heap) (L : List Loc) => ∃ r, v = some (.int r) ∧ Fr n0 L ∧ h = h0 ∧ Nx n w f r) 0 0 T0 (mkF m 57 #[.val (.ref a1), .val (.int p2), .val (.int wd), .val (.long bx), .second, .val (.int nx), .val (.int pt), .unset, .unset, .unset] []) := by
  have hG := Goes.bk p e below s (fun (v : Option Value) (h : Heap) (L : List Loc) => ∃ r, v = some (.int r) ∧ Fr n0 L ∧ h = h0 ∧ Nx n w f r) 0 0
  refine hG _ T0 _ (mkF m 59 #[.val (.ref a1), .val (.int p2), .val (.int wd), .val (.long bx), .second, .val (.int nx), .val (.int pt), .unset, .unset, .unset] [(.int pt)]) (fun t kq_ => XS.iload X0.here hx rfl (hb hby d4_57) rfl kq_) ?_
  refine hG _ T0 _ (mkF m 60 #[.val (.ref a1), .val (.int p2), .val (.int wd), .val (.long bx), .second, .val (.int nx), .val (.int pt), .unset, .unset, .unset] [(.ref a1), (.int pt)]) (fun t kq_ => XS.aloadN X0.here hx rfl (hb hby d4_59) rfl rfl kq_) ?_
  obtain ⟨T36, X36, e36, st36⟩ := getF X0 hx hZ hown (host := "") (Or.inl (tw14 hw)) Via.refl e0 F_s (g := (mkF m 60 #[.val (.ref a1), .val (.int p2), .val (.int wd), .val (.long bx), .second, .val (.int nx), .val (.int pt), .unset, .unset, .unset] [(.ref a1), (.int pt)])) rfl rfl (hb hby d4_60)
  refine hG _ T36 _ (mkF m 63 #[.val (.ref a1), .val (.int p2), .val (.int wd), .val (.long bx), .second, .val (.int nx), .val (.int pt), .unset, .unset, .unset] [(.ref sa), (.int pt)]) st36 ?_
  refine hG _ T36 _ (mkF m 64 #[.val (.ref a1), .val (.int p2), .val (.int wd), .val (.long bx), .second, .val (.int nx), .val (.int pt), .unset, .unset, .unset] [(.int (Nat.toInt32 ns)), (.int pt)]) (Av.len X36 hx hZ e36 V_s (g := (mkF m 63 #[.val (.ref a1), .val (.int p2), .val (.int wd), .val (.long bx), .second, .val (.int nx), .val (.int pt), .unset, .unset, .unset] [(.ref sa), (.int pt)])) rfl rfl (hb hby d4_63)) ?_
  by_cases hc64 : pt < (Nat.toInt32 ns)
  · refine hG _ T36 _ (mkF m 69 #[.val (.ref a1), .val (.int p2), .val (.int wd), .val (.long bx), .second, .val (.int nx), .val (.int pt), .unset, .unset, .unset] []) (fun t kq_ => XS.icmpYes X36.here hx rfl (pc0 := 64) (pc' := 69) rfl (hb hby d4_64) rfl (tlt hc64).1 (by decide) (by decide) kq_) ?_
    have hp1 := (own_ltn hpt (by omega)).mp hc64
    refine hG _ T36 _ (mkF m 70 #[.val (.ref a1), .val (.int p2), .val (.int wd), .val (.long bx), .second, .val (.int nx), .val (.int pt), .unset, .unset, .unset] [(.ref a1)]) (fun t kq_ => XS.aloadN X36.here hx rfl (hb hby d4_69) rfl rfl kq_) ?_
    obtain ⟨T37, X37, e37, st37⟩ := getF X36 hx hZ hown (host := "") (Or.inl (tw14 hw)) Via.refl e36 F_s (g := (mkF m 70 #[.val (.ref a1), .val (.int p2), .val (.int wd), .val (.long bx), .second, .val (.int nx), .val (.int pt), .unset, .unset, .unset] [(.ref a1)])) rfl rfl (hb hby d4_70)
    refine hG _ T37 _ (mkF m 73 #[.val (.ref a1), .val (.int p2), .val (.int wd), .val (.long bx), .second, .val (.int nx), .val (.int pt), .unset, .unset, .unset] [(.ref sa)]) st37 ?_
    refine hG _ T37 _ (mkF m 75 #[.val (.ref a1), .val (.int p2), .val (.int wd), .val (.long bx), .second, .val (.int nx), .val (.int pt), .unset, .unset, .unset] [(.int pt), (.ref sa)]) (fun t kq_ => XS.iload X37.here hx rfl (hb hby d4_73) rfl kq_) ?_
    refine hG _ T37 _ (mkF m 76 #[.val (.ref a1), .val (.int p2), .val (.int wd), .val (.long bx), .second, .val (.int nx), .val (.int pt), .unset, .unset, .unset] [(.long (u ((f / 64 + 1) / 64)))]) (Av.ldJ X37 hx hZ e37 V_s (j := pt) (i := ((f / 64 + 1) / 64)) hpt hp1 (g := (mkF m 75 #[.val (.ref a1), .val (.int p2), .val (.int wd), .val (.long bx), .second, .val (.int nx), .val (.int pt), .unset, .unset, .unset] [(.int pt), (.ref sa)])) rfl rfl (hb hby d4_75)) ?_
    refine hG _ T37 _ (mkF m 79 #[.val (.ref a1), .val (.int p2), .val (.int wd), .val (.long bx), .second, .val (.int nx), .val (.int pt), .unset, .unset, .unset] [(.long (-1 : Int64)), (.long (u ((f / 64 + 1) / 64)))]) (X37.ldc2Long hx hown (mvT hZ (tw33 hw)) (g := (mkF m 76 #[.val (.ref a1), .val (.int p2), .val (.int wd), .val (.long bx), .second, .val (.int nx), .val (.int pt), .unset, .unset, .unset] [(.long (u ((f / 64 + 1) / 64)))])) rfl (hb hby d4_76)) ?_
    refine hG _ T37 _ (mkF m 81 #[.val (.ref a1), .val (.int p2), .val (.int wd), .val (.long bx), .second, .val (.int nx), .val (.int pt), .unset, .unset, .unset] [(.int nx), (.long (-1 : Int64)), (.long (u ((f / 64 + 1) / 64)))]) (fun t kq_ => XS.iload X37.here hx rfl (hb hby d4_79) rfl kq_) ?_
    refine hG _ T37 _ (mkF m 82 #[.val (.ref a1), .val (.int p2), .val (.int wd), .val (.long bx), .second, .val (.int nx), .val (.int pt), .unset, .unset, .unset] [(.long ((-1 : Int64) <<< (nx &&& 0x3f).toInt64)), (.long (u ((f / 64 + 1) / 64)))]) (fun t kq_ => XS.lshl X37.here hx rfl (hb hby d4_81) rfl kq_) ?_
    refine hG _ T37 _ (mkF m 83 #[.val (.ref a1), .val (.int p2), .val (.int wd), .val (.long bx), .second, .val (.int nx), .val (.int pt), .unset, .unset, .unset] [(.long ((u ((f / 64 + 1) / 64)) &&& ((-1 : Int64) <<< (nx &&& 0x3f).toInt64)))]) (fun t kq_ => XS.land X37.here hx rfl (hb hby d4_82) rfl kq_) ?_
    refine hG _ T37 _ (mkF m 85 #[.val (.ref a1), .val (.int p2), .val (.int wd), .val (.long bx), .second, .val (.int nx), .val (.int pt), .val (.long ((u ((f / 64 + 1) / 64)) &&& ((-1 : Int64) <<< (nx &&& 0x3f).toInt64))), .second, .unset] []) (fun t kq_ => XS.lstore X37.here hx rfl (hb hby d4_83) rfl (l' := #[.val (.ref a1), .val (.int p2), .val (.int wd), .val (.long bx), .second, .val (.int nx), .val (.int pt), .val (.long ((u ((f / 64 + 1) / 64)) &&& ((-1 : Int64) <<< (nx &&& 0x3f).toInt64))), .second, .unset]) rfl kq_) ?_
    exact nb85 a1 wa sa p2 w u n ns f wd nx bx hx hZ hw hby hml hown Z0 N0 hlk hrt F_w F_s V_w V_s hS h256 h4 hf hfb (ns - (f / 64 + 1) / 64) ((f / 64 + 1) / 64) pt _ _ (by omega) hp1 X37 e37 hpt (by omega) (hd_start hS hbx hb0 (bt_from hnx _))
  · refine hG _ T36 _ (mkF m 67 #[.val (.ref a1), .val (.int p2), .val (.int wd), .val (.long bx), .second, .val (.int nx), .val (.int pt), .unset, .unset, .unset] []) (fun t kq_ => XS.icmpNo X36.here hx rfl (hb hby d4_64) rfl (flt hc64).1 kq_) ?_
    have hp1 : ¬ (f / 64 + 1) / 64 < ns := fun z => hc64 ((own_ltn hpt (by omega)).mpr z)
    refine hG _ T36 _ (mkF m 68 #[.val (.ref a1), .val (.int p2), .val (.int wd), .val (.long bx), .second, .val (.int nx), .val (.int pt), .unset, .unset, .unset] [(.int (-1 : Int32))]) (fun t kq_ => XS.iconst X36.here hx rfl (hb hby d4_67) kq_) ?_
    exact Goes.retI X36 hx hlk hrt (hb hby d4_68) (by decide : 0 ≤ 0) (by decide : 0 ≤ 0) (by (try rw [e36]); exact ⟨_, rfl, N0, rfl, hd_none hS hbx hb0 (by omega)⟩)
set_option maxRecDepth 65536 in
set_option maxHeartbeats 40000000 in
theorem nb29 {p : Program} {l : Launch} {e : Env} {s : State} {m : MethodId} {args : Array Value} {below : List Frame} {meth : Method} {c : Code} {T0 : State} {locs : List Loc} {Z : State} {a0 : Array Value} {h0 : Heap} {n0 : Nat} (a1 wa sa : Addr) (p2 : Int32) (w u : Nat → Int64) (n ns f : Nat) (wd : Int32) (bx : Int64)
    (X0 : Stand p l e ({ frames := 2, cells := 0, slots := 0, locals := 29 } : Room) s m args below meth c T0 locs 0 0) (hx : p.tables.exec = Jvm.exec) (hZ : Z.Warmed39 s.vm) (hw : ∀ d ∈ tables_1, d.before a0 Z = true) (hby : c.code = prog_72_method_4_code) (hml : c.maxLocals = 10) (hown : s.vm.findClass "com/example/polite_edges/politeedges/layered/SparseBitSet" = some m.cls) (e0 : T0.heap = h0) (Z0 : n0 ≤ h0.size) (N0 : Fr n0 locs) (hlk : meth.locks = false) (hrt : meth.sig.returnType = (some .int)) (F_w : Fld Z h0 a1 "com/example/polite_edges/politeedges/layered/SparseBitSet" "words" "[J" (.ref wa)) (F_s : Fld Z h0 a1 "com/example/polite_edges/politeedges/layered/SparseBitSet" "summary" "[J" (.ref sa)) (V_w : Av Z h0 wa .long n (Wd w)) (V_s : Av Z h0 sa .long ns (Wd u)) (hS : Sx n ns w u) (h256 : n ≤ 256) (h4 : ns ≤ 4) (hf : p2.toInt = (f : Int)) (hfb : f < 200000) (hwd : wd.toInt = ((f / 64 : Nat) : Int)) (hn1 : f / 64 < n) (hbx : ∀ i, i < 64 → bt bx i = (bt (w (f / 64)) i && decide (f % 64 ≤ i))) :
    Goes p e below s (fun (v : Option Value) (h : Heap) (L : List Loc) => ∃ r, v = some (.int r) ∧ Fr n0 L ∧ h = h0 ∧ Nx n w f r) 0 0 T0 (mkF m 29 #[.val (.ref a1), .val (.int p2), .val (.int wd), .val (.long bx), .second, .unset, .unset, .unset, .unset, .unset] []) := by
  have hG := Goes.bk p e below s (fun (v : Option Value) (h : Heap) (L : List Loc) => ∃ r, v = some (.int r) ∧ Fr n0 L ∧ h = h0 ∧ Nx n w f r) 0 0
  refine hG _ T0 _ (mkF m 30 #[.val (.ref a1), .val (.int p2), .val (.int wd), .val (.long bx), .second, .unset, .unset, .unset, .unset, .unset] [(.long bx)]) (fun t kq_ => XS.lloadN X0.here hx rfl (hb hby d4_29) rfl kq_) ?_
  refine hG _ T0 _ (mkF m 31 #[.val (.ref a1), .val (.int p2), .val (.int wd), .val (.long bx), .second, .unset, .unset, .unset, .unset, .unset] [(.long (0 : Int64)), (.long bx)]) (fun t kq_ => XS.lconst X0.here hx rfl (hb hby d4_30) kq_) ?_
  refine hG _ T0 _ (mkF m 32 #[.val (.ref a1), .val (.int p2), .val (.int wd), .val (.long bx), .second, .unset, .unset, .unset, .unset, .unset] [(.int (lcmpW bx (0 : Int64)))]) (fun t kq_ => XS.lcmp X0.here hx rfl (hb hby d4_31) rfl kq_) ?_
  by_cases hc32 : (lcmpW bx (0 : Int64)) = (0 : Int32)
  · refine hG _ T0 _ (mkF m 45 #[.val (.ref a1), .val (.int p2), .val (.int wd), .val (.long bx), .second, .unset, .unset, .unset, .unset, .unset] []) (fun t kq_ => XS.ifYes X0.here hx rfl (pc0 := 32) (pc' := 45) rfl (hb hby d4_32) rfl ((if0 _ _).trans (teq hc32).1) (by decide) (by decide) kq_) ?_
    refine hG _ T0 _ (mkF m 46 #[.val (.ref a1), .val (.int p2), .val (.int wd), .val (.long bx), .second, .unset, .unset, .unset, .unset, .unset] [(.int wd)]) (fun t kq_ => XS.iloadN X0.here hx rfl (hb hby d4_45) rfl kq_) ?_
    refine hG _ T0 _ (mkF m 47 #[.val (.ref a1), .val (.int p2), .val (.int wd), .val (.long bx), .second, .unset, .unset, .unset, .unset, .unset] [(.int (1 : Int32)), (.int wd)]) (fun t kq_ => XS.iconst X0.here hx rfl (hb hby d4_46) kq_) ?_
    refine hG _ T0 _ (mkF m 48 #[.val (.ref a1), .val (.int p2), .val (.int wd), .val (.long bx), .second, .unset, .unset, .unset, .unset, .unset] [(.int (wd + (1 : Int32)))]) (fun t kq_ => XS.iadd X0.here hx rfl (hb hby d4_47) rfl kq_) ?_
    refine hG _ T0 _ (mkF m 50 #[.val (.ref a1), .val (.int p2), .val (.int wd), .val (.long bx), .second, .val (.int (wd + (1 : Int32))), .unset, .unset, .unset, .unset] []) (fun t kq_ => XS.istore X0.here hx rfl (hb hby d4_48) rfl (l' := #[.val (.ref a1), .val (.int p2), .val (.int wd), .val (.long bx), .second, .val (.int (wd + (1 : Int32))), .unset, .unset, .unset, .unset]) rfl kq_) ?_
    refine hG _ T0 _ (mkF m 52 #[.val (.ref a1), .val (.int p2), .val (.int wd), .val (.long bx), .second, .val (.int (wd + (1 : Int32))), .unset, .unset, .unset, .unset] [(.int (wd + (1 : Int32)))]) (fun t kq_ => XS.iload X0.here hx rfl (hb hby d4_50) rfl kq_) ?_
    refine hG _ T0 _ (mkF m 54 #[.val (.ref a1), .val (.int p2), .val (.int wd), .val (.long bx), .second, .val (.int (wd + (1 : Int32))), .unset, .unset, .unset, .unset] [(.int (6 : Int32)), (.int (wd + (1 : Int32)))]) (fun t kq_ => XS.bipush X0.here hx rfl (hb hby d4_52) kq_) ?_
    refine hG _ T0 _ (mkF m 55 #[.val (.ref a1), .val (.int p2), .val (.int wd), .val (.long bx), .second, .val (.int (wd + (1 : Int32))), .unset, .unset, .unset, .unset] [(.int (((wd + (1 : Int32)).toUInt32 >>> ((6 : Int32) &&& 31).toUInt32).toInt32))]) (fun t kq_ => XS.iushr X0.here hx rfl (hb hby d4_54) rfl kq_) ?_
    refine hG _ T0 _ (mkF m 57 #[.val (.ref a1), .val (.int p2), .val (.int wd), .val (.long bx), .second, .val (.int (wd + (1 : Int32))), .val (.int (((wd + (1 : Int32)).toUInt32 >>> ((6 : Int32) &&& 31).toUInt32).toInt32)), .unset, .unset, .unset] []) (fun t kq_ => XS.istore X0.here hx rfl (hb hby d4_55) rfl (l' := #[.val (.ref a1), .val (.int p2), .val (.int wd), .val (.long bx), .second, .val (.int (wd + (1 : Int32))), .val (.int (((wd + (1 : Int32)).toUInt32 >>> ((6 : Int32) &&& 31).toUInt32).toInt32)), .unset, .unset, .unset]) rfl kq_) ?_
    exact nb57 a1 wa sa p2 w u n ns f wd _ _ bx X0 hx hZ hw hby hml hown e0 Z0 N0 hlk hrt F_w F_s V_w V_s hS h256 h4 hf hfb hbx ((lw_eq _ _).mp hc32) (own_plus hwd (by omega) (by decide) (d := 1) rfl) (own_ush6 (own_plus hwd (by omega) (by decide) (d := 1) rfl))
  · refine hG _ T0 _ (mkF m 35 #[.val (.ref a1), .val (.int p2), .val (.int wd), .val (.long bx), .second, .unset, .unset, .unset, .unset, .unset] []) (fun t kq_ => XS.ifNo X0.here hx rfl (hb hby d4_32) rfl ((if0 _ _).trans (feq hc32).1) kq_) ?_
    obtain ⟨k, hk⟩ := low_of (fun z => hc32 ((lw_eq _ _).mpr z) : bx ≠ 0)
    refine hG _ T0 _ (mkF m 36 #[.val (.ref a1), .val (.int p2), .val (.int wd), .val (.long bx), .second, .unset, .unset, .unset, .unset, .unset] [(.int wd)]) (fun t kq_ => XS.iloadN X0.here hx rfl (hb hby d4_35) rfl kq_) ?_
    refine hG _ T0 _ (mkF m 38 #[.val (.ref a1), .val (.int p2), .val (.int wd), .val (.long bx), .second, .unset, .unset, .unset, .unset, .unset] [(.int (6 : Int32)), (.int wd)]) (fun t kq_ => XS.bipush X0.here hx rfl (hb hby d4_36) kq_) ?_
    refine hG _ T0 _ (mkF m 39 #[.val (.ref a1), .val (.int p2), .val (.int wd), .val (.long bx), .second, .unset, .unset, .unset, .unset, .unset] [(.int (wd <<< ((6 : Int32) &&& 31)))]) (fun t kq_ => XS.ishl X0.here hx rfl (hb hby d4_38) rfl kq_) ?_
    refine hG _ T0 _ (mkF m 40 #[.val (.ref a1), .val (.int p2), .val (.int wd), .val (.long bx), .second, .unset, .unset, .unset, .unset, .unset] [(.long bx), (.int (wd <<< ((6 : Int32) &&& 31)))]) (fun t kq_ => XS.lloadN X0.here hx rfl (hb hby d4_39) rfl kq_) ?_
    obtain ⟨_, _, ⟨T38, L38, k38, n38⟩, -, X38, ⟨Lc38, hQ38, l38, y38, z38⟩, st38⟩ := Jvm.LawKit.callS X0 hx (y := (⟨"java/lang/Long", "numberOfTrailingZeros", "(J)I"⟩ : MethodName)) hown (mvT hZ (tw34 hw)) (mvT hZ (tw35 hw)) (mvT hZ (tw36 hw)) (mvT hZ (tw37 hw)) (by decide) (backOf (W := 1) (rmL l Z a0 hw [] bx h0 n0 Z0 k hk) hZ (tw37 hw) (tw36 hw) (by decide) (by decide)) (g := (mkF m 40 #[.val (.ref a1), .val (.int p2), .val (.int wd), .val (.long bx), .second, .unset, .unset, .unset, .unset, .unset] [(.long bx), (.int (wd <<< ((6 : Int32) &&& 31)))])) rfl (by rw [hml]; rfl) (argsL := [(.long bx)]) (rest := [(.int (wd <<< ((6 : Int32) &&& 31)))]) (lenOf pd_1 rfl) rfl (by show 2 * 0 + _ ≤ _; exact Nat.le_of_eq rfl) (hb hby d4_40) (fun _ _ => ⟨rfl, e0, (by decide : 0 + 0 ≤ _), (by decide : 0 + 0 ≤ _)⟩)
    dsimp only [Pt.U, Pt.locs, Pt.cells, Pt.slots] at X38 l38 y38 z38 st38 hQ38
    subst l38 y38 z38
    obtain ⟨rfl, N38q, hh1⟩ := hQ38
    have N38 := Fr.app N0 N38q
    have e38 : T38.heap = h0 := hh1
    refine hG _ T38 _ (mkF m 43 #[.val (.ref a1), .val (.int p2), .val (.int wd), .val (.long bx), .second, .unset, .unset, .unset, .unset, .unset] [(.int (Nat.toInt32 k)), (.int (wd <<< ((6 : Int32) &&& 31)))]) (fun t kq_ => st38 _ kq_) ?_
    refine hG _ T38 _ (mkF m 44 #[.val (.ref a1), .val (.int p2), .val (.int wd), .val (.long bx), .second, .unset, .unset, .unset, .unset, .unset] [(.int ((wd <<< ((6 : Int32) &&& 31)) + (Nat.toInt32 k)))]) (fun t kq_ => XS.iadd X38.here hx rfl (hb hby d4_43) rfl kq_) ?_
    exact Goes.retI X38 hx hlk hrt (hb hby d4_44) (by decide : 0 ≤ 0) (by decide : 0 ≤ 0) (by (try rw [e38]); exact ⟨_, rfl, N38, rfl, nx_here hn1 h256 hwd hbx hk⟩)
set_option maxRecDepth 65536 in
set_option maxHeartbeats 40000000 in
theorem nb5 {p : Program} {l : Launch} {e : Env} {s : State} {m : MethodId} {args : Array Value} {below : List Frame} {meth : Method} {c : Code} {T0 : State} {locs : List Loc} {Z : State} {a0 : Array Value} {h0 : Heap} {n0 : Nat} (a1 wa sa : Addr) (p2 : Int32) (w u : Nat → Int64) (n ns f : Nat) (wd : Int32)
    (X0 : Stand p l e ({ frames := 2, cells := 0, slots := 0, locals := 29 } : Room) s m args below meth c T0 locs 0 0) (hx : p.tables.exec = Jvm.exec) (hZ : Z.Warmed39 s.vm) (hw : ∀ d ∈ tables_1, d.before a0 Z = true) (hby : c.code = prog_72_method_4_code) (hml : c.maxLocals = 10) (hown : s.vm.findClass "com/example/polite_edges/politeedges/layered/SparseBitSet" = some m.cls) (e0 : T0.heap = h0) (Z0 : n0 ≤ h0.size) (N0 : Fr n0 locs) (hlk : meth.locks = false) (hrt : meth.sig.returnType = (some .int)) (F_w : Fld Z h0 a1 "com/example/polite_edges/politeedges/layered/SparseBitSet" "words" "[J" (.ref wa)) (F_s : Fld Z h0 a1 "com/example/polite_edges/politeedges/layered/SparseBitSet" "summary" "[J" (.ref sa)) (V_w : Av Z h0 wa .long n (Wd w)) (V_s : Av Z h0 sa .long ns (Wd u)) (hS : Sx n ns w u) (h256 : n ≤ 256) (h4 : ns ≤ 4) (hf : p2.toInt = (f : Int)) (hfb : f < 200000) (hwd : wd.toInt = ((f / 64 : Nat) : Int)) :
    Goes p e below s (fun (v : Option Value) (h : Heap) (L : List Loc) => ∃ r, v = some (.int r) ∧ Fr n0 L ∧ h = h0 ∧ Nx n w f r) 0 0 T0 (mkF m 5 #[.val (.ref a1), .val (.int p2), .val (.int wd), .unset, .unset, .unset, .unset, .unset, .unset, .unset] []) := by
  have hG := Goes.bk p e below s (fun (v : Option Value) (h : Heap) (L : List Loc) => ∃ r, v = some (.int r) ∧ Fr n0 L ∧ h = h0 ∧ Nx n w f r) 0 0
  refine hG _ T0 _ (mkF m 6 #[.val (.ref a1), .val (.int p2), .val (.int wd), .unset, .unset, .unset, .unset, .unset, .unset, .unset] [(.int wd)]) (fun t kq_ => XS.iloadN X0.here hx rfl (hb hby d4_5) rfl kq_) ?_
  refine hG _ T0 _ (mkF m 7 #[.val (.ref a1), .val (.int p2), .val (.int wd), .unset, .unset, .unset, .unset, .unset, .unset, .unset] [(.ref a1), (.int wd)]) (fun t kq_ => XS.aloadN X0.here hx rfl (hb hby d4_6) rfl rfl kq_) ?_
  obtain ⟨T39, X39, e39, st39⟩ := getF X0 hx hZ hown (host := "") (Or.inl (tw12 hw)) Via.refl e0 F_w (g := (mkF m 7 #[.val (.ref a1), .val (.int p2), .val (.int wd), .unset, .unset, .unset, .unset, .unset, .unset, .unset] [(.ref a1), (.int wd)])) rfl rfl (hb hby d4_7)
  refine hG _ T39 _ (mkF m 10 #[.val (.ref a1), .val (.int p2), .val (.int wd), .unset, .unset, .unset, .unset, .unset, .unset, .unset] [(.ref wa), (.int wd)]) st39 ?_
  refine hG _ T39 _ (mkF m 11 #[.val (.ref a1), .val (.int p2), .val (.int wd), .unset, .unset, .unset, .unset, .unset, .unset, .unset] [(.int (Nat.toInt32 n)), (.int wd)]) (Av.len X39 hx hZ e39 V_w (g := (mkF m 10 #[.val (.ref a1), .val (.int p2), .val (.int wd), .unset, .unset, .unset, .unset, .unset, .unset, .unset] [(.ref wa), (.int wd)])) rfl rfl (hb hby d4_10)) ?_
  by_cases hc11 : wd < (Nat.toInt32 n)
  · refine hG _ T39 _ (mkF m 16 #[.val (.ref a1), .val (.int p2), .val (.int wd), .unset, .unset, .unset, .unset, .unset, .unset, .unset] []) (fun t kq_ => XS.icmpYes X39.here hx rfl (pc0 := 11) (pc' := 16) rfl (hb hby d4_11) rfl (tlt hc11).1 (by decide) (by decide) kq_) ?_
    have hn1 := (own_ltn hwd (by omega)).mp hc11
    refine hG _ T39 _ (mkF m 17 #[.val (.ref a1), .val (.int p2), .val (.int wd), .unset, .unset, .unset, .unset, .unset, .unset, .unset] [(.ref a1)]) (fun t kq_ => XS.aloadN X39.here hx rfl (hb hby d4_16) rfl rfl kq_) ?_
    obtain ⟨T40, X40, e40, st40⟩ := getF X39 hx hZ hown (host := "") (Or.inl (tw12 hw)) Via.refl e39 F_w (g := (mkF m 17 #[.val (.ref a1), .val (.int p2), .val (.int wd), .unset, .unset, .unset, .unset, .unset, .unset, .unset] [(.ref a1)])) rfl rfl (hb hby d4_17)
    refine hG _ T40 _ (mkF m 20 #[.val (.ref a1), .val (.int p2), .val (.int wd), .unset, .unset, .unset, .unset, .unset, .unset, .unset] [(.ref wa)]) st40 ?_
    refine hG _ T40 _ (mkF m 21 #[.val (.ref a1), .val (.int p2), .val (.int wd), .unset, .unset, .unset, .unset, .unset, .unset, .unset] [(.int wd), (.ref wa)]) (fun t kq_ => XS.iloadN X40.here hx rfl (hb hby d4_20) rfl kq_) ?_
    refine hG _ T40 _ (mkF m 22 #[.val (.ref a1), .val (.int p2), .val (.int wd), .unset, .unset, .unset, .unset, .unset, .unset, .unset] [(.long (w (f / 64)))]) (Av.ldJ X40 hx hZ e40 V_w (j := wd) (i := (f / 64)) hwd hn1 (g := (mkF m 21 #[.val (.ref a1), .val (.int p2), .val (.int wd), .unset, .unset, .unset, .unset, .unset, .unset, .unset] [(.int wd), (.ref wa)])) rfl rfl (hb hby d4_21)) ?_
    refine hG _ T40 _ (mkF m 25 #[.val (.ref a1), .val (.int p2), .val (.int wd), .unset, .unset, .unset, .unset, .unset, .unset, .unset] [(.long (-1 : Int64)), (.long (w (f / 64)))]) (X40.ldc2Long hx hown (mvT hZ (tw33 hw)) (g := (mkF m 22 #[.val (.ref a1), .val (.int p2), .val (.int wd), .unset, .unset, .unset, .unset, .unset, .unset, .unset] [(.long (w (f / 64)))])) rfl (hb hby d4_22)) ?_
    refine hG _ T40 _ (mkF m 26 #[.val (.ref a1), .val (.int p2), .val (.int wd), .unset, .unset, .unset, .unset, .unset, .unset, .unset] [(.int p2), (.long (-1 : Int64)), (.long (w (f / 64)))]) (fun t kq_ => XS.iloadN X40.here hx rfl (hb hby d4_25) rfl kq_) ?_
    refine hG _ T40 _ (mkF m 27 #[.val (.ref a1), .val (.int p2), .val (.int wd), .unset, .unset, .unset, .unset, .unset, .unset, .unset] [(.long ((-1 : Int64) <<< (p2 &&& 0x3f).toInt64)), (.long (w (f / 64)))]) (fun t kq_ => XS.lshl X40.here hx rfl (hb hby d4_26) rfl kq_) ?_
    refine hG _ T40 _ (mkF m 28 #[.val (.ref a1), .val (.int p2), .val (.int wd), .unset, .unset, .unset, .unset, .unset, .unset, .unset] [(.long ((w (f / 64)) &&& ((-1 : Int64) <<< (p2 &&& 0x3f).toInt64)))]) (fun t kq_ => XS.land X40.here hx rfl (hb hby d4_27) rfl kq_) ?_
    refine hG _ T40 _ (mkF m 29 #[.val (.ref a1), .val (.int p2), .val (.int wd), .val (.long ((w (f / 64)) &&& ((-1 : Int64) <<< (p2 &&& 0x3f).toInt64))), .second, .unset, .unset, .unset, .unset, .unset] []) (fun t kq_ => XS.lstoreN X40.here hx rfl (hb hby d4_28) rfl (l' := #[.val (.ref a1), .val (.int p2), .val (.int wd), .val (.long ((w (f / 64)) &&& ((-1 : Int64) <<< (p2 &&& 0x3f).toInt64))), .second, .unset, .unset, .unset, .unset, .unset]) rfl kq_) ?_
    exact nb29 a1 wa sa p2 w u n ns f wd _ X40 hx hZ hw hby hml hown e40 Z0 N0 hlk hrt F_w F_s V_w V_s hS h256 h4 hf hfb hwd hn1 (bt_from hf _)
  · refine hG _ T39 _ (mkF m 14 #[.val (.ref a1), .val (.int p2), .val (.int wd), .unset, .unset, .unset, .unset, .unset, .unset, .unset] []) (fun t kq_ => XS.icmpNo X39.here hx rfl (hb hby d4_11) rfl (flt hc11).1 kq_) ?_
    have hn1 : ¬ f / 64 < n := fun z => hc11 ((own_ltn hwd (by omega)).mpr z)
    refine hG _ T39 _ (mkF m 15 #[.val (.ref a1), .val (.int p2), .val (.int wd), .unset, .unset, .unset, .unset, .unset, .unset, .unset] [(.int (-1 : Int32))]) (fun t kq_ => XS.iconst X39.here hx rfl (hb hby d4_14) kq_) ?_
    exact Goes.retI X39 hx hlk hrt (hb hby d4_15) (by decide : 0 ≤ 0) (by decide : 0 ≤ 0) (by (try rw [e39]); exact ⟨_, rfl, N0, rfl, nx_far (by omega)⟩)
theorem ef_rmN (m : MethodId) (x0 : Addr) (x1 : Int32) : entryFrame m #[(.ref x0), (.int x1)] 10 = mkF m 0 #[.val (.ref x0), .val (.int x1), .unset, .unset, .unset, .unset, .unset, .unset, .unset, .unset] [] := by first | (simp [entryFrame, mkF, argsToLocals, Value.category]; done) | rfl
theorem pn_rmN : plainName "com/example/polite_edges/politeedges/layered/SparseBitSet" = true := by first | (simp [plainName, overriddenIn]; done) | decide +kernel
def Q_rmN (Z : State) (a1 : Addr) (p2 : Int32) (wa sa : Addr) (w u : Nat → Int64) (n ns f : Nat) (h0 : Heap) (n0 : Nat) (v : Option Value) (h : Heap) (L : List Loc) : Prop := ∃ r, v = some (.int r) ∧ Fr n0 L ∧ h = h0 ∧ Nx n w f r
set_option maxRecDepth 65536 in
set_option maxHeartbeats 40000000 in
theorem rmN (l : Launch) (Z : State) (a0 : Array Value) (hw : ∀ d ∈ tables_1, d.before a0 Z = true) (ws : List Jvm.Cond) (a1 : Addr) (p2 : Int32) (h0 : Heap) (n0 : Nat) (Z0 : n0 ≤ h0.size) (wa sa : Addr) (w u : Nat → Int64) (n ns f : Nat) (F_w : Fld Z h0 a1 "com/example/polite_edges/politeedges/layered/SparseBitSet" "words" "[J" (.ref wa)) (F_s : Fld Z h0 a1 "com/example/polite_edges/politeedges/layered/SparseBitSet" "summary" "[J" (.ref sa)) (V_w : Av Z h0 wa .long n (Wd w)) (V_s : Av Z h0 sa .long ns (Wd u)) (hS : Sx n ns w u) (h256 : n ≤ 256) (h4 : ns ≤ 4) (hf : p2.toInt = (f : Int)) (hfb : f < 200000) :
    MetFree l (⟨"com/example/polite_edges/politeedges/layered/SparseBitSet", "nextSetBit", "(I)I"⟩ : MethodName) (head1 (Jvm.Cond.code (⟨"com/example/polite_edges/politeedges/layered/SparseBitSet", "nextSetBit", "(I)I"⟩ : MethodName) prog_72_method_4_code 10 (some .int) :: ws) ({ frames := 2, cells := 0, slots := 0, locals := 29 } : Room)) (fun a U => a = #[(.ref a1), (.int p2)] ∧ Z.Warmed39 U.vm ∧ U.heap = h0) (fun _ _ _ _ _ => True) (fun _ U o U' => ∃ v L, o = .returned v ∧ Q_rmN Z a1 p2 wa sa w u n ns f h0 n0 v U'.heap L ∧ FrameEnd U o U' L ({ frames := 2, cells := 0, slots := 0, locals := 29 } : Room).cells ({ frames := 2, cells := 0, slots := 0, locals := 29 } : Room).slots) := by
  refine MetFree.of_bodySF (plainFor_of_name pn_rmN) hisR ?_
  intro p e s m args below meth c s₁ Bd hml0 hP hK
  obtain ⟨rfl, hZ, hh⟩ := hP
  have hx := Bd.exec
  have hby := Bd.bytes
  have hml : c.maxLocals = 10 := hml0
  have hown : s.vm.findClass "com/example/polite_edges/politeedges/layered/SparseBitSet" = some m.cls := findClass_of_methodNamed Bd.named
  have hnm := (name_of_methodNamed Bd.named Bd.method).1
  have X0 : Stand p l e ({ frames := 2, cells := 0, slots := 0, locals := 29 } : Room) s m #[(.ref a1), (.int p2)] below meth c s₁ [] 0 0 := Stand.of_body Bd
  have e0 : s₁.heap = h0 := by rw [← hh, Bd.state]; rfl
  have N0 := Fr.nil n0
  have hlk : meth.locks = false := BodyLoose.notSynchronized Bd
  have hrt := Bd.returns
  have hG := Goes.bk p e below s (fun (v : Option Value) (h : Heap) (L : List Loc) => ∃ r, v = some (.int r) ∧ Fr n0 L ∧ h = h0 ∧ Nx n w f r) 0 0
  show Goes p e below s (fun (v : Option Value) (h : Heap) (L : List Loc) => ∃ r, v = some (.int r) ∧ Fr n0 L ∧ h = h0 ∧ Nx n w f r) 0 0 s₁ (entryFrame m #[(.ref a1), (.int p2)] 10)
  rw [ef_rmN m a1 p2]
  refine hG _ s₁ _ (mkF m 1 #[.val (.ref a1), .val (.int p2), .unset, .unset, .unset, .unset, .unset, .unset, .unset, .unset] [(.int p2)]) (fun t kq_ => XS.iloadN X0.here hx rfl (hb hby d4_0) rfl kq_) ?_
  refine hG _ s₁ _ (mkF m 3 #[.val (.ref a1), .val (.int p2), .unset, .unset, .unset, .unset, .unset, .unset, .unset, .unset] [(.int (6 : Int32)), (.int p2)]) (fun t kq_ => XS.bipush X0.here hx rfl (hb hby d4_1) kq_) ?_
  refine hG _ s₁ _ (mkF m 4 #[.val (.ref a1), .val (.int p2), .unset, .unset, .unset, .unset, .unset, .unset, .unset, .unset] [(.int ((p2.toUInt32 >>> ((6 : Int32) &&& 31).toUInt32).toInt32))]) (fun t kq_ => XS.iushr X0.here hx rfl (hb hby d4_3) rfl kq_) ?_
  refine hG _ s₁ _ (mkF m 5 #[.val (.ref a1), .val (.int p2), .val (.int ((p2.toUInt32 >>> ((6 : Int32) &&& 31).toUInt32).toInt32)), .unset, .unset, .unset, .unset, .unset, .unset, .unset] []) (fun t kq_ => XS.istoreN X0.here hx rfl (hb hby d4_4) rfl (l' := #[.val (.ref a1), .val (.int p2), .val (.int ((p2.toUInt32 >>> ((6 : Int32) &&& 31).toUInt32).toInt32)), .unset, .unset, .unset, .unset, .unset, .unset, .unset]) rfl kq_) ?_
  exact nb5 a1 wa sa p2 w u n ns f _ X0 hx hZ hw hby hml hown e0 Z0 N0 hlk hrt F_w F_s V_w V_s hS h256 h4 hf hfb (own_ush6 hf)
set_option maxRecDepth 65536 in
set_option maxHeartbeats 40000000 in
theorem sl47 {p : Program} {l : Launch} {e : Env} {s : State} {m : MethodId} {args : Array Value} {below : List Frame} {meth : Method} {c : Code} {T0 : State} {locs : List Loc} {Z : State} {a0 : Array Value} {h0 : Heap} {n0 : Nat} {G : State → JFrame → Prop} (a1 wa sa : Addr) (p2 bi wd : Int32) (vl : Int64) (w u : Nat → Int64) (n ns cp k : Nat)
    (X0 : Stand p l e ({ frames := 0, cells := 0, slots := 0, locals := 0 } : Room) s m args below meth c T0 locs 0 0) (hx : p.tables.exec = Jvm.exec) (hZ : Z.Warmed39 s.vm) (hw : ∀ d ∈ tables_1, d.before a0 Z = true) (hby : c.code = prog_72_method_3_code) (hml : c.maxLocals = 3) (hown : s.vm.findClass "com/example/polite_edges/politeedges/layered/SparseBitSet" = some m.cls) (e0 : T0.heap = h0) (Z0 : n0 ≤ h0.size) (N0 : Fr n0 locs) (hG : Bk p e below G) (F_c : Fld Z h0 a1 "com/example/polite_edges/politeedges/layered/SparseBitSet" "capacity" "I" (.int p2)) (F_w : Fld Z h0 a1 "com/example/polite_edges/politeedges/layered/SparseBitSet" "words" "[J" (.ref wa)) (F_s : Fld Z h0 a1 "com/example/polite_edges/politeedges/layered/SparseBitSet" "summary" "[J" (.ref sa)) (V_w : Av Z h0 wa .long n (Wd w)) (V_s : Av Z h0 sa .long ns (Wd u)) (gw : n0 ≤ wa) (gs : n0 ≤ sa) (nw : a1 ≠ wa) (n_s : a1 ≠ sa) (nws : wa ≠ sa) (hc : p2.toInt = (cp : Int)) (hcb : cp ≤ 16384) (hn : n = (cp + 63) / 64) (hns : ns = (n + 63) / 64) (hk : k < n) (hwd : wd.toInt = (k : Int)) (kont : ∀ (T' : State) (h' : Heap) (locs' : List Loc), Stand p l e ({ frames := 0, cells := 0, slots := 0, locals := 0 } : Room) s m args below meth c T' locs' 0 0 → T'.heap = h' → n0 ≤ h'.size → Fr n0 locs' → Keep h0 h' [wa, sa] → Av Z h' wa .long n (Wd (upd w k vl)) → Av Z h' sa .long ns (Wd (upd u (k / 64) (u (k / 64) ||| ((1 : Int64) <<< (wd &&& 0x3f).toInt64)))) → G T' (mkF m 2 #[.val (.ref a1), .val (.int (bi + (64 : Int32))), .val (.int wd)] [])) :
    G T0 (mkF m 47 #[.val (.ref a1), .val (.int bi), .val (.int wd)] [(.long vl), (.int wd), (.ref wa)]) := by
  have K0 : Keep h0 h0 [wa, sa] := Keep.refl _ _
  have hsn : k / 64 < ns := by omega
  obtain ⟨T41, h41, X41, e41, W41, V41, st41⟩ := Av.stJ X0 hx hZ e0 V_w (j := wd) (i := k) hwd hk (g := (mkF m 47 #[.val (.ref a1), .val (.int bi), .val (.int wd)] [(.long vl), (.int wd), (.ref wa)])) rfl rfl (hb hby d3_47)
  have V41' : Av Z h41 wa .long n (Wd (upd w k vl)) := V41.cong (fun i _ => upd_wd _ _ _ i)
  have Zs42 : n0 ≤ h41.size := Nat.le_trans Z0 (Keep.of_wr W41).1
  have KK43 : Keep h0 h41 [wa, sa] := K0.wr W41 (Or.inl (List.mem_of_getElem? (i := 0) rfl))
  have N41 := Fr.snoc X41 N0 gw
  refine hG _ T41 _ (mkF m 48 #[.val (.ref a1), .val (.int bi), .val (.int wd)] []) st41 ?_
  refine hG _ T41 _ (mkF m 49 #[.val (.ref a1), .val (.int bi), .val (.int wd)] [(.ref a1)]) (fun t kq_ => XS.aloadN X41.here hx rfl (hb hby d3_48) rfl rfl kq_) ?_
  have F_s'44 : Fld Z h41 a1 "com/example/polite_edges/politeedges/layered/SparseBitSet" "summary" "[J" (.ref sa) := (F_s.other W41 (Or.inl nw))
  obtain ⟨T45, X45, e45, st45⟩ := getF X41 hx hZ hown (host := "") (Or.inl (tw14 hw)) Via.refl e41 F_s'44 (g := (mkF m 49 #[.val (.ref a1), .val (.int bi), .val (.int wd)] [(.ref a1)])) rfl rfl (hb hby d3_49)
  refine hG _ T45 _ (mkF m 52 #[.val (.ref a1), .val (.int bi), .val (.int wd)] [(.ref sa)]) st45 ?_
  refine hG _ T45 _ (mkF m 53 #[.val (.ref a1), .val (.int bi), .val (.int wd)] [(.int wd), (.ref sa)]) (fun t kq_ => XS.iloadN X45.here hx rfl (hb hby d3_52) rfl kq_) ?_
  refine hG _ T45 _ (mkF m 55 #[.val (.ref a1), .val (.int bi), .val (.int wd)] [(.int (6 : Int32)), (.int wd), (.ref sa)]) (fun t kq_ => XS.bipush X45.here hx rfl (hb hby d3_53) kq_) ?_
  refine hG _ T45 _ (mkF m 56 #[.val (.ref a1), .val (.int bi), .val (.int wd)] [(.int ((wd.toUInt32 >>> ((6 : Int32) &&& 31).toUInt32).toInt32)), (.ref sa)]) (fun t kq_ => XS.iushr X45.here hx rfl (hb hby d3_55) rfl kq_) ?_
  refine hG _ T45 _ (mkF m 57 #[.val (.ref a1), .val (.int bi), .val (.int wd)] [(.int ((wd.toUInt32 >>> ((6 : Int32) &&& 31).toUInt32).toInt32)), (.ref sa), (.int ((wd.toUInt32 >>> ((6 : Int32) &&& 31).toUInt32).toInt32)), (.ref sa)]) (fun t kq_ => Jvm.Free.XT.dup2 X45.here hx rfl (hb hby d3_56) rfl rfl rfl kq_) ?_
  have V_s'46 : Av Z h41 sa .long ns (Wd u) := (V_s.other W41 (Ne.symm nws))
  refine hG _ T45 _ (mkF m 58 #[.val (.ref a1), .val (.int bi), .val (.int wd)] [(.long (u (k / 64))), (.int ((wd.toUInt32 >>> ((6 : Int32) &&& 31).toUInt32).toInt32)), (.ref sa)]) (Av.ldJ X45 hx hZ e45 V_s'46 (j := ((wd.toUInt32 >>> ((6 : Int32) &&& 31).toUInt32).toInt32)) (i := (k / 64)) (own_ush6 hwd) hsn (g := (mkF m 57 #[.val (.ref a1), .val (.int bi), .val (.int wd)] [(.int ((wd.toUInt32 >>> ((6 : Int32) &&& 31).toUInt32).toInt32)), (.ref sa), (.int ((wd.toUInt32 >>> ((6 : Int32) &&& 31).toUInt32).toInt32)), (.ref sa)])) rfl rfl (hb hby d3_57)) ?_
  refine hG _ T45 _ (mkF m 59 #[.val (.ref a1), .val (.int bi), .val (.int wd)] [(.long (1 : Int64)), (.long (u (k / 64))), (.int ((wd.toUInt32 >>> ((6 : Int32) &&& 31).toUInt32).toInt32)), (.ref sa)]) (fun t kq_ => XS.lconst X45.here hx rfl (hb hby d3_58) kq_) ?_
  refine hG _ T45 _ (mkF m 60 #[.val (.ref a1), .val (.int bi), .val (.int wd)] [(.int wd), (.long (1 : Int64)), (.long (u (k / 64))), (.int ((wd.toUInt32 >>> ((6 : Int32) &&& 31).toUInt32).toInt32)), (.ref sa)]) (fun t kq_ => XS.iloadN X45.here hx rfl (hb hby d3_59) rfl kq_) ?_
  refine hG _ T45 _ (mkF m 61 #[.val (.ref a1), .val (.int bi), .val (.int wd)] [(.long ((1 : Int64) <<< (wd &&& 0x3f).toInt64)), (.long (u (k / 64))), (.int ((wd.toUInt32 >>> ((6 : Int32) &&& 31).toUInt32).toInt32)), (.ref sa)]) (fun t kq_ => XS.lshl X45.here hx rfl (hb hby d3_60) rfl kq_) ?_
  refine hG _ T45 _ (mkF m 62 #[.val (.ref a1), .val (.int bi), .val (.int wd)] [(.long ((u (k / 64)) ||| ((1 : Int64) <<< (wd &&& 0x3f).toInt64))), (.int ((wd.toUInt32 >>> ((6 : Int32) &&& 31).toUInt32).toInt32)), (.ref sa)]) (fun t kq_ => XS.lor X45.here hx rfl (hb hby d3_61) rfl kq_) ?_
  obtain ⟨T47, h47, X47, e47, W47, V47, st47⟩ := Av.stJ X45 hx hZ e45 V_s'46 (j := ((wd.toUInt32 >>> ((6 : Int32) &&& 31).toUInt32).toInt32)) (i := (k / 64)) (own_ush6 hwd) hsn (g := (mkF m 62 #[.val (.ref a1), .val (.int bi), .val (.int wd)] [(.long ((u (k / 64)) ||| ((1 : Int64) <<< (wd &&& 0x3f).toInt64))), (.int ((wd.toUInt32 >>> ((6 : Int32) &&& 31).toUInt32).toInt32)), (.ref sa)])) rfl rfl (hb hby d3_62)
  have V47' : Av Z h47 sa .long ns (Wd (upd u (k / 64) (u (k / 64) ||| ((1 : Int64) <<< (wd &&& 0x3f).toInt64)))) := V47.cong (fun i _ => upd_wd _ _ _ i)
  have Zs48 : n0 ≤ h47.size := Nat.le_trans Zs42 (Keep.of_wr W47).1
  have KK49 : Keep h0 h47 [wa, sa] := KK43.wr W47 (Or.inl (List.mem_of_getElem? (i := 1) rfl))
  have N47 := Fr.snoc X47 N41 gs
  refine hG _ T47 _ (mkF m 63 #[.val (.ref a1), .val (.int bi), .val (.int wd)] []) st47 ?_
  refine hG _ T47 _ (mkF m 66 #[.val (.ref a1), .val (.int (bi + (64 : Int32))), .val (.int wd)] []) (fun t kq_ => XS.iinc X47.here hx rfl (hb hby d3_63) rfl (l' := #[.val (.ref a1), .val (.int (bi + (64 : Int32))), .val (.int wd)]) rfl kq_) ?_
  refine hG _ T47 _ (mkF m 2 #[.val (.ref a1), .val (.int (bi + (64 : Int32))), .val (.int wd)] []) (fun t kq_ => XS.goto X47.here hx rfl (pc0 := 66) (pc' := 2) rfl (hb hby d3_66) (by decide) (by decide) kq_) ?_
  have V41'50 : Av Z h47 wa .long n (Wd (upd w k vl)) := (V41'.other W47 nws)
  exact kont _ _ _ X47 e47 Zs48 N47 KK49 V41'50 V47'
set_option maxRecDepth 65536 in
set_option maxHeartbeats 40000000 in
theorem sl2 {p : Program} {l : Launch} {e : Env} {s : State} {m : MethodId} {args : Array Value} {below : List Frame} {meth : Method} {c : Code} {Z : State} {a0 : Array Value} {n0 : Nat} {hS0 : Heap} (a1 wa sa : Addr) (p2 : Int32) (n ns cp : Nat) (hx : p.tables.exec = Jvm.exec) (hZ : Z.Warmed39 s.vm) (hw : ∀ d ∈ tables_1, d.before a0 Z = true) (hby : c.code = prog_72_method_3_code) (hml : c.maxLocals = 3) (hown : s.vm.findClass "com/example/polite_edges/politeedges/layered/SparseBitSet" = some m.cls) (hlk : meth.locks = false) (hrt : meth.sig.returnType = none) (gw : n0 ≤ wa) (gs : n0 ≤ sa) (nw : a1 ≠ wa) (n_s : a1 ≠ sa) (nws : wa ≠ sa) (hc : p2.toInt = (cp : Int)) (hcb : cp ≤ 16384) (hn : n = (cp + 63) / 64) (hns : ns = (n + 63) / 64) (j : Nat) :
    ∀ (k : Nat) (bi : Int32) (s2 : Slot) (w u : Nat → Int64) (T0 : State) (h0 : Heap) (locs : List Loc), k + j = n → Stand p l e ({ frames := 0, cells := 0, slots := 0, locals := 0 } : Room) s m args below meth c T0 locs 0 0 → T0.heap = h0 → n0 ≤ h0.size → Fr n0 locs → bi.toInt = ((64 * k : Nat) : Int) → (∀ (b x : Int32), storeLocals #[.val (.ref a1), .val (.int b), s2] 2 (.int x) = some #[.val (.ref a1), .val (.int b), .val (.int x)]) → Keep hS0 h0 [wa, sa] → Fld Z h0 a1 "com/example/polite_edges/politeedges/layered/SparseBitSet" "capacity" "I" (.int p2) → Fld Z h0 a1 "com/example/polite_edges/politeedges/layered/SparseBitSet" "words" "[J" (.ref wa) → Fld Z h0 a1 "com/example/polite_edges/politeedges/layered/SparseBitSet" "summary" "[J" (.ref sa) → Av Z h0 wa .long n (Wd w) → Av Z h0 sa .long ns (Wd u) → Sa cp n ns k w u → Goes p e below s (fun (v : Option Value) (h : Heap) (L : List Loc) => v = none ∧ Fr n0 L ∧ Keep hS0 h [wa, sa] ∧ ∃ w' u' : Nat → Int64, Av Z h wa .long n (Wd w') ∧ Av Z h sa .long ns (Wd u') ∧ Sx n ns w' u' ∧ ∀ x, mem n w' x ↔ x < cp) 0 0 T0 (mkF m 2 #[.val (.ref a1), .val (.int bi), s2] []) := by
  have hG := Goes.bk p e below s (fun (v : Option Value) (h : Heap) (L : List Loc) => v = none ∧ Fr n0 L ∧ Keep hS0 h [wa, sa] ∧ ∃ w' u' : Nat → Int64, Av Z h wa .long n (Wd w') ∧ Av Z h sa .long ns (Wd u') ∧ Sx n ns w' u' ∧ ∀ x, mem n w' x ↔ x < cp) 0 0
  induction j with
  | zero =>
    intro k bi s2 w u T0 h0 locs hk X0 e0 Z0 N0 hbi hsi KS F_c F_w F_s V_w V_s hA
    obtain rfl : k = n := hk
    refine hG _ T0 _ (mkF m 3 #[.val (.ref a1), .val (.int bi), s2] [(.int bi)]) (fun t kq_ => XS.iloadN X0.here hx rfl (hb hby d3_2) rfl kq_) ?_
    refine hG _ T0 _ (mkF m 4 #[.val (.ref a1), .val (.int bi), s2] [(.ref a1), (.int bi)]) (fun t kq_ => XS.aloadN X0.here hx rfl (hb hby d3_3) rfl rfl kq_) ?_
    obtain ⟨T51, X51, e51, st51⟩ := getF X0 hx hZ hown (host := "") (Or.inl (tw9 hw)) Via.refl e0 F_c (g := (mkF m 4 #[.val (.ref a1), .val (.int bi), s2] [(.ref a1), (.int bi)])) rfl rfl (hb hby d3_4)
    refine hG _ T51 _ (mkF m 7 #[.val (.ref a1), .val (.int bi), s2] [(.int p2), (.int bi)]) st51 ?_
    refine hG _ T51 _ (mkF m 69 #[.val (.ref a1), .val (.int bi), s2] []) (fun t kq_ => XS.icmpYes X51.here hx rfl (pc0 := 7) (pc' := 69) rfl (hb hby d3_7) rfl (flt (by rw [Int32.lt_iff_toInt_lt, hbi, hc]; omega)).2.1 (by decide) (by decide) kq_) ?_
    obtain ⟨hs1, hs2⟩ := sa_end hn (by omega) hA
    exact Goes.retV X51 hx hlk hrt (hb hby d3_69) (by decide : 0 ≤ 0) (by decide : 0 ≤ 0) (by (try rw [e51]); exact ⟨rfl, N0, KS, _, _, V_w, V_s, hs1, hs2⟩)
  | succ j ih =>
    intro k bi s2 w u T0 h0 locs hk X0 e0 Z0 N0 hbi hsi KS F_c F_w F_s V_w V_s hA
    refine hG _ T0 _ (mkF m 3 #[.val (.ref a1), .val (.int bi), s2] [(.int bi)]) (fun t kq_ => XS.iloadN X0.here hx rfl (hb hby d3_2) rfl kq_) ?_
    refine hG _ T0 _ (mkF m 4 #[.val (.ref a1), .val (.int bi), s2] [(.ref a1), (.int bi)]) (fun t kq_ => XS.aloadN X0.here hx rfl (hb hby d3_3) rfl rfl kq_) ?_
    obtain ⟨T52, X52, e52, st52⟩ := getF X0 hx hZ hown (host := "") (Or.inl (tw9 hw)) Via.refl e0 F_c (g := (mkF m 4 #[.val (.ref a1), .val (.int bi), s2] [(.ref a1), (.int bi)])) rfl rfl (hb hby d3_4)
    refine hG _ T52 _ (mkF m 7 #[.val (.ref a1), .val (.int bi), s2] [(.int p2), (.int bi)]) st52 ?_
    refine hG _ T52 _ (mkF m 10 #[.val (.ref a1), .val (.int bi), s2] []) (fun t kq_ => XS.icmpNo X52.here hx rfl (hb hby d3_7) rfl (tlt (by rw [Int32.lt_iff_toInt_lt, hbi, hc]; omega)).2.1 kq_) ?_
    refine hG _ T52 _ (mkF m 11 #[.val (.ref a1), .val (.int bi), s2] [(.int bi)]) (fun t kq_ => XS.iloadN X52.here hx rfl (hb hby d3_10) rfl kq_) ?_
    refine hG _ T52 _ (mkF m 13 #[.val (.ref a1), .val (.int bi), s2] [(.int (6 : Int32)), (.int bi)]) (fun t kq_ => XS.bipush X52.here hx rfl (hb hby d3_11) kq_) ?_
    refine hG _ T52 _ (mkF m 14 #[.val (.ref a1), .val (.int bi), s2] [(.int ((bi.toUInt32 >>> ((6 : Int32) &&& 31).toUInt32).toInt32))]) (fun t kq_ => XS.iushr X52.here hx rfl (hb hby d3_13) rfl kq_) ?_
    refine hG _ T52 _ (mkF m 15 #[.val (.ref a1), .val (.int bi), .val (.int ((bi.toUInt32 >>> ((6 : Int32) &&& 31).toUInt32).toInt32))] []) (fun t kq_ => XS.istoreN X52.here hx rfl (hb hby d3_14) rfl (l' := #[.val (.ref a1), .val (.int bi), .val (.int ((bi.toUInt32 >>> ((6 : Int32) &&& 31).toUInt32).toInt32))]) (hsi _ _) kq_) ?_
    have hwd := own_ush6 hbi
    rw [show 64 * k / 64 = k by omega] at hwd
    obtain ⟨wd, hwde⟩ : ∃ z, z = ((bi.toUInt32 >>> ((6 : Int32) &&& 31).toUInt32).toInt32) := ⟨_, rfl⟩
    rw [← hwde] at hwd ⊢
    refine hG _ T52 _ (mkF m 16 #[.val (.ref a1), .val (.int bi), .val (.int wd)] [(.ref a1)]) (fun t kq_ => XS.aloadN X52.here hx rfl (hb hby d3_15) rfl rfl kq_) ?_
    obtain ⟨T53, X53, e53, st53⟩ := getF X52 hx hZ hown (host := "") (Or.inl (tw12 hw)) Via.refl e52 F_w (g := (mkF m 16 #[.val (.ref a1), .val (.int bi), .val (.int wd)] [(.ref a1)])) rfl rfl (hb hby d3_16)
    refine hG _ T53 _ (mkF m 19 #[.val (.ref a1), .val (.int bi), .val (.int wd)] [(.ref wa)]) st53 ?_
    refine hG _ T53 _ (mkF m 20 #[.val (.ref a1), .val (.int bi), .val (.int wd)] [(.int wd), (.ref wa)]) (fun t kq_ => XS.iloadN X53.here hx rfl (hb hby d3_19) rfl kq_) ?_
    refine hG _ T53 _ (mkF m 21 #[.val (.ref a1), .val (.int bi), .val (.int wd)] [(.ref a1), (.int wd), (.ref wa)]) (fun t kq_ => XS.aloadN X53.here hx rfl (hb hby d3_20) rfl rfl kq_) ?_
    obtain ⟨T54, X54, e54, st54⟩ := getF X53 hx hZ hown (host := "") (Or.inl (tw9 hw)) Via.refl e53 F_c (g := (mkF m 21 #[.val (.ref a1), .val (.int bi), .val (.int wd)] [(.ref a1), (.int wd), (.ref wa)])) rfl rfl (hb hby d3_21)
    refine hG _ T54 _ (mkF m 24 #[.val (.ref a1), .val (.int bi), .val (.int wd)] [(.int p2), (.int wd), (.ref wa)]) st54 ?_
    refine hG _ T54 _ (mkF m 25 #[.val (.ref a1), .val (.int bi), .val (.int wd)] [(.int bi), (.int p2), (.int wd), (.ref wa)]) (fun t kq_ => XS.iloadN X54.here hx rfl (hb hby d3_24) rfl kq_) ?_
    refine hG _ T54 _ (mkF m 26 #[.val (.ref a1), .val (.int bi), .val (.int wd)] [(.int (p2 - bi)), (.int wd), (.ref wa)]) (fun t kq_ => XS.isub X54.here hx rfl (hb hby d3_25) rfl kq_) ?_
    refine hG _ T54 _ (mkF m 28 #[.val (.ref a1), .val (.int bi), .val (.int wd)] [(.int (64 : Int32)), (.int (p2 - bi)), (.int wd), (.ref wa)]) (fun t kq_ => XS.bipush X54.here hx rfl (hb hby d3_26) kq_) ?_
    have hd : (p2 - bi).toInt = ((cp - 64 * k : Nat) : Int) := by have := c_isub p2 bi; have := rng32 (p2 - bi); omega
    have e64 : (64 : Int32).toInt = 64 := rfl
    by_cases hc28 : (p2 - bi) < (64 : Int32)
    · refine hG _ T54 _ (mkF m 37 #[.val (.ref a1), .val (.int bi), .val (.int wd)] [(.int wd), (.ref wa)]) (fun t kq_ => XS.icmpYes X54.here hx rfl (pc0 := 28) (pc' := 37) rfl (hb hby d3_28) rfl (tlt hc28).1 (by decide) (by decide) kq_) ?_
      rw [Int32.lt_iff_toInt_lt, hd, e64] at hc28
      refine hG _ T54 _ (mkF m 38 #[.val (.ref a1), .val (.int bi), .val (.int wd)] [(.long (1 : Int64)), (.int wd), (.ref wa)]) (fun t kq_ => XS.lconst X54.here hx rfl (hb hby d3_37) kq_) ?_
      refine hG _ T54 _ (mkF m 39 #[.val (.ref a1), .val (.int bi), .val (.int wd)] [(.ref a1), (.long (1 : Int64)), (.int wd), (.ref wa)]) (fun t kq_ => XS.aloadN X54.here hx rfl (hb hby d3_38) rfl rfl kq_) ?_
      obtain ⟨T55, X55, e55, st55⟩ := getF X54 hx hZ hown (host := "") (Or.inl (tw9 hw)) Via.refl e54 F_c (g := (mkF m 39 #[.val (.ref a1), .val (.int bi), .val (.int wd)] [(.ref a1), (.long (1 : Int64)), (.int wd), (.ref wa)])) rfl rfl (hb hby d3_39)
      refine hG _ T55 _ (mkF m 42 #[.val (.ref a1), .val (.int bi), .val (.int wd)] [(.int p2), (.long (1 : Int64)), (.int wd), (.ref wa)]) st55 ?_
      refine hG _ T55 _ (mkF m 43 #[.val (.ref a1), .val (.int bi), .val (.int wd)] [(.int bi), (.int p2), (.long (1 : Int64)), (.int wd), (.ref wa)]) (fun t kq_ => XS.iloadN X55.here hx rfl (hb hby d3_42) rfl kq_) ?_
      refine hG _ T55 _ (mkF m 44 #[.val (.ref a1), .val (.int bi), .val (.int wd)] [(.int (p2 - bi)), (.long (1 : Int64)), (.int wd), (.ref wa)]) (fun t kq_ => XS.isub X55.here hx rfl (hb hby d3_43) rfl kq_) ?_
      refine hG _ T55 _ (mkF m 45 #[.val (.ref a1), .val (.int bi), .val (.int wd)] [(.long ((1 : Int64) <<< ((p2 - bi) &&& 0x3f).toInt64)), (.int wd), (.ref wa)]) (fun t kq_ => XS.lshl X55.here hx rfl (hb hby d3_44) rfl kq_) ?_
      refine hG _ T55 _ (mkF m 46 #[.val (.ref a1), .val (.int bi), .val (.int wd)] [(.long (1 : Int64)), (.long ((1 : Int64) <<< ((p2 - bi) &&& 0x3f).toInt64)), (.int wd), (.ref wa)]) (fun t kq_ => XS.lconst X55.here hx rfl (hb hby d3_45) kq_) ?_
      refine hG _ T55 _ (mkF m 47 #[.val (.ref a1), .val (.int bi), .val (.int wd)] [(.long (((1 : Int64) <<< ((p2 - bi) &&& 0x3f).toInt64) - (1 : Int64))), (.int wd), (.ref wa)]) (fun t kq_ => XS.lsub X55.here hx rfl (hb hby d3_46) rfl kq_) ?_
      refine sl47 a1 wa sa p2 bi wd _ w u n ns cp k X55 hx hZ hw hby hml hown e55 Z0 N0 hG F_c F_w F_s V_w V_s gw gs nw n_s nws hc hcb hn hns (by omega) hwd ?_
      intro T' h' locs' X' e' Z' N' K' Vw' Vs'
      have KS' : Keep hS0 h' [wa, sa] := KS.trans K' (fun x hx => Or.inl hx)
      refine ih (k + 1) _ _ _ _ _ _ _ (by omega) X' e' Z' N' ?_ (fun _ _ => rfl) KS' (F_c.keep K' (ninS nw (ninS n_s nin0))) (F_w.keep K' (ninS nw (ninS n_s nin0))) (F_s.keep K' (ninS nw (ninS n_s nin0))) Vw' Vs' (sa_next hA (fun j hj => by rw [bt_full hd (by omega) hj]; exact decide_eq_decide.mpr (by omega)) (bt_one hwd))
      have := c_iadd bi 64; have := rng32 (bi + 64); omega
    · refine hG _ T54 _ (mkF m 31 #[.val (.ref a1), .val (.int bi), .val (.int wd)] [(.int wd), (.ref wa)]) (fun t kq_ => XS.icmpNo X54.here hx rfl (hb hby d3_28) rfl (flt hc28).1 kq_) ?_
      rw [Int32.lt_iff_toInt_lt, hd, e64] at hc28
      refine hG _ T54 _ (mkF m 34 #[.val (.ref a1), .val (.int bi), .val (.int wd)] [(.long (-1 : Int64)), (.int wd), (.ref wa)]) (X54.ldc2Long hx hown (mvT hZ (tw33 hw)) (g := (mkF m 31 #[.val (.ref a1), .val (.int bi), .val (.int wd)] [(.int wd), (.ref wa)])) rfl (hb hby d3_31)) ?_
      refine hG _ T54 _ (mkF m 47 #[.val (.ref a1), .val (.int bi), .val (.int wd)] [(.long (-1 : Int64)), (.int wd), (.ref wa)]) (fun t kq_ => XS.goto X54.here hx rfl (pc0 := 34) (pc' := 47) rfl (hb hby d3_34) (by decide) (by decide) kq_) ?_
      refine sl47 a1 wa sa p2 bi wd _ w u n ns cp k X54 hx hZ hw hby hml hown e54 Z0 N0 hG F_c F_w F_s V_w V_s gw gs nw n_s nws hc hcb hn hns (by omega) hwd ?_
      intro T' h' locs' X' e' Z' N' K' Vw' Vs'
      have KS' : Keep hS0 h' [wa, sa] := KS.trans K' (fun x hx => Or.inl hx)
      refine ih (k + 1) _ _ _ _ _ _ _ (by omega) X' e' Z' N' ?_ (fun _ _ => rfl) KS' (F_c.keep K' (ninS nw (ninS n_s nin0))) (F_w.keep K' (ninS nw (ninS n_s nin0))) (F_s.keep K' (ninS nw (ninS n_s nin0))) Vw' Vs' (sa_next hA (fun j hj => by rw [bt_m1 hj]; exact (decide_eq_true (by omega)).symm) (bt_one hwd))
      have := c_iadd bi 64; have := rng32 (bi + 64); omega
theorem ef_rmA (m : MethodId) (x0 : Addr) : entryFrame m #[(.ref x0)] 3 = mkF m 0 #[.val (.ref x0), .unset, .unset] [] := by first | (simp [entryFrame, mkF, argsToLocals, Value.category]; done) | rfl
theorem pn_rmA : plainName "com/example/polite_edges/politeedges/layered/SparseBitSet" = true := by first | (simp [plainName, overriddenIn]; done) | decide +kernel
def Q_rmA (Z : State) (a1 : Addr) (wa sa : Addr) (p2 : Int32) (n ns cp : Nat) (h0 : Heap) (n0 : Nat) (v : Option Value) (h : Heap) (L : List Loc) : Prop := v = none ∧ Fr n0 L ∧ Keep h0 h [wa, sa] ∧ ∃ w' u' : Nat → Int64, Av Z h wa .long n (Wd w') ∧ Av Z h sa .long ns (Wd u') ∧ Sx n ns w' u' ∧ ∀ x, mem n w' x ↔ x < cp
set_option maxRecDepth 65536 in
set_option maxHeartbeats 40000000 in
theorem rmA (l : Launch) (Z : State) (a0 : Array Value) (hw : ∀ d ∈ tables_1, d.before a0 Z = true) (ws : List Jvm.Cond) (a1 : Addr) (h0 : Heap) (n0 : Nat) (Z0 : n0 ≤ h0.size) (wa sa : Addr) (p2 : Int32) (n ns cp : Nat) (F_c : Fld Z h0 a1 "com/example/polite_edges/politeedges/layered/SparseBitSet" "capacity" "I" (.int p2)) (F_w : Fld Z h0 a1 "com/example/polite_edges/politeedges/layered/SparseBitSet" "words" "[J" (.ref wa)) (F_s : Fld Z h0 a1 "com/example/polite_edges/politeedges/layered/SparseBitSet" "summary" "[J" (.ref sa)) (V_w : Av Z h0 wa .long n (Wd fun _ => 0)) (V_s : Av Z h0 sa .long ns (Wd fun _ => 0)) (gw : n0 ≤ wa) (gs : n0 ≤ sa) (nw : a1 ≠ wa) (n_s : a1 ≠ sa) (nws : wa ≠ sa) (hc : p2.toInt = (cp : Int)) (hcb : cp ≤ 16384) (hn : n = (cp + 63) / 64) (hns : ns = (n + 63) / 64) :
    MetFree l (⟨"com/example/polite_edges/politeedges/layered/SparseBitSet", "setAll", "()V"⟩ : MethodName) (head1 (Jvm.Cond.code (⟨"com/example/polite_edges/politeedges/layered/SparseBitSet", "setAll", "()V"⟩ : MethodName) prog_72_method_3_code 3 none :: ws) ({ frames := 0, cells := 0, slots := 0, locals := 0 } : Room)) (fun a U => a = #[(.ref a1)] ∧ Z.Warmed39 U.vm ∧ U.heap = h0) (fun _ _ _ _ _ => True) (fun _ U o U' => ∃ v L, o = .returned v ∧ Q_rmA Z a1 wa sa p2 n ns cp h0 n0 v U'.heap L ∧ FrameEnd U o U' L ({ frames := 0, cells := 0, slots := 0, locals := 0 } : Room).cells ({ frames := 0, cells := 0, slots := 0, locals := 0 } : Room).slots) := by
  refine MetFree.of_bodySF (plainFor_of_name pn_rmA) hisR ?_
  intro p e s m args below meth c s₁ Bd hml0 hP hK
  obtain ⟨rfl, hZ, hh⟩ := hP
  have hx := Bd.exec
  have hby := Bd.bytes
  have hml : c.maxLocals = 3 := hml0
  have hown : s.vm.findClass "com/example/polite_edges/politeedges/layered/SparseBitSet" = some m.cls := findClass_of_methodNamed Bd.named
  have hnm := (name_of_methodNamed Bd.named Bd.method).1
  have X0 : Stand p l e ({ frames := 0, cells := 0, slots := 0, locals := 0 } : Room) s m #[(.ref a1)] below meth c s₁ [] 0 0 := Stand.of_body Bd
  have e0 : s₁.heap = h0 := by rw [← hh, Bd.state]; rfl
  have N0 := Fr.nil n0
  have hlk : meth.locks = false := BodyLoose.notSynchronized Bd
  have hrt := Bd.returns
  have hG := Goes.bk p e below s (fun (v : Option Value) (h : Heap) (L : List Loc) => v = none ∧ Fr n0 L ∧ Keep h0 h [wa, sa] ∧ ∃ w' u' : Nat → Int64, Av Z h wa .long n (Wd w') ∧ Av Z h sa .long ns (Wd u') ∧ Sx n ns w' u' ∧ ∀ x, mem n w' x ↔ x < cp) 0 0
  show Goes p e below s (fun (v : Option Value) (h : Heap) (L : List Loc) => v = none ∧ Fr n0 L ∧ Keep h0 h [wa, sa] ∧ ∃ w' u' : Nat → Int64, Av Z h wa .long n (Wd w') ∧ Av Z h sa .long ns (Wd u') ∧ Sx n ns w' u' ∧ ∀ x, mem n w' x ↔ x < cp) 0 0 s₁ (entryFrame m #[(.ref a1)] 3)
  rw [ef_rmA m a1]
  refine hG _ s₁ _ (mkF m 1 #[.val (.ref a1), .unset, .unset] [(.int (0 : Int32))]) (fun t kq_ => XS.iconst X0.here hx rfl (hb hby d3_0) kq_) ?_
  refine hG _ s₁ _ (mkF m 2 #[.val (.ref a1), .val (.int (0 : Int32)), .unset] []) (fun t kq_ => XS.istoreN X0.here hx rfl (hb hby d3_1) rfl (l' := #[.val (.ref a1), .val (.int (0 : Int32)), .unset]) rfl kq_) ?_
  exact sl2 a1 wa sa p2 n ns cp hx hZ hw hby hml hown hlk hrt gw gs nw n_s nws hc hcb hn hns n 0 _ _ _ _ _ _ _ (by omega) X0 e0 Z0 N0 rfl (fun _ _ => rfl) (Keep.refl _ _) F_c F_w F_s V_w V_s (sa_zero cp n ns)
set_option maxRecDepth 65536 in
set_option maxHeartbeats 40000000 in
theorem cl18 {p : Program} {l : Launch} {e : Env} {s : State} {m : MethodId} {args : Array Value} {below : List Frame} {meth : Method} {c : Code} {Z : State} {a0 : Array Value} {n0 : Nat} {G : State → JFrame → Prop} (a1 wa sa : Addr) (pt : Int32) (u : Nat → Int64) (n ns q : Nat) (hx : p.tables.exec = Jvm.exec) (hZ : Z.Warmed39 s.vm) (hw : ∀ d ∈ tables_1, d.before a0 Z = true) (hby : c.code = prog_72_method_5_code) (hml : c.maxLocals = 4) (hown : s.vm.findClass "com/example/polite_edges/politeedges/layered/SparseBitSet" = some m.cls) (hG : Bk p e below G) (gw : n0 ≤ wa) (gs : n0 ≤ sa) (nw : a1 ≠ wa) (n_s : a1 ≠ sa) (nws : wa ≠ sa) (h256 : n ≤ 256) (h4 : ns ≤ 4) (hns : n ≤ 64 * ns) (hq : q < ns) (hpt : pt.toInt = (q : Int)) (B : Nat) :
    ∀ (held : Int64) (w : Nat → Int64) (T0 : State) (h0 : Heap) (locs : List Loc), held.toBitVec.toNat = B → Stand p l e ({ frames := 2, cells := 0, slots := 0, locals := 30 } : Room) s m args below meth c T0 locs 0 0 → T0.heap = h0 → n0 ≤ h0.size → Fr n0 locs → Fld Z h0 a1 "com/example/polite_edges/politeedges/layered/SparseBitSet" "words" "[J" (.ref wa) → Fld Z h0 a1 "com/example/polite_edges/politeedges/layered/SparseBitSet" "summary" "[J" (.ref sa) → Av Z h0 wa .long n (Wd w) → Av Z h0 sa .long ns (Wd u) → Ic n ns q w u held → (∀ (T' : State) (h' : Heap) (locs' : List Loc) (w' : Nat → Int64), Stand p l e ({ frames := 2, cells := 0, slots := 0, locals := 30 } : Room) s m args below meth c T' locs' 0 0 → T'.heap = h' → n0 ≤ h'.size → Fr n0 locs' → Keep h0 h' [wa, sa] → Av Z h' wa .long n (Wd w') → Av Z h' sa .long ns (Wd u) → Ic n ns q w' u 0 → G T' (mkF m 48 #[.val (.ref a1), .val (.int pt), .val (.long (0 : Int64)), .second] [])) → G T0 (mkF m 18 #[.val (.ref a1), .val (.int pt), .val (.long held), .second] []) := by
  induction B using Nat.strongRecOn with
  | ind B ih =>
    intro held w T0 h0 locs hB X0 e0 Z0 N0 F_w F_s V_w V_s hI kont
    refine hG _ T0 _ (mkF m 19 #[.val (.ref a1), .val (.int pt), .val (.long held), .second] [(.long held)]) (fun t kq_ => XS.lloadN X0.here hx rfl (hb hby d5_18) rfl kq_) ?_
    refine hG _ T0 _ (mkF m 20 #[.val (.ref a1), .val (.int pt), .val (.long held), .second] [(.long (0 : Int64)), (.long held)]) (fun t kq_ => XS.lconst X0.here hx rfl (hb hby d5_19) kq_) ?_
    refine hG _ T0 _ (mkF m 21 #[.val (.ref a1), .val (.int pt), .val (.long held), .second] [(.int (lcmpW held (0 : Int64)))]) (fun t kq_ => XS.lcmp X0.here hx rfl (hb hby d5_20) rfl kq_) ?_
    by_cases hc21 : (lcmpW held (0 : Int64)) = (0 : Int32)
    · refine hG _ T0 _ (mkF m 48 #[.val (.ref a1), .val (.int pt), .val (.long held), .second] []) (fun t kq_ => XS.ifYes X0.here hx rfl (pc0 := 21) (pc' := 48) rfl (hb hby d5_21) rfl ((if0 _ _).trans (teq hc21).1) (by decide) (by decide) kq_) ?_
      obtain rfl : held = 0 := (lw_eq _ _).mp hc21
      exact kont _ _ _ w X0 e0 Z0 N0 (Keep.refl _ _) V_w V_s hI
    · refine hG _ T0 _ (mkF m 24 #[.val (.ref a1), .val (.int pt), .val (.long held), .second] []) (fun t kq_ => XS.ifNo X0.here hx rfl (hb hby d5_21) rfl ((if0 _ _).trans (feq hc21).1) kq_) ?_
      have hnz : held ≠ 0 := fun z => hc21 ((lw_eq _ _).mpr z)
      obtain ⟨k, hk⟩ := low_of hnz
      have hk64 := hk.lt
      have hin := hI.2.1 k hk64 hk.1
      have K0 : Keep h0 h0 [wa, sa] := Keep.refl _ _
      refine hG _ T0 _ (mkF m 25 #[.val (.ref a1), .val (.int pt), .val (.long held), .second] [(.ref a1)]) (fun t kq_ => XS.aloadN X0.here hx rfl (hb hby d5_24) rfl rfl kq_) ?_
      obtain ⟨T56, X56, e56, st56⟩ := getF X0 hx hZ hown (host := "") (Or.inl (tw12 hw)) Via.refl e0 F_w (g := (mkF m 25 #[.val (.ref a1), .val (.int pt), .val (.long held), .second] [(.ref a1)])) rfl rfl (hb hby d5_25)
      refine hG _ T56 _ (mkF m 28 #[.val (.ref a1), .val (.int pt), .val (.long held), .second] [(.ref wa)]) st56 ?_
      refine hG _ T56 _ (mkF m 29 #[.val (.ref a1), .val (.int pt), .val (.long held), .second] [(.int pt), (.ref wa)]) (fun t kq_ => XS.iloadN X56.here hx rfl (hb hby d5_28) rfl kq_) ?_
      refine hG _ T56 _ (mkF m 31 #[.val (.ref a1), .val (.int pt), .val (.long held), .second] [(.int (6 : Int32)), (.int pt), (.ref wa)]) (fun t kq_ => XS.bipush X56.here hx rfl (hb hby d5_29) kq_) ?_
      refine hG _ T56 _ (mkF m 32 #[.val (.ref a1), .val (.int pt), .val (.long held), .second] [(.int (pt <<< ((6 : Int32) &&& 31))), (.ref wa)]) (fun t kq_ => XS.ishl X56.here hx rfl (hb hby d5_31) rfl kq_) ?_
      refine hG _ T56 _ (mkF m 33 #[.val (.ref a1), .val (.int pt), .val (.long held), .second] [(.long held), (.int (pt <<< ((6 : Int32) &&& 31))), (.ref wa)]) (fun t kq_ => XS.lloadN X56.here hx rfl (hb hby d5_32) rfl kq_) ?_
      obtain ⟨_, _, ⟨T57, L57, k57, n57⟩, -, X57, ⟨Lc57, hQ57, l57, y57, z57⟩, st57⟩ := Jvm.LawKit.callS X56 hx (y := (⟨"java/lang/Long", "numberOfTrailingZeros", "(J)I"⟩ : MethodName)) hown (mvT hZ (tw34 hw)) (mvT hZ (tw35 hw)) (mvT hZ (tw36 hw)) (mvT hZ (tw37 hw)) (by decide) (backOf (W := 2) (rmL l Z a0 hw [] held h0 n0 Z0 k hk) hZ (tw37 hw) (tw36 hw) (by decide) (by decide)) (g := (mkF m 33 #[.val (.ref a1), .val (.int pt), .val (.long held), .second] [(.long held), (.int (pt <<< ((6 : Int32) &&& 31))), (.ref wa)])) rfl (by rw [hml]; rfl) (argsL := [(.long held)]) (rest := [(.int (pt <<< ((6 : Int32) &&& 31))), (.ref wa)]) (lenOf pd_1 rfl) rfl (by show 2 * 0 + _ ≤ _; exact Nat.le_of_eq rfl) (hb hby d5_33) (fun _ _ => ⟨rfl, e56, (by decide : 0 + 0 ≤ _), (by decide : 0 + 0 ≤ _)⟩)
      dsimp only [Pt.U, Pt.locs, Pt.cells, Pt.slots] at X57 l57 y57 z57 st57 hQ57
      subst l57 y57 z57
      obtain ⟨rfl, N57q, hh1⟩ := hQ57
      have N57 := Fr.app N0 N57q
      have e57 : T57.heap = h0 := hh1
      refine hG _ T57 _ (mkF m 36 #[.val (.ref a1), .val (.int pt), .val (.long held), .second] [(.int (Nat.toInt32 k)), (.int (pt <<< ((6 : Int32) &&& 31))), (.ref wa)]) (fun t kq_ => st57 _ kq_) ?_
      refine hG _ T57 _ (mkF m 37 #[.val (.ref a1), .val (.int pt), .val (.long held), .second] [(.int ((pt <<< ((6 : Int32) &&& 31)) + (Nat.toInt32 k))), (.ref wa)]) (fun t kq_ => XS.iadd X57.here hx rfl (hb hby d5_36) rfl kq_) ?_
      rw [own_sh6 hpt (by omega) hk64]
      refine hG _ T57 _ (mkF m 38 #[.val (.ref a1), .val (.int pt), .val (.long held), .second] [(.long (0 : Int64)), (.int (Nat.toInt32 (64 * q + k))), (.ref wa)]) (fun t kq_ => XS.lconst X57.here hx rfl (hb hby d5_37) kq_) ?_
      obtain ⟨T58, h58, X58, e58, W58, V58, st58⟩ := Av.stJ X57 hx hZ e57 V_w (j := (Nat.toInt32 (64 * q + k))) (i := (64 * q + k)) (own_ti (by omega)) hin (g := (mkF m 38 #[.val (.ref a1), .val (.int pt), .val (.long held), .second] [(.long (0 : Int64)), (.int (Nat.toInt32 (64 * q + k))), (.ref wa)])) rfl rfl (hb hby d5_38)
      have V58' : Av Z h58 wa .long n (Wd (upd w (64 * q + k) 0)) := V58.cong (fun i _ => upd_wd _ _ _ i)
      have Zs59 : n0 ≤ h58.size := Nat.le_trans Z0 (Keep.of_wr W58).1
      have KK60 : Keep h0 h58 [wa, sa] := K0.wr W58 (Or.inl (List.mem_of_getElem? (i := 0) rfl))
      have N58 := Fr.snoc X58 N57 gw
      refine hG _ T58 _ (mkF m 39 #[.val (.ref a1), .val (.int pt), .val (.long held), .second] []) st58 ?_
      refine hG _ T58 _ (mkF m 40 #[.val (.ref a1), .val (.int pt), .val (.long held), .second] [(.long held)]) (fun t kq_ => XS.lloadN X58.here hx rfl (hb hby d5_39) rfl kq_) ?_
      refine hG _ T58 _ (mkF m 41 #[.val (.ref a1), .val (.int pt), .val (.long held), .second] [(.long held), (.long held)]) (fun t kq_ => XS.lloadN X58.here hx rfl (hb hby d5_40) rfl kq_) ?_
      refine hG _ T58 _ (mkF m 42 #[.val (.ref a1), .val (.int pt), .val (.long held), .second] [(.long (1 : Int64)), (.long held), (.long held)]) (fun t kq_ => XS.lconst X58.here hx rfl (hb hby d5_41) kq_) ?_
      refine hG _ T58 _ (mkF m 43 #[.val (.ref a1), .val (.int pt), .val (.long held), .second] [(.long (held - (1 : Int64))), (.long held)]) (fun t kq_ => XS.lsub X58.here hx rfl (hb hby d5_42) rfl kq_) ?_
      refine hG _ T58 _ (mkF m 44 #[.val (.ref a1), .val (.int pt), .val (.long held), .second] [(.long (held &&& (held - (1 : Int64))))]) (fun t kq_ => XS.land X58.here hx rfl (hb hby d5_43) rfl kq_) ?_
      refine hG _ T58 _ (mkF m 45 #[.val (.ref a1), .val (.int pt), .val (.long (held &&& (held - (1 : Int64)))), .second] []) (fun t kq_ => XS.lstoreN X58.here hx rfl (hb hby d5_44) rfl (l' := #[.val (.ref a1), .val (.int pt), .val (.long (held &&& (held - (1 : Int64)))), .second]) rfl kq_) ?_
      refine hG _ T58 _ (mkF m 18 #[.val (.ref a1), .val (.int pt), .val (.long (held &&& (held - (1 : Int64)))), .second] []) (fun t kq_ => XS.goto X58.here hx rfl (pc0 := 45) (pc' := 18) rfl (hb hby d5_45) (by decide) (by decide) kq_) ?_
      have F_w'61 : Fld Z h58 a1 "com/example/polite_edges/politeedges/layered/SparseBitSet" "words" "[J" (.ref wa) := (F_w.other W58 (Or.inl nw))
      have F_s'62 : Fld Z h58 a1 "com/example/polite_edges/politeedges/layered/SparseBitSet" "summary" "[J" (.ref sa) := (F_s.other W58 (Or.inl nw))
      have V_s'63 : Av Z h58 sa .long ns (Wd u) := (V_s.other W58 (Ne.symm nws))
      exact ih _ (by rw [← hB]; exact clr_lt hnz) _ (upd w (64 * q + k) 0) _ _ _ rfl X58 e58 Zs59 N58 F_w'61 F_s'62 V58' V_s'63 (ic_step hI hk) (fun T' h' locs' w' q1 q2 q3 q4 q5 q6 q7 q8 => kont T' h' locs' w' q1 q2 q3 q4 (KK60.trans q5 (fun x hx => Or.inl hx)) q6 q7 q8)
set_option maxRecDepth 65536 in
set_option maxHeartbeats 40000000 in
theorem cl2 {p : Program} {l : Launch} {e : Env} {s : State} {m : MethodId} {args : Array Value} {below : List Frame} {meth : Method} {c : Code} {Z : State} {a0 : Array Value} {n0 : Nat} {hS0 : Heap} (a1 wa sa : Addr) (n ns : Nat) (hx : p.tables.exec = Jvm.exec) (hZ : Z.Warmed39 s.vm) (hw : ∀ d ∈ tables_1, d.before a0 Z = true) (hby : c.code = prog_72_method_5_code) (hml : c.maxLocals = 4) (hown : s.vm.findClass "com/example/polite_edges/politeedges/layered/SparseBitSet" = some m.cls) (hlk : meth.locks = false) (hrt : meth.sig.returnType = none) (gw : n0 ≤ wa) (gs : n0 ≤ sa) (nw : a1 ≠ wa) (n_s : a1 ≠ sa) (nws : wa ≠ sa) (h256 : n ≤ 256) (h4 : ns ≤ 4) (hns : n ≤ 64 * ns) (j : Nat) :
    ∀ (q : Nat) (pt : Int32) (s2 s3 : Slot) (w u : Nat → Int64) (T0 : State) (h0 : Heap) (locs : List Loc), q + j = ns → Stand p l e ({ frames := 2, cells := 0, slots := 0, locals := 30 } : Room) s m args below meth c T0 locs 0 0 → T0.heap = h0 → n0 ≤ h0.size → Fr n0 locs → pt.toInt = (q : Int) → (∀ (b : Int32) (x : Int64), storeLocals #[.val (.ref a1), .val (.int b), s2, s3] 2 (.long x) = some #[.val (.ref a1), .val (.int b), .val (.long x), .second]) → Keep hS0 h0 [wa, sa] → Fld Z h0 a1 "com/example/polite_edges/politeedges/layered/SparseBitSet" "words" "[J" (.ref wa) → Fld Z h0 a1 "com/example/polite_edges/politeedges/layered/SparseBitSet" "summary" "[J" (.ref sa) → Av Z h0 wa .long n (Wd w) → Av Z h0 sa .long ns (Wd u) → Oc n ns q w u → Goes p e below s (fun (v : Option Value) (h : Heap) (L : List Loc) => v = none ∧ Fr n0 L ∧ Keep hS0 h [wa, sa] ∧ ∃ w' u' : Nat → Int64, Av Z h wa .long n (Wd w') ∧ Av Z h sa .long ns (Wd u') ∧ Sx n ns w' u' ∧ ∀ x, ¬ mem n w' x) 0 0 T0 (mkF m 2 #[.val (.ref a1), .val (.int pt), s2, s3] []) := by
  have hG := Goes.bk p e below s (fun (v : Option Value) (h : Heap) (L : List Loc) => v = none ∧ Fr n0 L ∧ Keep hS0 h [wa, sa] ∧ ∃ w' u' : Nat → Int64, Av Z h wa .long n (Wd w') ∧ Av Z h sa .long ns (Wd u') ∧ Sx n ns w' u' ∧ ∀ x, ¬ mem n w' x) 0 0
  induction j with
  | zero =>
    intro q pt s2 s3 w u T0 h0 locs hk X0 e0 Z0 N0 hpt hsl KS F_w F_s V_w V_s hO
    obtain rfl : q = ns := hk
    refine hG _ T0 _ (mkF m 3 #[.val (.ref a1), .val (.int pt), s2, s3] [(.int pt)]) (fun t kq_ => XS.iloadN X0.here hx rfl (hb hby d5_2) rfl kq_) ?_
    refine hG _ T0 _ (mkF m 4 #[.val (.ref a1), .val (.int pt), s2, s3] [(.ref a1), (.int pt)]) (fun t kq_ => XS.aloadN X0.here hx rfl (hb hby d5_3) rfl rfl kq_) ?_
    obtain ⟨T64, X64, e64, st64⟩ := getF X0 hx hZ hown (host := "") (Or.inl (tw14 hw)) Via.refl e0 F_s (g := (mkF m 4 #[.val (.ref a1), .val (.int pt), s2, s3] [(.ref a1), (.int pt)])) rfl rfl (hb hby d5_4)
    refine hG _ T64 _ (mkF m 7 #[.val (.ref a1), .val (.int pt), s2, s3] [(.ref sa), (.int pt)]) st64 ?_
    refine hG _ T64 _ (mkF m 8 #[.val (.ref a1), .val (.int pt), s2, s3] [(.int (Nat.toInt32 q)), (.int pt)]) (Av.len X64 hx hZ e64 V_s (g := (mkF m 7 #[.val (.ref a1), .val (.int pt), s2, s3] [(.ref sa), (.int pt)])) rfl rfl (hb hby d5_7)) ?_
    refine hG _ T64 _ (mkF m 61 #[.val (.ref a1), .val (.int pt), s2, s3] []) (fun t kq_ => XS.icmpYes X64.here hx rfl (pc0 := 8) (pc' := 61) rfl (hb hby d5_8) rfl (flt (fun z => by have := (own_ltn hpt (by omega)).mp z; omega)).2.1 (by decide) (by decide) kq_) ?_
    exact Goes.retV X64 hx hlk hrt (hb hby d5_61) (by decide : 0 ≤ 0) (by decide : 0 ≤ 0) (by (try rw [e64]); exact ⟨rfl, N0, KS, _, _, V_w, V_s, oc_sx hns hO, oc_mem hns hO⟩)
  | succ j ih =>
    intro q pt s2 s3 w u T0 h0 locs hk X0 e0 Z0 N0 hpt hsl KS F_w F_s V_w V_s hO
    refine hG _ T0 _ (mkF m 3 #[.val (.ref a1), .val (.int pt), s2, s3] [(.int pt)]) (fun t kq_ => XS.iloadN X0.here hx rfl (hb hby d5_2) rfl kq_) ?_
    refine hG _ T0 _ (mkF m 4 #[.val (.ref a1), .val (.int pt), s2, s3] [(.ref a1), (.int pt)]) (fun t kq_ => XS.aloadN X0.here hx rfl (hb hby d5_3) rfl rfl kq_) ?_
    obtain ⟨T65, X65, e65, st65⟩ := getF X0 hx hZ hown (host := "") (Or.inl (tw14 hw)) Via.refl e0 F_s (g := (mkF m 4 #[.val (.ref a1), .val (.int pt), s2, s3] [(.ref a1), (.int pt)])) rfl rfl (hb hby d5_4)
    refine hG _ T65 _ (mkF m 7 #[.val (.ref a1), .val (.int pt), s2, s3] [(.ref sa), (.int pt)]) st65 ?_
    refine hG _ T65 _ (mkF m 8 #[.val (.ref a1), .val (.int pt), s2, s3] [(.int (Nat.toInt32 ns)), (.int pt)]) (Av.len X65 hx hZ e65 V_s (g := (mkF m 7 #[.val (.ref a1), .val (.int pt), s2, s3] [(.ref sa), (.int pt)])) rfl rfl (hb hby d5_7)) ?_
    refine hG _ T65 _ (mkF m 11 #[.val (.ref a1), .val (.int pt), s2, s3] []) (fun t kq_ => XS.icmpNo X65.here hx rfl (hb hby d5_8) rfl (tlt ((own_ltn hpt (by omega)).mpr (by omega))).2.1 kq_) ?_
    refine hG _ T65 _ (mkF m 12 #[.val (.ref a1), .val (.int pt), s2, s3] [(.ref a1)]) (fun t kq_ => XS.aloadN X65.here hx rfl (hb hby d5_11) rfl rfl kq_) ?_
    obtain ⟨T66, X66, e66, st66⟩ := getF X65 hx hZ hown (host := "") (Or.inl (tw14 hw)) Via.refl e65 F_s (g := (mkF m 12 #[.val (.ref a1), .val (.int pt), s2, s3] [(.ref a1)])) rfl rfl (hb hby d5_12)
    refine hG _ T66 _ (mkF m 15 #[.val (.ref a1), .val (.int pt), s2, s3] [(.ref sa)]) st66 ?_
    refine hG _ T66 _ (mkF m 16 #[.val (.ref a1), .val (.int pt), s2, s3] [(.int pt), (.ref sa)]) (fun t kq_ => XS.iloadN X66.here hx rfl (hb hby d5_15) rfl kq_) ?_
    refine hG _ T66 _ (mkF m 17 #[.val (.ref a1), .val (.int pt), s2, s3] [(.long (u q))]) (Av.ldJ X66 hx hZ e66 V_s (j := pt) (i := q) hpt (by omega) (g := (mkF m 16 #[.val (.ref a1), .val (.int pt), s2, s3] [(.int pt), (.ref sa)])) rfl rfl (hb hby d5_16)) ?_
    refine hG _ T66 _ (mkF m 18 #[.val (.ref a1), .val (.int pt), .val (.long (u q)), .second] []) (fun t kq_ => XS.lstoreN X66.here hx rfl (hb hby d5_17) rfl (l' := #[.val (.ref a1), .val (.int pt), .val (.long (u q)), .second]) (hsl _ _) kq_) ?_
    refine cl18 a1 wa sa pt u n ns q hx hZ hw hby hml hown hG gw gs nw n_s nws h256 h4 hns (by omega) hpt _ _ w _ _ _ rfl X66 e66 Z0 N0 F_w F_s V_w V_s (ic_start hns hO (by omega)) ?_
    intro T' h' locs' w' X' e' Z' N' K' Vw' Vs' hI
    have KS' : Keep hS0 h' [wa, sa] := KS.trans K' (fun x hx => Or.inl hx)
    have F_w' := F_w.keep K' (ninS nw (ninS n_s nin0))
    have F_s' := F_s.keep K' (ninS nw (ninS n_s nin0))
    refine hG _ T' _ (mkF m 49 #[.val (.ref a1), .val (.int pt), .val (.long (0 : Int64)), .second] [(.ref a1)]) (fun t kq_ => XS.aloadN X'.here hx rfl (hb hby d5_48) rfl rfl kq_) ?_
    obtain ⟨T67, X67, e67, st67⟩ := getF X' hx hZ hown (host := "") (Or.inl (tw14 hw)) Via.refl e' F_s' (g := (mkF m 49 #[.val (.ref a1), .val (.int pt), .val (.long (0 : Int64)), .second] [(.ref a1)])) rfl rfl (hb hby d5_49)
    refine hG _ T67 _ (mkF m 52 #[.val (.ref a1), .val (.int pt), .val (.long (0 : Int64)), .second] [(.ref sa)]) st67 ?_
    refine hG _ T67 _ (mkF m 53 #[.val (.ref a1), .val (.int pt), .val (.long (0 : Int64)), .second] [(.int pt), (.ref sa)]) (fun t kq_ => XS.iloadN X67.here hx rfl (hb hby d5_52) rfl kq_) ?_
    refine hG _ T67 _ (mkF m 54 #[.val (.ref a1), .val (.int pt), .val (.long (0 : Int64)), .second] [(.long (0 : Int64)), (.int pt), (.ref sa)]) (fun t kq_ => XS.lconst X67.here hx rfl (hb hby d5_53) kq_) ?_
    obtain ⟨T68, h68, X68, e68, W68, V68, st68⟩ := Av.stJ X67 hx hZ e67 Vs' (j := pt) (i := q) hpt (by omega) (g := (mkF m 54 #[.val (.ref a1), .val (.int pt), .val (.long (0 : Int64)), .second] [(.long (0 : Int64)), (.int pt), (.ref sa)])) rfl rfl (hb hby d5_54)
    have V68' : Av Z h68 sa .long ns (Wd (upd u q 0)) := V68.cong (fun i _ => upd_wd _ _ _ i)
    have Zs69 : n0 ≤ h68.size := Nat.le_trans Z' (Keep.of_wr W68).1
    have N68 := Fr.snoc X68 N' gs
    refine hG _ T68 _ (mkF m 55 #[.val (.ref a1), .val (.int pt), .val (.long (0 : Int64)), .second] []) st68 ?_
    refine hG _ T68 _ (mkF m 58 #[.val (.ref a1), .val (.int (pt + (1 : Int32))), .val (.long (0 : Int64)), .second] []) (fun t kq_ => XS.iinc X68.here hx rfl (hb hby d5_55) rfl (l' := #[.val (.ref a1), .val (.int (pt + (1 : Int32))), .val (.long (0 : Int64)), .second]) rfl kq_) ?_
    refine hG _ T68 _ (mkF m 2 #[.val (.ref a1), .val (.int (pt + (1 : Int32))), .val (.long (0 : Int64)), .second] []) (fun t kq_ => XS.goto X68.here hx rfl (pc0 := 58) (pc' := 2) rfl (hb hby d5_58) (by decide) (by decide) kq_) ?_
    have F_w'70 : Fld Z h68 a1 "com/example/polite_edges/politeedges/layered/SparseBitSet" "words" "[J" (.ref wa) := (F_w'.other W68 (Or.inl n_s))
    have F_s'71 : Fld Z h68 a1 "com/example/polite_edges/politeedges/layered/SparseBitSet" "summary" "[J" (.ref sa) := (F_s'.other W68 (Or.inl n_s))
    have Vw'72 : Av Z h68 wa .long n (Wd w') := (Vw'.other W68 nws)
    exact ih (q + 1) _ _ _ w' (upd u q 0) _ _ _ (by omega) X68 e68 Zs69 N68 (own_plus hpt (by omega) (by decide) (d := 1) rfl) (fun _ _ => rfl) (KS'.wr W68 (Or.inl (List.mem_of_getElem? (i := 1) rfl))) F_w'70 F_s'71 Vw'72 V68' (ic_end hI)
theorem ef_rmC (m : MethodId) (x0 : Addr) : entryFrame m #[(.ref x0)] 4 = mkF m 0 #[.val (.ref x0), .unset, .unset, .unset] [] := by first | (simp [entryFrame, mkF, argsToLocals, Value.category]; done) | rfl
theorem pn_rmC : plainName "com/example/polite_edges/politeedges/layered/SparseBitSet" = true := by first | (simp [plainName, overriddenIn]; done) | decide +kernel
def Q_rmC (Z : State) (a1 : Addr) (wa sa : Addr) (w u : Nat → Int64) (n ns : Nat) (h0 : Heap) (n0 : Nat) (v : Option Value) (h : Heap) (L : List Loc) : Prop := v = none ∧ Fr n0 L ∧ Keep h0 h [wa, sa] ∧ ∃ w' u' : Nat → Int64, Av Z h wa .long n (Wd w') ∧ Av Z h sa .long ns (Wd u') ∧ Sx n ns w' u' ∧ ∀ x, ¬ mem n w' x
set_option maxRecDepth 65536 in
set_option maxHeartbeats 40000000 in
theorem rmC (l : Launch) (Z : State) (a0 : Array Value) (hw : ∀ d ∈ tables_1, d.before a0 Z = true) (ws : List Jvm.Cond) (a1 : Addr) (h0 : Heap) (n0 : Nat) (Z0 : n0 ≤ h0.size) (wa sa : Addr) (w u : Nat → Int64) (n ns : Nat) (F_w : Fld Z h0 a1 "com/example/polite_edges/politeedges/layered/SparseBitSet" "words" "[J" (.ref wa)) (F_s : Fld Z h0 a1 "com/example/polite_edges/politeedges/layered/SparseBitSet" "summary" "[J" (.ref sa)) (V_w : Av Z h0 wa .long n (Wd w)) (V_s : Av Z h0 sa .long ns (Wd u)) (hS : Sx n ns w u) (gw : n0 ≤ wa) (gs : n0 ≤ sa) (nw : a1 ≠ wa) (n_s : a1 ≠ sa) (nws : wa ≠ sa) (h256 : n ≤ 256) (h4 : ns ≤ 4) (hns : n ≤ 64 * ns) :
    MetFree l (⟨"com/example/polite_edges/politeedges/layered/SparseBitSet", "clear", "()V"⟩ : MethodName) (head1 (Jvm.Cond.code (⟨"com/example/polite_edges/politeedges/layered/SparseBitSet", "clear", "()V"⟩ : MethodName) prog_72_method_5_code 4 none :: ws) ({ frames := 2, cells := 0, slots := 0, locals := 30 } : Room)) (fun a U => a = #[(.ref a1)] ∧ Z.Warmed39 U.vm ∧ U.heap = h0) (fun _ _ _ _ _ => True) (fun _ U o U' => ∃ v L, o = .returned v ∧ Q_rmC Z a1 wa sa w u n ns h0 n0 v U'.heap L ∧ FrameEnd U o U' L ({ frames := 2, cells := 0, slots := 0, locals := 30 } : Room).cells ({ frames := 2, cells := 0, slots := 0, locals := 30 } : Room).slots) := by
  refine MetFree.of_bodySF (plainFor_of_name pn_rmC) hisR ?_
  intro p e s m args below meth c s₁ Bd hml0 hP hK
  obtain ⟨rfl, hZ, hh⟩ := hP
  have hx := Bd.exec
  have hby := Bd.bytes
  have hml : c.maxLocals = 4 := hml0
  have hown : s.vm.findClass "com/example/polite_edges/politeedges/layered/SparseBitSet" = some m.cls := findClass_of_methodNamed Bd.named
  have hnm := (name_of_methodNamed Bd.named Bd.method).1
  have X0 : Stand p l e ({ frames := 2, cells := 0, slots := 0, locals := 30 } : Room) s m #[(.ref a1)] below meth c s₁ [] 0 0 := Stand.of_body Bd
  have e0 : s₁.heap = h0 := by rw [← hh, Bd.state]; rfl
  have N0 := Fr.nil n0
  have hlk : meth.locks = false := BodyLoose.notSynchronized Bd
  have hrt := Bd.returns
  have hG := Goes.bk p e below s (fun (v : Option Value) (h : Heap) (L : List Loc) => v = none ∧ Fr n0 L ∧ Keep h0 h [wa, sa] ∧ ∃ w' u' : Nat → Int64, Av Z h wa .long n (Wd w') ∧ Av Z h sa .long ns (Wd u') ∧ Sx n ns w' u' ∧ ∀ x, ¬ mem n w' x) 0 0
  show Goes p e below s (fun (v : Option Value) (h : Heap) (L : List Loc) => v = none ∧ Fr n0 L ∧ Keep h0 h [wa, sa] ∧ ∃ w' u' : Nat → Int64, Av Z h wa .long n (Wd w') ∧ Av Z h sa .long ns (Wd u') ∧ Sx n ns w' u' ∧ ∀ x, ¬ mem n w' x) 0 0 s₁ (entryFrame m #[(.ref a1)] 4)
  rw [ef_rmC m a1]
  refine hG _ s₁ _ (mkF m 1 #[.val (.ref a1), .unset, .unset, .unset] [(.int (0 : Int32))]) (fun t kq_ => XS.iconst X0.here hx rfl (hb hby d5_0) kq_) ?_
  refine hG _ s₁ _ (mkF m 2 #[.val (.ref a1), .val (.int (0 : Int32)), .unset, .unset] []) (fun t kq_ => XS.istoreN X0.here hx rfl (hb hby d5_1) rfl (l' := #[.val (.ref a1), .val (.int (0 : Int32)), .unset, .unset]) rfl kq_) ?_
  exact cl2 a1 wa sa n ns hx hZ hw hby hml hown hlk hrt gw gs nw n_s nws h256 h4 hns ns 0 _ _ _ w u _ _ _ (by omega) X0 e0 Z0 N0 rfl (fun _ _ => rfl) (Keep.refl _ _) F_w F_s V_w V_s (oc_start hS)
theorem nx_none {n : Nat} {w : Nat → Int64} {f : Nat} {r : Int32} (h : Nx n w f r) (q : ∀ b, f ≤ b → ¬ mem n w b) : r = -1 := by
  rcases h with h | ⟨b, -, h1, h2, -⟩
  · exact h.1
  · exact absurd h2 (q b h1)
theorem nx_hit {n : Nat} {w : Nat → Int64} {f b : Nat} {r : Int32} (h : Nx n w f r) (hb : f ≤ b) (hm : mem n w b) (q : ∀ c, f ≤ c → c < b → ¬ mem n w c) : r = Nat.toInt32 b := by
  rcases h with h | ⟨b', h0, h1, h2, h3⟩
  · exact absurd hm (h.2 b hb)
  · have e : b' = b := by
      rcases Nat.lt_trichotomy b' b with z | z | z
      · exact absurd h2 (q b' h1 z)
      · exact z
      · exact absurd hm (h3 b hb z)
    rw [h0, e]
theorem own_rem {x y : Int32} {n : Nat} (hy : y.toInt = (n : Int)) (hn : 1 ≤ n) : ∃ k : Nat, ((x &&& (2147483647 : Int32)) % y).toInt = (k : Int) ∧ k < n := by
  have h1 := (c_and x 2147483647 (by decide)).1
  have h2 := (c_iremV (x &&& 2147483647) y).1 h1 (by omega)
  exact ⟨((x &&& (2147483647 : Int32)) % y).toInt.toNat, by omega, by omega⟩
theorem own_and (x : Int32) {m : Int32} {k : Nat} (hm : m.toInt = (k : Int)) : ∃ n : Nat, (x &&& m).toInt = (n : Int) ∧ n ≤ k := by
  have h1 := c_and x m (by omega)
  exact ⟨(x &&& m).toInt.toNat, by omega, by omega⟩
theorem own_nz {y : Int32} {n : Nat} (hy : y.toInt = (n : Int)) (hn : 1 ≤ n) : ¬ y = (0 : Int32) := fun q => by
  have e0 : (0 : Int32).toInt = 0 := rfl
  rw [q, e0] at hy; omega
set_option maxRecDepth 65536 in
set_option maxHeartbeats 40000000 in
theorem own_101 {p : Program} {l : Launch} {e : Env} {s : State} {m : MethodId} {args : Array Value} {below : List Frame} {meth : Method} {c : Code} {T0 : State} {locs : List Loc} {Z : State} {a0 : Array Value} {h0 : Heap} {n0 : Nat} (p1 p2 p3 p4 cap : Int32) (ob wa sa : Addr) (s7 : Slot) (w u : Nat → Int64) (cp : Nat)
    (X0 : Stand p l e room_1 s m args below meth c T0 locs 3 263) (hx : p.tables.exec = Jvm.exec) (hZ : Z.Warmed39 s.vm) (hw : ∀ d ∈ tables_1, d.before a0 Z = true) (hby : c.code = code) (hml : c.maxLocals = 8) (hown : s.vm.findClass "com/example/polite_edges/politeedges/layered/SparseBitSetSetAllPinLaw" = some m.cls) (e0 : T0.heap = h0) (Z0 : n0 ≤ h0.size) (N0 : Fr n0 locs) (hlk : meth.locks = false) (hrt : meth.sig.returnType = ret) (hc : cap.toInt = (cp : Int)) (hcb : cp ≤ 8191) (E1 : Exa Z h0 ob "com/example/polite_edges/politeedges/layered/SparseBitSet") (F_w : Fld Z h0 ob "com/example/polite_edges/politeedges/layered/SparseBitSet" "words" "[J" (.ref wa)) (F_s : Fld Z h0 ob "com/example/polite_edges/politeedges/layered/SparseBitSet" "summary" "[J" (.ref sa)) (V_w : Av Z h0 wa .long ((cp + 63) / 64) (Wd w)) (V_s : Av Z h0 sa .long (((cp + 63) / 64 + 63) / 64) (Wd u)) (hS : Sx ((cp + 63) / 64) (((cp + 63) / 64 + 63) / 64) w u) (hm : ∀ x, mem ((cp + 63) / 64) w x ↔ x < cp) (gw : n0 ≤ wa) (gs : n0 ≤ sa) (no_wa : ob ≠ wa) (no_sa : ob ≠ sa) (nws : wa ≠ sa) :
    Goes p e below s (fun (v : Option Value) (h : Heap) (L : List Loc) => v = some (.int 1) ∧ Fr n0 L) 16 384 T0 (mkF m 101 #[.val (.int p1), .val (.int p2), .val (.int p3), .val (.int p4), .val (.int cap), .val (.ref ob), .val (.int (1 : Int32)), s7] []) := by
  have hG := Goes.bk p e below s (fun (v : Option Value) (h : Heap) (L : List Loc) => v = some (.int 1) ∧ Fr n0 L) 16 384
  refine hG _ T0 _ (mkF m 103 #[.val (.int p1), .val (.int p2), .val (.int p3), .val (.int p4), .val (.int cap), .val (.ref ob), .val (.int (1 : Int32)), s7] [(.int (1 : Int32))]) (fun t kq_ => XS.iload X0.here hx rfl (hb hby at_101) rfl kq_) ?_
  refine hG _ T0 _ (mkF m 106 #[.val (.int p1), .val (.int p2), .val (.int p3), .val (.int p4), .val (.int cap), .val (.ref ob), .val (.int (1 : Int32)), s7] []) (fun t kq_ => XS.ifNo X0.here hx rfl (hb hby at_103) rfl ((if0 _ _).trans (feq (by decide)).1) kq_) ?_
  refine hG _ T0 _ (mkF m 108 #[.val (.int p1), .val (.int p2), .val (.int p3), .val (.int p4), .val (.int cap), .val (.ref ob), .val (.int (1 : Int32)), s7] [(.ref ob)]) (fun t kq_ => XS.aload X0.here hx rfl (hb hby at_106) rfl rfl kq_) ?_
  refine hG _ T0 _ (mkF m 110 #[.val (.int p1), .val (.int p2), .val (.int p3), .val (.int p4), .val (.int cap), .val (.ref ob), .val (.int (1 : Int32)), s7] [(.int cap), (.ref ob)]) (fun t kq_ => XS.iload X0.here hx rfl (hb hby at_108) rfl kq_) ?_
  refine hG _ T0 _ (mkF m 111 #[.val (.int p1), .val (.int p2), .val (.int p3), .val (.int p4), .val (.int cap), .val (.ref ob), .val (.int (1 : Int32)), s7] [(.int p3), (.int cap), (.ref ob)]) (fun t kq_ => XS.iloadN X0.here hx rfl (hb hby at_110) rfl kq_) ?_
  refine hG _ T0 _ (mkF m 113 #[.val (.int p1), .val (.int p2), .val (.int p3), .val (.int p4), .val (.int cap), .val (.ref ob), .val (.int (1 : Int32)), s7] [(.int (65535 : Int32)), (.int p3), (.int cap), (.ref ob)]) (X0.ldcInt hx hown (mvT hZ (tw26 hw)) (g := (mkF m 111 #[.val (.int p1), .val (.int p2), .val (.int p3), .val (.int p4), .val (.int cap), .val (.ref ob), .val (.int (1 : Int32)), s7] [(.int p3), (.int cap), (.ref ob)])) rfl (hb hby at_111)) ?_
  refine hG _ T0 _ (mkF m 114 #[.val (.int p1), .val (.int p2), .val (.int p3), .val (.int p4), .val (.int cap), .val (.ref ob), .val (.int (1 : Int32)), s7] [(.int (p3 &&& (65535 : Int32))), (.int cap), (.ref ob)]) (fun t kq_ => XS.iand X0.here hx rfl (hb hby at_113) rfl kq_) ?_
  refine hG _ T0 _ (mkF m 115 #[.val (.int p1), .val (.int p2), .val (.int p3), .val (.int p4), .val (.int cap), .val (.ref ob), .val (.int (1 : Int32)), s7] [(.int (cap + (p3 &&& (65535 : Int32)))), (.ref ob)]) (fun t kq_ => XS.iadd X0.here hx rfl (hb hby at_114) rfl kq_) ?_
  obtain ⟨g, hg, hgb⟩ := own_and p3 (m := 65535) (k := 65535) rfl
  have hcg : (cap + (p3 &&& (65535 : Int32))).toInt = ((cp + g : Nat) : Int) := by have := c_iadd cap (p3 &&& 65535); have := rng32 (cap + (p3 &&& 65535)); omega
  obtain ⟨cq74, kq74, q74a, q74b, q74c⟩ := isOf hZ e0 E1
  obtain ⟨_, _, ⟨T74, L74, k74, n74⟩, -, X74, ⟨Lc74, hQ74, l74, y74, z74⟩, st74⟩ := X0.virtualBack hx (y := (⟨"com/example/polite_edges/politeedges/layered/SparseBitSet", "nextSetBit", "(I)I"⟩ : MethodName)) (z := (⟨"com/example/polite_edges/politeedges/layered/SparseBitSet", "nextSetBit", "(I)I"⟩ : MethodName)) hown (mvT hZ (tw21 hw)) (mvT hZ (tw22 hw)) (notFace_of_selects (args := #[]) (mvT hZ (tw24 hw))) (mvT hZ (tw24 hw)) (mvT hZ (tw23 hw)) (by decide) (backOf (W := 0) (rmN l Z a0 hw [] ob (cap + (p3 &&& (65535 : Int32))) h0 n0 Z0 wa sa w u ((cp + 63) / 64) (((cp + 63) / 64 + 63) / 64) (cp + g) F_w F_s V_w V_s hS (by omega) (by omega) hcg (by omega)) hZ (tw25 hw) (tw2 hw) (by decide) (by decide)) q74a q74c (g := (mkF m 115 #[.val (.int p1), .val (.int p2), .val (.int p3), .val (.int p4), .val (.int cap), .val (.ref ob), .val (.int (1 : Int32)), s7] [(.int (cap + (p3 &&& (65535 : Int32)))), (.ref ob)])) rfl (by rw [hml]; rfl) (Steps.refl _) (argsL := [(.int (cap + (p3 &&& (65535 : Int32))))]) (rest := []) (lenOf pd_0 rfl) rfl (by show 2 * 0 + _ ≤ _; exact Nat.le_of_eq rfl) (hb hby at_115) (fun _ _ => ⟨rfl, e0, (by decide : 3 + 0 ≤ _), (by decide : 263 + 0 ≤ _)⟩)
  dsimp only [Pt.U, Pt.locs, Pt.cells, Pt.slots] at X74 l74 y74 z74 st74 hQ74
  subst l74 y74 z74
  obtain ⟨r4, rfl, N74q, hh73, hN_r4⟩ := hQ74
  have N74 := Fr.app N0 N74q
  have e74 : T74.heap = h0 := hh73
  refine hG _ T74 _ (mkF m 118 #[.val (.int p1), .val (.int p2), .val (.int p3), .val (.int p4), .val (.int cap), .val (.ref ob), .val (.int (1 : Int32)), s7] [(.int r4)]) (fun t kq_ => st74.trans kq_) ?_
  refine hG _ T74 _ (mkF m 119 #[.val (.int p1), .val (.int p2), .val (.int p3), .val (.int p4), .val (.int cap), .val (.ref ob), .val (.int (1 : Int32)), s7] [(.int (-1 : Int32)), (.int r4)]) (fun t kq_ => XS.iconst X74.here hx rfl (hb hby at_118) kq_) ?_
  refine hG _ T74 _ (mkF m 122 #[.val (.int p1), .val (.int p2), .val (.int p3), .val (.int p4), .val (.int cap), .val (.ref ob), .val (.int (1 : Int32)), s7] []) (fun t kq_ => XS.icmpNo X74.here hx rfl (hb hby at_119) rfl (teq (nx_none hN_r4 (fun b hb hq => by have := (hm b).mp hq; omega))).2 kq_) ?_
  refine hG _ T74 _ (mkF m 123 #[.val (.int p1), .val (.int p2), .val (.int p3), .val (.int p4), .val (.int cap), .val (.ref ob), .val (.int (1 : Int32)), s7] [(.int (1 : Int32))]) (fun t kq_ => XS.iconst X74.here hx rfl (hb hby at_122) kq_) ?_
  refine hG _ T74 _ (mkF m 127 #[.val (.int p1), .val (.int p2), .val (.int p3), .val (.int p4), .val (.int cap), .val (.ref ob), .val (.int (1 : Int32)), s7] [(.int (1 : Int32))]) (fun t kq_ => XS.goto X74.here hx rfl (pc0 := 123) (pc' := 127) rfl (hb hby at_123) (by decide) (by decide) kq_) ?_
  refine hG _ T74 _ (mkF m 129 #[.val (.int p1), .val (.int p2), .val (.int p3), .val (.int p4), .val (.int cap), .val (.ref ob), .val (.int (1 : Int32)), s7] []) (fun t kq_ => XS.istore X74.here hx rfl (hb hby at_127) rfl (l' := #[.val (.int p1), .val (.int p2), .val (.int p3), .val (.int p4), .val (.int cap), .val (.ref ob), .val (.int (1 : Int32)), s7]) rfl kq_) ?_
  refine hG _ T74 _ (mkF m 131 #[.val (.int p1), .val (.int p2), .val (.int p3), .val (.int p4), .val (.int cap), .val (.ref ob), .val (.int (1 : Int32)), s7] [(.ref ob)]) (fun t kq_ => XS.aload X74.here hx rfl (hb hby at_129) rfl rfl kq_) ?_
  obtain ⟨cq75, kq75, q75a, q75b, q75c⟩ := isOf hZ e74 E1
  obtain ⟨_, _, ⟨T75, L75, k75, n75⟩, -, X75, ⟨Lc75, hQ75, l75, y75, z75⟩, st75⟩ := X74.virtualBack hx (y := (⟨"com/example/polite_edges/politeedges/layered/SparseBitSet", "clear", "()V"⟩ : MethodName)) (z := (⟨"com/example/polite_edges/politeedges/layered/SparseBitSet", "clear", "()V"⟩ : MethodName)) hown (mvT hZ (tw27 hw)) (mvT hZ (tw28 hw)) (notFace_of_selects (args := #[]) (mvT hZ (tw30 hw))) (mvT hZ (tw30 hw)) (mvT hZ (tw29 hw)) (by decide) (backOf (W := 0) (rmC l Z a0 hw [] ob h0 n0 Z0 wa sa w u ((cp + 63) / 64) (((cp + 63) / 64 + 63) / 64) F_w F_s V_w V_s hS gw gs no_wa no_sa nws (by omega) (by omega) (by omega)) hZ (tw31 hw) (tw2 hw) (by decide) (by decide)) q75a q75c (g := (mkF m 131 #[.val (.int p1), .val (.int p2), .val (.int p3), .val (.int p4), .val (.int cap), .val (.ref ob), .val (.int (1 : Int32)), s7] [(.ref ob)])) rfl (by rw [hml]; rfl) (Steps.refl _) (argsL := []) (rest := []) (lenOf pd_2 rfl) rfl (by show 2 * 0 + _ ≤ _; exact Nat.le_of_eq rfl) (hb hby at_131) (fun _ _ => ⟨rfl, e74, (by decide : 3 + 0 ≤ _), (by decide : 263 + 0 ≤ _)⟩)
  dsimp only [Pt.U, Pt.locs, Pt.cells, Pt.slots] at X75 l75 y75 z75 st75 hQ75
  subst l75 y75 z75
  obtain ⟨rfl, N75q, K5, w5, u5, V5w, V5s, hS5, hm5⟩ := hQ75
  have N75 := Fr.app N74 N75q
  have Zs76 : n0 ≤ T75.heap.size := Nat.le_trans Z0 K5.1
  refine hG _ T75 _ (mkF m 134 #[.val (.int p1), .val (.int p2), .val (.int p3), .val (.int p4), .val (.int cap), .val (.ref ob), .val (.int (1 : Int32)), s7] []) (fun t kq_ => st75.trans kq_) ?_
  refine hG _ T75 _ (mkF m 136 #[.val (.int p1), .val (.int p2), .val (.int p3), .val (.int p4), .val (.int cap), .val (.ref ob), .val (.int (1 : Int32)), s7] [(.int (1 : Int32))]) (fun t kq_ => XS.iload X75.here hx rfl (hb hby at_134) rfl kq_) ?_
  refine hG _ T75 _ (mkF m 139 #[.val (.int p1), .val (.int p2), .val (.int p3), .val (.int p4), .val (.int cap), .val (.ref ob), .val (.int (1 : Int32)), s7] []) (fun t kq_ => XS.ifNo X75.here hx rfl (hb hby at_136) rfl ((if0 _ _).trans (feq (by decide)).1) kq_) ?_
  refine hG _ T75 _ (mkF m 141 #[.val (.int p1), .val (.int p2), .val (.int p3), .val (.int p4), .val (.int cap), .val (.ref ob), .val (.int (1 : Int32)), s7] [(.ref ob)]) (fun t kq_ => XS.aload X75.here hx rfl (hb hby at_139) rfl rfl kq_) ?_
  refine hG _ T75 _ (mkF m 142 #[.val (.int p1), .val (.int p2), .val (.int p3), .val (.int p4), .val (.int cap), .val (.ref ob), .val (.int (1 : Int32)), s7] [(.int p4), (.ref ob)]) (fun t kq_ => XS.iloadN X75.here hx rfl (hb hby at_141) rfl kq_) ?_
  refine hG _ T75 _ (mkF m 145 #[.val (.int p1), .val (.int p2), .val (.int p3), .val (.int p4), .val (.int cap), .val (.ref ob), .val (.int (1 : Int32)), s7] [(.int (8191 : Int32)), (.int p4), (.ref ob)]) (fun t kq_ => XS.sipush X75.here hx rfl (hb hby at_142) kq_) ?_
  refine hG _ T75 _ (mkF m 146 #[.val (.int p1), .val (.int p2), .val (.int p3), .val (.int p4), .val (.int cap), .val (.ref ob), .val (.int (1 : Int32)), s7] [(.int (p4 &&& (8191 : Int32))), (.ref ob)]) (fun t kq_ => XS.iand X75.here hx rfl (hb hby at_145) rfl kq_) ?_
  obtain ⟨g', hg', hgb'⟩ := own_and p4 (m := 8191) (k := 8191) rfl
  have F_w'78 : Fld Z T75.heap ob "com/example/polite_edges/politeedges/layered/SparseBitSet" "words" "[J" (.ref wa) := (F_w.keep K5 (ninS no_wa (ninS no_sa nin0)))
  have F_s'79 : Fld Z T75.heap ob "com/example/polite_edges/politeedges/layered/SparseBitSet" "summary" "[J" (.ref sa) := (F_s.keep K5 (ninS no_wa (ninS no_sa nin0)))
  have E1'81 : Exa Z T75.heap ob "com/example/polite_edges/politeedges/layered/SparseBitSet" := (E1.keep K5)
  obtain ⟨cq80, kq80, q80a, q80b, q80c⟩ := isOf hZ rfl E1'81
  obtain ⟨_, _, ⟨T80, L80, k80, n80⟩, -, X80, ⟨Lc80, hQ80, l80, y80, z80⟩, st80⟩ := X75.virtualBack hx (y := (⟨"com/example/polite_edges/politeedges/layered/SparseBitSet", "nextSetBit", "(I)I"⟩ : MethodName)) (z := (⟨"com/example/polite_edges/politeedges/layered/SparseBitSet", "nextSetBit", "(I)I"⟩ : MethodName)) hown (mvT hZ (tw21 hw)) (mvT hZ (tw22 hw)) (notFace_of_selects (args := #[]) (mvT hZ (tw24 hw))) (mvT hZ (tw24 hw)) (mvT hZ (tw23 hw)) (by decide) (backOf (W := 0) (rmN l Z a0 hw [] ob (p4 &&& (8191 : Int32)) T75.heap n0 Zs76 wa sa w5 u5 ((cp + 63) / 64) (((cp + 63) / 64 + 63) / 64) g' F_w'78 F_s'79 V5w V5s hS5 (by omega) (by omega) hg' (by omega)) hZ (tw25 hw) (tw2 hw) (by decide) (by decide)) q80a q80c (g := (mkF m 146 #[.val (.int p1), .val (.int p2), .val (.int p3), .val (.int p4), .val (.int cap), .val (.ref ob), .val (.int (1 : Int32)), s7] [(.int (p4 &&& (8191 : Int32))), (.ref ob)])) rfl (by rw [hml]; rfl) (Steps.refl _) (argsL := [(.int (p4 &&& (8191 : Int32)))]) (rest := []) (lenOf pd_0 rfl) rfl (by show 2 * 0 + _ ≤ _; exact Nat.le_of_eq rfl) (hb hby at_146) (fun _ _ => ⟨rfl, rfl, (by decide : 3 + 0 ≤ _), (by decide : 263 + 0 ≤ _)⟩)
  dsimp only [Pt.U, Pt.locs, Pt.cells, Pt.slots] at X80 l80 y80 z80 st80 hQ80
  subst l80 y80 z80
  obtain ⟨r5, rfl, N80q, hh77, hN_r5⟩ := hQ80
  have N80 := Fr.app N75 N80q
  have e80 : T80.heap = T75.heap := hh77
  refine hG _ T80 _ (mkF m 149 #[.val (.int p1), .val (.int p2), .val (.int p3), .val (.int p4), .val (.int cap), .val (.ref ob), .val (.int (1 : Int32)), s7] [(.int r5)]) (fun t kq_ => st80.trans kq_) ?_
  refine hG _ T80 _ (mkF m 150 #[.val (.int p1), .val (.int p2), .val (.int p3), .val (.int p4), .val (.int cap), .val (.ref ob), .val (.int (1 : Int32)), s7] [(.int (-1 : Int32)), (.int r5)]) (fun t kq_ => XS.iconst X80.here hx rfl (hb hby at_149) kq_) ?_
  refine hG _ T80 _ (mkF m 153 #[.val (.int p1), .val (.int p2), .val (.int p3), .val (.int p4), .val (.int cap), .val (.ref ob), .val (.int (1 : Int32)), s7] []) (fun t kq_ => XS.icmpNo X80.here hx rfl (hb hby at_150) rfl (teq (nx_none hN_r5 (fun b _ => hm5 b))).2 kq_) ?_
  refine hG _ T80 _ (mkF m 154 #[.val (.int p1), .val (.int p2), .val (.int p3), .val (.int p4), .val (.int cap), .val (.ref ob), .val (.int (1 : Int32)), s7] [(.int (1 : Int32))]) (fun t kq_ => XS.iconst X80.here hx rfl (hb hby at_153) kq_) ?_
  refine hG _ T80 _ (mkF m 158 #[.val (.int p1), .val (.int p2), .val (.int p3), .val (.int p4), .val (.int cap), .val (.ref ob), .val (.int (1 : Int32)), s7] [(.int (1 : Int32))]) (fun t kq_ => XS.goto X80.here hx rfl (pc0 := 154) (pc' := 158) rfl (hb hby at_154) (by decide) (by decide) kq_) ?_
  refine hG _ T80 _ (mkF m 160 #[.val (.int p1), .val (.int p2), .val (.int p3), .val (.int p4), .val (.int cap), .val (.ref ob), .val (.int (1 : Int32)), s7] []) (fun t kq_ => XS.istore X80.here hx rfl (hb hby at_158) rfl (l' := #[.val (.int p1), .val (.int p2), .val (.int p3), .val (.int p4), .val (.int cap), .val (.ref ob), .val (.int (1 : Int32)), s7]) rfl kq_) ?_
  refine hG _ T80 _ (mkF m 162 #[.val (.int p1), .val (.int p2), .val (.int p3), .val (.int p4), .val (.int cap), .val (.ref ob), .val (.int (1 : Int32)), s7] [(.int (1 : Int32))]) (fun t kq_ => XS.iload X80.here hx rfl (hb hby at_160) rfl kq_) ?_
  exact Goes.retN X80 hx hlk (t := .boolean) hrt (by simp) (hb hby at_162) (by decide : 3 ≤ 16) (by decide : 263 ≤ 384) (by (try rw [e80]); exact ⟨rfl, N80⟩)
set_option maxRecDepth 65536 in
set_option maxHeartbeats 40000000 in
theorem own_7 {p : Program} {l : Launch} {e : Env} {s : State} {m : MethodId} {args : Array Value} {below : List Frame} {meth : Method} {c : Code} {T0 : State} {locs : List Loc} {Z : State} {a0 : Array Value} {h0 : Heap} {n0 : Nat} (p1 p2 p3 p4 cap : Int32) (cp : Nat)
    (X0 : Stand p l e room_1 s m args below meth c T0 locs 0 0) (hx : p.tables.exec = Jvm.exec) (hZ : Z.Warmed39 s.vm) (hw : ∀ d ∈ tables_1, d.before a0 Z = true) (hby : c.code = code) (hml : c.maxLocals = 8) (hown : s.vm.findClass "com/example/polite_edges/politeedges/layered/SparseBitSetSetAllPinLaw" = some m.cls) (e0 : T0.heap = h0) (Z0 : n0 ≤ h0.size) (N0 : Fr n0 locs) (hlk : meth.locks = false) (hrt : meth.sig.returnType = ret) (hc : cap.toInt = (cp : Int)) (hcb : cp ≤ 8191) :
    Goes p e below s (fun (v : Option Value) (h : Heap) (L : List Loc) => v = some (.int 1) ∧ Fr n0 L) 16 384 T0 (mkF m 7 #[.val (.int p1), .val (.int p2), .val (.int p3), .val (.int p4), .val (.int cap), .unset, .unset, .unset] []) := by
  have hG := Goes.bk p e below s (fun (v : Option Value) (h : Heap) (L : List Loc) => v = some (.int 1) ∧ Fr n0 L) 16 384
  obtain ⟨T82, h82, X82, e82, E82, A82, D82, -, st82⟩ := newO X0 hx hZ hown (tw0 hw) (tw1 hw) (tw2 hw) e0 (g := (mkF m 7 #[.val (.int p1), .val (.int p2), .val (.int p3), .val (.int p4), .val (.int cap), .unset, .unset, .unset] [])) rfl (hb hby at_7) (by decide) (by decide)
  obtain ⟨b82, g82⟩ : ∃ z, z = h0.size := ⟨_, rfl⟩
  rw [← g82] at A82 D82 st82
  have g_b82 : n0 ≤ b82 := Nat.le_trans Z0 (Nat.le_of_eq g82.symm)
  have Zs83 : n0 ≤ h82.size := Nat.le_trans Z0 E82.1
  have F_capacity_b82 : Fld Z h82 b82 "com/example/polite_edges/politeedges/layered/SparseBitSet" "capacity" "I" (.int (0 : Int32)) := D82 (Or.inr (tw10 hw)) (ty := .int) (by decide)
  have F_words_b82 : Fld Z h82 b82 "com/example/polite_edges/politeedges/layered/SparseBitSet" "words" "[J" .null := D82 (Or.inr (tw13 hw)) (ty := (.array .long)) (by decide)
  have F_summary_b82 : Fld Z h82 b82 "com/example/polite_edges/politeedges/layered/SparseBitSet" "summary" "[J" .null := D82 (Or.inr (tw15 hw)) (ty := (.array .long)) (by decide)
  refine hG _ T82 _ (mkF m 10 #[.val (.int p1), .val (.int p2), .val (.int p3), .val (.int p4), .val (.int cap), .unset, .unset, .unset] [(.ref b82)]) st82 ?_
  refine hG _ T82 _ (mkF m 11 #[.val (.int p1), .val (.int p2), .val (.int p3), .val (.int p4), .val (.int cap), .unset, .unset, .unset] [(.ref b82), (.ref b82)]) (fun t kq_ => XS.dup X82.here hx rfl (hb hby at_10) rfl rfl kq_) ?_
  refine hG _ T82 _ (mkF m 13 #[.val (.int p1), .val (.int p2), .val (.int p3), .val (.int p4), .val (.int cap), .unset, .unset, .unset] [(.int cap), (.ref b82), (.ref b82)]) (fun t kq_ => XS.iload X82.here hx rfl (hb hby at_11) rfl kq_) ?_
  obtain ⟨_, _, ⟨T84, L84, k84, n84⟩, -, X84, ⟨Lc84, hQ84, l84, y84, z84⟩, st84⟩ := X82.specialBack hx (y := (⟨"com/example/polite_edges/politeedges/layered/SparseBitSet", "<init>", "(I)V"⟩ : MethodName)) rfl hown (mvT hZ (tw3 hw)) (mvT hZ (tw4 hw)) (mvT hZ (tw5 hw)) (by decide) (backOf (W := 1) (rm1 l Z a0 hw [] b82 cap h82 n0 Zs83 _ _ _ cp A82 g_b82 F_capacity_b82 F_words_b82 F_summary_b82 hc (by omega)) hZ (tw5 hw) (tw2 hw) (by decide) (by decide)) (g := (mkF m 13 #[.val (.int p1), .val (.int p2), .val (.int p3), .val (.int p4), .val (.int cap), .unset, .unset, .unset] [(.int cap), (.ref b82), (.ref b82)])) rfl (by rw [hml]; rfl) (Steps.refl _) (a := b82) (argsL := [(.int cap)]) (rest := [(.ref b82)]) (lenOf pd_3 rfl) rfl (by show 2 * 0 + _ ≤ _; exact Nat.le_of_eq rfl) (hb hby at_13) (fun _ _ => ⟨rfl, e82, (by decide : 1 + 2 ≤ _), (by decide : 3 + 260 ≤ _)⟩)
  dsimp only [Pt.U, Pt.locs, Pt.cells, Pt.slots] at X84 l84 y84 z84 st84 hQ84
  subst l84 y84 z84
  obtain ⟨rfl, N84q, K1, wa, sa, gw, gs, no_wa, no_sa, nws, F_c, F_w, F_s, V_w, V_s⟩ := hQ84
  have N84 := Fr.app N0 N84q
  have Zs85 : n0 ≤ T84.heap.size := Nat.le_trans Zs83 K1.1
  refine hG _ T84 _ (mkF m 16 #[.val (.int p1), .val (.int p2), .val (.int p3), .val (.int p4), .val (.int cap), .unset, .unset, .unset] [(.ref b82)]) (fun t kq_ => st84.trans kq_) ?_
  refine hG _ T84 _ (mkF m 18 #[.val (.int p1), .val (.int p2), .val (.int p3), .val (.int p4), .val (.int cap), .val (.ref b82), .unset, .unset] []) (fun t kq_ => XS.astore X84.here hx rfl (hb hby at_16) rfl rfl (l' := #[.val (.int p1), .val (.int p2), .val (.int p3), .val (.int p4), .val (.int cap), .val (.ref b82), .unset, .unset]) rfl kq_) ?_
  refine hG _ T84 _ (mkF m 20 #[.val (.int p1), .val (.int p2), .val (.int p3), .val (.int p4), .val (.int cap), .val (.ref b82), .unset, .unset] [(.ref b82)]) (fun t kq_ => XS.aload X84.here hx rfl (hb hby at_18) rfl rfl kq_) ?_
  have A82'87 : Exa Z T84.heap b82 "com/example/polite_edges/politeedges/layered/SparseBitSet" := (A82.keep K1)
  obtain ⟨cq86, kq86, q86a, q86b, q86c⟩ := isOf hZ rfl A82'87
  obtain ⟨_, _, ⟨T86, L86, k86, n86⟩, -, X86, ⟨Lc86, hQ86, l86, y86, z86⟩, st86⟩ := X84.virtualBack hx (y := (⟨"com/example/polite_edges/politeedges/layered/SparseBitSet", "setAll", "()V"⟩ : MethodName)) (z := (⟨"com/example/polite_edges/politeedges/layered/SparseBitSet", "setAll", "()V"⟩ : MethodName)) hown (mvT hZ (tw16 hw)) (mvT hZ (tw17 hw)) (notFace_of_selects (args := #[]) (mvT hZ (tw19 hw))) (mvT hZ (tw19 hw)) (mvT hZ (tw18 hw)) (by decide) (backOf (W := 0) (rmA l Z a0 hw [] b82 T84.heap n0 Zs85 wa sa cap ((cp + 63) / 64) (((cp + 63) / 64 + 63) / 64) cp F_c F_w F_s V_w V_s gw gs no_wa no_sa nws hc (by omega) rfl rfl) hZ (tw20 hw) (tw2 hw) (by decide) (by decide)) q86a q86c (g := (mkF m 20 #[.val (.int p1), .val (.int p2), .val (.int p3), .val (.int p4), .val (.int cap), .val (.ref b82), .unset, .unset] [(.ref b82)])) rfl (by rw [hml]; rfl) (Steps.refl _) (argsL := []) (rest := []) (lenOf pd_2 rfl) rfl (by show 2 * 0 + _ ≤ _; exact Nat.le_of_eq rfl) (hb hby at_20) (fun _ _ => ⟨rfl, rfl, (by decide : 3 + 0 ≤ _), (by decide : 263 + 0 ≤ _)⟩)
  dsimp only [Pt.U, Pt.locs, Pt.cells, Pt.slots] at X86 l86 y86 z86 st86 hQ86
  subst l86 y86 z86
  obtain ⟨rfl, N86q, K2, w2, u2, V2w, V2s, hS2, hm2⟩ := hQ86
  have N86 := Fr.app N84 N86q
  have Zs88 : n0 ≤ T86.heap.size := Nat.le_trans Zs85 K2.1
  refine hG _ T86 _ (mkF m 23 #[.val (.int p1), .val (.int p2), .val (.int p3), .val (.int p4), .val (.int cap), .val (.ref b82), .unset, .unset] []) (fun t kq_ => st86.trans kq_) ?_
  refine hG _ T86 _ (mkF m 25 #[.val (.int p1), .val (.int p2), .val (.int p3), .val (.int p4), .val (.int cap), .val (.ref b82), .unset, .unset] [(.int cap)]) (fun t kq_ => XS.iload X86.here hx rfl (hb hby at_23) rfl kq_) ?_
  by_cases hc25 : (0 : Int32) < cap
  · refine hG _ T86 _ (mkF m 28 #[.val (.int p1), .val (.int p2), .val (.int p3), .val (.int p4), .val (.int cap), .val (.ref b82), .unset, .unset] []) (fun t kq_ => XS.ifNo X86.here hx rfl (hb hby at_25) rfl ((if0 _ _).trans (tlt hc25).2.2.2) kq_) ?_
    have hcp : 1 ≤ cp := by rw [Int32.lt_iff_toInt_lt, hc] at hc25; have e0 : (0 : Int32).toInt = 0 := rfl; omega
    refine hG _ T86 _ (mkF m 29 #[.val (.int p1), .val (.int p2), .val (.int p3), .val (.int p4), .val (.int cap), .val (.ref b82), .unset, .unset] [(.int p2)]) (fun t kq_ => XS.iloadN X86.here hx rfl (hb hby at_28) rfl kq_) ?_
    refine hG _ T86 _ (mkF m 31 #[.val (.int p1), .val (.int p2), .val (.int p3), .val (.int p4), .val (.int cap), .val (.ref b82), .unset, .unset] [(.int (2147483647 : Int32)), (.int p2)]) (X86.ldcInt hx hown (mvT hZ (tw32 hw)) (g := (mkF m 29 #[.val (.int p1), .val (.int p2), .val (.int p3), .val (.int p4), .val (.int cap), .val (.ref b82), .unset, .unset] [(.int p2)])) rfl (hb hby at_29)) ?_
    refine hG _ T86 _ (mkF m 32 #[.val (.int p1), .val (.int p2), .val (.int p3), .val (.int p4), .val (.int cap), .val (.ref b82), .unset, .unset] [(.int (p2 &&& (2147483647 : Int32)))]) (fun t kq_ => XS.iand X86.here hx rfl (hb hby at_31) rfl kq_) ?_
    refine hG _ T86 _ (mkF m 34 #[.val (.int p1), .val (.int p2), .val (.int p3), .val (.int p4), .val (.int cap), .val (.ref b82), .unset, .unset] [(.int cap), (.int (p2 &&& (2147483647 : Int32)))]) (fun t kq_ => XS.iload X86.here hx rfl (hb hby at_32) rfl kq_) ?_
    refine hG _ T86 _ (mkF m 35 #[.val (.int p1), .val (.int p2), .val (.int p3), .val (.int p4), .val (.int cap), .val (.ref b82), .unset, .unset] [(.int ((p2 &&& (2147483647 : Int32)) % cap))]) (fun t kq_ => iremM X86 hx rfl (hb hby at_34) rfl (own_nz hc hcp) kq_) ?_
    obtain ⟨k, hk, hkc⟩ := own_rem (x := p2) hc hcp
    refine hG _ T86 _ (mkF m 37 #[.val (.int p1), .val (.int p2), .val (.int p3), .val (.int p4), .val (.int cap), .val (.ref b82), .unset, .val (.int ((p2 &&& (2147483647 : Int32)) % cap))] []) (fun t kq_ => XS.istore X86.here hx rfl (hb hby at_35) rfl (l' := #[.val (.int p1), .val (.int p2), .val (.int p3), .val (.int p4), .val (.int cap), .val (.ref b82), .unset, .val (.int ((p2 &&& (2147483647 : Int32)) % cap))]) rfl kq_) ?_
    refine hG _ T86 _ (mkF m 39 #[.val (.int p1), .val (.int p2), .val (.int p3), .val (.int p4), .val (.int cap), .val (.ref b82), .unset, .val (.int ((p2 &&& (2147483647 : Int32)) % cap))] [(.ref b82)]) (fun t kq_ => XS.aload X86.here hx rfl (hb hby at_37) rfl rfl kq_) ?_
    refine hG _ T86 _ (mkF m 41 #[.val (.int p1), .val (.int p2), .val (.int p3), .val (.int p4), .val (.int cap), .val (.ref b82), .unset, .val (.int ((p2 &&& (2147483647 : Int32)) % cap))] [(.int ((p2 &&& (2147483647 : Int32)) % cap)), (.ref b82)]) (fun t kq_ => XS.iload X86.here hx rfl (hb hby at_39) rfl kq_) ?_
    have F_w'90 : Fld Z T86.heap b82 "com/example/polite_edges/politeedges/layered/SparseBitSet" "words" "[J" (.ref wa) := (F_w.keep K2 (ninS no_wa (ninS no_sa nin0)))
    have F_s'91 : Fld Z T86.heap b82 "com/example/polite_edges/politeedges/layered/SparseBitSet" "summary" "[J" (.ref sa) := (F_s.keep K2 (ninS no_wa (ninS no_sa nin0)))
    have A82'93 : Exa Z T86.heap b82 "com/example/polite_edges/politeedges/layered/SparseBitSet" := (A82'87.keep K2)
    obtain ⟨cq92, kq92, q92a, q92b, q92c⟩ := isOf hZ rfl A82'93
    obtain ⟨_, _, ⟨T92, L92, k92, n92⟩, -, X92, ⟨Lc92, hQ92, l92, y92, z92⟩, st92⟩ := X86.virtualBack hx (y := (⟨"com/example/polite_edges/politeedges/layered/SparseBitSet", "nextSetBit", "(I)I"⟩ : MethodName)) (z := (⟨"com/example/polite_edges/politeedges/layered/SparseBitSet", "nextSetBit", "(I)I"⟩ : MethodName)) hown (mvT hZ (tw21 hw)) (mvT hZ (tw22 hw)) (notFace_of_selects (args := #[]) (mvT hZ (tw24 hw))) (mvT hZ (tw24 hw)) (mvT hZ (tw23 hw)) (by decide) (backOf (W := 0) (rmN l Z a0 hw [] b82 ((p2 &&& (2147483647 : Int32)) % cap) T86.heap n0 Zs88 wa sa w2 u2 ((cp + 63) / 64) (((cp + 63) / 64 + 63) / 64) k F_w'90 F_s'91 V2w V2s hS2 (by omega) (by omega) hk (by omega)) hZ (tw25 hw) (tw2 hw) (by decide) (by decide)) q92a q92c (g := (mkF m 41 #[.val (.int p1), .val (.int p2), .val (.int p3), .val (.int p4), .val (.int cap), .val (.ref b82), .unset, .val (.int ((p2 &&& (2147483647 : Int32)) % cap))] [(.int ((p2 &&& (2147483647 : Int32)) % cap)), (.ref b82)])) rfl (by rw [hml]; rfl) (Steps.refl _) (argsL := [(.int ((p2 &&& (2147483647 : Int32)) % cap))]) (rest := []) (lenOf pd_0 rfl) rfl (by show 2 * 0 + _ ≤ _; exact Nat.le_of_eq rfl) (hb hby at_41) (fun _ _ => ⟨rfl, rfl, (by decide : 3 + 0 ≤ _), (by decide : 263 + 0 ≤ _)⟩)
    dsimp only [Pt.U, Pt.locs, Pt.cells, Pt.slots] at X92 l92 y92 z92 st92 hQ92
    subst l92 y92 z92
    obtain ⟨r1, rfl, N92q, hh89, hN_r1⟩ := hQ92
    have N92 := Fr.app N86 N92q
    have e92 : T92.heap = T86.heap := hh89
    refine hG _ T92 _ (mkF m 44 #[.val (.int p1), .val (.int p2), .val (.int p3), .val (.int p4), .val (.int cap), .val (.ref b82), .unset, .val (.int ((p2 &&& (2147483647 : Int32)) % cap))] [(.int r1)]) (fun t kq_ => st92.trans kq_) ?_
    refine hG _ T92 _ (mkF m 46 #[.val (.int p1), .val (.int p2), .val (.int p3), .val (.int p4), .val (.int cap), .val (.ref b82), .unset, .val (.int ((p2 &&& (2147483647 : Int32)) % cap))] [(.int ((p2 &&& (2147483647 : Int32)) % cap)), (.int r1)]) (fun t kq_ => XS.iload X92.here hx rfl (hb hby at_44) rfl kq_) ?_
    refine hG _ T92 _ (mkF m 49 #[.val (.int p1), .val (.int p2), .val (.int p3), .val (.int p4), .val (.int cap), .val (.ref b82), .unset, .val (.int ((p2 &&& (2147483647 : Int32)) % cap))] []) (fun t kq_ => XS.icmpNo X92.here hx rfl (hb hby at_46) rfl (teq ((nx_hit hN_r1 (Nat.le_refl _) ((hm2 k).mpr hkc) (fun c h1 h2 => by omega)).trans (own_eqi hk).symm)).2 kq_) ?_
    refine hG _ T92 _ (mkF m 51 #[.val (.int p1), .val (.int p2), .val (.int p3), .val (.int p4), .val (.int cap), .val (.ref b82), .unset, .val (.int ((p2 &&& (2147483647 : Int32)) % cap))] [(.ref b82)]) (fun t kq_ => XS.aload X92.here hx rfl (hb hby at_49) rfl rfl kq_) ?_
    refine hG _ T92 _ (mkF m 53 #[.val (.int p1), .val (.int p2), .val (.int p3), .val (.int p4), .val (.int cap), .val (.ref b82), .unset, .val (.int ((p2 &&& (2147483647 : Int32)) % cap))] [(.int cap), (.ref b82)]) (fun t kq_ => XS.iload X92.here hx rfl (hb hby at_51) rfl kq_) ?_
    refine hG _ T92 _ (mkF m 54 #[.val (.int p1), .val (.int p2), .val (.int p3), .val (.int p4), .val (.int cap), .val (.ref b82), .unset, .val (.int ((p2 &&& (2147483647 : Int32)) % cap))] [(.int (1 : Int32)), (.int cap), (.ref b82)]) (fun t kq_ => XS.iconst X92.here hx rfl (hb hby at_53) kq_) ?_
    refine hG _ T92 _ (mkF m 55 #[.val (.int p1), .val (.int p2), .val (.int p3), .val (.int p4), .val (.int cap), .val (.ref b82), .unset, .val (.int ((p2 &&& (2147483647 : Int32)) % cap))] [(.int (cap - (1 : Int32))), (.ref b82)]) (fun t kq_ => XS.isub X92.here hx rfl (hb hby at_54) rfl kq_) ?_
    have hc1 : (cap - (1 : Int32)).toInt = ((cp - 1 : Nat) : Int) := by have := c_isub cap 1; have := rng32 (cap - 1); have e1 : (1 : Int32).toInt = 1 := rfl; omega
    obtain ⟨cq95, kq95, q95a, q95b, q95c⟩ := isOf hZ e92 A82'93
    obtain ⟨_, _, ⟨T95, L95, k95, n95⟩, -, X95, ⟨Lc95, hQ95, l95, y95, z95⟩, st95⟩ := X92.virtualBack hx (y := (⟨"com/example/polite_edges/politeedges/layered/SparseBitSet", "nextSetBit", "(I)I"⟩ : MethodName)) (z := (⟨"com/example/polite_edges/politeedges/layered/SparseBitSet", "nextSetBit", "(I)I"⟩ : MethodName)) hown (mvT hZ (tw21 hw)) (mvT hZ (tw22 hw)) (notFace_of_selects (args := #[]) (mvT hZ (tw24 hw))) (mvT hZ (tw24 hw)) (mvT hZ (tw23 hw)) (by decide) (backOf (W := 0) (rmN l Z a0 hw [] b82 (cap - (1 : Int32)) T86.heap n0 Zs88 wa sa w2 u2 ((cp + 63) / 64) (((cp + 63) / 64 + 63) / 64) (cp - 1) F_w'90 F_s'91 V2w V2s hS2 (by omega) (by omega) hc1 (by omega)) hZ (tw25 hw) (tw2 hw) (by decide) (by decide)) q95a q95c (g := (mkF m 55 #[.val (.int p1), .val (.int p2), .val (.int p3), .val (.int p4), .val (.int cap), .val (.ref b82), .unset, .val (.int ((p2 &&& (2147483647 : Int32)) % cap))] [(.int (cap - (1 : Int32))), (.ref b82)])) rfl (by rw [hml]; rfl) (Steps.refl _) (argsL := [(.int (cap - (1 : Int32)))]) (rest := []) (lenOf pd_0 rfl) rfl (by show 2 * 0 + _ ≤ _; exact Nat.le_of_eq rfl) (hb hby at_55) (fun _ _ => ⟨rfl, e92, (by decide : 3 + 0 ≤ _), (by decide : 263 + 0 ≤ _)⟩)
    dsimp only [Pt.U, Pt.locs, Pt.cells, Pt.slots] at X95 l95 y95 z95 st95 hQ95
    subst l95 y95 z95
    obtain ⟨r2, rfl, N95q, hh94, hN_r2⟩ := hQ95
    have N95 := Fr.app N92 N95q
    have e95 : T95.heap = T86.heap := hh94
    refine hG _ T95 _ (mkF m 58 #[.val (.int p1), .val (.int p2), .val (.int p3), .val (.int p4), .val (.int cap), .val (.ref b82), .unset, .val (.int ((p2 &&& (2147483647 : Int32)) % cap))] [(.int r2)]) (fun t kq_ => st95.trans kq_) ?_
    refine hG _ T95 _ (mkF m 60 #[.val (.int p1), .val (.int p2), .val (.int p3), .val (.int p4), .val (.int cap), .val (.ref b82), .unset, .val (.int ((p2 &&& (2147483647 : Int32)) % cap))] [(.int cap), (.int r2)]) (fun t kq_ => XS.iload X95.here hx rfl (hb hby at_58) rfl kq_) ?_
    refine hG _ T95 _ (mkF m 61 #[.val (.int p1), .val (.int p2), .val (.int p3), .val (.int p4), .val (.int cap), .val (.ref b82), .unset, .val (.int ((p2 &&& (2147483647 : Int32)) % cap))] [(.int (1 : Int32)), (.int cap), (.int r2)]) (fun t kq_ => XS.iconst X95.here hx rfl (hb hby at_60) kq_) ?_
    refine hG _ T95 _ (mkF m 62 #[.val (.int p1), .val (.int p2), .val (.int p3), .val (.int p4), .val (.int cap), .val (.ref b82), .unset, .val (.int ((p2 &&& (2147483647 : Int32)) % cap))] [(.int (cap - (1 : Int32))), (.int r2)]) (fun t kq_ => XS.isub X95.here hx rfl (hb hby at_61) rfl kq_) ?_
    refine hG _ T95 _ (mkF m 65 #[.val (.int p1), .val (.int p2), .val (.int p3), .val (.int p4), .val (.int cap), .val (.ref b82), .unset, .val (.int ((p2 &&& (2147483647 : Int32)) % cap))] []) (fun t kq_ => XS.icmpNo X95.here hx rfl (hb hby at_62) rfl (teq ((nx_hit hN_r2 (Nat.le_refl _) ((hm2 _).mpr (by omega)) (fun c h1 h2 => by omega)).trans (own_eqi hc1).symm)).2 kq_) ?_
    refine hG _ T95 _ (mkF m 67 #[.val (.int p1), .val (.int p2), .val (.int p3), .val (.int p4), .val (.int cap), .val (.ref b82), .unset, .val (.int ((p2 &&& (2147483647 : Int32)) % cap))] [(.ref b82)]) (fun t kq_ => XS.aload X95.here hx rfl (hb hby at_65) rfl rfl kq_) ?_
    refine hG _ T95 _ (mkF m 68 #[.val (.int p1), .val (.int p2), .val (.int p3), .val (.int p4), .val (.int cap), .val (.ref b82), .unset, .val (.int ((p2 &&& (2147483647 : Int32)) % cap))] [(.int (0 : Int32)), (.ref b82)]) (fun t kq_ => XS.iconst X95.here hx rfl (hb hby at_67) kq_) ?_
    obtain ⟨cq97, kq97, q97a, q97b, q97c⟩ := isOf hZ e95 A82'93
    obtain ⟨_, _, ⟨T97, L97, k97, n97⟩, -, X97, ⟨Lc97, hQ97, l97, y97, z97⟩, st97⟩ := X95.virtualBack hx (y := (⟨"com/example/polite_edges/politeedges/layered/SparseBitSet", "nextSetBit", "(I)I"⟩ : MethodName)) (z := (⟨"com/example/polite_edges/politeedges/layered/SparseBitSet", "nextSetBit", "(I)I"⟩ : MethodName)) hown (mvT hZ (tw21 hw)) (mvT hZ (tw22 hw)) (notFace_of_selects (args := #[]) (mvT hZ (tw24 hw))) (mvT hZ (tw24 hw)) (mvT hZ (tw23 hw)) (by decide) (backOf (W := 0) (rmN l Z a0 hw [] b82 (0 : Int32) T86.heap n0 Zs88 wa sa w2 u2 ((cp + 63) / 64) (((cp + 63) / 64 + 63) / 64) 0 F_w'90 F_s'91 V2w V2s hS2 (by omega) (by omega) rfl (by omega)) hZ (tw25 hw) (tw2 hw) (by decide) (by decide)) q97a q97c (g := (mkF m 68 #[.val (.int p1), .val (.int p2), .val (.int p3), .val (.int p4), .val (.int cap), .val (.ref b82), .unset, .val (.int ((p2 &&& (2147483647 : Int32)) % cap))] [(.int (0 : Int32)), (.ref b82)])) rfl (by rw [hml]; rfl) (Steps.refl _) (argsL := [(.int (0 : Int32))]) (rest := []) (lenOf pd_0 rfl) rfl (by show 2 * 0 + _ ≤ _; exact Nat.le_of_eq rfl) (hb hby at_68) (fun _ _ => ⟨rfl, e95, (by decide : 3 + 0 ≤ _), (by decide : 263 + 0 ≤ _)⟩)
    dsimp only [Pt.U, Pt.locs, Pt.cells, Pt.slots] at X97 l97 y97 z97 st97 hQ97
    subst l97 y97 z97
    obtain ⟨r3, rfl, N97q, hh96, hN_r3⟩ := hQ97
    have N97 := Fr.app N95 N97q
    have e97 : T97.heap = T86.heap := hh96
    refine hG _ T97 _ (mkF m 71 #[.val (.int p1), .val (.int p2), .val (.int p3), .val (.int p4), .val (.int cap), .val (.ref b82), .unset, .val (.int ((p2 &&& (2147483647 : Int32)) % cap))] [(.int r3)]) (fun t kq_ => st97.trans kq_) ?_
    refine hG _ T97 _ (mkF m 74 #[.val (.int p1), .val (.int p2), .val (.int p3), .val (.int p4), .val (.int cap), .val (.ref b82), .unset, .val (.int ((p2 &&& (2147483647 : Int32)) % cap))] []) (fun t kq_ => XS.ifNo X97.here hx rfl (hb hby at_71) rfl ((if0 _ _).trans (teq (nx_hit hN_r3 (Nat.le_refl _) ((hm2 _).mpr (by omega)) (fun c h1 h2 => by omega))).2) kq_) ?_
    refine hG _ T97 _ (mkF m 75 #[.val (.int p1), .val (.int p2), .val (.int p3), .val (.int p4), .val (.int cap), .val (.ref b82), .unset, .val (.int ((p2 &&& (2147483647 : Int32)) % cap))] [(.int (1 : Int32))]) (fun t kq_ => XS.iconst X97.here hx rfl (hb hby at_74) kq_) ?_
    refine hG _ T97 _ (mkF m 79 #[.val (.int p1), .val (.int p2), .val (.int p3), .val (.int p4), .val (.int cap), .val (.ref b82), .unset, .val (.int ((p2 &&& (2147483647 : Int32)) % cap))] [(.int (1 : Int32))]) (fun t kq_ => XS.goto X97.here hx rfl (pc0 := 75) (pc' := 79) rfl (hb hby at_75) (by decide) (by decide) kq_) ?_
    refine hG _ T97 _ (mkF m 81 #[.val (.int p1), .val (.int p2), .val (.int p3), .val (.int p4), .val (.int cap), .val (.ref b82), .val (.int (1 : Int32)), .val (.int ((p2 &&& (2147483647 : Int32)) % cap))] []) (fun t kq_ => XS.istore X97.here hx rfl (hb hby at_79) rfl (l' := #[.val (.int p1), .val (.int p2), .val (.int p3), .val (.int p4), .val (.int cap), .val (.ref b82), .val (.int (1 : Int32)), .val (.int ((p2 &&& (2147483647 : Int32)) % cap))]) rfl kq_) ?_
    refine hG _ T97 _ (mkF m 101 #[.val (.int p1), .val (.int p2), .val (.int p3), .val (.int p4), .val (.int cap), .val (.ref b82), .val (.int (1 : Int32)), .val (.int ((p2 &&& (2147483647 : Int32)) % cap))] []) (fun t kq_ => XS.goto X97.here hx rfl (pc0 := 81) (pc' := 101) rfl (hb hby at_81) (by decide) (by decide) kq_) ?_
    exact own_101 _ _ _ _ _ _ wa sa _ w2 u2 cp X97 hx hZ hw hby hml hown e97 Zs88 N97 hlk hrt hc hcb A82'93 F_w'90 F_s'91 V2w V2s hS2 hm2 gw gs no_wa no_sa nws
  · refine hG _ T86 _ (mkF m 84 #[.val (.int p1), .val (.int p2), .val (.int p3), .val (.int p4), .val (.int cap), .val (.ref b82), .unset, .unset] []) (fun t kq_ => XS.ifYes X86.here hx rfl (pc0 := 25) (pc' := 84) rfl (hb hby at_25) rfl ((if0 _ _).trans (flt hc25).2.2.2) (by decide) (by decide) kq_) ?_
    have hcp : cp = 0 := by rw [Int32.lt_iff_toInt_lt, hc] at hc25; have e0 : (0 : Int32).toInt = 0 := rfl; omega
    refine hG _ T86 _ (mkF m 86 #[.val (.int p1), .val (.int p2), .val (.int p3), .val (.int p4), .val (.int cap), .val (.ref b82), .unset, .unset] [(.ref b82)]) (fun t kq_ => XS.aload X86.here hx rfl (hb hby at_84) rfl rfl kq_) ?_
    refine hG _ T86 _ (mkF m 87 #[.val (.int p1), .val (.int p2), .val (.int p3), .val (.int p4), .val (.int cap), .val (.ref b82), .unset, .unset] [(.int (0 : Int32)), (.ref b82)]) (fun t kq_ => XS.iconst X86.here hx rfl (hb hby at_86) kq_) ?_
    have F_w'99 : Fld Z T86.heap b82 "com/example/polite_edges/politeedges/layered/SparseBitSet" "words" "[J" (.ref wa) := (F_w.keep K2 (ninS no_wa (ninS no_sa nin0)))
    have F_s'100 : Fld Z T86.heap b82 "com/example/polite_edges/politeedges/layered/SparseBitSet" "summary" "[J" (.ref sa) := (F_s.keep K2 (ninS no_wa (ninS no_sa nin0)))
    have A82'102 : Exa Z T86.heap b82 "com/example/polite_edges/politeedges/layered/SparseBitSet" := (A82'87.keep K2)
    obtain ⟨cq101, kq101, q101a, q101b, q101c⟩ := isOf hZ rfl A82'102
    obtain ⟨_, _, ⟨T101, L101, k101, n101⟩, -, X101, ⟨Lc101, hQ101, l101, y101, z101⟩, st101⟩ := X86.virtualBack hx (y := (⟨"com/example/polite_edges/politeedges/layered/SparseBitSet", "nextSetBit", "(I)I"⟩ : MethodName)) (z := (⟨"com/example/polite_edges/politeedges/layered/SparseBitSet", "nextSetBit", "(I)I"⟩ : MethodName)) hown (mvT hZ (tw21 hw)) (mvT hZ (tw22 hw)) (notFace_of_selects (args := #[]) (mvT hZ (tw24 hw))) (mvT hZ (tw24 hw)) (mvT hZ (tw23 hw)) (by decide) (backOf (W := 0) (rmN l Z a0 hw [] b82 (0 : Int32) T86.heap n0 Zs88 wa sa w2 u2 ((cp + 63) / 64) (((cp + 63) / 64 + 63) / 64) 0 F_w'99 F_s'100 V2w V2s hS2 (by omega) (by omega) rfl (by omega)) hZ (tw25 hw) (tw2 hw) (by decide) (by decide)) q101a q101c (g := (mkF m 87 #[.val (.int p1), .val (.int p2), .val (.int p3), .val (.int p4), .val (.int cap), .val (.ref b82), .unset, .unset] [(.int (0 : Int32)), (.ref b82)])) rfl (by rw [hml]; rfl) (Steps.refl _) (argsL := [(.int (0 : Int32))]) (rest := []) (lenOf pd_0 rfl) rfl (by show 2 * 0 + _ ≤ _; exact Nat.le_of_eq rfl) (hb hby at_87) (fun _ _ => ⟨rfl, rfl, (by decide : 3 + 0 ≤ _), (by decide : 263 + 0 ≤ _)⟩)
    dsimp only [Pt.U, Pt.locs, Pt.cells, Pt.slots] at X101 l101 y101 z101 st101 hQ101
    subst l101 y101 z101
    obtain ⟨r1, rfl, N101q, hh98, hN_r1⟩ := hQ101
    have N101 := Fr.app N86 N101q
    have e101 : T101.heap = T86.heap := hh98
    refine hG _ T101 _ (mkF m 90 #[.val (.int p1), .val (.int p2), .val (.int p3), .val (.int p4), .val (.int cap), .val (.ref b82), .unset, .unset] [(.int r1)]) (fun t kq_ => st101.trans kq_) ?_
    refine hG _ T101 _ (mkF m 91 #[.val (.int p1), .val (.int p2), .val (.int p3), .val (.int p4), .val (.int cap), .val (.ref b82), .unset, .unset] [(.int (-1 : Int32)), (.int r1)]) (fun t kq_ => XS.iconst X101.here hx rfl (hb hby at_90) kq_) ?_
    refine hG _ T101 _ (mkF m 94 #[.val (.int p1), .val (.int p2), .val (.int p3), .val (.int p4), .val (.int cap), .val (.ref b82), .unset, .unset] []) (fun t kq_ => XS.icmpNo X101.here hx rfl (hb hby at_91) rfl (teq (nx_none hN_r1 (fun b _ hq => by have := (hm2 b).mp hq; omega))).2 kq_) ?_
    refine hG _ T101 _ (mkF m 95 #[.val (.int p1), .val (.int p2), .val (.int p3), .val (.int p4), .val (.int cap), .val (.ref b82), .unset, .unset] [(.int (1 : Int32))]) (fun t kq_ => XS.iconst X101.here hx rfl (hb hby at_94) kq_) ?_
    refine hG _ T101 _ (mkF m 99 #[.val (.int p1), .val (.int p2), .val (.int p3), .val (.int p4), .val (.int cap), .val (.ref b82), .unset, .unset] [(.int (1 : Int32))]) (fun t kq_ => XS.goto X101.here hx rfl (pc0 := 95) (pc' := 99) rfl (hb hby at_95) (by decide) (by decide) kq_) ?_
    refine hG _ T101 _ (mkF m 101 #[.val (.int p1), .val (.int p2), .val (.int p3), .val (.int p4), .val (.int cap), .val (.ref b82), .val (.int (1 : Int32)), .unset] []) (fun t kq_ => XS.istore X101.here hx rfl (hb hby at_99) rfl (l' := #[.val (.int p1), .val (.int p2), .val (.int p3), .val (.int p4), .val (.int cap), .val (.ref b82), .val (.int (1 : Int32)), .unset]) rfl kq_) ?_
    exact own_101 _ _ _ _ _ _ wa sa _ w2 u2 cp X101 hx hZ hw hby hml hown e101 Zs88 N101 hlk hrt hc hcb A82'102 F_w'99 F_s'100 V2w V2s hS2 hm2 gw gs no_wa no_sa nws
theorem ef_rm0 (m : MethodId) (x0 : Int32) (x1 : Int32) (x2 : Int32) (x3 : Int32) : entryFrame m #[(.int x0), (.int x1), (.int x2), (.int x3)] maxLocals = mkF m 0 #[.val (.int x0), .val (.int x1), .val (.int x2), .val (.int x3), .unset, .unset, .unset, .unset] [] := by first | (simp [entryFrame, mkF, argsToLocals, Value.category, maxLocals]; done) | rfl
theorem pn_rm0 : plainName "com/example/polite_edges/politeedges/layered/SparseBitSetSetAllPinLaw" = true := by first | (simp [plainName, overriddenIn]; done) | decide +kernel
def Q_rm0 (Z : State) (p1 : Int32) (p2 : Int32) (p3 : Int32) (p4 : Int32)  (h0 : Heap) (n0 : Nat) (v : Option Value) (h : Heap) (L : List Loc) : Prop := v = some (.int 1) ∧ Fr n0 L
set_option maxRecDepth 65536 in
set_option maxHeartbeats 40000000 in
theorem rm0 (l : Launch) (Z : State) (a0 : Array Value) (hw : ∀ d ∈ tables_1, d.before a0 Z = true) (ws : List Jvm.Cond) (p1 : Int32) (p2 : Int32) (p3 : Int32) (p4 : Int32) (h0 : Heap) (n0 : Nat) (Z0 : n0 ≤ h0.size) :
    MetFree l x (head1 (Jvm.Cond.code x code maxLocals ret :: ws) room_1) (fun a U => a = #[(.int p1), (.int p2), (.int p3), (.int p4)] ∧ Z.Warmed39 U.vm ∧ U.heap = h0) (fun _ _ _ _ _ => True) (fun _ U o U' => ∃ v L, o = .returned v ∧ Q_rm0 Z p1 p2 p3 p4  h0 n0 v U'.heap L ∧ FrameEnd U o U' L 16 384) := by
  refine MetFree.of_bodySF (plainFor_of_name pn_rm0) hisR ?_
  intro p e s m args below meth c s₁ Bd hml0 hP hK
  obtain ⟨rfl, hZ, hh⟩ := hP
  have hx := Bd.exec
  have hby := Bd.bytes
  have hml : c.maxLocals = 8 := hml0
  have hown : s.vm.findClass "com/example/polite_edges/politeedges/layered/SparseBitSetSetAllPinLaw" = some m.cls := findClass_of_methodNamed Bd.named
  have hnm := (name_of_methodNamed Bd.named Bd.method).1
  have X0 : Stand p l e room_1 s m #[(.int p1), (.int p2), (.int p3), (.int p4)] below meth c s₁ [] 0 0 := Stand.of_body Bd
  have e0 : s₁.heap = h0 := by rw [← hh, Bd.state]; rfl
  have N0 := Fr.nil n0
  have hlk : meth.locks = false := BodyLoose.notSynchronized Bd
  have hrt := Bd.returns
  have hG := Goes.bk p e below s (fun (v : Option Value) (h : Heap) (L : List Loc) => v = some (.int 1) ∧ Fr n0 L) 16 384
  show Goes p e below s (fun (v : Option Value) (h : Heap) (L : List Loc) => v = some (.int 1) ∧ Fr n0 L) 16 384 s₁ (entryFrame m #[(.int p1), (.int p2), (.int p3), (.int p4)] maxLocals)
  rw [ef_rm0 m p1 p2 p3 p4]
  obtain ⟨cp, hc, hcb⟩ := own_and p1 (m := 8191) (k := 8191) rfl
  refine hG _ s₁ _ (mkF m 1 #[.val (.int p1), .val (.int p2), .val (.int p3), .val (.int p4), .unset, .unset, .unset, .unset] [(.int p1)]) (fun t kq_ => XS.iloadN X0.here hx rfl (hb hby at_0) rfl kq_) ?_
  refine hG _ s₁ _ (mkF m 4 #[.val (.int p1), .val (.int p2), .val (.int p3), .val (.int p4), .unset, .unset, .unset, .unset] [(.int (8191 : Int32)), (.int p1)]) (fun t kq_ => XS.sipush X0.here hx rfl (hb hby at_1) kq_) ?_
  refine hG _ s₁ _ (mkF m 5 #[.val (.int p1), .val (.int p2), .val (.int p3), .val (.int p4), .unset, .unset, .unset, .unset] [(.int (p1 &&& (8191 : Int32)))]) (fun t kq_ => XS.iand X0.here hx rfl (hb hby at_4) rfl kq_) ?_
  refine hG _ s₁ _ (mkF m 7 #[.val (.int p1), .val (.int p2), .val (.int p3), .val (.int p4), .val (.int (p1 &&& (8191 : Int32))), .unset, .unset, .unset] []) (fun t kq_ => XS.istore X0.here hx rfl (hb hby at_5) rfl (l' := #[.val (.int p1), .val (.int p2), .val (.int p3), .val (.int p4), .val (.int (p1 &&& (8191 : Int32))), .unset, .unset, .unset]) rfl kq_) ?_
  exact own_7 _ _ _ _ _ cp X0 hx hZ hw hby hml hown e0 Z0 N0 hlk hrt hc hcb
set_option maxRecDepth 65536 in
set_option maxHeartbeats 40000000 in
theorem comes_1 {Post : Tables → Env → Array Value → State → Outcome → State → Prop} (hpost : ∀ tb e args s v u, (limb_1_1.after args s (.returned v) u = true ∧ limb_1_2.after args s (.returned v) u = true ∧ True) → FrameEnd s (.returned v) u (Jvm.fieldLocs frame_1_writes args s ++ Jvm.arrayLocs frame_1_arrays args s ++ Jvm.staticLocs frame_1_statics s) 16 384 → Post tb e args s (.returned v) u) :
    ArmFor flags0 classFile x code maxLocals ret World_1 tables_1 room_1 Calls_1 rest_1 Pre_1 Post := by
  intro l hfl _ _ p e ha hc hk s m args below hf hA hF happ hP
  obtain ⟨hcalls, hrest, hpre⟩ := hP
  obtain ⟨-, -, -, hnamed, -, -, -, hat⟩ := (Spec.applies_iff hf).mp happ
  obtain ⟨hg, hn⟩ := and_e (Cond.before_iff.mp (show (Jvm.Cond.and given_1 narrow_1).before args s = true from hpre))
  obtain ⟨g0, r0⟩ := and_e hg
  obtain ⟨a0, r1⟩ := and_e r0
  obtain ⟨a1, r2⟩ := and_e r1
  obtain ⟨a2, r3⟩ := and_e r2
  obtain ⟨w0, w1, w2, w3, rfl⟩ : ∃ w0 w1 w2 w3 : Value, args = #[w0, w1, w2, w3] := by
    have hs : args.size = 4 := by simpa [Cond.value, given_1] using g0
    obtain ⟨L⟩ := args
    match L, hs with
    | [w0, w1, w2, w3], _ => exact ⟨w0, w1, w2, w3, rfl⟩
  have hw := fun d (hd : d ∈ tables_1) => atoms_spec (ws := Jvm.Cond.code x code maxLocals ret :: tables_1) hat d (List.mem_cons_of_mem _ hd)
  obtain ⟨i0, ei0⟩ := is_v a0
  obtain rfl : w0 = (.int i0) := Option.some.inj ei0
  obtain ⟨i1, ei1⟩ := is_v a1
  obtain rfl : w1 = (.int i1) := Option.some.inj ei1
  obtain ⟨i2, ei2⟩ := is_v a2
  obtain rfl : w2 = (.int i2) := Option.some.inj ei2
  obtain ⟨i3, ei3⟩ := is_v r3
  obtain rfl : w3 = (.int i3) := Option.some.inj ei3
  obtain ⟨n, o, h1, h2, h3, _, L, rfl, ⟨rfl, N⟩, hq⟩ := rm0 l s _ hw tables_1 i0 i1 i2 i3 s.heap s.heap.size (Nat.le_refl _) p e ha hc hk s m _ below hf ((Spec.applies_iff_loose hf).mp happ).1 ⟨rfl, State.Warmed39.refl s, rfl⟩ trivial
  refine ⟨n, _, h1, h2, h3, hpost _ _ _ _ _ _ ⟨Cond.after_iff.mpr rfl, Cond.after_iff.mpr (eq_i res_at (Term.int_eval (1)) rfl), trivial⟩ ⟨hq.1, hq.2.1, (hq.2.2.sift fun y hy => Or.inr (N y hy)).mono (by decide) (by decide)⟩⟩
theorem main_1_1 : Claimed_1_1 := comes_1 fun _ _ _ _ _ _ h hF => ⟨h.1, hF⟩
theorem main_1_2 : Claimed_1_2 := comes_1 fun _ _ _ _ _ _ h hF => ⟨h.2.1, hF⟩
end Jvm.Pilot.@@N@@
namespace Jvm.Pilot.@@N@@
open Jvm Jvm.ClassFile Sem Op Lib Jvm.Free Jvm.Stand Jvm.Pilot.@@N@@.Jvm.D
/-! MADE BY PROGRAM (witnessworld.py) out of the Statement's table words and the real class files: 17 classes; the members and pool entries that the words name. The judged class is class 1, her method 1. -/
namespace start1
open Jvm.ClassFile
def u (s : String) : CpInfo := .utf8 (stringToUtf16 s)
/-- a pool by its gaps: so many unusable entries, then the entry; so many at the end -/
def gap : Nat → List CpInfo → List CpInfo
  | 0, r => r
  | n + 1, r => .unusable :: gap n r
def poolList (es : List (Nat × CpInfo)) (last : Nat) : List CpInfo := es.foldr (fun e r => gap e.1 (e.2 :: r)) (gap last [])
def pool (es : List (Nat × CpInfo)) (last : Nat) : Array CpInfo := ⟨poolList es last⟩
def fileOf (pool : Array CpInfo) (this : Nat) (attrs : Array Attribute := #[]) (ms : Array MethodInfo := #[]) (fl : Nat := 33) (sup : Nat := 0) (ifs : Array Nat := #[]) (fds : Array FieldInfo := #[]) : ClassFile where
  minorVersion := 0
  majorVersion := 65
  constantPool := pool
  accessFlags := fl
  thisClass := this
  superClass := sup
  interfaces := ifs
  fields := fds
  methods := ms
  attributes := attrs
def plain (name : String) (sup : Option ClassId) : Class where
  name := name
  kind := .ordinary
  loader := none
  accessFlags := 33
  super := sup
  interfaces := #[]
  cf := none
  fields := #[]
  methods := #[]
  instanceTypes := #[]
  staticTypes := #[]
  resolved := #[]
  callSites := []
  init := .initialized
  statics := none
  mirror := none

def pool0 : Array CpInfo := pool [(5, u "<init>"), (0, u "()V"), (1, .class_ 10), (1, u "java/lang/Object")] 113

def k0c0 : Code := { maxStack := 0, maxLocals := 1, code := object_method_1_code, exceptionTable := #[], attributes := #[] }
def k0m0 : Method := { name := "<init>", desc := "()V", sig := { parameters := [], returnType := none }, accessFlags := 1, code := some k0c0 }
/-- java/lang/Object -/
def k0 : Class := { plain "java/lang/Object" none with
  accessFlags := 33
  interfaces := #[]
  cf := some (fileOf pool0 8 #[] #[{ accessFlags := 1, nameIndex := 5, descriptorIndex := 6, attributes := #[] }] 33 0 #[] #[])
  fields := #[]
  methods := #[k0m0]
  instanceTypes := #[]
  staticTypes := #[]
  resolved := Array.replicate 124 none
  statics := none }

def pool1 : Array CpInfo := pool [(2, .class_ 4), (1, u "java/lang/Object"), (0, u "<init>"), (0, u "()V"), (0, .class_ 8), (0, u "com/example/polite_edges/politeedges/layered/SparseBitSet"), (0, .methodref 7 10), (0, .nameAndType 5 11), (0, u "(I)V"), (0, .methodref 7 13), (0, .nameAndType 14 6), (0, u "setAll"), (0, .integer 2147483647), (0, .methodref 7 17), (0, .nameAndType 18 19), (0, u "nextSetBit"), (0, u "(I)I"), (0, .integer 65535), (0, .methodref 7 22), (0, .nameAndType 23 6), (0, u "clear"), (0, .class_ 25), (0, u "com/example/polite_edges/politeedges/layered/SparseBitSetSetAllPinLaw"), (2, u "law"), (0, u "(IIII)Z")] 3

def k1m0 : Method := { name := "<init>", desc := "()V", sig := { parameters := [], returnType := none }, accessFlags := 1, code := none }
def k1c1 : Code := { maxStack := 4, maxLocals := 8, code := code, exceptionTable := #[], attributes := #[] }
def k1m1 : Method := { name := "law", desc := "(IIII)Z", sig := { parameters := [.int, .int, .int, .int], returnType := some .boolean }, accessFlags := 9, code := some k1c1 }
/-- com/example/polite_edges/politeedges/layered/SparseBitSetSetAllPinLaw -/
def k1 : Class := { plain "com/example/polite_edges/politeedges/layered/SparseBitSetSetAllPinLaw" (some 0) with
  accessFlags := 49
  interfaces := #[]
  cf := some (fileOf pool1 24 #[] #[{ accessFlags := 1, nameIndex := 5, descriptorIndex := 6, attributes := #[] }, { accessFlags := 9, nameIndex := 28, descriptorIndex := 29, attributes := #[] }] 49 2 #[] #[])
  fields := #[]
  methods := #[k1m0, k1m1]
  instanceTypes := #[]
  staticTypes := #[]
  resolved := Array.replicate 33 none
  statics := none }

def pool2 : Array CpInfo := pool [(1, .methodref 2 3), (0, .class_ 4), (0, .nameAndType 5 6), (0, u "java/lang/Object"), (0, u "<init>"), (0, u "()V"), (0, .fieldref 8 9), (0, .class_ 10), (0, .nameAndType 11 12), (0, u "com/example/polite_edges/politeedges/layered/SparseBitSet"), (0, u "capacity"), (0, u "I"), (0, .fieldref 8 14), (0, .nameAndType 15 16), (0, u "words"), (0, u "[J"), (0, .fieldref 8 18), (0, .nameAndType 19 16), (0, u "summary"), (0, .long 18446744073709551615), (1, .methodref 23 24), (0, .class_ 25), (0, .nameAndType 26 27), (0, u "java/lang/Long"), (0, u "numberOfTrailingZeros"), (0, u "(J)I"), (0, u "(I)V"), (3, u "setAll"), (2, u "nextSetBit"), (0, u "(I)I"), (0, u "clear")] 2

def k2c0 : Code := { maxStack := 3, maxLocals := 2, code := prog_72_method_1_code, exceptionTable := #[], attributes := #[] }
def k2m0 : Method := { name := "<init>", desc := "(I)V", sig := { parameters := [.int], returnType := none }, accessFlags := 0, code := some k2c0 }
def k2c1 : Code := { maxStack := 7, maxLocals := 3, code := prog_72_method_3_code, exceptionTable := #[], attributes := #[] }
def k2m1 : Method := { name := "setAll", desc := "()V", sig := { parameters := [], returnType := none }, accessFlags := 0, code := some k2c1 }
def k2c2 : Code := { maxStack := 5, maxLocals := 10, code := prog_72_method_4_code, exceptionTable := #[], attributes := #[] }
def k2m2 : Method := { name := "nextSetBit", desc := "(I)I", sig := { parameters := [.int], returnType := some .int }, accessFlags := 0, code := some k2c2 }
def k2c3 : Code := { maxStack := 6, maxLocals := 4, code := prog_72_method_5_code, exceptionTable := #[], attributes := #[] }
def k2m3 : Method := { name := "clear", desc := "()V", sig := { parameters := [], returnType := none }, accessFlags := 0, code := some k2c3 }
/-- com/example/polite_edges/politeedges/layered/SparseBitSet -/
def k2 : Class := { plain "com/example/polite_edges/politeedges/layered/SparseBitSet" (some 0) with
  accessFlags := 48
  interfaces := #[]
  cf := some (fileOf pool2 8 #[] #[{ accessFlags := 0, nameIndex := 5, descriptorIndex := 28, attributes := #[] }, { accessFlags := 0, nameIndex := 32, descriptorIndex := 6, attributes := #[] }, { accessFlags := 0, nameIndex := 35, descriptorIndex := 36, attributes := #[] }, { accessFlags := 0, nameIndex := 37, descriptorIndex := 6, attributes := #[] }] 48 2 #[] #[{ accessFlags := 18, nameIndex := 11, descriptorIndex := 12, attributes := #[] }, { accessFlags := 18, nameIndex := 15, descriptorIndex := 16, attributes := #[] }, { accessFlags := 18, nameIndex := 19, descriptorIndex := 16, attributes := #[] }])
  fields := #[{ name := "capacity", type := .int, accessFlags := 18, slot := 0, constantValue := 0 }, { name := "words", type := (.array .long), accessFlags := 18, slot := 1, constantValue := 0 }, { name := "summary", type := (.array .long), accessFlags := 18, slot := 2, constantValue := 0 }]
  methods := #[k2m0, k2m1, k2m2, k2m3]
  instanceTypes := #[.int, (.array .long), (.array .long)]
  staticTypes := #[]
  resolved := Array.replicate 40 none
  statics := none }

def pool3 : Array CpInfo := pool [(1, .class_ 2), (0, u "java/io/Serializable"), (0, .class_ 4), (0, u "java/lang/Object")] 2

/-- java/io/Serializable -/
def k3 : Class := { plain "java/io/Serializable" (some 0) with
  accessFlags := 1537
  interfaces := #[]
  cf := some (fileOf pool3 1 #[] #[] 1537 3 #[] #[])
  fields := #[]
  methods := #[]
  instanceTypes := #[]
  staticTypes := #[]
  resolved := Array.replicate 7 none
  statics := none }

def pool4 : Array CpInfo := pool [(2, .class_ 4), (1, u "java/lang/Object"), (0, u "<init>"), (0, u "()V"), (1, .class_ 10), (1, u "java/lang/Number"), (2, .class_ 14), (0, u "java/io/Serializable"), (0, u "serialVersionUID"), (0, u "J")] 20

def k4m0 : Method := { name := "<init>", desc := "()V", sig := { parameters := [], returnType := none }, accessFlags := 1, code := none }
/-- java/lang/Number -/
def k4 : Class := { plain "java/lang/Number" (some 0) with
  accessFlags := 1057
  interfaces := #[3]
  cf := some (fileOf pool4 8 #[] #[{ accessFlags := 1, nameIndex := 5, descriptorIndex := 6, attributes := #[] }] 1057 2 #[13] #[{ accessFlags := 26, nameIndex := 15, descriptorIndex := 16, attributes := #[] }])
  fields := #[{ name := "serialVersionUID", type := .long, accessFlags := 26, slot := 0, constantValue := 0 }]
  methods := #[k4m0]
  instanceTypes := #[]
  staticTypes := #[.long]
  resolved := Array.replicate 37 none
  statics := none }

def pool5 : Array CpInfo := pool [(1, .class_ 2), (0, u "java/lang/Comparable"), (0, .class_ 4), (0, u "java/lang/Object")] 7

/-- java/lang/Comparable -/
def k5 : Class := { plain "java/lang/Comparable" (some 0) with
  accessFlags := 1537
  interfaces := #[]
  cf := some (fileOf pool5 1 #[] #[] 1537 3 #[] #[])
  fields := #[]
  methods := #[]
  instanceTypes := #[]
  staticTypes := #[]
  resolved := Array.replicate 12 none
  statics := none }

def pool6 : Array CpInfo := pool [(1, .class_ 2), (0, u "java/lang/constant/Constable"), (0, .class_ 4), (0, u "java/lang/Object")] 6

/-- java/lang/constant/Constable -/
def k6 : Class := { plain "java/lang/constant/Constable" (some 0) with
  accessFlags := 1537
  interfaces := #[]
  cf := some (fileOf pool6 1 #[] #[] 1537 3 #[] #[])
  fields := #[]
  methods := #[]
  instanceTypes := #[]
  staticTypes := #[]
  resolved := Array.replicate 11 none
  statics := none }

def pool7 : Array CpInfo := pool [(1, .class_ 2), (0, u "java/lang/constant/ConstantDesc"), (0, .class_ 4), (0, u "java/lang/Object")] 32

/-- java/lang/constant/ConstantDesc -/
def k7 : Class := { plain "java/lang/constant/ConstantDesc" (some 0) with
  accessFlags := 1537
  interfaces := #[]
  cf := some (fileOf pool7 1 #[] #[] 1537 3 #[] #[])
  fields := #[]
  methods := #[]
  instanceTypes := #[]
  staticTypes := #[]
  resolved := Array.replicate 37 none
  statics := none }

def pool8 : Array CpInfo := pool [(1, .class_ 2), (0, u "java/lang/Long"), (15, .class_ 20), (1, u "java/lang/Integer"), (80, u "(J)I"), (133, .class_ 237), (1, u "java/lang/Long$LongCache"), (33, .class_ 272), (0, u "java/lang/Number"), (2, u "value"), (0, u "J"), (33, u "(I)I"), (0, .methodref 18 312), (0, .nameAndType 313 310), (0, u "numberOfTrailingZeros"), (47, u "TYPE"), (0, u "Ljava/lang/Class;"), (0, .class_ 364), (0, u "java/lang/Comparable"), (0, .class_ 366), (0, u "java/lang/constant/Constable"), (0, .class_ 368), (0, u "java/lang/constant/ConstantDesc"), (0, u "MIN_VALUE"), (1, u "MAX_VALUE"), (4, u "SIZE"), (0, u "I"), (1, u "BYTES"), (1, u "serialVersionUID")] 142

def k8c0 : Code := { maxStack := 4, maxLocals := 3, code := jdk_35_method_49_code, exceptionTable := #[], attributes := #[] }
def k8m0 : Method := { name := "numberOfTrailingZeros", desc := "(J)I", sig := { parameters := [.long], returnType := some .int }, accessFlags := 9, code := some k8c0 }
/-- java/lang/Long -/
def k8 : Class := { plain "java/lang/Long" (some 4) with
  accessFlags := 49
  interfaces := #[5, 6, 7]
  cf := some (fileOf pool8 1 #[.nestMembers #[235]] #[{ accessFlags := 9, nameIndex := 313, descriptorIndex := 101, attributes := #[] }] 49 271 #[363, 365, 367] #[{ accessFlags := 25, nameIndex := 369, descriptorIndex := 276, attributes := #[] }, { accessFlags := 25, nameIndex := 371, descriptorIndex := 276, attributes := #[] }, { accessFlags := 25, nameIndex := 361, descriptorIndex := 362, attributes := #[] }, { accessFlags := 18, nameIndex := 275, descriptorIndex := 276, attributes := #[] }, { accessFlags := 25, nameIndex := 376, descriptorIndex := 377, attributes := #[] }, { accessFlags := 25, nameIndex := 379, descriptorIndex := 377, attributes := #[] }, { accessFlags := 26, nameIndex := 381, descriptorIndex := 276, attributes := #[] }])
  fields := #[{ name := "MIN_VALUE", type := .long, accessFlags := 25, slot := 0, constantValue := 0 }, { name := "MAX_VALUE", type := .long, accessFlags := 25, slot := 1, constantValue := 0 }, { name := "TYPE", type := (.object "java/lang/Class"), accessFlags := 25, slot := 2, constantValue := 0 }, { name := "value", type := .long, accessFlags := 18, slot := 0, constantValue := 0 }, { name := "SIZE", type := .int, accessFlags := 25, slot := 3, constantValue := 0 }, { name := "BYTES", type := .int, accessFlags := 25, slot := 4, constantValue := 0 }, { name := "serialVersionUID", type := .long, accessFlags := 26, slot := 5, constantValue := 0 }]
  methods := #[k8m0]
  instanceTypes := #[.long]
  staticTypes := #[.long, .long, (.object "java/lang/Class"), .int, .int, .long]
  resolved := Array.replicate 524 none
  statics := none }

def pool9 : Array CpInfo := pool [(1, .class_ 2), (0, u "java/lang/Integer"), (16, u "digits"), (0, u "[C"), (33, u "(I)I"), (30, u "DigitOnes"), (0, u "[B"), (2, u "DigitTens"), (99, .class_ 190), (0, u "java/lang/Integer$IntegerCache"), (3, u "I"), (8, .class_ 204), (0, u "java/lang/Number"), (2, u "value"), (56, .integer 65536), (37, u "TYPE"), (0, u "Ljava/lang/Class;"), (0, .class_ 305), (0, u "java/lang/Comparable"), (0, .class_ 307), (0, u "java/lang/constant/Constable"), (0, .class_ 309), (0, u "java/lang/constant/ConstantDesc"), (0, u "MIN_VALUE"), (1, u "MAX_VALUE"), (3, u "SIZE"), (1, u "BYTES"), (1, u "serialVersionUID"), (0, u "J"), (84, u "numberOfTrailingZeros")] 46

def k9c0 : Code := { maxStack := 3, maxLocals := 2, code := jdk_33_method_48_code, exceptionTable := #[], attributes := #[] }
def k9m0 : Method := { name := "numberOfTrailingZeros", desc := "(I)I", sig := { parameters := [.int], returnType := some .int }, accessFlags := 9, code := some k9c0 }
/-- java/lang/Integer -/
def k9 : Class := { plain "java/lang/Integer" (some 4) with
  accessFlags := 49
  interfaces := #[5, 6, 7]
  cf := some (fileOf pool9 1 #[.nestMembers #[189]] #[{ accessFlags := 9, nameIndex := 406, descriptorIndex := 54, attributes := #[] }] 49 203 #[304, 306, 308] #[{ accessFlags := 25, nameIndex := 310, descriptorIndex := 194, attributes := #[] }, { accessFlags := 25, nameIndex := 312, descriptorIndex := 194, attributes := #[] }, { accessFlags := 25, nameIndex := 302, descriptorIndex := 303, attributes := #[] }, { accessFlags := 24, nameIndex := 19, descriptorIndex := 20, attributes := #[] }, { accessFlags := 24, nameIndex := 89, descriptorIndex := 86, attributes := #[] }, { accessFlags := 24, nameIndex := 85, descriptorIndex := 86, attributes := #[] }, { accessFlags := 18, nameIndex := 207, descriptorIndex := 194, attributes := #[] }, { accessFlags := 25, nameIndex := 316, descriptorIndex := 194, attributes := #[] }, { accessFlags := 25, nameIndex := 318, descriptorIndex := 194, attributes := #[] }, { accessFlags := 26, nameIndex := 320, descriptorIndex := 321, attributes := #[] }])
  fields := #[{ name := "MIN_VALUE", type := .int, accessFlags := 25, slot := 0, constantValue := 0 }, { name := "MAX_VALUE", type := .int, accessFlags := 25, slot := 1, constantValue := 0 }, { name := "TYPE", type := (.object "java/lang/Class"), accessFlags := 25, slot := 2, constantValue := 0 }, { name := "digits", type := (.array .char), accessFlags := 24, slot := 3, constantValue := 0 }, { name := "DigitTens", type := (.array .byte), accessFlags := 24, slot := 4, constantValue := 0 }, { name := "DigitOnes", type := (.array .byte), accessFlags := 24, slot := 5, constantValue := 0 }, { name := "value", type := .int, accessFlags := 18, slot := 0, constantValue := 0 }, { name := "SIZE", type := .int, accessFlags := 25, slot := 6, constantValue := 0 }, { name := "BYTES", type := .int, accessFlags := 25, slot := 7, constantValue := 0 }, { name := "serialVersionUID", type := .long, accessFlags := 26, slot := 8, constantValue := 0 }]
  methods := #[k9m0]
  instanceTypes := #[.int]
  staticTypes := #[.int, .int, (.object "java/lang/Class"), (.array .char), (.array .byte), (.array .byte), .int, .int, .long]
  resolved := Array.replicate 453 none
  statics := none }

def pool10 : Array CpInfo := pool [(1, u "java/lang/Cloneable"), (0, .class_ 1), (0, u "java/lang/Object"), (0, .class_ 3)] 3

/-- java/lang/Cloneable -/
def k10 : Class := { plain "java/lang/Cloneable" (some 0) with
  accessFlags := 1537
  interfaces := #[]
  cf := some (fileOf pool10 2 #[] #[] 1537 4 #[] #[])
  fields := #[]
  methods := #[]
  instanceTypes := #[]
  staticTypes := #[]
  resolved := Array.replicate 8 none
  statics := none }

/-- the primitive byte -/
def k11 : Class := { plain "byte" none with kind := .primitive 'B', accessFlags := 0x411 }
/-- [B -/
def k12 : Class := { plain "[B" (some 0) with kind := .array 11 .byte, interfaces := #[10, 3], accessFlags := 1041 }

/-- the primitive int -/
def k13 : Class := { plain "int" none with kind := .primitive 'I', accessFlags := 0x411 }
/-- [I -/
def k14 : Class := { plain "[I" (some 0) with kind := .array 13 .int, interfaces := #[10, 3], accessFlags := 1041 }

/-- the primitive long -/
def k15 : Class := { plain "long" none with kind := .primitive 'J', accessFlags := 0x411 }
/-- [J -/
def k16 : Class := { plain "[J" (some 0) with kind := .array 15 .long, interfaces := #[10, 3], accessFlags := 1041 }

def heap : Heap := #[]
def classes : Array Class := #[k0, k1, k2, k3, k4, k5, k6, k7, k8, k9, k10, k11, k12, k13, k14, k15, k16]
def interned : List (Array UInt16 × Addr) := []
def slotsUsed : Nat := 0
def theMethod : MethodId := ⟨1, 1⟩
def args0 : Array Value := #[.int 100, .int 5, .int 70, .int 3]
def aboutOver (below : List Frame) : State where
  vm := { classes := classes, interned := interned.toArray }
  heap := heap
  slotsUsed := slotsUsed
  threads := #[{ frames := .invoking theMethod args0 :: below }]
def below0 : List Frame := [.native { method := ⟨0, 0⟩, args := #[] }]
def about1 : State := aboutOver below0
def p0 : Program := .bare "" "" ""
def e0 : Env := launch0.env 0 0 0
theorem w_frames : about1.frames = Frame.invoking theMethod args0 :: below0 := rfl
set_option maxRecDepth 65536 in
theorem w_args : argsFit about1.vm theMethod args0 = true := by decide +kernel
set_option maxRecDepth 65536 in
theorem w_heap : heapFits about1 = true := by decide +kernel
set_option maxRecDepth 65536 in
theorem w_runnable : about1.curStatus? = some .runnable := by decide +kernel
set_option maxRecDepth 65536 in
theorem w_alone : about1.alone = true := by decide +kernel
set_option maxRecDepth 65536 in
theorem w_named : about1.methodNamed? x = some theMethod := by decide +kernel
set_option maxRecDepth 65536 in
theorem w_hears : about1.hears theMethod below0 = true := by decide +kernel
set_option maxRecDepth 65536 in
theorem w_ripe : about1.ripe theMethod args0 below0 = true := by decide +kernel
theorem w_running : about1.status = .running := rfl
set_option maxRecDepth 65536 in
theorem w_room : about1.hasRoom e0.platform room_1 = true :=
  launch0.hasRoom_least _ room_1 (by decide +kernel) (by decide +kernel) (by decide +kernel) (by decide +kernel) (by decide +kernel) (by decide +kernel)
theorem allAtoms_all (ts : List Jvm.Cond) (a : Array Jvm.Value) (st : Jvm.State) : (allAtoms ts).before a st = ts.all (fun c => c.before a st) := by
  induction ts with
  | nil => rfl
  | cons c t ih =>
    show (Jvm.Cond.and c (allAtoms t)).before a st = _
    rw [Jvm.Cond.before_and, ih, List.all_cons]
def words1 : List Jvm.Cond := Jvm.Cond.code x code maxLocals ret :: tables_1
/-- a 'code' word, met by the world's own term for the bytes: nothing is compared byte by byte -/
theorem code_word {y : MethodName} {bytes : ByteArray} {mx : Nat} {rt : Option FieldType} {a : Array Value} {s : State} {m : MethodId} {meth : Method} {c : Code} (h1 : s.methodNamed? y = some m) (h2 : s.vm.method? m = some meth) (h3 : meth.code = some c) (h4 : c.code = bytes)
    (h5 : (c.maxLocals == mx && c.exceptionTable.isEmpty && decide (c.maxStack ≤ mostOperands) && decide (meth.sig.returnType = rt) && !meth.locks && decide (parseMethodDescriptor y.desc = some meth.sig)) = true) : (Jvm.Cond.code y bytes mx rt).before a s = true := by
  simp only [Bool.and_eq_true, beq_iff_eq, Bool.not_eq_true', decide_eq_true_eq] at h5
  obtain ⟨⟨⟨⟨⟨g1, g2⟩, g3⟩, g4⟩, g5⟩, g6⟩ := h5
  simp [Cond.before, Cond.holds, Cond.value, h1, h2, h3, h4, g1, g2, g3, g4, g5, g6]
def isCode : Jvm.Cond → Bool
  | .code _ _ _ _ => true
  | _ => false
theorem all_split {L : List Jvm.Cond} {P : Jvm.Cond → Bool} (h1 : L.all (fun c => isCode c || P c) = true) (h2 : ∀ c ∈ L.filter isCode, P c = true) : L.all P = true := by
  refine List.all_eq_true.mpr fun c hc => ?_
  have h := List.all_eq_true.mp h1 c hc
  rcases Bool.eq_false_or_eq_true (isCode c) with hi | hi
  · exact h2 c (List.mem_filter.mpr ⟨hc, hi⟩)
  · simpa [hi] using h
set_option maxRecDepth 65536 in
theorem w_c0 : (Jvm.Cond.code x code maxLocals ret).before args0 about1 = true := code_word (m := ⟨1, 1⟩) (meth := k1m1) (c := k1c1) (by decide +kernel) rfl rfl rfl (by decide +kernel)
set_option maxRecDepth 65536 in
theorem w_c1 : (Jvm.Cond.code ({ cls := "com/example/polite_edges/politeedges/layered/SparseBitSet", name := "<init>", desc := "(I)V" } : Jvm.MethodName) prog_72_method_1_code (2 : Nat) (Option.none : Option Jvm.ClassFile.FieldType)).before args0 about1 = true := code_word (m := ⟨2, 0⟩) (meth := k2m0) (c := k2c0) (by decide +kernel) rfl rfl rfl (by decide +kernel)
set_option maxRecDepth 65536 in
theorem w_c2 : (Jvm.Cond.code ({ cls := "java/lang/Object", name := "<init>", desc := "()V" } : Jvm.MethodName) object_method_1_code (1 : Nat) (Option.none : Option Jvm.ClassFile.FieldType)).before args0 about1 = true := code_word (m := ⟨0, 0⟩) (meth := k0m0) (c := k0c0) (by decide +kernel) rfl rfl rfl (by decide +kernel)
set_option maxRecDepth 65536 in
theorem w_c3 : (Jvm.Cond.code ({ cls := "com/example/polite_edges/politeedges/layered/SparseBitSet", name := "setAll", desc := "()V" } : Jvm.MethodName) prog_72_method_3_code (3 : Nat) (Option.none : Option Jvm.ClassFile.FieldType)).before args0 about1 = true := code_word (m := ⟨2, 1⟩) (meth := k2m1) (c := k2c1) (by decide +kernel) rfl rfl rfl (by decide +kernel)
set_option maxRecDepth 65536 in
theorem w_c4 : (Jvm.Cond.code ({ cls := "com/example/polite_edges/politeedges/layered/SparseBitSet", name := "nextSetBit", desc := "(I)I" } : Jvm.MethodName) prog_72_method_4_code (10 : Nat) (Option.some Jvm.ClassFile.FieldType.int)).before args0 about1 = true := code_word (m := ⟨2, 2⟩) (meth := k2m2) (c := k2c2) (by decide +kernel) rfl rfl rfl (by decide +kernel)
set_option maxRecDepth 65536 in
theorem w_c5 : (Jvm.Cond.code ({ cls := "com/example/polite_edges/politeedges/layered/SparseBitSet", name := "clear", desc := "()V" } : Jvm.MethodName) prog_72_method_5_code (4 : Nat) (Option.none : Option Jvm.ClassFile.FieldType)).before args0 about1 = true := code_word (m := ⟨2, 3⟩) (meth := k2m3) (c := k2c3) (by decide +kernel) rfl rfl rfl (by decide +kernel)
set_option maxRecDepth 65536 in
theorem w_c6 : (Jvm.Cond.code ({ cls := "java/lang/Long", name := "numberOfTrailingZeros", desc := "(J)I" } : Jvm.MethodName) jdk_35_method_49_code (3 : Nat) (Option.some Jvm.ClassFile.FieldType.int)).before args0 about1 = true := code_word (m := ⟨8, 0⟩) (meth := k8m0) (c := k8c0) (by decide +kernel) rfl rfl rfl (by decide +kernel)
set_option maxRecDepth 65536 in
theorem w_c7 : (Jvm.Cond.code ({ cls := "java/lang/Integer", name := "numberOfTrailingZeros", desc := "(I)I" } : Jvm.MethodName) jdk_33_method_48_code (2 : Nat) (Option.some Jvm.ClassFile.FieldType.int)).before args0 about1 = true := code_word (m := ⟨9, 0⟩) (meth := k9m0) (c := k9c0) (by decide +kernel) rfl rfl rfl (by decide +kernel)
def codes1 : List Jvm.Cond := [Jvm.Cond.code x code maxLocals ret, Jvm.Cond.code ({ cls := "com/example/polite_edges/politeedges/layered/SparseBitSet", name := "<init>", desc := "(I)V" } : Jvm.MethodName) prog_72_method_1_code (2 : Nat) (Option.none : Option Jvm.ClassFile.FieldType), Jvm.Cond.code ({ cls := "java/lang/Object", name := "<init>", desc := "()V" } : Jvm.MethodName) object_method_1_code (1 : Nat) (Option.none : Option Jvm.ClassFile.FieldType), Jvm.Cond.code ({ cls := "com/example/polite_edges/politeedges/layered/SparseBitSet", name := "setAll", desc := "()V" } : Jvm.MethodName) prog_72_method_3_code (3 : Nat) (Option.none : Option Jvm.ClassFile.FieldType), Jvm.Cond.code ({ cls := "com/example/polite_edges/politeedges/layered/SparseBitSet", name := "nextSetBit", desc := "(I)I" } : Jvm.MethodName) prog_72_method_4_code (10 : Nat) (Option.some Jvm.ClassFile.FieldType.int), Jvm.Cond.code ({ cls := "com/example/polite_edges/politeedges/layered/SparseBitSet", name := "clear", desc := "()V" } : Jvm.MethodName) prog_72_method_5_code (4 : Nat) (Option.none : Option Jvm.ClassFile.FieldType), Jvm.Cond.code ({ cls := "java/lang/Long", name := "numberOfTrailingZeros", desc := "(J)I" } : Jvm.MethodName) jdk_35_method_49_code (3 : Nat) (Option.some Jvm.ClassFile.FieldType.int), Jvm.Cond.code ({ cls := "java/lang/Integer", name := "numberOfTrailingZeros", desc := "(I)I" } : Jvm.MethodName) jdk_33_method_48_code (2 : Nat) (Option.some Jvm.ClassFile.FieldType.int)]
set_option maxRecDepth 65536 in
theorem codes_eq : words1.filter isCode = codes1 := rfl
theorem w_codes : ∀ c ∈ words1.filter isCode, c.before args0 about1 = true := by
  rw [codes_eq]
  intro c hc
  simp only [codes1, List.mem_cons, List.not_mem_nil, or_false] at hc
  rcases hc with rfl | rfl | rfl | rfl | rfl | rfl | rfl | rfl
  · exact w_c0
  · exact w_c1
  · exact w_c2
  · exact w_c3
  · exact w_c4
  · exact w_c5
  · exact w_c6
  · exact w_c7
set_option maxRecDepth 65536 in
theorem w_t1 : (words1.take 24).all (fun c => isCode c || c.before args0 about1) = true := by decide +kernel
set_option maxRecDepth 65536 in
theorem w_t2 : (words1.drop 24).all (fun c => isCode c || c.before args0 about1) = true := by decide +kernel
theorem w_tables : (allAtoms (Jvm.Cond.code x code maxLocals ret :: tables_1)).before args0 about1 = true := by
  rw [allAtoms_all]
  show words1.all (fun c => c.before args0 about1) = true
  refine all_split ?_ w_codes
  rw [← List.take_append_drop 24 words1, List.all_append, w_t1, w_t2]
  rfl
set_option maxRecDepth 65536 in
theorem w_case : (Jvm.Cond.and given_1 narrow_1).before args0 about1 = true := by decide +kernel
theorem w_applies : (headSpec (Jvm.Cond.code x code maxLocals ret :: tables_1) room_1).applies x e0.platform about1 = true :=
  (Spec.applies_iff w_frames).mpr ⟨w_running, w_runnable, w_alone, w_named, w_hears, w_ripe, w_room, w_tables⟩
theorem atStart : AtStart classFile x code maxLocals ret World_1 tables_1 room_1 Calls_1 rest_1 Pre_1 launch0 p0 e0 about1 theMethod args0 below0 :=
  ⟨lists_1, trivial, launch0.admits_env _ _ _, launch0.least_env, fairChoices_fair.cas, fairChoices_fair.clock, w_frames, w_args, w_heap, w_applies, trivial, trivial, w_case⟩
end start1
theorem witness_1 : WitnessClaimed_1 := ⟨start1.p0, start1.e0, start1.about1, start1.theMethod, start1.args0, start1.below0, start1.atStart⟩
end Jvm.Pilot.@@N@@
