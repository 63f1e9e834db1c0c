import JvmDerived
import JvmDerived.Pilot.@@N@@Statement
import JvmDerived.Pilot.@@N@@Code
set_option linter.unusedVariables false
set_option linter.unusedSimpArgs false
namespace Jvm.RoadKit
open Sem ClassFile Op Lib Jvm.Stand Jvm.Free Jvm.LawKit
section New
variable {p : Program} {l : Launch} {e : Env} {R : Room} {s : State} {m : MethodId} {args : Array Value} {below : List Frame} {meth : Method} {c : Code} {T : State} {locs : List Loc} {cells slots : Nat}
theorem retI (X : Stand p l e R s m args below meth c T locs cells slots) (hx : p.tables.exec = Jvm.exec) {pc : Nat} {Ls : Array Slot} {z : Int32} {rest : List Value} (hret : meth.sig.returnType = some .int) (hd : decode c.code pc = .ok (.ireturn, 1)) {fs : List Frame}
    (hl : ∀ (f : JFrame) (acts : List Action), f.method = m → f.locked = none → f.entered = [] → (doReturn e (T.setTop f) acts (some (.int z))).1 = T.setFrames fs) : Steps p.tables e below (T.setTop (mkF m pc Ls (.int z :: rest))) (T.setFrames fs) := by
  have hm' : T.vm.method? m = some meth := X.method'
  have hn : narrow .int (.int z) = .int z := rfl
  show Steps p.tables e below (T.setTop { method := m, pc := pc, locals := Ls, stack := _ :: rest, locked := none }) _
  jvm_step X.here [X.here.top, hx, hd, hm', hret, hn]
  first | (intro acts; rw [hl _ acts rfl rfl rfl]) | rw [hl _ _ rfl rfl rfl]
  exact Steps.refl _
end New
end Jvm.RoadKit
namespace Jvm.Pilot.@@N@@
open Jvm Jvm.ClassFile Sem Op Lib Jvm.Free Jvm.Stand Jvm.LawKit Jvm.RoadKit Bundle Jvm.Pilot.@@N@@.Jvm.D
section Own
variable {p : Program} {l : Launch} {e : Env} {R : Room} {s : State} {m : MethodId} {args : Array Value} {below : List Frame} {meth : Method} {c : Code} {T : State} {locs : List Loc} {cells slots : Nat} {Z : State} {h h' h0 : Heap} {a b : Addr} {sl : Nat} {v : Value}
/-- what is closed under a step taken ahead of it -/
def Bk (p : Program) (e : Env) (below : List Frame) (G : State → JFrame → Prop) : Prop :=
  ∀ (T T' : State) (g g' : JFrame), (∀ t, Steps p.tables e below (T'.setTop g') t → Steps p.tables e below (T.setTop g) t) → G T' g' → G T g
/-- from here the body comes to its end, with what Q says -/
def Goes (p : Program) (e : Env) (below : List Frame) (s : State) (Q : Option Value → Heap → List Loc → Prop) (cs sl : Nat) (T : State) (g : JFrame) : Prop :=
  ∃ s₂ o, Steps p.tables e below (T.setTop g) s₂ ∧ s₂.status = .running ∧ Ended s₂ below o ∧ ∃ v L, o = .returned v ∧ Q v s₂.heap L ∧ FrameEnd s o s₂ L cs sl
theorem Goes.bk (p : Program) (e : Env) (below : List Frame) (s : State) (Q : Option Value → Heap → List Loc → Prop) (cs sl : Nat) : Bk p e below (Goes p e below s Q cs sl) :=
  fun T T' g g' st ⟨s₂, o, h1, r⟩ => ⟨s₂, o, st _ h1, r⟩
variable {Q : Option Value → Heap → List Loc → Prop} {cs sn : Nat}
theorem Goes.retI (X : Stand p l e R s m args below meth c T locs cells slots) (hx : p.tables.exec = Jvm.exec) (hlk : meth.locks = false) (hret : meth.sig.returnType = some .int) {pc : Nat} {Ls : Array Slot} {z : Int32} {rest : List Value} (hd : decode c.code pc = .ok (.ireturn, 1))
    (hc : cells ≤ cs) (hs : slots ≤ sn) (hq : Q (some (.int z)) T.heap locs) : Goes p e below s Q cs sn T (mkF m pc Ls (.int z :: rest)) := by
  obtain ⟨fs, hr, hrun, hended, hW, hsame⟩ := X.leave (v := some (.int z)) (fun h => by rw [hret] at h; cases h) hlk
  exact ⟨_, _, Jvm.RoadKit.retI X hx hret hd hr, hrun, hended, _, _, rfl, hq, ⟨_, rfl⟩, hW, hsame.mono hc hs⟩
theorem Goes.retN (X : Stand p l e R s m args below meth c T locs cells slots) (hx : p.tables.exec = Jvm.exec) (hlk : meth.locks = false) {t : FieldType} (hret : meth.sig.returnType = some t) (ht : t = .boolean ∨ t = .byte ∨ t = .char ∨ t = .short) {pc : Nat} {Ls : Array Slot} {z : Int32} {rest : List Value} (hd : decode c.code pc = .ok (.ireturn, 1))
    (hc : cells ≤ cs) (hs : slots ≤ sn) (hq : Q (some (.int (nar t z))) T.heap locs) : Goes p e below s Q cs sn T (mkF m pc Ls (.int z :: rest)) := by
  obtain ⟨fs, hr, hrun, hended, hW, hsame⟩ := X.leave (v := some (.int (nar t z))) (fun h => by rw [hret] at h; cases h) hlk
  exact ⟨_, _, Jvm.RoadKit.retN X hx hret ht hd hr, hrun, hended, _, _, rfl, hq, ⟨_, rfl⟩, hW, hsame.mono hc hs⟩
theorem Goes.retV (X : Stand p l e R s m args below meth c T locs cells slots) (hx : p.tables.exec = Jvm.exec) (hlk : meth.locks = false) (hret : meth.sig.returnType = none) {pc : Nat} {Ls : Array Slot} (hd : decode c.code pc = .ok (.return_, 1))
    (hc : cells ≤ cs) (hs : slots ≤ sn) (hq : Q none T.heap locs) : Goes p e below s Q cs sn T (mkF m pc Ls []) := by
  obtain ⟨fs, hr, hrun, hended, hW, hsame⟩ := X.leave (v := none) (fun _ => rfl) hlk
  exact ⟨_, _, X.returnOut hx hret hd hr, hrun, hended, _, _, rfl, hq, ⟨_, rfl⟩, hW, hsame.mono hc hs⟩
theorem Goes.retL (X : Stand p l e R s m args below meth c T locs cells slots) (hx : p.tables.exec = Jvm.exec) (hlk : meth.locks = false) (hret : meth.sig.returnType = some .long) {pc : Nat} {Ls : Array Slot} {z : Int64} {rest : List Value} (hd : decode c.code pc = .ok (.lreturn, 1))
    (hc : cells ≤ cs) (hs : slots ≤ sn) (hq : Q (some (.long z)) T.heap locs) : Goes p e below s Q cs sn T (mkF m pc Ls (.long z :: rest)) := by
  obtain ⟨fs, hr, hrun, hended, hW, hsame⟩ := X.leave (v := some (.long z)) (fun h => by rw [hret] at h; cases h) hlk
  exact ⟨_, _, Jvm.RoadKit.retOut X hx hret rfl (Or.inr (Or.inl ⟨rfl, rfl, _, rfl⟩)) hd hr, hrun, hended, _, _, rfl, hq, ⟨_, rfl⟩, hW, hsame.mono hc hs⟩
theorem Goes.retA (X : Stand p l e R s m args below meth c T locs cells slots) (hx : p.tables.exec = Jvm.exec) (hlk : meth.locks = false) {t : FieldType} (ht : t.isReference = true) (hret : meth.sig.returnType = some t) {pc : Nat} {Ls : Array Slot} {z : Addr} {rest : List Value} (hd : decode c.code pc = .ok (.areturn, 1))
    (hc : cells ≤ cs) (hs : slots ≤ sn) (hq : Q (some (.ref z)) T.heap locs) : Goes p e below s Q cs sn T (mkF m pc Ls (.ref z :: rest)) := by
  obtain ⟨fs, hr, hrun, hended, hW, hsame⟩ := X.leave (v := some (.ref z)) (fun h => by rw [hret] at h; cases h) hlk
  exact ⟨_, _, Jvm.RoadKit.retOut X hx hret (by cases t <;> first | rfl | (cases ht; done)) (Or.inr (Or.inr (Or.inr (Or.inr ⟨rfl, ht, rfl⟩)))) hd hr, hrun, hended, _, _, rfl, hq, ⟨_, rfl⟩, hW, hsame.mono hc hs⟩
/-- an array: its kind, length and components -/
def Av (Z : State) (h : Heap) (a : Addr) (ty : FieldType) (n : Nat) (f : Nat → Value) : Prop :=
  ∃ c : Cell, Arr Z h a c ty ∧ c.slots.size = n ∧ n < 2 ^ 31 ∧ ∀ i, i < n → c.slots[i]? = some (f i)
variable {ty : FieldType} {n i : Nat} {f f' : Nat → Value} {j x : Int32}
theorem Av.lt (F : Av Z h a ty n f) : a < h.size := by obtain ⟨c, A, -⟩ := F; exact A.lt
theorem Av.ext (F : Av Z h a ty n f) (E : Ext h h') : Av Z h' a ty n f := by obtain ⟨c, A, r⟩ := F; exact ⟨c, A.ext E, r⟩
theorem Av.other (F : Av Z h b ty n f) (W : Wr h h' a sl v) (q : b ≠ a) : Av Z h' b ty n f := by obtain ⟨c, A, r⟩ := F; exact ⟨c, A.other W q, r⟩
theorem Av.keep {ws : List Addr} (F : Av Z h a ty n f) (K : Keep h h' ws) (q : a ∉ ws) : Av Z h' a ty n f := by obtain ⟨c, A, r⟩ := F; exact ⟨c, ⟨K.2.1 a c A.1 q, A.2⟩, r⟩
theorem Av.cong (F : Av Z h a ty n f) (q : ∀ i, i < n → f i = f' i) : Av Z h a ty n f' := by obtain ⟨c, A, r1, r2, r3⟩ := F; exact ⟨c, A, r1, r2, fun i hi => by rw [← q i hi]; exact r3 i hi⟩
theorem Av.bound (F : Av Z h a ty n f) : n < 2 ^ 31 := by obtain ⟨c, A, r1, r2, r3⟩ := F; exact r2
theorem tn_of {j : Int32} {i : Nat} (q : j.toInt = (i : Int)) : j.toNatClampNeg = i := by simp only [Int32.toNatClampNeg]; omega
theorem own_nn {j : Int32} {i : Nat} (q : j.toInt = (i : Int)) : ¬ j < 0 := by
  rw [Int32.lt_iff_toInt_lt]
  have e0 : (0 : Int32).toInt = 0 := rfl
  omega
theorem Av.new {k : ClassId} {z : Int32} (A : Arr Z h a (newA k ty z) ty) (q : z.toInt = (n : Int)) : Av Z h a ty n (fun _ => defaultValue ty) := by
  have e := tn_of q
  have hz := z.toInt_lt
  refine ⟨_, A, by rw [sz_new, e], by omega, fun i hi => ?_⟩
  simp [newA, e, hi]
theorem in_of {c : Cell} (S : c.slots.size = n) (hj : j.toInt = (i : Int)) (hi : i < n) : ¬ (j < 0 ∨ c.slots.size ≤ j.toNatClampNeg) := by
  rw [S, tn_of hj, Int32.lt_iff_toInt_lt]
  have e0 : (0 : Int32).toInt = 0 := rfl
  omega
theorem Av.ldI (X : Stand p l e R s m args below meth c T locs cells slots) (hx : p.tables.exec = Jvm.exec) (hZ : Z.Warmed39 s.vm) (eT : T.heap = h) (F : Av Z h a .int n f) (hj : j.toInt = (i : Int)) (hi : i < n) {g : JFrame} (hg : g.method = m) {rest : List Value} (hs : g.stack = .int j :: .ref a :: rest) (hd : decode c.code g.pc = .ok (.iaload, 1)) :
    ∀ t, Steps p.tables e below (T.setTop { g with pc := g.pc + 1, stack := f i :: rest }) t → Steps p.tables e below (T.setTop g) t := by
  obtain ⟨c, A, S, r, H⟩ := F
  exact X.iaload hx (by rw [eT]; exact A.1) (State.isArrayOf_alike hZ.alike A.2.1) A.2.2 (in_of S hj hi) (by rw [tn_of hj]; exact H i hi) hg hs hd
theorem Av.ldJ (X : Stand p l e R s m args below meth c T locs cells slots) (hx : p.tables.exec = Jvm.exec) (hZ : Z.Warmed39 s.vm) (eT : T.heap = h) (F : Av Z h a .long n f) (hj : j.toInt = (i : Int)) (hi : i < n) {g : JFrame} (hg : g.method = m) {rest : List Value} (hs : g.stack = .int j :: .ref a :: rest) (hd : decode c.code g.pc = .ok (.laload, 1)) :
    ∀ t, Steps p.tables e below (T.setTop { g with pc := g.pc + 1, stack := f i :: rest }) t → Steps p.tables e below (T.setTop g) t := by
  obtain ⟨c, A, S, r, H⟩ := F
  exact X.laload hx (by rw [eT]; exact A.1) (State.isArrayOf_alike hZ.alike A.2.1) A.2.2 (in_of S hj hi) (by rw [tn_of hj]; exact H i hi) hg hs hd
theorem Av.ldB (X : Stand p l e R s m args below meth c T locs cells slots) (hx : p.tables.exec = Jvm.exec) (hZ : Z.Warmed39 s.vm) (eT : T.heap = h) (F : Av Z h a .byte n f) (hj : j.toInt = (i : Int)) (hi : i < n) {g : JFrame} (hg : g.method = m) {rest : List Value} (hs : g.stack = .int j :: .ref a :: rest) (hd : decode c.code g.pc = .ok (.baload, 1)) :
    ∀ t, Steps p.tables e below (T.setTop { g with pc := g.pc + 1, stack := f i :: rest }) t → Steps p.tables e below (T.setTop g) t := by
  obtain ⟨c, A, S, r, H⟩ := F
  exact X.baloadBytes hx (by rw [eT]; exact A.1) (State.isArrayOf_alike hZ.alike A.2.1) A.2.2 (in_of S hj hi) (by rw [tn_of hj]; exact H i hi) hg hs hd
theorem Av.len (X : Stand p l e R s m args below meth c T locs cells slots) (hx : p.tables.exec = Jvm.exec) (hZ : Z.Warmed39 s.vm) (eT : T.heap = h) (F : Av Z h a ty n f) {g : JFrame} (hg : g.method = m) {rest : List Value} (hs : g.stack = .ref a :: rest) (hd : decode c.code g.pc = .ok (.arraylength, 1)) :
    ∀ t, Steps p.tables e below (T.setTop { g with pc := g.pc + 1, stack := .int (Nat.toInt32 n) :: rest }) t → Steps p.tables e below (T.setTop g) t := by
  obtain ⟨c, A, rfl, r, H⟩ := F
  exact X.arraylength hx (by rw [eT]; exact A.1) (State.isArrayOf_alike hZ.alike A.2.1) hg hs hd
/-- f with v at the place i -/
def upd {α : Type} (f : Nat → α) (i : Nat) (v : α) : Nat → α := fun k => if k = i then v else f k
theorem Av.set (F : Av Z h a ty n f) (hi : i < n) (W : Wr h h' a i v) : Av Z h' a ty n (upd f i v) := by
  obtain ⟨c, A, S, r, H⟩ := F
  refine ⟨_, A.same W, by rw [sz_set]; exact S, r, fun k hk => ?_⟩
  by_cases u : k = i
  · subst u; simp [Cell.setSlot, upd, S, hk]
  · simp only [Cell.setSlot, upd, u, if_false]
    rw [Array.getElem?_setIfInBounds_ne (Ne.symm u)]; exact H k hk
theorem Av.stI (X : Stand p l e R s m args below meth c T locs cells slots) (hx : p.tables.exec = Jvm.exec) (hZ : Z.Warmed39 s.vm) (eT : T.heap = h) (F : Av Z h a .int n f) (hj : j.toInt = (i : Int)) (hi : i < n) {g : JFrame} (hg : g.method = m) {rest : List Value} (hs : g.stack = .int x :: .int j :: .ref a :: rest) (hd : decode c.code g.pc = .ok (.iastore, 1)) :
    ∃ T' h', Stand p l e R s m args below meth c T' (locs ++ [⟨a, i⟩]) cells slots ∧ T'.heap = h' ∧ Wr h h' a i (.int x) ∧ Av Z h' a .int n (upd f i (.int x)) ∧ ∀ t, Steps p.tables e below (T'.setTop { g with pc := g.pc + 1, stack := rest }) t → Steps p.tables e below (T.setTop g) t := by
  have F' := F
  obtain ⟨c, A, S, r, H⟩ := F
  obtain ⟨T', h', X', e', W, st⟩ := Jvm.RoadKit.stI X hx hZ eT A (in_of S hj hi) hg hs hd
  rw [tn_of hj] at W X'
  exact ⟨T', h', X', e', W, F'.set hi W, st⟩
theorem Av.stJ {x : Int64} (X : Stand p l e R s m args below meth c T locs cells slots) (hx : p.tables.exec = Jvm.exec) (hZ : Z.Warmed39 s.vm) (eT : T.heap = h) (F : Av Z h a .long n f) (hj : j.toInt = (i : Int)) (hi : i < n) {g : JFrame} (hg : g.method = m) {rest : List Value} (hs : g.stack = .long x :: .int j :: .ref a :: rest) (hd : decode c.code g.pc = .ok (.lastore, 1)) :
    ∃ T' h', Stand p l e R s m args below meth c T' (locs ++ [⟨a, i⟩]) cells slots ∧ T'.heap = h' ∧ Wr h h' a i (.long x) ∧ Av Z h' a .long n (upd f i (.long x)) ∧ ∀ t, Steps p.tables e below (T'.setTop { g with pc := g.pc + 1, stack := rest }) t → Steps p.tables e below (T.setTop g) t := by
  have F' := F
  obtain ⟨c, A, S, r, H⟩ := F
  obtain ⟨T', h', X', e', W, st⟩ := Jvm.RoadKit.stJ X hx hZ eT A (in_of S hj hi) hg hs hd
  rw [tn_of hj] at W X'
  exact ⟨T', h', X', e', W, F'.set hi W, st⟩
theorem Av.stB (X : Stand p l e R s m args below meth c T locs cells slots) (hx : p.tables.exec = Jvm.exec) (hZ : Z.Warmed39 s.vm) (eT : T.heap = h) (F : Av Z h a .byte n f) (hj : j.toInt = (i : Int)) (hi : i < n) {g : JFrame} (hg : g.method = m) {rest : List Value} (hs : g.stack = .int x :: .int j :: .ref a :: rest) (hd : decode c.code g.pc = .ok (.bastore, 1)) :
    ∃ T' h', Stand p l e R s m args below meth c T' (locs ++ [⟨a, i⟩]) cells slots ∧ T'.heap = h' ∧ Wr h h' a i (.int (nar .byte x)) ∧ Av Z h' a .byte n (upd f i (.int (nar .byte x))) ∧ ∀ t, Steps p.tables e below (T'.setTop { g with pc := g.pc + 1, stack := rest }) t → Steps p.tables e below (T.setTop g) t := by
  have F' := F
  obtain ⟨c, A, S, r, H⟩ := F
  obtain ⟨T', h', X', e', W, st⟩ := Jvm.RoadKit.stB X hx hZ eT A (in_of S hj hi) hg hs hd
  rw [tn_of hj] at W X'
  exact ⟨T', h', X', e', W, F'.set hi W, st⟩
end Own
theorem d1_0 : decode prog_12_method_1_code 0 = .ok (.aload_n 0, 1) := by decide +kernel
theorem d1_1 : decode prog_12_method_1_code 1 = .ok (.invokespecial 1, 3) := by decide +kernel
theorem d1_4 : decode prog_12_method_1_code 4 = .ok (.aload_n 2, 1) := by decide +kernel
theorem d1_5 : decode prog_12_method_1_code 5 = .ok (.arraylength, 1) := by decide +kernel
theorem d1_6 : decode prog_12_method_1_code 6 = .ok (.istore 4, 2) := by decide +kernel
theorem d1_8 : decode prog_12_method_1_code 8 = .ok (.aload_n 0, 1) := by decide +kernel
theorem d1_9 : decode prog_12_method_1_code 9 = .ok (.aload_n 2, 1) := by decide +kernel
theorem d1_10 : decode prog_12_method_1_code 10 = .ok (.putfield 7, 3) := by decide +kernel
theorem d1_13 : decode prog_12_method_1_code 13 = .ok (.aload_n 0, 1) := by decide +kernel
theorem d1_14 : decode prog_12_method_1_code 14 = .ok (.aload_n 3, 1) := by decide +kernel
theorem d1_15 : decode prog_12_method_1_code 15 = .ok (.putfield 13, 3) := by decide +kernel
theorem d1_18 : decode prog_12_method_1_code 18 = .ok (.aload_n 0, 1) := by decide +kernel
theorem d1_19 : decode prog_12_method_1_code 19 = .ok (.iload_n 1, 1) := by decide +kernel
theorem d1_20 : decode prog_12_method_1_code 20 = .ok (.iconst 1, 1) := by decide +kernel
theorem d1_21 : decode prog_12_method_1_code 21 = .ok (.iadd, 1) := by decide +kernel
theorem d1_22 : decode prog_12_method_1_code 22 = .ok (.newarray .int, 2) := by decide +kernel
theorem d1_24 : decode prog_12_method_1_code 24 = .ok (.putfield 16, 3) := by decide +kernel
theorem d1_27 : decode prog_12_method_1_code 27 = .ok (.iconst 0, 1) := by decide +kernel
theorem d1_28 : decode prog_12_method_1_code 28 = .ok (.istore 5, 2) := by decide +kernel
theorem d1_30 : decode prog_12_method_1_code 30 = .ok (.iload 5, 2) := by decide +kernel
theorem d1_32 : decode prog_12_method_1_code 32 = .ok (.iload 4, 2) := by decide +kernel
theorem d1_34 : decode prog_12_method_1_code 34 = .ok (.if_icmp .ge 39, 3) := by decide +kernel
theorem d1_37 : decode prog_12_method_1_code 37 = .ok (.aload_n 0, 1) := by decide +kernel
theorem d1_38 : decode prog_12_method_1_code 38 = .ok (.getfield 16, 3) := by decide +kernel
theorem d1_41 : decode prog_12_method_1_code 41 = .ok (.aload_n 2, 1) := by decide +kernel
theorem d1_42 : decode prog_12_method_1_code 42 = .ok (.iload 5, 2) := by decide +kernel
theorem d1_44 : decode prog_12_method_1_code 44 = .ok (.iaload, 1) := by decide +kernel
theorem d1_45 : decode prog_12_method_1_code 45 = .ok (.iconst 1, 1) := by decide +kernel
theorem d1_46 : decode prog_12_method_1_code 46 = .ok (.iadd, 1) := by decide +kernel
theorem d1_47 : decode prog_12_method_1_code 47 = .ok (.dup2, 1) := by decide +kernel
theorem d1_48 : decode prog_12_method_1_code 48 = .ok (.iaload, 1) := by decide +kernel
theorem d1_49 : decode prog_12_method_1_code 49 = .ok (.iconst 1, 1) := by decide +kernel
theorem d1_50 : decode prog_12_method_1_code 50 = .ok (.iadd, 1) := by decide +kernel
theorem d1_51 : decode prog_12_method_1_code 51 = .ok (.iastore, 1) := by decide +kernel
theorem d1_52 : decode prog_12_method_1_code 52 = .ok (.aload_n 0, 1) := by decide +kernel
theorem d1_53 : decode prog_12_method_1_code 53 = .ok (.getfield 16, 3) := by decide +kernel
theorem d1_56 : decode prog_12_method_1_code 56 = .ok (.aload_n 3, 1) := by decide +kernel
theorem d1_57 : decode prog_12_method_1_code 57 = .ok (.iload 5, 2) := by decide +kernel
theorem d1_59 : decode prog_12_method_1_code 59 = .ok (.iaload, 1) := by decide +kernel
theorem d1_60 : decode prog_12_method_1_code 60 = .ok (.iconst 1, 1) := by decide +kernel
theorem d1_61 : decode prog_12_method_1_code 61 = .ok (.iadd, 1) := by decide +kernel
theorem d1_62 : decode prog_12_method_1_code 62 = .ok (.dup2, 1) := by decide +kernel
theorem d1_63 : decode prog_12_method_1_code 63 = .ok (.iaload, 1) := by decide +kernel
theorem d1_64 : decode prog_12_method_1_code 64 = .ok (.iconst 1, 1) := by decide +kernel
theorem d1_65 : decode prog_12_method_1_code 65 = .ok (.iadd, 1) := by decide +kernel
theorem d1_66 : decode prog_12_method_1_code 66 = .ok (.iastore, 1) := by decide +kernel
theorem d1_67 : decode prog_12_method_1_code 67 = .ok (.iinc 5 1, 3) := by decide +kernel
theorem d1_70 : decode prog_12_method_1_code 70 = .ok (.goto (-40), 3) := by decide +kernel
theorem d1_73 : decode prog_12_method_1_code 73 = .ok (.iconst 0, 1) := by decide +kernel
theorem d1_74 : decode prog_12_method_1_code 74 = .ok (.istore 5, 2) := by decide +kernel
theorem d1_76 : decode prog_12_method_1_code 76 = .ok (.iload 5, 2) := by decide +kernel
theorem d1_78 : decode prog_12_method_1_code 78 = .ok (.iload_n 1, 1) := by decide +kernel
theorem d1_79 : decode prog_12_method_1_code 79 = .ok (.if_icmp .ge 28, 3) := by decide +kernel
theorem d1_82 : decode prog_12_method_1_code 82 = .ok (.aload_n 0, 1) := by decide +kernel
theorem d1_83 : decode prog_12_method_1_code 83 = .ok (.getfield 16, 3) := by decide +kernel
theorem d1_86 : decode prog_12_method_1_code 86 = .ok (.iload 5, 2) := by decide +kernel
theorem d1_88 : decode prog_12_method_1_code 88 = .ok (.iconst 1, 1) := by decide +kernel
theorem d1_89 : decode prog_12_method_1_code 89 = .ok (.iadd, 1) := by decide +kernel
theorem d1_90 : decode prog_12_method_1_code 90 = .ok (.dup2, 1) := by decide +kernel
theorem d1_91 : decode prog_12_method_1_code 91 = .ok (.iaload, 1) := by decide +kernel
theorem d1_92 : decode prog_12_method_1_code 92 = .ok (.aload_n 0, 1) := by decide +kernel
theorem d1_93 : decode prog_12_method_1_code 93 = .ok (.getfield 16, 3) := by decide +kernel
theorem d1_96 : decode prog_12_method_1_code 96 = .ok (.iload 5, 2) := by decide +kernel
theorem d1_98 : decode prog_12_method_1_code 98 = .ok (.iaload, 1) := by decide +kernel
theorem d1_99 : decode prog_12_method_1_code 99 = .ok (.iadd, 1) := by decide +kernel
theorem d1_100 : decode prog_12_method_1_code 100 = .ok (.iastore, 1) := by decide +kernel
theorem d1_101 : decode prog_12_method_1_code 101 = .ok (.iinc 5 1, 3) := by decide +kernel
theorem d1_104 : decode prog_12_method_1_code 104 = .ok (.goto (-28), 3) := by decide +kernel
theorem d1_107 : decode prog_12_method_1_code 107 = .ok (.aload_n 0, 1) := by decide +kernel
theorem d1_108 : decode prog_12_method_1_code 108 = .ok (.iconst 2, 1) := by decide +kernel
theorem d1_109 : decode prog_12_method_1_code 109 = .ok (.iload 4, 2) := by decide +kernel
theorem d1_111 : decode prog_12_method_1_code 111 = .ok (.imul, 1) := by decide +kernel
theorem d1_112 : decode prog_12_method_1_code 112 = .ok (.newarray .int, 2) := by decide +kernel
theorem d1_114 : decode prog_12_method_1_code 114 = .ok (.putfield 19, 3) := by decide +kernel
theorem d1_117 : decode prog_12_method_1_code 117 = .ok (.iload_n 1, 1) := by decide +kernel
theorem d1_118 : decode prog_12_method_1_code 118 = .ok (.newarray .int, 2) := by decide +kernel
theorem d1_120 : decode prog_12_method_1_code 120 = .ok (.astore 5, 2) := by decide +kernel
theorem d1_122 : decode prog_12_method_1_code 122 = .ok (.iconst 0, 1) := by decide +kernel
theorem d1_123 : decode prog_12_method_1_code 123 = .ok (.istore 6, 2) := by decide +kernel
theorem d1_125 : decode prog_12_method_1_code 125 = .ok (.iload 6, 2) := by decide +kernel
theorem d1_127 : decode prog_12_method_1_code 127 = .ok (.iload 4, 2) := by decide +kernel
theorem d1_129 : decode prog_12_method_1_code 129 = .ok (.if_icmp .ge 67, 3) := by decide +kernel
theorem d1_132 : decode prog_12_method_1_code 132 = .ok (.aload_n 0, 1) := by decide +kernel
theorem d1_133 : decode prog_12_method_1_code 133 = .ok (.getfield 19, 3) := by decide +kernel
theorem d1_136 : decode prog_12_method_1_code 136 = .ok (.aload_n 0, 1) := by decide +kernel
theorem d1_137 : decode prog_12_method_1_code 137 = .ok (.getfield 16, 3) := by decide +kernel
theorem d1_140 : decode prog_12_method_1_code 140 = .ok (.aload_n 2, 1) := by decide +kernel
theorem d1_141 : decode prog_12_method_1_code 141 = .ok (.iload 6, 2) := by decide +kernel
theorem d1_143 : decode prog_12_method_1_code 143 = .ok (.iaload, 1) := by decide +kernel
theorem d1_144 : decode prog_12_method_1_code 144 = .ok (.iaload, 1) := by decide +kernel
theorem d1_145 : decode prog_12_method_1_code 145 = .ok (.aload 5, 2) := by decide +kernel
theorem d1_147 : decode prog_12_method_1_code 147 = .ok (.aload_n 2, 1) := by decide +kernel
theorem d1_148 : decode prog_12_method_1_code 148 = .ok (.iload 6, 2) := by decide +kernel
theorem d1_150 : decode prog_12_method_1_code 150 = .ok (.iaload, 1) := by decide +kernel
theorem d1_151 : decode prog_12_method_1_code 151 = .ok (.dup2, 1) := by decide +kernel
theorem d1_152 : decode prog_12_method_1_code 152 = .ok (.iaload, 1) := by decide +kernel
theorem d1_153 : decode prog_12_method_1_code 153 = .ok (.dup_x2, 1) := by decide +kernel
theorem d1_154 : decode prog_12_method_1_code 154 = .ok (.iconst 1, 1) := by decide +kernel
theorem d1_155 : decode prog_12_method_1_code 155 = .ok (.iadd, 1) := by decide +kernel
theorem d1_156 : decode prog_12_method_1_code 156 = .ok (.iastore, 1) := by decide +kernel
theorem d1_157 : decode prog_12_method_1_code 157 = .ok (.iadd, 1) := by decide +kernel
theorem d1_158 : decode prog_12_method_1_code 158 = .ok (.iload 6, 2) := by decide +kernel
theorem d1_160 : decode prog_12_method_1_code 160 = .ok (.iastore, 1) := by decide +kernel
theorem d1_161 : decode prog_12_method_1_code 161 = .ok (.aload_n 0, 1) := by decide +kernel
theorem d1_162 : decode prog_12_method_1_code 162 = .ok (.getfield 19, 3) := by decide +kernel
theorem d1_165 : decode prog_12_method_1_code 165 = .ok (.aload_n 0, 1) := by decide +kernel
theorem d1_166 : decode prog_12_method_1_code 166 = .ok (.getfield 16, 3) := by decide +kernel
theorem d1_169 : decode prog_12_method_1_code 169 = .ok (.aload_n 3, 1) := by decide +kernel
theorem d1_170 : decode prog_12_method_1_code 170 = .ok (.iload 6, 2) := by decide +kernel
theorem d1_172 : decode prog_12_method_1_code 172 = .ok (.iaload, 1) := by decide +kernel
theorem d1_173 : decode prog_12_method_1_code 173 = .ok (.iaload, 1) := by decide +kernel
theorem d1_174 : decode prog_12_method_1_code 174 = .ok (.aload 5, 2) := by decide +kernel
theorem d1_176 : decode prog_12_method_1_code 176 = .ok (.aload_n 3, 1) := by decide +kernel
theorem d1_177 : decode prog_12_method_1_code 177 = .ok (.iload 6, 2) := by decide +kernel
theorem d1_179 : decode prog_12_method_1_code 179 = .ok (.iaload, 1) := by decide +kernel
theorem d1_180 : decode prog_12_method_1_code 180 = .ok (.dup2, 1) := by decide +kernel
theorem d1_181 : decode prog_12_method_1_code 181 = .ok (.iaload, 1) := by decide +kernel
theorem d1_182 : decode prog_12_method_1_code 182 = .ok (.dup_x2, 1) := by decide +kernel
theorem d1_183 : decode prog_12_method_1_code 183 = .ok (.iconst 1, 1) := by decide +kernel
theorem d1_184 : decode prog_12_method_1_code 184 = .ok (.iadd, 1) := by decide +kernel
theorem d1_185 : decode prog_12_method_1_code 185 = .ok (.iastore, 1) := by decide +kernel
theorem d1_186 : decode prog_12_method_1_code 186 = .ok (.iadd, 1) := by decide +kernel
theorem d1_187 : decode prog_12_method_1_code 187 = .ok (.iload 6, 2) := by decide +kernel
theorem d1_189 : decode prog_12_method_1_code 189 = .ok (.iastore, 1) := by decide +kernel
theorem d1_190 : decode prog_12_method_1_code 190 = .ok (.iinc 6 1, 3) := by decide +kernel
theorem d1_193 : decode prog_12_method_1_code 193 = .ok (.goto (-68), 3) := by decide +kernel
theorem d1_196 : decode prog_12_method_1_code 196 = .ok (.return_, 1) := by decide +kernel
theorem d3_0 : decode prog_12_method_3_code 0 = .ok (.aload_n 0, 1) := by decide +kernel
theorem d3_1 : decode prog_12_method_3_code 1 = .ok (.getfield 7, 3) := by decide +kernel
theorem d3_4 : decode prog_12_method_3_code 4 = .ok (.iload_n 1, 1) := by decide +kernel
theorem d3_5 : decode prog_12_method_3_code 5 = .ok (.iaload, 1) := by decide +kernel
theorem d3_6 : decode prog_12_method_3_code 6 = .ok (.iload_n 2, 1) := by decide +kernel
theorem d3_7 : decode prog_12_method_3_code 7 = .ok (.if_icmp .ne 12, 3) := by decide +kernel
theorem d3_10 : decode prog_12_method_3_code 10 = .ok (.aload_n 0, 1) := by decide +kernel
theorem d3_11 : decode prog_12_method_3_code 11 = .ok (.getfield 13, 3) := by decide +kernel
theorem d3_14 : decode prog_12_method_3_code 14 = .ok (.iload_n 1, 1) := by decide +kernel
theorem d3_15 : decode prog_12_method_3_code 15 = .ok (.iaload, 1) := by decide +kernel
theorem d3_16 : decode prog_12_method_3_code 16 = .ok (.goto 9, 3) := by decide +kernel
theorem d3_19 : decode prog_12_method_3_code 19 = .ok (.aload_n 0, 1) := by decide +kernel
theorem d3_20 : decode prog_12_method_3_code 20 = .ok (.getfield 7, 3) := by decide +kernel
theorem d3_23 : decode prog_12_method_3_code 23 = .ok (.iload_n 1, 1) := by decide +kernel
theorem d3_24 : decode prog_12_method_3_code 24 = .ok (.iaload, 1) := by decide +kernel
theorem d3_25 : decode prog_12_method_3_code 25 = .ok (.ireturn, 1) := by decide +kernel
theorem pd_0 : parseMethodDescriptor "(II)I" = some ⟨[.int, .int], some .int⟩ := by decide +kernel
theorem pd_1 : parseMethodDescriptor "(I[I[I)V" = some ⟨[.int, (.array .int), (.array .int)], none⟩ := by decide +kernel
theorem tw0 {a0 : Array Value} {Z : State} (hw : ∀ d ∈ tables_1, d.before a0 Z = true) : (Jvm.Cond.constant "com/example/polite_edges/politeedges/IncidencesOtherEndPinLaw" (7 : Nat) (2147483647 : Int32)).before a0 Z = true := hw _ (List.mem_of_getElem? (i := 0) rfl)
theorem tw1 {a0 : Array Value} {Z : State} (hw : ∀ d ∈ tables_1, d.before a0 Z = true) : (Jvm.Cond.arrayClass Jvm.ClassFile.FieldType.int).before a0 Z = true := hw _ (List.mem_of_getElem? (i := 1) rfl)
theorem tw2 {a0 : Array Value} {Z : State} (hw : ∀ d ∈ tables_1, d.before a0 Z = true) : (Jvm.Cond.classLink "com/example/polite_edges/politeedges/IncidencesOtherEndPinLaw" (8 : Nat) "com/example/polite_edges/politeedges/Incidences").before a0 Z = true := hw _ (List.mem_of_getElem? (i := 2) rfl)
theorem tw3 {a0 : Array Value} {Z : State} (hw : ∀ d ∈ tables_1, d.before a0 Z = true) : (Jvm.Cond.instantiable "com/example/polite_edges/politeedges/Incidences" (4 : Nat)).before a0 Z = true := hw _ (List.mem_of_getElem? (i := 3) rfl)
theorem tw4 {a0 : Array Value} {Z : State} (hw : ∀ d ∈ tables_1, d.before a0 Z = true) : (Jvm.Cond.initialized "com/example/polite_edges/politeedges/Incidences").before a0 Z = true := hw _ (List.mem_of_getElem? (i := 4) rfl)
theorem tw5 {a0 : Array Value} {Z : State} (hw : ∀ d ∈ tables_1, d.before a0 Z = true) : (Jvm.Cond.methodLink "com/example/polite_edges/politeedges/IncidencesOtherEndPinLaw" (10 : Nat) ({ cls := "com/example/polite_edges/politeedges/Incidences", name := "<init>", desc := "(I[I[I)V" } : Jvm.MethodName)).before a0 Z = true := hw _ (List.mem_of_getElem? (i := 5) rfl)
theorem tw6 {a0 : Array Value} {Z : State} (hw : ∀ d ∈ tables_1, d.before a0 Z = true) : (Jvm.Cond.instanceMethod ({ cls := "com/example/polite_edges/politeedges/Incidences", name := "<init>", desc := "(I[I[I)V" } : Jvm.MethodName)).before a0 Z = true := hw _ (List.mem_of_getElem? (i := 6) rfl)
theorem tw7 {a0 : Array Value} {Z : State} (hw : ∀ d ∈ tables_1, d.before a0 Z = true) : (Jvm.Cond.code ({ cls := "com/example/polite_edges/politeedges/Incidences", name := "<init>", desc := "(I[I[I)V" } : Jvm.MethodName) prog_12_method_1_code (7 : Nat) (Option.none : Option Jvm.ClassFile.FieldType)).before a0 Z = true := hw _ (List.mem_of_getElem? (i := 7) rfl)
theorem tw8 {a0 : Array Value} {Z : State} (hw : ∀ d ∈ tables_1, d.before a0 Z = true) : (Jvm.Cond.methodLink "com/example/polite_edges/politeedges/Incidences" (1 : Nat) ({ cls := "java/lang/Object", name := "<init>", desc := "()V" } : Jvm.MethodName)).before a0 Z = true := hw _ (List.mem_of_getElem? (i := 8) rfl)
theorem tw9 {a0 : Array Value} {Z : State} (hw : ∀ d ∈ tables_1, d.before a0 Z = true) : (Jvm.Cond.instanceMethod ({ cls := "java/lang/Object", name := "<init>", desc := "()V" } : Jvm.MethodName)).before a0 Z = true := hw _ (List.mem_of_getElem? (i := 9) rfl)
theorem tw10 {a0 : Array Value} {Z : State} (hw : ∀ d ∈ tables_1, d.before a0 Z = true) : (Jvm.Cond.code ({ cls := "java/lang/Object", name := "<init>", desc := "()V" } : Jvm.MethodName) object_method_1_code (1 : Nat) (Option.none : Option Jvm.ClassFile.FieldType)).before a0 Z = true := hw _ (List.mem_of_getElem? (i := 10) rfl)
theorem tw11 {a0 : Array Value} {Z : State} (hw : ∀ d ∈ tables_1, d.before a0 Z = true) : (Jvm.Cond.fieldLink "com/example/polite_edges/politeedges/Incidences" (7 : Nat) "com/example/polite_edges/politeedges/Incidences" "sources" "[I").before a0 Z = true := hw _ (List.mem_of_getElem? (i := 11) rfl)
theorem tw12 {a0 : Array Value} {Z : State} (hw : ∀ d ∈ tables_1, d.before a0 Z = true) : (Jvm.Cond.laysFinal "com/example/polite_edges/politeedges/Incidences" "com/example/polite_edges/politeedges/Incidences" "sources" "[I").before a0 Z = true := hw _ (List.mem_of_getElem? (i := 12) rfl)
theorem tw13 {a0 : Array Value} {Z : State} (hw : ∀ d ∈ tables_1, d.before a0 Z = true) : (Jvm.Cond.fieldLink "com/example/polite_edges/politeedges/Incidences" (13 : Nat) "com/example/polite_edges/politeedges/Incidences" "targets" "[I").before a0 Z = true := hw _ (List.mem_of_getElem? (i := 13) rfl)
theorem tw14 {a0 : Array Value} {Z : State} (hw : ∀ d ∈ tables_1, d.before a0 Z = true) : (Jvm.Cond.laysFinal "com/example/polite_edges/politeedges/Incidences" "com/example/polite_edges/politeedges/Incidences" "targets" "[I").before a0 Z = true := hw _ (List.mem_of_getElem? (i := 14) rfl)
theorem tw15 {a0 : Array Value} {Z : State} (hw : ∀ d ∈ tables_1, d.before a0 Z = true) : (Jvm.Cond.fieldLink "com/example/polite_edges/politeedges/Incidences" (16 : Nat) "com/example/polite_edges/politeedges/Incidences" "starts" "[I").before a0 Z = true := hw _ (List.mem_of_getElem? (i := 15) rfl)
theorem tw16 {a0 : Array Value} {Z : State} (hw : ∀ d ∈ tables_1, d.before a0 Z = true) : (Jvm.Cond.laysFinal "com/example/polite_edges/politeedges/Incidences" "com/example/polite_edges/politeedges/Incidences" "starts" "[I").before a0 Z = true := hw _ (List.mem_of_getElem? (i := 16) rfl)
theorem tw17 {a0 : Array Value} {Z : State} (hw : ∀ d ∈ tables_1, d.before a0 Z = true) : (Jvm.Cond.fieldLink "com/example/polite_edges/politeedges/Incidences" (19 : Nat) "com/example/polite_edges/politeedges/Incidences" "edges" "[I").before a0 Z = true := hw _ (List.mem_of_getElem? (i := 17) rfl)
theorem tw18 {a0 : Array Value} {Z : State} (hw : ∀ d ∈ tables_1, d.before a0 Z = true) : (Jvm.Cond.laysFinal "com/example/polite_edges/politeedges/Incidences" "com/example/polite_edges/politeedges/Incidences" "edges" "[I").before a0 Z = true := hw _ (List.mem_of_getElem? (i := 18) rfl)
theorem tw19 {a0 : Array Value} {Z : State} (hw : ∀ d ∈ tables_1, d.before a0 Z = true) : (Jvm.Cond.methodLink "com/example/polite_edges/politeedges/IncidencesOtherEndPinLaw" (13 : Nat) ({ cls := "com/example/polite_edges/politeedges/Incidences", name := "otherEnd", desc := "(II)I" } : Jvm.MethodName)).before a0 Z = true := hw _ (List.mem_of_getElem? (i := 19) rfl)
theorem tw20 {a0 : Array Value} {Z : State} (hw : ∀ d ∈ tables_1, d.before a0 Z = true) : (Jvm.Cond.declares ({ cls := "com/example/polite_edges/politeedges/Incidences", name := "otherEnd", desc := "(II)I" } : Jvm.MethodName)).before a0 Z = true := hw _ (List.mem_of_getElem? (i := 20) rfl)
theorem tw21 {a0 : Array Value} {Z : State} (hw : ∀ d ∈ tables_1, d.before a0 Z = true) : (Jvm.Cond.instanceMethod ({ cls := "com/example/polite_edges/politeedges/Incidences", name := "otherEnd", desc := "(II)I" } : Jvm.MethodName)).before a0 Z = true := hw _ (List.mem_of_getElem? (i := 21) rfl)
theorem tw22 {a0 : Array Value} {Z : State} (hw : ∀ d ∈ tables_1, d.before a0 Z = true) : (Jvm.Cond.selects "com/example/polite_edges/politeedges/Incidences" ({ cls := "com/example/polite_edges/politeedges/Incidences", name := "otherEnd", desc := "(II)I" } : Jvm.MethodName) ({ cls := "com/example/polite_edges/politeedges/Incidences", name := "otherEnd", desc := "(II)I" } : Jvm.MethodName)).before a0 Z = true := hw _ (List.mem_of_getElem? (i := 22) rfl)
theorem tw23 {a0 : Array Value} {Z : State} (hw : ∀ d ∈ tables_1, d.before a0 Z = true) : (Jvm.Cond.code ({ cls := "com/example/polite_edges/politeedges/Incidences", name := "otherEnd", desc := "(II)I" } : Jvm.MethodName) prog_12_method_3_code (3 : Nat) (Option.some Jvm.ClassFile.FieldType.int)).before a0 Z = true := hw _ (List.mem_of_getElem? (i := 23) rfl)
def two (x y : Int32) : Nat → Value
  | 0 => .int x
  | _ + 1 => .int y
def cE : List Nat → Nat → Nat
  | [], _ => 0
  | x :: r, i => (if x + 1 = i then 1 else 0) + cE r i
def cL : List Nat → Nat → Nat
  | [], _ => 0
  | x :: r, i => (if x < i then 1 else 0) + cL r i
def cF : List Nat → Nat → Nat
  | [], _ => 0
  | x :: r, i => (if x = i then 1 else 0) + cF r i
theorem own_ti {n : Nat} (h : n < 2 ^ 31) : (Nat.toInt32 n).toInt = n := len_toInt h
theorem own_add (a b : Nat) : Nat.toInt32 a + Nat.toInt32 b = Nat.toInt32 (a + b) := (Int32.ofNat_add a b).symm
theorem own_t1 (a : Nat) : Nat.toInt32 a + (1 : Int32) = Nat.toInt32 (a + 1) := own_add a 1
theorem own_updE (r : List Nat) (x i : Nat) : upd (fun i => Value.int (Nat.toInt32 (cE r i))) (x + 1) (.int (Nat.toInt32 (cE r (x + 1)) + (1 : Int32))) i = .int (Nat.toInt32 (cE (x :: r) i)) := by
  by_cases h : i = x + 1
  · subst h; simp only [upd, if_true, cE]; rw [own_t1, Nat.add_comm 1]
  · simp only [upd, h, if_false, cE]; rw [if_neg (fun q => h q.symm), Nat.zero_add]
theorem own_updF (r : List Nat) (x i : Nat) : upd (fun i => Value.int (Nat.toInt32 (cF r i))) x (.int (Nat.toInt32 (cF r x) + (1 : Int32))) i = .int (Nat.toInt32 (cF (x :: r) i)) := by
  by_cases h : i = x
  · subst h; simp only [upd, if_true, cF]; rw [own_t1, Nat.add_comm 1]
  · simp only [upd, h, if_false, cF]; rw [if_neg (fun q => h q.symm), Nat.zero_add]
theorem own_c0 : ∀ r : List Nat, cL r 0 = cE r 0
  | [] => rfl
  | x :: r => by simp [cL, cE, own_c0 r]
theorem own_cs (k : Nat) : ∀ r : List Nat, cE r (k + 1) + cL r k = cL r (k + 1)
  | [] => rfl
  | x :: r => by
    have ih := own_cs k r
    simp only [cE, cL]
    split <;> split <;> split <;> omega
theorem own_lf (x v : Nat) : (if x < v then 1 else 0) + (if x = v then 1 else 0) ≤ 1 := by split <;> split <;> omega
theorem own_l1 (x v : Nat) : (if x < v then 1 else 0) ≤ 1 := by split <;> omega
def mid (r : List Nat) (k i : Nat) : Value := .int (Nat.toInt32 (if i ≤ k then cL r i else cE r i))
theorem own_midU (r : List Nat) (k i : Nat) : upd (mid r k) (k + 1) (.int (Nat.toInt32 (cE r (k + 1)) + Nat.toInt32 (cL r k))) i = mid r (k + 1) i := by
  by_cases h : i = k + 1
  · subst h; simp only [upd, if_true, mid, Nat.le_refl]; rw [own_add, own_cs]
  · simp only [upd, h, if_false, mid]
    by_cases q : i ≤ k
    · rw [if_pos q, if_pos (by omega)]
    · rw [if_neg q, if_neg (by omega)]
theorem own_midE (r : List Nat) (k : Nat) : mid r k (k + 1) = .int (Nat.toInt32 (cE r (k + 1))) := by simp only [mid]; rw [if_neg (by omega)]
theorem own_midL (r : List Nat) (k : Nat) : mid r k k = .int (Nat.toInt32 (cL r k)) := by simp only [mid]; rw [if_pos (Nat.le_refl _)]
theorem own_i1 {x : Int32} {n : Nat} (h : x.toInt = n) (q : n < 100) : (x + (1 : Int32)).toInt = ((n + 1 : Nat) : Int) := by
  have := c_iadd x 1; have := rng32 (x + 1); have e : (1 : Int32).toInt = 1 := rfl; omega
theorem own_b_s0 (s0 t0 s1 t1 : Nat) : cL [t1, s1, t0, s0] s0 + cF [] s0 < 4 := by
  have := own_lf t0 s0
  have := own_l1 t0 s0
  have := own_lf s1 s0
  have := own_l1 s1 s0
  have := own_lf t1 s0
  have := own_l1 t1 s0
  simp only [cL, cF, Nat.lt_irrefl, if_false]
  omega
theorem own_b_t0 (s0 t0 s1 t1 : Nat) : cL [t1, s1, t0, s0] t0 + cF [s0] t0 < 4 := by
  have := own_lf s0 t0
  have := own_l1 s0 t0
  have := own_lf s1 t0
  have := own_l1 s1 t0
  have := own_lf t1 t0
  have := own_l1 t1 t0
  simp only [cL, cF, Nat.lt_irrefl, if_false]
  omega
theorem own_b_s1 (s0 t0 s1 t1 : Nat) : cL [t1, s1, t0, s0] s1 + cF [t0, s0] s1 < 4 := by
  have := own_lf s0 s1
  have := own_l1 s0 s1
  have := own_lf t0 s1
  have := own_l1 t0 s1
  have := own_lf t1 s1
  have := own_l1 t1 s1
  simp only [cL, cF, Nat.lt_irrefl, if_false]
  omega
theorem own_b_t1 (s0 t0 s1 t1 : Nat) : cL [t1, s1, t0, s0] t1 + cF [s1, t0, s0] t1 < 4 := by
  have := own_lf s0 t1
  have := own_l1 s0 t1
  have := own_lf t0 t1
  have := own_l1 t0 t1
  have := own_lf s1 t1
  have := own_l1 s1 t1
  simp only [cL, cF, Nat.lt_irrefl, if_false]
  omega
theorem own_idx {a b : Nat} (h : a + b < 100) : (Nat.toInt32 a + Nat.toInt32 b).toInt = ((a + b : Nat) : Int) := by rw [own_add, own_ti (by omega)]
theorem ef_rm3 (m : MethodId) (x0 : Addr) (x1 : Int32) (x2 : Int32) : entryFrame m #[(.ref x0), (.int x1), (.int x2)] 3 = mkF m 0 #[.val (.ref x0), .val (.int x1), .val (.int x2)] [] := by first | (simp [entryFrame, mkF, argsToLocals, Value.category]; done) | rfl
theorem pn_rm3 : plainName "com/example/polite_edges/politeedges/Incidences" = true := by first | (simp [plainName, overriddenIn]; done) | decide +kernel
def Q_rm3 (Z : State) (a1 : Addr) (p2 : Int32) (p3 : Int32) (sa ta : Addr) (x0 x1 y0 y1 xs yt : Int32) (i : Nat) (h0 : Heap) (n0 : Nat) (v : Option Value) (h : Heap) (L : List Loc) : Prop := v = some (.int (if xs = p3 then yt else xs)) ∧ Fr n0 L ∧ h = h0
set_option maxRecDepth 65536 in
set_option maxHeartbeats 40000000 in
theorem rm3 (l : Launch) (Z : State) (a0 : Array Value) (hw : ∀ d ∈ tables_1, d.before a0 Z = true) (ws : List Jvm.Cond) (a1 : Addr) (p2 : Int32) (p3 : Int32) (h0 : Heap) (n0 : Nat) (Z0 : n0 ≤ h0.size) (sa ta : Addr) (x0 x1 y0 y1 xs yt : Int32) (i : Nat) (F_s : Fld Z h0 a1 "com/example/polite_edges/politeedges/Incidences" "sources" "[I" (.ref sa)) (F_t : Fld Z h0 a1 "com/example/polite_edges/politeedges/Incidences" "targets" "[I" (.ref ta)) (V_s : Av Z h0 sa .int 2 (two x0 x1)) (V_t : Av Z h0 ta .int 2 (two y0 y1)) (hj : p2.toInt = (i : Int)) (hi : i < 2) (hs : two x0 x1 i = .int xs) (ht : two y0 y1 i = .int yt) :
    MetFree l (⟨"com/example/polite_edges/politeedges/Incidences", "otherEnd", "(II)I"⟩ : MethodName) (head1 (Jvm.Cond.code (⟨"com/example/polite_edges/politeedges/Incidences", "otherEnd", "(II)I"⟩ : MethodName) prog_12_method_3_code 3 (some .int) :: ws) ({ frames := 0, cells := 0, slots := 0, locals := 0 } : Room)) (fun a U => a = #[(.ref a1), (.int p2), (.int p3)] ∧ Z.Warmed39 U.vm ∧ U.heap = h0) (fun _ _ _ _ _ => True) (fun _ U o U' => ∃ v L, o = .returned v ∧ Q_rm3 Z a1 p2 p3 sa ta x0 x1 y0 y1 xs yt i h0 n0 v U'.heap L ∧ FrameEnd U o U' L ({ frames := 0, cells := 0, slots := 0, locals := 0 } : Room).cells ({ frames := 0, cells := 0, slots := 0, locals := 0 } : Room).slots) := by
  refine MetFree.of_bodySF (plainFor_of_name pn_rm3) hisR ?_
  intro p e s m args below meth c s₁ Bd hml0 hP hK
  obtain ⟨rfl, hZ, hh⟩ := hP
  have hx := Bd.exec
  have hby := Bd.bytes
  have hml : c.maxLocals = 3 := hml0
  have hown : s.vm.findClass "com/example/polite_edges/politeedges/Incidences" = some m.cls := findClass_of_methodNamed Bd.named
  have hnm := (name_of_methodNamed Bd.named Bd.method).1
  have X0 : Stand p l e ({ frames := 0, cells := 0, slots := 0, locals := 0 } : Room) s m #[(.ref a1), (.int p2), (.int p3)] below meth c s₁ [] 0 0 := Stand.of_body Bd
  have e0 : s₁.heap = h0 := by rw [← hh, Bd.state]; rfl
  have N0 := Fr.nil n0
  have hlk : meth.locks = false := BodyLoose.notSynchronized Bd
  have hrt := Bd.returns
  have hG := Goes.bk p e below s (fun (v : Option Value) (h : Heap) (L : List Loc) => v = some (.int (if xs = p3 then yt else xs)) ∧ Fr n0 L ∧ h = h0) 0 0
  show Goes p e below s (fun (v : Option Value) (h : Heap) (L : List Loc) => v = some (.int (if xs = p3 then yt else xs)) ∧ Fr n0 L ∧ h = h0) 0 0 s₁ (entryFrame m #[(.ref a1), (.int p2), (.int p3)] 3)
  rw [ef_rm3 m a1 p2 p3]
  refine hG _ s₁ _ (mkF m 1 #[.val (.ref a1), .val (.int p2), .val (.int p3)] [(.ref a1)]) (fun t kq_ => XS.aloadN X0.here hx rfl (hb hby d3_0) rfl rfl kq_) ?_
  obtain ⟨T1, X1, e1, st1⟩ := getF X0 hx hZ hown (host := "") (Or.inl (tw11 hw)) Via.refl e0 F_s (g := (mkF m 1 #[.val (.ref a1), .val (.int p2), .val (.int p3)] [(.ref a1)])) rfl rfl (hb hby d3_1)
  refine hG _ T1 _ (mkF m 4 #[.val (.ref a1), .val (.int p2), .val (.int p3)] [(.ref sa)]) st1 ?_
  refine hG _ T1 _ (mkF m 5 #[.val (.ref a1), .val (.int p2), .val (.int p3)] [(.int p2), (.ref sa)]) (fun t kq_ => XS.iloadN X1.here hx rfl (hb hby d3_4) rfl kq_) ?_
  refine hG _ T1 _ (mkF m 6 #[.val (.ref a1), .val (.int p2), .val (.int p3)] [(two x0 x1 i)]) (Av.ldI X1 hx hZ e1 V_s (j := p2) (i := i) hj hi (g := (mkF m 5 #[.val (.ref a1), .val (.int p2), .val (.int p3)] [(.int p2), (.ref sa)])) rfl rfl (hb hby d3_5)) ?_
  rw [hs]
  refine hG _ T1 _ (mkF m 7 #[.val (.ref a1), .val (.int p2), .val (.int p3)] [(.int p3), (.int xs)]) (fun t kq_ => XS.iloadN X1.here hx rfl (hb hby d3_6) rfl kq_) ?_
  by_cases hc7 : xs = p3
  · refine hG _ T1 _ (mkF m 10 #[.val (.ref a1), .val (.int p2), .val (.int p3)] []) (fun t kq_ => XS.icmpNo X1.here hx rfl (hb hby d3_7) rfl (teq hc7).2 kq_) ?_
    refine hG _ T1 _ (mkF m 11 #[.val (.ref a1), .val (.int p2), .val (.int p3)] [(.ref a1)]) (fun t kq_ => XS.aloadN X1.here hx rfl (hb hby d3_10) rfl rfl kq_) ?_
    obtain ⟨T2, X2, e2, st2⟩ := getF X1 hx hZ hown (host := "") (Or.inl (tw13 hw)) Via.refl e1 F_t (g := (mkF m 11 #[.val (.ref a1), .val (.int p2), .val (.int p3)] [(.ref a1)])) rfl rfl (hb hby d3_11)
    refine hG _ T2 _ (mkF m 14 #[.val (.ref a1), .val (.int p2), .val (.int p3)] [(.ref ta)]) st2 ?_
    refine hG _ T2 _ (mkF m 15 #[.val (.ref a1), .val (.int p2), .val (.int p3)] [(.int p2), (.ref ta)]) (fun t kq_ => XS.iloadN X2.here hx rfl (hb hby d3_14) rfl kq_) ?_
    refine hG _ T2 _ (mkF m 16 #[.val (.ref a1), .val (.int p2), .val (.int p3)] [(two y0 y1 i)]) (Av.ldI X2 hx hZ e2 V_t (j := p2) (i := i) hj hi (g := (mkF m 15 #[.val (.ref a1), .val (.int p2), .val (.int p3)] [(.int p2), (.ref ta)])) rfl rfl (hb hby d3_15)) ?_
    rw [ht]
    refine hG _ T2 _ (mkF m 25 #[.val (.ref a1), .val (.int p2), .val (.int p3)] [(.int yt)]) (fun t kq_ => XS.goto X2.here hx rfl (pc0 := 16) (pc' := 25) rfl (hb hby d3_16) (by decide) (by decide) kq_) ?_
    exact Goes.retI X2 hx hlk hrt (hb hby d3_25) (by decide : 0 ≤ 0) (by decide : 0 ≤ 0) (by (try rw [e2]); exact ⟨by rw [if_pos hc7], N0, rfl⟩)
  · refine hG _ T1 _ (mkF m 19 #[.val (.ref a1), .val (.int p2), .val (.int p3)] []) (fun t kq_ => XS.icmpYes X1.here hx rfl (pc0 := 7) (pc' := 19) rfl (hb hby d3_7) rfl (feq hc7).2 (by decide) (by decide) kq_) ?_
    refine hG _ T1 _ (mkF m 20 #[.val (.ref a1), .val (.int p2), .val (.int p3)] [(.ref a1)]) (fun t kq_ => XS.aloadN X1.here hx rfl (hb hby d3_19) rfl rfl kq_) ?_
    obtain ⟨T3, X3, e3, st3⟩ := getF X1 hx hZ hown (host := "") (Or.inl (tw11 hw)) Via.refl e1 F_s (g := (mkF m 20 #[.val (.ref a1), .val (.int p2), .val (.int p3)] [(.ref a1)])) rfl rfl (hb hby d3_20)
    refine hG _ T3 _ (mkF m 23 #[.val (.ref a1), .val (.int p2), .val (.int p3)] [(.ref sa)]) st3 ?_
    refine hG _ T3 _ (mkF m 24 #[.val (.ref a1), .val (.int p2), .val (.int p3)] [(.int p2), (.ref sa)]) (fun t kq_ => XS.iloadN X3.here hx rfl (hb hby d3_23) rfl kq_) ?_
    refine hG _ T3 _ (mkF m 25 #[.val (.ref a1), .val (.int p2), .val (.int p3)] [(two x0 x1 i)]) (Av.ldI X3 hx hZ e3 V_s (j := p2) (i := i) hj hi (g := (mkF m 24 #[.val (.ref a1), .val (.int p2), .val (.int p3)] [(.int p2), (.ref sa)])) rfl rfl (hb hby d3_24)) ?_
    rw [hs]
    exact Goes.retI X3 hx hlk hrt (hb hby d3_25) (by decide : 0 ≤ 0) (by decide : 0 ≤ 0) (by (try rw [e3]); exact ⟨by rw [if_neg hc7], N0, rfl⟩)
set_option maxRecDepth 65536 in
set_option maxHeartbeats 40000000 in
theorem loop2 {p : Program} {l : Launch} {e : Env} {s : State} {m : MethodId} {args : Array Value} {below : List Frame} {meth : Method} {c : Code} {Z : State} {a0 : Array Value} {n0 : Nat} {G : State → JFrame → Prop} (a1 a3 a4 b1 : Addr) (p2 : Int32) (n : Nat) (r : List Nat) (hx : p.tables.exec = Jvm.exec) (hZ : Z.Warmed39 s.vm) (hw : ∀ d ∈ tables_1, d.before a0 Z = true) (hby : c.code = prog_12_method_1_code) (hml : c.maxLocals = 7) (hown : s.vm.findClass "com/example/polite_edges/politeedges/Incidences" = some m.cls) (hG : Bk p e below G) (hn : p2.toInt = (n : Int)) (h8 : n ≤ 8) (g1 : n0 ≤ b1) (ne1 : a1 ≠ b1) (j : Nat) :
    ∀ (k : Nat) (T0 : State) (h0 : Heap) (locs : List Loc), k + j = n → Stand p l e ({ frames := 1, cells := 3, slots := 21, locals := 20 } : Room) s m args below meth c T0 locs 1 9 → T0.heap = h0 → n0 ≤ h0.size → Fr n0 locs → Fld Z h0 a1 "com/example/polite_edges/politeedges/Incidences" "starts" "[I" (.ref b1) → Av Z h0 b1 .int (n + 1) (mid r k) → (∀ (T' : State) (h' : Heap) (locs' : List Loc), Stand p l e ({ frames := 1, cells := 3, slots := 21, locals := 20 } : Room) s m args below meth c T' locs' 1 9 → T'.heap = h' → n0 ≤ h'.size → Fr n0 locs' → Keep h0 h' [b1] → Av Z h' b1 .int (n + 1) (mid r n) → G T' (mkF m 107 #[.val (.ref a1), .val (.int p2), .val (.ref a3), .val (.ref a4), .val (.int (Nat.toInt32 2)), .val (.int (Nat.toInt32 n)), .unset] [])) → G T0 (mkF m 76 #[.val (.ref a1), .val (.int p2), .val (.ref a3), .val (.ref a4), .val (.int (Nat.toInt32 2)), .val (.int (Nat.toInt32 k)), .unset] []) := by
  induction j with
  | zero =>
    intro k T0 h0 locs hk X0 e0 Z0 N0 F1 V1 kont
    obtain rfl : k = n := hk
    refine hG _ T0 _ (mkF m 78 #[.val (.ref a1), .val (.int p2), .val (.ref a3), .val (.ref a4), .val (.int (Nat.toInt32 2)), .val (.int (Nat.toInt32 k)), .unset] [(.int (Nat.toInt32 k))]) (fun t kq_ => XS.iload X0.here hx rfl (hb hby d1_76) rfl kq_) ?_
    refine hG _ T0 _ (mkF m 79 #[.val (.ref a1), .val (.int p2), .val (.ref a3), .val (.ref a4), .val (.int (Nat.toInt32 2)), .val (.int (Nat.toInt32 k)), .unset] [(.int p2), (.int (Nat.toInt32 k))]) (fun t kq_ => XS.iloadN X0.here hx rfl (hb hby d1_78) rfl kq_) ?_
    refine hG _ T0 _ (mkF m 107 #[.val (.ref a1), .val (.int p2), .val (.ref a3), .val (.ref a4), .val (.int (Nat.toInt32 2)), .val (.int (Nat.toInt32 k)), .unset] []) (fun t kq_ => XS.icmpYes X0.here hx rfl (pc0 := 79) (pc' := 107) rfl (hb hby d1_79) rfl (flt (by rw [Int32.lt_iff_toInt_lt, own_ti (by omega), hn]; omega)).2.1 (by decide) (by decide) kq_) ?_
    exact kont _ _ _ X0 e0 Z0 N0 (Keep.refl _ _) V1
  | succ j ih =>
    intro k T0 h0 locs hk X0 e0 Z0 N0 F1 V1 kont
    have K0 : Keep h0 h0 [b1] := Keep.refl _ _
    refine hG _ T0 _ (mkF m 78 #[.val (.ref a1), .val (.int p2), .val (.ref a3), .val (.ref a4), .val (.int (Nat.toInt32 2)), .val (.int (Nat.toInt32 k)), .unset] [(.int (Nat.toInt32 k))]) (fun t kq_ => XS.iload X0.here hx rfl (hb hby d1_76) rfl kq_) ?_
    refine hG _ T0 _ (mkF m 79 #[.val (.ref a1), .val (.int p2), .val (.ref a3), .val (.ref a4), .val (.int (Nat.toInt32 2)), .val (.int (Nat.toInt32 k)), .unset] [(.int p2), (.int (Nat.toInt32 k))]) (fun t kq_ => XS.iloadN X0.here hx rfl (hb hby d1_78) rfl kq_) ?_
    refine hG _ T0 _ (mkF m 82 #[.val (.ref a1), .val (.int p2), .val (.ref a3), .val (.ref a4), .val (.int (Nat.toInt32 2)), .val (.int (Nat.toInt32 k)), .unset] []) (fun t kq_ => XS.icmpNo X0.here hx rfl (hb hby d1_79) rfl (tlt (by rw [Int32.lt_iff_toInt_lt, own_ti (by omega), hn]; omega)).2.1 kq_) ?_
    refine hG _ T0 _ (mkF m 83 #[.val (.ref a1), .val (.int p2), .val (.ref a3), .val (.ref a4), .val (.int (Nat.toInt32 2)), .val (.int (Nat.toInt32 k)), .unset] [(.ref a1)]) (fun t kq_ => XS.aloadN X0.here hx rfl (hb hby d1_82) rfl rfl kq_) ?_
    obtain ⟨T4, X4, e4, st4⟩ := getF X0 hx hZ hown (host := "") (Or.inl (tw15 hw)) Via.refl e0 F1 (g := (mkF m 83 #[.val (.ref a1), .val (.int p2), .val (.ref a3), .val (.ref a4), .val (.int (Nat.toInt32 2)), .val (.int (Nat.toInt32 k)), .unset] [(.ref a1)])) rfl rfl (hb hby d1_83)
    refine hG _ T4 _ (mkF m 86 #[.val (.ref a1), .val (.int p2), .val (.ref a3), .val (.ref a4), .val (.int (Nat.toInt32 2)), .val (.int (Nat.toInt32 k)), .unset] [(.ref b1)]) st4 ?_
    refine hG _ T4 _ (mkF m 88 #[.val (.ref a1), .val (.int p2), .val (.ref a3), .val (.ref a4), .val (.int (Nat.toInt32 2)), .val (.int (Nat.toInt32 k)), .unset] [(.int (Nat.toInt32 k)), (.ref b1)]) (fun t kq_ => XS.iload X4.here hx rfl (hb hby d1_86) rfl kq_) ?_
    refine hG _ T4 _ (mkF m 89 #[.val (.ref a1), .val (.int p2), .val (.ref a3), .val (.ref a4), .val (.int (Nat.toInt32 2)), .val (.int (Nat.toInt32 k)), .unset] [(.int (1 : Int32)), (.int (Nat.toInt32 k)), (.ref b1)]) (fun t kq_ => XS.iconst X4.here hx rfl (hb hby d1_88) kq_) ?_
    refine hG _ T4 _ (mkF m 90 #[.val (.ref a1), .val (.int p2), .val (.ref a3), .val (.ref a4), .val (.int (Nat.toInt32 2)), .val (.int (Nat.toInt32 k)), .unset] [(.int ((Nat.toInt32 k) + (1 : Int32))), (.ref b1)]) (fun t kq_ => XS.iadd X4.here hx rfl (hb hby d1_89) rfl kq_) ?_
    refine hG _ T4 _ (mkF m 91 #[.val (.ref a1), .val (.int p2), .val (.ref a3), .val (.ref a4), .val (.int (Nat.toInt32 2)), .val (.int (Nat.toInt32 k)), .unset] [(.int ((Nat.toInt32 k) + (1 : Int32))), (.ref b1), (.int ((Nat.toInt32 k) + (1 : Int32))), (.ref b1)]) (fun t kq_ => Jvm.Free.XT.dup2 X4.here hx rfl (hb hby d1_90) rfl rfl rfl kq_) ?_
    have hj1 : (Nat.toInt32 k + (1 : Int32)).toInt = ((k + 1 : Nat) : Int) := own_i1 (own_ti (by omega)) (by omega)
    refine hG _ T4 _ (mkF m 92 #[.val (.ref a1), .val (.int p2), .val (.ref a3), .val (.ref a4), .val (.int (Nat.toInt32 2)), .val (.int (Nat.toInt32 k)), .unset] [(mid r k (k + 1)), (.int ((Nat.toInt32 k) + (1 : Int32))), (.ref b1)]) (Av.ldI X4 hx hZ e4 V1 (j := ((Nat.toInt32 k) + (1 : Int32))) (i := (k + 1)) hj1 (by omega) (g := (mkF m 91 #[.val (.ref a1), .val (.int p2), .val (.ref a3), .val (.ref a4), .val (.int (Nat.toInt32 2)), .val (.int (Nat.toInt32 k)), .unset] [(.int ((Nat.toInt32 k) + (1 : Int32))), (.ref b1), (.int ((Nat.toInt32 k) + (1 : Int32))), (.ref b1)])) rfl rfl (hb hby d1_91)) ?_
    rw [own_midE]
    refine hG _ T4 _ (mkF m 93 #[.val (.ref a1), .val (.int p2), .val (.ref a3), .val (.ref a4), .val (.int (Nat.toInt32 2)), .val (.int (Nat.toInt32 k)), .unset] [(.ref a1), (.int (Nat.toInt32 (cE r (k + 1)))), (.int ((Nat.toInt32 k) + (1 : Int32))), (.ref b1)]) (fun t kq_ => XS.aloadN X4.here hx rfl (hb hby d1_92) rfl rfl kq_) ?_
    obtain ⟨T5, X5, e5, st5⟩ := getF X4 hx hZ hown (host := "") (Or.inl (tw15 hw)) Via.refl e4 F1 (g := (mkF m 93 #[.val (.ref a1), .val (.int p2), .val (.ref a3), .val (.ref a4), .val (.int (Nat.toInt32 2)), .val (.int (Nat.toInt32 k)), .unset] [(.ref a1), (.int (Nat.toInt32 (cE r (k + 1)))), (.int ((Nat.toInt32 k) + (1 : Int32))), (.ref b1)])) rfl rfl (hb hby d1_93)
    refine hG _ T5 _ (mkF m 96 #[.val (.ref a1), .val (.int p2), .val (.ref a3), .val (.ref a4), .val (.int (Nat.toInt32 2)), .val (.int (Nat.toInt32 k)), .unset] [(.ref b1), (.int (Nat.toInt32 (cE r (k + 1)))), (.int ((Nat.toInt32 k) + (1 : Int32))), (.ref b1)]) st5 ?_
    refine hG _ T5 _ (mkF m 98 #[.val (.ref a1), .val (.int p2), .val (.ref a3), .val (.ref a4), .val (.int (Nat.toInt32 2)), .val (.int (Nat.toInt32 k)), .unset] [(.int (Nat.toInt32 k)), (.ref b1), (.int (Nat.toInt32 (cE r (k + 1)))), (.int ((Nat.toInt32 k) + (1 : Int32))), (.ref b1)]) (fun t kq_ => XS.iload X5.here hx rfl (hb hby d1_96) rfl kq_) ?_
    refine hG _ T5 _ (mkF m 99 #[.val (.ref a1), .val (.int p2), .val (.ref a3), .val (.ref a4), .val (.int (Nat.toInt32 2)), .val (.int (Nat.toInt32 k)), .unset] [(mid r k k), (.int (Nat.toInt32 (cE r (k + 1)))), (.int ((Nat.toInt32 k) + (1 : Int32))), (.ref b1)]) (Av.ldI X5 hx hZ e5 V1 (j := (Nat.toInt32 k)) (i := k) (own_ti (by omega)) (by omega) (g := (mkF m 98 #[.val (.ref a1), .val (.int p2), .val (.ref a3), .val (.ref a4), .val (.int (Nat.toInt32 2)), .val (.int (Nat.toInt32 k)), .unset] [(.int (Nat.toInt32 k)), (.ref b1), (.int (Nat.toInt32 (cE r (k + 1)))), (.int ((Nat.toInt32 k) + (1 : Int32))), (.ref b1)])) rfl rfl (hb hby d1_98)) ?_
    rw [own_midL]
    refine hG _ T5 _ (mkF m 100 #[.val (.ref a1), .val (.int p2), .val (.ref a3), .val (.ref a4), .val (.int (Nat.toInt32 2)), .val (.int (Nat.toInt32 k)), .unset] [(.int ((Nat.toInt32 (cE r (k + 1))) + (Nat.toInt32 (cL r k)))), (.int ((Nat.toInt32 k) + (1 : Int32))), (.ref b1)]) (fun t kq_ => XS.iadd X5.here hx rfl (hb hby d1_99) rfl kq_) ?_
    obtain ⟨T6, h6, X6, e6, W6, V6, st6⟩ := Av.stI X5 hx hZ e5 V1 (j := ((Nat.toInt32 k) + (1 : Int32))) (i := (k + 1)) hj1 (by omega) (g := (mkF m 100 #[.val (.ref a1), .val (.int p2), .val (.ref a3), .val (.ref a4), .val (.int (Nat.toInt32 2)), .val (.int (Nat.toInt32 k)), .unset] [(.int ((Nat.toInt32 (cE r (k + 1))) + (Nat.toInt32 (cL r k)))), (.int ((Nat.toInt32 k) + (1 : Int32))), (.ref b1)])) rfl rfl (hb hby d1_100)
    have V6' : Av Z h6 b1 .int (n + 1) (mid r (k + 1)) := V6.cong (fun i _ => own_midU r k i)
    have Zs7 : n0 ≤ h6.size := Nat.le_trans Z0 (Keep.of_wr W6).1
    have KK8 : Keep h0 h6 [b1] := K0.wr W6 (Or.inl (List.mem_of_getElem? (i := 0) rfl))
    have N6 := Fr.snoc X6 N0 g1
    refine hG _ T6 _ (mkF m 101 #[.val (.ref a1), .val (.int p2), .val (.ref a3), .val (.ref a4), .val (.int (Nat.toInt32 2)), .val (.int (Nat.toInt32 k)), .unset] []) st6 ?_
    refine hG _ T6 _ (mkF m 104 #[.val (.ref a1), .val (.int p2), .val (.ref a3), .val (.ref a4), .val (.int (Nat.toInt32 2)), .val (.int ((Nat.toInt32 k) + (1 : Int32))), .unset] []) (fun t kq_ => XS.iinc X6.here hx rfl (hb hby d1_101) rfl (l' := #[.val (.ref a1), .val (.int p2), .val (.ref a3), .val (.ref a4), .val (.int (Nat.toInt32 2)), .val (.int ((Nat.toInt32 k) + (1 : Int32))), .unset]) rfl kq_) ?_
    refine hG _ T6 _ (mkF m 76 #[.val (.ref a1), .val (.int p2), .val (.ref a3), .val (.ref a4), .val (.int (Nat.toInt32 2)), .val (.int ((Nat.toInt32 k) + (1 : Int32))), .unset] []) (fun t kq_ => XS.goto X6.here hx rfl (pc0 := 104) (pc' := 76) rfl (hb hby d1_104) (by decide) (by decide) kq_) ?_
    rw [own_t1]
    have F1'9 : Fld Z h6 a1 "com/example/polite_edges/politeedges/Incidences" "starts" "[I" (.ref b1) := (F1.other W6 (Or.inl ne1))
    refine ih (k + 1) _ _ _ (by omega) X6 e6 Zs7 N6 F1'9 V6' (fun T' h' locs' q1 q2 q3 q4 q5 q6 => kont T' h' locs' q1 q2 q3 q4 (KK8.trans q5 (allS (P := fun x => x ∈ [b1] ∨ h0.size ≤ x) (Or.inl (List.mem_of_getElem? (i := 0) rfl)) all0)) q6)
theorem own_mid0 (r : List Nat) (i : Nat) : Value.int (Nat.toInt32 (cE r i)) = mid r 0 i := by
  by_cases h : i = 0
  · subst h; simp only [mid, Nat.le_refl, if_true, own_c0]
  · simp only [mid]; rw [if_neg (by omega)]
theorem ef_rm1 (m : MethodId) (x0 : Addr) (x1 : Int32) (x2 : Addr) (x3 : Addr) : entryFrame m #[(.ref x0), (.int x1), (.ref x2), (.ref x3)] 7 = mkF m 0 #[.val (.ref x0), .val (.int x1), .val (.ref x2), .val (.ref x3), .unset, .unset, .unset] [] := by first | (simp [entryFrame, mkF, argsToLocals, Value.category]; done) | rfl
theorem pn_rm1 : plainName "com/example/polite_edges/politeedges/Incidences" = true := by first | (simp [plainName, overriddenIn]; done) | decide +kernel
def Q_rm1 (Z : State) (a1 : Addr) (p2 : Int32) (a3 : Addr) (a4 : Addr) (u_sources u_targets u_starts u_edges : Value) (x0 x1 y0 y1 : Int32) (n s0 s1 t0 t1 : Nat) (h0 : Heap) (n0 : Nat) (v : Option Value) (h : Heap) (L : List Loc) : Prop := v = none ∧ Fr n0 L ∧ Keep h0 h [a1] ∧ Fld Z h a1 "com/example/polite_edges/politeedges/Incidences" "sources" "[I" (.ref a3) ∧ Fld Z h a1 "com/example/polite_edges/politeedges/Incidences" "targets" "[I" (.ref a4)
set_option maxRecDepth 65536 in
set_option maxHeartbeats 40000000 in
theorem rm1 (l : Launch) (Z : State) (a0 : Array Value) (hw : ∀ d ∈ tables_1, d.before a0 Z = true) (ws : List Jvm.Cond) (a1 : Addr) (p2 : Int32) (a3 : Addr) (a4 : Addr) (h0 : Heap) (n0 : Nat) (Z0 : n0 ≤ h0.size) (u_sources u_targets u_starts u_edges : Value) (x0 x1 y0 y1 : Int32) (n s0 s1 t0 t1 : Nat) (E1 : Exa Z h0 a1 "com/example/polite_edges/politeedges/Incidences") (g1 : n0 ≤ a1) (F_sources : Fld Z h0 a1 "com/example/polite_edges/politeedges/Incidences" "sources" "[I" u_sources) (F_targets : Fld Z h0 a1 "com/example/polite_edges/politeedges/Incidences" "targets" "[I" u_targets) (F_starts : Fld Z h0 a1 "com/example/polite_edges/politeedges/Incidences" "starts" "[I" u_starts) (F_edges : Fld Z h0 a1 "com/example/polite_edges/politeedges/Incidences" "edges" "[I" u_edges) (V_s : Av Z h0 a3 .int 2 (two x0 x1)) (V_t : Av Z h0 a4 .int 2 (two y0 y1)) (ne3 : a3 ≠ a1) (ne4 : a4 ≠ a1) (hn : p2.toInt = (n : Int)) (hn1 : 1 ≤ n) (h8 : n ≤ 8) (hx0 : x0.toInt = (s0 : Int)) (hx1 : x1.toInt = (s1 : Int)) (hy0 : y0.toInt = (t0 : Int)) (hy1 : y1.toInt = (t1 : Int)) (ls0 : s0 < n) (ls1 : s1 < n) (lt0 : t0 < n) (lt1 : t1 < n) :
    MetFree l (⟨"com/example/polite_edges/politeedges/Incidences", "<init>", "(I[I[I)V"⟩ : MethodName) (head1 (Jvm.Cond.code (⟨"com/example/polite_edges/politeedges/Incidences", "<init>", "(I[I[I)V"⟩ : MethodName) prog_12_method_1_code 7 none :: ws) ({ frames := 1, cells := 3, slots := 21, locals := 20 } : Room)) (fun a U => a = #[(.ref a1), (.int p2), (.ref a3), (.ref a4)] ∧ Z.Warmed39 U.vm ∧ U.heap = h0) (fun _ _ _ _ _ => True) (fun _ U o U' => ∃ v L, o = .returned v ∧ Q_rm1 Z a1 p2 a3 a4 u_sources u_targets u_starts u_edges x0 x1 y0 y1 n s0 s1 t0 t1 h0 n0 v U'.heap L ∧ FrameEnd U o U' L ({ frames := 1, cells := 3, slots := 21, locals := 20 } : Room).cells ({ frames := 1, cells := 3, slots := 21, locals := 20 } : Room).slots) := by
  refine MetFree.of_bodySF (plainFor_of_name pn_rm1) hisR ?_
  intro p e s m args below meth c s₁ Bd hml0 hP hK
  obtain ⟨rfl, hZ, hh⟩ := hP
  have hx := Bd.exec
  have hby := Bd.bytes
  have hml : c.maxLocals = 7 := hml0
  have hown : s.vm.findClass "com/example/polite_edges/politeedges/Incidences" = some m.cls := findClass_of_methodNamed Bd.named
  have hnm := (name_of_methodNamed Bd.named Bd.method).1
  have X0 : Stand p l e ({ frames := 1, cells := 3, slots := 21, locals := 20 } : Room) s m #[(.ref a1), (.int p2), (.ref a3), (.ref a4)] below meth c s₁ [] 0 0 := Stand.of_body Bd
  have e0 : s₁.heap = h0 := by rw [← hh, Bd.state]; rfl
  have N0 := Fr.nil n0
  have hlk : meth.locks = false := BodyLoose.notSynchronized Bd
  have hrt := Bd.returns
  have hG := Goes.bk p e below s (fun (v : Option Value) (h : Heap) (L : List Loc) => v = none ∧ Fr n0 L ∧ Keep h0 h [a1] ∧ Fld Z h a1 "com/example/polite_edges/politeedges/Incidences" "sources" "[I" (.ref a3) ∧ Fld Z h a1 "com/example/polite_edges/politeedges/Incidences" "targets" "[I" (.ref a4)) 3 21
  show Goes p e below s (fun (v : Option Value) (h : Heap) (L : List Loc) => v = none ∧ Fr n0 L ∧ Keep h0 h [a1] ∧ Fld Z h a1 "com/example/polite_edges/politeedges/Incidences" "sources" "[I" (.ref a3) ∧ Fld Z h a1 "com/example/polite_edges/politeedges/Incidences" "targets" "[I" (.ref a4)) 3 21 s₁ (entryFrame m #[(.ref a1), (.int p2), (.ref a3), (.ref a4)] 7)
  rw [ef_rm1 m a1 p2 a3 a4]
  have K0 : Keep h0 h0 [a1] := Keep.refl h0 [a1]
  refine hG _ s₁ _ (mkF m 1 #[.val (.ref a1), .val (.int p2), .val (.ref a3), .val (.ref a4), .unset, .unset, .unset] [(.ref a1)]) (fun t kq_ => XS.aloadN X0.here hx rfl (hb hby d1_0) rfl rfl kq_) ?_
  obtain ⟨T10, X10, e10, st10⟩ := initO X0 hx hZ hown (tw8 hw) (tw9 hw) (tw10 hw) e0 (g := (mkF m 1 #[.val (.ref a1), .val (.int p2), .val (.ref a3), .val (.ref a4), .unset, .unset, .unset] [(.ref a1)])) rfl (by rw [hml]; rfl) rfl (hb hby d1_1) (by decide) (W := 0) (by show 2 * 0 + _ ≤ _; exact Nat.le_of_eq rfl) (by decide)
  refine hG _ T10 _ (mkF m 4 #[.val (.ref a1), .val (.int p2), .val (.ref a3), .val (.ref a4), .unset, .unset, .unset] []) st10 ?_
  refine hG _ T10 _ (mkF m 5 #[.val (.ref a1), .val (.int p2), .val (.ref a3), .val (.ref a4), .unset, .unset, .unset] [(.ref a3)]) (fun t kq_ => XS.aloadN X10.here hx rfl (hb hby d1_4) rfl rfl kq_) ?_
  refine hG _ T10 _ (mkF m 6 #[.val (.ref a1), .val (.int p2), .val (.ref a3), .val (.ref a4), .unset, .unset, .unset] [(.int (Nat.toInt32 2))]) (Av.len X10 hx hZ e10 V_s (g := (mkF m 5 #[.val (.ref a1), .val (.int p2), .val (.ref a3), .val (.ref a4), .unset, .unset, .unset] [(.ref a3)])) rfl rfl (hb hby d1_5)) ?_
  refine hG _ T10 _ (mkF m 8 #[.val (.ref a1), .val (.int p2), .val (.ref a3), .val (.ref a4), .val (.int (Nat.toInt32 2)), .unset, .unset] []) (fun t kq_ => XS.istore X10.here hx rfl (hb hby d1_6) rfl (l' := #[.val (.ref a1), .val (.int p2), .val (.ref a3), .val (.ref a4), .val (.int (Nat.toInt32 2)), .unset, .unset]) rfl kq_) ?_
  refine hG _ T10 _ (mkF m 9 #[.val (.ref a1), .val (.int p2), .val (.ref a3), .val (.ref a4), .val (.int (Nat.toInt32 2)), .unset, .unset] [(.ref a1)]) (fun t kq_ => XS.aloadN X10.here hx rfl (hb hby d1_8) rfl rfl kq_) ?_
  refine hG _ T10 _ (mkF m 10 #[.val (.ref a1), .val (.int p2), .val (.ref a3), .val (.ref a4), .val (.int (Nat.toInt32 2)), .unset, .unset] [(.ref a3), (.ref a1)]) (fun t kq_ => XS.aloadN X10.here hx rfl (hb hby d1_9) rfl rfl kq_) ?_
  obtain ⟨T11, h11, X11, e11, W11, st11⟩ := putF X10 hx hZ hown (host := "") (Or.inl (tw11 hw)) Via.refl e10 F_sources E1 (Or.inr ⟨(tw12 hw), rfl, hnm⟩) (tw3 hw) (ty := (.array .int)) (by decide) rfl rfl (g := (mkF m 10 #[.val (.ref a1), .val (.int p2), .val (.ref a3), .val (.ref a4), .val (.int (Nat.toInt32 2)), .unset, .unset] [(.ref a3), (.ref a1)])) rfl rfl (hb hby d1_10)
  have F_sources_a1_11 : Fld Z h11 a1 "com/example/polite_edges/politeedges/Incidences" "sources" "[I" (.ref a3) := F_sources.same W11
  have Zs12 : n0 ≤ h11.size := Nat.le_trans Z0 (Keep.of_wr W11).1
  have KK13 : Keep h0 h11 [a1] := K0.wr W11 (Or.inl (List.mem_of_getElem? (i := 0) rfl))
  have N11 := Fr.snoc X11 N0 g1
  refine hG _ T11 _ (mkF m 13 #[.val (.ref a1), .val (.int p2), .val (.ref a3), .val (.ref a4), .val (.int (Nat.toInt32 2)), .unset, .unset] []) st11 ?_
  refine hG _ T11 _ (mkF m 14 #[.val (.ref a1), .val (.int p2), .val (.ref a3), .val (.ref a4), .val (.int (Nat.toInt32 2)), .unset, .unset] [(.ref a1)]) (fun t kq_ => XS.aloadN X11.here hx rfl (hb hby d1_13) rfl rfl kq_) ?_
  refine hG _ T11 _ (mkF m 15 #[.val (.ref a1), .val (.int p2), .val (.ref a3), .val (.ref a4), .val (.int (Nat.toInt32 2)), .unset, .unset] [(.ref a4), (.ref a1)]) (fun t kq_ => XS.aloadN X11.here hx rfl (hb hby d1_14) rfl rfl kq_) ?_
  have F_targets'14 : Fld Z h11 a1 "com/example/polite_edges/politeedges/Incidences" "targets" "[I" u_targets := (F_targets.other W11 (Or.inr (slot_ne (Or.inr (tw14 hw)) (Or.inr (tw12 hw)) (by decide) (t := (.array .int)) (t' := (.array .int)) (by decide) (by decide))))
  have E1'15 : Exa Z h11 a1 "com/example/polite_edges/politeedges/Incidences" := (E1.wr W11)
  obtain ⟨T16, h16, X16, e16, W16, st16⟩ := putF X11 hx hZ hown (host := "") (Or.inl (tw13 hw)) Via.refl e11 F_targets'14 E1'15 (Or.inr ⟨(tw14 hw), rfl, hnm⟩) (tw3 hw) (ty := (.array .int)) (by decide) rfl rfl (g := (mkF m 15 #[.val (.ref a1), .val (.int p2), .val (.ref a3), .val (.ref a4), .val (.int (Nat.toInt32 2)), .unset, .unset] [(.ref a4), (.ref a1)])) rfl rfl (hb hby d1_15)
  have F_targets_a1_16 : Fld Z h16 a1 "com/example/polite_edges/politeedges/Incidences" "targets" "[I" (.ref a4) := F_targets'14.same W16
  have Zs17 : n0 ≤ h16.size := Nat.le_trans Zs12 (Keep.of_wr W16).1
  have KK18 : Keep h0 h16 [a1] := KK13.wr W16 (Or.inl (List.mem_of_getElem? (i := 0) rfl))
  have N16 := Fr.snoc X16 N11 g1
  refine hG _ T16 _ (mkF m 18 #[.val (.ref a1), .val (.int p2), .val (.ref a3), .val (.ref a4), .val (.int (Nat.toInt32 2)), .unset, .unset] []) st16 ?_
  refine hG _ T16 _ (mkF m 19 #[.val (.ref a1), .val (.int p2), .val (.ref a3), .val (.ref a4), .val (.int (Nat.toInt32 2)), .unset, .unset] [(.ref a1)]) (fun t kq_ => XS.aloadN X16.here hx rfl (hb hby d1_18) rfl rfl kq_) ?_
  refine hG _ T16 _ (mkF m 20 #[.val (.ref a1), .val (.int p2), .val (.ref a3), .val (.ref a4), .val (.int (Nat.toInt32 2)), .unset, .unset] [(.int p2), (.ref a1)]) (fun t kq_ => XS.iloadN X16.here hx rfl (hb hby d1_19) rfl kq_) ?_
  refine hG _ T16 _ (mkF m 21 #[.val (.ref a1), .val (.int p2), .val (.ref a3), .val (.ref a4), .val (.int (Nat.toInt32 2)), .unset, .unset] [(.int (1 : Int32)), (.int p2), (.ref a1)]) (fun t kq_ => XS.iconst X16.here hx rfl (hb hby d1_20) kq_) ?_
  refine hG _ T16 _ (mkF m 22 #[.val (.ref a1), .val (.int p2), .val (.ref a3), .val (.ref a4), .val (.int (Nat.toInt32 2)), .unset, .unset] [(.int (p2 + (1 : Int32))), (.ref a1)]) (fun t kq_ => XS.iadd X16.here hx rfl (hb hby d1_21) rfl kq_) ?_
  have hn2 : (p2 + (1 : Int32)).toInt = ((n + 1 : Nat) : Int) := own_i1 hn (by omega)
  have E1'20 : Exa Z h16 a1 "com/example/polite_edges/politeedges/Incidences" := (E1'15.wr W16)
  have V_s'21 : Av Z h16 a3 .int 2 (two x0 x1) := ((V_s.other W11 ne3).other W16 ne3)
  have V_t'22 : Av Z h16 a4 .int 2 (two y0 y1) := ((V_t.other W11 ne4).other W16 ne4)
  have hz19 : (p2 + (1 : Int32)).toInt = (((n + 1) : Nat) : Int) := hn2
  obtain ⟨T19, h19, k19, X19, e19, E19, A19, st19⟩ := newP (aty := .int) X16 hx hZ (tw1 hw) e16 (g := (mkF m 22 #[.val (.ref a1), .val (.int p2), .val (.ref a3), .val (.ref a4), .val (.int (Nat.toInt32 2)), .unset, .unset] [(.int (p2 + (1 : Int32))), (.ref a1)])) rfl (hb hby d1_22) rfl (own_nn hz19) (cap := 9) (by rw [tn_of hz19]; exact (by omega)) (by decide) (by decide) (by decide)
  obtain ⟨b19, g19⟩ : ∃ z, z = h16.size := ⟨_, rfl⟩
  rw [← g19] at A19 st19
  have ne_a1_b19 : a1 ≠ b19 := Nat.ne_of_lt (Nat.lt_of_lt_of_le E1'20.lt (Nat.le_of_eq g19.symm))
  have ne_a3_b19 : a3 ≠ b19 := Nat.ne_of_lt (Nat.lt_of_lt_of_le V_s'21.lt (Nat.le_of_eq g19.symm))
  have ne_a4_b19 : a4 ≠ b19 := Nat.ne_of_lt (Nat.lt_of_lt_of_le V_t'22.lt (Nat.le_of_eq g19.symm))
  have g_b19 : n0 ≤ b19 := Nat.le_trans Zs17 (Nat.le_of_eq g19.symm)
  have sz_b19 : h0.size ≤ b19 := Nat.le_trans KK18.1 (Nat.le_of_eq g19.symm)
  have Zs23 : n0 ≤ h19.size := Nat.le_trans Zs17 E19.1
  have KK24 : Keep h0 h19 [a1] := KK18.ext E19
  have V_b19 : Av Z h19 b19 .int (n + 1) (fun _ => (.int (0 : Int32))) := Av.new A19 hz19
  refine hG _ T19 _ (mkF m 24 #[.val (.ref a1), .val (.int p2), .val (.ref a3), .val (.ref a4), .val (.int (Nat.toInt32 2)), .unset, .unset] [(.ref b19), (.ref a1)]) st19 ?_
  have F_starts'25 : Fld Z h19 a1 "com/example/polite_edges/politeedges/Incidences" "starts" "[I" u_starts := (((F_starts.other W11 (Or.inr (slot_ne (Or.inr (tw16 hw)) (Or.inr (tw12 hw)) (by decide) (t := (.array .int)) (t' := (.array .int)) (by decide) (by decide)))).other W16 (Or.inr (slot_ne (Or.inr (tw16 hw)) (Or.inr (tw14 hw)) (by decide) (t := (.array .int)) (t' := (.array .int)) (by decide) (by decide)))).ext E19)
  have E1'26 : Exa Z h19 a1 "com/example/polite_edges/politeedges/Incidences" := (E1'20.ext E19)
  obtain ⟨T27, h27, X27, e27, W27, st27⟩ := putF X19 hx hZ hown (host := "") (Or.inl (tw15 hw)) Via.refl e19 F_starts'25 E1'26 (Or.inr ⟨(tw16 hw), rfl, hnm⟩) (tw3 hw) (ty := (.array .int)) (by decide) rfl rfl (g := (mkF m 24 #[.val (.ref a1), .val (.int p2), .val (.ref a3), .val (.ref a4), .val (.int (Nat.toInt32 2)), .unset, .unset] [(.ref b19), (.ref a1)])) rfl rfl (hb hby d1_24)
  have F_starts_a1_27 : Fld Z h27 a1 "com/example/polite_edges/politeedges/Incidences" "starts" "[I" (.ref b19) := F_starts'25.same W27
  have Zs28 : n0 ≤ h27.size := Nat.le_trans Zs23 (Keep.of_wr W27).1
  have KK29 : Keep h0 h27 [a1] := KK24.wr W27 (Or.inl (List.mem_of_getElem? (i := 0) rfl))
  have N27 := Fr.snoc X27 N16 g1
  refine hG _ T27 _ (mkF m 27 #[.val (.ref a1), .val (.int p2), .val (.ref a3), .val (.ref a4), .val (.int (Nat.toInt32 2)), .unset, .unset] []) st27 ?_
  have V_b19'30 : Av Z h27 b19 .int (n + 1) (fun _ => (.int (0 : Int32))) := (V_b19.other W27 (Ne.symm ne_a1_b19))
  have V31 : Av Z h27 b19 .int (n + 1) (fun i => Value.int (Nat.toInt32 (cE [] i))) := V_b19'30.cong (fun i _ => rfl)
  refine hG _ T27 _ (mkF m 28 #[.val (.ref a1), .val (.int p2), .val (.ref a3), .val (.ref a4), .val (.int (Nat.toInt32 2)), .unset, .unset] [(.int (0 : Int32))]) (fun t kq_ => XS.iconst X27.here hx rfl (hb hby d1_27) kq_) ?_
  refine hG _ T27 _ (mkF m 30 #[.val (.ref a1), .val (.int p2), .val (.ref a3), .val (.ref a4), .val (.int (Nat.toInt32 2)), .val (.int (0 : Int32)), .unset] []) (fun t kq_ => XS.istore X27.here hx rfl (hb hby d1_28) rfl (l' := #[.val (.ref a1), .val (.int p2), .val (.ref a3), .val (.ref a4), .val (.int (Nat.toInt32 2)), .val (.int (0 : Int32)), .unset]) rfl kq_) ?_
  refine hG _ T27 _ (mkF m 32 #[.val (.ref a1), .val (.int p2), .val (.ref a3), .val (.ref a4), .val (.int (Nat.toInt32 2)), .val (.int (0 : Int32)), .unset] [(.int (0 : Int32))]) (fun t kq_ => XS.iload X27.here hx rfl (hb hby d1_30) rfl kq_) ?_
  refine hG _ T27 _ (mkF m 34 #[.val (.ref a1), .val (.int p2), .val (.ref a3), .val (.ref a4), .val (.int (Nat.toInt32 2)), .val (.int (0 : Int32)), .unset] [(.int (Nat.toInt32 2)), (.int (0 : Int32))]) (fun t kq_ => XS.iload X27.here hx rfl (hb hby d1_32) rfl kq_) ?_
  refine hG _ T27 _ (mkF m 37 #[.val (.ref a1), .val (.int p2), .val (.ref a3), .val (.ref a4), .val (.int (Nat.toInt32 2)), .val (.int (0 : Int32)), .unset] []) (fun t kq_ => XS.icmpNo X27.here hx rfl (hb hby d1_34) rfl (tlt (by decide)).2.1 kq_) ?_
  refine hG _ T27 _ (mkF m 38 #[.val (.ref a1), .val (.int p2), .val (.ref a3), .val (.ref a4), .val (.int (Nat.toInt32 2)), .val (.int (0 : Int32)), .unset] [(.ref a1)]) (fun t kq_ => XS.aloadN X27.here hx rfl (hb hby d1_37) rfl rfl kq_) ?_
  obtain ⟨T32, X32, e32, st32⟩ := getF X27 hx hZ hown (host := "") (Or.inl (tw15 hw)) Via.refl e27 F_starts_a1_27 (g := (mkF m 38 #[.val (.ref a1), .val (.int p2), .val (.ref a3), .val (.ref a4), .val (.int (Nat.toInt32 2)), .val (.int (0 : Int32)), .unset] [(.ref a1)])) rfl rfl (hb hby d1_38)
  refine hG _ T32 _ (mkF m 41 #[.val (.ref a1), .val (.int p2), .val (.ref a3), .val (.ref a4), .val (.int (Nat.toInt32 2)), .val (.int (0 : Int32)), .unset] [(.ref b19)]) st32 ?_
  refine hG _ T32 _ (mkF m 42 #[.val (.ref a1), .val (.int p2), .val (.ref a3), .val (.ref a4), .val (.int (Nat.toInt32 2)), .val (.int (0 : Int32)), .unset] [(.ref a3), (.ref b19)]) (fun t kq_ => XS.aloadN X32.here hx rfl (hb hby d1_41) rfl rfl kq_) ?_
  refine hG _ T32 _ (mkF m 44 #[.val (.ref a1), .val (.int p2), .val (.ref a3), .val (.ref a4), .val (.int (Nat.toInt32 2)), .val (.int (0 : Int32)), .unset] [(.int (0 : Int32)), (.ref a3), (.ref b19)]) (fun t kq_ => XS.iload X32.here hx rfl (hb hby d1_42) rfl kq_) ?_
  have V_s'33 : Av Z h27 a3 .int 2 (two x0 x1) := ((V_s'21.ext E19).other W27 ne3)
  refine hG _ T32 _ (mkF m 45 #[.val (.ref a1), .val (.int p2), .val (.ref a3), .val (.ref a4), .val (.int (Nat.toInt32 2)), .val (.int (0 : Int32)), .unset] [(.int x0), (.ref b19)]) (Av.ldI X32 hx hZ e32 V_s'33 (j := (0 : Int32)) (i := 0) (by decide) (by decide) (g := (mkF m 44 #[.val (.ref a1), .val (.int p2), .val (.ref a3), .val (.ref a4), .val (.int (Nat.toInt32 2)), .val (.int (0 : Int32)), .unset] [(.int (0 : Int32)), (.ref a3), (.ref b19)])) rfl rfl (hb hby d1_44)) ?_
  refine hG _ T32 _ (mkF m 46 #[.val (.ref a1), .val (.int p2), .val (.ref a3), .val (.ref a4), .val (.int (Nat.toInt32 2)), .val (.int (0 : Int32)), .unset] [(.int (1 : Int32)), (.int x0), (.ref b19)]) (fun t kq_ => XS.iconst X32.here hx rfl (hb hby d1_45) kq_) ?_
  refine hG _ T32 _ (mkF m 47 #[.val (.ref a1), .val (.int p2), .val (.ref a3), .val (.ref a4), .val (.int (Nat.toInt32 2)), .val (.int (0 : Int32)), .unset] [(.int (x0 + (1 : Int32))), (.ref b19)]) (fun t kq_ => XS.iadd X32.here hx rfl (hb hby d1_46) rfl kq_) ?_
  refine hG _ T32 _ (mkF m 48 #[.val (.ref a1), .val (.int p2), .val (.ref a3), .val (.ref a4), .val (.int (Nat.toInt32 2)), .val (.int (0 : Int32)), .unset] [(.int (x0 + (1 : Int32))), (.ref b19), (.int (x0 + (1 : Int32))), (.ref b19)]) (fun t kq_ => Jvm.Free.XT.dup2 X32.here hx rfl (hb hby d1_47) rfl rfl rfl kq_) ?_
  refine hG _ T32 _ (mkF m 49 #[.val (.ref a1), .val (.int p2), .val (.ref a3), .val (.ref a4), .val (.int (Nat.toInt32 2)), .val (.int (0 : Int32)), .unset] [(.int (Nat.toInt32 (cE [] (s0 + 1)))), (.int (x0 + (1 : Int32))), (.ref b19)]) (Av.ldI X32 hx hZ e32 V31 (j := (x0 + (1 : Int32))) (i := (s0 + 1)) (own_i1 hx0 (by omega)) (by omega) (g := (mkF m 48 #[.val (.ref a1), .val (.int p2), .val (.ref a3), .val (.ref a4), .val (.int (Nat.toInt32 2)), .val (.int (0 : Int32)), .unset] [(.int (x0 + (1 : Int32))), (.ref b19), (.int (x0 + (1 : Int32))), (.ref b19)])) rfl rfl (hb hby d1_48)) ?_
  refine hG _ T32 _ (mkF m 50 #[.val (.ref a1), .val (.int p2), .val (.ref a3), .val (.ref a4), .val (.int (Nat.toInt32 2)), .val (.int (0 : Int32)), .unset] [(.int (1 : Int32)), (.int (Nat.toInt32 (cE [] (s0 + 1)))), (.int (x0 + (1 : Int32))), (.ref b19)]) (fun t kq_ => XS.iconst X32.here hx rfl (hb hby d1_49) kq_) ?_
  refine hG _ T32 _ (mkF m 51 #[.val (.ref a1), .val (.int p2), .val (.ref a3), .val (.ref a4), .val (.int (Nat.toInt32 2)), .val (.int (0 : Int32)), .unset] [(.int ((Nat.toInt32 (cE [] (s0 + 1))) + (1 : Int32))), (.int (x0 + (1 : Int32))), (.ref b19)]) (fun t kq_ => XS.iadd X32.here hx rfl (hb hby d1_50) rfl kq_) ?_
  obtain ⟨T34, h34, X34, e34, W34, V34, st34⟩ := Av.stI X32 hx hZ e32 V31 (j := (x0 + (1 : Int32))) (i := (s0 + 1)) (own_i1 hx0 (by omega)) (by omega) (g := (mkF m 51 #[.val (.ref a1), .val (.int p2), .val (.ref a3), .val (.ref a4), .val (.int (Nat.toInt32 2)), .val (.int (0 : Int32)), .unset] [(.int ((Nat.toInt32 (cE [] (s0 + 1))) + (1 : Int32))), (.int (x0 + (1 : Int32))), (.ref b19)])) rfl rfl (hb hby d1_51)
  have V34' : Av Z h34 b19 .int (n + 1) (fun i => Value.int (Nat.toInt32 (cE [s0] i))) := V34.cong (fun i _ => own_updE _ _ i)
  have Zs35 : n0 ≤ h34.size := Nat.le_trans Zs28 (Keep.of_wr W34).1
  have KK36 : Keep h0 h34 [a1] := KK29.wr W34 (Or.inr sz_b19)
  have N34 := Fr.snoc X34 N27 g_b19
  refine hG _ T34 _ (mkF m 52 #[.val (.ref a1), .val (.int p2), .val (.ref a3), .val (.ref a4), .val (.int (Nat.toInt32 2)), .val (.int (0 : Int32)), .unset] []) st34 ?_
  refine hG _ T34 _ (mkF m 53 #[.val (.ref a1), .val (.int p2), .val (.ref a3), .val (.ref a4), .val (.int (Nat.toInt32 2)), .val (.int (0 : Int32)), .unset] [(.ref a1)]) (fun t kq_ => XS.aloadN X34.here hx rfl (hb hby d1_52) rfl rfl kq_) ?_
  have F_starts_a1_27'37 : Fld Z h34 a1 "com/example/polite_edges/politeedges/Incidences" "starts" "[I" (.ref b19) := (F_starts_a1_27.other W34 (Or.inl ne_a1_b19))
  obtain ⟨T38, X38, e38, st38⟩ := getF X34 hx hZ hown (host := "") (Or.inl (tw15 hw)) Via.refl e34 F_starts_a1_27'37 (g := (mkF m 53 #[.val (.ref a1), .val (.int p2), .val (.ref a3), .val (.ref a4), .val (.int (Nat.toInt32 2)), .val (.int (0 : Int32)), .unset] [(.ref a1)])) rfl rfl (hb hby d1_53)
  refine hG _ T38 _ (mkF m 56 #[.val (.ref a1), .val (.int p2), .val (.ref a3), .val (.ref a4), .val (.int (Nat.toInt32 2)), .val (.int (0 : Int32)), .unset] [(.ref b19)]) st38 ?_
  refine hG _ T38 _ (mkF m 57 #[.val (.ref a1), .val (.int p2), .val (.ref a3), .val (.ref a4), .val (.int (Nat.toInt32 2)), .val (.int (0 : Int32)), .unset] [(.ref a4), (.ref b19)]) (fun t kq_ => XS.aloadN X38.here hx rfl (hb hby d1_56) rfl rfl kq_) ?_
  refine hG _ T38 _ (mkF m 59 #[.val (.ref a1), .val (.int p2), .val (.ref a3), .val (.ref a4), .val (.int (Nat.toInt32 2)), .val (.int (0 : Int32)), .unset] [(.int (0 : Int32)), (.ref a4), (.ref b19)]) (fun t kq_ => XS.iload X38.here hx rfl (hb hby d1_57) rfl kq_) ?_
  have V_t'39 : Av Z h34 a4 .int 2 (two y0 y1) := (((V_t'22.ext E19).other W27 ne4).other W34 ne_a4_b19)
  refine hG _ T38 _ (mkF m 60 #[.val (.ref a1), .val (.int p2), .val (.ref a3), .val (.ref a4), .val (.int (Nat.toInt32 2)), .val (.int (0 : Int32)), .unset] [(.int y0), (.ref b19)]) (Av.ldI X38 hx hZ e38 V_t'39 (j := (0 : Int32)) (i := 0) (by decide) (by decide) (g := (mkF m 59 #[.val (.ref a1), .val (.int p2), .val (.ref a3), .val (.ref a4), .val (.int (Nat.toInt32 2)), .val (.int (0 : Int32)), .unset] [(.int (0 : Int32)), (.ref a4), (.ref b19)])) rfl rfl (hb hby d1_59)) ?_
  refine hG _ T38 _ (mkF m 61 #[.val (.ref a1), .val (.int p2), .val (.ref a3), .val (.ref a4), .val (.int (Nat.toInt32 2)), .val (.int (0 : Int32)), .unset] [(.int (1 : Int32)), (.int y0), (.ref b19)]) (fun t kq_ => XS.iconst X38.here hx rfl (hb hby d1_60) kq_) ?_
  refine hG _ T38 _ (mkF m 62 #[.val (.ref a1), .val (.int p2), .val (.ref a3), .val (.ref a4), .val (.int (Nat.toInt32 2)), .val (.int (0 : Int32)), .unset] [(.int (y0 + (1 : Int32))), (.ref b19)]) (fun t kq_ => XS.iadd X38.here hx rfl (hb hby d1_61) rfl kq_) ?_
  refine hG _ T38 _ (mkF m 63 #[.val (.ref a1), .val (.int p2), .val (.ref a3), .val (.ref a4), .val (.int (Nat.toInt32 2)), .val (.int (0 : Int32)), .unset] [(.int (y0 + (1 : Int32))), (.ref b19), (.int (y0 + (1 : Int32))), (.ref b19)]) (fun t kq_ => Jvm.Free.XT.dup2 X38.here hx rfl (hb hby d1_62) rfl rfl rfl kq_) ?_
  refine hG _ T38 _ (mkF m 64 #[.val (.ref a1), .val (.int p2), .val (.ref a3), .val (.ref a4), .val (.int (Nat.toInt32 2)), .val (.int (0 : Int32)), .unset] [(.int (Nat.toInt32 (cE [s0] (t0 + 1)))), (.int (y0 + (1 : Int32))), (.ref b19)]) (Av.ldI X38 hx hZ e38 V34' (j := (y0 + (1 : Int32))) (i := (t0 + 1)) (own_i1 hy0 (by omega)) (by omega) (g := (mkF m 63 #[.val (.ref a1), .val (.int p2), .val (.ref a3), .val (.ref a4), .val (.int (Nat.toInt32 2)), .val (.int (0 : Int32)), .unset] [(.int (y0 + (1 : Int32))), (.ref b19), (.int (y0 + (1 : Int32))), (.ref b19)])) rfl rfl (hb hby d1_63)) ?_
  refine hG _ T38 _ (mkF m 65 #[.val (.ref a1), .val (.int p2), .val (.ref a3), .val (.ref a4), .val (.int (Nat.toInt32 2)), .val (.int (0 : Int32)), .unset] [(.int (1 : Int32)), (.int (Nat.toInt32 (cE [s0] (t0 + 1)))), (.int (y0 + (1 : Int32))), (.ref b19)]) (fun t kq_ => XS.iconst X38.here hx rfl (hb hby d1_64) kq_) ?_
  refine hG _ T38 _ (mkF m 66 #[.val (.ref a1), .val (.int p2), .val (.ref a3), .val (.ref a4), .val (.int (Nat.toInt32 2)), .val (.int (0 : Int32)), .unset] [(.int ((Nat.toInt32 (cE [s0] (t0 + 1))) + (1 : Int32))), (.int (y0 + (1 : Int32))), (.ref b19)]) (fun t kq_ => XS.iadd X38.here hx rfl (hb hby d1_65) rfl kq_) ?_
  obtain ⟨T40, h40, X40, e40, W40, V40, st40⟩ := Av.stI X38 hx hZ e38 V34' (j := (y0 + (1 : Int32))) (i := (t0 + 1)) (own_i1 hy0 (by omega)) (by omega) (g := (mkF m 66 #[.val (.ref a1), .val (.int p2), .val (.ref a3), .val (.ref a4), .val (.int (Nat.toInt32 2)), .val (.int (0 : Int32)), .unset] [(.int ((Nat.toInt32 (cE [s0] (t0 + 1))) + (1 : Int32))), (.int (y0 + (1 : Int32))), (.ref b19)])) rfl rfl (hb hby d1_66)
  have V40' : Av Z h40 b19 .int (n + 1) (fun i => Value.int (Nat.toInt32 (cE [t0, s0] i))) := V40.cong (fun i _ => own_updE _ _ i)
  have Zs41 : n0 ≤ h40.size := Nat.le_trans Zs35 (Keep.of_wr W40).1
  have KK42 : Keep h0 h40 [a1] := KK36.wr W40 (Or.inr sz_b19)
  have N40 := Fr.snoc X40 N34 g_b19
  refine hG _ T40 _ (mkF m 67 #[.val (.ref a1), .val (.int p2), .val (.ref a3), .val (.ref a4), .val (.int (Nat.toInt32 2)), .val (.int (0 : Int32)), .unset] []) st40 ?_
  refine hG _ T40 _ (mkF m 70 #[.val (.ref a1), .val (.int p2), .val (.ref a3), .val (.ref a4), .val (.int (Nat.toInt32 2)), .val (.int ((0 : Int32) + (1 : Int32))), .unset] []) (fun t kq_ => XS.iinc X40.here hx rfl (hb hby d1_67) rfl (l' := #[.val (.ref a1), .val (.int p2), .val (.ref a3), .val (.ref a4), .val (.int (Nat.toInt32 2)), .val (.int ((0 : Int32) + (1 : Int32))), .unset]) rfl kq_) ?_
  refine hG _ T40 _ (mkF m 30 #[.val (.ref a1), .val (.int p2), .val (.ref a3), .val (.ref a4), .val (.int (Nat.toInt32 2)), .val (.int ((0 : Int32) + (1 : Int32))), .unset] []) (fun t kq_ => XS.goto X40.here hx rfl (pc0 := 70) (pc' := 30) rfl (hb hby d1_70) (by decide) (by decide) kq_) ?_
  refine hG _ T40 _ (mkF m 32 #[.val (.ref a1), .val (.int p2), .val (.ref a3), .val (.ref a4), .val (.int (Nat.toInt32 2)), .val (.int ((0 : Int32) + (1 : Int32))), .unset] [(.int ((0 : Int32) + (1 : Int32)))]) (fun t kq_ => XS.iload X40.here hx rfl (hb hby d1_30) rfl kq_) ?_
  refine hG _ T40 _ (mkF m 34 #[.val (.ref a1), .val (.int p2), .val (.ref a3), .val (.ref a4), .val (.int (Nat.toInt32 2)), .val (.int ((0 : Int32) + (1 : Int32))), .unset] [(.int (Nat.toInt32 2)), (.int ((0 : Int32) + (1 : Int32)))]) (fun t kq_ => XS.iload X40.here hx rfl (hb hby d1_32) rfl kq_) ?_
  refine hG _ T40 _ (mkF m 37 #[.val (.ref a1), .val (.int p2), .val (.ref a3), .val (.ref a4), .val (.int (Nat.toInt32 2)), .val (.int ((0 : Int32) + (1 : Int32))), .unset] []) (fun t kq_ => XS.icmpNo X40.here hx rfl (hb hby d1_34) rfl (tlt (by decide)).2.1 kq_) ?_
  refine hG _ T40 _ (mkF m 38 #[.val (.ref a1), .val (.int p2), .val (.ref a3), .val (.ref a4), .val (.int (Nat.toInt32 2)), .val (.int ((0 : Int32) + (1 : Int32))), .unset] [(.ref a1)]) (fun t kq_ => XS.aloadN X40.here hx rfl (hb hby d1_37) rfl rfl kq_) ?_
  have F_starts_a1_27'43 : Fld Z h40 a1 "com/example/polite_edges/politeedges/Incidences" "starts" "[I" (.ref b19) := (F_starts_a1_27'37.other W40 (Or.inl ne_a1_b19))
  obtain ⟨T44, X44, e44, st44⟩ := getF X40 hx hZ hown (host := "") (Or.inl (tw15 hw)) Via.refl e40 F_starts_a1_27'43 (g := (mkF m 38 #[.val (.ref a1), .val (.int p2), .val (.ref a3), .val (.ref a4), .val (.int (Nat.toInt32 2)), .val (.int ((0 : Int32) + (1 : Int32))), .unset] [(.ref a1)])) rfl rfl (hb hby d1_38)
  refine hG _ T44 _ (mkF m 41 #[.val (.ref a1), .val (.int p2), .val (.ref a3), .val (.ref a4), .val (.int (Nat.toInt32 2)), .val (.int ((0 : Int32) + (1 : Int32))), .unset] [(.ref b19)]) st44 ?_
  refine hG _ T44 _ (mkF m 42 #[.val (.ref a1), .val (.int p2), .val (.ref a3), .val (.ref a4), .val (.int (Nat.toInt32 2)), .val (.int ((0 : Int32) + (1 : Int32))), .unset] [(.ref a3), (.ref b19)]) (fun t kq_ => XS.aloadN X44.here hx rfl (hb hby d1_41) rfl rfl kq_) ?_
  refine hG _ T44 _ (mkF m 44 #[.val (.ref a1), .val (.int p2), .val (.ref a3), .val (.ref a4), .val (.int (Nat.toInt32 2)), .val (.int ((0 : Int32) + (1 : Int32))), .unset] [(.int ((0 : Int32) + (1 : Int32))), (.ref a3), (.ref b19)]) (fun t kq_ => XS.iload X44.here hx rfl (hb hby d1_42) rfl kq_) ?_
  have V_s'45 : Av Z h40 a3 .int 2 (two x0 x1) := ((V_s'33.other W34 ne_a3_b19).other W40 ne_a3_b19)
  refine hG _ T44 _ (mkF m 45 #[.val (.ref a1), .val (.int p2), .val (.ref a3), .val (.ref a4), .val (.int (Nat.toInt32 2)), .val (.int ((0 : Int32) + (1 : Int32))), .unset] [(.int x1), (.ref b19)]) (Av.ldI X44 hx hZ e44 V_s'45 (j := ((0 : Int32) + (1 : Int32))) (i := 1) (by decide) (by decide) (g := (mkF m 44 #[.val (.ref a1), .val (.int p2), .val (.ref a3), .val (.ref a4), .val (.int (Nat.toInt32 2)), .val (.int ((0 : Int32) + (1 : Int32))), .unset] [(.int ((0 : Int32) + (1 : Int32))), (.ref a3), (.ref b19)])) rfl rfl (hb hby d1_44)) ?_
  refine hG _ T44 _ (mkF m 46 #[.val (.ref a1), .val (.int p2), .val (.ref a3), .val (.ref a4), .val (.int (Nat.toInt32 2)), .val (.int ((0 : Int32) + (1 : Int32))), .unset] [(.int (1 : Int32)), (.int x1), (.ref b19)]) (fun t kq_ => XS.iconst X44.here hx rfl (hb hby d1_45) kq_) ?_
  refine hG _ T44 _ (mkF m 47 #[.val (.ref a1), .val (.int p2), .val (.ref a3), .val (.ref a4), .val (.int (Nat.toInt32 2)), .val (.int ((0 : Int32) + (1 : Int32))), .unset] [(.int (x1 + (1 : Int32))), (.ref b19)]) (fun t kq_ => XS.iadd X44.here hx rfl (hb hby d1_46) rfl kq_) ?_
  refine hG _ T44 _ (mkF m 48 #[.val (.ref a1), .val (.int p2), .val (.ref a3), .val (.ref a4), .val (.int (Nat.toInt32 2)), .val (.int ((0 : Int32) + (1 : Int32))), .unset] [(.int (x1 + (1 : Int32))), (.ref b19), (.int (x1 + (1 : Int32))), (.ref b19)]) (fun t kq_ => Jvm.Free.XT.dup2 X44.here hx rfl (hb hby d1_47) rfl rfl rfl kq_) ?_
  refine hG _ T44 _ (mkF m 49 #[.val (.ref a1), .val (.int p2), .val (.ref a3), .val (.ref a4), .val (.int (Nat.toInt32 2)), .val (.int ((0 : Int32) + (1 : Int32))), .unset] [(.int (Nat.toInt32 (cE [t0, s0] (s1 + 1)))), (.int (x1 + (1 : Int32))), (.ref b19)]) (Av.ldI X44 hx hZ e44 V40' (j := (x1 + (1 : Int32))) (i := (s1 + 1)) (own_i1 hx1 (by omega)) (by omega) (g := (mkF m 48 #[.val (.ref a1), .val (.int p2), .val (.ref a3), .val (.ref a4), .val (.int (Nat.toInt32 2)), .val (.int ((0 : Int32) + (1 : Int32))), .unset] [(.int (x1 + (1 : Int32))), (.ref b19), (.int (x1 + (1 : Int32))), (.ref b19)])) rfl rfl (hb hby d1_48)) ?_
  refine hG _ T44 _ (mkF m 50 #[.val (.ref a1), .val (.int p2), .val (.ref a3), .val (.ref a4), .val (.int (Nat.toInt32 2)), .val (.int ((0 : Int32) + (1 : Int32))), .unset] [(.int (1 : Int32)), (.int (Nat.toInt32 (cE [t0, s0] (s1 + 1)))), (.int (x1 + (1 : Int32))), (.ref b19)]) (fun t kq_ => XS.iconst X44.here hx rfl (hb hby d1_49) kq_) ?_
  refine hG _ T44 _ (mkF m 51 #[.val (.ref a1), .val (.int p2), .val (.ref a3), .val (.ref a4), .val (.int (Nat.toInt32 2)), .val (.int ((0 : Int32) + (1 : Int32))), .unset] [(.int ((Nat.toInt32 (cE [t0, s0] (s1 + 1))) + (1 : Int32))), (.int (x1 + (1 : Int32))), (.ref b19)]) (fun t kq_ => XS.iadd X44.here hx rfl (hb hby d1_50) rfl kq_) ?_
  obtain ⟨T46, h46, X46, e46, W46, V46, st46⟩ := Av.stI X44 hx hZ e44 V40' (j := (x1 + (1 : Int32))) (i := (s1 + 1)) (own_i1 hx1 (by omega)) (by omega) (g := (mkF m 51 #[.val (.ref a1), .val (.int p2), .val (.ref a3), .val (.ref a4), .val (.int (Nat.toInt32 2)), .val (.int ((0 : Int32) + (1 : Int32))), .unset] [(.int ((Nat.toInt32 (cE [t0, s0] (s1 + 1))) + (1 : Int32))), (.int (x1 + (1 : Int32))), (.ref b19)])) rfl rfl (hb hby d1_51)
  have V46' : Av Z h46 b19 .int (n + 1) (fun i => Value.int (Nat.toInt32 (cE [s1, t0, s0] i))) := V46.cong (fun i _ => own_updE _ _ i)
  have Zs47 : n0 ≤ h46.size := Nat.le_trans Zs41 (Keep.of_wr W46).1
  have KK48 : Keep h0 h46 [a1] := KK42.wr W46 (Or.inr sz_b19)
  have N46 := Fr.snoc X46 N40 g_b19
  refine hG _ T46 _ (mkF m 52 #[.val (.ref a1), .val (.int p2), .val (.ref a3), .val (.ref a4), .val (.int (Nat.toInt32 2)), .val (.int ((0 : Int32) + (1 : Int32))), .unset] []) st46 ?_
  refine hG _ T46 _ (mkF m 53 #[.val (.ref a1), .val (.int p2), .val (.ref a3), .val (.ref a4), .val (.int (Nat.toInt32 2)), .val (.int ((0 : Int32) + (1 : Int32))), .unset] [(.ref a1)]) (fun t kq_ => XS.aloadN X46.here hx rfl (hb hby d1_52) rfl rfl kq_) ?_
  have F_starts_a1_27'49 : Fld Z h46 a1 "com/example/polite_edges/politeedges/Incidences" "starts" "[I" (.ref b19) := (F_starts_a1_27'43.other W46 (Or.inl ne_a1_b19))
  obtain ⟨T50, X50, e50, st50⟩ := getF X46 hx hZ hown (host := "") (Or.inl (tw15 hw)) Via.refl e46 F_starts_a1_27'49 (g := (mkF m 53 #[.val (.ref a1), .val (.int p2), .val (.ref a3), .val (.ref a4), .val (.int (Nat.toInt32 2)), .val (.int ((0 : Int32) + (1 : Int32))), .unset] [(.ref a1)])) rfl rfl (hb hby d1_53)
  refine hG _ T50 _ (mkF m 56 #[.val (.ref a1), .val (.int p2), .val (.ref a3), .val (.ref a4), .val (.int (Nat.toInt32 2)), .val (.int ((0 : Int32) + (1 : Int32))), .unset] [(.ref b19)]) st50 ?_
  refine hG _ T50 _ (mkF m 57 #[.val (.ref a1), .val (.int p2), .val (.ref a3), .val (.ref a4), .val (.int (Nat.toInt32 2)), .val (.int ((0 : Int32) + (1 : Int32))), .unset] [(.ref a4), (.ref b19)]) (fun t kq_ => XS.aloadN X50.here hx rfl (hb hby d1_56) rfl rfl kq_) ?_
  refine hG _ T50 _ (mkF m 59 #[.val (.ref a1), .val (.int p2), .val (.ref a3), .val (.ref a4), .val (.int (Nat.toInt32 2)), .val (.int ((0 : Int32) + (1 : Int32))), .unset] [(.int ((0 : Int32) + (1 : Int32))), (.ref a4), (.ref b19)]) (fun t kq_ => XS.iload X50.here hx rfl (hb hby d1_57) rfl kq_) ?_
  have V_t'51 : Av Z h46 a4 .int 2 (two y0 y1) := ((V_t'39.other W40 ne_a4_b19).other W46 ne_a4_b19)
  refine hG _ T50 _ (mkF m 60 #[.val (.ref a1), .val (.int p2), .val (.ref a3), .val (.ref a4), .val (.int (Nat.toInt32 2)), .val (.int ((0 : Int32) + (1 : Int32))), .unset] [(.int y1), (.ref b19)]) (Av.ldI X50 hx hZ e50 V_t'51 (j := ((0 : Int32) + (1 : Int32))) (i := 1) (by decide) (by decide) (g := (mkF m 59 #[.val (.ref a1), .val (.int p2), .val (.ref a3), .val (.ref a4), .val (.int (Nat.toInt32 2)), .val (.int ((0 : Int32) + (1 : Int32))), .unset] [(.int ((0 : Int32) + (1 : Int32))), (.ref a4), (.ref b19)])) rfl rfl (hb hby d1_59)) ?_
  refine hG _ T50 _ (mkF m 61 #[.val (.ref a1), .val (.int p2), .val (.ref a3), .val (.ref a4), .val (.int (Nat.toInt32 2)), .val (.int ((0 : Int32) + (1 : Int32))), .unset] [(.int (1 : Int32)), (.int y1), (.ref b19)]) (fun t kq_ => XS.iconst X50.here hx rfl (hb hby d1_60) kq_) ?_
  refine hG _ T50 _ (mkF m 62 #[.val (.ref a1), .val (.int p2), .val (.ref a3), .val (.ref a4), .val (.int (Nat.toInt32 2)), .val (.int ((0 : Int32) + (1 : Int32))), .unset] [(.int (y1 + (1 : Int32))), (.ref b19)]) (fun t kq_ => XS.iadd X50.here hx rfl (hb hby d1_61) rfl kq_) ?_
  refine hG _ T50 _ (mkF m 63 #[.val (.ref a1), .val (.int p2), .val (.ref a3), .val (.ref a4), .val (.int (Nat.toInt32 2)), .val (.int ((0 : Int32) + (1 : Int32))), .unset] [(.int (y1 + (1 : Int32))), (.ref b19), (.int (y1 + (1 : Int32))), (.ref b19)]) (fun t kq_ => Jvm.Free.XT.dup2 X50.here hx rfl (hb hby d1_62) rfl rfl rfl kq_) ?_
  refine hG _ T50 _ (mkF m 64 #[.val (.ref a1), .val (.int p2), .val (.ref a3), .val (.ref a4), .val (.int (Nat.toInt32 2)), .val (.int ((0 : Int32) + (1 : Int32))), .unset] [(.int (Nat.toInt32 (cE [s1, t0, s0] (t1 + 1)))), (.int (y1 + (1 : Int32))), (.ref b19)]) (Av.ldI X50 hx hZ e50 V46' (j := (y1 + (1 : Int32))) (i := (t1 + 1)) (own_i1 hy1 (by omega)) (by omega) (g := (mkF m 63 #[.val (.ref a1), .val (.int p2), .val (.ref a3), .val (.ref a4), .val (.int (Nat.toInt32 2)), .val (.int ((0 : Int32) + (1 : Int32))), .unset] [(.int (y1 + (1 : Int32))), (.ref b19), (.int (y1 + (1 : Int32))), (.ref b19)])) rfl rfl (hb hby d1_63)) ?_
  refine hG _ T50 _ (mkF m 65 #[.val (.ref a1), .val (.int p2), .val (.ref a3), .val (.ref a4), .val (.int (Nat.toInt32 2)), .val (.int ((0 : Int32) + (1 : Int32))), .unset] [(.int (1 : Int32)), (.int (Nat.toInt32 (cE [s1, t0, s0] (t1 + 1)))), (.int (y1 + (1 : Int32))), (.ref b19)]) (fun t kq_ => XS.iconst X50.here hx rfl (hb hby d1_64) kq_) ?_
  refine hG _ T50 _ (mkF m 66 #[.val (.ref a1), .val (.int p2), .val (.ref a3), .val (.ref a4), .val (.int (Nat.toInt32 2)), .val (.int ((0 : Int32) + (1 : Int32))), .unset] [(.int ((Nat.toInt32 (cE [s1, t0, s0] (t1 + 1))) + (1 : Int32))), (.int (y1 + (1 : Int32))), (.ref b19)]) (fun t kq_ => XS.iadd X50.here hx rfl (hb hby d1_65) rfl kq_) ?_
  obtain ⟨T52, h52, X52, e52, W52, V52, st52⟩ := Av.stI X50 hx hZ e50 V46' (j := (y1 + (1 : Int32))) (i := (t1 + 1)) (own_i1 hy1 (by omega)) (by omega) (g := (mkF m 66 #[.val (.ref a1), .val (.int p2), .val (.ref a3), .val (.ref a4), .val (.int (Nat.toInt32 2)), .val (.int ((0 : Int32) + (1 : Int32))), .unset] [(.int ((Nat.toInt32 (cE [s1, t0, s0] (t1 + 1))) + (1 : Int32))), (.int (y1 + (1 : Int32))), (.ref b19)])) rfl rfl (hb hby d1_66)
  have V52' : Av Z h52 b19 .int (n + 1) (fun i => Value.int (Nat.toInt32 (cE [t1, s1, t0, s0] i))) := V52.cong (fun i _ => own_updE _ _ i)
  have Zs53 : n0 ≤ h52.size := Nat.le_trans Zs47 (Keep.of_wr W52).1
  have KK54 : Keep h0 h52 [a1] := KK48.wr W52 (Or.inr sz_b19)
  have N52 := Fr.snoc X52 N46 g_b19
  refine hG _ T52 _ (mkF m 67 #[.val (.ref a1), .val (.int p2), .val (.ref a3), .val (.ref a4), .val (.int (Nat.toInt32 2)), .val (.int ((0 : Int32) + (1 : Int32))), .unset] []) st52 ?_
  refine hG _ T52 _ (mkF m 70 #[.val (.ref a1), .val (.int p2), .val (.ref a3), .val (.ref a4), .val (.int (Nat.toInt32 2)), .val (.int (((0 : Int32) + (1 : Int32)) + (1 : Int32))), .unset] []) (fun t kq_ => XS.iinc X52.here hx rfl (hb hby d1_67) rfl (l' := #[.val (.ref a1), .val (.int p2), .val (.ref a3), .val (.ref a4), .val (.int (Nat.toInt32 2)), .val (.int (((0 : Int32) + (1 : Int32)) + (1 : Int32))), .unset]) rfl kq_) ?_
  refine hG _ T52 _ (mkF m 30 #[.val (.ref a1), .val (.int p2), .val (.ref a3), .val (.ref a4), .val (.int (Nat.toInt32 2)), .val (.int (((0 : Int32) + (1 : Int32)) + (1 : Int32))), .unset] []) (fun t kq_ => XS.goto X52.here hx rfl (pc0 := 70) (pc' := 30) rfl (hb hby d1_70) (by decide) (by decide) kq_) ?_
  refine hG _ T52 _ (mkF m 32 #[.val (.ref a1), .val (.int p2), .val (.ref a3), .val (.ref a4), .val (.int (Nat.toInt32 2)), .val (.int (((0 : Int32) + (1 : Int32)) + (1 : Int32))), .unset] [(.int (((0 : Int32) + (1 : Int32)) + (1 : Int32)))]) (fun t kq_ => XS.iload X52.here hx rfl (hb hby d1_30) rfl kq_) ?_
  refine hG _ T52 _ (mkF m 34 #[.val (.ref a1), .val (.int p2), .val (.ref a3), .val (.ref a4), .val (.int (Nat.toInt32 2)), .val (.int (((0 : Int32) + (1 : Int32)) + (1 : Int32))), .unset] [(.int (Nat.toInt32 2)), (.int (((0 : Int32) + (1 : Int32)) + (1 : Int32)))]) (fun t kq_ => XS.iload X52.here hx rfl (hb hby d1_32) rfl kq_) ?_
  refine hG _ T52 _ (mkF m 73 #[.val (.ref a1), .val (.int p2), .val (.ref a3), .val (.ref a4), .val (.int (Nat.toInt32 2)), .val (.int (((0 : Int32) + (1 : Int32)) + (1 : Int32))), .unset] []) (fun t kq_ => XS.icmpYes X52.here hx rfl (pc0 := 34) (pc' := 73) rfl (hb hby d1_34) rfl (flt (by decide)).2.1 (by decide) (by decide) kq_) ?_
  refine hG _ T52 _ (mkF m 74 #[.val (.ref a1), .val (.int p2), .val (.ref a3), .val (.ref a4), .val (.int (Nat.toInt32 2)), .val (.int (((0 : Int32) + (1 : Int32)) + (1 : Int32))), .unset] [(.int (0 : Int32))]) (fun t kq_ => XS.iconst X52.here hx rfl (hb hby d1_73) kq_) ?_
  refine hG _ T52 _ (mkF m 76 #[.val (.ref a1), .val (.int p2), .val (.ref a3), .val (.ref a4), .val (.int (Nat.toInt32 2)), .val (.int (0 : Int32)), .unset] []) (fun t kq_ => XS.istore X52.here hx rfl (hb hby d1_74) rfl (l' := #[.val (.ref a1), .val (.int p2), .val (.ref a3), .val (.ref a4), .val (.int (Nat.toInt32 2)), .val (.int (0 : Int32)), .unset]) rfl kq_) ?_
  have V55 : Av Z h52 b19 .int (n + 1) (mid [t1, s1, t0, s0] 0) := V52'.cong (fun i _ => own_mid0 [t1, s1, t0, s0] i)
  have F_starts_a1_27'56 : Fld Z h52 a1 "com/example/polite_edges/politeedges/Incidences" "starts" "[I" (.ref b19) := (F_starts_a1_27'49.other W52 (Or.inl ne_a1_b19))
  refine loop2 a1 a3 a4 b19 p2 n [t1, s1, t0, s0] hx hZ hw hby hml hown hG hn h8 g_b19 ne_a1_b19 n 0 _ _ _ (by omega) X52 e52 Zs53 N52 F_starts_a1_27'56 V55 ?_
  intro T2 h2 locs2 X2 e2 Zs2 N2 K2 V2
  have Zs57 : n0 ≤ h2.size := Nat.le_trans Zs53 K2.1
  have KK58 : Keep h0 h2 [a1] := KK54.trans K2 (allS (P := fun x => x ∈ [a1] ∨ h0.size ≤ x) (Or.inr sz_b19) all0)
  have V59 : Av Z h2 b19 .int (n + 1) (fun i => Value.int (Nat.toInt32 (cL [t1, s1, t0, s0] i))) := V2.cong (fun i hi => by simp only [mid]; rw [if_pos (by omega)])
  refine hG _ T2 _ (mkF m 108 #[.val (.ref a1), .val (.int p2), .val (.ref a3), .val (.ref a4), .val (.int (Nat.toInt32 2)), .val (.int (Nat.toInt32 n)), .unset] [(.ref a1)]) (fun t kq_ => XS.aloadN X2.here hx rfl (hb hby d1_107) rfl rfl kq_) ?_
  refine hG _ T2 _ (mkF m 109 #[.val (.ref a1), .val (.int p2), .val (.ref a3), .val (.ref a4), .val (.int (Nat.toInt32 2)), .val (.int (Nat.toInt32 n)), .unset] [(.int (2 : Int32)), (.ref a1)]) (fun t kq_ => XS.iconst X2.here hx rfl (hb hby d1_108) kq_) ?_
  refine hG _ T2 _ (mkF m 111 #[.val (.ref a1), .val (.int p2), .val (.ref a3), .val (.ref a4), .val (.int (Nat.toInt32 2)), .val (.int (Nat.toInt32 n)), .unset] [(.int (Nat.toInt32 2)), (.int (2 : Int32)), (.ref a1)]) (fun t kq_ => XS.iload X2.here hx rfl (hb hby d1_109) rfl kq_) ?_
  refine hG _ T2 _ (mkF m 112 #[.val (.ref a1), .val (.int p2), .val (.ref a3), .val (.ref a4), .val (.int (Nat.toInt32 2)), .val (.int (Nat.toInt32 n)), .unset] [(.int ((2 : Int32) * (Nat.toInt32 2))), (.ref a1)]) (fun t kq_ => XS.imul X2.here hx rfl (hb hby d1_111) rfl kq_) ?_
  have E1'61 : Exa Z h2 a1 "com/example/polite_edges/politeedges/Incidences" := ((((((E1'26.wr W27).wr W34).wr W40).wr W46).wr W52).keep K2)
  have V_s'62 : Av Z h2 a3 .int 2 (two x0 x1) := (((V_s'45.other W46 ne_a3_b19).other W52 ne_a3_b19).keep K2 (ninS ne_a3_b19 nin0))
  have V_t'63 : Av Z h2 a4 .int 2 (two y0 y1) := ((V_t'51.other W52 ne_a4_b19).keep K2 (ninS ne_a4_b19 nin0))
  have hz60 : ((2 : Int32) * (Nat.toInt32 2)).toInt = ((4 : Nat) : Int) := (by decide)
  obtain ⟨T60, h60, k60, X60, e60, E60, A60, st60⟩ := newP (aty := .int) X2 hx hZ (tw1 hw) e2 (g := (mkF m 112 #[.val (.ref a1), .val (.int p2), .val (.ref a3), .val (.ref a4), .val (.int (Nat.toInt32 2)), .val (.int (Nat.toInt32 n)), .unset] [(.int ((2 : Int32) * (Nat.toInt32 2))), (.ref a1)])) rfl (hb hby d1_112) rfl (own_nn hz60) (cap := 4) (by rw [tn_of hz60]; exact (by decide)) (by decide) (by decide) (by decide)
  obtain ⟨b60, g60⟩ : ∃ z, z = h2.size := ⟨_, rfl⟩
  rw [← g60] at A60 st60
  have ne_a1_b60 : a1 ≠ b60 := Nat.ne_of_lt (Nat.lt_of_lt_of_le E1'61.lt (Nat.le_of_eq g60.symm))
  have ne_a3_b60 : a3 ≠ b60 := Nat.ne_of_lt (Nat.lt_of_lt_of_le V_s'62.lt (Nat.le_of_eq g60.symm))
  have ne_a4_b60 : a4 ≠ b60 := Nat.ne_of_lt (Nat.lt_of_lt_of_le V_t'63.lt (Nat.le_of_eq g60.symm))
  have ne_b19_b60 : b19 ≠ b60 := Nat.ne_of_lt (Nat.lt_of_lt_of_le V59.lt (Nat.le_of_eq g60.symm))
  have g_b60 : n0 ≤ b60 := Nat.le_trans Zs57 (Nat.le_of_eq g60.symm)
  have sz_b60 : h0.size ≤ b60 := Nat.le_trans KK58.1 (Nat.le_of_eq g60.symm)
  have Zs64 : n0 ≤ h60.size := Nat.le_trans Zs57 E60.1
  have KK65 : Keep h0 h60 [a1] := KK58.ext E60
  have V_b60 : Av Z h60 b60 .int 4 (fun _ => (.int (0 : Int32))) := Av.new A60 hz60
  refine hG _ T60 _ (mkF m 114 #[.val (.ref a1), .val (.int p2), .val (.ref a3), .val (.ref a4), .val (.int (Nat.toInt32 2)), .val (.int (Nat.toInt32 n)), .unset] [(.ref b60), (.ref a1)]) st60 ?_
  have F_edges'66 : Fld Z h60 a1 "com/example/polite_edges/politeedges/Incidences" "edges" "[I" u_edges := ((((((((((F_edges.other W11 (Or.inr (slot_ne (Or.inr (tw18 hw)) (Or.inr (tw12 hw)) (by decide) (t := (.array .int)) (t' := (.array .int)) (by decide) (by decide)))).other W16 (Or.inr (slot_ne (Or.inr (tw18 hw)) (Or.inr (tw14 hw)) (by decide) (t := (.array .int)) (t' := (.array .int)) (by decide) (by decide)))).ext E19).other W27 (Or.inr (slot_ne (Or.inr (tw18 hw)) (Or.inr (tw16 hw)) (by decide) (t := (.array .int)) (t' := (.array .int)) (by decide) (by decide)))).other W34 (Or.inl ne_a1_b19)).other W40 (Or.inl ne_a1_b19)).other W46 (Or.inl ne_a1_b19)).other W52 (Or.inl ne_a1_b19)).keep K2 (ninS ne_a1_b19 nin0)).ext E60)
  have E1'67 : Exa Z h60 a1 "com/example/polite_edges/politeedges/Incidences" := (E1'61.ext E60)
  obtain ⟨T68, h68, X68, e68, W68, st68⟩ := putF X60 hx hZ hown (host := "") (Or.inl (tw17 hw)) Via.refl e60 F_edges'66 E1'67 (Or.inr ⟨(tw18 hw), rfl, hnm⟩) (tw3 hw) (ty := (.array .int)) (by decide) rfl rfl (g := (mkF m 114 #[.val (.ref a1), .val (.int p2), .val (.ref a3), .val (.ref a4), .val (.int (Nat.toInt32 2)), .val (.int (Nat.toInt32 n)), .unset] [(.ref b60), (.ref a1)])) rfl rfl (hb hby d1_114)
  have F_edges_a1_68 : Fld Z h68 a1 "com/example/polite_edges/politeedges/Incidences" "edges" "[I" (.ref b60) := F_edges'66.same W68
  have Zs69 : n0 ≤ h68.size := Nat.le_trans Zs64 (Keep.of_wr W68).1
  have KK70 : Keep h0 h68 [a1] := KK65.wr W68 (Or.inl (List.mem_of_getElem? (i := 0) rfl))
  have N68 := Fr.snoc X68 N2 g1
  refine hG _ T68 _ (mkF m 117 #[.val (.ref a1), .val (.int p2), .val (.ref a3), .val (.ref a4), .val (.int (Nat.toInt32 2)), .val (.int (Nat.toInt32 n)), .unset] []) st68 ?_
  refine hG _ T68 _ (mkF m 118 #[.val (.ref a1), .val (.int p2), .val (.ref a3), .val (.ref a4), .val (.int (Nat.toInt32 2)), .val (.int (Nat.toInt32 n)), .unset] [(.int p2)]) (fun t kq_ => XS.iloadN X68.here hx rfl (hb hby d1_117) rfl kq_) ?_
  have E1'72 : Exa Z h68 a1 "com/example/polite_edges/politeedges/Incidences" := (E1'67.wr W68)
  have V_s'73 : Av Z h68 a3 .int 2 (two x0 x1) := ((V_s'62.ext E60).other W68 ne3)
  have V_t'74 : Av Z h68 a4 .int 2 (two y0 y1) := ((V_t'63.ext E60).other W68 ne4)
  have V59'75 : Av Z h68 b19 .int (n + 1) (fun i => Value.int (Nat.toInt32 (cL [t1, s1, t0, s0] i))) := ((V59.ext E60).other W68 (Ne.symm ne_a1_b19))
  have V_b60'76 : Av Z h68 b60 .int 4 (fun _ => (.int (0 : Int32))) := (V_b60.other W68 (Ne.symm ne_a1_b60))
  have hz71 : p2.toInt = ((n : Nat) : Int) := hn
  obtain ⟨T71, h71, k71, X71, e71, E71, A71, st71⟩ := newP (aty := .int) X68 hx hZ (tw1 hw) e68 (g := (mkF m 118 #[.val (.ref a1), .val (.int p2), .val (.ref a3), .val (.ref a4), .val (.int (Nat.toInt32 2)), .val (.int (Nat.toInt32 n)), .unset] [(.int p2)])) rfl (hb hby d1_118) rfl (own_nn hz71) (cap := 8) (by rw [tn_of hz71]; exact h8) (by decide) (by decide) (by decide)
  obtain ⟨b71, g71⟩ : ∃ z, z = h68.size := ⟨_, rfl⟩
  rw [← g71] at A71 st71
  have ne_a1_b71 : a1 ≠ b71 := Nat.ne_of_lt (Nat.lt_of_lt_of_le E1'72.lt (Nat.le_of_eq g71.symm))
  have ne_a3_b71 : a3 ≠ b71 := Nat.ne_of_lt (Nat.lt_of_lt_of_le V_s'73.lt (Nat.le_of_eq g71.symm))
  have ne_a4_b71 : a4 ≠ b71 := Nat.ne_of_lt (Nat.lt_of_lt_of_le V_t'74.lt (Nat.le_of_eq g71.symm))
  have ne_b19_b71 : b19 ≠ b71 := Nat.ne_of_lt (Nat.lt_of_lt_of_le V59'75.lt (Nat.le_of_eq g71.symm))
  have ne_b60_b71 : b60 ≠ b71 := Nat.ne_of_lt (Nat.lt_of_lt_of_le V_b60'76.lt (Nat.le_of_eq g71.symm))
  have g_b71 : n0 ≤ b71 := Nat.le_trans Zs69 (Nat.le_of_eq g71.symm)
  have sz_b71 : h0.size ≤ b71 := Nat.le_trans KK70.1 (Nat.le_of_eq g71.symm)
  have Zs77 : n0 ≤ h71.size := Nat.le_trans Zs69 E71.1
  have KK78 : Keep h0 h71 [a1] := KK70.ext E71
  have V_b71 : Av Z h71 b71 .int n (fun _ => (.int (0 : Int32))) := Av.new A71 hz71
  refine hG _ T71 _ (mkF m 120 #[.val (.ref a1), .val (.int p2), .val (.ref a3), .val (.ref a4), .val (.int (Nat.toInt32 2)), .val (.int (Nat.toInt32 n)), .unset] [(.ref b71)]) st71 ?_
  have V79 : Av Z h71 b71 .int n (fun i => Value.int (Nat.toInt32 (cF [] i))) := V_b71.cong (fun i _ => rfl)
  refine hG _ T71 _ (mkF m 122 #[.val (.ref a1), .val (.int p2), .val (.ref a3), .val (.ref a4), .val (.int (Nat.toInt32 2)), .val (.ref b71), .unset] []) (fun t kq_ => XS.astore X71.here hx rfl (hb hby d1_120) rfl rfl (l' := #[.val (.ref a1), .val (.int p2), .val (.ref a3), .val (.ref a4), .val (.int (Nat.toInt32 2)), .val (.ref b71), .unset]) rfl kq_) ?_
  refine hG _ T71 _ (mkF m 123 #[.val (.ref a1), .val (.int p2), .val (.ref a3), .val (.ref a4), .val (.int (Nat.toInt32 2)), .val (.ref b71), .unset] [(.int (0 : Int32))]) (fun t kq_ => XS.iconst X71.here hx rfl (hb hby d1_122) kq_) ?_
  refine hG _ T71 _ (mkF m 125 #[.val (.ref a1), .val (.int p2), .val (.ref a3), .val (.ref a4), .val (.int (Nat.toInt32 2)), .val (.ref b71), .val (.int (0 : Int32))] []) (fun t kq_ => XS.istore X71.here hx rfl (hb hby d1_123) rfl (l' := #[.val (.ref a1), .val (.int p2), .val (.ref a3), .val (.ref a4), .val (.int (Nat.toInt32 2)), .val (.ref b71), .val (.int (0 : Int32))]) rfl kq_) ?_
  refine hG _ T71 _ (mkF m 127 #[.val (.ref a1), .val (.int p2), .val (.ref a3), .val (.ref a4), .val (.int (Nat.toInt32 2)), .val (.ref b71), .val (.int (0 : Int32))] [(.int (0 : Int32))]) (fun t kq_ => XS.iload X71.here hx rfl (hb hby d1_125) rfl kq_) ?_
  refine hG _ T71 _ (mkF m 129 #[.val (.ref a1), .val (.int p2), .val (.ref a3), .val (.ref a4), .val (.int (Nat.toInt32 2)), .val (.ref b71), .val (.int (0 : Int32))] [(.int (Nat.toInt32 2)), (.int (0 : Int32))]) (fun t kq_ => XS.iload X71.here hx rfl (hb hby d1_127) rfl kq_) ?_
  refine hG _ T71 _ (mkF m 132 #[.val (.ref a1), .val (.int p2), .val (.ref a3), .val (.ref a4), .val (.int (Nat.toInt32 2)), .val (.ref b71), .val (.int (0 : Int32))] []) (fun t kq_ => XS.icmpNo X71.here hx rfl (hb hby d1_129) rfl (tlt (by decide)).2.1 kq_) ?_
  refine hG _ T71 _ (mkF m 133 #[.val (.ref a1), .val (.int p2), .val (.ref a3), .val (.ref a4), .val (.int (Nat.toInt32 2)), .val (.ref b71), .val (.int (0 : Int32))] [(.ref a1)]) (fun t kq_ => XS.aloadN X71.here hx rfl (hb hby d1_132) rfl rfl kq_) ?_
  have F_edges_a1_68'80 : Fld Z h71 a1 "com/example/polite_edges/politeedges/Incidences" "edges" "[I" (.ref b60) := (F_edges_a1_68.ext E71)
  obtain ⟨T81, X81, e81, st81⟩ := getF X71 hx hZ hown (host := "") (Or.inl (tw17 hw)) Via.refl e71 F_edges_a1_68'80 (g := (mkF m 133 #[.val (.ref a1), .val (.int p2), .val (.ref a3), .val (.ref a4), .val (.int (Nat.toInt32 2)), .val (.ref b71), .val (.int (0 : Int32))] [(.ref a1)])) rfl rfl (hb hby d1_133)
  refine hG _ T81 _ (mkF m 136 #[.val (.ref a1), .val (.int p2), .val (.ref a3), .val (.ref a4), .val (.int (Nat.toInt32 2)), .val (.ref b71), .val (.int (0 : Int32))] [(.ref b60)]) st81 ?_
  refine hG _ T81 _ (mkF m 137 #[.val (.ref a1), .val (.int p2), .val (.ref a3), .val (.ref a4), .val (.int (Nat.toInt32 2)), .val (.ref b71), .val (.int (0 : Int32))] [(.ref a1), (.ref b60)]) (fun t kq_ => XS.aloadN X81.here hx rfl (hb hby d1_136) rfl rfl kq_) ?_
  have F_starts_a1_27'82 : Fld Z h71 a1 "com/example/polite_edges/politeedges/Incidences" "starts" "[I" (.ref b19) := ((((F_starts_a1_27'56.keep K2 (ninS ne_a1_b19 nin0)).ext E60).other W68 (Or.inr (slot_ne (Or.inr (tw16 hw)) (Or.inr (tw18 hw)) (by decide) (t := (.array .int)) (t' := (.array .int)) (by decide) (by decide)))).ext E71)
  obtain ⟨T83, X83, e83, st83⟩ := getF X81 hx hZ hown (host := "") (Or.inl (tw15 hw)) Via.refl e81 F_starts_a1_27'82 (g := (mkF m 137 #[.val (.ref a1), .val (.int p2), .val (.ref a3), .val (.ref a4), .val (.int (Nat.toInt32 2)), .val (.ref b71), .val (.int (0 : Int32))] [(.ref a1), (.ref b60)])) rfl rfl (hb hby d1_137)
  refine hG _ T83 _ (mkF m 140 #[.val (.ref a1), .val (.int p2), .val (.ref a3), .val (.ref a4), .val (.int (Nat.toInt32 2)), .val (.ref b71), .val (.int (0 : Int32))] [(.ref b19), (.ref b60)]) st83 ?_
  refine hG _ T83 _ (mkF m 141 #[.val (.ref a1), .val (.int p2), .val (.ref a3), .val (.ref a4), .val (.int (Nat.toInt32 2)), .val (.ref b71), .val (.int (0 : Int32))] [(.ref a3), (.ref b19), (.ref b60)]) (fun t kq_ => XS.aloadN X83.here hx rfl (hb hby d1_140) rfl rfl kq_) ?_
  refine hG _ T83 _ (mkF m 143 #[.val (.ref a1), .val (.int p2), .val (.ref a3), .val (.ref a4), .val (.int (Nat.toInt32 2)), .val (.ref b71), .val (.int (0 : Int32))] [(.int (0 : Int32)), (.ref a3), (.ref b19), (.ref b60)]) (fun t kq_ => XS.iload X83.here hx rfl (hb hby d1_141) rfl kq_) ?_
  have V_s'84 : Av Z h71 a3 .int 2 (two x0 x1) := (V_s'73.ext E71)
  refine hG _ T83 _ (mkF m 144 #[.val (.ref a1), .val (.int p2), .val (.ref a3), .val (.ref a4), .val (.int (Nat.toInt32 2)), .val (.ref b71), .val (.int (0 : Int32))] [(.int x0), (.ref b19), (.ref b60)]) (Av.ldI X83 hx hZ e83 V_s'84 (j := (0 : Int32)) (i := 0) (by decide) (by decide) (g := (mkF m 143 #[.val (.ref a1), .val (.int p2), .val (.ref a3), .val (.ref a4), .val (.int (Nat.toInt32 2)), .val (.ref b71), .val (.int (0 : Int32))] [(.int (0 : Int32)), (.ref a3), (.ref b19), (.ref b60)])) rfl rfl (hb hby d1_143)) ?_
  have V59'85 : Av Z h71 b19 .int (n + 1) (fun i => Value.int (Nat.toInt32 (cL [t1, s1, t0, s0] i))) := (V59'75.ext E71)
  refine hG _ T83 _ (mkF m 145 #[.val (.ref a1), .val (.int p2), .val (.ref a3), .val (.ref a4), .val (.int (Nat.toInt32 2)), .val (.ref b71), .val (.int (0 : Int32))] [(.int (Nat.toInt32 (cL [t1, s1, t0, s0] s0))), (.ref b60)]) (Av.ldI X83 hx hZ e83 V59'85 (j := x0) (i := s0) hx0 (by omega) (g := (mkF m 144 #[.val (.ref a1), .val (.int p2), .val (.ref a3), .val (.ref a4), .val (.int (Nat.toInt32 2)), .val (.ref b71), .val (.int (0 : Int32))] [(.int x0), (.ref b19), (.ref b60)])) rfl rfl (hb hby d1_144)) ?_
  refine hG _ T83 _ (mkF m 147 #[.val (.ref a1), .val (.int p2), .val (.ref a3), .val (.ref a4), .val (.int (Nat.toInt32 2)), .val (.ref b71), .val (.int (0 : Int32))] [(.ref b71), (.int (Nat.toInt32 (cL [t1, s1, t0, s0] s0))), (.ref b60)]) (fun t kq_ => XS.aload X83.here hx rfl (hb hby d1_145) rfl rfl kq_) ?_
  refine hG _ T83 _ (mkF m 148 #[.val (.ref a1), .val (.int p2), .val (.ref a3), .val (.ref a4), .val (.int (Nat.toInt32 2)), .val (.ref b71), .val (.int (0 : Int32))] [(.ref a3), (.ref b71), (.int (Nat.toInt32 (cL [t1, s1, t0, s0] s0))), (.ref b60)]) (fun t kq_ => XS.aloadN X83.here hx rfl (hb hby d1_147) rfl rfl kq_) ?_
  refine hG _ T83 _ (mkF m 150 #[.val (.ref a1), .val (.int p2), .val (.ref a3), .val (.ref a4), .val (.int (Nat.toInt32 2)), .val (.ref b71), .val (.int (0 : Int32))] [(.int (0 : Int32)), (.ref a3), (.ref b71), (.int (Nat.toInt32 (cL [t1, s1, t0, s0] s0))), (.ref b60)]) (fun t kq_ => XS.iload X83.here hx rfl (hb hby d1_148) rfl kq_) ?_
  refine hG _ T83 _ (mkF m 151 #[.val (.ref a1), .val (.int p2), .val (.ref a3), .val (.ref a4), .val (.int (Nat.toInt32 2)), .val (.ref b71), .val (.int (0 : Int32))] [(.int x0), (.ref b71), (.int (Nat.toInt32 (cL [t1, s1, t0, s0] s0))), (.ref b60)]) (Av.ldI X83 hx hZ e83 V_s'84 (j := (0 : Int32)) (i := 0) (by decide) (by decide) (g := (mkF m 150 #[.val (.ref a1), .val (.int p2), .val (.ref a3), .val (.ref a4), .val (.int (Nat.toInt32 2)), .val (.ref b71), .val (.int (0 : Int32))] [(.int (0 : Int32)), (.ref a3), (.ref b71), (.int (Nat.toInt32 (cL [t1, s1, t0, s0] s0))), (.ref b60)])) rfl rfl (hb hby d1_150)) ?_
  refine hG _ T83 _ (mkF m 152 #[.val (.ref a1), .val (.int p2), .val (.ref a3), .val (.ref a4), .val (.int (Nat.toInt32 2)), .val (.ref b71), .val (.int (0 : Int32))] [(.int x0), (.ref b71), (.int x0), (.ref b71), (.int (Nat.toInt32 (cL [t1, s1, t0, s0] s0))), (.ref b60)]) (fun t kq_ => Jvm.Free.XT.dup2 X83.here hx rfl (hb hby d1_151) rfl rfl rfl kq_) ?_
  refine hG _ T83 _ (mkF m 153 #[.val (.ref a1), .val (.int p2), .val (.ref a3), .val (.ref a4), .val (.int (Nat.toInt32 2)), .val (.ref b71), .val (.int (0 : Int32))] [(.int (Nat.toInt32 (cF [] s0))), (.int x0), (.ref b71), (.int (Nat.toInt32 (cL [t1, s1, t0, s0] s0))), (.ref b60)]) (Av.ldI X83 hx hZ e83 V79 (j := x0) (i := s0) hx0 (by omega) (g := (mkF m 152 #[.val (.ref a1), .val (.int p2), .val (.ref a3), .val (.ref a4), .val (.int (Nat.toInt32 2)), .val (.ref b71), .val (.int (0 : Int32))] [(.int x0), (.ref b71), (.int x0), (.ref b71), (.int (Nat.toInt32 (cL [t1, s1, t0, s0] s0))), (.ref b60)])) rfl rfl (hb hby d1_152)) ?_
  refine hG _ T83 _ (mkF m 154 #[.val (.ref a1), .val (.int p2), .val (.ref a3), .val (.ref a4), .val (.int (Nat.toInt32 2)), .val (.ref b71), .val (.int (0 : Int32))] [(.int (Nat.toInt32 (cF [] s0))), (.int x0), (.ref b71), (.int (Nat.toInt32 (cF [] s0))), (.int (Nat.toInt32 (cL [t1, s1, t0, s0] s0))), (.ref b60)]) (fun t kq_ => (by jvm_step X83.here [X83.here.top, hx, (hb hby d1_153), Value.category]; exact kq_)) ?_
  refine hG _ T83 _ (mkF m 155 #[.val (.ref a1), .val (.int p2), .val (.ref a3), .val (.ref a4), .val (.int (Nat.toInt32 2)), .val (.ref b71), .val (.int (0 : Int32))] [(.int (1 : Int32)), (.int (Nat.toInt32 (cF [] s0))), (.int x0), (.ref b71), (.int (Nat.toInt32 (cF [] s0))), (.int (Nat.toInt32 (cL [t1, s1, t0, s0] s0))), (.ref b60)]) (fun t kq_ => XS.iconst X83.here hx rfl (hb hby d1_154) kq_) ?_
  refine hG _ T83 _ (mkF m 156 #[.val (.ref a1), .val (.int p2), .val (.ref a3), .val (.ref a4), .val (.int (Nat.toInt32 2)), .val (.ref b71), .val (.int (0 : Int32))] [(.int ((Nat.toInt32 (cF [] s0)) + (1 : Int32))), (.int x0), (.ref b71), (.int (Nat.toInt32 (cF [] s0))), (.int (Nat.toInt32 (cL [t1, s1, t0, s0] s0))), (.ref b60)]) (fun t kq_ => XS.iadd X83.here hx rfl (hb hby d1_155) rfl kq_) ?_
  obtain ⟨T86, h86, X86, e86, W86, V86, st86⟩ := Av.stI X83 hx hZ e83 V79 (j := x0) (i := s0) hx0 (by omega) (g := (mkF m 156 #[.val (.ref a1), .val (.int p2), .val (.ref a3), .val (.ref a4), .val (.int (Nat.toInt32 2)), .val (.ref b71), .val (.int (0 : Int32))] [(.int ((Nat.toInt32 (cF [] s0)) + (1 : Int32))), (.int x0), (.ref b71), (.int (Nat.toInt32 (cF [] s0))), (.int (Nat.toInt32 (cL [t1, s1, t0, s0] s0))), (.ref b60)])) rfl rfl (hb hby d1_156)
  have V86' : Av Z h86 b71 .int n (fun i => Value.int (Nat.toInt32 (cF [s0] i))) := V86.cong (fun i _ => own_updF _ _ i)
  have Zs87 : n0 ≤ h86.size := Nat.le_trans Zs77 (Keep.of_wr W86).1
  have KK88 : Keep h0 h86 [a1] := KK78.wr W86 (Or.inr sz_b71)
  have N86 := Fr.snoc X86 N68 g_b71
  refine hG _ T86 _ (mkF m 157 #[.val (.ref a1), .val (.int p2), .val (.ref a3), .val (.ref a4), .val (.int (Nat.toInt32 2)), .val (.ref b71), .val (.int (0 : Int32))] [(.int (Nat.toInt32 (cF [] s0))), (.int (Nat.toInt32 (cL [t1, s1, t0, s0] s0))), (.ref b60)]) st86 ?_
  refine hG _ T86 _ (mkF m 158 #[.val (.ref a1), .val (.int p2), .val (.ref a3), .val (.ref a4), .val (.int (Nat.toInt32 2)), .val (.ref b71), .val (.int (0 : Int32))] [(.int ((Nat.toInt32 (cL [t1, s1, t0, s0] s0)) + (Nat.toInt32 (cF [] s0)))), (.ref b60)]) (fun t kq_ => XS.iadd X86.here hx rfl (hb hby d1_157) rfl kq_) ?_
  refine hG _ T86 _ (mkF m 160 #[.val (.ref a1), .val (.int p2), .val (.ref a3), .val (.ref a4), .val (.int (Nat.toInt32 2)), .val (.ref b71), .val (.int (0 : Int32))] [(.int (0 : Int32)), (.int ((Nat.toInt32 (cL [t1, s1, t0, s0] s0)) + (Nat.toInt32 (cF [] s0)))), (.ref b60)]) (fun t kq_ => XS.iload X86.here hx rfl (hb hby d1_158) rfl kq_) ?_
  have hb_s0 : cL [t1, s1, t0, s0] s0 + cF [] s0 < 4 := own_b_s0 s0 t0 s1 t1
  have V_b60'89 : Av Z h86 b60 .int 4 (fun _ => (.int (0 : Int32))) := ((V_b60'76.ext E71).other W86 ne_b60_b71)
  obtain ⟨T90, h90, X90, e90, W90, V90, st90⟩ := Av.stI X86 hx hZ e86 V_b60'89 (j := ((Nat.toInt32 (cL [t1, s1, t0, s0] s0)) + (Nat.toInt32 (cF [] s0)))) (i := (cL [t1, s1, t0, s0] s0 + cF [] s0)) (own_idx (by omega)) hb_s0 (g := (mkF m 160 #[.val (.ref a1), .val (.int p2), .val (.ref a3), .val (.ref a4), .val (.int (Nat.toInt32 2)), .val (.ref b71), .val (.int (0 : Int32))] [(.int (0 : Int32)), (.int ((Nat.toInt32 (cL [t1, s1, t0, s0] s0)) + (Nat.toInt32 (cF [] s0)))), (.ref b60)])) rfl rfl (hb hby d1_160)
  have Zs91 : n0 ≤ h90.size := Nat.le_trans Zs87 (Keep.of_wr W90).1
  have KK92 : Keep h0 h90 [a1] := KK88.wr W90 (Or.inr sz_b60)
  have N90 := Fr.snoc X90 N86 g_b60
  refine hG _ T90 _ (mkF m 161 #[.val (.ref a1), .val (.int p2), .val (.ref a3), .val (.ref a4), .val (.int (Nat.toInt32 2)), .val (.ref b71), .val (.int (0 : Int32))] []) st90 ?_
  refine hG _ T90 _ (mkF m 162 #[.val (.ref a1), .val (.int p2), .val (.ref a3), .val (.ref a4), .val (.int (Nat.toInt32 2)), .val (.ref b71), .val (.int (0 : Int32))] [(.ref a1)]) (fun t kq_ => XS.aloadN X90.here hx rfl (hb hby d1_161) rfl rfl kq_) ?_
  have F_edges_a1_68'93 : Fld Z h90 a1 "com/example/polite_edges/politeedges/Incidences" "edges" "[I" (.ref b60) := ((F_edges_a1_68'80.other W86 (Or.inl ne_a1_b71)).other W90 (Or.inl ne_a1_b60))
  obtain ⟨T94, X94, e94, st94⟩ := getF X90 hx hZ hown (host := "") (Or.inl (tw17 hw)) Via.refl e90 F_edges_a1_68'93 (g := (mkF m 162 #[.val (.ref a1), .val (.int p2), .val (.ref a3), .val (.ref a4), .val (.int (Nat.toInt32 2)), .val (.ref b71), .val (.int (0 : Int32))] [(.ref a1)])) rfl rfl (hb hby d1_162)
  refine hG _ T94 _ (mkF m 165 #[.val (.ref a1), .val (.int p2), .val (.ref a3), .val (.ref a4), .val (.int (Nat.toInt32 2)), .val (.ref b71), .val (.int (0 : Int32))] [(.ref b60)]) st94 ?_
  refine hG _ T94 _ (mkF m 166 #[.val (.ref a1), .val (.int p2), .val (.ref a3), .val (.ref a4), .val (.int (Nat.toInt32 2)), .val (.ref b71), .val (.int (0 : Int32))] [(.ref a1), (.ref b60)]) (fun t kq_ => XS.aloadN X94.here hx rfl (hb hby d1_165) rfl rfl kq_) ?_
  have F_starts_a1_27'95 : Fld Z h90 a1 "com/example/polite_edges/politeedges/Incidences" "starts" "[I" (.ref b19) := ((F_starts_a1_27'82.other W86 (Or.inl ne_a1_b71)).other W90 (Or.inl ne_a1_b60))
  obtain ⟨T96, X96, e96, st96⟩ := getF X94 hx hZ hown (host := "") (Or.inl (tw15 hw)) Via.refl e94 F_starts_a1_27'95 (g := (mkF m 166 #[.val (.ref a1), .val (.int p2), .val (.ref a3), .val (.ref a4), .val (.int (Nat.toInt32 2)), .val (.ref b71), .val (.int (0 : Int32))] [(.ref a1), (.ref b60)])) rfl rfl (hb hby d1_166)
  refine hG _ T96 _ (mkF m 169 #[.val (.ref a1), .val (.int p2), .val (.ref a3), .val (.ref a4), .val (.int (Nat.toInt32 2)), .val (.ref b71), .val (.int (0 : Int32))] [(.ref b19), (.ref b60)]) st96 ?_
  refine hG _ T96 _ (mkF m 170 #[.val (.ref a1), .val (.int p2), .val (.ref a3), .val (.ref a4), .val (.int (Nat.toInt32 2)), .val (.ref b71), .val (.int (0 : Int32))] [(.ref a4), (.ref b19), (.ref b60)]) (fun t kq_ => XS.aloadN X96.here hx rfl (hb hby d1_169) rfl rfl kq_) ?_
  refine hG _ T96 _ (mkF m 172 #[.val (.ref a1), .val (.int p2), .val (.ref a3), .val (.ref a4), .val (.int (Nat.toInt32 2)), .val (.ref b71), .val (.int (0 : Int32))] [(.int (0 : Int32)), (.ref a4), (.ref b19), (.ref b60)]) (fun t kq_ => XS.iload X96.here hx rfl (hb hby d1_170) rfl kq_) ?_
  have V_t'97 : Av Z h90 a4 .int 2 (two y0 y1) := (((V_t'74.ext E71).other W86 ne_a4_b71).other W90 ne_a4_b60)
  refine hG _ T96 _ (mkF m 173 #[.val (.ref a1), .val (.int p2), .val (.ref a3), .val (.ref a4), .val (.int (Nat.toInt32 2)), .val (.ref b71), .val (.int (0 : Int32))] [(.int y0), (.ref b19), (.ref b60)]) (Av.ldI X96 hx hZ e96 V_t'97 (j := (0 : Int32)) (i := 0) (by decide) (by decide) (g := (mkF m 172 #[.val (.ref a1), .val (.int p2), .val (.ref a3), .val (.ref a4), .val (.int (Nat.toInt32 2)), .val (.ref b71), .val (.int (0 : Int32))] [(.int (0 : Int32)), (.ref a4), (.ref b19), (.ref b60)])) rfl rfl (hb hby d1_172)) ?_
  have V59'98 : Av Z h90 b19 .int (n + 1) (fun i => Value.int (Nat.toInt32 (cL [t1, s1, t0, s0] i))) := ((V59'85.other W86 ne_b19_b71).other W90 ne_b19_b60)
  refine hG _ T96 _ (mkF m 174 #[.val (.ref a1), .val (.int p2), .val (.ref a3), .val (.ref a4), .val (.int (Nat.toInt32 2)), .val (.ref b71), .val (.int (0 : Int32))] [(.int (Nat.toInt32 (cL [t1, s1, t0, s0] t0))), (.ref b60)]) (Av.ldI X96 hx hZ e96 V59'98 (j := y0) (i := t0) hy0 (by omega) (g := (mkF m 173 #[.val (.ref a1), .val (.int p2), .val (.ref a3), .val (.ref a4), .val (.int (Nat.toInt32 2)), .val (.ref b71), .val (.int (0 : Int32))] [(.int y0), (.ref b19), (.ref b60)])) rfl rfl (hb hby d1_173)) ?_
  refine hG _ T96 _ (mkF m 176 #[.val (.ref a1), .val (.int p2), .val (.ref a3), .val (.ref a4), .val (.int (Nat.toInt32 2)), .val (.ref b71), .val (.int (0 : Int32))] [(.ref b71), (.int (Nat.toInt32 (cL [t1, s1, t0, s0] t0))), (.ref b60)]) (fun t kq_ => XS.aload X96.here hx rfl (hb hby d1_174) rfl rfl kq_) ?_
  refine hG _ T96 _ (mkF m 177 #[.val (.ref a1), .val (.int p2), .val (.ref a3), .val (.ref a4), .val (.int (Nat.toInt32 2)), .val (.ref b71), .val (.int (0 : Int32))] [(.ref a4), (.ref b71), (.int (Nat.toInt32 (cL [t1, s1, t0, s0] t0))), (.ref b60)]) (fun t kq_ => XS.aloadN X96.here hx rfl (hb hby d1_176) rfl rfl kq_) ?_
  refine hG _ T96 _ (mkF m 179 #[.val (.ref a1), .val (.int p2), .val (.ref a3), .val (.ref a4), .val (.int (Nat.toInt32 2)), .val (.ref b71), .val (.int (0 : Int32))] [(.int (0 : Int32)), (.ref a4), (.ref b71), (.int (Nat.toInt32 (cL [t1, s1, t0, s0] t0))), (.ref b60)]) (fun t kq_ => XS.iload X96.here hx rfl (hb hby d1_177) rfl kq_) ?_
  refine hG _ T96 _ (mkF m 180 #[.val (.ref a1), .val (.int p2), .val (.ref a3), .val (.ref a4), .val (.int (Nat.toInt32 2)), .val (.ref b71), .val (.int (0 : Int32))] [(.int y0), (.ref b71), (.int (Nat.toInt32 (cL [t1, s1, t0, s0] t0))), (.ref b60)]) (Av.ldI X96 hx hZ e96 V_t'97 (j := (0 : Int32)) (i := 0) (by decide) (by decide) (g := (mkF m 179 #[.val (.ref a1), .val (.int p2), .val (.ref a3), .val (.ref a4), .val (.int (Nat.toInt32 2)), .val (.ref b71), .val (.int (0 : Int32))] [(.int (0 : Int32)), (.ref a4), (.ref b71), (.int (Nat.toInt32 (cL [t1, s1, t0, s0] t0))), (.ref b60)])) rfl rfl (hb hby d1_179)) ?_
  refine hG _ T96 _ (mkF m 181 #[.val (.ref a1), .val (.int p2), .val (.ref a3), .val (.ref a4), .val (.int (Nat.toInt32 2)), .val (.ref b71), .val (.int (0 : Int32))] [(.int y0), (.ref b71), (.int y0), (.ref b71), (.int (Nat.toInt32 (cL [t1, s1, t0, s0] t0))), (.ref b60)]) (fun t kq_ => Jvm.Free.XT.dup2 X96.here hx rfl (hb hby d1_180) rfl rfl rfl kq_) ?_
  have V86'99 : Av Z h90 b71 .int n (fun i => Value.int (Nat.toInt32 (cF [s0] i))) := (V86'.other W90 (Ne.symm ne_b60_b71))
  refine hG _ T96 _ (mkF m 182 #[.val (.ref a1), .val (.int p2), .val (.ref a3), .val (.ref a4), .val (.int (Nat.toInt32 2)), .val (.ref b71), .val (.int (0 : Int32))] [(.int (Nat.toInt32 (cF [s0] t0))), (.int y0), (.ref b71), (.int (Nat.toInt32 (cL [t1, s1, t0, s0] t0))), (.ref b60)]) (Av.ldI X96 hx hZ e96 V86'99 (j := y0) (i := t0) hy0 (by omega) (g := (mkF m 181 #[.val (.ref a1), .val (.int p2), .val (.ref a3), .val (.ref a4), .val (.int (Nat.toInt32 2)), .val (.ref b71), .val (.int (0 : Int32))] [(.int y0), (.ref b71), (.int y0), (.ref b71), (.int (Nat.toInt32 (cL [t1, s1, t0, s0] t0))), (.ref b60)])) rfl rfl (hb hby d1_181)) ?_
  refine hG _ T96 _ (mkF m 183 #[.val (.ref a1), .val (.int p2), .val (.ref a3), .val (.ref a4), .val (.int (Nat.toInt32 2)), .val (.ref b71), .val (.int (0 : Int32))] [(.int (Nat.toInt32 (cF [s0] t0))), (.int y0), (.ref b71), (.int (Nat.toInt32 (cF [s0] t0))), (.int (Nat.toInt32 (cL [t1, s1, t0, s0] t0))), (.ref b60)]) (fun t kq_ => (by jvm_step X96.here [X96.here.top, hx, (hb hby d1_182), Value.category]; exact kq_)) ?_
  refine hG _ T96 _ (mkF m 184 #[.val (.ref a1), .val (.int p2), .val (.ref a3), .val (.ref a4), .val (.int (Nat.toInt32 2)), .val (.ref b71), .val (.int (0 : Int32))] [(.int (1 : Int32)), (.int (Nat.toInt32 (cF [s0] t0))), (.int y0), (.ref b71), (.int (Nat.toInt32 (cF [s0] t0))), (.int (Nat.toInt32 (cL [t1, s1, t0, s0] t0))), (.ref b60)]) (fun t kq_ => XS.iconst X96.here hx rfl (hb hby d1_183) kq_) ?_
  refine hG _ T96 _ (mkF m 185 #[.val (.ref a1), .val (.int p2), .val (.ref a3), .val (.ref a4), .val (.int (Nat.toInt32 2)), .val (.ref b71), .val (.int (0 : Int32))] [(.int ((Nat.toInt32 (cF [s0] t0)) + (1 : Int32))), (.int y0), (.ref b71), (.int (Nat.toInt32 (cF [s0] t0))), (.int (Nat.toInt32 (cL [t1, s1, t0, s0] t0))), (.ref b60)]) (fun t kq_ => XS.iadd X96.here hx rfl (hb hby d1_184) rfl kq_) ?_
  obtain ⟨T100, h100, X100, e100, W100, V100, st100⟩ := Av.stI X96 hx hZ e96 V86'99 (j := y0) (i := t0) hy0 (by omega) (g := (mkF m 185 #[.val (.ref a1), .val (.int p2), .val (.ref a3), .val (.ref a4), .val (.int (Nat.toInt32 2)), .val (.ref b71), .val (.int (0 : Int32))] [(.int ((Nat.toInt32 (cF [s0] t0)) + (1 : Int32))), (.int y0), (.ref b71), (.int (Nat.toInt32 (cF [s0] t0))), (.int (Nat.toInt32 (cL [t1, s1, t0, s0] t0))), (.ref b60)])) rfl rfl (hb hby d1_185)
  have V100' : Av Z h100 b71 .int n (fun i => Value.int (Nat.toInt32 (cF [t0, s0] i))) := V100.cong (fun i _ => own_updF _ _ i)
  have Zs101 : n0 ≤ h100.size := Nat.le_trans Zs91 (Keep.of_wr W100).1
  have KK102 : Keep h0 h100 [a1] := KK92.wr W100 (Or.inr sz_b71)
  have N100 := Fr.snoc X100 N90 g_b71
  refine hG _ T100 _ (mkF m 186 #[.val (.ref a1), .val (.int p2), .val (.ref a3), .val (.ref a4), .val (.int (Nat.toInt32 2)), .val (.ref b71), .val (.int (0 : Int32))] [(.int (Nat.toInt32 (cF [s0] t0))), (.int (Nat.toInt32 (cL [t1, s1, t0, s0] t0))), (.ref b60)]) st100 ?_
  refine hG _ T100 _ (mkF m 187 #[.val (.ref a1), .val (.int p2), .val (.ref a3), .val (.ref a4), .val (.int (Nat.toInt32 2)), .val (.ref b71), .val (.int (0 : Int32))] [(.int ((Nat.toInt32 (cL [t1, s1, t0, s0] t0)) + (Nat.toInt32 (cF [s0] t0)))), (.ref b60)]) (fun t kq_ => XS.iadd X100.here hx rfl (hb hby d1_186) rfl kq_) ?_
  refine hG _ T100 _ (mkF m 189 #[.val (.ref a1), .val (.int p2), .val (.ref a3), .val (.ref a4), .val (.int (Nat.toInt32 2)), .val (.ref b71), .val (.int (0 : Int32))] [(.int (0 : Int32)), (.int ((Nat.toInt32 (cL [t1, s1, t0, s0] t0)) + (Nat.toInt32 (cF [s0] t0)))), (.ref b60)]) (fun t kq_ => XS.iload X100.here hx rfl (hb hby d1_187) rfl kq_) ?_
  have hb_t0 : cL [t1, s1, t0, s0] t0 + cF [s0] t0 < 4 := own_b_t0 s0 t0 s1 t1
  have V90'103 : Av Z h100 b60 .int 4 (upd (fun _ => (.int (0 : Int32))) (cL [t1, s1, t0, s0] s0 + cF [] s0) (.int (0 : Int32))) := (V90.other W100 ne_b60_b71)
  obtain ⟨T104, h104, X104, e104, W104, V104, st104⟩ := Av.stI X100 hx hZ e100 V90'103 (j := ((Nat.toInt32 (cL [t1, s1, t0, s0] t0)) + (Nat.toInt32 (cF [s0] t0)))) (i := (cL [t1, s1, t0, s0] t0 + cF [s0] t0)) (own_idx (by omega)) hb_t0 (g := (mkF m 189 #[.val (.ref a1), .val (.int p2), .val (.ref a3), .val (.ref a4), .val (.int (Nat.toInt32 2)), .val (.ref b71), .val (.int (0 : Int32))] [(.int (0 : Int32)), (.int ((Nat.toInt32 (cL [t1, s1, t0, s0] t0)) + (Nat.toInt32 (cF [s0] t0)))), (.ref b60)])) rfl rfl (hb hby d1_189)
  have Zs105 : n0 ≤ h104.size := Nat.le_trans Zs101 (Keep.of_wr W104).1
  have KK106 : Keep h0 h104 [a1] := KK102.wr W104 (Or.inr sz_b60)
  have N104 := Fr.snoc X104 N100 g_b60
  refine hG _ T104 _ (mkF m 190 #[.val (.ref a1), .val (.int p2), .val (.ref a3), .val (.ref a4), .val (.int (Nat.toInt32 2)), .val (.ref b71), .val (.int (0 : Int32))] []) st104 ?_
  refine hG _ T104 _ (mkF m 193 #[.val (.ref a1), .val (.int p2), .val (.ref a3), .val (.ref a4), .val (.int (Nat.toInt32 2)), .val (.ref b71), .val (.int ((0 : Int32) + (1 : Int32)))] []) (fun t kq_ => XS.iinc X104.here hx rfl (hb hby d1_190) rfl (l' := #[.val (.ref a1), .val (.int p2), .val (.ref a3), .val (.ref a4), .val (.int (Nat.toInt32 2)), .val (.ref b71), .val (.int ((0 : Int32) + (1 : Int32)))]) rfl kq_) ?_
  refine hG _ T104 _ (mkF m 125 #[.val (.ref a1), .val (.int p2), .val (.ref a3), .val (.ref a4), .val (.int (Nat.toInt32 2)), .val (.ref b71), .val (.int ((0 : Int32) + (1 : Int32)))] []) (fun t kq_ => XS.goto X104.here hx rfl (pc0 := 193) (pc' := 125) rfl (hb hby d1_193) (by decide) (by decide) kq_) ?_
  refine hG _ T104 _ (mkF m 127 #[.val (.ref a1), .val (.int p2), .val (.ref a3), .val (.ref a4), .val (.int (Nat.toInt32 2)), .val (.ref b71), .val (.int ((0 : Int32) + (1 : Int32)))] [(.int ((0 : Int32) + (1 : Int32)))]) (fun t kq_ => XS.iload X104.here hx rfl (hb hby d1_125) rfl kq_) ?_
  refine hG _ T104 _ (mkF m 129 #[.val (.ref a1), .val (.int p2), .val (.ref a3), .val (.ref a4), .val (.int (Nat.toInt32 2)), .val (.ref b71), .val (.int ((0 : Int32) + (1 : Int32)))] [(.int (Nat.toInt32 2)), (.int ((0 : Int32) + (1 : Int32)))]) (fun t kq_ => XS.iload X104.here hx rfl (hb hby d1_127) rfl kq_) ?_
  refine hG _ T104 _ (mkF m 132 #[.val (.ref a1), .val (.int p2), .val (.ref a3), .val (.ref a4), .val (.int (Nat.toInt32 2)), .val (.ref b71), .val (.int ((0 : Int32) + (1 : Int32)))] []) (fun t kq_ => XS.icmpNo X104.here hx rfl (hb hby d1_129) rfl (tlt (by decide)).2.1 kq_) ?_
  refine hG _ T104 _ (mkF m 133 #[.val (.ref a1), .val (.int p2), .val (.ref a3), .val (.ref a4), .val (.int (Nat.toInt32 2)), .val (.ref b71), .val (.int ((0 : Int32) + (1 : Int32)))] [(.ref a1)]) (fun t kq_ => XS.aloadN X104.here hx rfl (hb hby d1_132) rfl rfl kq_) ?_
  have F_edges_a1_68'107 : Fld Z h104 a1 "com/example/polite_edges/politeedges/Incidences" "edges" "[I" (.ref b60) := ((F_edges_a1_68'93.other W100 (Or.inl ne_a1_b71)).other W104 (Or.inl ne_a1_b60))
  obtain ⟨T108, X108, e108, st108⟩ := getF X104 hx hZ hown (host := "") (Or.inl (tw17 hw)) Via.refl e104 F_edges_a1_68'107 (g := (mkF m 133 #[.val (.ref a1), .val (.int p2), .val (.ref a3), .val (.ref a4), .val (.int (Nat.toInt32 2)), .val (.ref b71), .val (.int ((0 : Int32) + (1 : Int32)))] [(.ref a1)])) rfl rfl (hb hby d1_133)
  refine hG _ T108 _ (mkF m 136 #[.val (.ref a1), .val (.int p2), .val (.ref a3), .val (.ref a4), .val (.int (Nat.toInt32 2)), .val (.ref b71), .val (.int ((0 : Int32) + (1 : Int32)))] [(.ref b60)]) st108 ?_
  refine hG _ T108 _ (mkF m 137 #[.val (.ref a1), .val (.int p2), .val (.ref a3), .val (.ref a4), .val (.int (Nat.toInt32 2)), .val (.ref b71), .val (.int ((0 : Int32) + (1 : Int32)))] [(.ref a1), (.ref b60)]) (fun t kq_ => XS.aloadN X108.here hx rfl (hb hby d1_136) rfl rfl kq_) ?_
  have F_starts_a1_27'109 : Fld Z h104 a1 "com/example/polite_edges/politeedges/Incidences" "starts" "[I" (.ref b19) := ((F_starts_a1_27'95.other W100 (Or.inl ne_a1_b71)).other W104 (Or.inl ne_a1_b60))
  obtain ⟨T110, X110, e110, st110⟩ := getF X108 hx hZ hown (host := "") (Or.inl (tw15 hw)) Via.refl e108 F_starts_a1_27'109 (g := (mkF m 137 #[.val (.ref a1), .val (.int p2), .val (.ref a3), .val (.ref a4), .val (.int (Nat.toInt32 2)), .val (.ref b71), .val (.int ((0 : Int32) + (1 : Int32)))] [(.ref a1), (.ref b60)])) rfl rfl (hb hby d1_137)
  refine hG _ T110 _ (mkF m 140 #[.val (.ref a1), .val (.int p2), .val (.ref a3), .val (.ref a4), .val (.int (Nat.toInt32 2)), .val (.ref b71), .val (.int ((0 : Int32) + (1 : Int32)))] [(.ref b19), (.ref b60)]) st110 ?_
  refine hG _ T110 _ (mkF m 141 #[.val (.ref a1), .val (.int p2), .val (.ref a3), .val (.ref a4), .val (.int (Nat.toInt32 2)), .val (.ref b71), .val (.int ((0 : Int32) + (1 : Int32)))] [(.ref a3), (.ref b19), (.ref b60)]) (fun t kq_ => XS.aloadN X110.here hx rfl (hb hby d1_140) rfl rfl kq_) ?_
  refine hG _ T110 _ (mkF m 143 #[.val (.ref a1), .val (.int p2), .val (.ref a3), .val (.ref a4), .val (.int (Nat.toInt32 2)), .val (.ref b71), .val (.int ((0 : Int32) + (1 : Int32)))] [(.int ((0 : Int32) + (1 : Int32))), (.ref a3), (.ref b19), (.ref b60)]) (fun t kq_ => XS.iload X110.here hx rfl (hb hby d1_141) rfl kq_) ?_
  have V_s'111 : Av Z h104 a3 .int 2 (two x0 x1) := ((((V_s'84.other W86 ne_a3_b71).other W90 ne_a3_b60).other W100 ne_a3_b71).other W104 ne_a3_b60)
  refine hG _ T110 _ (mkF m 144 #[.val (.ref a1), .val (.int p2), .val (.ref a3), .val (.ref a4), .val (.int (Nat.toInt32 2)), .val (.ref b71), .val (.int ((0 : Int32) + (1 : Int32)))] [(.int x1), (.ref b19), (.ref b60)]) (Av.ldI X110 hx hZ e110 V_s'111 (j := ((0 : Int32) + (1 : Int32))) (i := 1) (by decide) (by decide) (g := (mkF m 143 #[.val (.ref a1), .val (.int p2), .val (.ref a3), .val (.ref a4), .val (.int (Nat.toInt32 2)), .val (.ref b71), .val (.int ((0 : Int32) + (1 : Int32)))] [(.int ((0 : Int32) + (1 : Int32))), (.ref a3), (.ref b19), (.ref b60)])) rfl rfl (hb hby d1_143)) ?_
  have V59'112 : Av Z h104 b19 .int (n + 1) (fun i => Value.int (Nat.toInt32 (cL [t1, s1, t0, s0] i))) := ((V59'98.other W100 ne_b19_b71).other W104 ne_b19_b60)
  refine hG _ T110 _ (mkF m 145 #[.val (.ref a1), .val (.int p2), .val (.ref a3), .val (.ref a4), .val (.int (Nat.toInt32 2)), .val (.ref b71), .val (.int ((0 : Int32) + (1 : Int32)))] [(.int (Nat.toInt32 (cL [t1, s1, t0, s0] s1))), (.ref b60)]) (Av.ldI X110 hx hZ e110 V59'112 (j := x1) (i := s1) hx1 (by omega) (g := (mkF m 144 #[.val (.ref a1), .val (.int p2), .val (.ref a3), .val (.ref a4), .val (.int (Nat.toInt32 2)), .val (.ref b71), .val (.int ((0 : Int32) + (1 : Int32)))] [(.int x1), (.ref b19), (.ref b60)])) rfl rfl (hb hby d1_144)) ?_
  refine hG _ T110 _ (mkF m 147 #[.val (.ref a1), .val (.int p2), .val (.ref a3), .val (.ref a4), .val (.int (Nat.toInt32 2)), .val (.ref b71), .val (.int ((0 : Int32) + (1 : Int32)))] [(.ref b71), (.int (Nat.toInt32 (cL [t1, s1, t0, s0] s1))), (.ref b60)]) (fun t kq_ => XS.aload X110.here hx rfl (hb hby d1_145) rfl rfl kq_) ?_
  refine hG _ T110 _ (mkF m 148 #[.val (.ref a1), .val (.int p2), .val (.ref a3), .val (.ref a4), .val (.int (Nat.toInt32 2)), .val (.ref b71), .val (.int ((0 : Int32) + (1 : Int32)))] [(.ref a3), (.ref b71), (.int (Nat.toInt32 (cL [t1, s1, t0, s0] s1))), (.ref b60)]) (fun t kq_ => XS.aloadN X110.here hx rfl (hb hby d1_147) rfl rfl kq_) ?_
  refine hG _ T110 _ (mkF m 150 #[.val (.ref a1), .val (.int p2), .val (.ref a3), .val (.ref a4), .val (.int (Nat.toInt32 2)), .val (.ref b71), .val (.int ((0 : Int32) + (1 : Int32)))] [(.int ((0 : Int32) + (1 : Int32))), (.ref a3), (.ref b71), (.int (Nat.toInt32 (cL [t1, s1, t0, s0] s1))), (.ref b60)]) (fun t kq_ => XS.iload X110.here hx rfl (hb hby d1_148) rfl kq_) ?_
  refine hG _ T110 _ (mkF m 151 #[.val (.ref a1), .val (.int p2), .val (.ref a3), .val (.ref a4), .val (.int (Nat.toInt32 2)), .val (.ref b71), .val (.int ((0 : Int32) + (1 : Int32)))] [(.int x1), (.ref b71), (.int (Nat.toInt32 (cL [t1, s1, t0, s0] s1))), (.ref b60)]) (Av.ldI X110 hx hZ e110 V_s'111 (j := ((0 : Int32) + (1 : Int32))) (i := 1) (by decide) (by decide) (g := (mkF m 150 #[.val (.ref a1), .val (.int p2), .val (.ref a3), .val (.ref a4), .val (.int (Nat.toInt32 2)), .val (.ref b71), .val (.int ((0 : Int32) + (1 : Int32)))] [(.int ((0 : Int32) + (1 : Int32))), (.ref a3), (.ref b71), (.int (Nat.toInt32 (cL [t1, s1, t0, s0] s1))), (.ref b60)])) rfl rfl (hb hby d1_150)) ?_
  refine hG _ T110 _ (mkF m 152 #[.val (.ref a1), .val (.int p2), .val (.ref a3), .val (.ref a4), .val (.int (Nat.toInt32 2)), .val (.ref b71), .val (.int ((0 : Int32) + (1 : Int32)))] [(.int x1), (.ref b71), (.int x1), (.ref b71), (.int (Nat.toInt32 (cL [t1, s1, t0, s0] s1))), (.ref b60)]) (fun t kq_ => Jvm.Free.XT.dup2 X110.here hx rfl (hb hby d1_151) rfl rfl rfl kq_) ?_
  have V100'113 : Av Z h104 b71 .int n (fun i => Value.int (Nat.toInt32 (cF [t0, s0] i))) := (V100'.other W104 (Ne.symm ne_b60_b71))
  refine hG _ T110 _ (mkF m 153 #[.val (.ref a1), .val (.int p2), .val (.ref a3), .val (.ref a4), .val (.int (Nat.toInt32 2)), .val (.ref b71), .val (.int ((0 : Int32) + (1 : Int32)))] [(.int (Nat.toInt32 (cF [t0, s0] s1))), (.int x1), (.ref b71), (.int (Nat.toInt32 (cL [t1, s1, t0, s0] s1))), (.ref b60)]) (Av.ldI X110 hx hZ e110 V100'113 (j := x1) (i := s1) hx1 (by omega) (g := (mkF m 152 #[.val (.ref a1), .val (.int p2), .val (.ref a3), .val (.ref a4), .val (.int (Nat.toInt32 2)), .val (.ref b71), .val (.int ((0 : Int32) + (1 : Int32)))] [(.int x1), (.ref b71), (.int x1), (.ref b71), (.int (Nat.toInt32 (cL [t1, s1, t0, s0] s1))), (.ref b60)])) rfl rfl (hb hby d1_152)) ?_
  refine hG _ T110 _ (mkF m 154 #[.val (.ref a1), .val (.int p2), .val (.ref a3), .val (.ref a4), .val (.int (Nat.toInt32 2)), .val (.ref b71), .val (.int ((0 : Int32) + (1 : Int32)))] [(.int (Nat.toInt32 (cF [t0, s0] s1))), (.int x1), (.ref b71), (.int (Nat.toInt32 (cF [t0, s0] s1))), (.int (Nat.toInt32 (cL [t1, s1, t0, s0] s1))), (.ref b60)]) (fun t kq_ => (by jvm_step X110.here [X110.here.top, hx, (hb hby d1_153), Value.category]; exact kq_)) ?_
  refine hG _ T110 _ (mkF m 155 #[.val (.ref a1), .val (.int p2), .val (.ref a3), .val (.ref a4), .val (.int (Nat.toInt32 2)), .val (.ref b71), .val (.int ((0 : Int32) + (1 : Int32)))] [(.int (1 : Int32)), (.int (Nat.toInt32 (cF [t0, s0] s1))), (.int x1), (.ref b71), (.int (Nat.toInt32 (cF [t0, s0] s1))), (.int (Nat.toInt32 (cL [t1, s1, t0, s0] s1))), (.ref b60)]) (fun t kq_ => XS.iconst X110.here hx rfl (hb hby d1_154) kq_) ?_
  refine hG _ T110 _ (mkF m 156 #[.val (.ref a1), .val (.int p2), .val (.ref a3), .val (.ref a4), .val (.int (Nat.toInt32 2)), .val (.ref b71), .val (.int ((0 : Int32) + (1 : Int32)))] [(.int ((Nat.toInt32 (cF [t0, s0] s1)) + (1 : Int32))), (.int x1), (.ref b71), (.int (Nat.toInt32 (cF [t0, s0] s1))), (.int (Nat.toInt32 (cL [t1, s1, t0, s0] s1))), (.ref b60)]) (fun t kq_ => XS.iadd X110.here hx rfl (hb hby d1_155) rfl kq_) ?_
  obtain ⟨T114, h114, X114, e114, W114, V114, st114⟩ := Av.stI X110 hx hZ e110 V100'113 (j := x1) (i := s1) hx1 (by omega) (g := (mkF m 156 #[.val (.ref a1), .val (.int p2), .val (.ref a3), .val (.ref a4), .val (.int (Nat.toInt32 2)), .val (.ref b71), .val (.int ((0 : Int32) + (1 : Int32)))] [(.int ((Nat.toInt32 (cF [t0, s0] s1)) + (1 : Int32))), (.int x1), (.ref b71), (.int (Nat.toInt32 (cF [t0, s0] s1))), (.int (Nat.toInt32 (cL [t1, s1, t0, s0] s1))), (.ref b60)])) rfl rfl (hb hby d1_156)
  have V114' : Av Z h114 b71 .int n (fun i => Value.int (Nat.toInt32 (cF [s1, t0, s0] i))) := V114.cong (fun i _ => own_updF _ _ i)
  have Zs115 : n0 ≤ h114.size := Nat.le_trans Zs105 (Keep.of_wr W114).1
  have KK116 : Keep h0 h114 [a1] := KK106.wr W114 (Or.inr sz_b71)
  have N114 := Fr.snoc X114 N104 g_b71
  refine hG _ T114 _ (mkF m 157 #[.val (.ref a1), .val (.int p2), .val (.ref a3), .val (.ref a4), .val (.int (Nat.toInt32 2)), .val (.ref b71), .val (.int ((0 : Int32) + (1 : Int32)))] [(.int (Nat.toInt32 (cF [t0, s0] s1))), (.int (Nat.toInt32 (cL [t1, s1, t0, s0] s1))), (.ref b60)]) st114 ?_
  refine hG _ T114 _ (mkF m 158 #[.val (.ref a1), .val (.int p2), .val (.ref a3), .val (.ref a4), .val (.int (Nat.toInt32 2)), .val (.ref b71), .val (.int ((0 : Int32) + (1 : Int32)))] [(.int ((Nat.toInt32 (cL [t1, s1, t0, s0] s1)) + (Nat.toInt32 (cF [t0, s0] s1)))), (.ref b60)]) (fun t kq_ => XS.iadd X114.here hx rfl (hb hby d1_157) rfl kq_) ?_
  refine hG _ T114 _ (mkF m 160 #[.val (.ref a1), .val (.int p2), .val (.ref a3), .val (.ref a4), .val (.int (Nat.toInt32 2)), .val (.ref b71), .val (.int ((0 : Int32) + (1 : Int32)))] [(.int ((0 : Int32) + (1 : Int32))), (.int ((Nat.toInt32 (cL [t1, s1, t0, s0] s1)) + (Nat.toInt32 (cF [t0, s0] s1)))), (.ref b60)]) (fun t kq_ => XS.iload X114.here hx rfl (hb hby d1_158) rfl kq_) ?_
  have hb_s1 : cL [t1, s1, t0, s0] s1 + cF [t0, s0] s1 < 4 := own_b_s1 s0 t0 s1 t1
  have V104'117 : Av Z h114 b60 .int 4 (upd (upd (fun _ => (.int (0 : Int32))) (cL [t1, s1, t0, s0] s0 + cF [] s0) (.int (0 : Int32))) (cL [t1, s1, t0, s0] t0 + cF [s0] t0) (.int (0 : Int32))) := (V104.other W114 ne_b60_b71)
  obtain ⟨T118, h118, X118, e118, W118, V118, st118⟩ := Av.stI X114 hx hZ e114 V104'117 (j := ((Nat.toInt32 (cL [t1, s1, t0, s0] s1)) + (Nat.toInt32 (cF [t0, s0] s1)))) (i := (cL [t1, s1, t0, s0] s1 + cF [t0, s0] s1)) (own_idx (by omega)) hb_s1 (g := (mkF m 160 #[.val (.ref a1), .val (.int p2), .val (.ref a3), .val (.ref a4), .val (.int (Nat.toInt32 2)), .val (.ref b71), .val (.int ((0 : Int32) + (1 : Int32)))] [(.int ((0 : Int32) + (1 : Int32))), (.int ((Nat.toInt32 (cL [t1, s1, t0, s0] s1)) + (Nat.toInt32 (cF [t0, s0] s1)))), (.ref b60)])) rfl rfl (hb hby d1_160)
  have Zs119 : n0 ≤ h118.size := Nat.le_trans Zs115 (Keep.of_wr W118).1
  have KK120 : Keep h0 h118 [a1] := KK116.wr W118 (Or.inr sz_b60)
  have N118 := Fr.snoc X118 N114 g_b60
  refine hG _ T118 _ (mkF m 161 #[.val (.ref a1), .val (.int p2), .val (.ref a3), .val (.ref a4), .val (.int (Nat.toInt32 2)), .val (.ref b71), .val (.int ((0 : Int32) + (1 : Int32)))] []) st118 ?_
  refine hG _ T118 _ (mkF m 162 #[.val (.ref a1), .val (.int p2), .val (.ref a3), .val (.ref a4), .val (.int (Nat.toInt32 2)), .val (.ref b71), .val (.int ((0 : Int32) + (1 : Int32)))] [(.ref a1)]) (fun t kq_ => XS.aloadN X118.here hx rfl (hb hby d1_161) rfl rfl kq_) ?_
  have F_edges_a1_68'121 : Fld Z h118 a1 "com/example/polite_edges/politeedges/Incidences" "edges" "[I" (.ref b60) := ((F_edges_a1_68'107.other W114 (Or.inl ne_a1_b71)).other W118 (Or.inl ne_a1_b60))
  obtain ⟨T122, X122, e122, st122⟩ := getF X118 hx hZ hown (host := "") (Or.inl (tw17 hw)) Via.refl e118 F_edges_a1_68'121 (g := (mkF m 162 #[.val (.ref a1), .val (.int p2), .val (.ref a3), .val (.ref a4), .val (.int (Nat.toInt32 2)), .val (.ref b71), .val (.int ((0 : Int32) + (1 : Int32)))] [(.ref a1)])) rfl rfl (hb hby d1_162)
  refine hG _ T122 _ (mkF m 165 #[.val (.ref a1), .val (.int p2), .val (.ref a3), .val (.ref a4), .val (.int (Nat.toInt32 2)), .val (.ref b71), .val (.int ((0 : Int32) + (1 : Int32)))] [(.ref b60)]) st122 ?_
  refine hG _ T122 _ (mkF m 166 #[.val (.ref a1), .val (.int p2), .val (.ref a3), .val (.ref a4), .val (.int (Nat.toInt32 2)), .val (.ref b71), .val (.int ((0 : Int32) + (1 : Int32)))] [(.ref a1), (.ref b60)]) (fun t kq_ => XS.aloadN X122.here hx rfl (hb hby d1_165) rfl rfl kq_) ?_
  have F_starts_a1_27'123 : Fld Z h118 a1 "com/example/polite_edges/politeedges/Incidences" "starts" "[I" (.ref b19) := ((F_starts_a1_27'109.other W114 (Or.inl ne_a1_b71)).other W118 (Or.inl ne_a1_b60))
  obtain ⟨T124, X124, e124, st124⟩ := getF X122 hx hZ hown (host := "") (Or.inl (tw15 hw)) Via.refl e122 F_starts_a1_27'123 (g := (mkF m 166 #[.val (.ref a1), .val (.int p2), .val (.ref a3), .val (.ref a4), .val (.int (Nat.toInt32 2)), .val (.ref b71), .val (.int ((0 : Int32) + (1 : Int32)))] [(.ref a1), (.ref b60)])) rfl rfl (hb hby d1_166)
  refine hG _ T124 _ (mkF m 169 #[.val (.ref a1), .val (.int p2), .val (.ref a3), .val (.ref a4), .val (.int (Nat.toInt32 2)), .val (.ref b71), .val (.int ((0 : Int32) + (1 : Int32)))] [(.ref b19), (.ref b60)]) st124 ?_
  refine hG _ T124 _ (mkF m 170 #[.val (.ref a1), .val (.int p2), .val (.ref a3), .val (.ref a4), .val (.int (Nat.toInt32 2)), .val (.ref b71), .val (.int ((0 : Int32) + (1 : Int32)))] [(.ref a4), (.ref b19), (.ref b60)]) (fun t kq_ => XS.aloadN X124.here hx rfl (hb hby d1_169) rfl rfl kq_) ?_
  refine hG _ T124 _ (mkF m 172 #[.val (.ref a1), .val (.int p2), .val (.ref a3), .val (.ref a4), .val (.int (Nat.toInt32 2)), .val (.ref b71), .val (.int ((0 : Int32) + (1 : Int32)))] [(.int ((0 : Int32) + (1 : Int32))), (.ref a4), (.ref b19), (.ref b60)]) (fun t kq_ => XS.iload X124.here hx rfl (hb hby d1_170) rfl kq_) ?_
  have V_t'125 : Av Z h118 a4 .int 2 (two y0 y1) := ((((V_t'97.other W100 ne_a4_b71).other W104 ne_a4_b60).other W114 ne_a4_b71).other W118 ne_a4_b60)
  refine hG _ T124 _ (mkF m 173 #[.val (.ref a1), .val (.int p2), .val (.ref a3), .val (.ref a4), .val (.int (Nat.toInt32 2)), .val (.ref b71), .val (.int ((0 : Int32) + (1 : Int32)))] [(.int y1), (.ref b19), (.ref b60)]) (Av.ldI X124 hx hZ e124 V_t'125 (j := ((0 : Int32) + (1 : Int32))) (i := 1) (by decide) (by decide) (g := (mkF m 172 #[.val (.ref a1), .val (.int p2), .val (.ref a3), .val (.ref a4), .val (.int (Nat.toInt32 2)), .val (.ref b71), .val (.int ((0 : Int32) + (1 : Int32)))] [(.int ((0 : Int32) + (1 : Int32))), (.ref a4), (.ref b19), (.ref b60)])) rfl rfl (hb hby d1_172)) ?_
  have V59'126 : Av Z h118 b19 .int (n + 1) (fun i => Value.int (Nat.toInt32 (cL [t1, s1, t0, s0] i))) := ((V59'112.other W114 ne_b19_b71).other W118 ne_b19_b60)
  refine hG _ T124 _ (mkF m 174 #[.val (.ref a1), .val (.int p2), .val (.ref a3), .val (.ref a4), .val (.int (Nat.toInt32 2)), .val (.ref b71), .val (.int ((0 : Int32) + (1 : Int32)))] [(.int (Nat.toInt32 (cL [t1, s1, t0, s0] t1))), (.ref b60)]) (Av.ldI X124 hx hZ e124 V59'126 (j := y1) (i := t1) hy1 (by omega) (g := (mkF m 173 #[.val (.ref a1), .val (.int p2), .val (.ref a3), .val (.ref a4), .val (.int (Nat.toInt32 2)), .val (.ref b71), .val (.int ((0 : Int32) + (1 : Int32)))] [(.int y1), (.ref b19), (.ref b60)])) rfl rfl (hb hby d1_173)) ?_
  refine hG _ T124 _ (mkF m 176 #[.val (.ref a1), .val (.int p2), .val (.ref a3), .val (.ref a4), .val (.int (Nat.toInt32 2)), .val (.ref b71), .val (.int ((0 : Int32) + (1 : Int32)))] [(.ref b71), (.int (Nat.toInt32 (cL [t1, s1, t0, s0] t1))), (.ref b60)]) (fun t kq_ => XS.aload X124.here hx rfl (hb hby d1_174) rfl rfl kq_) ?_
  refine hG _ T124 _ (mkF m 177 #[.val (.ref a1), .val (.int p2), .val (.ref a3), .val (.ref a4), .val (.int (Nat.toInt32 2)), .val (.ref b71), .val (.int ((0 : Int32) + (1 : Int32)))] [(.ref a4), (.ref b71), (.int (Nat.toInt32 (cL [t1, s1, t0, s0] t1))), (.ref b60)]) (fun t kq_ => XS.aloadN X124.here hx rfl (hb hby d1_176) rfl rfl kq_) ?_
  refine hG _ T124 _ (mkF m 179 #[.val (.ref a1), .val (.int p2), .val (.ref a3), .val (.ref a4), .val (.int (Nat.toInt32 2)), .val (.ref b71), .val (.int ((0 : Int32) + (1 : Int32)))] [(.int ((0 : Int32) + (1 : Int32))), (.ref a4), (.ref b71), (.int (Nat.toInt32 (cL [t1, s1, t0, s0] t1))), (.ref b60)]) (fun t kq_ => XS.iload X124.here hx rfl (hb hby d1_177) rfl kq_) ?_
  refine hG _ T124 _ (mkF m 180 #[.val (.ref a1), .val (.int p2), .val (.ref a3), .val (.ref a4), .val (.int (Nat.toInt32 2)), .val (.ref b71), .val (.int ((0 : Int32) + (1 : Int32)))] [(.int y1), (.ref b71), (.int (Nat.toInt32 (cL [t1, s1, t0, s0] t1))), (.ref b60)]) (Av.ldI X124 hx hZ e124 V_t'125 (j := ((0 : Int32) + (1 : Int32))) (i := 1) (by decide) (by decide) (g := (mkF m 179 #[.val (.ref a1), .val (.int p2), .val (.ref a3), .val (.ref a4), .val (.int (Nat.toInt32 2)), .val (.ref b71), .val (.int ((0 : Int32) + (1 : Int32)))] [(.int ((0 : Int32) + (1 : Int32))), (.ref a4), (.ref b71), (.int (Nat.toInt32 (cL [t1, s1, t0, s0] t1))), (.ref b60)])) rfl rfl (hb hby d1_179)) ?_
  refine hG _ T124 _ (mkF m 181 #[.val (.ref a1), .val (.int p2), .val (.ref a3), .val (.ref a4), .val (.int (Nat.toInt32 2)), .val (.ref b71), .val (.int ((0 : Int32) + (1 : Int32)))] [(.int y1), (.ref b71), (.int y1), (.ref b71), (.int (Nat.toInt32 (cL [t1, s1, t0, s0] t1))), (.ref b60)]) (fun t kq_ => Jvm.Free.XT.dup2 X124.here hx rfl (hb hby d1_180) rfl rfl rfl kq_) ?_
  have V114'127 : Av Z h118 b71 .int n (fun i => Value.int (Nat.toInt32 (cF [s1, t0, s0] i))) := (V114'.other W118 (Ne.symm ne_b60_b71))
  refine hG _ T124 _ (mkF m 182 #[.val (.ref a1), .val (.int p2), .val (.ref a3), .val (.ref a4), .val (.int (Nat.toInt32 2)), .val (.ref b71), .val (.int ((0 : Int32) + (1 : Int32)))] [(.int (Nat.toInt32 (cF [s1, t0, s0] t1))), (.int y1), (.ref b71), (.int (Nat.toInt32 (cL [t1, s1, t0, s0] t1))), (.ref b60)]) (Av.ldI X124 hx hZ e124 V114'127 (j := y1) (i := t1) hy1 (by omega) (g := (mkF m 181 #[.val (.ref a1), .val (.int p2), .val (.ref a3), .val (.ref a4), .val (.int (Nat.toInt32 2)), .val (.ref b71), .val (.int ((0 : Int32) + (1 : Int32)))] [(.int y1), (.ref b71), (.int y1), (.ref b71), (.int (Nat.toInt32 (cL [t1, s1, t0, s0] t1))), (.ref b60)])) rfl rfl (hb hby d1_181)) ?_
  refine hG _ T124 _ (mkF m 183 #[.val (.ref a1), .val (.int p2), .val (.ref a3), .val (.ref a4), .val (.int (Nat.toInt32 2)), .val (.ref b71), .val (.int ((0 : Int32) + (1 : Int32)))] [(.int (Nat.toInt32 (cF [s1, t0, s0] t1))), (.int y1), (.ref b71), (.int (Nat.toInt32 (cF [s1, t0, s0] t1))), (.int (Nat.toInt32 (cL [t1, s1, t0, s0] t1))), (.ref b60)]) (fun t kq_ => (by jvm_step X124.here [X124.here.top, hx, (hb hby d1_182), Value.category]; exact kq_)) ?_
  refine hG _ T124 _ (mkF m 184 #[.val (.ref a1), .val (.int p2), .val (.ref a3), .val (.ref a4), .val (.int (Nat.toInt32 2)), .val (.ref b71), .val (.int ((0 : Int32) + (1 : Int32)))] [(.int (1 : Int32)), (.int (Nat.toInt32 (cF [s1, t0, s0] t1))), (.int y1), (.ref b71), (.int (Nat.toInt32 (cF [s1, t0, s0] t1))), (.int (Nat.toInt32 (cL [t1, s1, t0, s0] t1))), (.ref b60)]) (fun t kq_ => XS.iconst X124.here hx rfl (hb hby d1_183) kq_) ?_
  refine hG _ T124 _ (mkF m 185 #[.val (.ref a1), .val (.int p2), .val (.ref a3), .val (.ref a4), .val (.int (Nat.toInt32 2)), .val (.ref b71), .val (.int ((0 : Int32) + (1 : Int32)))] [(.int ((Nat.toInt32 (cF [s1, t0, s0] t1)) + (1 : Int32))), (.int y1), (.ref b71), (.int (Nat.toInt32 (cF [s1, t0, s0] t1))), (.int (Nat.toInt32 (cL [t1, s1, t0, s0] t1))), (.ref b60)]) (fun t kq_ => XS.iadd X124.here hx rfl (hb hby d1_184) rfl kq_) ?_
  obtain ⟨T128, h128, X128, e128, W128, V128, st128⟩ := Av.stI X124 hx hZ e124 V114'127 (j := y1) (i := t1) hy1 (by omega) (g := (mkF m 185 #[.val (.ref a1), .val (.int p2), .val (.ref a3), .val (.ref a4), .val (.int (Nat.toInt32 2)), .val (.ref b71), .val (.int ((0 : Int32) + (1 : Int32)))] [(.int ((Nat.toInt32 (cF [s1, t0, s0] t1)) + (1 : Int32))), (.int y1), (.ref b71), (.int (Nat.toInt32 (cF [s1, t0, s0] t1))), (.int (Nat.toInt32 (cL [t1, s1, t0, s0] t1))), (.ref b60)])) rfl rfl (hb hby d1_185)
  have V128' : Av Z h128 b71 .int n (fun i => Value.int (Nat.toInt32 (cF [t1, s1, t0, s0] i))) := V128.cong (fun i _ => own_updF _ _ i)
  have Zs129 : n0 ≤ h128.size := Nat.le_trans Zs119 (Keep.of_wr W128).1
  have KK130 : Keep h0 h128 [a1] := KK120.wr W128 (Or.inr sz_b71)
  have N128 := Fr.snoc X128 N118 g_b71
  refine hG _ T128 _ (mkF m 186 #[.val (.ref a1), .val (.int p2), .val (.ref a3), .val (.ref a4), .val (.int (Nat.toInt32 2)), .val (.ref b71), .val (.int ((0 : Int32) + (1 : Int32)))] [(.int (Nat.toInt32 (cF [s1, t0, s0] t1))), (.int (Nat.toInt32 (cL [t1, s1, t0, s0] t1))), (.ref b60)]) st128 ?_
  refine hG _ T128 _ (mkF m 187 #[.val (.ref a1), .val (.int p2), .val (.ref a3), .val (.ref a4), .val (.int (Nat.toInt32 2)), .val (.ref b71), .val (.int ((0 : Int32) + (1 : Int32)))] [(.int ((Nat.toInt32 (cL [t1, s1, t0, s0] t1)) + (Nat.toInt32 (cF [s1, t0, s0] t1)))), (.ref b60)]) (fun t kq_ => XS.iadd X128.here hx rfl (hb hby d1_186) rfl kq_) ?_
  refine hG _ T128 _ (mkF m 189 #[.val (.ref a1), .val (.int p2), .val (.ref a3), .val (.ref a4), .val (.int (Nat.toInt32 2)), .val (.ref b71), .val (.int ((0 : Int32) + (1 : Int32)))] [(.int ((0 : Int32) + (1 : Int32))), (.int ((Nat.toInt32 (cL [t1, s1, t0, s0] t1)) + (Nat.toInt32 (cF [s1, t0, s0] t1)))), (.ref b60)]) (fun t kq_ => XS.iload X128.here hx rfl (hb hby d1_187) rfl kq_) ?_
  have hb_t1 : cL [t1, s1, t0, s0] t1 + cF [s1, t0, s0] t1 < 4 := own_b_t1 s0 t0 s1 t1
  have V118'131 : Av Z h128 b60 .int 4 (upd (upd (upd (fun _ => (.int (0 : Int32))) (cL [t1, s1, t0, s0] s0 + cF [] s0) (.int (0 : Int32))) (cL [t1, s1, t0, s0] t0 + cF [s0] t0) (.int (0 : Int32))) (cL [t1, s1, t0, s0] s1 + cF [t0, s0] s1) (.int ((0 : Int32) + (1 : Int32)))) := (V118.other W128 ne_b60_b71)
  obtain ⟨T132, h132, X132, e132, W132, V132, st132⟩ := Av.stI X128 hx hZ e128 V118'131 (j := ((Nat.toInt32 (cL [t1, s1, t0, s0] t1)) + (Nat.toInt32 (cF [s1, t0, s0] t1)))) (i := (cL [t1, s1, t0, s0] t1 + cF [s1, t0, s0] t1)) (own_idx (by omega)) hb_t1 (g := (mkF m 189 #[.val (.ref a1), .val (.int p2), .val (.ref a3), .val (.ref a4), .val (.int (Nat.toInt32 2)), .val (.ref b71), .val (.int ((0 : Int32) + (1 : Int32)))] [(.int ((0 : Int32) + (1 : Int32))), (.int ((Nat.toInt32 (cL [t1, s1, t0, s0] t1)) + (Nat.toInt32 (cF [s1, t0, s0] t1)))), (.ref b60)])) rfl rfl (hb hby d1_189)
  have Zs133 : n0 ≤ h132.size := Nat.le_trans Zs129 (Keep.of_wr W132).1
  have KK134 : Keep h0 h132 [a1] := KK130.wr W132 (Or.inr sz_b60)
  have N132 := Fr.snoc X132 N128 g_b60
  refine hG _ T132 _ (mkF m 190 #[.val (.ref a1), .val (.int p2), .val (.ref a3), .val (.ref a4), .val (.int (Nat.toInt32 2)), .val (.ref b71), .val (.int ((0 : Int32) + (1 : Int32)))] []) st132 ?_
  refine hG _ T132 _ (mkF m 193 #[.val (.ref a1), .val (.int p2), .val (.ref a3), .val (.ref a4), .val (.int (Nat.toInt32 2)), .val (.ref b71), .val (.int (((0 : Int32) + (1 : Int32)) + (1 : Int32)))] []) (fun t kq_ => XS.iinc X132.here hx rfl (hb hby d1_190) rfl (l' := #[.val (.ref a1), .val (.int p2), .val (.ref a3), .val (.ref a4), .val (.int (Nat.toInt32 2)), .val (.ref b71), .val (.int (((0 : Int32) + (1 : Int32)) + (1 : Int32)))]) rfl kq_) ?_
  refine hG _ T132 _ (mkF m 125 #[.val (.ref a1), .val (.int p2), .val (.ref a3), .val (.ref a4), .val (.int (Nat.toInt32 2)), .val (.ref b71), .val (.int (((0 : Int32) + (1 : Int32)) + (1 : Int32)))] []) (fun t kq_ => XS.goto X132.here hx rfl (pc0 := 193) (pc' := 125) rfl (hb hby d1_193) (by decide) (by decide) kq_) ?_
  refine hG _ T132 _ (mkF m 127 #[.val (.ref a1), .val (.int p2), .val (.ref a3), .val (.ref a4), .val (.int (Nat.toInt32 2)), .val (.ref b71), .val (.int (((0 : Int32) + (1 : Int32)) + (1 : Int32)))] [(.int (((0 : Int32) + (1 : Int32)) + (1 : Int32)))]) (fun t kq_ => XS.iload X132.here hx rfl (hb hby d1_125) rfl kq_) ?_
  refine hG _ T132 _ (mkF m 129 #[.val (.ref a1), .val (.int p2), .val (.ref a3), .val (.ref a4), .val (.int (Nat.toInt32 2)), .val (.ref b71), .val (.int (((0 : Int32) + (1 : Int32)) + (1 : Int32)))] [(.int (Nat.toInt32 2)), (.int (((0 : Int32) + (1 : Int32)) + (1 : Int32)))]) (fun t kq_ => XS.iload X132.here hx rfl (hb hby d1_127) rfl kq_) ?_
  refine hG _ T132 _ (mkF m 196 #[.val (.ref a1), .val (.int p2), .val (.ref a3), .val (.ref a4), .val (.int (Nat.toInt32 2)), .val (.ref b71), .val (.int (((0 : Int32) + (1 : Int32)) + (1 : Int32)))] []) (fun t kq_ => XS.icmpYes X132.here hx rfl (pc0 := 129) (pc' := 196) rfl (hb hby d1_129) rfl (flt (by decide)).2.1 (by decide) (by decide) kq_) ?_
  have F_sources_a1_11'135 : Fld Z h132 a1 "com/example/polite_edges/politeedges/Incidences" "sources" "[I" (.ref a3) := (((((((((((((((((((F_sources_a1_11.other W16 (Or.inr (slot_ne (Or.inr (tw12 hw)) (Or.inr (tw14 hw)) (by decide) (t := (.array .int)) (t' := (.array .int)) (by decide) (by decide)))).ext E19).other W27 (Or.inr (slot_ne (Or.inr (tw12 hw)) (Or.inr (tw16 hw)) (by decide) (t := (.array .int)) (t' := (.array .int)) (by decide) (by decide)))).other W34 (Or.inl ne_a1_b19)).other W40 (Or.inl ne_a1_b19)).other W46 (Or.inl ne_a1_b19)).other W52 (Or.inl ne_a1_b19)).keep K2 (ninS ne_a1_b19 nin0)).ext E60).other W68 (Or.inr (slot_ne (Or.inr (tw12 hw)) (Or.inr (tw18 hw)) (by decide) (t := (.array .int)) (t' := (.array .int)) (by decide) (by decide)))).ext E71).other W86 (Or.inl ne_a1_b71)).other W90 (Or.inl ne_a1_b60)).other W100 (Or.inl ne_a1_b71)).other W104 (Or.inl ne_a1_b60)).other W114 (Or.inl ne_a1_b71)).other W118 (Or.inl ne_a1_b60)).other W128 (Or.inl ne_a1_b71)).other W132 (Or.inl ne_a1_b60))
  have F_targets_a1_16'136 : Fld Z h132 a1 "com/example/polite_edges/politeedges/Incidences" "targets" "[I" (.ref a4) := ((((((((((((((((((F_targets_a1_16.ext E19).other W27 (Or.inr (slot_ne (Or.inr (tw14 hw)) (Or.inr (tw16 hw)) (by decide) (t := (.array .int)) (t' := (.array .int)) (by decide) (by decide)))).other W34 (Or.inl ne_a1_b19)).other W40 (Or.inl ne_a1_b19)).other W46 (Or.inl ne_a1_b19)).other W52 (Or.inl ne_a1_b19)).keep K2 (ninS ne_a1_b19 nin0)).ext E60).other W68 (Or.inr (slot_ne (Or.inr (tw14 hw)) (Or.inr (tw18 hw)) (by decide) (t := (.array .int)) (t' := (.array .int)) (by decide) (by decide)))).ext E71).other W86 (Or.inl ne_a1_b71)).other W90 (Or.inl ne_a1_b60)).other W100 (Or.inl ne_a1_b71)).other W104 (Or.inl ne_a1_b60)).other W114 (Or.inl ne_a1_b71)).other W118 (Or.inl ne_a1_b60)).other W128 (Or.inl ne_a1_b71)).other W132 (Or.inl ne_a1_b60))
  exact Goes.retV X132 hx hlk hrt (hb hby d1_196) (by decide : 3 ≤ 3) (by decide : 21 ≤ 21) (by (try rw [e132]); exact ⟨rfl, N132, KK134, F_sources_a1_11'135, F_targets_a1_16'136⟩)
set_option maxRecDepth 65536 in
set_option maxHeartbeats 40000000 in
theorem own_124 {p : Program} {l : Launch} {e : Env} {s : State} {m : MethodId} {args : Array Value} {below : List Frame} {meth : Method} {c : Code} {T0 : State} {locs : List Loc} {Z : State} {a0 : Array Value} {h0 : Heap} {n0 : Nat} (p1 p2 p3 p4 p5 p6 nc x0 y0 x1 y1 ed xs yt : Int32) (sa ta ob : Addr) (i : Nat)
    (X0 : Stand p l e room_1 s m args below meth c T0 locs 6 29) (hx : p.tables.exec = Jvm.exec) (hZ : Z.Warmed39 s.vm) (hw : ∀ d ∈ tables_1, d.before a0 Z = true) (hby : c.code = code) (hml : c.maxLocals = 17) (hown : s.vm.findClass "com/example/polite_edges/politeedges/IncidencesOtherEndPinLaw" = some m.cls) (e0 : T0.heap = h0) (Z0 : n0 ≤ h0.size) (N0 : Fr n0 locs) (hlk : meth.locks = false) (hrt : meth.sig.returnType = ret) (E1 : Exa Z h0 ob "com/example/polite_edges/politeedges/Incidences") (F_s : Fld Z h0 ob "com/example/polite_edges/politeedges/Incidences" "sources" "[I" (.ref sa)) (F_t : Fld Z h0 ob "com/example/polite_edges/politeedges/Incidences" "targets" "[I" (.ref ta)) (V_s : Av Z h0 sa .int 2 (two x0 x1)) (V_t : Av Z h0 ta .int 2 (two y0 y1)) (hj : ed.toInt = (i : Int)) (hi : i < 2) (hs : two x0 x1 i = .int xs) (ht : two y0 y1 i = .int yt) :
    Goes p e below s (fun (v : Option Value) (h : Heap) (L : List Loc) => v = some (.int 1) ∧ Fr n0 L) 24 128 T0 (mkF m 124 #[.val (.int p1), .val (.int p2), .val (.int p3), .val (.int p4), .val (.int p5), .val (.int p6), .val (.int nc), .val (.int x0), .val (.int y0), .val (.int x1), .val (.int y1), .val (.ref sa), .val (.ref ta), .val (.ref ob), .val (.int ed), .val (.int xs), .val (.int yt)] []) := by
  have hG := Goes.bk p e below s (fun (v : Option Value) (h : Heap) (L : List Loc) => v = some (.int 1) ∧ Fr n0 L) 24 128
  refine hG _ T0 _ (mkF m 126 #[.val (.int p1), .val (.int p2), .val (.int p3), .val (.int p4), .val (.int p5), .val (.int p6), .val (.int nc), .val (.int x0), .val (.int y0), .val (.int x1), .val (.int y1), .val (.ref sa), .val (.ref ta), .val (.ref ob), .val (.int ed), .val (.int xs), .val (.int yt)] [(.ref ob)]) (fun t kq_ => XS.aload X0.here hx rfl (hb hby at_124) rfl rfl kq_) ?_
  refine hG _ T0 _ (mkF m 128 #[.val (.int p1), .val (.int p2), .val (.int p3), .val (.int p4), .val (.int p5), .val (.int p6), .val (.int nc), .val (.int x0), .val (.int y0), .val (.int x1), .val (.int y1), .val (.ref sa), .val (.ref ta), .val (.ref ob), .val (.int ed), .val (.int xs), .val (.int yt)] [(.int ed), (.ref ob)]) (fun t kq_ => XS.iload X0.here hx rfl (hb hby at_126) rfl kq_) ?_
  refine hG _ T0 _ (mkF m 130 #[.val (.int p1), .val (.int p2), .val (.int p3), .val (.int p4), .val (.int p5), .val (.int p6), .val (.int nc), .val (.int x0), .val (.int y0), .val (.int x1), .val (.int y1), .val (.ref sa), .val (.ref ta), .val (.ref ob), .val (.int ed), .val (.int xs), .val (.int yt)] [(.int xs), (.int ed), (.ref ob)]) (fun t kq_ => XS.iload X0.here hx rfl (hb hby at_128) rfl kq_) ?_
  obtain ⟨cq137, kq137, q137a, q137b, q137c⟩ := isOf hZ e0 E1
  obtain ⟨_, _, ⟨T137, L137, k137, n137⟩, -, X137, ⟨Lc137, hQ137, l137, y137, z137⟩, st137⟩ := X0.virtualBack hx (y := (⟨"com/example/polite_edges/politeedges/Incidences", "otherEnd", "(II)I"⟩ : MethodName)) (z := (⟨"com/example/polite_edges/politeedges/Incidences", "otherEnd", "(II)I"⟩ : MethodName)) hown (mvT hZ (tw19 hw)) (mvT hZ (tw20 hw)) (notFace_of_selects (args := #[]) (mvT hZ (tw22 hw))) (mvT hZ (tw22 hw)) (mvT hZ (tw21 hw)) (by decide) (backOf (W := 0) (rm3 l Z a0 hw [] ob ed xs h0 n0 Z0 sa ta x0 x1 y0 y1 xs yt i F_s F_t V_s V_t hj hi hs ht) hZ (tw23 hw) (tw4 hw) (by decide) (by decide)) q137a q137c (g := (mkF m 130 #[.val (.int p1), .val (.int p2), .val (.int p3), .val (.int p4), .val (.int p5), .val (.int p6), .val (.int nc), .val (.int x0), .val (.int y0), .val (.int x1), .val (.int y1), .val (.ref sa), .val (.ref ta), .val (.ref ob), .val (.int ed), .val (.int xs), .val (.int yt)] [(.int xs), (.int ed), (.ref ob)])) rfl (by rw [hml]; rfl) (Steps.refl _) (argsL := [(.int ed), (.int xs)]) (rest := []) (lenOf pd_0 rfl) rfl (by show 2 * 0 + _ ≤ _; exact Nat.le_of_eq rfl) (hb hby at_130) (fun _ _ => ⟨rfl, e0, (by decide : 6 + 0 ≤ _), (by decide : 29 + 0 ≤ _)⟩)
  dsimp only [Pt.U, Pt.locs, Pt.cells, Pt.slots] at X137 l137 y137 z137 st137 hQ137
  subst l137 y137 z137
  obtain ⟨rfl, N137q, hh1⟩ := hQ137
  have N137 := Fr.app N0 N137q
  have e137 : T137.heap = h0 := hh1
  refine hG _ T137 _ (mkF m 133 #[.val (.int p1), .val (.int p2), .val (.int p3), .val (.int p4), .val (.int p5), .val (.int p6), .val (.int nc), .val (.int x0), .val (.int y0), .val (.int x1), .val (.int y1), .val (.ref sa), .val (.ref ta), .val (.ref ob), .val (.int ed), .val (.int xs), .val (.int yt)] [(.int (if xs = xs then yt else xs))]) (fun t kq_ => st137.trans kq_) ?_
  refine hG _ T137 _ (mkF m 135 #[.val (.int p1), .val (.int p2), .val (.int p3), .val (.int p4), .val (.int p5), .val (.int p6), .val (.int nc), .val (.int x0), .val (.int y0), .val (.int x1), .val (.int y1), .val (.ref sa), .val (.ref ta), .val (.ref ob), .val (.int ed), .val (.int xs), .val (.int yt)] [(.int yt), (.int (if xs = xs then yt else xs))]) (fun t kq_ => XS.iload X137.here hx rfl (hb hby at_133) rfl kq_) ?_
  refine hG _ T137 _ (mkF m 138 #[.val (.int p1), .val (.int p2), .val (.int p3), .val (.int p4), .val (.int p5), .val (.int p6), .val (.int nc), .val (.int x0), .val (.int y0), .val (.int x1), .val (.int y1), .val (.ref sa), .val (.ref ta), .val (.ref ob), .val (.int ed), .val (.int xs), .val (.int yt)] []) (fun t kq_ => XS.icmpNo X137.here hx rfl (hb hby at_135) rfl (teq (if_pos rfl)).2 kq_) ?_
  refine hG _ T137 _ (mkF m 140 #[.val (.int p1), .val (.int p2), .val (.int p3), .val (.int p4), .val (.int p5), .val (.int p6), .val (.int nc), .val (.int x0), .val (.int y0), .val (.int x1), .val (.int y1), .val (.ref sa), .val (.ref ta), .val (.ref ob), .val (.int ed), .val (.int xs), .val (.int yt)] [(.ref ob)]) (fun t kq_ => XS.aload X137.here hx rfl (hb hby at_138) rfl rfl kq_) ?_
  refine hG _ T137 _ (mkF m 142 #[.val (.int p1), .val (.int p2), .val (.int p3), .val (.int p4), .val (.int p5), .val (.int p6), .val (.int nc), .val (.int x0), .val (.int y0), .val (.int x1), .val (.int y1), .val (.ref sa), .val (.ref ta), .val (.ref ob), .val (.int ed), .val (.int xs), .val (.int yt)] [(.int ed), (.ref ob)]) (fun t kq_ => XS.iload X137.here hx rfl (hb hby at_140) rfl kq_) ?_
  refine hG _ T137 _ (mkF m 144 #[.val (.int p1), .val (.int p2), .val (.int p3), .val (.int p4), .val (.int p5), .val (.int p6), .val (.int nc), .val (.int x0), .val (.int y0), .val (.int x1), .val (.int y1), .val (.ref sa), .val (.ref ta), .val (.ref ob), .val (.int ed), .val (.int xs), .val (.int yt)] [(.int yt), (.int ed), (.ref ob)]) (fun t kq_ => XS.iload X137.here hx rfl (hb hby at_142) rfl kq_) ?_
  obtain ⟨cq138, kq138, q138a, q138b, q138c⟩ := isOf hZ e137 E1
  obtain ⟨_, _, ⟨T138, L138, k138, n138⟩, -, X138, ⟨Lc138, hQ138, l138, y138, z138⟩, st138⟩ := X137.virtualBack hx (y := (⟨"com/example/polite_edges/politeedges/Incidences", "otherEnd", "(II)I"⟩ : MethodName)) (z := (⟨"com/example/polite_edges/politeedges/Incidences", "otherEnd", "(II)I"⟩ : MethodName)) hown (mvT hZ (tw19 hw)) (mvT hZ (tw20 hw)) (notFace_of_selects (args := #[]) (mvT hZ (tw22 hw))) (mvT hZ (tw22 hw)) (mvT hZ (tw21 hw)) (by decide) (backOf (W := 0) (rm3 l Z a0 hw [] ob ed yt h0 n0 Z0 sa ta x0 x1 y0 y1 xs yt i F_s F_t V_s V_t hj hi hs ht) hZ (tw23 hw) (tw4 hw) (by decide) (by decide)) q138a q138c (g := (mkF m 144 #[.val (.int p1), .val (.int p2), .val (.int p3), .val (.int p4), .val (.int p5), .val (.int p6), .val (.int nc), .val (.int x0), .val (.int y0), .val (.int x1), .val (.int y1), .val (.ref sa), .val (.ref ta), .val (.ref ob), .val (.int ed), .val (.int xs), .val (.int yt)] [(.int yt), (.int ed), (.ref ob)])) rfl (by rw [hml]; rfl) (Steps.refl _) (argsL := [(.int ed), (.int yt)]) (rest := []) (lenOf pd_0 rfl) rfl (by show 2 * 0 + _ ≤ _; exact Nat.le_of_eq rfl) (hb hby at_144) (fun _ _ => ⟨rfl, e137, (by decide : 6 + 0 ≤ _), (by decide : 29 + 0 ≤ _)⟩)
  dsimp only [Pt.U, Pt.locs, Pt.cells, Pt.slots] at X138 l138 y138 z138 st138 hQ138
  subst l138 y138 z138
  obtain ⟨rfl, N138q, hh2⟩ := hQ138
  have N138 := Fr.app N137 N138q
  have e138 : T138.heap = h0 := hh2
  refine hG _ T138 _ (mkF m 147 #[.val (.int p1), .val (.int p2), .val (.int p3), .val (.int p4), .val (.int p5), .val (.int p6), .val (.int nc), .val (.int x0), .val (.int y0), .val (.int x1), .val (.int y1), .val (.ref sa), .val (.ref ta), .val (.ref ob), .val (.int ed), .val (.int xs), .val (.int yt)] [(.int (if xs = yt then yt else xs))]) (fun t kq_ => st138.trans kq_) ?_
  refine hG _ T138 _ (mkF m 149 #[.val (.int p1), .val (.int p2), .val (.int p3), .val (.int p4), .val (.int p5), .val (.int p6), .val (.int nc), .val (.int x0), .val (.int y0), .val (.int x1), .val (.int y1), .val (.ref sa), .val (.ref ta), .val (.ref ob), .val (.int ed), .val (.int xs), .val (.int yt)] [(.int xs), (.int (if xs = yt then yt else xs))]) (fun t kq_ => XS.iload X138.here hx rfl (hb hby at_147) rfl kq_) ?_
  refine hG _ T138 _ (mkF m 152 #[.val (.int p1), .val (.int p2), .val (.int p3), .val (.int p4), .val (.int p5), .val (.int p6), .val (.int nc), .val (.int x0), .val (.int y0), .val (.int x1), .val (.int y1), .val (.ref sa), .val (.ref ta), .val (.ref ob), .val (.int ed), .val (.int xs), .val (.int yt)] []) (fun t kq_ => XS.icmpNo X138.here hx rfl (hb hby at_149) rfl (teq (by split <;> simp_all : (if xs = yt then yt else xs) = xs)).2 kq_) ?_
  refine hG _ T138 _ (mkF m 153 #[.val (.int p1), .val (.int p2), .val (.int p3), .val (.int p4), .val (.int p5), .val (.int p6), .val (.int nc), .val (.int x0), .val (.int y0), .val (.int x1), .val (.int y1), .val (.ref sa), .val (.ref ta), .val (.ref ob), .val (.int ed), .val (.int xs), .val (.int yt)] [(.int (1 : Int32))]) (fun t kq_ => XS.iconst X138.here hx rfl (hb hby at_152) kq_) ?_
  refine hG _ T138 _ (mkF m 157 #[.val (.int p1), .val (.int p2), .val (.int p3), .val (.int p4), .val (.int p5), .val (.int p6), .val (.int nc), .val (.int x0), .val (.int y0), .val (.int x1), .val (.int y1), .val (.ref sa), .val (.ref ta), .val (.ref ob), .val (.int ed), .val (.int xs), .val (.int yt)] [(.int (1 : Int32))]) (fun t kq_ => XS.goto X138.here hx rfl (pc0 := 153) (pc' := 157) rfl (hb hby at_153) (by decide) (by decide) kq_) ?_
  exact Goes.retN X138 hx hlk (t := .boolean) hrt (by simp) (hb hby at_157) (by decide : 6 ≤ 24) (by decide : 29 ≤ 128) (by (try rw [e138]); exact ⟨rfl, N138⟩)
set_option maxRecDepth 65536 in
set_option maxHeartbeats 40000000 in
theorem own_45 {p : Program} {l : Launch} {e : Env} {s : State} {m : MethodId} {args : Array Value} {below : List Frame} {meth : Method} {c : Code} {T0 : State} {locs : List Loc} {Z : State} {a0 : Array Value} {h0 : Heap} {n0 : Nat} (p1 p2 p3 p4 p5 p6 nc x0 y0 x1 y1 : Int32) (n s0 s1 t0 t1 : Nat)
    (X0 : Stand p l e room_1 s m args below meth c T0 locs 0 0) (hx : p.tables.exec = Jvm.exec) (hZ : Z.Warmed39 s.vm) (hw : ∀ d ∈ tables_1, d.before a0 Z = true) (hby : c.code = code) (hml : c.maxLocals = 17) (hown : s.vm.findClass "com/example/polite_edges/politeedges/IncidencesOtherEndPinLaw" = some m.cls) (e0 : T0.heap = h0) (Z0 : n0 ≤ h0.size) (N0 : Fr n0 locs) (hlk : meth.locks = false) (hrt : meth.sig.returnType = ret) (hn : nc.toInt = (n : Int)) (hn1 : 1 ≤ n) (h8 : n ≤ 8) (hx0 : x0.toInt = (s0 : Int)) (hx1 : x1.toInt = (s1 : Int)) (hy0 : y0.toInt = (t0 : Int)) (hy1 : y1.toInt = (t1 : Int)) (ls0 : s0 < n) (ls1 : s1 < n) (lt0 : t0 < n) (lt1 : t1 < n) :
    Goes p e below s (fun (v : Option Value) (h : Heap) (L : List Loc) => v = some (.int 1) ∧ Fr n0 L) 24 128 T0 (mkF m 45 #[.val (.int p1), .val (.int p2), .val (.int p3), .val (.int p4), .val (.int p5), .val (.int p6), .val (.int nc), .val (.int x0), .val (.int y0), .val (.int x1), .val (.int y1), .unset, .unset, .unset, .unset, .unset, .unset] []) := by
  have hG := Goes.bk p e below s (fun (v : Option Value) (h : Heap) (L : List Loc) => v = some (.int 1) ∧ Fr n0 L) 24 128
  refine hG _ T0 _ (mkF m 46 #[.val (.int p1), .val (.int p2), .val (.int p3), .val (.int p4), .val (.int p5), .val (.int p6), .val (.int nc), .val (.int x0), .val (.int y0), .val (.int x1), .val (.int y1), .unset, .unset, .unset, .unset, .unset, .unset] [(.int (2 : Int32))]) (fun t kq_ => XS.iconst X0.here hx rfl (hb hby at_45) kq_) ?_
  have hz139 : (2 : Int32).toInt = ((2 : Nat) : Int) := (by decide)
  obtain ⟨T139, h139, k139, X139, e139, E139, A139, st139⟩ := newP (aty := .int) X0 hx hZ (tw1 hw) e0 (g := (mkF m 46 #[.val (.int p1), .val (.int p2), .val (.int p3), .val (.int p4), .val (.int p5), .val (.int p6), .val (.int nc), .val (.int x0), .val (.int y0), .val (.int x1), .val (.int y1), .unset, .unset, .unset, .unset, .unset, .unset] [(.int (2 : Int32))])) rfl (hb hby at_46) rfl (own_nn hz139) (cap := 2) (by rw [tn_of hz139]; exact (by decide)) (by decide) (by decide) (by decide)
  obtain ⟨b139, g139⟩ : ∃ z, z = h0.size := ⟨_, rfl⟩
  rw [← g139] at A139 st139
  have g_b139 : n0 ≤ b139 := Nat.le_trans Z0 (Nat.le_of_eq g139.symm)
  have Zs140 : n0 ≤ h139.size := Nat.le_trans Z0 E139.1
  have V_b139 : Av Z h139 b139 .int 2 (fun _ => (.int (0 : Int32))) := Av.new A139 hz139
  refine hG _ T139 _ (mkF m 48 #[.val (.int p1), .val (.int p2), .val (.int p3), .val (.int p4), .val (.int p5), .val (.int p6), .val (.int nc), .val (.int x0), .val (.int y0), .val (.int x1), .val (.int y1), .unset, .unset, .unset, .unset, .unset, .unset] [(.ref b139)]) st139 ?_
  refine hG _ T139 _ (mkF m 49 #[.val (.int p1), .val (.int p2), .val (.int p3), .val (.int p4), .val (.int p5), .val (.int p6), .val (.int nc), .val (.int x0), .val (.int y0), .val (.int x1), .val (.int y1), .unset, .unset, .unset, .unset, .unset, .unset] [(.ref b139), (.ref b139)]) (fun t kq_ => XS.dup X139.here hx rfl (hb hby at_48) rfl rfl kq_) ?_
  refine hG _ T139 _ (mkF m 50 #[.val (.int p1), .val (.int p2), .val (.int p3), .val (.int p4), .val (.int p5), .val (.int p6), .val (.int nc), .val (.int x0), .val (.int y0), .val (.int x1), .val (.int y1), .unset, .unset, .unset, .unset, .unset, .unset] [(.int (0 : Int32)), (.ref b139), (.ref b139)]) (fun t kq_ => XS.iconst X139.here hx rfl (hb hby at_49) kq_) ?_
  refine hG _ T139 _ (mkF m 52 #[.val (.int p1), .val (.int p2), .val (.int p3), .val (.int p4), .val (.int p5), .val (.int p6), .val (.int nc), .val (.int x0), .val (.int y0), .val (.int x1), .val (.int y1), .unset, .unset, .unset, .unset, .unset, .unset] [(.int x0), (.int (0 : Int32)), (.ref b139), (.ref b139)]) (fun t kq_ => XS.iload X139.here hx rfl (hb hby at_50) rfl kq_) ?_
  obtain ⟨T141, h141, X141, e141, W141, V141, st141⟩ := Av.stI X139 hx hZ e139 V_b139 (j := (0 : Int32)) (i := 0) (by decide) (by decide) (g := (mkF m 52 #[.val (.int p1), .val (.int p2), .val (.int p3), .val (.int p4), .val (.int p5), .val (.int p6), .val (.int nc), .val (.int x0), .val (.int y0), .val (.int x1), .val (.int y1), .unset, .unset, .unset, .unset, .unset, .unset] [(.int x0), (.int (0 : Int32)), (.ref b139), (.ref b139)])) rfl rfl (hb hby at_52)
  have Zs142 : n0 ≤ h141.size := Nat.le_trans Zs140 (Keep.of_wr W141).1
  have N141 := Fr.snoc X141 N0 g_b139
  refine hG _ T141 _ (mkF m 53 #[.val (.int p1), .val (.int p2), .val (.int p3), .val (.int p4), .val (.int p5), .val (.int p6), .val (.int nc), .val (.int x0), .val (.int y0), .val (.int x1), .val (.int y1), .unset, .unset, .unset, .unset, .unset, .unset] [(.ref b139)]) st141 ?_
  refine hG _ T141 _ (mkF m 54 #[.val (.int p1), .val (.int p2), .val (.int p3), .val (.int p4), .val (.int p5), .val (.int p6), .val (.int nc), .val (.int x0), .val (.int y0), .val (.int x1), .val (.int y1), .unset, .unset, .unset, .unset, .unset, .unset] [(.ref b139), (.ref b139)]) (fun t kq_ => XS.dup X141.here hx rfl (hb hby at_53) rfl rfl kq_) ?_
  refine hG _ T141 _ (mkF m 55 #[.val (.int p1), .val (.int p2), .val (.int p3), .val (.int p4), .val (.int p5), .val (.int p6), .val (.int nc), .val (.int x0), .val (.int y0), .val (.int x1), .val (.int y1), .unset, .unset, .unset, .unset, .unset, .unset] [(.int (1 : Int32)), (.ref b139), (.ref b139)]) (fun t kq_ => XS.iconst X141.here hx rfl (hb hby at_54) kq_) ?_
  refine hG _ T141 _ (mkF m 57 #[.val (.int p1), .val (.int p2), .val (.int p3), .val (.int p4), .val (.int p5), .val (.int p6), .val (.int nc), .val (.int x0), .val (.int y0), .val (.int x1), .val (.int y1), .unset, .unset, .unset, .unset, .unset, .unset] [(.int x1), (.int (1 : Int32)), (.ref b139), (.ref b139)]) (fun t kq_ => XS.iload X141.here hx rfl (hb hby at_55) rfl kq_) ?_
  obtain ⟨T143, h143, X143, e143, W143, V143, st143⟩ := Av.stI X141 hx hZ e141 V141 (j := (1 : Int32)) (i := 1) (by decide) (by decide) (g := (mkF m 57 #[.val (.int p1), .val (.int p2), .val (.int p3), .val (.int p4), .val (.int p5), .val (.int p6), .val (.int nc), .val (.int x0), .val (.int y0), .val (.int x1), .val (.int y1), .unset, .unset, .unset, .unset, .unset, .unset] [(.int x1), (.int (1 : Int32)), (.ref b139), (.ref b139)])) rfl rfl (hb hby at_57)
  have Zs144 : n0 ≤ h143.size := Nat.le_trans Zs142 (Keep.of_wr W143).1
  have N143 := Fr.snoc X143 N141 g_b139
  refine hG _ T143 _ (mkF m 58 #[.val (.int p1), .val (.int p2), .val (.int p3), .val (.int p4), .val (.int p5), .val (.int p6), .val (.int nc), .val (.int x0), .val (.int y0), .val (.int x1), .val (.int y1), .unset, .unset, .unset, .unset, .unset, .unset] [(.ref b139)]) st143 ?_
  have V145 : Av Z h143 b139 .int 2 (two x0 x1) := V143.cong (fun i hi => by match i, hi with | 0, _ => rfl | 1, _ => rfl)
  refine hG _ T143 _ (mkF m 60 #[.val (.int p1), .val (.int p2), .val (.int p3), .val (.int p4), .val (.int p5), .val (.int p6), .val (.int nc), .val (.int x0), .val (.int y0), .val (.int x1), .val (.int y1), .val (.ref b139), .unset, .unset, .unset, .unset, .unset] []) (fun t kq_ => XS.astore X143.here hx rfl (hb hby at_58) rfl rfl (l' := #[.val (.int p1), .val (.int p2), .val (.int p3), .val (.int p4), .val (.int p5), .val (.int p6), .val (.int nc), .val (.int x0), .val (.int y0), .val (.int x1), .val (.int y1), .val (.ref b139), .unset, .unset, .unset, .unset, .unset]) rfl kq_) ?_
  refine hG _ T143 _ (mkF m 61 #[.val (.int p1), .val (.int p2), .val (.int p3), .val (.int p4), .val (.int p5), .val (.int p6), .val (.int nc), .val (.int x0), .val (.int y0), .val (.int x1), .val (.int y1), .val (.ref b139), .unset, .unset, .unset, .unset, .unset] [(.int (2 : Int32))]) (fun t kq_ => XS.iconst X143.here hx rfl (hb hby at_60) kq_) ?_
  have hz146 : (2 : Int32).toInt = ((2 : Nat) : Int) := (by decide)
  obtain ⟨T146, h146, k146, X146, e146, E146, A146, st146⟩ := newP (aty := .int) X143 hx hZ (tw1 hw) e143 (g := (mkF m 61 #[.val (.int p1), .val (.int p2), .val (.int p3), .val (.int p4), .val (.int p5), .val (.int p6), .val (.int nc), .val (.int x0), .val (.int y0), .val (.int x1), .val (.int y1), .val (.ref b139), .unset, .unset, .unset, .unset, .unset] [(.int (2 : Int32))])) rfl (hb hby at_61) rfl (own_nn hz146) (cap := 2) (by rw [tn_of hz146]; exact (by decide)) (by decide) (by decide) (by decide)
  obtain ⟨b146, g146⟩ : ∃ z, z = h143.size := ⟨_, rfl⟩
  rw [← g146] at A146 st146
  have ne_b139_b146 : b139 ≠ b146 := Nat.ne_of_lt (Nat.lt_of_lt_of_le V145.lt (Nat.le_of_eq g146.symm))
  have g_b146 : n0 ≤ b146 := Nat.le_trans Zs144 (Nat.le_of_eq g146.symm)
  have Zs147 : n0 ≤ h146.size := Nat.le_trans Zs144 E146.1
  have V_b146 : Av Z h146 b146 .int 2 (fun _ => (.int (0 : Int32))) := Av.new A146 hz146
  refine hG _ T146 _ (mkF m 63 #[.val (.int p1), .val (.int p2), .val (.int p3), .val (.int p4), .val (.int p5), .val (.int p6), .val (.int nc), .val (.int x0), .val (.int y0), .val (.int x1), .val (.int y1), .val (.ref b139), .unset, .unset, .unset, .unset, .unset] [(.ref b146)]) st146 ?_
  refine hG _ T146 _ (mkF m 64 #[.val (.int p1), .val (.int p2), .val (.int p3), .val (.int p4), .val (.int p5), .val (.int p6), .val (.int nc), .val (.int x0), .val (.int y0), .val (.int x1), .val (.int y1), .val (.ref b139), .unset, .unset, .unset, .unset, .unset] [(.ref b146), (.ref b146)]) (fun t kq_ => XS.dup X146.here hx rfl (hb hby at_63) rfl rfl kq_) ?_
  refine hG _ T146 _ (mkF m 65 #[.val (.int p1), .val (.int p2), .val (.int p3), .val (.int p4), .val (.int p5), .val (.int p6), .val (.int nc), .val (.int x0), .val (.int y0), .val (.int x1), .val (.int y1), .val (.ref b139), .unset, .unset, .unset, .unset, .unset] [(.int (0 : Int32)), (.ref b146), (.ref b146)]) (fun t kq_ => XS.iconst X146.here hx rfl (hb hby at_64) kq_) ?_
  refine hG _ T146 _ (mkF m 67 #[.val (.int p1), .val (.int p2), .val (.int p3), .val (.int p4), .val (.int p5), .val (.int p6), .val (.int nc), .val (.int x0), .val (.int y0), .val (.int x1), .val (.int y1), .val (.ref b139), .unset, .unset, .unset, .unset, .unset] [(.int y0), (.int (0 : Int32)), (.ref b146), (.ref b146)]) (fun t kq_ => XS.iload X146.here hx rfl (hb hby at_65) rfl kq_) ?_
  obtain ⟨T148, h148, X148, e148, W148, V148, st148⟩ := Av.stI X146 hx hZ e146 V_b146 (j := (0 : Int32)) (i := 0) (by decide) (by decide) (g := (mkF m 67 #[.val (.int p1), .val (.int p2), .val (.int p3), .val (.int p4), .val (.int p5), .val (.int p6), .val (.int nc), .val (.int x0), .val (.int y0), .val (.int x1), .val (.int y1), .val (.ref b139), .unset, .unset, .unset, .unset, .unset] [(.int y0), (.int (0 : Int32)), (.ref b146), (.ref b146)])) rfl rfl (hb hby at_67)
  have Zs149 : n0 ≤ h148.size := Nat.le_trans Zs147 (Keep.of_wr W148).1
  have N148 := Fr.snoc X148 N143 g_b146
  refine hG _ T148 _ (mkF m 68 #[.val (.int p1), .val (.int p2), .val (.int p3), .val (.int p4), .val (.int p5), .val (.int p6), .val (.int nc), .val (.int x0), .val (.int y0), .val (.int x1), .val (.int y1), .val (.ref b139), .unset, .unset, .unset, .unset, .unset] [(.ref b146)]) st148 ?_
  refine hG _ T148 _ (mkF m 69 #[.val (.int p1), .val (.int p2), .val (.int p3), .val (.int p4), .val (.int p5), .val (.int p6), .val (.int nc), .val (.int x0), .val (.int y0), .val (.int x1), .val (.int y1), .val (.ref b139), .unset, .unset, .unset, .unset, .unset] [(.ref b146), (.ref b146)]) (fun t kq_ => XS.dup X148.here hx rfl (hb hby at_68) rfl rfl kq_) ?_
  refine hG _ T148 _ (mkF m 70 #[.val (.int p1), .val (.int p2), .val (.int p3), .val (.int p4), .val (.int p5), .val (.int p6), .val (.int nc), .val (.int x0), .val (.int y0), .val (.int x1), .val (.int y1), .val (.ref b139), .unset, .unset, .unset, .unset, .unset] [(.int (1 : Int32)), (.ref b146), (.ref b146)]) (fun t kq_ => XS.iconst X148.here hx rfl (hb hby at_69) kq_) ?_
  refine hG _ T148 _ (mkF m 72 #[.val (.int p1), .val (.int p2), .val (.int p3), .val (.int p4), .val (.int p5), .val (.int p6), .val (.int nc), .val (.int x0), .val (.int y0), .val (.int x1), .val (.int y1), .val (.ref b139), .unset, .unset, .unset, .unset, .unset] [(.int y1), (.int (1 : Int32)), (.ref b146), (.ref b146)]) (fun t kq_ => XS.iload X148.here hx rfl (hb hby at_70) rfl kq_) ?_
  obtain ⟨T150, h150, X150, e150, W150, V150, st150⟩ := Av.stI X148 hx hZ e148 V148 (j := (1 : Int32)) (i := 1) (by decide) (by decide) (g := (mkF m 72 #[.val (.int p1), .val (.int p2), .val (.int p3), .val (.int p4), .val (.int p5), .val (.int p6), .val (.int nc), .val (.int x0), .val (.int y0), .val (.int x1), .val (.int y1), .val (.ref b139), .unset, .unset, .unset, .unset, .unset] [(.int y1), (.int (1 : Int32)), (.ref b146), (.ref b146)])) rfl rfl (hb hby at_72)
  have Zs151 : n0 ≤ h150.size := Nat.le_trans Zs149 (Keep.of_wr W150).1
  have N150 := Fr.snoc X150 N148 g_b146
  refine hG _ T150 _ (mkF m 73 #[.val (.int p1), .val (.int p2), .val (.int p3), .val (.int p4), .val (.int p5), .val (.int p6), .val (.int nc), .val (.int x0), .val (.int y0), .val (.int x1), .val (.int y1), .val (.ref b139), .unset, .unset, .unset, .unset, .unset] [(.ref b146)]) st150 ?_
  have V152 : Av Z h150 b146 .int 2 (two y0 y1) := V150.cong (fun i hi => by match i, hi with | 0, _ => rfl | 1, _ => rfl)
  refine hG _ T150 _ (mkF m 75 #[.val (.int p1), .val (.int p2), .val (.int p3), .val (.int p4), .val (.int p5), .val (.int p6), .val (.int nc), .val (.int x0), .val (.int y0), .val (.int x1), .val (.int y1), .val (.ref b139), .val (.ref b146), .unset, .unset, .unset, .unset] []) (fun t kq_ => XS.astore X150.here hx rfl (hb hby at_73) rfl rfl (l' := #[.val (.int p1), .val (.int p2), .val (.int p3), .val (.int p4), .val (.int p5), .val (.int p6), .val (.int nc), .val (.int x0), .val (.int y0), .val (.int x1), .val (.int y1), .val (.ref b139), .val (.ref b146), .unset, .unset, .unset, .unset]) rfl kq_) ?_
  have V145'154 : Av Z h150 b139 .int 2 (two x0 x1) := (((V145.ext E146).other W148 ne_b139_b146).other W150 ne_b139_b146)
  obtain ⟨T153, h153, X153, e153, E153, A153, D153, -, st153⟩ := newO X150 hx hZ hown (tw2 hw) (tw3 hw) (tw4 hw) e150 (g := (mkF m 75 #[.val (.int p1), .val (.int p2), .val (.int p3), .val (.int p4), .val (.int p5), .val (.int p6), .val (.int nc), .val (.int x0), .val (.int y0), .val (.int x1), .val (.int y1), .val (.ref b139), .val (.ref b146), .unset, .unset, .unset, .unset] [])) rfl (hb hby at_75) (by decide) (by decide)
  obtain ⟨b153, g153⟩ : ∃ z, z = h150.size := ⟨_, rfl⟩
  rw [← g153] at A153 D153 st153
  have ne_b139_b153 : b139 ≠ b153 := Nat.ne_of_lt (Nat.lt_of_lt_of_le V145'154.lt (Nat.le_of_eq g153.symm))
  have ne_b146_b153 : b146 ≠ b153 := Nat.ne_of_lt (Nat.lt_of_lt_of_le V152.lt (Nat.le_of_eq g153.symm))
  have g_b153 : n0 ≤ b153 := Nat.le_trans Zs151 (Nat.le_of_eq g153.symm)
  have Zs155 : n0 ≤ h153.size := Nat.le_trans Zs151 E153.1
  have F_sources_b153 : Fld Z h153 b153 "com/example/polite_edges/politeedges/Incidences" "sources" "[I" .null := D153 (Or.inr (tw12 hw)) (ty := (.array .int)) (by decide)
  have F_targets_b153 : Fld Z h153 b153 "com/example/polite_edges/politeedges/Incidences" "targets" "[I" .null := D153 (Or.inr (tw14 hw)) (ty := (.array .int)) (by decide)
  have F_starts_b153 : Fld Z h153 b153 "com/example/polite_edges/politeedges/Incidences" "starts" "[I" .null := D153 (Or.inr (tw16 hw)) (ty := (.array .int)) (by decide)
  have F_edges_b153 : Fld Z h153 b153 "com/example/polite_edges/politeedges/Incidences" "edges" "[I" .null := D153 (Or.inr (tw18 hw)) (ty := (.array .int)) (by decide)
  refine hG _ T153 _ (mkF m 78 #[.val (.int p1), .val (.int p2), .val (.int p3), .val (.int p4), .val (.int p5), .val (.int p6), .val (.int nc), .val (.int x0), .val (.int y0), .val (.int x1), .val (.int y1), .val (.ref b139), .val (.ref b146), .unset, .unset, .unset, .unset] [(.ref b153)]) st153 ?_
  refine hG _ T153 _ (mkF m 79 #[.val (.int p1), .val (.int p2), .val (.int p3), .val (.int p4), .val (.int p5), .val (.int p6), .val (.int nc), .val (.int x0), .val (.int y0), .val (.int x1), .val (.int y1), .val (.ref b139), .val (.ref b146), .unset, .unset, .unset, .unset] [(.ref b153), (.ref b153)]) (fun t kq_ => XS.dup X153.here hx rfl (hb hby at_78) rfl rfl kq_) ?_
  refine hG _ T153 _ (mkF m 81 #[.val (.int p1), .val (.int p2), .val (.int p3), .val (.int p4), .val (.int p5), .val (.int p6), .val (.int nc), .val (.int x0), .val (.int y0), .val (.int x1), .val (.int y1), .val (.ref b139), .val (.ref b146), .unset, .unset, .unset, .unset] [(.int nc), (.ref b153), (.ref b153)]) (fun t kq_ => XS.iload X153.here hx rfl (hb hby at_79) rfl kq_) ?_
  refine hG _ T153 _ (mkF m 83 #[.val (.int p1), .val (.int p2), .val (.int p3), .val (.int p4), .val (.int p5), .val (.int p6), .val (.int nc), .val (.int x0), .val (.int y0), .val (.int x1), .val (.int y1), .val (.ref b139), .val (.ref b146), .unset, .unset, .unset, .unset] [(.ref b139), (.int nc), (.ref b153), (.ref b153)]) (fun t kq_ => XS.aload X153.here hx rfl (hb hby at_81) rfl rfl kq_) ?_
  refine hG _ T153 _ (mkF m 85 #[.val (.int p1), .val (.int p2), .val (.int p3), .val (.int p4), .val (.int p5), .val (.int p6), .val (.int nc), .val (.int x0), .val (.int y0), .val (.int x1), .val (.int y1), .val (.ref b139), .val (.ref b146), .unset, .unset, .unset, .unset] [(.ref b146), (.ref b139), (.int nc), (.ref b153), (.ref b153)]) (fun t kq_ => XS.aload X153.here hx rfl (hb hby at_83) rfl rfl kq_) ?_
  have V145'156 : Av Z h153 b139 .int 2 (two x0 x1) := (V145'154.ext E153)
  have V152'157 : Av Z h153 b146 .int 2 (two y0 y1) := (V152.ext E153)
  obtain ⟨_, _, ⟨T158, L158, k158, n158⟩, -, X158, ⟨Lc158, hQ158, l158, y158, z158⟩, st158⟩ := X153.specialBack hx (y := (⟨"com/example/polite_edges/politeedges/Incidences", "<init>", "(I[I[I)V"⟩ : MethodName)) rfl hown (mvT hZ (tw5 hw)) (mvT hZ (tw6 hw)) (mvT hZ (tw7 hw)) (by decide) (backOf (W := 1) (rm1 l Z a0 hw [] b153 nc b139 b146 h153 n0 Zs155 _ _ _ _ x0 x1 y0 y1 n s0 s1 t0 t1 A153 g_b153 F_sources_b153 F_targets_b153 F_starts_b153 F_edges_b153 V145'156 V152'157 ne_b139_b153 ne_b146_b153 hn hn1 h8 hx0 hx1 hy0 hy1 ls0 ls1 lt0 lt1) hZ (tw7 hw) (tw4 hw) (by decide) (by decide)) (g := (mkF m 85 #[.val (.int p1), .val (.int p2), .val (.int p3), .val (.int p4), .val (.int p5), .val (.int p6), .val (.int nc), .val (.int x0), .val (.int y0), .val (.int x1), .val (.int y1), .val (.ref b139), .val (.ref b146), .unset, .unset, .unset, .unset] [(.ref b146), (.ref b139), (.int nc), (.ref b153), (.ref b153)])) rfl (by rw [hml]; rfl) (Steps.refl _) (a := b153) (argsL := [(.int nc), (.ref b139), (.ref b146)]) (rest := [(.ref b153)]) (lenOf pd_1 rfl) rfl (by show 2 * 0 + _ ≤ _; exact Nat.le_of_eq rfl) (hb hby at_85) (fun _ _ => ⟨rfl, e153, (by decide : 3 + 3 ≤ _), (by decide : 8 + 21 ≤ _)⟩)
  dsimp only [Pt.U, Pt.locs, Pt.cells, Pt.slots] at X158 l158 y158 z158 st158 hQ158
  subst l158 y158 z158
  obtain ⟨rfl, N158q, K1, G1, G2⟩ := hQ158
  have N158 := Fr.app N150 N158q
  have Zs159 : n0 ≤ T158.heap.size := Nat.le_trans Zs155 K1.1
  refine hG _ T158 _ (mkF m 88 #[.val (.int p1), .val (.int p2), .val (.int p3), .val (.int p4), .val (.int p5), .val (.int p6), .val (.int nc), .val (.int x0), .val (.int y0), .val (.int x1), .val (.int y1), .val (.ref b139), .val (.ref b146), .unset, .unset, .unset, .unset] [(.ref b153)]) (fun t kq_ => st158.trans kq_) ?_
  refine hG _ T158 _ (mkF m 90 #[.val (.int p1), .val (.int p2), .val (.int p3), .val (.int p4), .val (.int p5), .val (.int p6), .val (.int nc), .val (.int x0), .val (.int y0), .val (.int x1), .val (.int y1), .val (.ref b139), .val (.ref b146), .val (.ref b153), .unset, .unset, .unset] []) (fun t kq_ => XS.astore X158.here hx rfl (hb hby at_88) rfl rfl (l' := #[.val (.int p1), .val (.int p2), .val (.int p3), .val (.int p4), .val (.int p5), .val (.int p6), .val (.int nc), .val (.int x0), .val (.int y0), .val (.int x1), .val (.int y1), .val (.ref b139), .val (.ref b146), .val (.ref b153), .unset, .unset, .unset]) rfl kq_) ?_
  refine hG _ T158 _ (mkF m 92 #[.val (.int p1), .val (.int p2), .val (.int p3), .val (.int p4), .val (.int p5), .val (.int p6), .val (.int nc), .val (.int x0), .val (.int y0), .val (.int x1), .val (.int y1), .val (.ref b139), .val (.ref b146), .val (.ref b153), .unset, .unset, .unset] [(.int p6)]) (fun t kq_ => XS.iload X158.here hx rfl (hb hby at_90) rfl kq_) ?_
  refine hG _ T158 _ (mkF m 93 #[.val (.int p1), .val (.int p2), .val (.int p3), .val (.int p4), .val (.int p5), .val (.int p6), .val (.int nc), .val (.int x0), .val (.int y0), .val (.int x1), .val (.int y1), .val (.ref b139), .val (.ref b146), .val (.ref b153), .unset, .unset, .unset] [(.int (1 : Int32)), (.int p6)]) (fun t kq_ => XS.iconst X158.here hx rfl (hb hby at_92) kq_) ?_
  refine hG _ T158 _ (mkF m 94 #[.val (.int p1), .val (.int p2), .val (.int p3), .val (.int p4), .val (.int p5), .val (.int p6), .val (.int nc), .val (.int x0), .val (.int y0), .val (.int x1), .val (.int y1), .val (.ref b139), .val (.ref b146), .val (.ref b153), .unset, .unset, .unset] [(.int (p6 &&& (1 : Int32)))]) (fun t kq_ => XS.iand X158.here hx rfl (hb hby at_93) rfl kq_) ?_
  refine hG _ T158 _ (mkF m 96 #[.val (.int p1), .val (.int p2), .val (.int p3), .val (.int p4), .val (.int p5), .val (.int p6), .val (.int nc), .val (.int x0), .val (.int y0), .val (.int x1), .val (.int y1), .val (.ref b139), .val (.ref b146), .val (.ref b153), .val (.int (p6 &&& (1 : Int32))), .unset, .unset] []) (fun t kq_ => XS.istore X158.here hx rfl (hb hby at_94) rfl (l' := #[.val (.int p1), .val (.int p2), .val (.int p3), .val (.int p4), .val (.int p5), .val (.int p6), .val (.int nc), .val (.int x0), .val (.int y0), .val (.int x1), .val (.int y1), .val (.ref b139), .val (.ref b146), .val (.ref b153), .val (.int (p6 &&& (1 : Int32))), .unset, .unset]) rfl kq_) ?_
  refine hG _ T158 _ (mkF m 98 #[.val (.int p1), .val (.int p2), .val (.int p3), .val (.int p4), .val (.int p5), .val (.int p6), .val (.int nc), .val (.int x0), .val (.int y0), .val (.int x1), .val (.int y1), .val (.ref b139), .val (.ref b146), .val (.ref b153), .val (.int (p6 &&& (1 : Int32))), .unset, .unset] [(.int (p6 &&& (1 : Int32)))]) (fun t kq_ => XS.iload X158.here hx rfl (hb hby at_96) rfl kq_) ?_
  by_cases hc98 : (p6 &&& (1 : Int32)) = (0 : Int32)
  · refine hG _ T158 _ (mkF m 101 #[.val (.int p1), .val (.int p2), .val (.int p3), .val (.int p4), .val (.int p5), .val (.int p6), .val (.int nc), .val (.int x0), .val (.int y0), .val (.int x1), .val (.int y1), .val (.ref b139), .val (.ref b146), .val (.ref b153), .val (.int (p6 &&& (1 : Int32))), .unset, .unset] []) (fun t kq_ => XS.ifNo X158.here hx rfl (hb hby at_98) rfl ((if0 _ _).trans (teq hc98).2) kq_) ?_
    refine hG _ T158 _ (mkF m 103 #[.val (.int p1), .val (.int p2), .val (.int p3), .val (.int p4), .val (.int p5), .val (.int p6), .val (.int nc), .val (.int x0), .val (.int y0), .val (.int x1), .val (.int y1), .val (.ref b139), .val (.ref b146), .val (.ref b153), .val (.int (p6 &&& (1 : Int32))), .unset, .unset] [(.int x0)]) (fun t kq_ => XS.iload X158.here hx rfl (hb hby at_101) rfl kq_) ?_
    refine hG _ T158 _ (mkF m 108 #[.val (.int p1), .val (.int p2), .val (.int p3), .val (.int p4), .val (.int p5), .val (.int p6), .val (.int nc), .val (.int x0), .val (.int y0), .val (.int x1), .val (.int y1), .val (.ref b139), .val (.ref b146), .val (.ref b153), .val (.int (p6 &&& (1 : Int32))), .unset, .unset] [(.int x0)]) (fun t kq_ => XS.goto X158.here hx rfl (pc0 := 103) (pc' := 108) rfl (hb hby at_103) (by decide) (by decide) kq_) ?_
    refine hG _ T158 _ (mkF m 110 #[.val (.int p1), .val (.int p2), .val (.int p3), .val (.int p4), .val (.int p5), .val (.int p6), .val (.int nc), .val (.int x0), .val (.int y0), .val (.int x1), .val (.int y1), .val (.ref b139), .val (.ref b146), .val (.ref b153), .val (.int (p6 &&& (1 : Int32))), .val (.int x0), .unset] []) (fun t kq_ => XS.istore X158.here hx rfl (hb hby at_108) rfl (l' := #[.val (.int p1), .val (.int p2), .val (.int p3), .val (.int p4), .val (.int p5), .val (.int p6), .val (.int nc), .val (.int x0), .val (.int y0), .val (.int x1), .val (.int y1), .val (.ref b139), .val (.ref b146), .val (.ref b153), .val (.int (p6 &&& (1 : Int32))), .val (.int x0), .unset]) rfl kq_) ?_
    refine hG _ T158 _ (mkF m 112 #[.val (.int p1), .val (.int p2), .val (.int p3), .val (.int p4), .val (.int p5), .val (.int p6), .val (.int nc), .val (.int x0), .val (.int y0), .val (.int x1), .val (.int y1), .val (.ref b139), .val (.ref b146), .val (.ref b153), .val (.int (p6 &&& (1 : Int32))), .val (.int x0), .unset] [(.int (p6 &&& (1 : Int32)))]) (fun t kq_ => XS.iload X158.here hx rfl (hb hby at_110) rfl kq_) ?_
    refine hG _ T158 _ (mkF m 115 #[.val (.int p1), .val (.int p2), .val (.int p3), .val (.int p4), .val (.int p5), .val (.int p6), .val (.int nc), .val (.int x0), .val (.int y0), .val (.int x1), .val (.int y1), .val (.ref b139), .val (.ref b146), .val (.ref b153), .val (.int (p6 &&& (1 : Int32))), .val (.int x0), .unset] []) (fun t kq_ => XS.ifNo X158.here hx rfl (hb hby at_112) rfl ((if0 _ _).trans (teq hc98).2) kq_) ?_
    refine hG _ T158 _ (mkF m 117 #[.val (.int p1), .val (.int p2), .val (.int p3), .val (.int p4), .val (.int p5), .val (.int p6), .val (.int nc), .val (.int x0), .val (.int y0), .val (.int x1), .val (.int y1), .val (.ref b139), .val (.ref b146), .val (.ref b153), .val (.int (p6 &&& (1 : Int32))), .val (.int x0), .unset] [(.int y0)]) (fun t kq_ => XS.iload X158.here hx rfl (hb hby at_115) rfl kq_) ?_
    refine hG _ T158 _ (mkF m 122 #[.val (.int p1), .val (.int p2), .val (.int p3), .val (.int p4), .val (.int p5), .val (.int p6), .val (.int nc), .val (.int x0), .val (.int y0), .val (.int x1), .val (.int y1), .val (.ref b139), .val (.ref b146), .val (.ref b153), .val (.int (p6 &&& (1 : Int32))), .val (.int x0), .unset] [(.int y0)]) (fun t kq_ => XS.goto X158.here hx rfl (pc0 := 117) (pc' := 122) rfl (hb hby at_117) (by decide) (by decide) kq_) ?_
    refine hG _ T158 _ (mkF m 124 #[.val (.int p1), .val (.int p2), .val (.int p3), .val (.int p4), .val (.int p5), .val (.int p6), .val (.int nc), .val (.int x0), .val (.int y0), .val (.int x1), .val (.int y1), .val (.ref b139), .val (.ref b146), .val (.ref b153), .val (.int (p6 &&& (1 : Int32))), .val (.int x0), .val (.int y0)] []) (fun t kq_ => XS.istore X158.here hx rfl (hb hby at_122) rfl (l' := #[.val (.int p1), .val (.int p2), .val (.int p3), .val (.int p4), .val (.int p5), .val (.int p6), .val (.int nc), .val (.int x0), .val (.int y0), .val (.int x1), .val (.int y1), .val (.ref b139), .val (.ref b146), .val (.ref b153), .val (.int (p6 &&& (1 : Int32))), .val (.int x0), .val (.int y0)]) rfl kq_) ?_
    have A153'160 : Exa Z T158.heap b153 "com/example/polite_edges/politeedges/Incidences" := (A153.keep K1)
    have V145'161 : Av Z T158.heap b139 .int 2 (two x0 x1) := (V145'156.keep K1 (ninS ne_b139_b153 nin0))
    have V152'162 : Av Z T158.heap b146 .int 2 (two y0 y1) := (V152'157.keep K1 (ninS ne_b146_b153 nin0))
    exact own_124 _ _ _ _ _ _ _ _ _ _ _ _ _ _ _ _ _ 0 X158 hx hZ hw hby hml hown rfl Zs159 N158 hlk hrt A153'160 G1 G2 V145'161 V152'162 (by rw [hc98]; rfl) (by decide) rfl rfl
  · refine hG _ T158 _ (mkF m 106 #[.val (.int p1), .val (.int p2), .val (.int p3), .val (.int p4), .val (.int p5), .val (.int p6), .val (.int nc), .val (.int x0), .val (.int y0), .val (.int x1), .val (.int y1), .val (.ref b139), .val (.ref b146), .val (.ref b153), .val (.int (p6 &&& (1 : Int32))), .unset, .unset] []) (fun t kq_ => XS.ifYes X158.here hx rfl (pc0 := 98) (pc' := 106) rfl (hb hby at_98) rfl ((if0 _ _).trans (feq hc98).2) (by decide) (by decide) kq_) ?_
    refine hG _ T158 _ (mkF m 108 #[.val (.int p1), .val (.int p2), .val (.int p3), .val (.int p4), .val (.int p5), .val (.int p6), .val (.int nc), .val (.int x0), .val (.int y0), .val (.int x1), .val (.int y1), .val (.ref b139), .val (.ref b146), .val (.ref b153), .val (.int (p6 &&& (1 : Int32))), .unset, .unset] [(.int x1)]) (fun t kq_ => XS.iload X158.here hx rfl (hb hby at_106) rfl kq_) ?_
    refine hG _ T158 _ (mkF m 110 #[.val (.int p1), .val (.int p2), .val (.int p3), .val (.int p4), .val (.int p5), .val (.int p6), .val (.int nc), .val (.int x0), .val (.int y0), .val (.int x1), .val (.int y1), .val (.ref b139), .val (.ref b146), .val (.ref b153), .val (.int (p6 &&& (1 : Int32))), .val (.int x1), .unset] []) (fun t kq_ => XS.istore X158.here hx rfl (hb hby at_108) rfl (l' := #[.val (.int p1), .val (.int p2), .val (.int p3), .val (.int p4), .val (.int p5), .val (.int p6), .val (.int nc), .val (.int x0), .val (.int y0), .val (.int x1), .val (.int y1), .val (.ref b139), .val (.ref b146), .val (.ref b153), .val (.int (p6 &&& (1 : Int32))), .val (.int x1), .unset]) rfl kq_) ?_
    refine hG _ T158 _ (mkF m 112 #[.val (.int p1), .val (.int p2), .val (.int p3), .val (.int p4), .val (.int p5), .val (.int p6), .val (.int nc), .val (.int x0), .val (.int y0), .val (.int x1), .val (.int y1), .val (.ref b139), .val (.ref b146), .val (.ref b153), .val (.int (p6 &&& (1 : Int32))), .val (.int x1), .unset] [(.int (p6 &&& (1 : Int32)))]) (fun t kq_ => XS.iload X158.here hx rfl (hb hby at_110) rfl kq_) ?_
    refine hG _ T158 _ (mkF m 120 #[.val (.int p1), .val (.int p2), .val (.int p3), .val (.int p4), .val (.int p5), .val (.int p6), .val (.int nc), .val (.int x0), .val (.int y0), .val (.int x1), .val (.int y1), .val (.ref b139), .val (.ref b146), .val (.ref b153), .val (.int (p6 &&& (1 : Int32))), .val (.int x1), .unset] []) (fun t kq_ => XS.ifYes X158.here hx rfl (pc0 := 112) (pc' := 120) rfl (hb hby at_112) rfl ((if0 _ _).trans (feq hc98).2) (by decide) (by decide) kq_) ?_
    refine hG _ T158 _ (mkF m 122 #[.val (.int p1), .val (.int p2), .val (.int p3), .val (.int p4), .val (.int p5), .val (.int p6), .val (.int nc), .val (.int x0), .val (.int y0), .val (.int x1), .val (.int y1), .val (.ref b139), .val (.ref b146), .val (.ref b153), .val (.int (p6 &&& (1 : Int32))), .val (.int x1), .unset] [(.int y1)]) (fun t kq_ => XS.iload X158.here hx rfl (hb hby at_120) rfl kq_) ?_
    refine hG _ T158 _ (mkF m 124 #[.val (.int p1), .val (.int p2), .val (.int p3), .val (.int p4), .val (.int p5), .val (.int p6), .val (.int nc), .val (.int x0), .val (.int y0), .val (.int x1), .val (.int y1), .val (.ref b139), .val (.ref b146), .val (.ref b153), .val (.int (p6 &&& (1 : Int32))), .val (.int x1), .val (.int y1)] []) (fun t kq_ => XS.istore X158.here hx rfl (hb hby at_122) rfl (l' := #[.val (.int p1), .val (.int p2), .val (.int p3), .val (.int p4), .val (.int p5), .val (.int p6), .val (.int nc), .val (.int x0), .val (.int y0), .val (.int x1), .val (.int y1), .val (.ref b139), .val (.ref b146), .val (.ref b153), .val (.int (p6 &&& (1 : Int32))), .val (.int x1), .val (.int y1)]) rfl kq_) ?_
    have A153'163 : Exa Z T158.heap b153 "com/example/polite_edges/politeedges/Incidences" := (A153.keep K1)
    have V145'164 : Av Z T158.heap b139 .int 2 (two x0 x1) := (V145'156.keep K1 (ninS ne_b139_b153 nin0))
    have V152'165 : Av Z T158.heap b146 .int 2 (two y0 y1) := (V152'157.keep K1 (ninS ne_b146_b153 nin0))
    exact own_124 _ _ _ _ _ _ _ _ _ _ _ _ _ _ _ _ _ 1 X158 hx hZ hw hby hml hown rfl Zs159 N158 hlk hrt A153'163 G1 G2 V145'164 V152'165 (by rw [(and_one p6).resolve_left hc98]; rfl) (by decide) rfl rfl
theorem own_rem {x y : Int32} {n : Nat} (hy : y.toInt = (n : Int)) (hn : 1 ≤ n) : ∃ k : Nat, ((x &&& (2147483647 : Int32)) % y).toInt = (k : Int) ∧ k < n := by
  have h1 := (c_and x 2147483647 (by decide)).1
  have h2 := (c_iremV (x &&& 2147483647) y).1 h1 (by omega)
  exact ⟨((x &&& (2147483647 : Int32)) % y).toInt.toNat, by omega, by omega⟩
theorem own_nc (x : Int32) : ∃ n : Nat, ((1 : Int32) + (x &&& (7 : Int32))).toInt = (n : Int) ∧ 1 ≤ n ∧ n ≤ 8 := by
  have h1 := c_and x 7 (by decide)
  have h2 := c_iadd 1 (x &&& 7)
  have h3 := rng32 (1 + (x &&& 7))
  have e1 : (1 : Int32).toInt = 1 := rfl
  have e7 : (7 : Int32).toInt = 7 := rfl
  exact ⟨((1 : Int32) + (x &&& (7 : Int32))).toInt.toNat, by omega, by omega, by omega⟩
theorem ef_rm0 (m : MethodId) (x0 : Int32) (x1 : Int32) (x2 : Int32) (x3 : Int32) (x4 : Int32) (x5 : Int32) : entryFrame m #[(.int x0), (.int x1), (.int x2), (.int x3), (.int x4), (.int x5)] maxLocals = mkF m 0 #[.val (.int x0), .val (.int x1), .val (.int x2), .val (.int x3), .val (.int x4), .val (.int x5), .unset, .unset, .unset, .unset, .unset, .unset, .unset, .unset, .unset, .unset, .unset] [] := by first | (simp [entryFrame, mkF, argsToLocals, Value.category, maxLocals]; done) | rfl
theorem pn_rm0 : plainName "com/example/polite_edges/politeedges/IncidencesOtherEndPinLaw" = true := by first | (simp [plainName, overriddenIn]; done) | decide +kernel
def Q_rm0 (Z : State) (p1 : Int32) (p2 : Int32) (p3 : Int32) (p4 : Int32) (p5 : Int32) (p6 : Int32)  (h0 : Heap) (n0 : Nat) (v : Option Value) (h : Heap) (L : List Loc) : Prop := v = some (.int 1) ∧ Fr n0 L
set_option maxRecDepth 65536 in
set_option maxHeartbeats 40000000 in
theorem rm0 (l : Launch) (Z : State) (a0 : Array Value) (hw : ∀ d ∈ tables_1, d.before a0 Z = true) (ws : List Jvm.Cond) (p1 : Int32) (p2 : Int32) (p3 : Int32) (p4 : Int32) (p5 : Int32) (p6 : Int32) (h0 : Heap) (n0 : Nat) (Z0 : n0 ≤ h0.size) :
    MetFree l x (head1 (Jvm.Cond.code x code maxLocals ret :: ws) room_1) (fun a U => a = #[(.int p1), (.int p2), (.int p3), (.int p4), (.int p5), (.int p6)] ∧ Z.Warmed39 U.vm ∧ U.heap = h0) (fun _ _ _ _ _ => True) (fun _ U o U' => ∃ v L, o = .returned v ∧ Q_rm0 Z p1 p2 p3 p4 p5 p6  h0 n0 v U'.heap L ∧ FrameEnd U o U' L 24 128) := by
  refine MetFree.of_bodySF (plainFor_of_name pn_rm0) hisR ?_
  intro p e s m args below meth c s₁ Bd hml0 hP hK
  obtain ⟨rfl, hZ, hh⟩ := hP
  have hx := Bd.exec
  have hby := Bd.bytes
  have hml : c.maxLocals = 17 := hml0
  have hown : s.vm.findClass "com/example/polite_edges/politeedges/IncidencesOtherEndPinLaw" = some m.cls := findClass_of_methodNamed Bd.named
  have hnm := (name_of_methodNamed Bd.named Bd.method).1
  have X0 : Stand p l e room_1 s m #[(.int p1), (.int p2), (.int p3), (.int p4), (.int p5), (.int p6)] below meth c s₁ [] 0 0 := Stand.of_body Bd
  have e0 : s₁.heap = h0 := by rw [← hh, Bd.state]; rfl
  have N0 := Fr.nil n0
  have hlk : meth.locks = false := BodyLoose.notSynchronized Bd
  have hrt := Bd.returns
  have hG := Goes.bk p e below s (fun (v : Option Value) (h : Heap) (L : List Loc) => v = some (.int 1) ∧ Fr n0 L) 24 128
  show Goes p e below s (fun (v : Option Value) (h : Heap) (L : List Loc) => v = some (.int 1) ∧ Fr n0 L) 24 128 s₁ (entryFrame m #[(.int p1), (.int p2), (.int p3), (.int p4), (.int p5), (.int p6)] maxLocals)
  rw [ef_rm0 m p1 p2 p3 p4 p5 p6]
  obtain ⟨n, hn, hn1, h8⟩ := own_nc p1
  have hnz : ¬ ((1 : Int32) + (p1 &&& (7 : Int32))) = (0 : Int32) := fun q => by rw [q] at hn; have e0 : (0 : Int32).toInt = 0 := rfl; omega
  refine hG _ s₁ _ (mkF m 1 #[.val (.int p1), .val (.int p2), .val (.int p3), .val (.int p4), .val (.int p5), .val (.int p6), .unset, .unset, .unset, .unset, .unset, .unset, .unset, .unset, .unset, .unset, .unset] [(.int (1 : Int32))]) (fun t kq_ => XS.iconst X0.here hx rfl (hb hby at_0) kq_) ?_
  refine hG _ s₁ _ (mkF m 2 #[.val (.int p1), .val (.int p2), .val (.int p3), .val (.int p4), .val (.int p5), .val (.int p6), .unset, .unset, .unset, .unset, .unset, .unset, .unset, .unset, .unset, .unset, .unset] [(.int p1), (.int (1 : Int32))]) (fun t kq_ => XS.iloadN X0.here hx rfl (hb hby at_1) rfl kq_) ?_
  refine hG _ s₁ _ (mkF m 4 #[.val (.int p1), .val (.int p2), .val (.int p3), .val (.int p4), .val (.int p5), .val (.int p6), .unset, .unset, .unset, .unset, .unset, .unset, .unset, .unset, .unset, .unset, .unset] [(.int (7 : Int32)), (.int p1), (.int (1 : Int32))]) (fun t kq_ => XS.bipush X0.here hx rfl (hb hby at_2) kq_) ?_
  refine hG _ s₁ _ (mkF m 5 #[.val (.int p1), .val (.int p2), .val (.int p3), .val (.int p4), .val (.int p5), .val (.int p6), .unset, .unset, .unset, .unset, .unset, .unset, .unset, .unset, .unset, .unset, .unset] [(.int (p1 &&& (7 : Int32))), (.int (1 : Int32))]) (fun t kq_ => XS.iand X0.here hx rfl (hb hby at_4) rfl kq_) ?_
  refine hG _ s₁ _ (mkF m 6 #[.val (.int p1), .val (.int p2), .val (.int p3), .val (.int p4), .val (.int p5), .val (.int p6), .unset, .unset, .unset, .unset, .unset, .unset, .unset, .unset, .unset, .unset, .unset] [(.int ((1 : Int32) + (p1 &&& (7 : Int32))))]) (fun t kq_ => XS.iadd X0.here hx rfl (hb hby at_5) rfl kq_) ?_
  refine hG _ s₁ _ (mkF m 8 #[.val (.int p1), .val (.int p2), .val (.int p3), .val (.int p4), .val (.int p5), .val (.int p6), .val (.int ((1 : Int32) + (p1 &&& (7 : Int32)))), .unset, .unset, .unset, .unset, .unset, .unset, .unset, .unset, .unset, .unset] []) (fun t kq_ => XS.istore X0.here hx rfl (hb hby at_6) rfl (l' := #[.val (.int p1), .val (.int p2), .val (.int p3), .val (.int p4), .val (.int p5), .val (.int p6), .val (.int ((1 : Int32) + (p1 &&& (7 : Int32)))), .unset, .unset, .unset, .unset, .unset, .unset, .unset, .unset, .unset, .unset]) rfl kq_) ?_
  refine hG _ s₁ _ (mkF m 9 #[.val (.int p1), .val (.int p2), .val (.int p3), .val (.int p4), .val (.int p5), .val (.int p6), .val (.int ((1 : Int32) + (p1 &&& (7 : Int32)))), .unset, .unset, .unset, .unset, .unset, .unset, .unset, .unset, .unset, .unset] [(.int p2)]) (fun t kq_ => XS.iloadN X0.here hx rfl (hb hby at_8) rfl kq_) ?_
  refine hG _ s₁ _ (mkF m 11 #[.val (.int p1), .val (.int p2), .val (.int p3), .val (.int p4), .val (.int p5), .val (.int p6), .val (.int ((1 : Int32) + (p1 &&& (7 : Int32)))), .unset, .unset, .unset, .unset, .unset, .unset, .unset, .unset, .unset, .unset] [(.int (2147483647 : Int32)), (.int p2)]) (X0.ldcInt hx hown (mvT hZ (tw0 hw)) (g := (mkF m 9 #[.val (.int p1), .val (.int p2), .val (.int p3), .val (.int p4), .val (.int p5), .val (.int p6), .val (.int ((1 : Int32) + (p1 &&& (7 : Int32)))), .unset, .unset, .unset, .unset, .unset, .unset, .unset, .unset, .unset, .unset] [(.int p2)])) rfl (hb hby at_9)) ?_
  refine hG _ s₁ _ (mkF m 12 #[.val (.int p1), .val (.int p2), .val (.int p3), .val (.int p4), .val (.int p5), .val (.int p6), .val (.int ((1 : Int32) + (p1 &&& (7 : Int32)))), .unset, .unset, .unset, .unset, .unset, .unset, .unset, .unset, .unset, .unset] [(.int (p2 &&& (2147483647 : Int32)))]) (fun t kq_ => XS.iand X0.here hx rfl (hb hby at_11) rfl kq_) ?_
  refine hG _ s₁ _ (mkF m 14 #[.val (.int p1), .val (.int p2), .val (.int p3), .val (.int p4), .val (.int p5), .val (.int p6), .val (.int ((1 : Int32) + (p1 &&& (7 : Int32)))), .unset, .unset, .unset, .unset, .unset, .unset, .unset, .unset, .unset, .unset] [(.int ((1 : Int32) + (p1 &&& (7 : Int32)))), (.int (p2 &&& (2147483647 : Int32)))]) (fun t kq_ => XS.iload X0.here hx rfl (hb hby at_12) rfl kq_) ?_
  refine hG _ s₁ _ (mkF m 15 #[.val (.int p1), .val (.int p2), .val (.int p3), .val (.int p4), .val (.int p5), .val (.int p6), .val (.int ((1 : Int32) + (p1 &&& (7 : Int32)))), .unset, .unset, .unset, .unset, .unset, .unset, .unset, .unset, .unset, .unset] [(.int ((p2 &&& (2147483647 : Int32)) % ((1 : Int32) + (p1 &&& (7 : Int32)))))]) (fun t kq_ => iremM X0 hx rfl (hb hby at_14) rfl hnz kq_) ?_
  refine hG _ s₁ _ (mkF m 17 #[.val (.int p1), .val (.int p2), .val (.int p3), .val (.int p4), .val (.int p5), .val (.int p6), .val (.int ((1 : Int32) + (p1 &&& (7 : Int32)))), .val (.int ((p2 &&& (2147483647 : Int32)) % ((1 : Int32) + (p1 &&& (7 : Int32))))), .unset, .unset, .unset, .unset, .unset, .unset, .unset, .unset, .unset] []) (fun t kq_ => XS.istore X0.here hx rfl (hb hby at_15) rfl (l' := #[.val (.int p1), .val (.int p2), .val (.int p3), .val (.int p4), .val (.int p5), .val (.int p6), .val (.int ((1 : Int32) + (p1 &&& (7 : Int32)))), .val (.int ((p2 &&& (2147483647 : Int32)) % ((1 : Int32) + (p1 &&& (7 : Int32))))), .unset, .unset, .unset, .unset, .unset, .unset, .unset, .unset, .unset]) rfl kq_) ?_
  refine hG _ s₁ _ (mkF m 18 #[.val (.int p1), .val (.int p2), .val (.int p3), .val (.int p4), .val (.int p5), .val (.int p6), .val (.int ((1 : Int32) + (p1 &&& (7 : Int32)))), .val (.int ((p2 &&& (2147483647 : Int32)) % ((1 : Int32) + (p1 &&& (7 : Int32))))), .unset, .unset, .unset, .unset, .unset, .unset, .unset, .unset, .unset] [(.int p3)]) (fun t kq_ => XS.iloadN X0.here hx rfl (hb hby at_17) rfl kq_) ?_
  refine hG _ s₁ _ (mkF m 20 #[.val (.int p1), .val (.int p2), .val (.int p3), .val (.int p4), .val (.int p5), .val (.int p6), .val (.int ((1 : Int32) + (p1 &&& (7 : Int32)))), .val (.int ((p2 &&& (2147483647 : Int32)) % ((1 : Int32) + (p1 &&& (7 : Int32))))), .unset, .unset, .unset, .unset, .unset, .unset, .unset, .unset, .unset] [(.int (2147483647 : Int32)), (.int p3)]) (X0.ldcInt hx hown (mvT hZ (tw0 hw)) (g := (mkF m 18 #[.val (.int p1), .val (.int p2), .val (.int p3), .val (.int p4), .val (.int p5), .val (.int p6), .val (.int ((1 : Int32) + (p1 &&& (7 : Int32)))), .val (.int ((p2 &&& (2147483647 : Int32)) % ((1 : Int32) + (p1 &&& (7 : Int32))))), .unset, .unset, .unset, .unset, .unset, .unset, .unset, .unset, .unset] [(.int p3)])) rfl (hb hby at_18)) ?_
  refine hG _ s₁ _ (mkF m 21 #[.val (.int p1), .val (.int p2), .val (.int p3), .val (.int p4), .val (.int p5), .val (.int p6), .val (.int ((1 : Int32) + (p1 &&& (7 : Int32)))), .val (.int ((p2 &&& (2147483647 : Int32)) % ((1 : Int32) + (p1 &&& (7 : Int32))))), .unset, .unset, .unset, .unset, .unset, .unset, .unset, .unset, .unset] [(.int (p3 &&& (2147483647 : Int32)))]) (fun t kq_ => XS.iand X0.here hx rfl (hb hby at_20) rfl kq_) ?_
  refine hG _ s₁ _ (mkF m 23 #[.val (.int p1), .val (.int p2), .val (.int p3), .val (.int p4), .val (.int p5), .val (.int p6), .val (.int ((1 : Int32) + (p1 &&& (7 : Int32)))), .val (.int ((p2 &&& (2147483647 : Int32)) % ((1 : Int32) + (p1 &&& (7 : Int32))))), .unset, .unset, .unset, .unset, .unset, .unset, .unset, .unset, .unset] [(.int ((1 : Int32) + (p1 &&& (7 : Int32)))), (.int (p3 &&& (2147483647 : Int32)))]) (fun t kq_ => XS.iload X0.here hx rfl (hb hby at_21) rfl kq_) ?_
  refine hG _ s₁ _ (mkF m 24 #[.val (.int p1), .val (.int p2), .val (.int p3), .val (.int p4), .val (.int p5), .val (.int p6), .val (.int ((1 : Int32) + (p1 &&& (7 : Int32)))), .val (.int ((p2 &&& (2147483647 : Int32)) % ((1 : Int32) + (p1 &&& (7 : Int32))))), .unset, .unset, .unset, .unset, .unset, .unset, .unset, .unset, .unset] [(.int ((p3 &&& (2147483647 : Int32)) % ((1 : Int32) + (p1 &&& (7 : Int32)))))]) (fun t kq_ => iremM X0 hx rfl (hb hby at_23) rfl hnz kq_) ?_
  refine hG _ s₁ _ (mkF m 26 #[.val (.int p1), .val (.int p2), .val (.int p3), .val (.int p4), .val (.int p5), .val (.int p6), .val (.int ((1 : Int32) + (p1 &&& (7 : Int32)))), .val (.int ((p2 &&& (2147483647 : Int32)) % ((1 : Int32) + (p1 &&& (7 : Int32))))), .val (.int ((p3 &&& (2147483647 : Int32)) % ((1 : Int32) + (p1 &&& (7 : Int32))))), .unset, .unset, .unset, .unset, .unset, .unset, .unset, .unset] []) (fun t kq_ => XS.istore X0.here hx rfl (hb hby at_24) rfl (l' := #[.val (.int p1), .val (.int p2), .val (.int p3), .val (.int p4), .val (.int p5), .val (.int p6), .val (.int ((1 : Int32) + (p1 &&& (7 : Int32)))), .val (.int ((p2 &&& (2147483647 : Int32)) % ((1 : Int32) + (p1 &&& (7 : Int32))))), .val (.int ((p3 &&& (2147483647 : Int32)) % ((1 : Int32) + (p1 &&& (7 : Int32))))), .unset, .unset, .unset, .unset, .unset, .unset, .unset, .unset]) rfl kq_) ?_
  refine hG _ s₁ _ (mkF m 27 #[.val (.int p1), .val (.int p2), .val (.int p3), .val (.int p4), .val (.int p5), .val (.int p6), .val (.int ((1 : Int32) + (p1 &&& (7 : Int32)))), .val (.int ((p2 &&& (2147483647 : Int32)) % ((1 : Int32) + (p1 &&& (7 : Int32))))), .val (.int ((p3 &&& (2147483647 : Int32)) % ((1 : Int32) + (p1 &&& (7 : Int32))))), .unset, .unset, .unset, .unset, .unset, .unset, .unset, .unset] [(.int p4)]) (fun t kq_ => XS.iloadN X0.here hx rfl (hb hby at_26) rfl kq_) ?_
  refine hG _ s₁ _ (mkF m 29 #[.val (.int p1), .val (.int p2), .val (.int p3), .val (.int p4), .val (.int p5), .val (.int p6), .val (.int ((1 : Int32) + (p1 &&& (7 : Int32)))), .val (.int ((p2 &&& (2147483647 : Int32)) % ((1 : Int32) + (p1 &&& (7 : Int32))))), .val (.int ((p3 &&& (2147483647 : Int32)) % ((1 : Int32) + (p1 &&& (7 : Int32))))), .unset, .unset, .unset, .unset, .unset, .unset, .unset, .unset] [(.int (2147483647 : Int32)), (.int p4)]) (X0.ldcInt hx hown (mvT hZ (tw0 hw)) (g := (mkF m 27 #[.val (.int p1), .val (.int p2), .val (.int p3), .val (.int p4), .val (.int p5), .val (.int p6), .val (.int ((1 : Int32) + (p1 &&& (7 : Int32)))), .val (.int ((p2 &&& (2147483647 : Int32)) % ((1 : Int32) + (p1 &&& (7 : Int32))))), .val (.int ((p3 &&& (2147483647 : Int32)) % ((1 : Int32) + (p1 &&& (7 : Int32))))), .unset, .unset, .unset, .unset, .unset, .unset, .unset, .unset] [(.int p4)])) rfl (hb hby at_27)) ?_
  refine hG _ s₁ _ (mkF m 30 #[.val (.int p1), .val (.int p2), .val (.int p3), .val (.int p4), .val (.int p5), .val (.int p6), .val (.int ((1 : Int32) + (p1 &&& (7 : Int32)))), .val (.int ((p2 &&& (2147483647 : Int32)) % ((1 : Int32) + (p1 &&& (7 : Int32))))), .val (.int ((p3 &&& (2147483647 : Int32)) % ((1 : Int32) + (p1 &&& (7 : Int32))))), .unset, .unset, .unset, .unset, .unset, .unset, .unset, .unset] [(.int (p4 &&& (2147483647 : Int32)))]) (fun t kq_ => XS.iand X0.here hx rfl (hb hby at_29) rfl kq_) ?_
  refine hG _ s₁ _ (mkF m 32 #[.val (.int p1), .val (.int p2), .val (.int p3), .val (.int p4), .val (.int p5), .val (.int p6), .val (.int ((1 : Int32) + (p1 &&& (7 : Int32)))), .val (.int ((p2 &&& (2147483647 : Int32)) % ((1 : Int32) + (p1 &&& (7 : Int32))))), .val (.int ((p3 &&& (2147483647 : Int32)) % ((1 : Int32) + (p1 &&& (7 : Int32))))), .unset, .unset, .unset, .unset, .unset, .unset, .unset, .unset] [(.int ((1 : Int32) + (p1 &&& (7 : Int32)))), (.int (p4 &&& (2147483647 : Int32)))]) (fun t kq_ => XS.iload X0.here hx rfl (hb hby at_30) rfl kq_) ?_
  refine hG _ s₁ _ (mkF m 33 #[.val (.int p1), .val (.int p2), .val (.int p3), .val (.int p4), .val (.int p5), .val (.int p6), .val (.int ((1 : Int32) + (p1 &&& (7 : Int32)))), .val (.int ((p2 &&& (2147483647 : Int32)) % ((1 : Int32) + (p1 &&& (7 : Int32))))), .val (.int ((p3 &&& (2147483647 : Int32)) % ((1 : Int32) + (p1 &&& (7 : Int32))))), .unset, .unset, .unset, .unset, .unset, .unset, .unset, .unset] [(.int ((p4 &&& (2147483647 : Int32)) % ((1 : Int32) + (p1 &&& (7 : Int32)))))]) (fun t kq_ => iremM X0 hx rfl (hb hby at_32) rfl hnz kq_) ?_
  refine hG _ s₁ _ (mkF m 35 #[.val (.int p1), .val (.int p2), .val (.int p3), .val (.int p4), .val (.int p5), .val (.int p6), .val (.int ((1 : Int32) + (p1 &&& (7 : Int32)))), .val (.int ((p2 &&& (2147483647 : Int32)) % ((1 : Int32) + (p1 &&& (7 : Int32))))), .val (.int ((p3 &&& (2147483647 : Int32)) % ((1 : Int32) + (p1 &&& (7 : Int32))))), .val (.int ((p4 &&& (2147483647 : Int32)) % ((1 : Int32) + (p1 &&& (7 : Int32))))), .unset, .unset, .unset, .unset, .unset, .unset, .unset] []) (fun t kq_ => XS.istore X0.here hx rfl (hb hby at_33) rfl (l' := #[.val (.int p1), .val (.int p2), .val (.int p3), .val (.int p4), .val (.int p5), .val (.int p6), .val (.int ((1 : Int32) + (p1 &&& (7 : Int32)))), .val (.int ((p2 &&& (2147483647 : Int32)) % ((1 : Int32) + (p1 &&& (7 : Int32))))), .val (.int ((p3 &&& (2147483647 : Int32)) % ((1 : Int32) + (p1 &&& (7 : Int32))))), .val (.int ((p4 &&& (2147483647 : Int32)) % ((1 : Int32) + (p1 &&& (7 : Int32))))), .unset, .unset, .unset, .unset, .unset, .unset, .unset]) rfl kq_) ?_
  refine hG _ s₁ _ (mkF m 37 #[.val (.int p1), .val (.int p2), .val (.int p3), .val (.int p4), .val (.int p5), .val (.int p6), .val (.int ((1 : Int32) + (p1 &&& (7 : Int32)))), .val (.int ((p2 &&& (2147483647 : Int32)) % ((1 : Int32) + (p1 &&& (7 : Int32))))), .val (.int ((p3 &&& (2147483647 : Int32)) % ((1 : Int32) + (p1 &&& (7 : Int32))))), .val (.int ((p4 &&& (2147483647 : Int32)) % ((1 : Int32) + (p1 &&& (7 : Int32))))), .unset, .unset, .unset, .unset, .unset, .unset, .unset] [(.int p5)]) (fun t kq_ => XS.iload X0.here hx rfl (hb hby at_35) rfl kq_) ?_
  refine hG _ s₁ _ (mkF m 39 #[.val (.int p1), .val (.int p2), .val (.int p3), .val (.int p4), .val (.int p5), .val (.int p6), .val (.int ((1 : Int32) + (p1 &&& (7 : Int32)))), .val (.int ((p2 &&& (2147483647 : Int32)) % ((1 : Int32) + (p1 &&& (7 : Int32))))), .val (.int ((p3 &&& (2147483647 : Int32)) % ((1 : Int32) + (p1 &&& (7 : Int32))))), .val (.int ((p4 &&& (2147483647 : Int32)) % ((1 : Int32) + (p1 &&& (7 : Int32))))), .unset, .unset, .unset, .unset, .unset, .unset, .unset] [(.int (2147483647 : Int32)), (.int p5)]) (X0.ldcInt hx hown (mvT hZ (tw0 hw)) (g := (mkF m 37 #[.val (.int p1), .val (.int p2), .val (.int p3), .val (.int p4), .val (.int p5), .val (.int p6), .val (.int ((1 : Int32) + (p1 &&& (7 : Int32)))), .val (.int ((p2 &&& (2147483647 : Int32)) % ((1 : Int32) + (p1 &&& (7 : Int32))))), .val (.int ((p3 &&& (2147483647 : Int32)) % ((1 : Int32) + (p1 &&& (7 : Int32))))), .val (.int ((p4 &&& (2147483647 : Int32)) % ((1 : Int32) + (p1 &&& (7 : Int32))))), .unset, .unset, .unset, .unset, .unset, .unset, .unset] [(.int p5)])) rfl (hb hby at_37)) ?_
  refine hG _ s₁ _ (mkF m 40 #[.val (.int p1), .val (.int p2), .val (.int p3), .val (.int p4), .val (.int p5), .val (.int p6), .val (.int ((1 : Int32) + (p1 &&& (7 : Int32)))), .val (.int ((p2 &&& (2147483647 : Int32)) % ((1 : Int32) + (p1 &&& (7 : Int32))))), .val (.int ((p3 &&& (2147483647 : Int32)) % ((1 : Int32) + (p1 &&& (7 : Int32))))), .val (.int ((p4 &&& (2147483647 : Int32)) % ((1 : Int32) + (p1 &&& (7 : Int32))))), .unset, .unset, .unset, .unset, .unset, .unset, .unset] [(.int (p5 &&& (2147483647 : Int32)))]) (fun t kq_ => XS.iand X0.here hx rfl (hb hby at_39) rfl kq_) ?_
  refine hG _ s₁ _ (mkF m 42 #[.val (.int p1), .val (.int p2), .val (.int p3), .val (.int p4), .val (.int p5), .val (.int p6), .val (.int ((1 : Int32) + (p1 &&& (7 : Int32)))), .val (.int ((p2 &&& (2147483647 : Int32)) % ((1 : Int32) + (p1 &&& (7 : Int32))))), .val (.int ((p3 &&& (2147483647 : Int32)) % ((1 : Int32) + (p1 &&& (7 : Int32))))), .val (.int ((p4 &&& (2147483647 : Int32)) % ((1 : Int32) + (p1 &&& (7 : Int32))))), .unset, .unset, .unset, .unset, .unset, .unset, .unset] [(.int ((1 : Int32) + (p1 &&& (7 : Int32)))), (.int (p5 &&& (2147483647 : Int32)))]) (fun t kq_ => XS.iload X0.here hx rfl (hb hby at_40) rfl kq_) ?_
  refine hG _ s₁ _ (mkF m 43 #[.val (.int p1), .val (.int p2), .val (.int p3), .val (.int p4), .val (.int p5), .val (.int p6), .val (.int ((1 : Int32) + (p1 &&& (7 : Int32)))), .val (.int ((p2 &&& (2147483647 : Int32)) % ((1 : Int32) + (p1 &&& (7 : Int32))))), .val (.int ((p3 &&& (2147483647 : Int32)) % ((1 : Int32) + (p1 &&& (7 : Int32))))), .val (.int ((p4 &&& (2147483647 : Int32)) % ((1 : Int32) + (p1 &&& (7 : Int32))))), .unset, .unset, .unset, .unset, .unset, .unset, .unset] [(.int ((p5 &&& (2147483647 : Int32)) % ((1 : Int32) + (p1 &&& (7 : Int32)))))]) (fun t kq_ => iremM X0 hx rfl (hb hby at_42) rfl hnz kq_) ?_
  obtain ⟨s0, hs0, ls0⟩ := own_rem (x := p2) hn hn1
  obtain ⟨t0, ht0, lt0⟩ := own_rem (x := p3) hn hn1
  obtain ⟨s1, hs1, ls1⟩ := own_rem (x := p4) hn hn1
  obtain ⟨t1, ht1, lt1⟩ := own_rem (x := p5) hn hn1
  refine hG _ s₁ _ (mkF m 45 #[.val (.int p1), .val (.int p2), .val (.int p3), .val (.int p4), .val (.int p5), .val (.int p6), .val (.int ((1 : Int32) + (p1 &&& (7 : Int32)))), .val (.int ((p2 &&& (2147483647 : Int32)) % ((1 : Int32) + (p1 &&& (7 : Int32))))), .val (.int ((p3 &&& (2147483647 : Int32)) % ((1 : Int32) + (p1 &&& (7 : Int32))))), .val (.int ((p4 &&& (2147483647 : Int32)) % ((1 : Int32) + (p1 &&& (7 : Int32))))), .val (.int ((p5 &&& (2147483647 : Int32)) % ((1 : Int32) + (p1 &&& (7 : Int32))))), .unset, .unset, .unset, .unset, .unset, .unset] []) (fun t kq_ => XS.istore X0.here hx rfl (hb hby at_43) rfl (l' := #[.val (.int p1), .val (.int p2), .val (.int p3), .val (.int p4), .val (.int p5), .val (.int p6), .val (.int ((1 : Int32) + (p1 &&& (7 : Int32)))), .val (.int ((p2 &&& (2147483647 : Int32)) % ((1 : Int32) + (p1 &&& (7 : Int32))))), .val (.int ((p3 &&& (2147483647 : Int32)) % ((1 : Int32) + (p1 &&& (7 : Int32))))), .val (.int ((p4 &&& (2147483647 : Int32)) % ((1 : Int32) + (p1 &&& (7 : Int32))))), .val (.int ((p5 &&& (2147483647 : Int32)) % ((1 : Int32) + (p1 &&& (7 : Int32))))), .unset, .unset, .unset, .unset, .unset, .unset]) rfl kq_) ?_
  exact own_45 _ _ _ _ _ _ _ _ _ _ _ n s0 s1 t0 t1 X0 hx hZ hw hby hml hown e0 Z0 N0 hlk hrt hn hn1 h8 hs0 hs1 ht0 ht1 ls0 ls1 lt0 lt1
set_option maxRecDepth 65536 in
set_option maxHeartbeats 40000000 in
theorem comes_1 {Post : Tables → Env → Array Value → State → Outcome → State → Prop} (hpost : ∀ tb e args s v u, (limb_1_1.after args s (.returned v) u = true ∧ limb_1_2.after args s (.returned v) u = true ∧ True) → FrameEnd s (.returned v) u (Jvm.fieldLocs frame_1_writes args s ++ Jvm.arrayLocs frame_1_arrays args s ++ Jvm.staticLocs frame_1_statics s) 24 128 → Post tb e args s (.returned v) u) :
    ArmFor flags0 classFile x code maxLocals ret World_1 tables_1 room_1 Calls_1 rest_1 Pre_1 Post := by
  intro l hfl _ _ p e ha hc hk s m args below hf hA hF happ hP
  obtain ⟨hcalls, hrest, hpre⟩ := hP
  obtain ⟨-, -, -, hnamed, -, -, -, hat⟩ := (Spec.applies_iff hf).mp happ
  obtain ⟨hg, hn⟩ := and_e (Cond.before_iff.mp (show (Jvm.Cond.and given_1 narrow_1).before args s = true from hpre))
  obtain ⟨g0, r0⟩ := and_e hg
  obtain ⟨a0, r1⟩ := and_e r0
  obtain ⟨a1, r2⟩ := and_e r1
  obtain ⟨a2, r3⟩ := and_e r2
  obtain ⟨a3, r4⟩ := and_e r3
  obtain ⟨a4, r5⟩ := and_e r4
  obtain ⟨w0, w1, w2, w3, w4, w5, rfl⟩ : ∃ w0 w1 w2 w3 w4 w5 : Value, args = #[w0, w1, w2, w3, w4, w5] := by
    have hs : args.size = 6 := by simpa [Cond.value, given_1] using g0
    obtain ⟨L⟩ := args
    match L, hs with
    | [w0, w1, w2, w3, w4, w5], _ => exact ⟨w0, w1, w2, w3, w4, w5, rfl⟩
  have hw := fun d (hd : d ∈ tables_1) => atoms_spec (ws := Jvm.Cond.code x code maxLocals ret :: tables_1) hat d (List.mem_cons_of_mem _ hd)
  obtain ⟨i0, ei0⟩ := is_v a0
  obtain rfl : w0 = (.int i0) := Option.some.inj ei0
  obtain ⟨i1, ei1⟩ := is_v a1
  obtain rfl : w1 = (.int i1) := Option.some.inj ei1
  obtain ⟨i2, ei2⟩ := is_v a2
  obtain rfl : w2 = (.int i2) := Option.some.inj ei2
  obtain ⟨i3, ei3⟩ := is_v a3
  obtain rfl : w3 = (.int i3) := Option.some.inj ei3
  obtain ⟨i4, ei4⟩ := is_v a4
  obtain rfl : w4 = (.int i4) := Option.some.inj ei4
  obtain ⟨i5, ei5⟩ := is_v r5
  obtain rfl : w5 = (.int i5) := Option.some.inj ei5
  obtain ⟨n, o, h1, h2, h3, _, L, rfl, ⟨rfl, N⟩, hq⟩ := rm0 l s _ hw tables_1 i0 i1 i2 i3 i4 i5 s.heap s.heap.size (Nat.le_refl _) p e ha hc hk s m _ below hf ((Spec.applies_iff_loose hf).mp happ).1 ⟨rfl, State.Warmed39.refl s, rfl⟩ trivial
  refine ⟨n, _, h1, h2, h3, hpost _ _ _ _ _ _ ⟨Cond.after_iff.mpr rfl, Cond.after_iff.mpr (eq_i res_at (Term.int_eval (1)) rfl), trivial⟩ ⟨hq.1, hq.2.1, (hq.2.2.sift fun y hy => Or.inr (N y hy)).mono (by decide) (by decide)⟩⟩
theorem main_1_1 : Claimed_1_1 := comes_1 fun _ _ _ _ _ _ h hF => ⟨h.1, hF⟩
theorem main_1_2 : Claimed_1_2 := comes_1 fun _ _ _ _ _ _ h hF => ⟨h.2.1, hF⟩
end Jvm.Pilot.@@N@@
namespace Jvm.Pilot.@@N@@
open Jvm Jvm.ClassFile Sem Op Lib Jvm.Free Jvm.Stand Jvm.Pilot.@@N@@.Jvm.D
/-! MADE BY PROGRAM (witnessworld.py) out of the Statement's table words and the real class files: 9 classes; the members and pool entries that the words name. The judged class is class 1, her method 1. -/
namespace start1
open Jvm.ClassFile
def u (s : String) : CpInfo := .utf8 (stringToUtf16 s)
/-- a pool by its gaps: so many unusable entries, then the entry; so many at the end -/
def gap : Nat → List CpInfo → List CpInfo
  | 0, r => r
  | n + 1, r => .unusable :: gap n r
def poolList (es : List (Nat × CpInfo)) (last : Nat) : List CpInfo := es.foldr (fun e r => gap e.1 (e.2 :: r)) (gap last [])
def pool (es : List (Nat × CpInfo)) (last : Nat) : Array CpInfo := ⟨poolList es last⟩
def fileOf (pool : Array CpInfo) (this : Nat) (attrs : Array Attribute := #[]) (ms : Array MethodInfo := #[]) (fl : Nat := 33) (sup : Nat := 0) (ifs : Array Nat := #[]) (fds : Array FieldInfo := #[]) : ClassFile where
  minorVersion := 0
  majorVersion := 65
  constantPool := pool
  accessFlags := fl
  thisClass := this
  superClass := sup
  interfaces := ifs
  fields := fds
  methods := ms
  attributes := attrs
def plain (name : String) (sup : Option ClassId) : Class where
  name := name
  kind := .ordinary
  loader := none
  accessFlags := 33
  super := sup
  interfaces := #[]
  cf := none
  fields := #[]
  methods := #[]
  instanceTypes := #[]
  staticTypes := #[]
  resolved := #[]
  callSites := []
  init := .initialized
  statics := none
  mirror := none

def pool0 : Array CpInfo := pool [(5, u "<init>"), (0, u "()V"), (1, .class_ 10), (1, u "java/lang/Object")] 113

def k0c0 : Code := { maxStack := 0, maxLocals := 1, code := object_method_1_code, exceptionTable := #[], attributes := #[] }
def k0m0 : Method := { name := "<init>", desc := "()V", sig := { parameters := [], returnType := none }, accessFlags := 1, code := some k0c0 }
/-- java/lang/Object -/
def k0 : Class := { plain "java/lang/Object" none with
  accessFlags := 33
  interfaces := #[]
  cf := some (fileOf pool0 8 #[] #[{ accessFlags := 1, nameIndex := 5, descriptorIndex := 6, attributes := #[] }] 33 0 #[] #[])
  fields := #[]
  methods := #[k0m0]
  instanceTypes := #[]
  staticTypes := #[]
  resolved := Array.replicate 124 none
  statics := none }

def pool1 : Array CpInfo := pool [(2, .class_ 4), (1, u "java/lang/Object"), (0, u "<init>"), (0, u "()V"), (0, .integer 2147483647), (0, .class_ 9), (0, u "com/example/polite_edges/politeedges/Incidences"), (0, .methodref 8 11), (0, .nameAndType 5 12), (0, u "(I[I[I)V"), (0, .methodref 8 14), (0, .nameAndType 15 16), (0, u "otherEnd"), (0, u "(II)I"), (0, .class_ 18), (0, u "com/example/polite_edges/politeedges/IncidencesOtherEndPinLaw"), (2, u "law"), (0, u "(IIIIII)Z")] 5

def k1m0 : Method := { name := "<init>", desc := "()V", sig := { parameters := [], returnType := none }, accessFlags := 1, code := none }
def k1c1 : Code := { maxStack := 5, maxLocals := 17, code := code, exceptionTable := #[], attributes := #[] }
def k1m1 : Method := { name := "law", desc := "(IIIIII)Z", sig := { parameters := [.int, .int, .int, .int, .int, .int], returnType := some .boolean }, accessFlags := 9, code := some k1c1 }
/-- com/example/polite_edges/politeedges/IncidencesOtherEndPinLaw -/
def k1 : Class := { plain "com/example/polite_edges/politeedges/IncidencesOtherEndPinLaw" (some 0) with
  accessFlags := 49
  interfaces := #[]
  cf := some (fileOf pool1 17 #[] #[{ accessFlags := 1, nameIndex := 5, descriptorIndex := 6, attributes := #[] }, { accessFlags := 9, nameIndex := 21, descriptorIndex := 22, attributes := #[] }] 49 2 #[] #[])
  fields := #[]
  methods := #[k1m0, k1m1]
  instanceTypes := #[]
  staticTypes := #[]
  resolved := Array.replicate 28 none
  statics := none }

def pool2 : Array CpInfo := pool [(1, .methodref 2 3), (0, .class_ 4), (0, .nameAndType 5 6), (0, u "java/lang/Object"), (0, u "<init>"), (0, u "()V"), (0, .fieldref 8 9), (0, .class_ 10), (0, .nameAndType 11 12), (0, u "com/example/polite_edges/politeedges/Incidences"), (0, u "sources"), (0, u "[I"), (0, .fieldref 8 14), (0, .nameAndType 15 12), (0, u "targets"), (0, .fieldref 8 17), (0, .nameAndType 18 12), (0, u "starts"), (0, .fieldref 8 20), (0, .nameAndType 21 12), (0, u "edges"), (13, u "(II)I"), (8, .class_ 45), (0, u "com/example/polite_edges/politeedges/Incidences$ComponentNodes"), (3, u "(I[I[I)V"), (3, u "otherEnd")] 9

def k2c0 : Code := { maxStack := 7, maxLocals := 7, code := prog_12_method_1_code, exceptionTable := #[], attributes := #[] }
def k2m0 : Method := { name := "<init>", desc := "(I[I[I)V", sig := { parameters := [.int, (.array .int), (.array .int)], returnType := none }, accessFlags := 1, code := some k2c0 }
def k2c1 : Code := { maxStack := 2, maxLocals := 3, code := prog_12_method_3_code, exceptionTable := #[], attributes := #[] }
def k2m1 : Method := { name := "otherEnd", desc := "(II)I", sig := { parameters := [.int, .int], returnType := some .int }, accessFlags := 1, code := some k2c1 }
/-- com/example/polite_edges/politeedges/Incidences -/
def k2 : Class := { plain "com/example/polite_edges/politeedges/Incidences" (some 0) with
  accessFlags := 49
  interfaces := #[]
  cf := some (fileOf pool2 8 #[.nestMembers #[44]] #[{ accessFlags := 1, nameIndex := 5, descriptorIndex := 49, attributes := #[] }, { accessFlags := 1, nameIndex := 53, descriptorIndex := 35, attributes := #[] }] 49 2 #[] #[{ accessFlags := 17, nameIndex := 11, descriptorIndex := 12, attributes := #[] }, { accessFlags := 17, nameIndex := 15, descriptorIndex := 12, attributes := #[] }, { accessFlags := 17, nameIndex := 18, descriptorIndex := 12, attributes := #[] }, { accessFlags := 17, nameIndex := 21, descriptorIndex := 12, attributes := #[] }])
  fields := #[{ name := "sources", type := (.array .int), accessFlags := 17, slot := 0, constantValue := 0 }, { name := "targets", type := (.array .int), accessFlags := 17, slot := 1, constantValue := 0 }, { name := "starts", type := (.array .int), accessFlags := 17, slot := 2, constantValue := 0 }, { name := "edges", type := (.array .int), accessFlags := 17, slot := 3, constantValue := 0 }]
  methods := #[k2m0, k2m1]
  instanceTypes := #[(.array .int), (.array .int), (.array .int), (.array .int)]
  staticTypes := #[]
  resolved := Array.replicate 63 none
  statics := none }

def pool3 : Array CpInfo := pool [(1, u "java/lang/Cloneable"), (0, .class_ 1), (0, u "java/lang/Object"), (0, .class_ 3)] 3

/-- java/lang/Cloneable -/
def k3 : Class := { plain "java/lang/Cloneable" (some 0) with
  accessFlags := 1537
  interfaces := #[]
  cf := some (fileOf pool3 2 #[] #[] 1537 4 #[] #[])
  fields := #[]
  methods := #[]
  instanceTypes := #[]
  staticTypes := #[]
  resolved := Array.replicate 8 none
  statics := none }

def pool4 : Array CpInfo := pool [(1, u "java/io/Serializable"), (0, .class_ 1), (0, u "java/lang/Object"), (0, .class_ 3)] 3

/-- java/io/Serializable -/
def k4 : Class := { plain "java/io/Serializable" (some 0) with
  accessFlags := 1537
  interfaces := #[]
  cf := some (fileOf pool4 2 #[] #[] 1537 4 #[] #[])
  fields := #[]
  methods := #[]
  instanceTypes := #[]
  staticTypes := #[]
  resolved := Array.replicate 8 none
  statics := none }

/-- the primitive byte -/
def k5 : Class := { plain "byte" none with kind := .primitive 'B', accessFlags := 0x411 }
/-- [B -/
def k6 : Class := { plain "[B" (some 0) with kind := .array 5 .byte, interfaces := #[3, 4], accessFlags := 1041 }

/-- the primitive int -/
def k7 : Class := { plain "int" none with kind := .primitive 'I', accessFlags := 0x411 }
/-- [I -/
def k8 : Class := { plain "[I" (some 0) with kind := .array 7 .int, interfaces := #[3, 4], accessFlags := 1041 }

def heap : Heap := #[]
def classes : Array Class := #[k0, k1, k2, k3, k4, k5, k6, k7, k8]
def interned : List (Array UInt16 × Addr) := []
def slotsUsed : Nat := 0
def theMethod : MethodId := ⟨1, 1⟩
def args0 : Array Value := #[.int 3, .int 1, .int 2, .int 0, .int 3, .int 1]
def aboutOver (below : List Frame) : State where
  vm := { classes := classes, interned := interned.toArray }
  heap := heap
  slotsUsed := slotsUsed
  threads := #[{ frames := .invoking theMethod args0 :: below }]
def below0 : List Frame := [.native { method := ⟨0, 0⟩, args := #[] }]
def about1 : State := aboutOver below0
def p0 : Program := .bare "" "" ""
def e0 : Env := launch0.env 0 0 0
theorem w_frames : about1.frames = Frame.invoking theMethod args0 :: below0 := rfl
set_option maxRecDepth 65536 in
theorem w_args : argsFit about1.vm theMethod args0 = true := by decide +kernel
set_option maxRecDepth 65536 in
theorem w_heap : heapFits about1 = true := by decide +kernel
set_option maxRecDepth 65536 in
theorem w_runnable : about1.curStatus? = some .runnable := by decide +kernel
set_option maxRecDepth 65536 in
theorem w_alone : about1.alone = true := by decide +kernel
set_option maxRecDepth 65536 in
theorem w_named : about1.methodNamed? x = some theMethod := by decide +kernel
set_option maxRecDepth 65536 in
theorem w_hears : about1.hears theMethod below0 = true := by decide +kernel
set_option maxRecDepth 65536 in
theorem w_ripe : about1.ripe theMethod args0 below0 = true := by decide +kernel
theorem w_running : about1.status = .running := rfl
set_option maxRecDepth 65536 in
theorem w_room : about1.hasRoom e0.platform room_1 = true :=
  launch0.hasRoom_least _ room_1 (by decide +kernel) (by decide +kernel) (by decide +kernel) (by decide +kernel) (by decide +kernel) (by decide +kernel)
theorem allAtoms_all (ts : List Jvm.Cond) (a : Array Jvm.Value) (st : Jvm.State) : (allAtoms ts).before a st = ts.all (fun c => c.before a st) := by
  induction ts with
  | nil => rfl
  | cons c t ih =>
    show (Jvm.Cond.and c (allAtoms t)).before a st = _
    rw [Jvm.Cond.before_and, ih, List.all_cons]
def words1 : List Jvm.Cond := Jvm.Cond.code x code maxLocals ret :: tables_1
/-- a 'code' word, met by the world's own term for the bytes: nothing is compared byte by byte -/
theorem code_word {y : MethodName} {bytes : ByteArray} {mx : Nat} {rt : Option FieldType} {a : Array Value} {s : State} {m : MethodId} {meth : Method} {c : Code} (h1 : s.methodNamed? y = some m) (h2 : s.vm.method? m = some meth) (h3 : meth.code = some c) (h4 : c.code = bytes)
    (h5 : (c.maxLocals == mx && c.exceptionTable.isEmpty && decide (c.maxStack ≤ mostOperands) && decide (meth.sig.returnType = rt) && !meth.locks && decide (parseMethodDescriptor y.desc = some meth.sig)) = true) : (Jvm.Cond.code y bytes mx rt).before a s = true := by
  simp only [Bool.and_eq_true, beq_iff_eq, Bool.not_eq_true', decide_eq_true_eq] at h5
  obtain ⟨⟨⟨⟨⟨g1, g2⟩, g3⟩, g4⟩, g5⟩, g6⟩ := h5
  simp [Cond.before, Cond.holds, Cond.value, h1, h2, h3, h4, g1, g2, g3, g4, g5, g6]
def isCode : Jvm.Cond → Bool
  | .code _ _ _ _ => true
  | _ => false
theorem all_split {L : List Jvm.Cond} {P : Jvm.Cond → Bool} (h1 : L.all (fun c => isCode c || P c) = true) (h2 : ∀ c ∈ L.filter isCode, P c = true) : L.all P = true := by
  refine List.all_eq_true.mpr fun c hc => ?_
  have h := List.all_eq_true.mp h1 c hc
  rcases Bool.eq_false_or_eq_true (isCode c) with hi | hi
  · exact h2 c (List.mem_filter.mpr ⟨hc, hi⟩)
  · simpa [hi] using h
set_option maxRecDepth 65536 in
theorem w_c0 : (Jvm.Cond.code x code maxLocals ret).before args0 about1 = true := code_word (m := ⟨1, 1⟩) (meth := k1m1) (c := k1c1) (by decide +kernel) rfl rfl rfl (by decide +kernel)
set_option maxRecDepth 65536 in
theorem w_c1 : (Jvm.Cond.code ({ cls := "com/example/polite_edges/politeedges/Incidences", name := "<init>", desc := "(I[I[I)V" } : Jvm.MethodName) prog_12_method_1_code (7 : Nat) (Option.none : Option Jvm.ClassFile.FieldType)).before args0 about1 = true := code_word (m := ⟨2, 0⟩) (meth := k2m0) (c := k2c0) (by decide +kernel) rfl rfl rfl (by decide +kernel)
set_option maxRecDepth 65536 in
theorem w_c2 : (Jvm.Cond.code ({ cls := "java/lang/Object", name := "<init>", desc := "()V" } : Jvm.MethodName) object_method_1_code (1 : Nat) (Option.none : Option Jvm.ClassFile.FieldType)).before args0 about1 = true := code_word (m := ⟨0, 0⟩) (meth := k0m0) (c := k0c0) (by decide +kernel) rfl rfl rfl (by decide +kernel)
set_option maxRecDepth 65536 in
theorem w_c3 : (Jvm.Cond.code ({ cls := "com/example/polite_edges/politeedges/Incidences", name := "otherEnd", desc := "(II)I" } : Jvm.MethodName) prog_12_method_3_code (3 : Nat) (Option.some Jvm.ClassFile.FieldType.int)).before args0 about1 = true := code_word (m := ⟨2, 1⟩) (meth := k2m1) (c := k2c1) (by decide +kernel) rfl rfl rfl (by decide +kernel)
def codes1 : List Jvm.Cond := [Jvm.Cond.code x code maxLocals ret, Jvm.Cond.code ({ cls := "com/example/polite_edges/politeedges/Incidences", name := "<init>", desc := "(I[I[I)V" } : Jvm.MethodName) prog_12_method_1_code (7 : Nat) (Option.none : Option Jvm.ClassFile.FieldType), Jvm.Cond.code ({ cls := "java/lang/Object", name := "<init>", desc := "()V" } : Jvm.MethodName) object_method_1_code (1 : Nat) (Option.none : Option Jvm.ClassFile.FieldType), Jvm.Cond.code ({ cls := "com/example/polite_edges/politeedges/Incidences", name := "otherEnd", desc := "(II)I" } : Jvm.MethodName) prog_12_method_3_code (3 : Nat) (Option.some Jvm.ClassFile.FieldType.int)]
set_option maxRecDepth 65536 in
theorem codes_eq : words1.filter isCode = codes1 := rfl
theorem w_codes : ∀ c ∈ words1.filter isCode, c.before args0 about1 = true := by
  rw [codes_eq]
  intro c hc
  simp only [codes1, List.mem_cons, List.not_mem_nil, or_false] at hc
  rcases hc with rfl | rfl | rfl | rfl
  · exact w_c0
  · exact w_c1
  · exact w_c2
  · exact w_c3
set_option maxRecDepth 65536 in
theorem w_t1 : (words1.take 24).all (fun c => isCode c || c.before args0 about1) = true := by decide +kernel
set_option maxRecDepth 65536 in
theorem w_t2 : (words1.drop 24).all (fun c => isCode c || c.before args0 about1) = true := by decide +kernel
theorem w_tables : (allAtoms (Jvm.Cond.code x code maxLocals ret :: tables_1)).before args0 about1 = true := by
  rw [allAtoms_all]
  show words1.all (fun c => c.before args0 about1) = true
  refine all_split ?_ w_codes
  rw [← List.take_append_drop 24 words1, List.all_append, w_t1, w_t2]
  rfl
set_option maxRecDepth 65536 in
theorem w_case : (Jvm.Cond.and given_1 narrow_1).before args0 about1 = true := by decide +kernel
theorem w_applies : (headSpec (Jvm.Cond.code x code maxLocals ret :: tables_1) room_1).applies x e0.platform about1 = true :=
  (Spec.applies_iff w_frames).mpr ⟨w_running, w_runnable, w_alone, w_named, w_hears, w_ripe, w_room, w_tables⟩
theorem atStart : AtStart classFile x code maxLocals ret World_1 tables_1 room_1 Calls_1 rest_1 Pre_1 launch0 p0 e0 about1 theMethod args0 below0 :=
  ⟨lists_1, trivial, launch0.admits_env _ _ _, launch0.least_env, fairChoices_fair.cas, fairChoices_fair.clock, w_frames, w_args, w_heap, w_applies, trivial, trivial, w_case⟩
end start1
theorem witness_1 : WitnessClaimed_1 := ⟨start1.p0, start1.e0, start1.about1, start1.theMethod, start1.args0, start1.below0, start1.atStart⟩
end Jvm.Pilot.@@N@@
