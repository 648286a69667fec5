import JvmDerived
import JvmDerived.Pilot.@@N@@Statement
import JvmDerived.Pilot.@@N@@Code
set_option linter.unusedVariables false
set_option linter.unusedSimpArgs false
namespace Jvm.RoadKit
open Sem ClassFile Op Lib Jvm.Stand Jvm.Free Jvm.LawKit
section New
variable {p : Program} {l : Launch} {e : Env} {R : Room} {s : State} {m : MethodId} {args : Array Value} {below : List Frame} {meth : Method} {c : Code} {T : State} {locs : List Loc} {cells slots : Nat}
theorem retI (X : Stand p l e R s m args below meth c T locs cells slots) (hx : p.tables.exec = Jvm.exec) {pc : Nat} {Ls : Array Slot} {z : Int32} {rest : List Value} (hret : meth.sig.returnType = some .int) (hd : decode c.code pc = .ok (.ireturn, 1)) {fs : List Frame}
    (hl : ∀ (f : JFrame) (acts : List Action), f.method = m → f.locked = none → f.entered = [] → (doReturn e (T.setTop f) acts (some (.int z))).1 = T.setFrames fs) : Steps p.tables e below (T.setTop (mkF m pc Ls (.int z :: rest))) (T.setFrames fs) := by
  have hm' : T.vm.method? m = some meth := X.method'
  have hn : narrow .int (.int z) = .int z := rfl
  show Steps p.tables e below (T.setTop { method := m, pc := pc, locals := Ls, stack := _ :: rest, locked := none }) _
  jvm_step X.here [X.here.top, hx, hd, hm', hret, hn]
  first | (intro acts; rw [hl _ acts rfl rfl rfl]) | rw [hl _ _ rfl rfl rfl]
  exact Steps.refl _
end New
end Jvm.RoadKit
namespace Jvm.Pilot.@@N@@
open Jvm Jvm.ClassFile Sem Op Lib Jvm.Free Jvm.Stand Jvm.LawKit Jvm.RoadKit Bundle Jvm.Pilot.@@N@@.Jvm.D

section OwnLib
variable {p : Program} {l : Launch} {e : Env} {R : Room} {s : State} {m : MethodId} {args : Array Value} {below : List Frame} {meth : Method} {c : Code} {T : State} {locs : List Loc} {cells slots : Nat} {Z : State} {h h' : Heap} {a b : Addr} {ty : FieldType} {vs : List Value} {n0 : Nat}
theorem own_kr {h h' : Heap} {ws : List Addr} (q : h' = h) : Keep h h' ws := q ▸ Keep.refl _ _
/-- an array by the list of what it holds -/
def AL (Z : State) (h : Heap) (a : Addr) (ty : FieldType) (vs : List Value) : Prop := ∃ c : Cell, Arr Z h a c ty ∧ c.slots.toList = vs ∧ vs.length < 2147483648
theorem AL.lt (F : AL Z h a ty vs) : a < h.size := by obtain ⟨c, A, -⟩ := F; exact A.lt
theorem AL.ext (F : AL Z h a ty vs) (E : Ext h h') : AL Z h' a ty vs := by obtain ⟨c, A, r⟩ := F; exact ⟨c, A.ext E, r⟩
theorem AL.other {sl : Nat} {v : Value} (F : AL Z h b ty vs) (W : Wr h h' a sl v) (q : b ≠ a) : AL Z h' b ty vs := by obtain ⟨c, A, r⟩ := F; exact ⟨c, A.other W q, r⟩
theorem AL.keep {ws : List Addr} (F : AL Z h a ty vs) (K : Keep h h' ws) (q : a ∉ ws) : AL Z h' a ty vs := by obtain ⟨c, A, r⟩ := F; exact ⟨c, ⟨K.2.1 a c A.1 q, A.2⟩, r⟩
theorem AL.new {k : ClassId} {z : Int32} {n : Nat} {d : Value} (A : Arr Z h a (newA k ty z) ty) (q : ¬ z < 0) (hn : z.toNatClampNeg = n) (hd : defaultValue ty = d) : AL Z h a ty (List.replicate n d) := by
  subst hn hd
  refine ⟨_, A, by simp [newA], ?_⟩
  have := (back32 q).2
  simpa using this
theorem own_sz {cl : Cell} (e : cl.slots.toList = vs) : cl.slots.size = vs.length := by rw [← e]; simp
theorem own_inb {cl : Cell} {j : Int32} (e : cl.slots.toList = vs) (h0 : ¬ j < 0) (hl : j.toNatClampNeg < vs.length) : ¬ (j < 0 ∨ cl.slots.size ≤ j.toNatClampNeg) := by
  rw [own_sz e]; intro q; rcases q with q | q
  · exact h0 q
  · omega
theorem own_at {cl : Cell} {i : Nat} {v : Value} (e : cl.slots.toList = vs) (hv : vs[i]? = some v) : cl.slots[i]? = some v := by
  rw [← e] at hv; simpa using hv
theorem AL.same {sl : Nat} {v : Value} (W : Wr h h' a sl v) {cl : Cell} (A : Arr Z h a cl ty) (e : cl.slots.toList = vs) (hl : vs.length < 2147483648) : AL Z h' a ty (vs.set sl v) :=
  ⟨_, A.same W, by rw [← e]; simp [Cell.setSlot], by simpa using hl⟩
theorem own_stI (X : Stand p l e R s m args below meth c T locs cells slots) (hx : p.tables.exec = Jvm.exec) (hZ : Z.Warmed39 s.vm) (eT : T.heap = h) (A : AL Z h a .int vs) (N : Fr n0 locs) (ga : n0 ≤ a) {j x : Int32} (h0 : ¬ j < 0) (hl : j.toNatClampNeg < vs.length) {g : JFrame} (hg : g.method = m) {rest : List Value} (hs : g.stack = .int x :: .int j :: .ref a :: rest) (hd : decode c.code g.pc = .ok (.iastore, 1)) :
    ∃ T' h' L', Stand p l e R s m args below meth c T' L' cells slots ∧ Fr n0 L' ∧ T'.heap = h' ∧ Wr h h' a j.toNatClampNeg (.int x) ∧ AL Z h' a .int (vs.set j.toNatClampNeg (.int x)) ∧ ∀ target, Steps p.tables e below (T'.setTop { g with pc := g.pc + 1, stack := rest }) target → Steps p.tables e below (T.setTop g) target := by
  obtain ⟨cl, A, e1, e2⟩ := A
  obtain ⟨T', h', X', e', W, st⟩ := stI X hx hZ eT A (own_inb e1 h0 hl) hg hs hd
  exact ⟨T', h', _, X', Fr.snoc X' N ga, e', W, AL.same W A e1 e2, st⟩
theorem own_stJ (X : Stand p l e R s m args below meth c T locs cells slots) (hx : p.tables.exec = Jvm.exec) (hZ : Z.Warmed39 s.vm) (eT : T.heap = h) (A : AL Z h a .long vs) (N : Fr n0 locs) (ga : n0 ≤ a) {j : Int32} {x : Int64} (h0 : ¬ j < 0) (hl : j.toNatClampNeg < vs.length) {g : JFrame} (hg : g.method = m) {rest : List Value} (hs : g.stack = .long x :: .int j :: .ref a :: rest) (hd : decode c.code g.pc = .ok (.lastore, 1)) :
    ∃ T' h' L', Stand p l e R s m args below meth c T' L' cells slots ∧ Fr n0 L' ∧ T'.heap = h' ∧ Wr h h' a j.toNatClampNeg (.long x) ∧ AL Z h' a .long (vs.set j.toNatClampNeg (.long x)) ∧ ∀ target, Steps p.tables e below (T'.setTop { g with pc := g.pc + 1, stack := rest }) target → Steps p.tables e below (T.setTop g) target := by
  obtain ⟨cl, A, e1, e2⟩ := A
  obtain ⟨T', h', X', e', W, st⟩ := stJ X hx hZ eT A (own_inb e1 h0 hl) hg hs hd
  exact ⟨T', h', _, X', Fr.snoc X' N ga, e', W, AL.same W A e1 e2, st⟩
theorem own_stB (X : Stand p l e R s m args below meth c T locs cells slots) (hx : p.tables.exec = Jvm.exec) (hZ : Z.Warmed39 s.vm) (eT : T.heap = h) (A : AL Z h a .byte vs) (N : Fr n0 locs) (ga : n0 ≤ a) {j x : Int32} (h0 : ¬ j < 0) (hl : j.toNatClampNeg < vs.length) {g : JFrame} (hg : g.method = m) {rest : List Value} (hs : g.stack = .int x :: .int j :: .ref a :: rest) (hd : decode c.code g.pc = .ok (.bastore, 1)) :
    ∃ T' h' L', Stand p l e R s m args below meth c T' L' cells slots ∧ Fr n0 L' ∧ T'.heap = h' ∧ Wr h h' a j.toNatClampNeg (.int x.toInt8.toInt32) ∧ AL Z h' a .byte (vs.set j.toNatClampNeg (.int x.toInt8.toInt32)) ∧ ∀ target, Steps p.tables e below (T'.setTop { g with pc := g.pc + 1, stack := rest }) target → Steps p.tables e below (T.setTop g) target := by
  obtain ⟨cl, A, e1, e2⟩ := A
  obtain ⟨T', h', X', e', W, st⟩ := stB X hx hZ eT A (own_inb e1 h0 hl) hg hs hd
  exact ⟨T', h', _, X', Fr.snoc X' N ga, e', W, AL.same W A e1 e2, st⟩
theorem own_stZ (X : Stand p l e R s m args below meth c T locs cells slots) (hx : p.tables.exec = Jvm.exec) (hZ : Z.Warmed39 s.vm) (eT : T.heap = h) (A : AL Z h a .boolean vs) (N : Fr n0 locs) (ga : n0 ≤ a) {j x : Int32} (h0 : ¬ j < 0) (hl : j.toNatClampNeg < vs.length) {g : JFrame} (hg : g.method = m) {rest : List Value} (hs : g.stack = .int x :: .int j :: .ref a :: rest) (hd : decode c.code g.pc = .ok (.bastore, 1)) :
    ∃ T' h' L', Stand p l e R s m args below meth c T' L' cells slots ∧ Fr n0 L' ∧ T'.heap = h' ∧ Wr h h' a j.toNatClampNeg (.int (nar .boolean x)) ∧ AL Z h' a .boolean (vs.set j.toNatClampNeg (.int (nar .boolean x))) ∧ ∀ target, Steps p.tables e below (T'.setTop { g with pc := g.pc + 1, stack := rest }) target → Steps p.tables e below (T.setTop g) target := by
  obtain ⟨cl, A, e1, e2⟩ := A
  obtain ⟨T', h', X', e', W, st⟩ := stZ X hx hZ eT A (own_inb e1 h0 hl) hg hs hd
  exact ⟨T', h', _, X', Fr.snoc X' N ga, e', W, AL.same W A e1 e2, st⟩
theorem own_stR (X : Stand p l e R s m args below meth c T locs cells slots) (hx : p.tables.exec = Jvm.exec) (hZ : Z.Warmed39 s.vm) (eT : T.heap = h) (A : AL Z h a ty vs) (N : Fr n0 locs) (ga : n0 ≤ a) (hty : ty.isReference = true) {j : Int32} (h0 : ¬ j < 0) (hl : j.toNatClampNeg < vs.length) {g : JFrame} (hg : g.method = m) {rest : List Value} (hs : g.stack = .null :: .int j :: .ref a :: rest) (hd : decode c.code g.pc = .ok (.aastore, 1)) :
    ∃ T' h' L', Stand p l e R s m args below meth c T' L' cells slots ∧ Fr n0 L' ∧ T'.heap = h' ∧ Wr h h' a j.toNatClampNeg .null ∧ AL Z h' a ty (vs.set j.toNatClampNeg .null) ∧ ∀ target, Steps p.tables e below (T'.setTop { g with pc := g.pc + 1, stack := rest }) target → Steps p.tables e below (T.setTop g) target := by
  obtain ⟨cl, A, e1, e2⟩ := A
  obtain ⟨T', h', X', e', W, st⟩ := stR X hx hZ eT A (own_inb e1 h0 hl) hty (Or.inl rfl) hg hs hd
  exact ⟨T', h', _, X', Fr.snoc X' N ga, e', W, AL.same W A e1 e2, st⟩
theorem own_lt_of {i : Nat} {v : Value} (hv : vs[i]? = some v) : i < vs.length := (List.getElem?_eq_some_iff.mp hv).1
theorem own_ldI (X : Stand p l e R s m args below meth c T locs cells slots) (hx : p.tables.exec = Jvm.exec) (hZ : Z.Warmed39 s.vm) (eT : T.heap = h) (A : AL Z h a .int vs) {j x : Int32} (h0 : ¬ j < 0) (hv : vs[j.toNatClampNeg]? = some (.int x)) {g : JFrame} (hg : g.method = m) {rest : List Value} (hs : g.stack = .int j :: .ref a :: rest) (hd : decode c.code g.pc = .ok (.iaload, 1)) :
    ∀ target, Steps p.tables e below (T.setTop { g with pc := g.pc + 1, stack := .int x :: rest }) target → Steps p.tables e below (T.setTop g) target := by
  obtain ⟨cl, A, e1, e2⟩ := A
  exact X.iaload hx (j := j) (v := .int x) (by rw [eT]; exact A.1) (State.isArrayOf_alike hZ.alike A.2.1) A.2.2 (own_inb e1 h0 (own_lt_of hv)) (own_at e1 hv) hg hs hd
theorem own_ldJ (X : Stand p l e R s m args below meth c T locs cells slots) (hx : p.tables.exec = Jvm.exec) (hZ : Z.Warmed39 s.vm) (eT : T.heap = h) (A : AL Z h a .long vs) {j : Int32} {x : Int64} (h0 : ¬ j < 0) (hv : vs[j.toNatClampNeg]? = some (.long x)) {g : JFrame} (hg : g.method = m) {rest : List Value} (hs : g.stack = .int j :: .ref a :: rest) (hd : decode c.code g.pc = .ok (.laload, 1)) :
    ∀ target, Steps p.tables e below (T.setTop { g with pc := g.pc + 1, stack := .long x :: rest }) target → Steps p.tables e below (T.setTop g) target := by
  obtain ⟨cl, A, e1, e2⟩ := A
  exact X.laload hx (j := j) (v := .long x) (by rw [eT]; exact A.1) (State.isArrayOf_alike hZ.alike A.2.1) A.2.2 (own_inb e1 h0 (own_lt_of hv)) (own_at e1 hv) hg hs hd
theorem own_ldB (X : Stand p l e R s m args below meth c T locs cells slots) (hx : p.tables.exec = Jvm.exec) (hZ : Z.Warmed39 s.vm) (eT : T.heap = h) (A : AL Z h a .byte vs) {j x : Int32} (h0 : ¬ j < 0) (hv : vs[j.toNatClampNeg]? = some (.int x)) {g : JFrame} (hg : g.method = m) {rest : List Value} (hs : g.stack = .int j :: .ref a :: rest) (hd : decode c.code g.pc = .ok (.baload, 1)) :
    ∀ target, Steps p.tables e below (T.setTop { g with pc := g.pc + 1, stack := .int x :: rest }) target → Steps p.tables e below (T.setTop g) target := by
  obtain ⟨cl, A, e1, e2⟩ := A
  exact X.baloadBytes hx (j := j) (v := .int x) (by rw [eT]; exact A.1) (State.isArrayOf_alike hZ.alike A.2.1) A.2.2 (own_inb e1 h0 (own_lt_of hv)) (own_at e1 hv) hg hs hd
theorem own_len (X : Stand p l e R s m args below meth c T locs cells slots) (hx : p.tables.exec = Jvm.exec) (hZ : Z.Warmed39 s.vm) (eT : T.heap = h) (A : AL Z h a ty vs) {z : Int32} (hz : vs.length.toInt32 = z) {g : JFrame} (hg : g.method = m) {rest : List Value} (hs : g.stack = .ref a :: rest) (hd : decode c.code g.pc = .ok (.arraylength, 1)) :
    ∀ target, Steps p.tables e below (T.setTop { g with pc := g.pc + 1, stack := .int z :: rest }) target → Steps p.tables e below (T.setTop g) target := by
  obtain ⟨cl, A, e1, e2⟩ := A
  intro target k
  refine X.arraylength hx (by rw [eT]; exact A.1) (State.isArrayOf_alike hZ.alike A.2.1) hg hs hd _ ?_
  rw [own_sz e1, hz]; exact k
theorem own_selp {s : State} {args args' : Array Value} {C : String} {x y' y : MethodName} (hs : (Jvm.Cond.selects C x y').before args s = true) (hp : s.PrivateAt y) (hi : (Jvm.Cond.instanceMethod y).before args' s = true) (he : y.cls = y'.cls ∧ y.cls ≠ "java/lang/invoke/MethodHandle" ∧ y.cls ≠ "java/lang/invoke/VarHandle") : (Jvm.Cond.selects y.cls y y).before args' s = true := by
  obtain ⟨c, r, m, -, -, h3, -, mk, h5, h6⟩ := Cond.selects_spec hs
  have hc := findClass_of_methodNamed h3
  rw [← he.1] at hc
  exact selects_self_of_private hc h5 h6 hp hi he.2
end OwnLib

theorem pn_0 : plainName "com/example/reticule/reticule/match/LinkTableLineUpPinLaw" = true := by first | (simp [plainName, overriddenIn]; done) | decide +kernel
theorem pd_0 : parseMethodDescriptor "(IIII)Z" = some ⟨[.int, .int, .int, .int], some .boolean⟩ := by decide +kernel

theorem d1_0 : decode prog_64_method_1_code 0 = .ok (.aload_n 0, 1) := by decide +kernel
theorem d1_1 : decode prog_64_method_1_code 1 = .ok (.invokespecial 1, 3) := by decide +kernel
theorem d1_4 : decode prog_64_method_1_code 4 = .ok (.aload_n 0, 1) := by decide +kernel
theorem d1_5 : decode prog_64_method_1_code 5 = .ok (.bipush 64, 2) := by decide +kernel
theorem d1_7 : decode prog_64_method_1_code 7 = .ok (.newarray .int, 2) := by decide +kernel
theorem d1_9 : decode prog_64_method_1_code 9 = .ok (.putfield 9, 3) := by decide +kernel
theorem d1_12 : decode prog_64_method_1_code 12 = .ok (.aload_n 0, 1) := by decide +kernel
theorem d1_13 : decode prog_64_method_1_code 13 = .ok (.bipush 8, 2) := by decide +kernel
theorem d1_15 : decode prog_64_method_1_code 15 = .ok (.anewarray 2, 3) := by decide +kernel
theorem d1_18 : decode prog_64_method_1_code 18 = .ok (.putfield 13, 3) := by decide +kernel
theorem d1_21 : decode prog_64_method_1_code 21 = .ok (.aload_n 0, 1) := by decide +kernel
theorem d1_22 : decode prog_64_method_1_code 22 = .ok (.iconst (-1), 1) := by decide +kernel
theorem d1_23 : decode prog_64_method_1_code 23 = .ok (.putfield 17, 3) := by decide +kernel
theorem d1_26 : decode prog_64_method_1_code 26 = .ok (.return_, 1) := by decide +kernel
theorem pn_1 : plainName "com/example/reticule/reticule/match/LinkTable" = true := by first | (simp [plainName, overriddenIn]; done) | decide +kernel
theorem pd_1 : parseMethodDescriptor "()V" = some ⟨[], none⟩ := by decide +kernel

theorem d4_0 : decode prog_64_method_2_code 0 = .ok (.aload_n 0, 1) := by decide +kernel
theorem d4_1 : decode prog_64_method_2_code 1 = .ok (.invokevirtual 21, 3) := by decide +kernel
theorem d4_4 : decode prog_64_method_2_code 4 = .ok (.istore 4, 2) := by decide +kernel
theorem d4_6 : decode prog_64_method_2_code 6 = .ok (.aload_n 0, 1) := by decide +kernel
theorem d4_7 : decode prog_64_method_2_code 7 = .ok (.getfield 13, 3) := by decide +kernel
theorem d4_10 : decode prog_64_method_2_code 10 = .ok (.iload 4, 2) := by decide +kernel
theorem d4_12 : decode prog_64_method_2_code 12 = .ok (.aload_n 1, 1) := by decide +kernel
theorem d4_13 : decode prog_64_method_2_code 13 = .ok (.aastore, 1) := by decide +kernel
theorem d4_14 : decode prog_64_method_2_code 14 = .ok (.aload_n 0, 1) := by decide +kernel
theorem d4_15 : decode prog_64_method_2_code 15 = .ok (.iconst 0, 1) := by decide +kernel
theorem d4_16 : decode prog_64_method_2_code 16 = .ok (.iload_n 2, 1) := by decide +kernel
theorem d4_17 : decode prog_64_method_2_code 17 = .ok (.iload 4, 2) := by decide +kernel
theorem d4_19 : decode prog_64_method_2_code 19 = .ok (.invokevirtual 25, 3) := by decide +kernel
theorem d4_22 : decode prog_64_method_2_code 22 = .ok (.aload_n 0, 1) := by decide +kernel
theorem d4_23 : decode prog_64_method_2_code 23 = .ok (.iconst 2, 1) := by decide +kernel
theorem d4_24 : decode prog_64_method_2_code 24 = .ok (.iload_n 3, 1) := by decide +kernel
theorem d4_25 : decode prog_64_method_2_code 25 = .ok (.iload 4, 2) := by decide +kernel
theorem d4_27 : decode prog_64_method_2_code 27 = .ok (.invokevirtual 25, 3) := by decide +kernel
theorem d4_30 : decode prog_64_method_2_code 30 = .ok (.aload_n 0, 1) := by decide +kernel
theorem d4_31 : decode prog_64_method_2_code 31 = .ok (.getfield 9, 3) := by decide +kernel
theorem d4_34 : decode prog_64_method_2_code 34 = .ok (.iload 4, 2) := by decide +kernel
theorem d4_36 : decode prog_64_method_2_code 36 = .ok (.bipush 8, 2) := by decide +kernel
theorem d4_38 : decode prog_64_method_2_code 38 = .ok (.imul, 1) := by decide +kernel
theorem d4_39 : decode prog_64_method_2_code 39 = .ok (.bipush 6, 2) := by decide +kernel
theorem d4_41 : decode prog_64_method_2_code 41 = .ok (.iadd, 1) := by decide +kernel
theorem d4_42 : decode prog_64_method_2_code 42 = .ok (.iconst (-1), 1) := by decide +kernel
theorem d4_43 : decode prog_64_method_2_code 43 = .ok (.iastore, 1) := by decide +kernel
theorem d4_44 : decode prog_64_method_2_code 44 = .ok (.iload 4, 2) := by decide +kernel
theorem d4_46 : decode prog_64_method_2_code 46 = .ok (.ireturn, 1) := by decide +kernel
theorem pn_4 : plainName "com/example/reticule/reticule/match/LinkTable" = true := by first | (simp [plainName, overriddenIn]; done) | decide +kernel
theorem pd_4 : parseMethodDescriptor "(Ljava/lang/Object;II)I" = some ⟨[(.object "java/lang/Object"), .int, .int], some .int⟩ := by decide +kernel

theorem d5_0 : decode prog_64_method_17_code 0 = .ok (.aload_n 0, 1) := by decide +kernel
theorem d5_1 : decode prog_64_method_17_code 1 = .ok (.getfield 17, 3) := by decide +kernel
theorem d5_4 : decode prog_64_method_17_code 4 = .ok (.istore_n 1, 1) := by decide +kernel
theorem d5_5 : decode prog_64_method_17_code 5 = .ok (.iload_n 1, 1) := by decide +kernel
theorem d5_6 : decode prog_64_method_17_code 6 = .ok (.ifCond .lt 19, 3) := by decide +kernel
theorem d5_9 : decode prog_64_method_17_code 9 = .ok (.aload_n 0, 1) := by decide +kernel
theorem d5_10 : decode prog_64_method_17_code 10 = .ok (.aload_n 0, 1) := by decide +kernel
theorem d5_11 : decode prog_64_method_17_code 11 = .ok (.getfield 9, 3) := by decide +kernel
theorem d5_14 : decode prog_64_method_17_code 14 = .ok (.iload_n 1, 1) := by decide +kernel
theorem d5_15 : decode prog_64_method_17_code 15 = .ok (.bipush 8, 2) := by decide +kernel
theorem d5_17 : decode prog_64_method_17_code 17 = .ok (.imul, 1) := by decide +kernel
theorem d5_18 : decode prog_64_method_17_code 18 = .ok (.iaload, 1) := by decide +kernel
theorem d5_19 : decode prog_64_method_17_code 19 = .ok (.putfield 17, 3) := by decide +kernel
theorem d5_22 : decode prog_64_method_17_code 22 = .ok (.goto 55, 3) := by decide +kernel
theorem d5_25 : decode prog_64_method_17_code 25 = .ok (.aload_n 0, 1) := by decide +kernel
theorem d5_26 : decode prog_64_method_17_code 26 = .ok (.dup, 1) := by decide +kernel
theorem d5_27 : decode prog_64_method_17_code 27 = .ok (.getfield 37, 3) := by decide +kernel
theorem d5_30 : decode prog_64_method_17_code 30 = .ok (.dup_x1, 1) := by decide +kernel
theorem d5_31 : decode prog_64_method_17_code 31 = .ok (.iconst 1, 1) := by decide +kernel
theorem d5_32 : decode prog_64_method_17_code 32 = .ok (.iadd, 1) := by decide +kernel
theorem d5_33 : decode prog_64_method_17_code 33 = .ok (.putfield 37, 3) := by decide +kernel
theorem d5_36 : decode prog_64_method_17_code 36 = .ok (.istore_n 1, 1) := by decide +kernel
theorem d5_37 : decode prog_64_method_17_code 37 = .ok (.iload_n 1, 1) := by decide +kernel
theorem d5_38 : decode prog_64_method_17_code 38 = .ok (.aload_n 0, 1) := by decide +kernel
theorem d5_39 : decode prog_64_method_17_code 39 = .ok (.getfield 13, 3) := by decide +kernel
theorem d5_42 : decode prog_64_method_17_code 42 = .ok (.arraylength, 1) := by decide +kernel
theorem d5_43 : decode prog_64_method_17_code 43 = .ok (.if_icmp .ne 34, 3) := by decide +kernel
theorem d5_46 : decode prog_64_method_17_code 46 = .ok (.aload_n 0, 1) := by decide +kernel
theorem d5_47 : decode prog_64_method_17_code 47 = .ok (.aload_n 0, 1) := by decide +kernel
theorem d5_48 : decode prog_64_method_17_code 48 = .ok (.getfield 13, 3) := by decide +kernel
theorem d5_51 : decode prog_64_method_17_code 51 = .ok (.iconst 2, 1) := by decide +kernel
theorem d5_52 : decode prog_64_method_17_code 52 = .ok (.iload_n 1, 1) := by decide +kernel
theorem d5_53 : decode prog_64_method_17_code 53 = .ok (.imul, 1) := by decide +kernel
theorem d5_54 : decode prog_64_method_17_code 54 = .ok (.invokestatic 40, 3) := by decide +kernel
theorem d5_57 : decode prog_64_method_17_code 57 = .ok (.putfield 13, 3) := by decide +kernel
theorem d5_60 : decode prog_64_method_17_code 60 = .ok (.aload_n 0, 1) := by decide +kernel
theorem d5_61 : decode prog_64_method_17_code 61 = .ok (.aload_n 0, 1) := by decide +kernel
theorem d5_62 : decode prog_64_method_17_code 62 = .ok (.getfield 9, 3) := by decide +kernel
theorem d5_65 : decode prog_64_method_17_code 65 = .ok (.iconst 2, 1) := by decide +kernel
theorem d5_66 : decode prog_64_method_17_code 66 = .ok (.iload_n 1, 1) := by decide +kernel
theorem d5_67 : decode prog_64_method_17_code 67 = .ok (.imul, 1) := by decide +kernel
theorem d5_68 : decode prog_64_method_17_code 68 = .ok (.bipush 8, 2) := by decide +kernel
theorem d5_70 : decode prog_64_method_17_code 70 = .ok (.imul, 1) := by decide +kernel
theorem d5_71 : decode prog_64_method_17_code 71 = .ok (.invokestatic 46, 3) := by decide +kernel
theorem d5_74 : decode prog_64_method_17_code 74 = .ok (.putfield 9, 3) := by decide +kernel
theorem d5_77 : decode prog_64_method_17_code 77 = .ok (.iload_n 1, 1) := by decide +kernel
theorem d5_78 : decode prog_64_method_17_code 78 = .ok (.ireturn, 1) := by decide +kernel
theorem pn_5 : plainName "com/example/reticule/reticule/match/LinkTable" = true := by first | (simp [plainName, overriddenIn]; done) | decide +kernel
theorem pd_5 : parseMethodDescriptor "()I" = some ⟨[], some .int⟩ := by decide +kernel

theorem d6_0 : decode prog_64_method_16_code 0 = .ok (.aload_n 0, 1) := by decide +kernel
theorem d6_1 : decode prog_64_method_16_code 1 = .ok (.getfield 9, 3) := by decide +kernel
theorem d6_4 : decode prog_64_method_16_code 4 = .ok (.astore 4, 2) := by decide +kernel
theorem d6_6 : decode prog_64_method_16_code 6 = .ok (.iload_n 3, 1) := by decide +kernel
theorem d6_7 : decode prog_64_method_16_code 7 = .ok (.bipush 8, 2) := by decide +kernel
theorem d6_9 : decode prog_64_method_16_code 9 = .ok (.imul, 1) := by decide +kernel
theorem d6_10 : decode prog_64_method_16_code 10 = .ok (.iload_n 1, 1) := by decide +kernel
theorem d6_11 : decode prog_64_method_16_code 11 = .ok (.iadd, 1) := by decide +kernel
theorem d6_12 : decode prog_64_method_16_code 12 = .ok (.istore 5, 2) := by decide +kernel
theorem d6_14 : decode prog_64_method_16_code 14 = .ok (.iload_n 2, 1) := by decide +kernel
theorem d6_15 : decode prog_64_method_16_code 15 = .ok (.ifCond .ge 20, 3) := by decide +kernel
theorem d6_18 : decode prog_64_method_16_code 18 = .ok (.aload 4, 2) := by decide +kernel
theorem d6_20 : decode prog_64_method_16_code 20 = .ok (.iload 5, 2) := by decide +kernel
theorem d6_22 : decode prog_64_method_16_code 22 = .ok (.iload_n 3, 1) := by decide +kernel
theorem d6_23 : decode prog_64_method_16_code 23 = .ok (.iastore, 1) := by decide +kernel
theorem d6_24 : decode prog_64_method_16_code 24 = .ok (.aload 4, 2) := by decide +kernel
theorem d6_26 : decode prog_64_method_16_code 26 = .ok (.iload 5, 2) := by decide +kernel
theorem d6_28 : decode prog_64_method_16_code 28 = .ok (.iconst 1, 1) := by decide +kernel
theorem d6_29 : decode prog_64_method_16_code 29 = .ok (.iadd, 1) := by decide +kernel
theorem d6_30 : decode prog_64_method_16_code 30 = .ok (.iload_n 3, 1) := by decide +kernel
theorem d6_31 : decode prog_64_method_16_code 31 = .ok (.iastore, 1) := by decide +kernel
theorem d6_32 : decode prog_64_method_16_code 32 = .ok (.goto 54, 3) := by decide +kernel
theorem d6_35 : decode prog_64_method_16_code 35 = .ok (.aload 4, 2) := by decide +kernel
theorem d6_37 : decode prog_64_method_16_code 37 = .ok (.iload_n 2, 1) := by decide +kernel
theorem d6_38 : decode prog_64_method_16_code 38 = .ok (.bipush 8, 2) := by decide +kernel
theorem d6_40 : decode prog_64_method_16_code 40 = .ok (.imul, 1) := by decide +kernel
theorem d6_41 : decode prog_64_method_16_code 41 = .ok (.iload_n 1, 1) := by decide +kernel
theorem d6_42 : decode prog_64_method_16_code 42 = .ok (.iadd, 1) := by decide +kernel
theorem d6_43 : decode prog_64_method_16_code 43 = .ok (.iconst 1, 1) := by decide +kernel
theorem d6_44 : decode prog_64_method_16_code 44 = .ok (.iadd, 1) := by decide +kernel
theorem d6_45 : decode prog_64_method_16_code 45 = .ok (.iaload, 1) := by decide +kernel
theorem d6_46 : decode prog_64_method_16_code 46 = .ok (.istore 6, 2) := by decide +kernel
theorem d6_48 : decode prog_64_method_16_code 48 = .ok (.aload 4, 2) := by decide +kernel
theorem d6_50 : decode prog_64_method_16_code 50 = .ok (.iload 5, 2) := by decide +kernel
theorem d6_52 : decode prog_64_method_16_code 52 = .ok (.iload_n 2, 1) := by decide +kernel
theorem d6_53 : decode prog_64_method_16_code 53 = .ok (.iastore, 1) := by decide +kernel
theorem d6_54 : decode prog_64_method_16_code 54 = .ok (.aload 4, 2) := by decide +kernel
theorem d6_56 : decode prog_64_method_16_code 56 = .ok (.iload 5, 2) := by decide +kernel
theorem d6_58 : decode prog_64_method_16_code 58 = .ok (.iconst 1, 1) := by decide +kernel
theorem d6_59 : decode prog_64_method_16_code 59 = .ok (.iadd, 1) := by decide +kernel
theorem d6_60 : decode prog_64_method_16_code 60 = .ok (.iload 6, 2) := by decide +kernel
theorem d6_62 : decode prog_64_method_16_code 62 = .ok (.iastore, 1) := by decide +kernel
theorem d6_63 : decode prog_64_method_16_code 63 = .ok (.aload 4, 2) := by decide +kernel
theorem d6_65 : decode prog_64_method_16_code 65 = .ok (.iload_n 2, 1) := by decide +kernel
theorem d6_66 : decode prog_64_method_16_code 66 = .ok (.bipush 8, 2) := by decide +kernel
theorem d6_68 : decode prog_64_method_16_code 68 = .ok (.imul, 1) := by decide +kernel
theorem d6_69 : decode prog_64_method_16_code 69 = .ok (.iload_n 1, 1) := by decide +kernel
theorem d6_70 : decode prog_64_method_16_code 70 = .ok (.iadd, 1) := by decide +kernel
theorem d6_71 : decode prog_64_method_16_code 71 = .ok (.iconst 1, 1) := by decide +kernel
theorem d6_72 : decode prog_64_method_16_code 72 = .ok (.iadd, 1) := by decide +kernel
theorem d6_73 : decode prog_64_method_16_code 73 = .ok (.iload_n 3, 1) := by decide +kernel
theorem d6_74 : decode prog_64_method_16_code 74 = .ok (.iastore, 1) := by decide +kernel
theorem d6_75 : decode prog_64_method_16_code 75 = .ok (.aload 4, 2) := by decide +kernel
theorem d6_77 : decode prog_64_method_16_code 77 = .ok (.iload 6, 2) := by decide +kernel
theorem d6_79 : decode prog_64_method_16_code 79 = .ok (.bipush 8, 2) := by decide +kernel
theorem d6_81 : decode prog_64_method_16_code 81 = .ok (.imul, 1) := by decide +kernel
theorem d6_82 : decode prog_64_method_16_code 82 = .ok (.iload_n 1, 1) := by decide +kernel
theorem d6_83 : decode prog_64_method_16_code 83 = .ok (.iadd, 1) := by decide +kernel
theorem d6_84 : decode prog_64_method_16_code 84 = .ok (.iload_n 3, 1) := by decide +kernel
theorem d6_85 : decode prog_64_method_16_code 85 = .ok (.iastore, 1) := by decide +kernel
theorem d6_86 : decode prog_64_method_16_code 86 = .ok (.return_, 1) := by decide +kernel
theorem pn_6 : plainName "com/example/reticule/reticule/match/LinkTable" = true := by first | (simp [plainName, overriddenIn]; done) | decide +kernel
theorem pd_6 : parseMethodDescriptor "(III)V" = some ⟨[.int, .int, .int], none⟩ := by decide +kernel

theorem d7_0 : decode prog_64_method_3_code 0 = .ok (.aload_n 0, 1) := by decide +kernel
theorem d7_1 : decode prog_64_method_3_code 1 = .ok (.aconst_null, 1) := by decide +kernel
theorem d7_2 : decode prog_64_method_3_code 2 = .ok (.invokevirtual 29, 3) := by decide +kernel
theorem d7_5 : decode prog_64_method_3_code 5 = .ok (.ireturn, 1) := by decide +kernel
theorem pn_7 : plainName "com/example/reticule/reticule/match/LinkTable" = true := by first | (simp [plainName, overriddenIn]; done) | decide +kernel
theorem pd_7 : parseMethodDescriptor "()I" = some ⟨[], some .int⟩ := by decide +kernel

theorem d8_0 : decode prog_64_method_4_code 0 = .ok (.aload_n 0, 1) := by decide +kernel
theorem d8_1 : decode prog_64_method_4_code 1 = .ok (.invokevirtual 21, 3) := by decide +kernel
theorem d8_4 : decode prog_64_method_4_code 4 = .ok (.istore_n 2, 1) := by decide +kernel
theorem d8_5 : decode prog_64_method_4_code 5 = .ok (.aload_n 0, 1) := by decide +kernel
theorem d8_6 : decode prog_64_method_4_code 6 = .ok (.getfield 13, 3) := by decide +kernel
theorem d8_9 : decode prog_64_method_4_code 9 = .ok (.iload_n 2, 1) := by decide +kernel
theorem d8_10 : decode prog_64_method_4_code 10 = .ok (.aload_n 1, 1) := by decide +kernel
theorem d8_11 : decode prog_64_method_4_code 11 = .ok (.aastore, 1) := by decide +kernel
theorem d8_12 : decode prog_64_method_4_code 12 = .ok (.iconst 0, 1) := by decide +kernel
theorem d8_13 : decode prog_64_method_4_code 13 = .ok (.istore_n 3, 1) := by decide +kernel
theorem d8_14 : decode prog_64_method_4_code 14 = .ok (.iload_n 3, 1) := by decide +kernel
theorem d8_15 : decode prog_64_method_4_code 15 = .ok (.iconst 4, 1) := by decide +kernel
theorem d8_16 : decode prog_64_method_4_code 16 = .ok (.if_icmp .gt 35, 3) := by decide +kernel
theorem d8_19 : decode prog_64_method_4_code 19 = .ok (.aload_n 0, 1) := by decide +kernel
theorem d8_20 : decode prog_64_method_4_code 20 = .ok (.getfield 9, 3) := by decide +kernel
theorem d8_23 : decode prog_64_method_4_code 23 = .ok (.iload_n 2, 1) := by decide +kernel
theorem d8_24 : decode prog_64_method_4_code 24 = .ok (.bipush 8, 2) := by decide +kernel
theorem d8_26 : decode prog_64_method_4_code 26 = .ok (.imul, 1) := by decide +kernel
theorem d8_27 : decode prog_64_method_4_code 27 = .ok (.iload_n 3, 1) := by decide +kernel
theorem d8_28 : decode prog_64_method_4_code 28 = .ok (.iadd, 1) := by decide +kernel
theorem d8_29 : decode prog_64_method_4_code 29 = .ok (.iload_n 2, 1) := by decide +kernel
theorem d8_30 : decode prog_64_method_4_code 30 = .ok (.iastore, 1) := by decide +kernel
theorem d8_31 : decode prog_64_method_4_code 31 = .ok (.aload_n 0, 1) := by decide +kernel
theorem d8_32 : decode prog_64_method_4_code 32 = .ok (.getfield 9, 3) := by decide +kernel
theorem d8_35 : decode prog_64_method_4_code 35 = .ok (.iload_n 2, 1) := by decide +kernel
theorem d8_36 : decode prog_64_method_4_code 36 = .ok (.bipush 8, 2) := by decide +kernel
theorem d8_38 : decode prog_64_method_4_code 38 = .ok (.imul, 1) := by decide +kernel
theorem d8_39 : decode prog_64_method_4_code 39 = .ok (.iload_n 3, 1) := by decide +kernel
theorem d8_40 : decode prog_64_method_4_code 40 = .ok (.iadd, 1) := by decide +kernel
theorem d8_41 : decode prog_64_method_4_code 41 = .ok (.iconst 1, 1) := by decide +kernel
theorem d8_42 : decode prog_64_method_4_code 42 = .ok (.iadd, 1) := by decide +kernel
theorem d8_43 : decode prog_64_method_4_code 43 = .ok (.iload_n 2, 1) := by decide +kernel
theorem d8_44 : decode prog_64_method_4_code 44 = .ok (.iastore, 1) := by decide +kernel
theorem d8_45 : decode prog_64_method_4_code 45 = .ok (.iinc 3 2, 3) := by decide +kernel
theorem d8_48 : decode prog_64_method_4_code 48 = .ok (.goto (-34), 3) := by decide +kernel
theorem d8_51 : decode prog_64_method_4_code 51 = .ok (.aload_n 0, 1) := by decide +kernel
theorem d8_52 : decode prog_64_method_4_code 52 = .ok (.getfield 9, 3) := by decide +kernel
theorem d8_55 : decode prog_64_method_4_code 55 = .ok (.iload_n 2, 1) := by decide +kernel
theorem d8_56 : decode prog_64_method_4_code 56 = .ok (.bipush 8, 2) := by decide +kernel
theorem d8_58 : decode prog_64_method_4_code 58 = .ok (.imul, 1) := by decide +kernel
theorem d8_59 : decode prog_64_method_4_code 59 = .ok (.bipush 6, 2) := by decide +kernel
theorem d8_61 : decode prog_64_method_4_code 61 = .ok (.iadd, 1) := by decide +kernel
theorem d8_62 : decode prog_64_method_4_code 62 = .ok (.iconst (-1), 1) := by decide +kernel
theorem d8_63 : decode prog_64_method_4_code 63 = .ok (.iastore, 1) := by decide +kernel
theorem d8_64 : decode prog_64_method_4_code 64 = .ok (.iload_n 2, 1) := by decide +kernel
theorem d8_65 : decode prog_64_method_4_code 65 = .ok (.ireturn, 1) := by decide +kernel
theorem pn_8 : plainName "com/example/reticule/reticule/match/LinkTable" = true := by first | (simp [plainName, overriddenIn]; done) | decide +kernel
theorem pd_8 : parseMethodDescriptor "(Ljava/lang/Object;)I" = some ⟨[(.object "java/lang/Object")], some .int⟩ := by decide +kernel

theorem d9_0 : decode prog_64_method_8_code 0 = .ok (.aload_n 0, 1) := by decide +kernel
theorem d9_1 : decode prog_64_method_8_code 1 = .ok (.getfield 9, 3) := by decide +kernel
theorem d9_4 : decode prog_64_method_8_code 4 = .ok (.astore 5, 2) := by decide +kernel
theorem d9_6 : decode prog_64_method_8_code 6 = .ok (.iload 4, 2) := by decide +kernel
theorem d9_8 : decode prog_64_method_8_code 8 = .ok (.ifCond .eq 7, 3) := by decide +kernel
theorem d9_11 : decode prog_64_method_8_code 11 = .ok (.iload_n 1, 1) := by decide +kernel
theorem d9_12 : decode prog_64_method_8_code 12 = .ok (.goto 12, 3) := by decide +kernel
theorem d9_15 : decode prog_64_method_8_code 15 = .ok (.aload 5, 2) := by decide +kernel
theorem d9_17 : decode prog_64_method_8_code 17 = .ok (.iload_n 1, 1) := by decide +kernel
theorem d9_18 : decode prog_64_method_8_code 18 = .ok (.bipush 8, 2) := by decide +kernel
theorem d9_20 : decode prog_64_method_8_code 20 = .ok (.imul, 1) := by decide +kernel
theorem d9_21 : decode prog_64_method_8_code 21 = .ok (.iconst 4, 1) := by decide +kernel
theorem d9_22 : decode prog_64_method_8_code 22 = .ok (.iadd, 1) := by decide +kernel
theorem d9_23 : decode prog_64_method_8_code 23 = .ok (.iaload, 1) := by decide +kernel
theorem d9_24 : decode prog_64_method_8_code 24 = .ok (.istore 6, 2) := by decide +kernel
theorem d9_26 : decode prog_64_method_8_code 26 = .ok (.iload 4, 2) := by decide +kernel
theorem d9_28 : decode prog_64_method_8_code 28 = .ok (.ifCond .eq 17, 3) := by decide +kernel
theorem d9_31 : decode prog_64_method_8_code 31 = .ok (.aload 5, 2) := by decide +kernel
theorem d9_33 : decode prog_64_method_8_code 33 = .ok (.iload_n 1, 1) := by decide +kernel
theorem d9_34 : decode prog_64_method_8_code 34 = .ok (.bipush 8, 2) := by decide +kernel
theorem d9_36 : decode prog_64_method_8_code 36 = .ok (.imul, 1) := by decide +kernel
theorem d9_37 : decode prog_64_method_8_code 37 = .ok (.iconst 4, 1) := by decide +kernel
theorem d9_38 : decode prog_64_method_8_code 38 = .ok (.iadd, 1) := by decide +kernel
theorem d9_39 : decode prog_64_method_8_code 39 = .ok (.iconst 1, 1) := by decide +kernel
theorem d9_40 : decode prog_64_method_8_code 40 = .ok (.iadd, 1) := by decide +kernel
theorem d9_41 : decode prog_64_method_8_code 41 = .ok (.iaload, 1) := by decide +kernel
theorem d9_42 : decode prog_64_method_8_code 42 = .ok (.goto 4, 3) := by decide +kernel
theorem d9_45 : decode prog_64_method_8_code 45 = .ok (.iload_n 1, 1) := by decide +kernel
theorem d9_46 : decode prog_64_method_8_code 46 = .ok (.istore 7, 2) := by decide +kernel
theorem d9_48 : decode prog_64_method_8_code 48 = .ok (.iload 6, 2) := by decide +kernel
theorem d9_50 : decode prog_64_method_8_code 50 = .ok (.istore 8, 2) := by decide +kernel
theorem d9_52 : decode prog_64_method_8_code 52 = .ok (.iconst 0, 1) := by decide +kernel
theorem d9_53 : decode prog_64_method_8_code 53 = .ok (.istore 9, 2) := by decide +kernel
theorem d9_55 : decode prog_64_method_8_code 55 = .ok (.iload 9, 2) := by decide +kernel
theorem d9_57 : decode prog_64_method_8_code 57 = .ok (.iload_n 3, 1) := by decide +kernel
theorem d9_58 : decode prog_64_method_8_code 58 = .ok (.if_icmp .ge 57, 3) := by decide +kernel
theorem d9_61 : decode prog_64_method_8_code 61 = .ok (.aload_n 2, 1) := by decide +kernel
theorem d9_62 : decode prog_64_method_8_code 62 = .ok (.iload 9, 2) := by decide +kernel
theorem d9_64 : decode prog_64_method_8_code 64 = .ok (.iaload, 1) := by decide +kernel
theorem d9_65 : decode prog_64_method_8_code 65 = .ok (.istore 10, 2) := by decide +kernel
theorem d9_67 : decode prog_64_method_8_code 67 = .ok (.aload 5, 2) := by decide +kernel
theorem d9_69 : decode prog_64_method_8_code 69 = .ok (.iload 8, 2) := by decide +kernel
theorem d9_71 : decode prog_64_method_8_code 71 = .ok (.bipush 8, 2) := by decide +kernel
theorem d9_73 : decode prog_64_method_8_code 73 = .ok (.imul, 1) := by decide +kernel
theorem d9_74 : decode prog_64_method_8_code 74 = .ok (.iconst 4, 1) := by decide +kernel
theorem d9_75 : decode prog_64_method_8_code 75 = .ok (.iadd, 1) := by decide +kernel
theorem d9_76 : decode prog_64_method_8_code 76 = .ok (.iconst 1, 1) := by decide +kernel
theorem d9_77 : decode prog_64_method_8_code 77 = .ok (.iadd, 1) := by decide +kernel
theorem d9_78 : decode prog_64_method_8_code 78 = .ok (.iload 10, 2) := by decide +kernel
theorem d9_80 : decode prog_64_method_8_code 80 = .ok (.iastore, 1) := by decide +kernel
theorem d9_81 : decode prog_64_method_8_code 81 = .ok (.aload 5, 2) := by decide +kernel
theorem d9_83 : decode prog_64_method_8_code 83 = .ok (.iload 10, 2) := by decide +kernel
theorem d9_85 : decode prog_64_method_8_code 85 = .ok (.bipush 8, 2) := by decide +kernel
theorem d9_87 : decode prog_64_method_8_code 87 = .ok (.imul, 1) := by decide +kernel
theorem d9_88 : decode prog_64_method_8_code 88 = .ok (.iconst 4, 1) := by decide +kernel
theorem d9_89 : decode prog_64_method_8_code 89 = .ok (.iadd, 1) := by decide +kernel
theorem d9_90 : decode prog_64_method_8_code 90 = .ok (.iload 8, 2) := by decide +kernel
theorem d9_92 : decode prog_64_method_8_code 92 = .ok (.iastore, 1) := by decide +kernel
theorem d9_93 : decode prog_64_method_8_code 93 = .ok (.aload 5, 2) := by decide +kernel
theorem d9_95 : decode prog_64_method_8_code 95 = .ok (.iload 10, 2) := by decide +kernel
theorem d9_97 : decode prog_64_method_8_code 97 = .ok (.bipush 8, 2) := by decide +kernel
theorem d9_99 : decode prog_64_method_8_code 99 = .ok (.imul, 1) := by decide +kernel
theorem d9_100 : decode prog_64_method_8_code 100 = .ok (.bipush 6, 2) := by decide +kernel
theorem d9_102 : decode prog_64_method_8_code 102 = .ok (.iadd, 1) := by decide +kernel
theorem d9_103 : decode prog_64_method_8_code 103 = .ok (.iconst 1, 1) := by decide +kernel
theorem d9_104 : decode prog_64_method_8_code 104 = .ok (.iastore, 1) := by decide +kernel
theorem d9_105 : decode prog_64_method_8_code 105 = .ok (.iload 10, 2) := by decide +kernel
theorem d9_107 : decode prog_64_method_8_code 107 = .ok (.istore 8, 2) := by decide +kernel
theorem d9_109 : decode prog_64_method_8_code 109 = .ok (.iinc 9 1, 3) := by decide +kernel
theorem d9_112 : decode prog_64_method_8_code 112 = .ok (.goto (-57), 3) := by decide +kernel
theorem d9_115 : decode prog_64_method_8_code 115 = .ok (.aload 5, 2) := by decide +kernel
theorem d9_117 : decode prog_64_method_8_code 117 = .ok (.iload 8, 2) := by decide +kernel
theorem d9_119 : decode prog_64_method_8_code 119 = .ok (.bipush 8, 2) := by decide +kernel
theorem d9_121 : decode prog_64_method_8_code 121 = .ok (.imul, 1) := by decide +kernel
theorem d9_122 : decode prog_64_method_8_code 122 = .ok (.iconst 4, 1) := by decide +kernel
theorem d9_123 : decode prog_64_method_8_code 123 = .ok (.iadd, 1) := by decide +kernel
theorem d9_124 : decode prog_64_method_8_code 124 = .ok (.iconst 1, 1) := by decide +kernel
theorem d9_125 : decode prog_64_method_8_code 125 = .ok (.iadd, 1) := by decide +kernel
theorem d9_126 : decode prog_64_method_8_code 126 = .ok (.iload 7, 2) := by decide +kernel
theorem d9_128 : decode prog_64_method_8_code 128 = .ok (.iastore, 1) := by decide +kernel
theorem d9_129 : decode prog_64_method_8_code 129 = .ok (.aload 5, 2) := by decide +kernel
theorem d9_131 : decode prog_64_method_8_code 131 = .ok (.iload 7, 2) := by decide +kernel
theorem d9_133 : decode prog_64_method_8_code 133 = .ok (.bipush 8, 2) := by decide +kernel
theorem d9_135 : decode prog_64_method_8_code 135 = .ok (.imul, 1) := by decide +kernel
theorem d9_136 : decode prog_64_method_8_code 136 = .ok (.iconst 4, 1) := by decide +kernel
theorem d9_137 : decode prog_64_method_8_code 137 = .ok (.iadd, 1) := by decide +kernel
theorem d9_138 : decode prog_64_method_8_code 138 = .ok (.iload 8, 2) := by decide +kernel
theorem d9_140 : decode prog_64_method_8_code 140 = .ok (.iastore, 1) := by decide +kernel
theorem d9_141 : decode prog_64_method_8_code 141 = .ok (.return_, 1) := by decide +kernel
theorem pn_9 : plainName "com/example/reticule/reticule/match/LinkTable" = true := by first | (simp [plainName, overriddenIn]; done) | decide +kernel
theorem pd_9 : parseMethodDescriptor "(I[IIZ)V" = some ⟨[.int, (.array .int), .int, .boolean], none⟩ := by decide +kernel

theorem d11_0 : decode prog_64_method_11_code 0 = .ok (.aload_n 0, 1) := by decide +kernel
theorem d11_1 : decode prog_64_method_11_code 1 = .ok (.getfield 9, 3) := by decide +kernel
theorem d11_4 : decode prog_64_method_11_code 4 = .ok (.iload_n 2, 1) := by decide +kernel
theorem d11_5 : decode prog_64_method_11_code 5 = .ok (.bipush 8, 2) := by decide +kernel
theorem d11_7 : decode prog_64_method_11_code 7 = .ok (.imul, 1) := by decide +kernel
theorem d11_8 : decode prog_64_method_11_code 8 = .ok (.iload_n 1, 1) := by decide +kernel
theorem d11_9 : decode prog_64_method_11_code 9 = .ok (.iadd, 1) := by decide +kernel
theorem d11_10 : decode prog_64_method_11_code 10 = .ok (.iconst 1, 1) := by decide +kernel
theorem d11_11 : decode prog_64_method_11_code 11 = .ok (.iadd, 1) := by decide +kernel
theorem d11_12 : decode prog_64_method_11_code 12 = .ok (.iaload, 1) := by decide +kernel
theorem d11_13 : decode prog_64_method_11_code 13 = .ok (.ireturn, 1) := by decide +kernel
theorem pn_11 : plainName "com/example/reticule/reticule/match/LinkTable" = true := by first | (simp [plainName, overriddenIn]; done) | decide +kernel
theorem pd_11 : parseMethodDescriptor "(II)I" = some ⟨[.int, .int], some .int⟩ := by decide +kernel

theorem d13_0 : decode prog_64_method_14_code 0 = .ok (.aload_n 0, 1) := by decide +kernel
theorem d13_1 : decode prog_64_method_14_code 1 = .ok (.getfield 9, 3) := by decide +kernel
theorem d13_4 : decode prog_64_method_14_code 4 = .ok (.iload_n 1, 1) := by decide +kernel
theorem d13_5 : decode prog_64_method_14_code 5 = .ok (.bipush 8, 2) := by decide +kernel
theorem d13_7 : decode prog_64_method_14_code 7 = .ok (.imul, 1) := by decide +kernel
theorem d13_8 : decode prog_64_method_14_code 8 = .ok (.bipush 6, 2) := by decide +kernel
theorem d13_10 : decode prog_64_method_14_code 10 = .ok (.iadd, 1) := by decide +kernel
theorem d13_11 : decode prog_64_method_14_code 11 = .ok (.iaload, 1) := by decide +kernel
theorem d13_12 : decode prog_64_method_14_code 12 = .ok (.ireturn, 1) := by decide +kernel
theorem pn_13 : plainName "com/example/reticule/reticule/match/LinkTable" = true := by first | (simp [plainName, overriddenIn]; done) | decide +kernel
theorem pd_13 : parseMethodDescriptor "(I)I" = some ⟨[.int], some .int⟩ := by decide +kernel

theorem d14_0 : decode prog_64_method_9_code 0 = .ok (.iload_n 1, 1) := by decide +kernel
theorem d14_1 : decode prog_64_method_9_code 1 = .ok (.bipush 8, 2) := by decide +kernel
theorem d14_3 : decode prog_64_method_9_code 3 = .ok (.imul, 1) := by decide +kernel
theorem d14_4 : decode prog_64_method_9_code 4 = .ok (.istore_n 2, 1) := by decide +kernel
theorem d14_5 : decode prog_64_method_9_code 5 = .ok (.aload_n 0, 1) := by decide +kernel
theorem d14_6 : decode prog_64_method_9_code 6 = .ok (.getfield 9, 3) := by decide +kernel
theorem d14_9 : decode prog_64_method_9_code 9 = .ok (.iload_n 2, 1) := by decide +kernel
theorem d14_10 : decode prog_64_method_9_code 10 = .ok (.iconst 4, 1) := by decide +kernel
theorem d14_11 : decode prog_64_method_9_code 11 = .ok (.iadd, 1) := by decide +kernel
theorem d14_12 : decode prog_64_method_9_code 12 = .ok (.iaload, 1) := by decide +kernel
theorem d14_13 : decode prog_64_method_9_code 13 = .ok (.istore_n 3, 1) := by decide +kernel
theorem d14_14 : decode prog_64_method_9_code 14 = .ok (.aload_n 0, 1) := by decide +kernel
theorem d14_15 : decode prog_64_method_9_code 15 = .ok (.getfield 9, 3) := by decide +kernel
theorem d14_18 : decode prog_64_method_9_code 18 = .ok (.iload_n 2, 1) := by decide +kernel
theorem d14_19 : decode prog_64_method_9_code 19 = .ok (.iconst 4, 1) := by decide +kernel
theorem d14_20 : decode prog_64_method_9_code 20 = .ok (.iadd, 1) := by decide +kernel
theorem d14_21 : decode prog_64_method_9_code 21 = .ok (.iconst 1, 1) := by decide +kernel
theorem d14_22 : decode prog_64_method_9_code 22 = .ok (.iadd, 1) := by decide +kernel
theorem d14_23 : decode prog_64_method_9_code 23 = .ok (.iaload, 1) := by decide +kernel
theorem d14_24 : decode prog_64_method_9_code 24 = .ok (.istore 4, 2) := by decide +kernel
theorem d14_26 : decode prog_64_method_9_code 26 = .ok (.aload_n 0, 1) := by decide +kernel
theorem d14_27 : decode prog_64_method_9_code 27 = .ok (.iconst 4, 1) := by decide +kernel
theorem d14_28 : decode prog_64_method_9_code 28 = .ok (.iload_n 1, 1) := by decide +kernel
theorem d14_29 : decode prog_64_method_9_code 29 = .ok (.invokevirtual 33, 3) := by decide +kernel
theorem d14_32 : decode prog_64_method_9_code 32 = .ok (.aload_n 0, 1) := by decide +kernel
theorem d14_33 : decode prog_64_method_9_code 33 = .ok (.getfield 9, 3) := by decide +kernel
theorem d14_36 : decode prog_64_method_9_code 36 = .ok (.iload_n 2, 1) := by decide +kernel
theorem d14_37 : decode prog_64_method_9_code 37 = .ok (.bipush 6, 2) := by decide +kernel
theorem d14_39 : decode prog_64_method_9_code 39 = .ok (.iadd, 1) := by decide +kernel
theorem d14_40 : decode prog_64_method_9_code 40 = .ok (.iconst 0, 1) := by decide +kernel
theorem d14_41 : decode prog_64_method_9_code 41 = .ok (.iastore, 1) := by decide +kernel
theorem d14_42 : decode prog_64_method_9_code 42 = .ok (.iload_n 3, 1) := by decide +kernel
theorem d14_43 : decode prog_64_method_9_code 43 = .ok (.iload 4, 2) := by decide +kernel
theorem d14_45 : decode prog_64_method_9_code 45 = .ok (.if_icmp .ne 7, 3) := by decide +kernel
theorem d14_48 : decode prog_64_method_9_code 48 = .ok (.iload_n 3, 1) := by decide +kernel
theorem d14_49 : decode prog_64_method_9_code 49 = .ok (.goto 4, 3) := by decide +kernel
theorem d14_52 : decode prog_64_method_9_code 52 = .ok (.iconst (-1), 1) := by decide +kernel
theorem d14_53 : decode prog_64_method_9_code 53 = .ok (.ireturn, 1) := by decide +kernel
theorem pn_14 : plainName "com/example/reticule/reticule/match/LinkTable" = true := by first | (simp [plainName, overriddenIn]; done) | decide +kernel
theorem pd_14 : parseMethodDescriptor "(I)I" = some ⟨[.int], some .int⟩ := by decide +kernel

theorem d15_0 : decode prog_64_method_10_code 0 = .ok (.aload_n 0, 1) := by decide +kernel
theorem d15_1 : decode prog_64_method_10_code 1 = .ok (.getfield 9, 3) := by decide +kernel
theorem d15_4 : decode prog_64_method_10_code 4 = .ok (.astore_n 3, 1) := by decide +kernel
theorem d15_5 : decode prog_64_method_10_code 5 = .ok (.iload_n 2, 1) := by decide +kernel
theorem d15_6 : decode prog_64_method_10_code 6 = .ok (.bipush 8, 2) := by decide +kernel
theorem d15_8 : decode prog_64_method_10_code 8 = .ok (.imul, 1) := by decide +kernel
theorem d15_9 : decode prog_64_method_10_code 9 = .ok (.iload_n 1, 1) := by decide +kernel
theorem d15_10 : decode prog_64_method_10_code 10 = .ok (.iadd, 1) := by decide +kernel
theorem d15_11 : decode prog_64_method_10_code 11 = .ok (.istore 4, 2) := by decide +kernel
theorem d15_13 : decode prog_64_method_10_code 13 = .ok (.aload_n 3, 1) := by decide +kernel
theorem d15_14 : decode prog_64_method_10_code 14 = .ok (.iload 4, 2) := by decide +kernel
theorem d15_16 : decode prog_64_method_10_code 16 = .ok (.iaload, 1) := by decide +kernel
theorem d15_17 : decode prog_64_method_10_code 17 = .ok (.istore 5, 2) := by decide +kernel
theorem d15_19 : decode prog_64_method_10_code 19 = .ok (.aload_n 3, 1) := by decide +kernel
theorem d15_20 : decode prog_64_method_10_code 20 = .ok (.iload 4, 2) := by decide +kernel
theorem d15_22 : decode prog_64_method_10_code 22 = .ok (.iconst 1, 1) := by decide +kernel
theorem d15_23 : decode prog_64_method_10_code 23 = .ok (.iadd, 1) := by decide +kernel
theorem d15_24 : decode prog_64_method_10_code 24 = .ok (.iaload, 1) := by decide +kernel
theorem d15_25 : decode prog_64_method_10_code 25 = .ok (.istore 6, 2) := by decide +kernel
theorem d15_27 : decode prog_64_method_10_code 27 = .ok (.aload_n 3, 1) := by decide +kernel
theorem d15_28 : decode prog_64_method_10_code 28 = .ok (.iload 5, 2) := by decide +kernel
theorem d15_30 : decode prog_64_method_10_code 30 = .ok (.bipush 8, 2) := by decide +kernel
theorem d15_32 : decode prog_64_method_10_code 32 = .ok (.imul, 1) := by decide +kernel
theorem d15_33 : decode prog_64_method_10_code 33 = .ok (.iload_n 1, 1) := by decide +kernel
theorem d15_34 : decode prog_64_method_10_code 34 = .ok (.iadd, 1) := by decide +kernel
theorem d15_35 : decode prog_64_method_10_code 35 = .ok (.iconst 1, 1) := by decide +kernel
theorem d15_36 : decode prog_64_method_10_code 36 = .ok (.iadd, 1) := by decide +kernel
theorem d15_37 : decode prog_64_method_10_code 37 = .ok (.iload 6, 2) := by decide +kernel
theorem d15_39 : decode prog_64_method_10_code 39 = .ok (.iastore, 1) := by decide +kernel
theorem d15_40 : decode prog_64_method_10_code 40 = .ok (.aload_n 3, 1) := by decide +kernel
theorem d15_41 : decode prog_64_method_10_code 41 = .ok (.iload 6, 2) := by decide +kernel
theorem d15_43 : decode prog_64_method_10_code 43 = .ok (.bipush 8, 2) := by decide +kernel
theorem d15_45 : decode prog_64_method_10_code 45 = .ok (.imul, 1) := by decide +kernel
theorem d15_46 : decode prog_64_method_10_code 46 = .ok (.iload_n 1, 1) := by decide +kernel
theorem d15_47 : decode prog_64_method_10_code 47 = .ok (.iadd, 1) := by decide +kernel
theorem d15_48 : decode prog_64_method_10_code 48 = .ok (.iload 5, 2) := by decide +kernel
theorem d15_50 : decode prog_64_method_10_code 50 = .ok (.iastore, 1) := by decide +kernel
theorem d15_51 : decode prog_64_method_10_code 51 = .ok (.return_, 1) := by decide +kernel
theorem pn_15 : plainName "com/example/reticule/reticule/match/LinkTable" = true := by first | (simp [plainName, overriddenIn]; done) | decide +kernel
theorem pd_15 : parseMethodDescriptor "(II)V" = some ⟨[.int, .int], none⟩ := by decide +kernel

theorem d3_0 : decode method_3_code 0 = .ok (.aload_n 0, 1) := by decide +kernel
theorem d3_1 : decode method_3_code 1 = .ok (.aconst_null, 1) := by decide +kernel
theorem d3_2 : decode method_3_code 2 = .ok (.iconst (-1), 1) := by decide +kernel
theorem d3_3 : decode method_3_code 3 = .ok (.iconst (-1), 1) := by decide +kernel
theorem d3_4 : decode method_3_code 4 = .ok (.invokevirtual 13, 3) := by decide +kernel
theorem d3_7 : decode method_3_code 7 = .ok (.ireturn, 1) := by decide +kernel
theorem pn_3 : plainName "com/example/reticule/reticule/match/LinkTableLineUpPinLaw" = true := by first | (simp [plainName, overriddenIn]; done) | decide +kernel
theorem pd_3 : parseMethodDescriptor "(Lcom/example/reticule/reticule/match/LinkTable;)I" = some ⟨[(.object "com/example/reticule/reticule/match/LinkTable")], some .int⟩ := by decide +kernel

theorem d10_0 : decode method_2_code 0 = .ok (.aload_n 0, 1) := by decide +kernel
theorem d10_1 : decode method_2_code 1 = .ok (.iconst 4, 1) := by decide +kernel
theorem d10_2 : decode method_2_code 2 = .ok (.iload_n 1, 1) := by decide +kernel
theorem d10_3 : decode method_2_code 3 = .ok (.invokevirtual 9, 3) := by decide +kernel
theorem d10_6 : decode method_2_code 6 = .ok (.ireturn, 1) := by decide +kernel
theorem pn_10 : plainName "com/example/reticule/reticule/match/LinkTableLineUpPinLaw" = true := by first | (simp [plainName, overriddenIn]; done) | decide +kernel
theorem pd_10 : parseMethodDescriptor "(Lcom/example/reticule/reticule/match/LinkTable;I)I" = some ⟨[(.object "com/example/reticule/reticule/match/LinkTable"), .int], some .int⟩ := by decide +kernel

theorem d12_0 : decode method_4_code 0 = .ok (.aload_n 0, 1) := by decide +kernel
theorem d12_1 : decode method_4_code 1 = .ok (.iload_n 1, 1) := by decide +kernel
theorem d12_2 : decode method_4_code 2 = .ok (.invokevirtual 17, 3) := by decide +kernel
theorem d12_5 : decode method_4_code 5 = .ok (.ireturn, 1) := by decide +kernel
theorem pn_12 : plainName "com/example/reticule/reticule/match/LinkTableLineUpPinLaw" = true := by first | (simp [plainName, overriddenIn]; done) | decide +kernel
theorem pd_12 : parseMethodDescriptor "(Lcom/example/reticule/reticule/match/LinkTable;I)I" = some ⟨[(.object "com/example/reticule/reticule/match/LinkTable"), .int], some .int⟩ := by decide +kernel

def own_rd (xs : List Int32) (j : Int32) : Option Int32 := if j < 0 then none else xs[j.toNatClampNeg]?
def own_wr (xs : List Int32) (j v : Int32) : Option (List Int32) := if j < 0 then none else if j.toNatClampNeg < xs.length then some (xs.set j.toNatClampNeg v) else none
def own_lfF (xs : List Int32) (o n : Int32) : Option (List Int32) := (own_wr xs (n * (8 : Int32) + o) n).bind fun x1 => own_wr x1 (n * (8 : Int32) + o + (1 : Int32)) n
def own_addF (xs : List Int32) (n : Int32) : Option (List Int32) := (own_lfF xs 0 n).bind fun x1 => (own_lfF x1 2 n).bind fun x2 => own_wr x2 (n * (8 : Int32) + (6 : Int32)) (-1)
def own_nlF (xs : List Int32) (n : Int32) : Option (List Int32) :=
  (own_wr xs (n * 8 + 0) n).bind fun x1 => (own_wr x1 (n * 8 + 0 + 1) n).bind fun x2 =>
  (own_wr x2 (n * 8 + (0 + 2)) n).bind fun x3 => (own_wr x3 (n * 8 + (0 + 2) + 1) n).bind fun x4 =>
  (own_wr x4 (n * 8 + (0 + 2 + 2)) n).bind fun x5 => (own_wr x5 (n * 8 + (0 + 2 + 2) + 1) n).bind fun x6 => own_wr x6 (n * 8 + 6) (-1)
def own_luL (ys : List Int32) : Nat → Int32 → Int32 → List Int32 → Option (List Int32 × Int32)
  | 0, _, prev, xs => some (xs, prev)
  | k + 1, i, prev, xs => (own_rd ys i).bind fun n => (own_wr xs (prev * 8 + 4 + 1) n).bind fun x1 => (own_wr x1 (n * 8 + 4) prev).bind fun x2 => (own_wr x2 (n * 8 + 6) 1).bind fun x3 => own_luL ys k (i + 1) n x3
def own_luF (xs : List Int32) (h : Int32) (ys : List Int32) (k : Nat) (front : Int32) : Option (List Int32) :=
  (if front = 0 then own_rd xs (h * 8 + 4) else some h).bind fun pred => (if front = 0 then some h else own_rd xs (h * 8 + 4 + 1)).bind fun succ =>
  (own_luL ys k 0 pred xs).bind fun y => (own_wr y.1 (y.2 * 8 + 4 + 1) succ).bind fun x1 => own_wr x1 (succ * 8 + 4) y.2
def own_unF (xs : List Int32) (n : Int32) : Option (List Int32) := (own_rd xs (n * 8 + 4)).bind fun a => (own_rd xs (n * 8 + 4 + 1)).bind fun b => (own_wr xs (a * 8 + 4 + 1) b).bind fun x1 => own_wr x1 (b * 8 + 4) a
def own_lvF (xs : List Int32) (n : Int32) : Option (List Int32 × Int32) := (own_rd xs (n * 8 + 4)).bind fun a => (own_rd xs (n * 8 + 4 + 1)).bind fun b => (own_unF xs n).bind fun x1 => (own_wr x1 (n * 8 + 6) 0).bind fun x2 => some (x2, if a = b then a else -1)
def own_bI (b : Bool) : Int32 := if b then 1 else 0
def own_rI (r : Fin 3) : Int32 := Int32.ofNat r.val
def own_kI (r : Fin 4) : Int32 := Int32.ofNat r.val
def own_X1 : List Int32 := (own_addF (List.replicate 64 0) 0).getD []
def own_X2 : List Int32 := (own_nlF own_X1 1).getD []
def own_X3 : List Int32 := (own_addF own_X2 2).getD []
def own_X4 : List Int32 := (own_addF own_X3 3).getD []
def own_eL : List Int32 := [0, 2, 3]
def own_o0 (r : Fin 3) : Int32 := (own_rd own_eL (own_rI r)).getD 0
def own_o1 (r : Fin 3) (v : Bool) : Int32 := (own_rd own_eL (if v then (own_rI r + 2) % 3 else (own_rI r + 1) % 3)).getD 0
def own_o2 (r : Fin 3) (v : Bool) : Int32 := (own_rd own_eL (if v then (own_rI r + 1) % 3 else (own_rI r + 2) % 3)).getD 0
def own_oL (r : Fin 3) (v : Bool) : List Int32 := [own_o0 r, own_o1 r v, own_o2 r v]
def own_t0 (r : Fin 3) (v : Bool) (k : Fin 4) : Int32 := (own_rd (own_oL r v) (own_kI k % 3)).getD 0
def own_t1 (r : Fin 3) (v : Bool) (k : Fin 4) : Int32 := (own_rd (own_oL r v) ((own_kI k + 1) % 3)).getD 0
def own_t2 (r : Fin 3) (v : Bool) (k : Fin 4) : Int32 := (own_rd (own_oL r v) ((own_kI k + 2) % 3)).getD 0
def own_tL (r : Fin 3) (v : Bool) (k : Fin 4) : List Int32 := [own_t0 r v k, own_t1 r v k, own_t2 r v k]
def own_X5 (r : Fin 3) (v : Bool) (k : Fin 4) (f : Bool) : List Int32 := (own_luF own_X4 1 (own_oL r v) k.val (own_bI f)).getD []
def own_X6 (r : Fin 3) (v : Bool) (k : Fin 4) (f g : Bool) : List Int32 := (own_luF (own_X5 r v k f) 1 (own_tL r v k) (3 - k.val) (own_bI g)).getD []
def own_X7 (r : Fin 3) (v : Bool) (k : Fin 4) (f g : Bool) : List Int32 := (own_luF (own_X6 r v k f g) 1 (own_oL r v) 0 0).getD []
def own_s0 (r : Fin 3) (v : Bool) (k : Fin 4) (g : Bool) : Int32 := if g then own_t0 r v k else own_o0 r
def own_s1 (r : Fin 3) (v : Bool) (k : Fin 4) (g : Bool) : Int32 := if g then own_t1 r v k else own_o1 r v
def own_s2 (r : Fin 3) (v : Bool) (k : Fin 4) (g : Bool) : Int32 := if g then own_t2 r v k else own_o2 r v
def own_xx (r : Fin 3) (v : Bool) (k : Fin 4) (g : Bool) (j : Fin 3) : Int32 := if j.val = 0 then own_s0 r v k g else if j.val = 1 then own_s1 r v k g else own_s2 r v k g
def own_u0 (r : Fin 3) (v : Bool) (k : Fin 4) (g : Bool) (j : Fin 3) : Int32 := if j.val = 0 then own_s1 r v k g else own_s0 r v k g
def own_u1 (r : Fin 3) (v : Bool) (k : Fin 4) (g : Bool) (j : Fin 3) : Int32 := if j.val = 2 then own_s1 r v k g else own_s2 r v k g
def own_X8 (r : Fin 3) (v : Bool) (k : Fin 4) (f g : Bool) (j : Fin 3) : List Int32 := ((own_lvF (own_X7 r v k f g) (own_xx r v k g j)).map Prod.fst).getD []
theorem own_pX1 : own_addF (List.replicate 64 0) 0 = some own_X1 := by decide +kernel
theorem own_pX2 : own_nlF own_X1 1 = some own_X2 := by decide +kernel
theorem own_pX3 : own_addF own_X2 2 = some own_X3 := by decide +kernel
theorem own_pX4 : own_addF own_X3 3 = some own_X4 := by decide +kernel
theorem own_pO0 : ∀ r, own_rd own_eL (own_rI r) = some (own_o0 r) := by decide +kernel
theorem own_pX5 : ∀ r v k f, own_luF own_X4 1 (own_oL r v) k.val (own_bI f) = some (own_X5 r v k f) := by decide +kernel
theorem own_pX6 : ∀ r v k f g, own_luF (own_X5 r v k f) 1 (own_tL r v k) (3 - k.val) (own_bI g) = some (own_X6 r v k f g) := by decide +kernel
theorem own_pX7 : ∀ r v k f g, own_luF (own_X6 r v k f g) 1 (own_oL r v) 0 0 = some (own_X7 r v k f g) := by decide +kernel
theorem own_pN : ∀ r v k f g, own_rd (own_X7 r v k f g) (1 * 8 + 4 + 1) = some (own_s0 r v k g) ∧ own_rd (own_X7 r v k f g) (own_s0 r v k g * 8 + 4 + 1) = some (own_s1 r v k g) ∧ own_rd (own_X7 r v k f g) (own_s1 r v k g * 8 + 4 + 1) = some (own_s2 r v k g) ∧ own_rd (own_X7 r v k f g) (own_s2 r v k g * 8 + 4 + 1) = some 1 ∧ own_rd (own_X7 r v k f g) (0 * 8 + 6) = some 1 ∧ own_rd (own_X7 r v k f g) (2 * 8 + 6) = some 1 ∧ own_rd (own_X7 r v k f g) (3 * 8 + 6) = some 1 ∧ own_rd (own_X7 r v k f g) (1 * 8 + 6) = some (-1) := by decide +kernel
theorem own_pX8 : ∀ r v k f g j, own_lvF (own_X7 r v k f g) (own_xx r v k g j) = some (own_X8 r v k f g j, -1) := by decide +kernel
theorem own_pM : ∀ r v k f g j, own_rd (own_X8 r v k f g j) (own_xx r v k g j * 8 + 6) = some 0 ∧ own_rd (own_X8 r v k f g j) (1 * 8 + 4 + 1) = some (own_u0 r v k g j) ∧ own_rd (own_X8 r v k f g j) (own_u0 r v k g j * 8 + 4 + 1) = some (own_u1 r v k g j) ∧ own_rd (own_X8 r v k f g j) (own_u1 r v k g j * 8 + 4 + 1) = some 1 := by decide +kernel

def LT (Z : State) (h : Heap) (n0 : Nat) (a r e : Addr) (u : Int32) (xs : List Int32) : Prop :=
  Exa Z h a "com/example/reticule/reticule/match/LinkTable" ∧ Fld Z h a "com/example/reticule/reticule/match/LinkTable" "records" "[I" (.ref r) ∧ Fld Z h a "com/example/reticule/reticule/match/LinkTable" "elements" "[Ljava/lang/Object;" (.ref e) ∧ Fld Z h a "com/example/reticule/reticule/match/LinkTable" "released" "I" (.int (-1 : Int32)) ∧ Fld Z h a "com/example/reticule/reticule/match/LinkTable" "used" "I" (.int u) ∧ AL Z h r .int (xs.map Value.int) ∧ AL Z h e (.object "java/lang/Object") (List.replicate 8 .null) ∧ n0 ≤ a ∧ n0 ≤ r ∧ n0 ≤ e ∧ a ≠ r ∧ a ≠ e ∧ r ≠ e
theorem own_rdv {xs : List Int32} {j x : Int32} (h : own_rd xs j = some x) : ¬ j < 0 ∧ (xs.map Value.int)[j.toNatClampNeg]? = some (.int x) := by
  unfold own_rd at h
  split at h
  · cases h
  · rename_i q; exact ⟨q, by rw [List.getElem?_map, h]; rfl⟩
theorem own_wrv {xs ys : List Int32} {j v : Int32} (h : own_wr xs j v = some ys) : ¬ j < 0 ∧ j.toNatClampNeg < (xs.map Value.int).length ∧ (xs.map Value.int).set j.toNatClampNeg (.int v) = ys.map Value.int := by
  unfold own_wr at h
  split at h
  · cases h
  · rename_i q
    split at h
    · rename_i q2
      cases h
      exact ⟨q, by simpa using q2, List.map_set.symm⟩
    · cases h
theorem own_setrep (i : Nat) : (List.replicate 8 Value.null).set i .null = List.replicate 8 .null := List.set_replicate_self

theorem ef_rm1 (m : MethodId) (a1 : Addr) : entryFrame m #[(.ref a1)] 1 = mkF m 0 #[.val (.ref a1)] [] := by first | (simp [entryFrame, mkF, argsToLocals, Value.category]; done) | rfl
def Q1 (Z : State) (a1 : Addr) (h0 : Heap) (n0 : Nat) (v : Option Value) (h : Heap) (L : List Loc) : Prop := Fr n0 L ∧ v = none ∧ ∃ r1 el1 : Addr, h0.size ≤ r1 ∧ h0.size ≤ el1 ∧ Keep h0 h [a1] ∧ LT Z h n0 a1 r1 el1 (0 : Int32) (List.replicate 64 (0 : Int32))
set_option maxRecDepth 65536 in
set_option maxHeartbeats 40000000 in
theorem rm1 (l : Launch) (Z : State) (a0 : Array Value) (hw : ∀ d ∈ tables_1, d.before a0 Z = true) (ws : List Jvm.Cond) (a1 : Addr) (h0 : Heap) (n0 : Nat) (Z0 : n0 ≤ h0.size) (E1 : Exa Z h0 a1 "com/example/reticule/reticule/match/LinkTable") (g_a1 : n0 ≤ a1) (F_records : Fld Z h0 a1 "com/example/reticule/reticule/match/LinkTable" "records" "[I" .null) (F_elements : Fld Z h0 a1 "com/example/reticule/reticule/match/LinkTable" "elements" "[Ljava/lang/Object;" .null) (F_released : Fld Z h0 a1 "com/example/reticule/reticule/match/LinkTable" "released" "I" (.int (0 : Int32))) (F_used : Fld Z h0 a1 "com/example/reticule/reticule/match/LinkTable" "used" "I" (.int (0 : Int32))) :
    MetFree l (⟨"com/example/reticule/reticule/match/LinkTable", "<init>", "()V"⟩ : MethodName) (head1 (Jvm.Cond.code (⟨"com/example/reticule/reticule/match/LinkTable", "<init>", "()V"⟩ : MethodName) prog_64_method_1_code 1 none :: ws) ({ frames := 1, cells := 2, slots := 72, locals := 13 } : Room)) (fun a U => a = #[(.ref a1)] ∧ Z.Warmed39 U.vm ∧ U.heap = h0) (fun _ _ _ _ _ => True) (fun _ U o U' => ∃ v L, o = .returned v ∧ Q1 Z a1 h0 n0 v U'.heap L ∧ FrameEnd U o U' L ({ frames := 1, cells := 2, slots := 72, locals := 13 } : Room).cells ({ frames := 1, cells := 2, slots := 72, locals := 13 } : Room).slots) := by
  refine MetFree.of_bodySF (plainFor_of_name pn_1) hisR ?_
  intro p e s m args below meth c s₁ Bd hml0 hP hK
  obtain ⟨rfl, hZ, hh⟩ := hP
  have hx := Bd.exec
  have hby := Bd.bytes
  have hml : c.maxLocals = 1 := hml0
  have hown : s.vm.findClass "com/example/reticule/reticule/match/LinkTable" = some m.cls := findClass_of_methodNamed Bd.named
  have hnm := (name_of_methodNamed Bd.named Bd.method).1
  have X0 : Stand p l e ({ frames := 1, cells := 2, slots := 72, locals := 13 } : Room) s m #[(.ref a1)] below meth c s₁ [] 0 0 := Stand.of_body Bd
  have e0 : s₁.heap = h0 := by rw [← hh, Bd.state]; rfl
  have N0 := Fr.nil n0
  have pre0 : ∀ t, Steps p.tables e below (s₁.setTop (mkF m 0 #[.val (.ref a1)] [])) t → Steps p.tables e below (s₁.setTop (entryFrame m #[(.ref a1)] 1)) t := fun t k => castTop (ef_rm1 m a1) k
  have K0 : Keep h0 h0 [a1] := Keep.refl _ _

  obtain ⟨T1, X1, e1, st1⟩ := initO X0 hx hZ hown (hw _ (List.mem_of_getElem? (i := 6) rfl)) (hw _ (List.mem_of_getElem? (i := 7) rfl)) (hw _ (List.mem_of_getElem? (i := 8) rfl)) e0 (g := (mkF m 1 #[.val (.ref a1)] [(.ref a1)])) rfl (by rw [hml]; rfl) rfl (hb hby d1_1) (by decide) (W := 0) (by show 2 * 0 + _ ≤ _; exact Nat.le_of_eq rfl) (by decide)
  obtain ⟨T2, h2, k2, X2, e2, E2, A2, st2⟩ := newP X1 hx hZ (hw _ (List.mem_of_getElem? (i := 9) rfl)) e1 (g := (mkF m 7 #[.val (.ref a1)] [(.int (64 : Int32)), (.ref a1)])) rfl (hb hby d1_7) rfl (by decide) (cap := 64) (by decide) (by decide) (by decide) (by decide)
  obtain ⟨r1, g2⟩ : ∃ z, z = h0.size := ⟨_, rfl⟩
  rw [← g2] at A2 st2
  have g_r1 : n0 ≤ r1 := Nat.le_trans Z0 (Nat.le_of_eq g2.symm)
  have sz_r1 : h0.size ≤ r1 := Nat.le_trans K0.1 (Nat.le_of_eq g2.symm)
  have ne_a1_r1 : a1 ≠ r1 := Nat.ne_of_lt (Nat.lt_of_lt_of_le E1.lt (Nat.le_of_eq g2.symm))
  have E1_e2 := E1.ext E2
  have F_records_e2 := F_records.ext E2
  have F_elements_e2 := F_elements.ext E2
  have F_released_e2 := F_released.ext E2
  have F_used_e2 := F_used.ext E2
  have Z2 : n0 ≤ h2.size := Nat.le_trans Z0 E2.1
  have K2 : Keep h0 h2 [a1] := K0.ext E2
  have V_r1 : AL Z h2 r1 .int (List.replicate 64 (.int (0 : Int32))) := AL.new A2 (by decide) rfl rfl
  obtain ⟨T3, h3, X3, e3, W3, st3⟩ := putF X2 hx hZ hown (host := "") (Or.inl (hw _ (List.mem_of_getElem? (i := 10) rfl))) Via.refl e2 F_records_e2 E1_e2 (Or.inl (hw _ (List.mem_of_getElem? (i := 11) rfl))) (hw _ (List.mem_of_getElem? (i := 1) rfl)) (ty := (.array .int)) (by decide) rfl rfl (g := (mkF m 9 #[.val (.ref a1)] [(.ref r1), (.ref a1)])) rfl rfl (hb hby d1_9)
  have N3 := Fr.snoc X3 N0 g_a1
  have E1_e3 := E1_e2.wr W3
  have F_records_e3 := F_records_e2.same W3
  have F_elements_e3 := F_elements_e2.other W3 (Or.inr (slot_ne (Or.inl (hw _ (List.mem_of_getElem? (i := 15) rfl))) (Or.inl (hw _ (List.mem_of_getElem? (i := 11) rfl))) (by decide) (t := (.array (.object "java/lang/Object"))) (t' := (.array .int)) (by decide) (by decide)))
  have F_released_e3 := F_released_e2.other W3 (Or.inr (slot_ne (Or.inl (hw _ (List.mem_of_getElem? (i := 17) rfl))) (Or.inl (hw _ (List.mem_of_getElem? (i := 11) rfl))) (by decide) (t := .int) (t' := (.array .int)) (by decide) (by decide)))
  have F_used_e3 := F_used_e2.other W3 (Or.inr (slot_ne (Or.inl (hw _ (List.mem_of_getElem? (i := 32) rfl))) (Or.inl (hw _ (List.mem_of_getElem? (i := 11) rfl))) (by decide) (t := .int) (t' := (.array .int)) (by decide) (by decide)))
  have V_r1_e3 := V_r1.other W3 (Ne.symm ne_a1_r1)
  have Z3 : n0 ≤ h3.size := W3.size.symm ▸ Z2
  have K3 : Keep h0 h3 [a1] := K2.wr W3 (Or.inl (List.mem_of_getElem? (i := 0) rfl))
  obtain ⟨T4, h4, k4, X4, e4, E4, A4, -, st4⟩ := newR X3 hx hZ hown (hw _ (List.mem_of_getElem? (i := 12) rfl)) (hw _ (List.mem_of_getElem? (i := 13) rfl)) e3 (g := (mkF m 15 #[.val (.ref a1)] [(.int (8 : Int32)), (.ref a1)])) rfl (hb hby d1_15) rfl (by decide) (cap := 8) (by decide) (by decide) (by decide) (by decide)
  obtain ⟨el1, g4⟩ : ∃ z, z = h3.size := ⟨_, rfl⟩
  rw [← g4] at A4 st4
  have g_el1 : n0 ≤ el1 := Nat.le_trans Z3 (Nat.le_of_eq g4.symm)
  have sz_el1 : h0.size ≤ el1 := Nat.le_trans K3.1 (Nat.le_of_eq g4.symm)
  have ne_a1_el1 : a1 ≠ el1 := Nat.ne_of_lt (Nat.lt_of_lt_of_le E1_e3.lt (Nat.le_of_eq g4.symm))
  have ne_r1_el1 : r1 ≠ el1 := Nat.ne_of_lt (Nat.lt_of_lt_of_le V_r1_e3.lt (Nat.le_of_eq g4.symm))
  have E1_e4 := E1_e3.ext E4
  have F_records_e4 := F_records_e3.ext E4
  have F_elements_e4 := F_elements_e3.ext E4
  have F_released_e4 := F_released_e3.ext E4
  have F_used_e4 := F_used_e3.ext E4
  have V_r1_e4 := V_r1_e3.ext E4
  have Z4 : n0 ≤ h4.size := Nat.le_trans Z3 E4.1
  have K4 : Keep h0 h4 [a1] := K3.ext E4
  have V_el1 : AL Z h4 el1 (.object "java/lang/Object") (List.replicate 8 .null) := AL.new A4 (by decide) rfl rfl
  obtain ⟨T5, h5, X5, e5, W5, st5⟩ := putF X4 hx hZ hown (host := "") (Or.inl (hw _ (List.mem_of_getElem? (i := 14) rfl))) Via.refl e4 F_elements_e4 E1_e4 (Or.inl (hw _ (List.mem_of_getElem? (i := 15) rfl))) (hw _ (List.mem_of_getElem? (i := 1) rfl)) (ty := (.array (.object "java/lang/Object"))) (by decide) rfl rfl (g := (mkF m 18 #[.val (.ref a1)] [(.ref el1), (.ref a1)])) rfl rfl (hb hby d1_18)
  have N5 := Fr.snoc X5 N3 g_a1
  have E1_e5 := E1_e4.wr W5
  have F_records_e5 := F_records_e4.other W5 (Or.inr (slot_ne (Or.inl (hw _ (List.mem_of_getElem? (i := 11) rfl))) (Or.inl (hw _ (List.mem_of_getElem? (i := 15) rfl))) (by decide) (t := (.array .int)) (t' := (.array (.object "java/lang/Object"))) (by decide) (by decide)))
  have F_elements_e5 := F_elements_e4.same W5
  have F_released_e5 := F_released_e4.other W5 (Or.inr (slot_ne (Or.inl (hw _ (List.mem_of_getElem? (i := 17) rfl))) (Or.inl (hw _ (List.mem_of_getElem? (i := 15) rfl))) (by decide) (t := .int) (t' := (.array (.object "java/lang/Object"))) (by decide) (by decide)))
  have F_used_e5 := F_used_e4.other W5 (Or.inr (slot_ne (Or.inl (hw _ (List.mem_of_getElem? (i := 32) rfl))) (Or.inl (hw _ (List.mem_of_getElem? (i := 15) rfl))) (by decide) (t := .int) (t' := (.array (.object "java/lang/Object"))) (by decide) (by decide)))
  have V_r1_e5 := V_r1_e4.other W5 (Ne.symm ne_a1_r1)
  have V_e5 := V_el1.other W5 (Ne.symm ne_a1_el1)
  have Z5 : n0 ≤ h5.size := W5.size.symm ▸ Z4
  have K5 : Keep h0 h5 [a1] := K4.wr W5 (Or.inl (List.mem_of_getElem? (i := 0) rfl))
  obtain ⟨T6, h6, X6, e6, W6, st6⟩ := putF X5 hx hZ hown (host := "") (Or.inl (hw _ (List.mem_of_getElem? (i := 16) rfl))) Via.refl e5 F_released_e5 E1_e5 (Or.inl (hw _ (List.mem_of_getElem? (i := 17) rfl))) (hw _ (List.mem_of_getElem? (i := 1) rfl)) (ty := .int) (by decide) rfl rfl (g := (mkF m 23 #[.val (.ref a1)] [(.int (-1 : Int32)), (.ref a1)])) rfl rfl (hb hby d1_23)
  have N6 := Fr.snoc X6 N5 g_a1
  have E1_e6 := E1_e5.wr W6
  have F_records_e6 := F_records_e5.other W6 (Or.inr (slot_ne (Or.inl (hw _ (List.mem_of_getElem? (i := 11) rfl))) (Or.inl (hw _ (List.mem_of_getElem? (i := 17) rfl))) (by decide) (t := (.array .int)) (t' := .int) (by decide) (by decide)))
  have F_elements_e6 := F_elements_e5.other W6 (Or.inr (slot_ne (Or.inl (hw _ (List.mem_of_getElem? (i := 15) rfl))) (Or.inl (hw _ (List.mem_of_getElem? (i := 17) rfl))) (by decide) (t := (.array (.object "java/lang/Object"))) (t' := .int) (by decide) (by decide)))
  have F_released_e6 := F_released_e5.same W6
  have F_used_e6 := F_used_e5.other W6 (Or.inr (slot_ne (Or.inl (hw _ (List.mem_of_getElem? (i := 32) rfl))) (Or.inl (hw _ (List.mem_of_getElem? (i := 17) rfl))) (by decide) (t := .int) (t' := .int) (by decide) (by decide)))
  have V_r1_e6 := V_r1_e5.other W6 (Ne.symm ne_a1_r1)
  have V_e6 := V_e5.other W6 (Ne.symm ne_a1_el1)
  have Z6 : n0 ≤ h6.size := W6.size.symm ▸ Z5
  have K6 : Keep h0 h6 [a1] := K5.wr W6 (Or.inl (List.mem_of_getElem? (i := 0) rfl))
  have Vr' : AL Z h6 r1 .int ((List.replicate 64 (0 : Int32)).map Value.int) := by rw [List.map_replicate]; exact V_r1_e6
  obtain ⟨fs, hr, hrun, hended, hW, hsame⟩ := X6.leave (v := none) (fun _ => rfl)
  refine ⟨_, _, pre0 _ ?_, hrun, hended, _, _, rfl, ?_, ⟨_, rfl⟩, hW, hsame.mono (by decide) (by decide)⟩
  · show Steps p.tables e below (s₁.setTop (mkF m 0 #[.val (.ref a1)] [])) _
    refine XS.aloadN X0.here hx rfl (hb hby d1_0) rfl rfl ?_
    show Steps p.tables e below (s₁.setTop (mkF m 1 #[.val (.ref a1)] [(.ref a1)])) _
    refine st1 _ ?_
    show Steps p.tables e below (T1.setTop (mkF m 4 #[.val (.ref a1)] [])) _
    refine XS.aloadN X1.here hx rfl (hb hby d1_4) rfl rfl ?_
    show Steps p.tables e below (T1.setTop (mkF m 5 #[.val (.ref a1)] [(.ref a1)])) _
    refine XS.bipush X1.here hx rfl (hb hby d1_5) ?_
    show Steps p.tables e below (T1.setTop (mkF m 7 #[.val (.ref a1)] [(.int (64 : Int32)), (.ref a1)])) _
    refine st2 _ ?_
    show Steps p.tables e below (T2.setTop (mkF m 9 #[.val (.ref a1)] [(.ref r1), (.ref a1)])) _
    refine st3 _ ?_
    show Steps p.tables e below (T3.setTop (mkF m 12 #[.val (.ref a1)] [])) _
    refine XS.aloadN X3.here hx rfl (hb hby d1_12) rfl rfl ?_
    show Steps p.tables e below (T3.setTop (mkF m 13 #[.val (.ref a1)] [(.ref a1)])) _
    refine XS.bipush X3.here hx rfl (hb hby d1_13) ?_
    show Steps p.tables e below (T3.setTop (mkF m 15 #[.val (.ref a1)] [(.int (8 : Int32)), (.ref a1)])) _
    refine st4 _ ?_
    show Steps p.tables e below (T4.setTop (mkF m 18 #[.val (.ref a1)] [(.ref el1), (.ref a1)])) _
    refine st5 _ ?_
    show Steps p.tables e below (T5.setTop (mkF m 21 #[.val (.ref a1)] [])) _
    refine XS.aloadN X5.here hx rfl (hb hby d1_21) rfl rfl ?_
    show Steps p.tables e below (T5.setTop (mkF m 22 #[.val (.ref a1)] [(.ref a1)])) _
    refine XS.iconst X5.here hx rfl (hb hby d1_22) ?_
    show Steps p.tables e below (T5.setTop (mkF m 23 #[.val (.ref a1)] [(.int (-1 : Int32)), (.ref a1)])) _
    refine st6 _ ?_
    show Steps p.tables e below (T6.setTop (mkF m 26 #[.val (.ref a1)] [])) _
    exact X6.returnOut hx Bd.returns (hb hby d1_26) hr
  · show Q1 Z a1 h0 n0 _ T6.heap _
    rw [e6]
    exact ⟨N6, rfl, r1, el1, sz_r1, sz_el1, K6, ⟨E1_e6, F_records_e6, F_elements_e6, F_released_e6, F_used_e6, Vr', V_e6, g_a1, g_r1, g_el1, ne_a1_r1, ne_a1_el1, ne_r1_el1⟩⟩

theorem ef_rm5 (m : MethodId) (a1 : Addr) : entryFrame m #[(.ref a1)] 2 = mkF m 0 #[.val (.ref a1), .unset] [] := by first | (simp [entryFrame, mkF, argsToLocals, Value.category]; done) | rfl
def Q5 (Z : State) (a1 : Addr) (r1 : Addr) (el1 : Addr) (u : Int32) (xs : List Int32) (h0 : Heap) (n0 : Nat) (v : Option Value) (h : Heap) (L : List Loc) : Prop := v = some (.int u) ∧ Fr n0 L ∧ Keep h0 h [a1, r1, el1] ∧ LT Z h n0 a1 r1 el1 (u + (1 : Int32)) xs
set_option maxRecDepth 65536 in
set_option maxHeartbeats 40000000 in
theorem rm5 (l : Launch) (Z : State) (a0 : Array Value) (hw : ∀ d ∈ tables_1, d.before a0 Z = true) (ws : List Jvm.Cond) (a1 : Addr) (r1 : Addr) (el1 : Addr) (u : Int32) (xs : List Int32) (h0 : Heap) (n0 : Nat) (Z0 : n0 ≤ h0.size) (W0 : LT Z h0 n0 a1 r1 el1 u xs) (hu : ¬ u = (8 : Int32)) :
    MetFree l (⟨"com/example/reticule/reticule/match/LinkTable", "take", "()I"⟩ : MethodName) (head1 (Jvm.Cond.code (⟨"com/example/reticule/reticule/match/LinkTable", "take", "()I"⟩ : MethodName) prog_64_method_17_code 2 (some .int) :: ws) ({ frames := 0, cells := 0, slots := 0, locals := 0 } : Room)) (fun a U => a = #[(.ref a1)] ∧ Z.Warmed39 U.vm ∧ U.heap = h0) (fun _ _ _ _ _ => True) (fun _ U o U' => ∃ v L, o = .returned v ∧ Q5 Z a1 r1 el1 u xs h0 n0 v U'.heap L ∧ FrameEnd U o U' L ({ frames := 0, cells := 0, slots := 0, locals := 0 } : Room).cells ({ frames := 0, cells := 0, slots := 0, locals := 0 } : Room).slots) := by
  refine MetFree.of_bodySF (plainFor_of_name pn_5) hisR ?_
  intro p e s m args below meth c s₁ Bd hml0 hP hK
  obtain ⟨rfl, hZ, hh⟩ := hP
  have hx := Bd.exec
  have hby := Bd.bytes
  have hml : c.maxLocals = 2 := hml0
  have hown : s.vm.findClass "com/example/reticule/reticule/match/LinkTable" = some m.cls := findClass_of_methodNamed Bd.named
  have hnm := (name_of_methodNamed Bd.named Bd.method).1
  have X0 : Stand p l e ({ frames := 0, cells := 0, slots := 0, locals := 0 } : Room) s m #[(.ref a1)] below meth c s₁ [] 0 0 := Stand.of_body Bd
  have e0 : s₁.heap = h0 := by rw [← hh, Bd.state]; rfl
  have N0 := Fr.nil n0
  have pre0 : ∀ t, Steps p.tables e below (s₁.setTop (mkF m 0 #[.val (.ref a1), .unset] [])) t → Steps p.tables e below (s₁.setTop (entryFrame m #[(.ref a1)] 2)) t := fun t k => castTop (ef_rm5 m a1) k
  have K0 : Keep h0 h0 [a1, r1, el1] := Keep.refl _ _

  have W1_ := W0
  obtain ⟨E1, Frec, Fel, Frel, Fused, Vr, Ve, g_a1, g_r1, g_el1, ne_a1_r1, ne_a1_el1, ne_r1_el1⟩ := W1_
  obtain ⟨T1, X1, e1, st1⟩ := getF X0 hx hZ hown (host := "") (Or.inl (hw _ (List.mem_of_getElem? (i := 16) rfl))) Via.refl e0 Frel (g := (mkF m 1 #[.val (.ref a1), .unset] [(.ref a1)])) rfl rfl (hb hby d5_1)
  obtain ⟨T2, X2, e2, st2⟩ := getF X1 hx hZ hown (host := "") (Or.inl (hw _ (List.mem_of_getElem? (i := 31) rfl))) Via.refl e1 Fused (g := (mkF m 27 #[.val (.ref a1), .val (.int (-1 : Int32))] [(.ref a1), (.ref a1)])) rfl rfl (hb hby d5_27)
  obtain ⟨T3, h3, X3, e3, W3, st3⟩ := putF X2 hx hZ hown (host := "") (Or.inl (hw _ (List.mem_of_getElem? (i := 31) rfl))) Via.refl e2 Fused E1 (Or.inl (hw _ (List.mem_of_getElem? (i := 32) rfl))) (hw _ (List.mem_of_getElem? (i := 1) rfl)) (ty := .int) (by decide) rfl rfl (g := (mkF m 33 #[.val (.ref a1), .val (.int (-1 : Int32))] [(.int (u + (1 : Int32))), (.ref a1), (.int u)])) rfl rfl (hb hby d5_33)
  have N3 := Fr.snoc X3 N0 g_a1
  have E1_e3 := E1.wr W3
  have Frec_e3 := Frec.other W3 (Or.inr (slot_ne (Or.inl (hw _ (List.mem_of_getElem? (i := 11) rfl))) (Or.inl (hw _ (List.mem_of_getElem? (i := 32) rfl))) (by decide) (t := (.array .int)) (t' := .int) (by decide) (by decide)))
  have Fel_e3 := Fel.other W3 (Or.inr (slot_ne (Or.inl (hw _ (List.mem_of_getElem? (i := 15) rfl))) (Or.inl (hw _ (List.mem_of_getElem? (i := 32) rfl))) (by decide) (t := (.array (.object "java/lang/Object"))) (t' := .int) (by decide) (by decide)))
  have Frel_e3 := Frel.other W3 (Or.inr (slot_ne (Or.inl (hw _ (List.mem_of_getElem? (i := 17) rfl))) (Or.inl (hw _ (List.mem_of_getElem? (i := 32) rfl))) (by decide) (t := .int) (t' := .int) (by decide) (by decide)))
  have Fused_e3 := Fused.same W3
  have Vr_e3 := Vr.other W3 (Ne.symm ne_a1_r1)
  have Ve_e3 := Ve.other W3 (Ne.symm ne_a1_el1)
  have Z3 : n0 ≤ h3.size := W3.size.symm ▸ Z0
  have K3 : Keep h0 h3 [a1, r1, el1] := K0.wr W3 (Or.inl (List.mem_of_getElem? (i := 0) rfl))
  obtain ⟨T4, X4, e4, st4⟩ := getF X3 hx hZ hown (host := "") (Or.inl (hw _ (List.mem_of_getElem? (i := 14) rfl))) Via.refl e3 Fel_e3 (g := (mkF m 39 #[.val (.ref a1), .val (.int u)] [(.ref a1), (.int u)])) rfl rfl (hb hby d5_39)
  obtain ⟨fs, hr, hrun, hended, hW, hsame⟩ := X4.leave (v := some (.int u)) (fun h => by rw [Bd.returns] at h; cases h)
  refine ⟨_, _, pre0 _ ?_, hrun, hended, _, _, rfl, ?_, ⟨_, rfl⟩, hW, hsame.mono (by decide) (by decide)⟩
  · show Steps p.tables e below (s₁.setTop (mkF m 0 #[.val (.ref a1), .unset] [])) _
    refine XS.aloadN X0.here hx rfl (hb hby d5_0) rfl rfl ?_
    show Steps p.tables e below (s₁.setTop (mkF m 1 #[.val (.ref a1), .unset] [(.ref a1)])) _
    refine st1 _ ?_
    show Steps p.tables e below (T1.setTop (mkF m 4 #[.val (.ref a1), .unset] [(.int (-1 : Int32))])) _
    refine XS.istoreN X1.here hx rfl (hb hby d5_4) rfl (l' := #[.val (.ref a1), .val (.int (-1 : Int32))]) rfl ?_
    show Steps p.tables e below (T1.setTop (mkF m 5 #[.val (.ref a1), .val (.int (-1 : Int32))] [])) _
    refine XS.iloadN X1.here hx rfl (hb hby d5_5) rfl ?_
    show Steps p.tables e below (T1.setTop (mkF m 6 #[.val (.ref a1), .val (.int (-1 : Int32))] [(.int (-1 : Int32))])) _
    refine XS.ifYes X1.here hx rfl (pc0 := 6) (pc' := 25) rfl (hb hby d5_6) rfl ((if0 _ _).trans (tlt (by decide : (-1 : Int32) < (0 : Int32))).1) (by decide) (by decide) ?_
    show Steps p.tables e below (T1.setTop (mkF m 25 #[.val (.ref a1), .val (.int (-1 : Int32))] [])) _
    refine XS.aloadN X1.here hx rfl (hb hby d5_25) rfl rfl ?_
    show Steps p.tables e below (T1.setTop (mkF m 26 #[.val (.ref a1), .val (.int (-1 : Int32))] [(.ref a1)])) _
    refine XS.dup X1.here hx rfl (hb hby d5_26) rfl rfl ?_
    show Steps p.tables e below (T1.setTop (mkF m 27 #[.val (.ref a1), .val (.int (-1 : Int32))] [(.ref a1), (.ref a1)])) _
    refine st2 _ ?_
    show Steps p.tables e below (T2.setTop (mkF m 30 #[.val (.ref a1), .val (.int (-1 : Int32))] [(.int u), (.ref a1)])) _
    refine XS.dupX1 X2.here hx rfl (hb hby d5_30) rfl rfl rfl ?_
    show Steps p.tables e below (T2.setTop (mkF m 31 #[.val (.ref a1), .val (.int (-1 : Int32))] [(.int u), (.ref a1), (.int u)])) _
    refine XS.iconst X2.here hx rfl (hb hby d5_31) ?_
    show Steps p.tables e below (T2.setTop (mkF m 32 #[.val (.ref a1), .val (.int (-1 : Int32))] [(.int (1 : Int32)), (.int u), (.ref a1), (.int u)])) _
    refine XS.iadd X2.here hx rfl (hb hby d5_32) rfl ?_
    show Steps p.tables e below (T2.setTop (mkF m 33 #[.val (.ref a1), .val (.int (-1 : Int32))] [(.int (u + (1 : Int32))), (.ref a1), (.int u)])) _
    refine st3 _ ?_
    show Steps p.tables e below (T3.setTop (mkF m 36 #[.val (.ref a1), .val (.int (-1 : Int32))] [(.int u)])) _
    refine XS.istoreN X3.here hx rfl (hb hby d5_36) rfl (l' := #[.val (.ref a1), .val (.int u)]) rfl ?_
    show Steps p.tables e below (T3.setTop (mkF m 37 #[.val (.ref a1), .val (.int u)] [])) _
    refine XS.iloadN X3.here hx rfl (hb hby d5_37) rfl ?_
    show Steps p.tables e below (T3.setTop (mkF m 38 #[.val (.ref a1), .val (.int u)] [(.int u)])) _
    refine XS.aloadN X3.here hx rfl (hb hby d5_38) rfl rfl ?_
    show Steps p.tables e below (T3.setTop (mkF m 39 #[.val (.ref a1), .val (.int u)] [(.ref a1), (.int u)])) _
    refine st4 _ ?_
    show Steps p.tables e below (T4.setTop (mkF m 42 #[.val (.ref a1), .val (.int u)] [(.ref el1), (.int u)])) _
    refine own_len X4 hx hZ e4 Ve_e3 (z := (8 : Int32)) rfl (g := (mkF m 42 #[.val (.ref a1), .val (.int u)] [(.ref el1), (.int u)])) rfl rfl (hb hby d5_42) _ ?_
    show Steps p.tables e below (T4.setTop (mkF m 43 #[.val (.ref a1), .val (.int u)] [(.int (8 : Int32)), (.int u)])) _
    refine XS.icmpYes X4.here hx rfl (pc0 := 43) (pc' := 77) rfl (hb hby d5_43) rfl (feq (hu : ¬ (u = (8 : Int32)))).2 (by decide) (by decide) ?_
    show Steps p.tables e below (T4.setTop (mkF m 77 #[.val (.ref a1), .val (.int u)] [])) _
    refine XS.iloadN X4.here hx rfl (hb hby d5_77) rfl ?_
    show Steps p.tables e below (T4.setTop (mkF m 78 #[.val (.ref a1), .val (.int u)] [(.int u)])) _
    exact retI X4 hx Bd.returns (hb hby d5_78) hr
  · show Q5 Z a1 r1 el1 u xs h0 n0 _ T4.heap _
    rw [e4]
    exact ⟨rfl, N3, K3, ⟨E1_e3, Frec_e3, Fel_e3, Frel_e3, Fused_e3, Vr_e3, Ve_e3, g_a1, g_r1, g_el1, ne_a1_r1, ne_a1_el1, ne_r1_el1⟩⟩

theorem ef_rm6 (m : MethodId) (a1 : Addr) (p1 : Int32) (p2 : Int32) (p3 : Int32) : entryFrame m #[(.ref a1), (.int p1), (.int p2), (.int p3)] 7 = mkF m 0 #[.val (.ref a1), .val (.int p1), .val (.int p2), .val (.int p3), .unset, .unset, .unset] [] := by first | (simp [entryFrame, mkF, argsToLocals, Value.category]; done) | rfl
def Q6 (Z : State) (a1 : Addr) (r1 : Addr) (el1 : Addr) (u : Int32) (ys : List Int32) (h0 : Heap) (n0 : Nat) (v : Option Value) (h : Heap) (L : List Loc) : Prop := v = none ∧ Fr n0 L ∧ Keep h0 h [a1, r1, el1] ∧ LT Z h n0 a1 r1 el1 u ys
set_option maxRecDepth 65536 in
set_option maxHeartbeats 40000000 in
theorem rm6 (l : Launch) (Z : State) (a0 : Array Value) (hw : ∀ d ∈ tables_1, d.before a0 Z = true) (ws : List Jvm.Cond) (a1 : Addr) (r1 : Addr) (el1 : Addr) (u : Int32) (xs : List Int32) (p1 : Int32) (p2 : Int32) (p3 : Int32) (ys : List Int32) (h0 : Heap) (n0 : Nat) (Z0 : n0 ≤ h0.size) (W0 : LT Z h0 n0 a1 r1 el1 u xs) (hp : p2 < (0 : Int32)) (hF : own_lfF xs p1 p3 = some ys) :
    MetFree l (⟨"com/example/reticule/reticule/match/LinkTable", "linkFirst", "(III)V"⟩ : MethodName) (head1 (Jvm.Cond.code (⟨"com/example/reticule/reticule/match/LinkTable", "linkFirst", "(III)V"⟩ : MethodName) prog_64_method_16_code 7 none :: ws) ({ frames := 0, cells := 0, slots := 0, locals := 0 } : Room)) (fun a U => a = #[(.ref a1), (.int p1), (.int p2), (.int p3)] ∧ Z.Warmed39 U.vm ∧ U.heap = h0) (fun _ _ _ _ _ => True) (fun _ U o U' => ∃ v L, o = .returned v ∧ Q6 Z a1 r1 el1 u ys h0 n0 v U'.heap L ∧ FrameEnd U o U' L ({ frames := 0, cells := 0, slots := 0, locals := 0 } : Room).cells ({ frames := 0, cells := 0, slots := 0, locals := 0 } : Room).slots) := by
  refine MetFree.of_bodySF (plainFor_of_name pn_6) hisR ?_
  intro p e s m args below meth c s₁ Bd hml0 hP hK
  obtain ⟨rfl, hZ, hh⟩ := hP
  have hx := Bd.exec
  have hby := Bd.bytes
  have hml : c.maxLocals = 7 := hml0
  have hown : s.vm.findClass "com/example/reticule/reticule/match/LinkTable" = some m.cls := findClass_of_methodNamed Bd.named
  have hnm := (name_of_methodNamed Bd.named Bd.method).1
  have X0 : Stand p l e ({ frames := 0, cells := 0, slots := 0, locals := 0 } : Room) s m #[(.ref a1), (.int p1), (.int p2), (.int p3)] below meth c s₁ [] 0 0 := Stand.of_body Bd
  have e0 : s₁.heap = h0 := by rw [← hh, Bd.state]; rfl
  have N0 := Fr.nil n0
  have pre0 : ∀ t, Steps p.tables e below (s₁.setTop (mkF m 0 #[.val (.ref a1), .val (.int p1), .val (.int p2), .val (.int p3), .unset, .unset, .unset] [])) t → Steps p.tables e below (s₁.setTop (entryFrame m #[(.ref a1), (.int p1), (.int p2), (.int p3)] 7)) t := fun t k => castTop (ef_rm6 m a1 p1 p2 p3) k
  have K0 : Keep h0 h0 [a1, r1, el1] := Keep.refl _ _

  have W1_ := W0
  obtain ⟨E1, Frec, Fel, Frel, Fused, Vr, Ve, g_a1, g_r1, g_el1, ne_a1_r1, ne_a1_el1, ne_r1_el1⟩ := W1_
  obtain ⟨x1, f1, f2⟩ := Option.bind_eq_some_iff.mp hF
  obtain ⟨T1, X1, e1, st1⟩ := getF X0 hx hZ hown (host := "") (Or.inl (hw _ (List.mem_of_getElem? (i := 10) rfl))) Via.refl e0 Frec (g := (mkF m 1 #[.val (.ref a1), .val (.int p1), .val (.int p2), .val (.int p3), .unset, .unset, .unset] [(.ref a1)])) rfl rfl (hb hby d6_1)
  obtain ⟨T2, h2, L2, X2, N2, e2, W2, Vr1_2, st2⟩ := own_stI X1 hx hZ e1 Vr N0 g_r1 (own_wrv f1).1 (own_wrv f1).2.1 (g := (mkF m 23 #[.val (.ref a1), .val (.int p1), .val (.int p2), .val (.int p3), .val (.ref r1), .val (.int ((p3 * (8 : Int32)) + p1)), .unset] [(.int p3), (.int ((p3 * (8 : Int32)) + p1)), (.ref r1)])) rfl rfl (hb hby d6_23)
  have E1_e2 := E1.wr W2
  have Frec_e2 := Frec.other W2 (Or.inl ne_a1_r1)
  have Fel_e2 := Fel.other W2 (Or.inl ne_a1_r1)
  have Frel_e2 := Frel.other W2 (Or.inl ne_a1_r1)
  have Fused_e2 := Fused.other W2 (Or.inl ne_a1_r1)
  have Ve_e2 := Ve.other W2 (Ne.symm ne_r1_el1)
  have Z2 : n0 ≤ h2.size := W2.size.symm ▸ Z0
  have K2 : Keep h0 h2 [a1, r1, el1] := K0.wr W2 (Or.inl (List.mem_of_getElem? (i := 1) rfl))
  have Vr1_2' : AL Z h2 r1 .int (x1.map Value.int) := (own_wrv f1).2.2 ▸ Vr1_2
  obtain ⟨T3, h3, L3, X3, N3, e3, W3, Vr1_3, st3⟩ := own_stI X2 hx hZ e2 Vr1_2' N2 g_r1 (own_wrv f2).1 (own_wrv f2).2.1 (g := (mkF m 31 #[.val (.ref a1), .val (.int p1), .val (.int p2), .val (.int p3), .val (.ref r1), .val (.int ((p3 * (8 : Int32)) + p1)), .unset] [(.int p3), (.int (((p3 * (8 : Int32)) + p1) + (1 : Int32))), (.ref r1)])) rfl rfl (hb hby d6_31)
  have E1_e3 := E1_e2.wr W3
  have Frec_e3 := Frec_e2.other W3 (Or.inl ne_a1_r1)
  have Fel_e3 := Fel_e2.other W3 (Or.inl ne_a1_r1)
  have Frel_e3 := Frel_e2.other W3 (Or.inl ne_a1_r1)
  have Fused_e3 := Fused_e2.other W3 (Or.inl ne_a1_r1)
  have Ve_e3 := Ve_e2.other W3 (Ne.symm ne_r1_el1)
  have Z3 : n0 ≤ h3.size := W3.size.symm ▸ Z2
  have K3 : Keep h0 h3 [a1, r1, el1] := K2.wr W3 (Or.inl (List.mem_of_getElem? (i := 1) rfl))
  have Vr1_3' : AL Z h3 r1 .int (ys.map Value.int) := (own_wrv f2).2.2 ▸ Vr1_3
  obtain ⟨fs, hr, hrun, hended, hW, hsame⟩ := X3.leave (v := none) (fun _ => rfl)
  refine ⟨_, _, pre0 _ ?_, hrun, hended, _, _, rfl, ?_, ⟨_, rfl⟩, hW, hsame.mono (by decide) (by decide)⟩
  · show Steps p.tables e below (s₁.setTop (mkF m 0 #[.val (.ref a1), .val (.int p1), .val (.int p2), .val (.int p3), .unset, .unset, .unset] [])) _
    refine XS.aloadN X0.here hx rfl (hb hby d6_0) rfl rfl ?_
    show Steps p.tables e below (s₁.setTop (mkF m 1 #[.val (.ref a1), .val (.int p1), .val (.int p2), .val (.int p3), .unset, .unset, .unset] [(.ref a1)])) _
    refine st1 _ ?_
    show Steps p.tables e below (T1.setTop (mkF m 4 #[.val (.ref a1), .val (.int p1), .val (.int p2), .val (.int p3), .unset, .unset, .unset] [(.ref r1)])) _
    refine XS.astore X1.here hx rfl (hb hby d6_4) rfl rfl (l' := #[.val (.ref a1), .val (.int p1), .val (.int p2), .val (.int p3), .val (.ref r1), .unset, .unset]) rfl ?_
    show Steps p.tables e below (T1.setTop (mkF m 6 #[.val (.ref a1), .val (.int p1), .val (.int p2), .val (.int p3), .val (.ref r1), .unset, .unset] [])) _
    refine XS.iloadN X1.here hx rfl (hb hby d6_6) rfl ?_
    show Steps p.tables e below (T1.setTop (mkF m 7 #[.val (.ref a1), .val (.int p1), .val (.int p2), .val (.int p3), .val (.ref r1), .unset, .unset] [(.int p3)])) _
    refine XS.bipush X1.here hx rfl (hb hby d6_7) ?_
    show Steps p.tables e below (T1.setTop (mkF m 9 #[.val (.ref a1), .val (.int p1), .val (.int p2), .val (.int p3), .val (.ref r1), .unset, .unset] [(.int (8 : Int32)), (.int p3)])) _
    refine XS.imul X1.here hx rfl (hb hby d6_9) rfl ?_
    show Steps p.tables e below (T1.setTop (mkF m 10 #[.val (.ref a1), .val (.int p1), .val (.int p2), .val (.int p3), .val (.ref r1), .unset, .unset] [(.int (p3 * (8 : Int32)))])) _
    refine XS.iloadN X1.here hx rfl (hb hby d6_10) rfl ?_
    show Steps p.tables e below (T1.setTop (mkF m 11 #[.val (.ref a1), .val (.int p1), .val (.int p2), .val (.int p3), .val (.ref r1), .unset, .unset] [(.int p1), (.int (p3 * (8 : Int32)))])) _
    refine XS.iadd X1.here hx rfl (hb hby d6_11) rfl ?_
    show Steps p.tables e below (T1.setTop (mkF m 12 #[.val (.ref a1), .val (.int p1), .val (.int p2), .val (.int p3), .val (.ref r1), .unset, .unset] [(.int ((p3 * (8 : Int32)) + p1))])) _
    refine XS.istore X1.here hx rfl (hb hby d6_12) rfl (l' := #[.val (.ref a1), .val (.int p1), .val (.int p2), .val (.int p3), .val (.ref r1), .val (.int ((p3 * (8 : Int32)) + p1)), .unset]) rfl ?_
    show Steps p.tables e below (T1.setTop (mkF m 14 #[.val (.ref a1), .val (.int p1), .val (.int p2), .val (.int p3), .val (.ref r1), .val (.int ((p3 * (8 : Int32)) + p1)), .unset] [])) _
    refine XS.iloadN X1.here hx rfl (hb hby d6_14) rfl ?_
    show Steps p.tables e below (T1.setTop (mkF m 15 #[.val (.ref a1), .val (.int p1), .val (.int p2), .val (.int p3), .val (.ref r1), .val (.int ((p3 * (8 : Int32)) + p1)), .unset] [(.int p2)])) _
    refine XS.ifNo X1.here hx rfl (hb hby d6_15) rfl ((if0 _ _).trans (tlt (hp : p2 < (0 : Int32))).2.1) ?_
    show Steps p.tables e below (T1.setTop (mkF m 18 #[.val (.ref a1), .val (.int p1), .val (.int p2), .val (.int p3), .val (.ref r1), .val (.int ((p3 * (8 : Int32)) + p1)), .unset] [])) _
    refine XS.aload X1.here hx rfl (hb hby d6_18) rfl rfl ?_
    show Steps p.tables e below (T1.setTop (mkF m 20 #[.val (.ref a1), .val (.int p1), .val (.int p2), .val (.int p3), .val (.ref r1), .val (.int ((p3 * (8 : Int32)) + p1)), .unset] [(.ref r1)])) _
    refine XS.iload X1.here hx rfl (hb hby d6_20) rfl ?_
    show Steps p.tables e below (T1.setTop (mkF m 22 #[.val (.ref a1), .val (.int p1), .val (.int p2), .val (.int p3), .val (.ref r1), .val (.int ((p3 * (8 : Int32)) + p1)), .unset] [(.int ((p3 * (8 : Int32)) + p1)), (.ref r1)])) _
    refine XS.iloadN X1.here hx rfl (hb hby d6_22) rfl ?_
    show Steps p.tables e below (T1.setTop (mkF m 23 #[.val (.ref a1), .val (.int p1), .val (.int p2), .val (.int p3), .val (.ref r1), .val (.int ((p3 * (8 : Int32)) + p1)), .unset] [(.int p3), (.int ((p3 * (8 : Int32)) + p1)), (.ref r1)])) _
    refine st2 _ ?_
    show Steps p.tables e below (T2.setTop (mkF m 24 #[.val (.ref a1), .val (.int p1), .val (.int p2), .val (.int p3), .val (.ref r1), .val (.int ((p3 * (8 : Int32)) + p1)), .unset] [])) _
    refine XS.aload X2.here hx rfl (hb hby d6_24) rfl rfl ?_
    show Steps p.tables e below (T2.setTop (mkF m 26 #[.val (.ref a1), .val (.int p1), .val (.int p2), .val (.int p3), .val (.ref r1), .val (.int ((p3 * (8 : Int32)) + p1)), .unset] [(.ref r1)])) _
    refine XS.iload X2.here hx rfl (hb hby d6_26) rfl ?_
    show Steps p.tables e below (T2.setTop (mkF m 28 #[.val (.ref a1), .val (.int p1), .val (.int p2), .val (.int p3), .val (.ref r1), .val (.int ((p3 * (8 : Int32)) + p1)), .unset] [(.int ((p3 * (8 : Int32)) + p1)), (.ref r1)])) _
    refine XS.iconst X2.here hx rfl (hb hby d6_28) ?_
    show Steps p.tables e below (T2.setTop (mkF m 29 #[.val (.ref a1), .val (.int p1), .val (.int p2), .val (.int p3), .val (.ref r1), .val (.int ((p3 * (8 : Int32)) + p1)), .unset] [(.int (1 : Int32)), (.int ((p3 * (8 : Int32)) + p1)), (.ref r1)])) _
    refine XS.iadd X2.here hx rfl (hb hby d6_29) rfl ?_
    show Steps p.tables e below (T2.setTop (mkF m 30 #[.val (.ref a1), .val (.int p1), .val (.int p2), .val (.int p3), .val (.ref r1), .val (.int ((p3 * (8 : Int32)) + p1)), .unset] [(.int (((p3 * (8 : Int32)) + p1) + (1 : Int32))), (.ref r1)])) _
    refine XS.iloadN X2.here hx rfl (hb hby d6_30) rfl ?_
    show Steps p.tables e below (T2.setTop (mkF m 31 #[.val (.ref a1), .val (.int p1), .val (.int p2), .val (.int p3), .val (.ref r1), .val (.int ((p3 * (8 : Int32)) + p1)), .unset] [(.int p3), (.int (((p3 * (8 : Int32)) + p1) + (1 : Int32))), (.ref r1)])) _
    refine st3 _ ?_
    show Steps p.tables e below (T3.setTop (mkF m 32 #[.val (.ref a1), .val (.int p1), .val (.int p2), .val (.int p3), .val (.ref r1), .val (.int ((p3 * (8 : Int32)) + p1)), .unset] [])) _
    refine XS.goto X3.here hx rfl (pc0 := 32) (pc' := 86) rfl (hb hby d6_32) (by decide) (by decide) ?_
    show Steps p.tables e below (T3.setTop (mkF m 86 #[.val (.ref a1), .val (.int p1), .val (.int p2), .val (.int p3), .val (.ref r1), .val (.int ((p3 * (8 : Int32)) + p1)), .unset] [])) _
    exact X3.returnOut hx Bd.returns (hb hby d6_86) hr
  · show Q6 Z a1 r1 el1 u ys h0 n0 _ T3.heap _
    rw [e3]
    exact ⟨rfl, N3, K3, ⟨E1_e3, Frec_e3, Fel_e3, Frel_e3, Fused_e3, Vr1_3', Ve_e3, g_a1, g_r1, g_el1, ne_a1_r1, ne_a1_el1, ne_r1_el1⟩⟩

theorem ef_rm4 (m : MethodId) (a1 : Addr) (p2 : Int32) (p3 : Int32) : entryFrame m #[(.ref a1), .null, (.int p2), (.int p3)] 5 = mkF m 0 #[.val (.ref a1), .val .null, .val (.int p2), .val (.int p3), .unset] [] := by first | (simp [entryFrame, mkF, argsToLocals, Value.category]; done) | rfl
def Q4 (Z : State) (a1 : Addr) (r1 : Addr) (el1 : Addr) (u : Int32) (ys : List Int32) (h0 : Heap) (n0 : Nat) (v : Option Value) (h : Heap) (L : List Loc) : Prop := v = some (.int u) ∧ Fr n0 L ∧ Keep h0 h [a1, r1, el1] ∧ LT Z h n0 a1 r1 el1 (u + (1 : Int32)) ys
set_option maxRecDepth 65536 in
set_option maxHeartbeats 40000000 in
theorem rm4 (l : Launch) (Z : State) (a0 : Array Value) (hw : ∀ d ∈ tables_1, d.before a0 Z = true) (ws : List Jvm.Cond) (a1 : Addr) (r1 : Addr) (el1 : Addr) (u : Int32) (xs : List Int32) (p2 : Int32) (p3 : Int32) (ys : List Int32) (h0 : Heap) (n0 : Nat) (Z0 : n0 ≤ h0.size) (W0 : LT Z h0 n0 a1 r1 el1 u xs) (hp2 : p2 < (0 : Int32)) (hp3 : p3 < (0 : Int32)) (hu : ¬ u = (8 : Int32)) (hu0 : ¬ u < 0) (hu8 : u.toNatClampNeg < 8) (hF : own_addF xs u = some ys) :
    MetFree l (⟨"com/example/reticule/reticule/match/LinkTable", "add", "(Ljava/lang/Object;II)I"⟩ : MethodName) (head1 (Jvm.Cond.code (⟨"com/example/reticule/reticule/match/LinkTable", "add", "(Ljava/lang/Object;II)I"⟩ : MethodName) prog_64_method_2_code 5 (some .int) :: ws) ({ frames := 1, cells := 0, slots := 0, locals := 21 } : Room)) (fun a U => a = #[(.ref a1), .null, (.int p2), (.int p3)] ∧ Z.Warmed39 U.vm ∧ U.heap = h0) (fun _ _ _ _ _ => True) (fun _ U o U' => ∃ v L, o = .returned v ∧ Q4 Z a1 r1 el1 u ys h0 n0 v U'.heap L ∧ FrameEnd U o U' L ({ frames := 1, cells := 0, slots := 0, locals := 21 } : Room).cells ({ frames := 1, cells := 0, slots := 0, locals := 21 } : Room).slots) := by
  refine MetFree.of_bodySF (plainFor_of_name pn_4) hisR ?_
  intro p e s m args below meth c s₁ Bd hml0 hP hK
  obtain ⟨rfl, hZ, hh⟩ := hP
  have hx := Bd.exec
  have hby := Bd.bytes
  have hml : c.maxLocals = 5 := hml0
  have hown : s.vm.findClass "com/example/reticule/reticule/match/LinkTable" = some m.cls := findClass_of_methodNamed Bd.named
  have hnm := (name_of_methodNamed Bd.named Bd.method).1
  have X0 : Stand p l e ({ frames := 1, cells := 0, slots := 0, locals := 21 } : Room) s m #[(.ref a1), .null, (.int p2), (.int p3)] below meth c s₁ [] 0 0 := Stand.of_body Bd
  have e0 : s₁.heap = h0 := by rw [← hh, Bd.state]; rfl
  have N0 := Fr.nil n0
  have pre0 : ∀ t, Steps p.tables e below (s₁.setTop (mkF m 0 #[.val (.ref a1), .val .null, .val (.int p2), .val (.int p3), .unset] [])) t → Steps p.tables e below (s₁.setTop (entryFrame m #[(.ref a1), .null, (.int p2), (.int p3)] 5)) t := fun t k => castTop (ef_rm4 m a1 p2 p3) k
  have K0 : Keep h0 h0 [a1, r1, el1] := Keep.refl _ _

  have W1_ := W0
  obtain ⟨E1, Frec, Fel, Frel, Fused, Vr, Ve, g_a1, g_r1, g_el1, ne_a1_r1, ne_a1_el1, ne_r1_el1⟩ := W1_
  obtain ⟨x1, f1, hF1⟩ := Option.bind_eq_some_iff.mp hF
  obtain ⟨x2, f2, f3⟩ := Option.bind_eq_some_iff.mp hF1
  obtain ⟨cq1, q1, q1'⟩ := E1.cell
  obtain ⟨_, _, ⟨T1, L1, k1, n1⟩, -, X1, ⟨Lc1, hQ1, l1, y1, z1⟩, st1⟩ := X0.privateBack hx (y := (⟨"com/example/reticule/reticule/match/LinkTable", "take", "()I"⟩ : MethodName)) hown (mvT hZ (hw _ (List.mem_of_getElem? (i := 27) rfl))) (mvT hZ (hw _ (List.mem_of_getElem? (i := 28) rfl))) (own_selp (mvT hZ (hw _ (List.mem_of_getElem? (i := 25) rfl)) (args := #[])) (Cond.privateMethod_at (mvP hZ (hw _ (List.mem_of_getElem? (i := 29) rfl)) (args := #[]))) (mvT hZ (hw _ (List.mem_of_getElem? (i := 28) rfl))) (by decide)) (Cond.privateMethod_at (mvP hZ (hw _ (List.mem_of_getElem? (i := 29) rfl)) (args := #[]))) (mvT hZ (hw _ (List.mem_of_getElem? (i := 30) rfl))) (by decide) (backOf (W := 0) (rm5 l Z a0 hw [] a1 r1 el1 u xs h0 n0 Z0 ⟨E1, Frec, Fel, Frel, Fused, Vr, Ve, g_a1, g_r1, g_el1, ne_a1_r1, ne_a1_el1, ne_r1_el1⟩ hu) hZ (hw _ (List.mem_of_getElem? (i := 30) rfl)) (hw _ (List.mem_of_getElem? (i := 2) rfl)) (by decide) (by decide)) (g := (mkF m 1 #[.val (.ref a1), .val .null, .val (.int p2), .val (.int p3), .unset] [(.ref a1)])) rfl (by rw [hml]; rfl) (Steps.refl _) (a := a1) (by rw [e0]; exact q1) q1' (argsL := []) (rest := []) (lenOf pd_5 rfl) rfl (by show 2 * 0 + _ ≤ _; exact Nat.le_of_eq rfl) (hb hby d4_1) (fun _ _ => ⟨rfl, e0, (by decide : 0 + 0 ≤ _), (by decide : 0 + 0 ≤ _)⟩)
  dsimp only [Pt.U, Pt.locs, Pt.cells, Pt.slots] at X1 l1 y1 z1 st1 hQ1
  subst l1 y1 z1
  obtain ⟨rfl, N1q, Kc1, W1⟩ := hQ1
  have N1 := Fr.app N0 N1q
  obtain ⟨wE1, wR1, wL1, wD1, wU1, wV1, wW1, -⟩ := W1
  have Z1 : n0 ≤ T1.heap.size := Nat.le_trans Z0 Kc1.1
  have K1' : Keep h0 T1.heap [a1, r1, el1] := K0.trans Kc1 (allS (Or.inl (List.mem_of_getElem? (i := 0) rfl)) (allS (Or.inl (List.mem_of_getElem? (i := 1) rfl)) (allS (Or.inl (List.mem_of_getElem? (i := 2) rfl)) all0)))
  obtain ⟨T2, X2, e2, st2⟩ := getF X1 hx hZ hown (host := "") (Or.inl (hw _ (List.mem_of_getElem? (i := 14) rfl))) Via.refl rfl wL1 (g := (mkF m 7 #[.val (.ref a1), .val .null, .val (.int p2), .val (.int p3), .val (.int u)] [(.ref a1)])) rfl rfl (hb hby d4_7)
  obtain ⟨T3, h3, L3, X3, N3, e3, W3, Vel1_3, st3⟩ := own_stR X2 hx hZ e2 wW1 N1 g_el1 rfl hu0 (by simpa using hu8) (g := (mkF m 13 #[.val (.ref a1), .val .null, .val (.int p2), .val (.int p3), .val (.int u)] [.null, (.int u), (.ref el1)])) rfl rfl (hb hby d4_13)
  have wE1_e3 := wE1.wr W3
  have wR1_e3 := wR1.other W3 (Or.inl ne_a1_el1)
  have wL1_e3 := wL1.other W3 (Or.inl ne_a1_el1)
  have wD1_e3 := wD1.other W3 (Or.inl ne_a1_el1)
  have wU1_e3 := wU1.other W3 (Or.inl ne_a1_el1)
  have wV1_e3 := wV1.other W3 ne_r1_el1
  have Z3 : n0 ≤ h3.size := W3.size.symm ▸ Z1
  have K3 : Keep h0 h3 [a1, r1, el1] := K1'.wr W3 (Or.inl (List.mem_of_getElem? (i := 2) rfl))
  have Vel1_3' : AL Z h3 el1 (.object "java/lang/Object") (List.replicate 8 .null) := own_setrep _ ▸ Vel1_3
  obtain ⟨cq4, q4, q4'⟩ := wE1_e3.cell
  obtain ⟨_, _, ⟨T4, L4, k4, n4⟩, -, X4, ⟨Lc4, hQ4, l4, y4, z4⟩, st4⟩ := X3.privateBack hx (y := (⟨"com/example/reticule/reticule/match/LinkTable", "linkFirst", "(III)V"⟩ : MethodName)) hown (mvT hZ (hw _ (List.mem_of_getElem? (i := 33) rfl))) (mvT hZ (hw _ (List.mem_of_getElem? (i := 34) rfl))) (own_selp (mvT hZ (hw _ (List.mem_of_getElem? (i := 25) rfl)) (args := #[])) (Cond.privateMethod_at (mvP hZ (hw _ (List.mem_of_getElem? (i := 35) rfl)) (args := #[]))) (mvT hZ (hw _ (List.mem_of_getElem? (i := 34) rfl))) (by decide)) (Cond.privateMethod_at (mvP hZ (hw _ (List.mem_of_getElem? (i := 35) rfl)) (args := #[]))) (mvT hZ (hw _ (List.mem_of_getElem? (i := 36) rfl))) (by decide) (backOf (W := 0) (rm6 l Z a0 hw [] a1 r1 el1 (u + (1 : Int32)) xs (0 : Int32) p2 u x1 h3 n0 Z3 ⟨wE1_e3, wR1_e3, wL1_e3, wD1_e3, wU1_e3, wV1_e3, Vel1_3', g_a1, g_r1, g_el1, ne_a1_r1, ne_a1_el1, ne_r1_el1⟩ hp2 f1) hZ (hw _ (List.mem_of_getElem? (i := 36) rfl)) (hw _ (List.mem_of_getElem? (i := 2) rfl)) (by decide) (by decide)) (g := (mkF m 19 #[.val (.ref a1), .val .null, .val (.int p2), .val (.int p3), .val (.int u)] [(.int u), (.int p2), (.int (0 : Int32)), (.ref a1)])) rfl (by rw [hml]; rfl) (Steps.refl _) (a := a1) (by rw [e3]; exact q4) q4' (argsL := [(.int (0 : Int32)), (.int p2), (.int u)]) (rest := []) (lenOf pd_6 rfl) rfl (by show 2 * 0 + _ ≤ _; exact Nat.le_of_eq rfl) (hb hby d4_19) (fun _ _ => ⟨rfl, e3, (by decide : 0 + 0 ≤ _), (by decide : 0 + 0 ≤ _)⟩)
  dsimp only [Pt.U, Pt.locs, Pt.cells, Pt.slots] at X4 l4 y4 z4 st4 hQ4
  subst l4 y4 z4
  obtain ⟨rfl, N4q, Kc4, W4⟩ := hQ4
  have N4 := Fr.app N3 N4q
  obtain ⟨wE4, wR4, wL4, wD4, wU4, wV4, wW4, -⟩ := W4
  have Z4 : n0 ≤ T4.heap.size := Nat.le_trans Z3 Kc4.1
  have K4' : Keep h0 T4.heap [a1, r1, el1] := K3.trans Kc4 (allS (Or.inl (List.mem_of_getElem? (i := 0) rfl)) (allS (Or.inl (List.mem_of_getElem? (i := 1) rfl)) (allS (Or.inl (List.mem_of_getElem? (i := 2) rfl)) all0)))
  obtain ⟨cq5, q5, q5'⟩ := wE4.cell
  obtain ⟨_, _, ⟨T5, L5, k5, n5⟩, -, X5, ⟨Lc5, hQ5, l5, y5, z5⟩, st5⟩ := X4.privateBack hx (y := (⟨"com/example/reticule/reticule/match/LinkTable", "linkFirst", "(III)V"⟩ : MethodName)) hown (mvT hZ (hw _ (List.mem_of_getElem? (i := 33) rfl))) (mvT hZ (hw _ (List.mem_of_getElem? (i := 34) rfl))) (own_selp (mvT hZ (hw _ (List.mem_of_getElem? (i := 25) rfl)) (args := #[])) (Cond.privateMethod_at (mvP hZ (hw _ (List.mem_of_getElem? (i := 35) rfl)) (args := #[]))) (mvT hZ (hw _ (List.mem_of_getElem? (i := 34) rfl))) (by decide)) (Cond.privateMethod_at (mvP hZ (hw _ (List.mem_of_getElem? (i := 35) rfl)) (args := #[]))) (mvT hZ (hw _ (List.mem_of_getElem? (i := 36) rfl))) (by decide) (backOf (W := 0) (rm6 l Z a0 hw [] a1 r1 el1 (u + (1 : Int32)) x1 (2 : Int32) p3 u x2 T4.heap n0 Z4 ⟨wE4, wR4, wL4, wD4, wU4, wV4, wW4, g_a1, g_r1, g_el1, ne_a1_r1, ne_a1_el1, ne_r1_el1⟩ hp3 f2) hZ (hw _ (List.mem_of_getElem? (i := 36) rfl)) (hw _ (List.mem_of_getElem? (i := 2) rfl)) (by decide) (by decide)) (g := (mkF m 27 #[.val (.ref a1), .val .null, .val (.int p2), .val (.int p3), .val (.int u)] [(.int u), (.int p3), (.int (2 : Int32)), (.ref a1)])) rfl (by rw [hml]; rfl) (Steps.refl _) (a := a1) q5 q5' (argsL := [(.int (2 : Int32)), (.int p3), (.int u)]) (rest := []) (lenOf pd_6 rfl) rfl (by show 2 * 0 + _ ≤ _; exact Nat.le_of_eq rfl) (hb hby d4_27) (fun _ _ => ⟨rfl, rfl, (by decide : 0 + 0 ≤ _), (by decide : 0 + 0 ≤ _)⟩)
  dsimp only [Pt.U, Pt.locs, Pt.cells, Pt.slots] at X5 l5 y5 z5 st5 hQ5
  subst l5 y5 z5
  obtain ⟨rfl, N5q, Kc5, W5⟩ := hQ5
  have N5 := Fr.app N4 N5q
  obtain ⟨wE5, wR5, wL5, wD5, wU5, wV5, wW5, -⟩ := W5
  have Z5 : n0 ≤ T5.heap.size := Nat.le_trans Z4 Kc5.1
  have K5' : Keep h0 T5.heap [a1, r1, el1] := K4'.trans Kc5 (allS (Or.inl (List.mem_of_getElem? (i := 0) rfl)) (allS (Or.inl (List.mem_of_getElem? (i := 1) rfl)) (allS (Or.inl (List.mem_of_getElem? (i := 2) rfl)) all0)))
  obtain ⟨T6, X6, e6, st6⟩ := getF X5 hx hZ hown (host := "") (Or.inl (hw _ (List.mem_of_getElem? (i := 10) rfl))) Via.refl rfl wR5 (g := (mkF m 31 #[.val (.ref a1), .val .null, .val (.int p2), .val (.int p3), .val (.int u)] [(.ref a1)])) rfl rfl (hb hby d4_31)
  obtain ⟨T7, h7, L7, X7, N7, e7, W7, Vr1_7, st7⟩ := own_stI X6 hx hZ e6 wV5 N5 g_r1 (own_wrv f3).1 (own_wrv f3).2.1 (g := (mkF m 43 #[.val (.ref a1), .val .null, .val (.int p2), .val (.int p3), .val (.int u)] [(.int (-1 : Int32)), (.int ((u * (8 : Int32)) + (6 : Int32))), (.ref r1)])) rfl rfl (hb hby d4_43)
  have wE5_e7 := wE5.wr W7
  have wR5_e7 := wR5.other W7 (Or.inl ne_a1_r1)
  have wL5_e7 := wL5.other W7 (Or.inl ne_a1_r1)
  have wD5_e7 := wD5.other W7 (Or.inl ne_a1_r1)
  have wU5_e7 := wU5.other W7 (Or.inl ne_a1_r1)
  have wW5_e7 := wW5.other W7 (Ne.symm ne_r1_el1)
  have Z7 : n0 ≤ h7.size := W7.size.symm ▸ Z5
  have K7 : Keep h0 h7 [a1, r1, el1] := K5'.wr W7 (Or.inl (List.mem_of_getElem? (i := 1) rfl))
  have Vr1_7' : AL Z h7 r1 .int (ys.map Value.int) := (own_wrv f3).2.2 ▸ Vr1_7
  obtain ⟨fs, hr, hrun, hended, hW, hsame⟩ := X7.leave (v := some (.int u)) (fun h => by rw [Bd.returns] at h; cases h)
  refine ⟨_, _, pre0 _ ?_, hrun, hended, _, _, rfl, ?_, ⟨_, rfl⟩, hW, hsame.mono (by decide) (by decide)⟩
  · show Steps p.tables e below (s₁.setTop (mkF m 0 #[.val (.ref a1), .val .null, .val (.int p2), .val (.int p3), .unset] [])) _
    refine XS.aloadN X0.here hx rfl (hb hby d4_0) rfl rfl ?_
    show Steps p.tables e below (s₁.setTop (mkF m 1 #[.val (.ref a1), .val .null, .val (.int p2), .val (.int p3), .unset] [(.ref a1)])) _
    refine st1.trans ?_
    show Steps p.tables e below (T1.setTop (mkF m 4 #[.val (.ref a1), .val .null, .val (.int p2), .val (.int p3), .unset] [(.int u)])) _
    refine XS.istore X1.here hx rfl (hb hby d4_4) rfl (l' := #[.val (.ref a1), .val .null, .val (.int p2), .val (.int p3), .val (.int u)]) rfl ?_
    show Steps p.tables e below (T1.setTop (mkF m 6 #[.val (.ref a1), .val .null, .val (.int p2), .val (.int p3), .val (.int u)] [])) _
    refine XS.aloadN X1.here hx rfl (hb hby d4_6) rfl rfl ?_
    show Steps p.tables e below (T1.setTop (mkF m 7 #[.val (.ref a1), .val .null, .val (.int p2), .val (.int p3), .val (.int u)] [(.ref a1)])) _
    refine st2 _ ?_
    show Steps p.tables e below (T2.setTop (mkF m 10 #[.val (.ref a1), .val .null, .val (.int p2), .val (.int p3), .val (.int u)] [(.ref el1)])) _
    refine XS.iload X2.here hx rfl (hb hby d4_10) rfl ?_
    show Steps p.tables e below (T2.setTop (mkF m 12 #[.val (.ref a1), .val .null, .val (.int p2), .val (.int p3), .val (.int u)] [(.int u), (.ref el1)])) _
    refine XS.aloadN X2.here hx rfl (hb hby d4_12) rfl rfl ?_
    show Steps p.tables e below (T2.setTop (mkF m 13 #[.val (.ref a1), .val .null, .val (.int p2), .val (.int p3), .val (.int u)] [.null, (.int u), (.ref el1)])) _
    refine st3 _ ?_
    show Steps p.tables e below (T3.setTop (mkF m 14 #[.val (.ref a1), .val .null, .val (.int p2), .val (.int p3), .val (.int u)] [])) _
    refine XS.aloadN X3.here hx rfl (hb hby d4_14) rfl rfl ?_
    show Steps p.tables e below (T3.setTop (mkF m 15 #[.val (.ref a1), .val .null, .val (.int p2), .val (.int p3), .val (.int u)] [(.ref a1)])) _
    refine XS.iconst X3.here hx rfl (hb hby d4_15) ?_
    show Steps p.tables e below (T3.setTop (mkF m 16 #[.val (.ref a1), .val .null, .val (.int p2), .val (.int p3), .val (.int u)] [(.int (0 : Int32)), (.ref a1)])) _
    refine XS.iloadN X3.here hx rfl (hb hby d4_16) rfl ?_
    show Steps p.tables e below (T3.setTop (mkF m 17 #[.val (.ref a1), .val .null, .val (.int p2), .val (.int p3), .val (.int u)] [(.int p2), (.int (0 : Int32)), (.ref a1)])) _
    refine XS.iload X3.here hx rfl (hb hby d4_17) rfl ?_
    show Steps p.tables e below (T3.setTop (mkF m 19 #[.val (.ref a1), .val .null, .val (.int p2), .val (.int p3), .val (.int u)] [(.int u), (.int p2), (.int (0 : Int32)), (.ref a1)])) _
    refine st4.trans ?_
    show Steps p.tables e below (T4.setTop (mkF m 22 #[.val (.ref a1), .val .null, .val (.int p2), .val (.int p3), .val (.int u)] [])) _
    refine XS.aloadN X4.here hx rfl (hb hby d4_22) rfl rfl ?_
    show Steps p.tables e below (T4.setTop (mkF m 23 #[.val (.ref a1), .val .null, .val (.int p2), .val (.int p3), .val (.int u)] [(.ref a1)])) _
    refine XS.iconst X4.here hx rfl (hb hby d4_23) ?_
    show Steps p.tables e below (T4.setTop (mkF m 24 #[.val (.ref a1), .val .null, .val (.int p2), .val (.int p3), .val (.int u)] [(.int (2 : Int32)), (.ref a1)])) _
    refine XS.iloadN X4.here hx rfl (hb hby d4_24) rfl ?_
    show Steps p.tables e below (T4.setTop (mkF m 25 #[.val (.ref a1), .val .null, .val (.int p2), .val (.int p3), .val (.int u)] [(.int p3), (.int (2 : Int32)), (.ref a1)])) _
    refine XS.iload X4.here hx rfl (hb hby d4_25) rfl ?_
    show Steps p.tables e below (T4.setTop (mkF m 27 #[.val (.ref a1), .val .null, .val (.int p2), .val (.int p3), .val (.int u)] [(.int u), (.int p3), (.int (2 : Int32)), (.ref a1)])) _
    refine st5.trans ?_
    show Steps p.tables e below (T5.setTop (mkF m 30 #[.val (.ref a1), .val .null, .val (.int p2), .val (.int p3), .val (.int u)] [])) _
    refine XS.aloadN X5.here hx rfl (hb hby d4_30) rfl rfl ?_
    show Steps p.tables e below (T5.setTop (mkF m 31 #[.val (.ref a1), .val .null, .val (.int p2), .val (.int p3), .val (.int u)] [(.ref a1)])) _
    refine st6 _ ?_
    show Steps p.tables e below (T6.setTop (mkF m 34 #[.val (.ref a1), .val .null, .val (.int p2), .val (.int p3), .val (.int u)] [(.ref r1)])) _
    refine XS.iload X6.here hx rfl (hb hby d4_34) rfl ?_
    show Steps p.tables e below (T6.setTop (mkF m 36 #[.val (.ref a1), .val .null, .val (.int p2), .val (.int p3), .val (.int u)] [(.int u), (.ref r1)])) _
    refine XS.bipush X6.here hx rfl (hb hby d4_36) ?_
    show Steps p.tables e below (T6.setTop (mkF m 38 #[.val (.ref a1), .val .null, .val (.int p2), .val (.int p3), .val (.int u)] [(.int (8 : Int32)), (.int u), (.ref r1)])) _
    refine XS.imul X6.here hx rfl (hb hby d4_38) rfl ?_
    show Steps p.tables e below (T6.setTop (mkF m 39 #[.val (.ref a1), .val .null, .val (.int p2), .val (.int p3), .val (.int u)] [(.int (u * (8 : Int32))), (.ref r1)])) _
    refine XS.bipush X6.here hx rfl (hb hby d4_39) ?_
    show Steps p.tables e below (T6.setTop (mkF m 41 #[.val (.ref a1), .val .null, .val (.int p2), .val (.int p3), .val (.int u)] [(.int (6 : Int32)), (.int (u * (8 : Int32))), (.ref r1)])) _
    refine XS.iadd X6.here hx rfl (hb hby d4_41) rfl ?_
    show Steps p.tables e below (T6.setTop (mkF m 42 #[.val (.ref a1), .val .null, .val (.int p2), .val (.int p3), .val (.int u)] [(.int ((u * (8 : Int32)) + (6 : Int32))), (.ref r1)])) _
    refine XS.iconst X6.here hx rfl (hb hby d4_42) ?_
    show Steps p.tables e below (T6.setTop (mkF m 43 #[.val (.ref a1), .val .null, .val (.int p2), .val (.int p3), .val (.int u)] [(.int (-1 : Int32)), (.int ((u * (8 : Int32)) + (6 : Int32))), (.ref r1)])) _
    refine st7 _ ?_
    show Steps p.tables e below (T7.setTop (mkF m 44 #[.val (.ref a1), .val .null, .val (.int p2), .val (.int p3), .val (.int u)] [])) _
    refine XS.iload X7.here hx rfl (hb hby d4_44) rfl ?_
    show Steps p.tables e below (T7.setTop (mkF m 46 #[.val (.ref a1), .val .null, .val (.int p2), .val (.int p3), .val (.int u)] [(.int u)])) _
    exact retI X7 hx Bd.returns (hb hby d4_46) hr
  · show Q4 Z a1 r1 el1 u ys h0 n0 _ T7.heap _
    rw [e7]
    exact ⟨rfl, N7, K7, ⟨wE5_e7, wR5_e7, wL5_e7, wD5_e7, wU5_e7, Vr1_7', wW5_e7, g_a1, g_r1, g_el1, ne_a1_r1, ne_a1_el1, ne_r1_el1⟩⟩

theorem ef_rm3 (m : MethodId) (a1 : Addr) : entryFrame m #[(.ref a1)] 1 = mkF m 0 #[.val (.ref a1)] [] := by first | (simp [entryFrame, mkF, argsToLocals, Value.category]; done) | rfl
def Q3 (Z : State) (a1 : Addr) (r1 : Addr) (el1 : Addr) (u : Int32) (ys : List Int32) (h0 : Heap) (n0 : Nat) (v : Option Value) (h : Heap) (L : List Loc) : Prop := v = some (.int u) ∧ Fr n0 L ∧ Keep h0 h [a1, r1, el1] ∧ LT Z h n0 a1 r1 el1 (u + (1 : Int32)) ys
set_option maxRecDepth 65536 in
set_option maxHeartbeats 40000000 in
theorem rm3 (l : Launch) (Z : State) (a0 : Array Value) (hw : ∀ d ∈ tables_1, d.before a0 Z = true) (ws : List Jvm.Cond) (a1 : Addr) (r1 : Addr) (el1 : Addr) (u : Int32) (xs : List Int32) (ys : List Int32) (h0 : Heap) (n0 : Nat) (Z0 : n0 ≤ h0.size) (W0 : LT Z h0 n0 a1 r1 el1 u xs) (hu : ¬ u = (8 : Int32)) (hu0 : ¬ u < 0) (hu8 : u.toNatClampNeg < 8) (hF : own_addF xs u = some ys) :
    MetFree l (⟨"com/example/reticule/reticule/match/LinkTableLineUpPinLaw", "mk", "(Lcom/example/reticule/reticule/match/LinkTable;)I"⟩ : MethodName) (head1 (Jvm.Cond.code (⟨"com/example/reticule/reticule/match/LinkTableLineUpPinLaw", "mk", "(Lcom/example/reticule/reticule/match/LinkTable;)I"⟩ : MethodName) method_3_code 1 (some .int) :: ws) ({ frames := 2, cells := 0, slots := 0, locals := 37 } : Room)) (fun a U => a = #[(.ref a1)] ∧ Z.Warmed39 U.vm ∧ U.heap = h0) (fun _ _ _ _ _ => True) (fun _ U o U' => ∃ v L, o = .returned v ∧ Q3 Z a1 r1 el1 u ys h0 n0 v U'.heap L ∧ FrameEnd U o U' L ({ frames := 2, cells := 0, slots := 0, locals := 37 } : Room).cells ({ frames := 2, cells := 0, slots := 0, locals := 37 } : Room).slots) := by
  refine MetFree.of_bodySF (plainFor_of_name pn_3) hisR ?_
  intro p e s m args below meth c s₁ Bd hml0 hP hK
  obtain ⟨rfl, hZ, hh⟩ := hP
  have hx := Bd.exec
  have hby := Bd.bytes
  have hml : c.maxLocals = 1 := hml0
  have hown : s.vm.findClass "com/example/reticule/reticule/match/LinkTableLineUpPinLaw" = some m.cls := findClass_of_methodNamed Bd.named
  have hnm := (name_of_methodNamed Bd.named Bd.method).1
  have X0 : Stand p l e ({ frames := 2, cells := 0, slots := 0, locals := 37 } : Room) s m #[(.ref a1)] below meth c s₁ [] 0 0 := Stand.of_body Bd
  have e0 : s₁.heap = h0 := by rw [← hh, Bd.state]; rfl
  have N0 := Fr.nil n0
  have pre0 : ∀ t, Steps p.tables e below (s₁.setTop (mkF m 0 #[.val (.ref a1)] [])) t → Steps p.tables e below (s₁.setTop (entryFrame m #[(.ref a1)] 1)) t := fun t k => castTop (ef_rm3 m a1) k
  have K0 : Keep h0 h0 [a1, r1, el1] := Keep.refl _ _

  have W1_ := W0
  obtain ⟨E1, Frec, Fel, Frel, Fused, Vr, Ve, g_a1, g_r1, g_el1, ne_a1_r1, ne_a1_el1, ne_r1_el1⟩ := W1_
  obtain ⟨cq1, kq1, q1a, q1b, q1c⟩ := isOf hZ e0 E1
  obtain ⟨_, _, ⟨T1, L1, k1, n1⟩, -, X1, ⟨Lc1, hQ1, l1, y1, z1⟩, st1⟩ := X0.virtualBack hx (y := (⟨"com/example/reticule/reticule/match/LinkTable", "add", "(Ljava/lang/Object;II)I"⟩ : MethodName)) (z := (⟨"com/example/reticule/reticule/match/LinkTable", "add", "(Ljava/lang/Object;II)I"⟩ : MethodName)) hown (mvT hZ (hw _ (List.mem_of_getElem? (i := 22) rfl))) (mvT hZ (hw _ (List.mem_of_getElem? (i := 23) rfl))) (notFace_of_selects (args := #[]) (mvT hZ (hw _ (List.mem_of_getElem? (i := 25) rfl)))) (mvT hZ (hw _ (List.mem_of_getElem? (i := 25) rfl))) (mvT hZ (hw _ (List.mem_of_getElem? (i := 24) rfl))) (by decide) (backOf (W := 0) (rm4 l Z a0 hw [] a1 r1 el1 u xs (-1 : Int32) (-1 : Int32) ys h0 n0 Z0 ⟨E1, Frec, Fel, Frel, Fused, Vr, Ve, g_a1, g_r1, g_el1, ne_a1_r1, ne_a1_el1, ne_r1_el1⟩ (by decide) (by decide) hu hu0 hu8 hF) hZ (hw _ (List.mem_of_getElem? (i := 26) rfl)) (hw _ (List.mem_of_getElem? (i := 2) rfl)) (by decide) (by decide)) q1a q1c (g := (mkF m 4 #[.val (.ref a1)] [(.int (-1 : Int32)), (.int (-1 : Int32)), .null, (.ref a1)])) rfl (by rw [hml]; rfl) (Steps.refl _) (argsL := [.null, (.int (-1 : Int32)), (.int (-1 : Int32))]) (rest := []) (lenOf pd_4 rfl) rfl (by show 2 * 0 + _ ≤ _; exact Nat.le_of_eq rfl) (hb hby d3_4) (fun _ _ => ⟨rfl, e0, (by decide : 0 + 0 ≤ _), (by decide : 0 + 0 ≤ _)⟩)
  dsimp only [Pt.U, Pt.locs, Pt.cells, Pt.slots] at X1 l1 y1 z1 st1 hQ1
  subst l1 y1 z1
  obtain ⟨rfl, N1q, Kc1, W1⟩ := hQ1
  have N1 := Fr.app N0 N1q
  obtain ⟨wE1, wR1, wL1, wD1, wU1, wV1, wW1, -⟩ := W1
  have Z1 : n0 ≤ T1.heap.size := Nat.le_trans Z0 Kc1.1
  have K1' : Keep h0 T1.heap [a1, r1, el1] := K0.trans Kc1 (allS (Or.inl (List.mem_of_getElem? (i := 0) rfl)) (allS (Or.inl (List.mem_of_getElem? (i := 1) rfl)) (allS (Or.inl (List.mem_of_getElem? (i := 2) rfl)) all0)))
  obtain ⟨fs, hr, hrun, hended, hW, hsame⟩ := X1.leave (v := some (.int u)) (fun h => by rw [Bd.returns] at h; cases h)
  refine ⟨_, _, pre0 _ ?_, hrun, hended, _, _, rfl, ?_, ⟨_, rfl⟩, hW, hsame.mono (by decide) (by decide)⟩
  · show Steps p.tables e below (s₁.setTop (mkF m 0 #[.val (.ref a1)] [])) _
    refine XS.aloadN X0.here hx rfl (hb hby d3_0) rfl rfl ?_
    show Steps p.tables e below (s₁.setTop (mkF m 1 #[.val (.ref a1)] [(.ref a1)])) _
    refine XS.aconstNull X0.here hx rfl (hb hby d3_1) ?_
    show Steps p.tables e below (s₁.setTop (mkF m 2 #[.val (.ref a1)] [.null, (.ref a1)])) _
    refine XS.iconst X0.here hx rfl (hb hby d3_2) ?_
    show Steps p.tables e below (s₁.setTop (mkF m 3 #[.val (.ref a1)] [(.int (-1 : Int32)), .null, (.ref a1)])) _
    refine XS.iconst X0.here hx rfl (hb hby d3_3) ?_
    show Steps p.tables e below (s₁.setTop (mkF m 4 #[.val (.ref a1)] [(.int (-1 : Int32)), (.int (-1 : Int32)), .null, (.ref a1)])) _
    refine st1.trans ?_
    show Steps p.tables e below (T1.setTop (mkF m 7 #[.val (.ref a1)] [(.int u)])) _
    exact retI X1 hx Bd.returns (hb hby d3_7) hr
  · show Q3 Z a1 r1 el1 u ys h0 n0 _ T1.heap _
    exact ⟨rfl, N1, K1', ⟨wE1, wR1, wL1, wD1, wU1, wV1, wW1, g_a1, g_r1, g_el1, ne_a1_r1, ne_a1_el1, ne_r1_el1⟩⟩

theorem ef_rm8 (m : MethodId) (a1 : Addr) : entryFrame m #[(.ref a1), .null] 4 = mkF m 0 #[.val (.ref a1), .val .null, .unset, .unset] [] := by first | (simp [entryFrame, mkF, argsToLocals, Value.category]; done) | rfl
def Q8 (Z : State) (a1 : Addr) (r1 : Addr) (el1 : Addr) (u : Int32) (ys : List Int32) (h0 : Heap) (n0 : Nat) (v : Option Value) (h : Heap) (L : List Loc) : Prop := v = some (.int u) ∧ Fr n0 L ∧ Keep h0 h [a1, r1, el1] ∧ LT Z h n0 a1 r1 el1 (u + (1 : Int32)) ys
set_option maxRecDepth 65536 in
set_option maxHeartbeats 40000000 in
theorem rm8 (l : Launch) (Z : State) (a0 : Array Value) (hw : ∀ d ∈ tables_1, d.before a0 Z = true) (ws : List Jvm.Cond) (a1 : Addr) (r1 : Addr) (el1 : Addr) (u : Int32) (xs : List Int32) (ys : List Int32) (h0 : Heap) (n0 : Nat) (Z0 : n0 ≤ h0.size) (W0 : LT Z h0 n0 a1 r1 el1 u xs) (hu : ¬ u = (8 : Int32)) (hu0 : ¬ u < 0) (hu8 : u.toNatClampNeg < 8) (hF : own_nlF xs u = some ys) :
    MetFree l (⟨"com/example/reticule/reticule/match/LinkTable", "newList", "(Ljava/lang/Object;)I"⟩ : MethodName) (head1 (Jvm.Cond.code (⟨"com/example/reticule/reticule/match/LinkTable", "newList", "(Ljava/lang/Object;)I"⟩ : MethodName) prog_64_method_4_code 4 (some .int) :: ws) ({ frames := 1, cells := 0, slots := 0, locals := 13 } : Room)) (fun a U => a = #[(.ref a1), .null] ∧ Z.Warmed39 U.vm ∧ U.heap = h0) (fun _ _ _ _ _ => True) (fun _ U o U' => ∃ v L, o = .returned v ∧ Q8 Z a1 r1 el1 u ys h0 n0 v U'.heap L ∧ FrameEnd U o U' L ({ frames := 1, cells := 0, slots := 0, locals := 13 } : Room).cells ({ frames := 1, cells := 0, slots := 0, locals := 13 } : Room).slots) := by
  refine MetFree.of_bodySF (plainFor_of_name pn_8) hisR ?_
  intro p e s m args below meth c s₁ Bd hml0 hP hK
  obtain ⟨rfl, hZ, hh⟩ := hP
  have hx := Bd.exec
  have hby := Bd.bytes
  have hml : c.maxLocals = 4 := hml0
  have hown : s.vm.findClass "com/example/reticule/reticule/match/LinkTable" = some m.cls := findClass_of_methodNamed Bd.named
  have hnm := (name_of_methodNamed Bd.named Bd.method).1
  have X0 : Stand p l e ({ frames := 1, cells := 0, slots := 0, locals := 13 } : Room) s m #[(.ref a1), .null] below meth c s₁ [] 0 0 := Stand.of_body Bd
  have e0 : s₁.heap = h0 := by rw [← hh, Bd.state]; rfl
  have N0 := Fr.nil n0
  have pre0 : ∀ t, Steps p.tables e below (s₁.setTop (mkF m 0 #[.val (.ref a1), .val .null, .unset, .unset] [])) t → Steps p.tables e below (s₁.setTop (entryFrame m #[(.ref a1), .null] 4)) t := fun t k => castTop (ef_rm8 m a1) k
  have K0 : Keep h0 h0 [a1, r1, el1] := Keep.refl _ _

  have W1_ := W0
  obtain ⟨E1, Frec, Fel, Frel, Fused, Vr, Ve, g_a1, g_r1, g_el1, ne_a1_r1, ne_a1_el1, ne_r1_el1⟩ := W1_
  obtain ⟨x1, f1, G1⟩ := Option.bind_eq_some_iff.mp hF
  obtain ⟨x2, f2, G2⟩ := Option.bind_eq_some_iff.mp G1
  obtain ⟨x3, f3, G3⟩ := Option.bind_eq_some_iff.mp G2
  obtain ⟨x4, f4, G4⟩ := Option.bind_eq_some_iff.mp G3
  obtain ⟨x5, f5, G5⟩ := Option.bind_eq_some_iff.mp G4
  obtain ⟨x6, f6, G6⟩ := Option.bind_eq_some_iff.mp G5
  obtain ⟨cq1, q1, q1'⟩ := E1.cell
  obtain ⟨_, _, ⟨T1, L1, k1, n1⟩, -, X1, ⟨Lc1, hQ1, l1, y1, z1⟩, st1⟩ := X0.privateBack hx (y := (⟨"com/example/reticule/reticule/match/LinkTable", "take", "()I"⟩ : MethodName)) hown (mvT hZ (hw _ (List.mem_of_getElem? (i := 27) rfl))) (mvT hZ (hw _ (List.mem_of_getElem? (i := 28) rfl))) (own_selp (mvT hZ (hw _ (List.mem_of_getElem? (i := 25) rfl)) (args := #[])) (Cond.privateMethod_at (mvP hZ (hw _ (List.mem_of_getElem? (i := 29) rfl)) (args := #[]))) (mvT hZ (hw _ (List.mem_of_getElem? (i := 28) rfl))) (by decide)) (Cond.privateMethod_at (mvP hZ (hw _ (List.mem_of_getElem? (i := 29) rfl)) (args := #[]))) (mvT hZ (hw _ (List.mem_of_getElem? (i := 30) rfl))) (by decide) (backOf (W := 0) (rm5 l Z a0 hw [] a1 r1 el1 u xs h0 n0 Z0 ⟨E1, Frec, Fel, Frel, Fused, Vr, Ve, g_a1, g_r1, g_el1, ne_a1_r1, ne_a1_el1, ne_r1_el1⟩ hu) hZ (hw _ (List.mem_of_getElem? (i := 30) rfl)) (hw _ (List.mem_of_getElem? (i := 2) rfl)) (by decide) (by decide)) (g := (mkF m 1 #[.val (.ref a1), .val .null, .unset, .unset] [(.ref a1)])) rfl (by rw [hml]; rfl) (Steps.refl _) (a := a1) (by rw [e0]; exact q1) q1' (argsL := []) (rest := []) (lenOf pd_5 rfl) rfl (by show 2 * 0 + _ ≤ _; exact Nat.le_of_eq rfl) (hb hby d8_1) (fun _ _ => ⟨rfl, e0, (by decide : 0 + 0 ≤ _), (by decide : 0 + 0 ≤ _)⟩)
  dsimp only [Pt.U, Pt.locs, Pt.cells, Pt.slots] at X1 l1 y1 z1 st1 hQ1
  subst l1 y1 z1
  obtain ⟨rfl, N1q, Kc1, W1⟩ := hQ1
  have N1 := Fr.app N0 N1q
  obtain ⟨wE1, wR1, wL1, wD1, wU1, wV1, wW1, -⟩ := W1
  have Z1 : n0 ≤ T1.heap.size := Nat.le_trans Z0 Kc1.1
  have K1' : Keep h0 T1.heap [a1, r1, el1] := K0.trans Kc1 (allS (Or.inl (List.mem_of_getElem? (i := 0) rfl)) (allS (Or.inl (List.mem_of_getElem? (i := 1) rfl)) (allS (Or.inl (List.mem_of_getElem? (i := 2) rfl)) all0)))
  obtain ⟨T2, X2, e2, st2⟩ := getF X1 hx hZ hown (host := "") (Or.inl (hw _ (List.mem_of_getElem? (i := 14) rfl))) Via.refl rfl wL1 (g := (mkF m 6 #[.val (.ref a1), .val .null, .val (.int u), .unset] [(.ref a1)])) rfl rfl (hb hby d8_6)
  obtain ⟨T3, h3, L3, X3, N3, e3, W3, Vel1_3, st3⟩ := own_stR X2 hx hZ e2 wW1 N1 g_el1 rfl hu0 (by simpa using hu8) (g := (mkF m 11 #[.val (.ref a1), .val .null, .val (.int u), .unset] [.null, (.int u), (.ref el1)])) rfl rfl (hb hby d8_11)
  have wE1_e3 := wE1.wr W3
  have wR1_e3 := wR1.other W3 (Or.inl ne_a1_el1)
  have wL1_e3 := wL1.other W3 (Or.inl ne_a1_el1)
  have wD1_e3 := wD1.other W3 (Or.inl ne_a1_el1)
  have wU1_e3 := wU1.other W3 (Or.inl ne_a1_el1)
  have wV1_e3 := wV1.other W3 ne_r1_el1
  have Z3 : n0 ≤ h3.size := W3.size.symm ▸ Z1
  have K3 : Keep h0 h3 [a1, r1, el1] := K1'.wr W3 (Or.inl (List.mem_of_getElem? (i := 2) rfl))
  have Vel1_3' : AL Z h3 el1 (.object "java/lang/Object") (List.replicate 8 .null) := own_setrep _ ▸ Vel1_3
  obtain ⟨T4, X4, e4, st4⟩ := getF X3 hx hZ hown (host := "") (Or.inl (hw _ (List.mem_of_getElem? (i := 10) rfl))) Via.refl e3 wR1_e3 (g := (mkF m 20 #[.val (.ref a1), .val .null, .val (.int u), .val (.int (0 : Int32))] [(.ref a1)])) rfl rfl (hb hby d8_20)
  obtain ⟨T5, h5, L5, X5, N5, e5, W5, Vr1_5, st5⟩ := own_stI X4 hx hZ e4 wV1_e3 N3 g_r1 (own_wrv f1).1 (own_wrv f1).2.1 (g := (mkF m 30 #[.val (.ref a1), .val .null, .val (.int u), .val (.int (0 : Int32))] [(.int u), (.int ((u * (8 : Int32)) + (0 : Int32))), (.ref r1)])) rfl rfl (hb hby d8_30)
  have wE1_e5 := wE1_e3.wr W5
  have wR1_e5 := wR1_e3.other W5 (Or.inl ne_a1_r1)
  have wL1_e5 := wL1_e3.other W5 (Or.inl ne_a1_r1)
  have wD1_e5 := wD1_e3.other W5 (Or.inl ne_a1_r1)
  have wU1_e5 := wU1_e3.other W5 (Or.inl ne_a1_r1)
  have Vel1_3'_e5 := Vel1_3'.other W5 (Ne.symm ne_r1_el1)
  have Z5 : n0 ≤ h5.size := W5.size.symm ▸ Z3
  have K5 : Keep h0 h5 [a1, r1, el1] := K3.wr W5 (Or.inl (List.mem_of_getElem? (i := 1) rfl))
  have Vr1_5' : AL Z h5 r1 .int (x1.map Value.int) := (own_wrv f1).2.2 ▸ Vr1_5
  obtain ⟨T6, X6, e6, st6⟩ := getF X5 hx hZ hown (host := "") (Or.inl (hw _ (List.mem_of_getElem? (i := 10) rfl))) Via.refl e5 wR1_e5 (g := (mkF m 32 #[.val (.ref a1), .val .null, .val (.int u), .val (.int (0 : Int32))] [(.ref a1)])) rfl rfl (hb hby d8_32)
  obtain ⟨T7, h7, L7, X7, N7, e7, W7, Vr1_7, st7⟩ := own_stI X6 hx hZ e6 Vr1_5' N5 g_r1 (own_wrv f2).1 (own_wrv f2).2.1 (g := (mkF m 44 #[.val (.ref a1), .val .null, .val (.int u), .val (.int (0 : Int32))] [(.int u), (.int (((u * (8 : Int32)) + (0 : Int32)) + (1 : Int32))), (.ref r1)])) rfl rfl (hb hby d8_44)
  have wE1_e7 := wE1_e5.wr W7
  have wR1_e7 := wR1_e5.other W7 (Or.inl ne_a1_r1)
  have wL1_e7 := wL1_e5.other W7 (Or.inl ne_a1_r1)
  have wD1_e7 := wD1_e5.other W7 (Or.inl ne_a1_r1)
  have wU1_e7 := wU1_e5.other W7 (Or.inl ne_a1_r1)
  have Vel1_3'_e7 := Vel1_3'_e5.other W7 (Ne.symm ne_r1_el1)
  have Z7 : n0 ≤ h7.size := W7.size.symm ▸ Z5
  have K7 : Keep h0 h7 [a1, r1, el1] := K5.wr W7 (Or.inl (List.mem_of_getElem? (i := 1) rfl))
  have Vr1_7' : AL Z h7 r1 .int (x2.map Value.int) := (own_wrv f2).2.2 ▸ Vr1_7
  obtain ⟨T8, X8, e8, st8⟩ := getF X7 hx hZ hown (host := "") (Or.inl (hw _ (List.mem_of_getElem? (i := 10) rfl))) Via.refl e7 wR1_e7 (g := (mkF m 20 #[.val (.ref a1), .val .null, .val (.int u), .val (.int ((0 : Int32) + (2 : Int32)))] [(.ref a1)])) rfl rfl (hb hby d8_20)
  obtain ⟨T9, h9, L9, X9, N9, e9, W9, Vr1_9, st9⟩ := own_stI X8 hx hZ e8 Vr1_7' N7 g_r1 (own_wrv f3).1 (own_wrv f3).2.1 (g := (mkF m 30 #[.val (.ref a1), .val .null, .val (.int u), .val (.int ((0 : Int32) + (2 : Int32)))] [(.int u), (.int ((u * (8 : Int32)) + ((0 : Int32) + (2 : Int32)))), (.ref r1)])) rfl rfl (hb hby d8_30)
  have wE1_e9 := wE1_e7.wr W9
  have wR1_e9 := wR1_e7.other W9 (Or.inl ne_a1_r1)
  have wL1_e9 := wL1_e7.other W9 (Or.inl ne_a1_r1)
  have wD1_e9 := wD1_e7.other W9 (Or.inl ne_a1_r1)
  have wU1_e9 := wU1_e7.other W9 (Or.inl ne_a1_r1)
  have Vel1_3'_e9 := Vel1_3'_e7.other W9 (Ne.symm ne_r1_el1)
  have Z9 : n0 ≤ h9.size := W9.size.symm ▸ Z7
  have K9 : Keep h0 h9 [a1, r1, el1] := K7.wr W9 (Or.inl (List.mem_of_getElem? (i := 1) rfl))
  have Vr1_9' : AL Z h9 r1 .int (x3.map Value.int) := (own_wrv f3).2.2 ▸ Vr1_9
  obtain ⟨T10, X10, e10, st10⟩ := getF X9 hx hZ hown (host := "") (Or.inl (hw _ (List.mem_of_getElem? (i := 10) rfl))) Via.refl e9 wR1_e9 (g := (mkF m 32 #[.val (.ref a1), .val .null, .val (.int u), .val (.int ((0 : Int32) + (2 : Int32)))] [(.ref a1)])) rfl rfl (hb hby d8_32)
  obtain ⟨T11, h11, L11, X11, N11, e11, W11, Vr1_11, st11⟩ := own_stI X10 hx hZ e10 Vr1_9' N9 g_r1 (own_wrv f4).1 (own_wrv f4).2.1 (g := (mkF m 44 #[.val (.ref a1), .val .null, .val (.int u), .val (.int ((0 : Int32) + (2 : Int32)))] [(.int u), (.int (((u * (8 : Int32)) + ((0 : Int32) + (2 : Int32))) + (1 : Int32))), (.ref r1)])) rfl rfl (hb hby d8_44)
  have wE1_e11 := wE1_e9.wr W11
  have wR1_e11 := wR1_e9.other W11 (Or.inl ne_a1_r1)
  have wL1_e11 := wL1_e9.other W11 (Or.inl ne_a1_r1)
  have wD1_e11 := wD1_e9.other W11 (Or.inl ne_a1_r1)
  have wU1_e11 := wU1_e9.other W11 (Or.inl ne_a1_r1)
  have Vel1_3'_e11 := Vel1_3'_e9.other W11 (Ne.symm ne_r1_el1)
  have Z11 : n0 ≤ h11.size := W11.size.symm ▸ Z9
  have K11 : Keep h0 h11 [a1, r1, el1] := K9.wr W11 (Or.inl (List.mem_of_getElem? (i := 1) rfl))
  have Vr1_11' : AL Z h11 r1 .int (x4.map Value.int) := (own_wrv f4).2.2 ▸ Vr1_11
  obtain ⟨T12, X12, e12, st12⟩ := getF X11 hx hZ hown (host := "") (Or.inl (hw _ (List.mem_of_getElem? (i := 10) rfl))) Via.refl e11 wR1_e11 (g := (mkF m 20 #[.val (.ref a1), .val .null, .val (.int u), .val (.int (((0 : Int32) + (2 : Int32)) + (2 : Int32)))] [(.ref a1)])) rfl rfl (hb hby d8_20)
  obtain ⟨T13, h13, L13, X13, N13, e13, W13, Vr1_13, st13⟩ := own_stI X12 hx hZ e12 Vr1_11' N11 g_r1 (own_wrv f5).1 (own_wrv f5).2.1 (g := (mkF m 30 #[.val (.ref a1), .val .null, .val (.int u), .val (.int (((0 : Int32) + (2 : Int32)) + (2 : Int32)))] [(.int u), (.int ((u * (8 : Int32)) + (((0 : Int32) + (2 : Int32)) + (2 : Int32)))), (.ref r1)])) rfl rfl (hb hby d8_30)
  have wE1_e13 := wE1_e11.wr W13
  have wR1_e13 := wR1_e11.other W13 (Or.inl ne_a1_r1)
  have wL1_e13 := wL1_e11.other W13 (Or.inl ne_a1_r1)
  have wD1_e13 := wD1_e11.other W13 (Or.inl ne_a1_r1)
  have wU1_e13 := wU1_e11.other W13 (Or.inl ne_a1_r1)
  have Vel1_3'_e13 := Vel1_3'_e11.other W13 (Ne.symm ne_r1_el1)
  have Z13 : n0 ≤ h13.size := W13.size.symm ▸ Z11
  have K13 : Keep h0 h13 [a1, r1, el1] := K11.wr W13 (Or.inl (List.mem_of_getElem? (i := 1) rfl))
  have Vr1_13' : AL Z h13 r1 .int (x5.map Value.int) := (own_wrv f5).2.2 ▸ Vr1_13
  obtain ⟨T14, X14, e14, st14⟩ := getF X13 hx hZ hown (host := "") (Or.inl (hw _ (List.mem_of_getElem? (i := 10) rfl))) Via.refl e13 wR1_e13 (g := (mkF m 32 #[.val (.ref a1), .val .null, .val (.int u), .val (.int (((0 : Int32) + (2 : Int32)) + (2 : Int32)))] [(.ref a1)])) rfl rfl (hb hby d8_32)
  obtain ⟨T15, h15, L15, X15, N15, e15, W15, Vr1_15, st15⟩ := own_stI X14 hx hZ e14 Vr1_13' N13 g_r1 (own_wrv f6).1 (own_wrv f6).2.1 (g := (mkF m 44 #[.val (.ref a1), .val .null, .val (.int u), .val (.int (((0 : Int32) + (2 : Int32)) + (2 : Int32)))] [(.int u), (.int (((u * (8 : Int32)) + (((0 : Int32) + (2 : Int32)) + (2 : Int32))) + (1 : Int32))), (.ref r1)])) rfl rfl (hb hby d8_44)
  have wE1_e15 := wE1_e13.wr W15
  have wR1_e15 := wR1_e13.other W15 (Or.inl ne_a1_r1)
  have wL1_e15 := wL1_e13.other W15 (Or.inl ne_a1_r1)
  have wD1_e15 := wD1_e13.other W15 (Or.inl ne_a1_r1)
  have wU1_e15 := wU1_e13.other W15 (Or.inl ne_a1_r1)
  have Vel1_3'_e15 := Vel1_3'_e13.other W15 (Ne.symm ne_r1_el1)
  have Z15 : n0 ≤ h15.size := W15.size.symm ▸ Z13
  have K15 : Keep h0 h15 [a1, r1, el1] := K13.wr W15 (Or.inl (List.mem_of_getElem? (i := 1) rfl))
  have Vr1_15' : AL Z h15 r1 .int (x6.map Value.int) := (own_wrv f6).2.2 ▸ Vr1_15
  obtain ⟨T16, X16, e16, st16⟩ := getF X15 hx hZ hown (host := "") (Or.inl (hw _ (List.mem_of_getElem? (i := 10) rfl))) Via.refl e15 wR1_e15 (g := (mkF m 52 #[.val (.ref a1), .val .null, .val (.int u), .val (.int ((((0 : Int32) + (2 : Int32)) + (2 : Int32)) + (2 : Int32)))] [(.ref a1)])) rfl rfl (hb hby d8_52)
  obtain ⟨T17, h17, L17, X17, N17, e17, W17, Vr1_17, st17⟩ := own_stI X16 hx hZ e16 Vr1_15' N15 g_r1 (own_wrv G6).1 (own_wrv G6).2.1 (g := (mkF m 63 #[.val (.ref a1), .val .null, .val (.int u), .val (.int ((((0 : Int32) + (2 : Int32)) + (2 : Int32)) + (2 : Int32)))] [(.int (-1 : Int32)), (.int ((u * (8 : Int32)) + (6 : Int32))), (.ref r1)])) rfl rfl (hb hby d8_63)
  have wE1_e17 := wE1_e15.wr W17
  have wR1_e17 := wR1_e15.other W17 (Or.inl ne_a1_r1)
  have wL1_e17 := wL1_e15.other W17 (Or.inl ne_a1_r1)
  have wD1_e17 := wD1_e15.other W17 (Or.inl ne_a1_r1)
  have wU1_e17 := wU1_e15.other W17 (Or.inl ne_a1_r1)
  have Vel1_3'_e17 := Vel1_3'_e15.other W17 (Ne.symm ne_r1_el1)
  have Z17 : n0 ≤ h17.size := W17.size.symm ▸ Z15
  have K17 : Keep h0 h17 [a1, r1, el1] := K15.wr W17 (Or.inl (List.mem_of_getElem? (i := 1) rfl))
  have Vr1_17' : AL Z h17 r1 .int (ys.map Value.int) := (own_wrv G6).2.2 ▸ Vr1_17
  obtain ⟨fs, hr, hrun, hended, hW, hsame⟩ := X17.leave (v := some (.int u)) (fun h => by rw [Bd.returns] at h; cases h)
  refine ⟨_, _, pre0 _ ?_, hrun, hended, _, _, rfl, ?_, ⟨_, rfl⟩, hW, hsame.mono (by decide) (by decide)⟩
  · show Steps p.tables e below (s₁.setTop (mkF m 0 #[.val (.ref a1), .val .null, .unset, .unset] [])) _
    refine XS.aloadN X0.here hx rfl (hb hby d8_0) rfl rfl ?_
    show Steps p.tables e below (s₁.setTop (mkF m 1 #[.val (.ref a1), .val .null, .unset, .unset] [(.ref a1)])) _
    refine st1.trans ?_
    show Steps p.tables e below (T1.setTop (mkF m 4 #[.val (.ref a1), .val .null, .unset, .unset] [(.int u)])) _
    refine XS.istoreN X1.here hx rfl (hb hby d8_4) rfl (l' := #[.val (.ref a1), .val .null, .val (.int u), .unset]) rfl ?_
    show Steps p.tables e below (T1.setTop (mkF m 5 #[.val (.ref a1), .val .null, .val (.int u), .unset] [])) _
    refine XS.aloadN X1.here hx rfl (hb hby d8_5) rfl rfl ?_
    show Steps p.tables e below (T1.setTop (mkF m 6 #[.val (.ref a1), .val .null, .val (.int u), .unset] [(.ref a1)])) _
    refine st2 _ ?_
    show Steps p.tables e below (T2.setTop (mkF m 9 #[.val (.ref a1), .val .null, .val (.int u), .unset] [(.ref el1)])) _
    refine XS.iloadN X2.here hx rfl (hb hby d8_9) rfl ?_
    show Steps p.tables e below (T2.setTop (mkF m 10 #[.val (.ref a1), .val .null, .val (.int u), .unset] [(.int u), (.ref el1)])) _
    refine XS.aloadN X2.here hx rfl (hb hby d8_10) rfl rfl ?_
    show Steps p.tables e below (T2.setTop (mkF m 11 #[.val (.ref a1), .val .null, .val (.int u), .unset] [.null, (.int u), (.ref el1)])) _
    refine st3 _ ?_
    show Steps p.tables e below (T3.setTop (mkF m 12 #[.val (.ref a1), .val .null, .val (.int u), .unset] [])) _
    refine XS.iconst X3.here hx rfl (hb hby d8_12) ?_
    show Steps p.tables e below (T3.setTop (mkF m 13 #[.val (.ref a1), .val .null, .val (.int u), .unset] [(.int (0 : Int32))])) _
    refine XS.istoreN X3.here hx rfl (hb hby d8_13) rfl (l' := #[.val (.ref a1), .val .null, .val (.int u), .val (.int (0 : Int32))]) rfl ?_
    show Steps p.tables e below (T3.setTop (mkF m 14 #[.val (.ref a1), .val .null, .val (.int u), .val (.int (0 : Int32))] [])) _
    refine XS.iloadN X3.here hx rfl (hb hby d8_14) rfl ?_
    show Steps p.tables e below (T3.setTop (mkF m 15 #[.val (.ref a1), .val .null, .val (.int u), .val (.int (0 : Int32))] [(.int (0 : Int32))])) _
    refine XS.iconst X3.here hx rfl (hb hby d8_15) ?_
    show Steps p.tables e below (T3.setTop (mkF m 16 #[.val (.ref a1), .val .null, .val (.int u), .val (.int (0 : Int32))] [(.int (4 : Int32)), (.int (0 : Int32))])) _
    refine XS.icmpNo X3.here hx rfl (hb hby d8_16) rfl (flt (by decide : ¬ ((4 : Int32) < (0 : Int32)))).2.2.1 ?_
    show Steps p.tables e below (T3.setTop (mkF m 19 #[.val (.ref a1), .val .null, .val (.int u), .val (.int (0 : Int32))] [])) _
    refine XS.aloadN X3.here hx rfl (hb hby d8_19) rfl rfl ?_
    show Steps p.tables e below (T3.setTop (mkF m 20 #[.val (.ref a1), .val .null, .val (.int u), .val (.int (0 : Int32))] [(.ref a1)])) _
    refine st4 _ ?_
    show Steps p.tables e below (T4.setTop (mkF m 23 #[.val (.ref a1), .val .null, .val (.int u), .val (.int (0 : Int32))] [(.ref r1)])) _
    refine XS.iloadN X4.here hx rfl (hb hby d8_23) rfl ?_
    show Steps p.tables e below (T4.setTop (mkF m 24 #[.val (.ref a1), .val .null, .val (.int u), .val (.int (0 : Int32))] [(.int u), (.ref r1)])) _
    refine XS.bipush X4.here hx rfl (hb hby d8_24) ?_
    show Steps p.tables e below (T4.setTop (mkF m 26 #[.val (.ref a1), .val .null, .val (.int u), .val (.int (0 : Int32))] [(.int (8 : Int32)), (.int u), (.ref r1)])) _
    refine XS.imul X4.here hx rfl (hb hby d8_26) rfl ?_
    show Steps p.tables e below (T4.setTop (mkF m 27 #[.val (.ref a1), .val .null, .val (.int u), .val (.int (0 : Int32))] [(.int (u * (8 : Int32))), (.ref r1)])) _
    refine XS.iloadN X4.here hx rfl (hb hby d8_27) rfl ?_
    show Steps p.tables e below (T4.setTop (mkF m 28 #[.val (.ref a1), .val .null, .val (.int u), .val (.int (0 : Int32))] [(.int (0 : Int32)), (.int (u * (8 : Int32))), (.ref r1)])) _
    refine XS.iadd X4.here hx rfl (hb hby d8_28) rfl ?_
    show Steps p.tables e below (T4.setTop (mkF m 29 #[.val (.ref a1), .val .null, .val (.int u), .val (.int (0 : Int32))] [(.int ((u * (8 : Int32)) + (0 : Int32))), (.ref r1)])) _
    refine XS.iloadN X4.here hx rfl (hb hby d8_29) rfl ?_
    show Steps p.tables e below (T4.setTop (mkF m 30 #[.val (.ref a1), .val .null, .val (.int u), .val (.int (0 : Int32))] [(.int u), (.int ((u * (8 : Int32)) + (0 : Int32))), (.ref r1)])) _
    refine st5 _ ?_
    show Steps p.tables e below (T5.setTop (mkF m 31 #[.val (.ref a1), .val .null, .val (.int u), .val (.int (0 : Int32))] [])) _
    refine XS.aloadN X5.here hx rfl (hb hby d8_31) rfl rfl ?_
    show Steps p.tables e below (T5.setTop (mkF m 32 #[.val (.ref a1), .val .null, .val (.int u), .val (.int (0 : Int32))] [(.ref a1)])) _
    refine st6 _ ?_
    show Steps p.tables e below (T6.setTop (mkF m 35 #[.val (.ref a1), .val .null, .val (.int u), .val (.int (0 : Int32))] [(.ref r1)])) _
    refine XS.iloadN X6.here hx rfl (hb hby d8_35) rfl ?_
    show Steps p.tables e below (T6.setTop (mkF m 36 #[.val (.ref a1), .val .null, .val (.int u), .val (.int (0 : Int32))] [(.int u), (.ref r1)])) _
    refine XS.bipush X6.here hx rfl (hb hby d8_36) ?_
    show Steps p.tables e below (T6.setTop (mkF m 38 #[.val (.ref a1), .val .null, .val (.int u), .val (.int (0 : Int32))] [(.int (8 : Int32)), (.int u), (.ref r1)])) _
    refine XS.imul X6.here hx rfl (hb hby d8_38) rfl ?_
    show Steps p.tables e below (T6.setTop (mkF m 39 #[.val (.ref a1), .val .null, .val (.int u), .val (.int (0 : Int32))] [(.int (u * (8 : Int32))), (.ref r1)])) _
    refine XS.iloadN X6.here hx rfl (hb hby d8_39) rfl ?_
    show Steps p.tables e below (T6.setTop (mkF m 40 #[.val (.ref a1), .val .null, .val (.int u), .val (.int (0 : Int32))] [(.int (0 : Int32)), (.int (u * (8 : Int32))), (.ref r1)])) _
    refine XS.iadd X6.here hx rfl (hb hby d8_40) rfl ?_
    show Steps p.tables e below (T6.setTop (mkF m 41 #[.val (.ref a1), .val .null, .val (.int u), .val (.int (0 : Int32))] [(.int ((u * (8 : Int32)) + (0 : Int32))), (.ref r1)])) _
    refine XS.iconst X6.here hx rfl (hb hby d8_41) ?_
    show Steps p.tables e below (T6.setTop (mkF m 42 #[.val (.ref a1), .val .null, .val (.int u), .val (.int (0 : Int32))] [(.int (1 : Int32)), (.int ((u * (8 : Int32)) + (0 : Int32))), (.ref r1)])) _
    refine XS.iadd X6.here hx rfl (hb hby d8_42) rfl ?_
    show Steps p.tables e below (T6.setTop (mkF m 43 #[.val (.ref a1), .val .null, .val (.int u), .val (.int (0 : Int32))] [(.int (((u * (8 : Int32)) + (0 : Int32)) + (1 : Int32))), (.ref r1)])) _
    refine XS.iloadN X6.here hx rfl (hb hby d8_43) rfl ?_
    show Steps p.tables e below (T6.setTop (mkF m 44 #[.val (.ref a1), .val .null, .val (.int u), .val (.int (0 : Int32))] [(.int u), (.int (((u * (8 : Int32)) + (0 : Int32)) + (1 : Int32))), (.ref r1)])) _
    refine st7 _ ?_
    show Steps p.tables e below (T7.setTop (mkF m 45 #[.val (.ref a1), .val .null, .val (.int u), .val (.int (0 : Int32))] [])) _
    refine XS.iinc X7.here hx rfl (hb hby d8_45) rfl (l' := #[.val (.ref a1), .val .null, .val (.int u), .val (.int ((0 : Int32) + (2 : Int32)))]) rfl ?_
    show Steps p.tables e below (T7.setTop (mkF m 48 #[.val (.ref a1), .val .null, .val (.int u), .val (.int ((0 : Int32) + (2 : Int32)))] [])) _
    refine XS.goto X7.here hx rfl (pc0 := 48) (pc' := 14) rfl (hb hby d8_48) (by decide) (by decide) ?_
    show Steps p.tables e below (T7.setTop (mkF m 14 #[.val (.ref a1), .val .null, .val (.int u), .val (.int ((0 : Int32) + (2 : Int32)))] [])) _
    refine XS.iloadN X7.here hx rfl (hb hby d8_14) rfl ?_
    show Steps p.tables e below (T7.setTop (mkF m 15 #[.val (.ref a1), .val .null, .val (.int u), .val (.int ((0 : Int32) + (2 : Int32)))] [(.int ((0 : Int32) + (2 : Int32)))])) _
    refine XS.iconst X7.here hx rfl (hb hby d8_15) ?_
    show Steps p.tables e below (T7.setTop (mkF m 16 #[.val (.ref a1), .val .null, .val (.int u), .val (.int ((0 : Int32) + (2 : Int32)))] [(.int (4 : Int32)), (.int ((0 : Int32) + (2 : Int32)))])) _
    refine XS.icmpNo X7.here hx rfl (hb hby d8_16) rfl (flt (by decide : ¬ ((4 : Int32) < ((0 : Int32) + (2 : Int32))))).2.2.1 ?_
    show Steps p.tables e below (T7.setTop (mkF m 19 #[.val (.ref a1), .val .null, .val (.int u), .val (.int ((0 : Int32) + (2 : Int32)))] [])) _
    refine XS.aloadN X7.here hx rfl (hb hby d8_19) rfl rfl ?_
    show Steps p.tables e below (T7.setTop (mkF m 20 #[.val (.ref a1), .val .null, .val (.int u), .val (.int ((0 : Int32) + (2 : Int32)))] [(.ref a1)])) _
    refine st8 _ ?_
    show Steps p.tables e below (T8.setTop (mkF m 23 #[.val (.ref a1), .val .null, .val (.int u), .val (.int ((0 : Int32) + (2 : Int32)))] [(.ref r1)])) _
    refine XS.iloadN X8.here hx rfl (hb hby d8_23) rfl ?_
    show Steps p.tables e below (T8.setTop (mkF m 24 #[.val (.ref a1), .val .null, .val (.int u), .val (.int ((0 : Int32) + (2 : Int32)))] [(.int u), (.ref r1)])) _
    refine XS.bipush X8.here hx rfl (hb hby d8_24) ?_
    show Steps p.tables e below (T8.setTop (mkF m 26 #[.val (.ref a1), .val .null, .val (.int u), .val (.int ((0 : Int32) + (2 : Int32)))] [(.int (8 : Int32)), (.int u), (.ref r1)])) _
    refine XS.imul X8.here hx rfl (hb hby d8_26) rfl ?_
    show Steps p.tables e below (T8.setTop (mkF m 27 #[.val (.ref a1), .val .null, .val (.int u), .val (.int ((0 : Int32) + (2 : Int32)))] [(.int (u * (8 : Int32))), (.ref r1)])) _
    refine XS.iloadN X8.here hx rfl (hb hby d8_27) rfl ?_
    show Steps p.tables e below (T8.setTop (mkF m 28 #[.val (.ref a1), .val .null, .val (.int u), .val (.int ((0 : Int32) + (2 : Int32)))] [(.int ((0 : Int32) + (2 : Int32))), (.int (u * (8 : Int32))), (.ref r1)])) _
    refine XS.iadd X8.here hx rfl (hb hby d8_28) rfl ?_
    show Steps p.tables e below (T8.setTop (mkF m 29 #[.val (.ref a1), .val .null, .val (.int u), .val (.int ((0 : Int32) + (2 : Int32)))] [(.int ((u * (8 : Int32)) + ((0 : Int32) + (2 : Int32)))), (.ref r1)])) _
    refine XS.iloadN X8.here hx rfl (hb hby d8_29) rfl ?_
    show Steps p.tables e below (T8.setTop (mkF m 30 #[.val (.ref a1), .val .null, .val (.int u), .val (.int ((0 : Int32) + (2 : Int32)))] [(.int u), (.int ((u * (8 : Int32)) + ((0 : Int32) + (2 : Int32)))), (.ref r1)])) _
    refine st9 _ ?_
    show Steps p.tables e below (T9.setTop (mkF m 31 #[.val (.ref a1), .val .null, .val (.int u), .val (.int ((0 : Int32) + (2 : Int32)))] [])) _
    refine XS.aloadN X9.here hx rfl (hb hby d8_31) rfl rfl ?_
    show Steps p.tables e below (T9.setTop (mkF m 32 #[.val (.ref a1), .val .null, .val (.int u), .val (.int ((0 : Int32) + (2 : Int32)))] [(.ref a1)])) _
    refine st10 _ ?_
    show Steps p.tables e below (T10.setTop (mkF m 35 #[.val (.ref a1), .val .null, .val (.int u), .val (.int ((0 : Int32) + (2 : Int32)))] [(.ref r1)])) _
    refine XS.iloadN X10.here hx rfl (hb hby d8_35) rfl ?_
    show Steps p.tables e below (T10.setTop (mkF m 36 #[.val (.ref a1), .val .null, .val (.int u), .val (.int ((0 : Int32) + (2 : Int32)))] [(.int u), (.ref r1)])) _
    refine XS.bipush X10.here hx rfl (hb hby d8_36) ?_
    show Steps p.tables e below (T10.setTop (mkF m 38 #[.val (.ref a1), .val .null, .val (.int u), .val (.int ((0 : Int32) + (2 : Int32)))] [(.int (8 : Int32)), (.int u), (.ref r1)])) _
    refine XS.imul X10.here hx rfl (hb hby d8_38) rfl ?_
    show Steps p.tables e below (T10.setTop (mkF m 39 #[.val (.ref a1), .val .null, .val (.int u), .val (.int ((0 : Int32) + (2 : Int32)))] [(.int (u * (8 : Int32))), (.ref r1)])) _
    refine XS.iloadN X10.here hx rfl (hb hby d8_39) rfl ?_
    show Steps p.tables e below (T10.setTop (mkF m 40 #[.val (.ref a1), .val .null, .val (.int u), .val (.int ((0 : Int32) + (2 : Int32)))] [(.int ((0 : Int32) + (2 : Int32))), (.int (u * (8 : Int32))), (.ref r1)])) _
    refine XS.iadd X10.here hx rfl (hb hby d8_40) rfl ?_
    show Steps p.tables e below (T10.setTop (mkF m 41 #[.val (.ref a1), .val .null, .val (.int u), .val (.int ((0 : Int32) + (2 : Int32)))] [(.int ((u * (8 : Int32)) + ((0 : Int32) + (2 : Int32)))), (.ref r1)])) _
    refine XS.iconst X10.here hx rfl (hb hby d8_41) ?_
    show Steps p.tables e below (T10.setTop (mkF m 42 #[.val (.ref a1), .val .null, .val (.int u), .val (.int ((0 : Int32) + (2 : Int32)))] [(.int (1 : Int32)), (.int ((u * (8 : Int32)) + ((0 : Int32) + (2 : Int32)))), (.ref r1)])) _
    refine XS.iadd X10.here hx rfl (hb hby d8_42) rfl ?_
    show Steps p.tables e below (T10.setTop (mkF m 43 #[.val (.ref a1), .val .null, .val (.int u), .val (.int ((0 : Int32) + (2 : Int32)))] [(.int (((u * (8 : Int32)) + ((0 : Int32) + (2 : Int32))) + (1 : Int32))), (.ref r1)])) _
    refine XS.iloadN X10.here hx rfl (hb hby d8_43) rfl ?_
    show Steps p.tables e below (T10.setTop (mkF m 44 #[.val (.ref a1), .val .null, .val (.int u), .val (.int ((0 : Int32) + (2 : Int32)))] [(.int u), (.int (((u * (8 : Int32)) + ((0 : Int32) + (2 : Int32))) + (1 : Int32))), (.ref r1)])) _
    refine st11 _ ?_
    show Steps p.tables e below (T11.setTop (mkF m 45 #[.val (.ref a1), .val .null, .val (.int u), .val (.int ((0 : Int32) + (2 : Int32)))] [])) _
    refine XS.iinc X11.here hx rfl (hb hby d8_45) rfl (l' := #[.val (.ref a1), .val .null, .val (.int u), .val (.int (((0 : Int32) + (2 : Int32)) + (2 : Int32)))]) rfl ?_
    show Steps p.tables e below (T11.setTop (mkF m 48 #[.val (.ref a1), .val .null, .val (.int u), .val (.int (((0 : Int32) + (2 : Int32)) + (2 : Int32)))] [])) _
    refine XS.goto X11.here hx rfl (pc0 := 48) (pc' := 14) rfl (hb hby d8_48) (by decide) (by decide) ?_
    show Steps p.tables e below (T11.setTop (mkF m 14 #[.val (.ref a1), .val .null, .val (.int u), .val (.int (((0 : Int32) + (2 : Int32)) + (2 : Int32)))] [])) _
    refine XS.iloadN X11.here hx rfl (hb hby d8_14) rfl ?_
    show Steps p.tables e below (T11.setTop (mkF m 15 #[.val (.ref a1), .val .null, .val (.int u), .val (.int (((0 : Int32) + (2 : Int32)) + (2 : Int32)))] [(.int (((0 : Int32) + (2 : Int32)) + (2 : Int32)))])) _
    refine XS.iconst X11.here hx rfl (hb hby d8_15) ?_
    show Steps p.tables e below (T11.setTop (mkF m 16 #[.val (.ref a1), .val .null, .val (.int u), .val (.int (((0 : Int32) + (2 : Int32)) + (2 : Int32)))] [(.int (4 : Int32)), (.int (((0 : Int32) + (2 : Int32)) + (2 : Int32)))])) _
    refine XS.icmpNo X11.here hx rfl (hb hby d8_16) rfl (flt (by decide : ¬ ((4 : Int32) < (((0 : Int32) + (2 : Int32)) + (2 : Int32))))).2.2.1 ?_
    show Steps p.tables e below (T11.setTop (mkF m 19 #[.val (.ref a1), .val .null, .val (.int u), .val (.int (((0 : Int32) + (2 : Int32)) + (2 : Int32)))] [])) _
    refine XS.aloadN X11.here hx rfl (hb hby d8_19) rfl rfl ?_
    show Steps p.tables e below (T11.setTop (mkF m 20 #[.val (.ref a1), .val .null, .val (.int u), .val (.int (((0 : Int32) + (2 : Int32)) + (2 : Int32)))] [(.ref a1)])) _
    refine st12 _ ?_
    show Steps p.tables e below (T12.setTop (mkF m 23 #[.val (.ref a1), .val .null, .val (.int u), .val (.int (((0 : Int32) + (2 : Int32)) + (2 : Int32)))] [(.ref r1)])) _
    refine XS.iloadN X12.here hx rfl (hb hby d8_23) rfl ?_
    show Steps p.tables e below (T12.setTop (mkF m 24 #[.val (.ref a1), .val .null, .val (.int u), .val (.int (((0 : Int32) + (2 : Int32)) + (2 : Int32)))] [(.int u), (.ref r1)])) _
    refine XS.bipush X12.here hx rfl (hb hby d8_24) ?_
    show Steps p.tables e below (T12.setTop (mkF m 26 #[.val (.ref a1), .val .null, .val (.int u), .val (.int (((0 : Int32) + (2 : Int32)) + (2 : Int32)))] [(.int (8 : Int32)), (.int u), (.ref r1)])) _
    refine XS.imul X12.here hx rfl (hb hby d8_26) rfl ?_
    show Steps p.tables e below (T12.setTop (mkF m 27 #[.val (.ref a1), .val .null, .val (.int u), .val (.int (((0 : Int32) + (2 : Int32)) + (2 : Int32)))] [(.int (u * (8 : Int32))), (.ref r1)])) _
    refine XS.iloadN X12.here hx rfl (hb hby d8_27) rfl ?_
    show Steps p.tables e below (T12.setTop (mkF m 28 #[.val (.ref a1), .val .null, .val (.int u), .val (.int (((0 : Int32) + (2 : Int32)) + (2 : Int32)))] [(.int (((0 : Int32) + (2 : Int32)) + (2 : Int32))), (.int (u * (8 : Int32))), (.ref r1)])) _
    refine XS.iadd X12.here hx rfl (hb hby d8_28) rfl ?_
    show Steps p.tables e below (T12.setTop (mkF m 29 #[.val (.ref a1), .val .null, .val (.int u), .val (.int (((0 : Int32) + (2 : Int32)) + (2 : Int32)))] [(.int ((u * (8 : Int32)) + (((0 : Int32) + (2 : Int32)) + (2 : Int32)))), (.ref r1)])) _
    refine XS.iloadN X12.here hx rfl (hb hby d8_29) rfl ?_
    show Steps p.tables e below (T12.setTop (mkF m 30 #[.val (.ref a1), .val .null, .val (.int u), .val (.int (((0 : Int32) + (2 : Int32)) + (2 : Int32)))] [(.int u), (.int ((u * (8 : Int32)) + (((0 : Int32) + (2 : Int32)) + (2 : Int32)))), (.ref r1)])) _
    refine st13 _ ?_
    show Steps p.tables e below (T13.setTop (mkF m 31 #[.val (.ref a1), .val .null, .val (.int u), .val (.int (((0 : Int32) + (2 : Int32)) + (2 : Int32)))] [])) _
    refine XS.aloadN X13.here hx rfl (hb hby d8_31) rfl rfl ?_
    show Steps p.tables e below (T13.setTop (mkF m 32 #[.val (.ref a1), .val .null, .val (.int u), .val (.int (((0 : Int32) + (2 : Int32)) + (2 : Int32)))] [(.ref a1)])) _
    refine st14 _ ?_
    show Steps p.tables e below (T14.setTop (mkF m 35 #[.val (.ref a1), .val .null, .val (.int u), .val (.int (((0 : Int32) + (2 : Int32)) + (2 : Int32)))] [(.ref r1)])) _
    refine XS.iloadN X14.here hx rfl (hb hby d8_35) rfl ?_
    show Steps p.tables e below (T14.setTop (mkF m 36 #[.val (.ref a1), .val .null, .val (.int u), .val (.int (((0 : Int32) + (2 : Int32)) + (2 : Int32)))] [(.int u), (.ref r1)])) _
    refine XS.bipush X14.here hx rfl (hb hby d8_36) ?_
    show Steps p.tables e below (T14.setTop (mkF m 38 #[.val (.ref a1), .val .null, .val (.int u), .val (.int (((0 : Int32) + (2 : Int32)) + (2 : Int32)))] [(.int (8 : Int32)), (.int u), (.ref r1)])) _
    refine XS.imul X14.here hx rfl (hb hby d8_38) rfl ?_
    show Steps p.tables e below (T14.setTop (mkF m 39 #[.val (.ref a1), .val .null, .val (.int u), .val (.int (((0 : Int32) + (2 : Int32)) + (2 : Int32)))] [(.int (u * (8 : Int32))), (.ref r1)])) _
    refine XS.iloadN X14.here hx rfl (hb hby d8_39) rfl ?_
    show Steps p.tables e below (T14.setTop (mkF m 40 #[.val (.ref a1), .val .null, .val (.int u), .val (.int (((0 : Int32) + (2 : Int32)) + (2 : Int32)))] [(.int (((0 : Int32) + (2 : Int32)) + (2 : Int32))), (.int (u * (8 : Int32))), (.ref r1)])) _
    refine XS.iadd X14.here hx rfl (hb hby d8_40) rfl ?_
    show Steps p.tables e below (T14.setTop (mkF m 41 #[.val (.ref a1), .val .null, .val (.int u), .val (.int (((0 : Int32) + (2 : Int32)) + (2 : Int32)))] [(.int ((u * (8 : Int32)) + (((0 : Int32) + (2 : Int32)) + (2 : Int32)))), (.ref r1)])) _
    refine XS.iconst X14.here hx rfl (hb hby d8_41) ?_
    show Steps p.tables e below (T14.setTop (mkF m 42 #[.val (.ref a1), .val .null, .val (.int u), .val (.int (((0 : Int32) + (2 : Int32)) + (2 : Int32)))] [(.int (1 : Int32)), (.int ((u * (8 : Int32)) + (((0 : Int32) + (2 : Int32)) + (2 : Int32)))), (.ref r1)])) _
    refine XS.iadd X14.here hx rfl (hb hby d8_42) rfl ?_
    show Steps p.tables e below (T14.setTop (mkF m 43 #[.val (.ref a1), .val .null, .val (.int u), .val (.int (((0 : Int32) + (2 : Int32)) + (2 : Int32)))] [(.int (((u * (8 : Int32)) + (((0 : Int32) + (2 : Int32)) + (2 : Int32))) + (1 : Int32))), (.ref r1)])) _
    refine XS.iloadN X14.here hx rfl (hb hby d8_43) rfl ?_
    show Steps p.tables e below (T14.setTop (mkF m 44 #[.val (.ref a1), .val .null, .val (.int u), .val (.int (((0 : Int32) + (2 : Int32)) + (2 : Int32)))] [(.int u), (.int (((u * (8 : Int32)) + (((0 : Int32) + (2 : Int32)) + (2 : Int32))) + (1 : Int32))), (.ref r1)])) _
    refine st15 _ ?_
    show Steps p.tables e below (T15.setTop (mkF m 45 #[.val (.ref a1), .val .null, .val (.int u), .val (.int (((0 : Int32) + (2 : Int32)) + (2 : Int32)))] [])) _
    refine XS.iinc X15.here hx rfl (hb hby d8_45) rfl (l' := #[.val (.ref a1), .val .null, .val (.int u), .val (.int ((((0 : Int32) + (2 : Int32)) + (2 : Int32)) + (2 : Int32)))]) rfl ?_
    show Steps p.tables e below (T15.setTop (mkF m 48 #[.val (.ref a1), .val .null, .val (.int u), .val (.int ((((0 : Int32) + (2 : Int32)) + (2 : Int32)) + (2 : Int32)))] [])) _
    refine XS.goto X15.here hx rfl (pc0 := 48) (pc' := 14) rfl (hb hby d8_48) (by decide) (by decide) ?_
    show Steps p.tables e below (T15.setTop (mkF m 14 #[.val (.ref a1), .val .null, .val (.int u), .val (.int ((((0 : Int32) + (2 : Int32)) + (2 : Int32)) + (2 : Int32)))] [])) _
    refine XS.iloadN X15.here hx rfl (hb hby d8_14) rfl ?_
    show Steps p.tables e below (T15.setTop (mkF m 15 #[.val (.ref a1), .val .null, .val (.int u), .val (.int ((((0 : Int32) + (2 : Int32)) + (2 : Int32)) + (2 : Int32)))] [(.int ((((0 : Int32) + (2 : Int32)) + (2 : Int32)) + (2 : Int32)))])) _
    refine XS.iconst X15.here hx rfl (hb hby d8_15) ?_
    show Steps p.tables e below (T15.setTop (mkF m 16 #[.val (.ref a1), .val .null, .val (.int u), .val (.int ((((0 : Int32) + (2 : Int32)) + (2 : Int32)) + (2 : Int32)))] [(.int (4 : Int32)), (.int ((((0 : Int32) + (2 : Int32)) + (2 : Int32)) + (2 : Int32)))])) _
    refine XS.icmpYes X15.here hx rfl (pc0 := 16) (pc' := 51) rfl (hb hby d8_16) rfl (tlt (by decide : (4 : Int32) < ((((0 : Int32) + (2 : Int32)) + (2 : Int32)) + (2 : Int32)))).2.2.1 (by decide) (by decide) ?_
    show Steps p.tables e below (T15.setTop (mkF m 51 #[.val (.ref a1), .val .null, .val (.int u), .val (.int ((((0 : Int32) + (2 : Int32)) + (2 : Int32)) + (2 : Int32)))] [])) _
    refine XS.aloadN X15.here hx rfl (hb hby d8_51) rfl rfl ?_
    show Steps p.tables e below (T15.setTop (mkF m 52 #[.val (.ref a1), .val .null, .val (.int u), .val (.int ((((0 : Int32) + (2 : Int32)) + (2 : Int32)) + (2 : Int32)))] [(.ref a1)])) _
    refine st16 _ ?_
    show Steps p.tables e below (T16.setTop (mkF m 55 #[.val (.ref a1), .val .null, .val (.int u), .val (.int ((((0 : Int32) + (2 : Int32)) + (2 : Int32)) + (2 : Int32)))] [(.ref r1)])) _
    refine XS.iloadN X16.here hx rfl (hb hby d8_55) rfl ?_
    show Steps p.tables e below (T16.setTop (mkF m 56 #[.val (.ref a1), .val .null, .val (.int u), .val (.int ((((0 : Int32) + (2 : Int32)) + (2 : Int32)) + (2 : Int32)))] [(.int u), (.ref r1)])) _
    refine XS.bipush X16.here hx rfl (hb hby d8_56) ?_
    show Steps p.tables e below (T16.setTop (mkF m 58 #[.val (.ref a1), .val .null, .val (.int u), .val (.int ((((0 : Int32) + (2 : Int32)) + (2 : Int32)) + (2 : Int32)))] [(.int (8 : Int32)), (.int u), (.ref r1)])) _
    refine XS.imul X16.here hx rfl (hb hby d8_58) rfl ?_
    show Steps p.tables e below (T16.setTop (mkF m 59 #[.val (.ref a1), .val .null, .val (.int u), .val (.int ((((0 : Int32) + (2 : Int32)) + (2 : Int32)) + (2 : Int32)))] [(.int (u * (8 : Int32))), (.ref r1)])) _
    refine XS.bipush X16.here hx rfl (hb hby d8_59) ?_
    show Steps p.tables e below (T16.setTop (mkF m 61 #[.val (.ref a1), .val .null, .val (.int u), .val (.int ((((0 : Int32) + (2 : Int32)) + (2 : Int32)) + (2 : Int32)))] [(.int (6 : Int32)), (.int (u * (8 : Int32))), (.ref r1)])) _
    refine XS.iadd X16.here hx rfl (hb hby d8_61) rfl ?_
    show Steps p.tables e below (T16.setTop (mkF m 62 #[.val (.ref a1), .val .null, .val (.int u), .val (.int ((((0 : Int32) + (2 : Int32)) + (2 : Int32)) + (2 : Int32)))] [(.int ((u * (8 : Int32)) + (6 : Int32))), (.ref r1)])) _
    refine XS.iconst X16.here hx rfl (hb hby d8_62) ?_
    show Steps p.tables e below (T16.setTop (mkF m 63 #[.val (.ref a1), .val .null, .val (.int u), .val (.int ((((0 : Int32) + (2 : Int32)) + (2 : Int32)) + (2 : Int32)))] [(.int (-1 : Int32)), (.int ((u * (8 : Int32)) + (6 : Int32))), (.ref r1)])) _
    refine st17 _ ?_
    show Steps p.tables e below (T17.setTop (mkF m 64 #[.val (.ref a1), .val .null, .val (.int u), .val (.int ((((0 : Int32) + (2 : Int32)) + (2 : Int32)) + (2 : Int32)))] [])) _
    refine XS.iloadN X17.here hx rfl (hb hby d8_64) rfl ?_
    show Steps p.tables e below (T17.setTop (mkF m 65 #[.val (.ref a1), .val .null, .val (.int u), .val (.int ((((0 : Int32) + (2 : Int32)) + (2 : Int32)) + (2 : Int32)))] [(.int u)])) _
    exact retI X17 hx Bd.returns (hb hby d8_65) hr
  · show Q8 Z a1 r1 el1 u ys h0 n0 _ T17.heap _
    rw [e17]
    exact ⟨rfl, N17, K17, ⟨wE1_e17, wR1_e17, wL1_e17, wD1_e17, wU1_e17, Vr1_17', Vel1_3'_e17, g_a1, g_r1, g_el1, ne_a1_r1, ne_a1_el1, ne_r1_el1⟩⟩

theorem ef_rm7 (m : MethodId) (a1 : Addr) : entryFrame m #[(.ref a1)] 1 = mkF m 0 #[.val (.ref a1)] [] := by first | (simp [entryFrame, mkF, argsToLocals, Value.category]; done) | rfl
def Q7 (Z : State) (a1 : Addr) (r1 : Addr) (el1 : Addr) (u : Int32) (ys : List Int32) (h0 : Heap) (n0 : Nat) (v : Option Value) (h : Heap) (L : List Loc) : Prop := v = some (.int u) ∧ Fr n0 L ∧ Keep h0 h [a1, r1, el1] ∧ LT Z h n0 a1 r1 el1 (u + (1 : Int32)) ys
set_option maxRecDepth 65536 in
set_option maxHeartbeats 40000000 in
theorem rm7 (l : Launch) (Z : State) (a0 : Array Value) (hw : ∀ d ∈ tables_1, d.before a0 Z = true) (ws : List Jvm.Cond) (a1 : Addr) (r1 : Addr) (el1 : Addr) (u : Int32) (xs : List Int32) (ys : List Int32) (h0 : Heap) (n0 : Nat) (Z0 : n0 ≤ h0.size) (W0 : LT Z h0 n0 a1 r1 el1 u xs) (hu : ¬ u = (8 : Int32)) (hu0 : ¬ u < 0) (hu8 : u.toNatClampNeg < 8) (hF : own_nlF xs u = some ys) :
    MetFree l (⟨"com/example/reticule/reticule/match/LinkTable", "newList", "()I"⟩ : MethodName) (head1 (Jvm.Cond.code (⟨"com/example/reticule/reticule/match/LinkTable", "newList", "()I"⟩ : MethodName) prog_64_method_3_code 1 (some .int) :: ws) ({ frames := 2, cells := 0, slots := 0, locals := 28 } : Room)) (fun a U => a = #[(.ref a1)] ∧ Z.Warmed39 U.vm ∧ U.heap = h0) (fun _ _ _ _ _ => True) (fun _ U o U' => ∃ v L, o = .returned v ∧ Q7 Z a1 r1 el1 u ys h0 n0 v U'.heap L ∧ FrameEnd U o U' L ({ frames := 2, cells := 0, slots := 0, locals := 28 } : Room).cells ({ frames := 2, cells := 0, slots := 0, locals := 28 } : Room).slots) := by
  refine MetFree.of_bodySF (plainFor_of_name pn_7) hisR ?_
  intro p e s m args below meth c s₁ Bd hml0 hP hK
  obtain ⟨rfl, hZ, hh⟩ := hP
  have hx := Bd.exec
  have hby := Bd.bytes
  have hml : c.maxLocals = 1 := hml0
  have hown : s.vm.findClass "com/example/reticule/reticule/match/LinkTable" = some m.cls := findClass_of_methodNamed Bd.named
  have hnm := (name_of_methodNamed Bd.named Bd.method).1
  have X0 : Stand p l e ({ frames := 2, cells := 0, slots := 0, locals := 28 } : Room) s m #[(.ref a1)] below meth c s₁ [] 0 0 := Stand.of_body Bd
  have e0 : s₁.heap = h0 := by rw [← hh, Bd.state]; rfl
  have N0 := Fr.nil n0
  have pre0 : ∀ t, Steps p.tables e below (s₁.setTop (mkF m 0 #[.val (.ref a1)] [])) t → Steps p.tables e below (s₁.setTop (entryFrame m #[(.ref a1)] 1)) t := fun t k => castTop (ef_rm7 m a1) k
  have K0 : Keep h0 h0 [a1, r1, el1] := Keep.refl _ _

  have W1_ := W0
  obtain ⟨E1, Frec, Fel, Frel, Fused, Vr, Ve, g_a1, g_r1, g_el1, ne_a1_r1, ne_a1_el1, ne_r1_el1⟩ := W1_
  obtain ⟨cq1, kq1, q1a, q1b, q1c⟩ := isOf hZ e0 E1
  obtain ⟨_, _, ⟨T1, L1, k1, n1⟩, -, X1, ⟨Lc1, hQ1, l1, y1, z1⟩, st1⟩ := X0.virtualBack hx (y := (⟨"com/example/reticule/reticule/match/LinkTable", "newList", "(Ljava/lang/Object;)I"⟩ : MethodName)) (z := (⟨"com/example/reticule/reticule/match/LinkTable", "newList", "(Ljava/lang/Object;)I"⟩ : MethodName)) hown (mvT hZ (hw _ (List.mem_of_getElem? (i := 42) rfl))) (mvT hZ (hw _ (List.mem_of_getElem? (i := 43) rfl))) (notFace_of_selects (args := #[]) (mvT hZ (hw _ (List.mem_of_getElem? (i := 45) rfl)))) (mvT hZ (hw _ (List.mem_of_getElem? (i := 45) rfl))) (mvT hZ (hw _ (List.mem_of_getElem? (i := 44) rfl))) (by decide) (backOf (W := 0) (rm8 l Z a0 hw [] a1 r1 el1 u xs ys h0 n0 Z0 ⟨E1, Frec, Fel, Frel, Fused, Vr, Ve, g_a1, g_r1, g_el1, ne_a1_r1, ne_a1_el1, ne_r1_el1⟩ hu hu0 hu8 hF) hZ (hw _ (List.mem_of_getElem? (i := 46) rfl)) (hw _ (List.mem_of_getElem? (i := 2) rfl)) (by decide) (by decide)) q1a q1c (g := (mkF m 2 #[.val (.ref a1)] [.null, (.ref a1)])) rfl (by rw [hml]; rfl) (Steps.refl _) (argsL := [.null]) (rest := []) (lenOf pd_8 rfl) rfl (by show 2 * 0 + _ ≤ _; exact Nat.le_of_eq rfl) (hb hby d7_2) (fun _ _ => ⟨rfl, e0, (by decide : 0 + 0 ≤ _), (by decide : 0 + 0 ≤ _)⟩)
  dsimp only [Pt.U, Pt.locs, Pt.cells, Pt.slots] at X1 l1 y1 z1 st1 hQ1
  subst l1 y1 z1
  obtain ⟨rfl, N1q, Kc1, W1⟩ := hQ1
  have N1 := Fr.app N0 N1q
  obtain ⟨wE1, wR1, wL1, wD1, wU1, wV1, wW1, -⟩ := W1
  have Z1 : n0 ≤ T1.heap.size := Nat.le_trans Z0 Kc1.1
  have K1' : Keep h0 T1.heap [a1, r1, el1] := K0.trans Kc1 (allS (Or.inl (List.mem_of_getElem? (i := 0) rfl)) (allS (Or.inl (List.mem_of_getElem? (i := 1) rfl)) (allS (Or.inl (List.mem_of_getElem? (i := 2) rfl)) all0)))
  obtain ⟨fs, hr, hrun, hended, hW, hsame⟩ := X1.leave (v := some (.int u)) (fun h => by rw [Bd.returns] at h; cases h)
  refine ⟨_, _, pre0 _ ?_, hrun, hended, _, _, rfl, ?_, ⟨_, rfl⟩, hW, hsame.mono (by decide) (by decide)⟩
  · show Steps p.tables e below (s₁.setTop (mkF m 0 #[.val (.ref a1)] [])) _
    refine XS.aloadN X0.here hx rfl (hb hby d7_0) rfl rfl ?_
    show Steps p.tables e below (s₁.setTop (mkF m 1 #[.val (.ref a1)] [(.ref a1)])) _
    refine XS.aconstNull X0.here hx rfl (hb hby d7_1) ?_
    show Steps p.tables e below (s₁.setTop (mkF m 2 #[.val (.ref a1)] [.null, (.ref a1)])) _
    refine st1.trans ?_
    show Steps p.tables e below (T1.setTop (mkF m 5 #[.val (.ref a1)] [(.int u)])) _
    exact retI X1 hx Bd.returns (hb hby d7_5) hr
  · show Q7 Z a1 r1 el1 u ys h0 n0 _ T1.heap _
    exact ⟨rfl, N1, K1', ⟨wE1, wR1, wL1, wD1, wU1, wV1, wW1, g_a1, g_r1, g_el1, ne_a1_r1, ne_a1_el1, ne_r1_el1⟩⟩

theorem ef_rm11 (m : MethodId) (a1 : Addr) (p1 : Int32) (p2 : Int32) : entryFrame m #[(.ref a1), (.int p1), (.int p2)] 3 = mkF m 0 #[.val (.ref a1), .val (.int p1), .val (.int p2)] [] := by first | (simp [entryFrame, mkF, argsToLocals, Value.category]; done) | rfl
def Q11 (Z : State) (y : Int32) (h0 : Heap) (n0 : Nat) (v : Option Value) (h : Heap) (L : List Loc) : Prop := v = some (.int y) ∧ Fr n0 L ∧ h = h0
set_option maxRecDepth 65536 in
set_option maxHeartbeats 40000000 in
theorem rm11 (l : Launch) (Z : State) (a0 : Array Value) (hw : ∀ d ∈ tables_1, d.before a0 Z = true) (ws : List Jvm.Cond) (a1 : Addr) (r1 : Addr) (el1 : Addr) (u : Int32) (xs : List Int32) (p1 : Int32) (p2 : Int32) (y : Int32) (h0 : Heap) (n0 : Nat) (Z0 : n0 ≤ h0.size) (W0 : LT Z h0 n0 a1 r1 el1 u xs) (hF : own_rd xs (((p2 * (8 : Int32)) + p1) + (1 : Int32)) = some y) :
    MetFree l (⟨"com/example/reticule/reticule/match/LinkTable", "next", "(II)I"⟩ : MethodName) (head1 (Jvm.Cond.code (⟨"com/example/reticule/reticule/match/LinkTable", "next", "(II)I"⟩ : MethodName) prog_64_method_11_code 3 (some .int) :: ws) ({ frames := 0, cells := 0, slots := 0, locals := 0 } : Room)) (fun a U => a = #[(.ref a1), (.int p1), (.int p2)] ∧ Z.Warmed39 U.vm ∧ U.heap = h0) (fun _ _ _ _ _ => True) (fun _ U o U' => ∃ v L, o = .returned v ∧ Q11 Z y h0 n0 v U'.heap L ∧ FrameEnd U o U' L ({ frames := 0, cells := 0, slots := 0, locals := 0 } : Room).cells ({ frames := 0, cells := 0, slots := 0, locals := 0 } : Room).slots) := by
  refine MetFree.of_bodySF (plainFor_of_name pn_11) hisR ?_
  intro p e s m args below meth c s₁ Bd hml0 hP hK
  obtain ⟨rfl, hZ, hh⟩ := hP
  have hx := Bd.exec
  have hby := Bd.bytes
  have hml : c.maxLocals = 3 := hml0
  have hown : s.vm.findClass "com/example/reticule/reticule/match/LinkTable" = some m.cls := findClass_of_methodNamed Bd.named
  have hnm := (name_of_methodNamed Bd.named Bd.method).1
  have X0 : Stand p l e ({ frames := 0, cells := 0, slots := 0, locals := 0 } : Room) s m #[(.ref a1), (.int p1), (.int p2)] below meth c s₁ [] 0 0 := Stand.of_body Bd
  have e0 : s₁.heap = h0 := by rw [← hh, Bd.state]; rfl
  have N0 := Fr.nil n0
  have pre0 : ∀ t, Steps p.tables e below (s₁.setTop (mkF m 0 #[.val (.ref a1), .val (.int p1), .val (.int p2)] [])) t → Steps p.tables e below (s₁.setTop (entryFrame m #[(.ref a1), (.int p1), (.int p2)] 3)) t := fun t k => castTop (ef_rm11 m a1 p1 p2) k

  have W1_ := W0
  obtain ⟨E1, Frec, Fel, Frel, Fused, Vr, Ve, g_a1, g_r1, g_el1, ne_a1_r1, ne_a1_el1, ne_r1_el1⟩ := W1_
  obtain ⟨T1, X1, e1, st1⟩ := getF X0 hx hZ hown (host := "") (Or.inl (hw _ (List.mem_of_getElem? (i := 10) rfl))) Via.refl e0 Frec (g := (mkF m 1 #[.val (.ref a1), .val (.int p1), .val (.int p2)] [(.ref a1)])) rfl rfl (hb hby d11_1)
  obtain ⟨fs, hr, hrun, hended, hW, hsame⟩ := X1.leave (v := some (.int y)) (fun h => by rw [Bd.returns] at h; cases h)
  refine ⟨_, _, pre0 _ ?_, hrun, hended, _, _, rfl, ?_, ⟨_, rfl⟩, hW, hsame.mono (by decide) (by decide)⟩
  · show Steps p.tables e below (s₁.setTop (mkF m 0 #[.val (.ref a1), .val (.int p1), .val (.int p2)] [])) _
    refine XS.aloadN X0.here hx rfl (hb hby d11_0) rfl rfl ?_
    show Steps p.tables e below (s₁.setTop (mkF m 1 #[.val (.ref a1), .val (.int p1), .val (.int p2)] [(.ref a1)])) _
    refine st1 _ ?_
    show Steps p.tables e below (T1.setTop (mkF m 4 #[.val (.ref a1), .val (.int p1), .val (.int p2)] [(.ref r1)])) _
    refine XS.iloadN X1.here hx rfl (hb hby d11_4) rfl ?_
    show Steps p.tables e below (T1.setTop (mkF m 5 #[.val (.ref a1), .val (.int p1), .val (.int p2)] [(.int p2), (.ref r1)])) _
    refine XS.bipush X1.here hx rfl (hb hby d11_5) ?_
    show Steps p.tables e below (T1.setTop (mkF m 7 #[.val (.ref a1), .val (.int p1), .val (.int p2)] [(.int (8 : Int32)), (.int p2), (.ref r1)])) _
    refine XS.imul X1.here hx rfl (hb hby d11_7) rfl ?_
    show Steps p.tables e below (T1.setTop (mkF m 8 #[.val (.ref a1), .val (.int p1), .val (.int p2)] [(.int (p2 * (8 : Int32))), (.ref r1)])) _
    refine XS.iloadN X1.here hx rfl (hb hby d11_8) rfl ?_
    show Steps p.tables e below (T1.setTop (mkF m 9 #[.val (.ref a1), .val (.int p1), .val (.int p2)] [(.int p1), (.int (p2 * (8 : Int32))), (.ref r1)])) _
    refine XS.iadd X1.here hx rfl (hb hby d11_9) rfl ?_
    show Steps p.tables e below (T1.setTop (mkF m 10 #[.val (.ref a1), .val (.int p1), .val (.int p2)] [(.int ((p2 * (8 : Int32)) + p1)), (.ref r1)])) _
    refine XS.iconst X1.here hx rfl (hb hby d11_10) ?_
    show Steps p.tables e below (T1.setTop (mkF m 11 #[.val (.ref a1), .val (.int p1), .val (.int p2)] [(.int (1 : Int32)), (.int ((p2 * (8 : Int32)) + p1)), (.ref r1)])) _
    refine XS.iadd X1.here hx rfl (hb hby d11_11) rfl ?_
    show Steps p.tables e below (T1.setTop (mkF m 12 #[.val (.ref a1), .val (.int p1), .val (.int p2)] [(.int (((p2 * (8 : Int32)) + p1) + (1 : Int32))), (.ref r1)])) _
    refine own_ldI X1 hx hZ e1 Vr (x := y) (own_rdv hF).1 (own_rdv hF).2 (g := (mkF m 12 #[.val (.ref a1), .val (.int p1), .val (.int p2)] [(.int (((p2 * (8 : Int32)) + p1) + (1 : Int32))), (.ref r1)])) rfl rfl (hb hby d11_12) _ ?_
    show Steps p.tables e below (T1.setTop (mkF m 13 #[.val (.ref a1), .val (.int p1), .val (.int p2)] [(.int y)])) _
    exact retI X1 hx Bd.returns (hb hby d11_13) hr
  · show Q11 Z y h0 n0 _ T1.heap _
    rw [e1]
    exact ⟨rfl, N0, rfl⟩

theorem ef_rm10 (m : MethodId) (a1 : Addr) (p2 : Int32) : entryFrame m #[(.ref a1), (.int p2)] 2 = mkF m 0 #[.val (.ref a1), .val (.int p2)] [] := by first | (simp [entryFrame, mkF, argsToLocals, Value.category]; done) | rfl
def Q10 (Z : State) (y : Int32) (h0 : Heap) (n0 : Nat) (v : Option Value) (h : Heap) (L : List Loc) : Prop := v = some (.int y) ∧ Fr n0 L ∧ h = h0
set_option maxRecDepth 65536 in
set_option maxHeartbeats 40000000 in
theorem rm10 (l : Launch) (Z : State) (a0 : Array Value) (hw : ∀ d ∈ tables_1, d.before a0 Z = true) (ws : List Jvm.Cond) (a1 : Addr) (r1 : Addr) (el1 : Addr) (u : Int32) (xs : List Int32) (p2 : Int32) (y : Int32) (h0 : Heap) (n0 : Nat) (Z0 : n0 ≤ h0.size) (W0 : LT Z h0 n0 a1 r1 el1 u xs) (hF : own_rd xs (((p2 * (8 : Int32)) + (4 : Int32)) + (1 : Int32)) = some y) :
    MetFree l (⟨"com/example/reticule/reticule/match/LinkTableLineUpPinLaw", "nx", "(Lcom/example/reticule/reticule/match/LinkTable;I)I"⟩ : MethodName) (head1 (Jvm.Cond.code (⟨"com/example/reticule/reticule/match/LinkTableLineUpPinLaw", "nx", "(Lcom/example/reticule/reticule/match/LinkTable;I)I"⟩ : MethodName) method_2_code 2 (some .int) :: ws) ({ frames := 1, cells := 0, slots := 0, locals := 14 } : Room)) (fun a U => a = #[(.ref a1), (.int p2)] ∧ Z.Warmed39 U.vm ∧ U.heap = h0) (fun _ _ _ _ _ => True) (fun _ U o U' => ∃ v L, o = .returned v ∧ Q10 Z y h0 n0 v U'.heap L ∧ FrameEnd U o U' L ({ frames := 1, cells := 0, slots := 0, locals := 14 } : Room).cells ({ frames := 1, cells := 0, slots := 0, locals := 14 } : Room).slots) := by
  refine MetFree.of_bodySF (plainFor_of_name pn_10) hisR ?_
  intro p e s m args below meth c s₁ Bd hml0 hP hK
  obtain ⟨rfl, hZ, hh⟩ := hP
  have hx := Bd.exec
  have hby := Bd.bytes
  have hml : c.maxLocals = 2 := hml0
  have hown : s.vm.findClass "com/example/reticule/reticule/match/LinkTableLineUpPinLaw" = some m.cls := findClass_of_methodNamed Bd.named
  have hnm := (name_of_methodNamed Bd.named Bd.method).1
  have X0 : Stand p l e ({ frames := 1, cells := 0, slots := 0, locals := 14 } : Room) s m #[(.ref a1), (.int p2)] below meth c s₁ [] 0 0 := Stand.of_body Bd
  have e0 : s₁.heap = h0 := by rw [← hh, Bd.state]; rfl
  have N0 := Fr.nil n0
  have pre0 : ∀ t, Steps p.tables e below (s₁.setTop (mkF m 0 #[.val (.ref a1), .val (.int p2)] [])) t → Steps p.tables e below (s₁.setTop (entryFrame m #[(.ref a1), (.int p2)] 2)) t := fun t k => castTop (ef_rm10 m a1 p2) k

  have W1_ := W0
  obtain ⟨E1, Frec, Fel, Frel, Fused, Vr, Ve, g_a1, g_r1, g_el1, ne_a1_r1, ne_a1_el1, ne_r1_el1⟩ := W1_
  obtain ⟨cq1, kq1, q1a, q1b, q1c⟩ := isOf hZ e0 E1
  obtain ⟨_, _, ⟨T1, L1, k1, n1⟩, -, X1, ⟨Lc1, hQ1, l1, y1, z1⟩, st1⟩ := X0.virtualBack hx (y := (⟨"com/example/reticule/reticule/match/LinkTable", "next", "(II)I"⟩ : MethodName)) (z := (⟨"com/example/reticule/reticule/match/LinkTable", "next", "(II)I"⟩ : MethodName)) hown (mvT hZ (hw _ (List.mem_of_getElem? (i := 56) rfl))) (mvT hZ (hw _ (List.mem_of_getElem? (i := 57) rfl))) (notFace_of_selects (args := #[]) (mvT hZ (hw _ (List.mem_of_getElem? (i := 59) rfl)))) (mvT hZ (hw _ (List.mem_of_getElem? (i := 59) rfl))) (mvT hZ (hw _ (List.mem_of_getElem? (i := 58) rfl))) (by decide) (backOf (W := 0) (rm11 l Z a0 hw [] a1 r1 el1 u xs (4 : Int32) p2 y h0 n0 Z0 W0 hF) hZ (hw _ (List.mem_of_getElem? (i := 60) rfl)) (hw _ (List.mem_of_getElem? (i := 2) rfl)) (by decide) (by decide)) q1a q1c (g := (mkF m 3 #[.val (.ref a1), .val (.int p2)] [(.int p2), (.int (4 : Int32)), (.ref a1)])) rfl (by rw [hml]; rfl) (Steps.refl _) (argsL := [(.int (4 : Int32)), (.int p2)]) (rest := []) (lenOf pd_11 rfl) rfl (by show 2 * 0 + _ ≤ _; exact Nat.le_of_eq rfl) (hb hby d10_3) (fun _ _ => ⟨rfl, e0, (by decide : 0 + 0 ≤ _), (by decide : 0 + 0 ≤ _)⟩)
  dsimp only [Pt.U, Pt.locs, Pt.cells, Pt.slots] at X1 l1 y1 z1 st1 hQ1
  subst l1 y1 z1
  obtain ⟨rfl, N1q, q1⟩ := hQ1
  have N1 := Fr.app N0 N1q
  have K1 : Keep h0 T1.heap [] := own_kr q1
  have E1_e1 := E1.keep K1
  have Frec_e1 := Frec.keep K1 nin0
  have Fel_e1 := Fel.keep K1 nin0
  have Frel_e1 := Frel.keep K1 nin0
  have Fused_e1 := Fused.keep K1 nin0
  have Vr_e1 := Vr.keep K1 nin0
  have Ve_e1 := Ve.keep K1 nin0
  have Z1 : n0 ≤ T1.heap.size := Nat.le_trans Z0 K1.1
  obtain ⟨fs, hr, hrun, hended, hW, hsame⟩ := X1.leave (v := some (.int y)) (fun h => by rw [Bd.returns] at h; cases h)
  refine ⟨_, _, pre0 _ ?_, hrun, hended, _, _, rfl, ?_, ⟨_, rfl⟩, hW, hsame.mono (by decide) (by decide)⟩
  · show Steps p.tables e below (s₁.setTop (mkF m 0 #[.val (.ref a1), .val (.int p2)] [])) _
    refine XS.aloadN X0.here hx rfl (hb hby d10_0) rfl rfl ?_
    show Steps p.tables e below (s₁.setTop (mkF m 1 #[.val (.ref a1), .val (.int p2)] [(.ref a1)])) _
    refine XS.iconst X0.here hx rfl (hb hby d10_1) ?_
    show Steps p.tables e below (s₁.setTop (mkF m 2 #[.val (.ref a1), .val (.int p2)] [(.int (4 : Int32)), (.ref a1)])) _
    refine XS.iloadN X0.here hx rfl (hb hby d10_2) rfl ?_
    show Steps p.tables e below (s₁.setTop (mkF m 3 #[.val (.ref a1), .val (.int p2)] [(.int p2), (.int (4 : Int32)), (.ref a1)])) _
    refine st1.trans ?_
    show Steps p.tables e below (T1.setTop (mkF m 6 #[.val (.ref a1), .val (.int p2)] [(.int y)])) _
    exact retI X1 hx Bd.returns (hb hby d10_6) hr
  · show Q10 Z y h0 n0 _ T1.heap _
    exact ⟨rfl, N1, q1⟩

theorem ef_rm13 (m : MethodId) (a1 : Addr) (p2 : Int32) : entryFrame m #[(.ref a1), (.int p2)] 2 = mkF m 0 #[.val (.ref a1), .val (.int p2)] [] := by first | (simp [entryFrame, mkF, argsToLocals, Value.category]; done) | rfl
def Q13 (Z : State) (y : Int32) (h0 : Heap) (n0 : Nat) (v : Option Value) (h : Heap) (L : List Loc) : Prop := v = some (.int y) ∧ Fr n0 L ∧ h = h0
set_option maxRecDepth 65536 in
set_option maxHeartbeats 40000000 in
theorem rm13 (l : Launch) (Z : State) (a0 : Array Value) (hw : ∀ d ∈ tables_1, d.before a0 Z = true) (ws : List Jvm.Cond) (a1 : Addr) (r1 : Addr) (el1 : Addr) (u : Int32) (xs : List Int32) (p2 : Int32) (y : Int32) (h0 : Heap) (n0 : Nat) (Z0 : n0 ≤ h0.size) (W0 : LT Z h0 n0 a1 r1 el1 u xs) (hF : own_rd xs ((p2 * (8 : Int32)) + (6 : Int32)) = some y) :
    MetFree l (⟨"com/example/reticule/reticule/match/LinkTable", "standing", "(I)I"⟩ : MethodName) (head1 (Jvm.Cond.code (⟨"com/example/reticule/reticule/match/LinkTable", "standing", "(I)I"⟩ : MethodName) prog_64_method_14_code 2 (some .int) :: ws) ({ frames := 0, cells := 0, slots := 0, locals := 0 } : Room)) (fun a U => a = #[(.ref a1), (.int p2)] ∧ Z.Warmed39 U.vm ∧ U.heap = h0) (fun _ _ _ _ _ => True) (fun _ U o U' => ∃ v L, o = .returned v ∧ Q13 Z y h0 n0 v U'.heap L ∧ FrameEnd U o U' L ({ frames := 0, cells := 0, slots := 0, locals := 0 } : Room).cells ({ frames := 0, cells := 0, slots := 0, locals := 0 } : Room).slots) := by
  refine MetFree.of_bodySF (plainFor_of_name pn_13) hisR ?_
  intro p e s m args below meth c s₁ Bd hml0 hP hK
  obtain ⟨rfl, hZ, hh⟩ := hP
  have hx := Bd.exec
  have hby := Bd.bytes
  have hml : c.maxLocals = 2 := hml0
  have hown : s.vm.findClass "com/example/reticule/reticule/match/LinkTable" = some m.cls := findClass_of_methodNamed Bd.named
  have hnm := (name_of_methodNamed Bd.named Bd.method).1
  have X0 : Stand p l e ({ frames := 0, cells := 0, slots := 0, locals := 0 } : Room) s m #[(.ref a1), (.int p2)] below meth c s₁ [] 0 0 := Stand.of_body Bd
  have e0 : s₁.heap = h0 := by rw [← hh, Bd.state]; rfl
  have N0 := Fr.nil n0
  have pre0 : ∀ t, Steps p.tables e below (s₁.setTop (mkF m 0 #[.val (.ref a1), .val (.int p2)] [])) t → Steps p.tables e below (s₁.setTop (entryFrame m #[(.ref a1), (.int p2)] 2)) t := fun t k => castTop (ef_rm13 m a1 p2) k

  have W1_ := W0
  obtain ⟨E1, Frec, Fel, Frel, Fused, Vr, Ve, g_a1, g_r1, g_el1, ne_a1_r1, ne_a1_el1, ne_r1_el1⟩ := W1_
  obtain ⟨T1, X1, e1, st1⟩ := getF X0 hx hZ hown (host := "") (Or.inl (hw _ (List.mem_of_getElem? (i := 10) rfl))) Via.refl e0 Frec (g := (mkF m 1 #[.val (.ref a1), .val (.int p2)] [(.ref a1)])) rfl rfl (hb hby d13_1)
  obtain ⟨fs, hr, hrun, hended, hW, hsame⟩ := X1.leave (v := some (.int y)) (fun h => by rw [Bd.returns] at h; cases h)
  refine ⟨_, _, pre0 _ ?_, hrun, hended, _, _, rfl, ?_, ⟨_, rfl⟩, hW, hsame.mono (by decide) (by decide)⟩
  · show Steps p.tables e below (s₁.setTop (mkF m 0 #[.val (.ref a1), .val (.int p2)] [])) _
    refine XS.aloadN X0.here hx rfl (hb hby d13_0) rfl rfl ?_
    show Steps p.tables e below (s₁.setTop (mkF m 1 #[.val (.ref a1), .val (.int p2)] [(.ref a1)])) _
    refine st1 _ ?_
    show Steps p.tables e below (T1.setTop (mkF m 4 #[.val (.ref a1), .val (.int p2)] [(.ref r1)])) _
    refine XS.iloadN X1.here hx rfl (hb hby d13_4) rfl ?_
    show Steps p.tables e below (T1.setTop (mkF m 5 #[.val (.ref a1), .val (.int p2)] [(.int p2), (.ref r1)])) _
    refine XS.bipush X1.here hx rfl (hb hby d13_5) ?_
    show Steps p.tables e below (T1.setTop (mkF m 7 #[.val (.ref a1), .val (.int p2)] [(.int (8 : Int32)), (.int p2), (.ref r1)])) _
    refine XS.imul X1.here hx rfl (hb hby d13_7) rfl ?_
    show Steps p.tables e below (T1.setTop (mkF m 8 #[.val (.ref a1), .val (.int p2)] [(.int (p2 * (8 : Int32))), (.ref r1)])) _
    refine XS.bipush X1.here hx rfl (hb hby d13_8) ?_
    show Steps p.tables e below (T1.setTop (mkF m 10 #[.val (.ref a1), .val (.int p2)] [(.int (6 : Int32)), (.int (p2 * (8 : Int32))), (.ref r1)])) _
    refine XS.iadd X1.here hx rfl (hb hby d13_10) rfl ?_
    show Steps p.tables e below (T1.setTop (mkF m 11 #[.val (.ref a1), .val (.int p2)] [(.int ((p2 * (8 : Int32)) + (6 : Int32))), (.ref r1)])) _
    refine own_ldI X1 hx hZ e1 Vr (x := y) (own_rdv hF).1 (own_rdv hF).2 (g := (mkF m 11 #[.val (.ref a1), .val (.int p2)] [(.int ((p2 * (8 : Int32)) + (6 : Int32))), (.ref r1)])) rfl rfl (hb hby d13_11) _ ?_
    show Steps p.tables e below (T1.setTop (mkF m 12 #[.val (.ref a1), .val (.int p2)] [(.int y)])) _
    exact retI X1 hx Bd.returns (hb hby d13_12) hr
  · show Q13 Z y h0 n0 _ T1.heap _
    rw [e1]
    exact ⟨rfl, N0, rfl⟩

theorem ef_rm12 (m : MethodId) (a1 : Addr) (p2 : Int32) : entryFrame m #[(.ref a1), (.int p2)] 2 = mkF m 0 #[.val (.ref a1), .val (.int p2)] [] := by first | (simp [entryFrame, mkF, argsToLocals, Value.category]; done) | rfl
def Q12 (Z : State) (y : Int32) (h0 : Heap) (n0 : Nat) (v : Option Value) (h : Heap) (L : List Loc) : Prop := v = some (.int y) ∧ Fr n0 L ∧ h = h0
set_option maxRecDepth 65536 in
set_option maxHeartbeats 40000000 in
theorem rm12 (l : Launch) (Z : State) (a0 : Array Value) (hw : ∀ d ∈ tables_1, d.before a0 Z = true) (ws : List Jvm.Cond) (a1 : Addr) (r1 : Addr) (el1 : Addr) (u : Int32) (xs : List Int32) (p2 : Int32) (y : Int32) (h0 : Heap) (n0 : Nat) (Z0 : n0 ≤ h0.size) (W0 : LT Z h0 n0 a1 r1 el1 u xs) (hF : own_rd xs ((p2 * (8 : Int32)) + (6 : Int32)) = some y) :
    MetFree l (⟨"com/example/reticule/reticule/match/LinkTableLineUpPinLaw", "st", "(Lcom/example/reticule/reticule/match/LinkTable;I)I"⟩ : MethodName) (head1 (Jvm.Cond.code (⟨"com/example/reticule/reticule/match/LinkTableLineUpPinLaw", "st", "(Lcom/example/reticule/reticule/match/LinkTable;I)I"⟩ : MethodName) method_4_code 2 (some .int) :: ws) ({ frames := 1, cells := 0, slots := 0, locals := 13 } : Room)) (fun a U => a = #[(.ref a1), (.int p2)] ∧ Z.Warmed39 U.vm ∧ U.heap = h0) (fun _ _ _ _ _ => True) (fun _ U o U' => ∃ v L, o = .returned v ∧ Q12 Z y h0 n0 v U'.heap L ∧ FrameEnd U o U' L ({ frames := 1, cells := 0, slots := 0, locals := 13 } : Room).cells ({ frames := 1, cells := 0, slots := 0, locals := 13 } : Room).slots) := by
  refine MetFree.of_bodySF (plainFor_of_name pn_12) hisR ?_
  intro p e s m args below meth c s₁ Bd hml0 hP hK
  obtain ⟨rfl, hZ, hh⟩ := hP
  have hx := Bd.exec
  have hby := Bd.bytes
  have hml : c.maxLocals = 2 := hml0
  have hown : s.vm.findClass "com/example/reticule/reticule/match/LinkTableLineUpPinLaw" = some m.cls := findClass_of_methodNamed Bd.named
  have hnm := (name_of_methodNamed Bd.named Bd.method).1
  have X0 : Stand p l e ({ frames := 1, cells := 0, slots := 0, locals := 13 } : Room) s m #[(.ref a1), (.int p2)] below meth c s₁ [] 0 0 := Stand.of_body Bd
  have e0 : s₁.heap = h0 := by rw [← hh, Bd.state]; rfl
  have N0 := Fr.nil n0
  have pre0 : ∀ t, Steps p.tables e below (s₁.setTop (mkF m 0 #[.val (.ref a1), .val (.int p2)] [])) t → Steps p.tables e below (s₁.setTop (entryFrame m #[(.ref a1), (.int p2)] 2)) t := fun t k => castTop (ef_rm12 m a1 p2) k

  have W1_ := W0
  obtain ⟨E1, Frec, Fel, Frel, Fused, Vr, Ve, g_a1, g_r1, g_el1, ne_a1_r1, ne_a1_el1, ne_r1_el1⟩ := W1_
  obtain ⟨cq1, kq1, q1a, q1b, q1c⟩ := isOf hZ e0 E1
  obtain ⟨_, _, ⟨T1, L1, k1, n1⟩, -, X1, ⟨Lc1, hQ1, l1, y1, z1⟩, st1⟩ := X0.virtualBack hx (y := (⟨"com/example/reticule/reticule/match/LinkTable", "standing", "(I)I"⟩ : MethodName)) (z := (⟨"com/example/reticule/reticule/match/LinkTable", "standing", "(I)I"⟩ : MethodName)) hown (mvT hZ (hw _ (List.mem_of_getElem? (i := 64) rfl))) (mvT hZ (hw _ (List.mem_of_getElem? (i := 65) rfl))) (notFace_of_selects (args := #[]) (mvT hZ (hw _ (List.mem_of_getElem? (i := 67) rfl)))) (mvT hZ (hw _ (List.mem_of_getElem? (i := 67) rfl))) (mvT hZ (hw _ (List.mem_of_getElem? (i := 66) rfl))) (by decide) (backOf (W := 0) (rm13 l Z a0 hw [] a1 r1 el1 u xs p2 y h0 n0 Z0 W0 hF) hZ (hw _ (List.mem_of_getElem? (i := 68) rfl)) (hw _ (List.mem_of_getElem? (i := 2) rfl)) (by decide) (by decide)) q1a q1c (g := (mkF m 2 #[.val (.ref a1), .val (.int p2)] [(.int p2), (.ref a1)])) rfl (by rw [hml]; rfl) (Steps.refl _) (argsL := [(.int p2)]) (rest := []) (lenOf pd_13 rfl) rfl (by show 2 * 0 + _ ≤ _; exact Nat.le_of_eq rfl) (hb hby d12_2) (fun _ _ => ⟨rfl, e0, (by decide : 0 + 0 ≤ _), (by decide : 0 + 0 ≤ _)⟩)
  dsimp only [Pt.U, Pt.locs, Pt.cells, Pt.slots] at X1 l1 y1 z1 st1 hQ1
  subst l1 y1 z1
  obtain ⟨rfl, N1q, q1⟩ := hQ1
  have N1 := Fr.app N0 N1q
  have K1 : Keep h0 T1.heap [] := own_kr q1
  have E1_e1 := E1.keep K1
  have Frec_e1 := Frec.keep K1 nin0
  have Fel_e1 := Fel.keep K1 nin0
  have Frel_e1 := Frel.keep K1 nin0
  have Fused_e1 := Fused.keep K1 nin0
  have Vr_e1 := Vr.keep K1 nin0
  have Ve_e1 := Ve.keep K1 nin0
  have Z1 : n0 ≤ T1.heap.size := Nat.le_trans Z0 K1.1
  obtain ⟨fs, hr, hrun, hended, hW, hsame⟩ := X1.leave (v := some (.int y)) (fun h => by rw [Bd.returns] at h; cases h)
  refine ⟨_, _, pre0 _ ?_, hrun, hended, _, _, rfl, ?_, ⟨_, rfl⟩, hW, hsame.mono (by decide) (by decide)⟩
  · show Steps p.tables e below (s₁.setTop (mkF m 0 #[.val (.ref a1), .val (.int p2)] [])) _
    refine XS.aloadN X0.here hx rfl (hb hby d12_0) rfl rfl ?_
    show Steps p.tables e below (s₁.setTop (mkF m 1 #[.val (.ref a1), .val (.int p2)] [(.ref a1)])) _
    refine XS.iloadN X0.here hx rfl (hb hby d12_1) rfl ?_
    show Steps p.tables e below (s₁.setTop (mkF m 2 #[.val (.ref a1), .val (.int p2)] [(.int p2), (.ref a1)])) _
    refine st1.trans ?_
    show Steps p.tables e below (T1.setTop (mkF m 5 #[.val (.ref a1), .val (.int p2)] [(.int y)])) _
    exact retI X1 hx Bd.returns (hb hby d12_5) hr
  · show Q12 Z y h0 n0 _ T1.heap _
    exact ⟨rfl, N1, q1⟩

theorem ef_rm15 (m : MethodId) (a1 : Addr) (p1 : Int32) (p2 : Int32) : entryFrame m #[(.ref a1), (.int p1), (.int p2)] 7 = mkF m 0 #[.val (.ref a1), .val (.int p1), .val (.int p2), .unset, .unset, .unset, .unset] [] := by first | (simp [entryFrame, mkF, argsToLocals, Value.category]; done) | rfl
def Q15 (Z : State) (a1 : Addr) (r1 : Addr) (el1 : Addr) (u : Int32) (ys : List Int32) (h0 : Heap) (n0 : Nat) (v : Option Value) (h : Heap) (L : List Loc) : Prop := v = none ∧ Fr n0 L ∧ Keep h0 h [a1, r1, el1] ∧ LT Z h n0 a1 r1 el1 u ys
set_option maxRecDepth 65536 in
set_option maxHeartbeats 40000000 in
theorem rm15 (l : Launch) (Z : State) (a0 : Array Value) (hw : ∀ d ∈ tables_1, d.before a0 Z = true) (ws : List Jvm.Cond) (a1 : Addr) (r1 : Addr) (el1 : Addr) (u : Int32) (xs : List Int32) (p1 : Int32) (p2 : Int32) (ys : List Int32) (h0 : Heap) (n0 : Nat) (Z0 : n0 ≤ h0.size) (W0 : LT Z h0 n0 a1 r1 el1 u xs) (hp : p1 = (4 : Int32)) (hF : own_unF xs p2 = some ys) :
    MetFree l (⟨"com/example/reticule/reticule/match/LinkTable", "unlink", "(II)V"⟩ : MethodName) (head1 (Jvm.Cond.code (⟨"com/example/reticule/reticule/match/LinkTable", "unlink", "(II)V"⟩ : MethodName) prog_64_method_10_code 7 none :: ws) ({ frames := 0, cells := 0, slots := 0, locals := 0 } : Room)) (fun a U => a = #[(.ref a1), (.int p1), (.int p2)] ∧ Z.Warmed39 U.vm ∧ U.heap = h0) (fun _ _ _ _ _ => True) (fun _ U o U' => ∃ v L, o = .returned v ∧ Q15 Z a1 r1 el1 u ys h0 n0 v U'.heap L ∧ FrameEnd U o U' L ({ frames := 0, cells := 0, slots := 0, locals := 0 } : Room).cells ({ frames := 0, cells := 0, slots := 0, locals := 0 } : Room).slots) := by
  refine MetFree.of_bodySF (plainFor_of_name pn_15) hisR ?_
  intro p e s m args below meth c s₁ Bd hml0 hP hK
  obtain ⟨rfl, hZ, hh⟩ := hP
  have hx := Bd.exec
  have hby := Bd.bytes
  have hml : c.maxLocals = 7 := hml0
  have hown : s.vm.findClass "com/example/reticule/reticule/match/LinkTable" = some m.cls := findClass_of_methodNamed Bd.named
  have hnm := (name_of_methodNamed Bd.named Bd.method).1
  have X0 : Stand p l e ({ frames := 0, cells := 0, slots := 0, locals := 0 } : Room) s m #[(.ref a1), (.int p1), (.int p2)] below meth c s₁ [] 0 0 := Stand.of_body Bd
  have e0 : s₁.heap = h0 := by rw [← hh, Bd.state]; rfl
  have N0 := Fr.nil n0
  have pre0 : ∀ t, Steps p.tables e below (s₁.setTop (mkF m 0 #[.val (.ref a1), .val (.int p1), .val (.int p2), .unset, .unset, .unset, .unset] [])) t → Steps p.tables e below (s₁.setTop (entryFrame m #[(.ref a1), (.int p1), (.int p2)] 7)) t := fun t k => castTop (ef_rm15 m a1 p1 p2) k
  have K0 : Keep h0 h0 [a1, r1, el1] := Keep.refl _ _

  have W1_ := W0
  obtain ⟨E1, Frec, Fel, Frel, Fused, Vr, Ve, g_a1, g_r1, g_el1, ne_a1_r1, ne_a1_el1, ne_r1_el1⟩ := W1_
  subst hp
  obtain ⟨q1, f1, G1⟩ := Option.bind_eq_some_iff.mp hF
  obtain ⟨q2, f2, G2⟩ := Option.bind_eq_some_iff.mp G1
  obtain ⟨x1, f3, f4⟩ := Option.bind_eq_some_iff.mp G2
  obtain ⟨T1, X1, e1, st1⟩ := getF X0 hx hZ hown (host := "") (Or.inl (hw _ (List.mem_of_getElem? (i := 10) rfl))) Via.refl e0 Frec (g := (mkF m 1 #[.val (.ref a1), .val (.int (4 : Int32)), .val (.int p2), .unset, .unset, .unset, .unset] [(.ref a1)])) rfl rfl (hb hby d15_1)
  obtain ⟨T2, h2, L2, X2, N2, e2, W2, Vr1_2, st2⟩ := own_stI X1 hx hZ e1 Vr N0 g_r1 (own_wrv f3).1 (own_wrv f3).2.1 (g := (mkF m 39 #[.val (.ref a1), .val (.int (4 : Int32)), .val (.int p2), .val (.ref r1), .val (.int ((p2 * (8 : Int32)) + (4 : Int32))), .val (.int q1), .val (.int q2)] [(.int q2), (.int (((q1 * (8 : Int32)) + (4 : Int32)) + (1 : Int32))), (.ref r1)])) rfl rfl (hb hby d15_39)
  have E1_e2 := E1.wr W2
  have Frec_e2 := Frec.other W2 (Or.inl ne_a1_r1)
  have Fel_e2 := Fel.other W2 (Or.inl ne_a1_r1)
  have Frel_e2 := Frel.other W2 (Or.inl ne_a1_r1)
  have Fused_e2 := Fused.other W2 (Or.inl ne_a1_r1)
  have Ve_e2 := Ve.other W2 (Ne.symm ne_r1_el1)
  have Z2 : n0 ≤ h2.size := W2.size.symm ▸ Z0
  have K2 : Keep h0 h2 [a1, r1, el1] := K0.wr W2 (Or.inl (List.mem_of_getElem? (i := 1) rfl))
  have Vr1_2' : AL Z h2 r1 .int (x1.map Value.int) := (own_wrv f3).2.2 ▸ Vr1_2
  obtain ⟨T3, h3, L3, X3, N3, e3, W3, Vr1_3, st3⟩ := own_stI X2 hx hZ e2 Vr1_2' N2 g_r1 (own_wrv f4).1 (own_wrv f4).2.1 (g := (mkF m 50 #[.val (.ref a1), .val (.int (4 : Int32)), .val (.int p2), .val (.ref r1), .val (.int ((p2 * (8 : Int32)) + (4 : Int32))), .val (.int q1), .val (.int q2)] [(.int q1), (.int ((q2 * (8 : Int32)) + (4 : Int32))), (.ref r1)])) rfl rfl (hb hby d15_50)
  have E1_e3 := E1_e2.wr W3
  have Frec_e3 := Frec_e2.other W3 (Or.inl ne_a1_r1)
  have Fel_e3 := Fel_e2.other W3 (Or.inl ne_a1_r1)
  have Frel_e3 := Frel_e2.other W3 (Or.inl ne_a1_r1)
  have Fused_e3 := Fused_e2.other W3 (Or.inl ne_a1_r1)
  have Ve_e3 := Ve_e2.other W3 (Ne.symm ne_r1_el1)
  have Z3 : n0 ≤ h3.size := W3.size.symm ▸ Z2
  have K3 : Keep h0 h3 [a1, r1, el1] := K2.wr W3 (Or.inl (List.mem_of_getElem? (i := 1) rfl))
  have Vr1_3' : AL Z h3 r1 .int (ys.map Value.int) := (own_wrv f4).2.2 ▸ Vr1_3
  obtain ⟨fs, hr, hrun, hended, hW, hsame⟩ := X3.leave (v := none) (fun _ => rfl)
  refine ⟨_, _, pre0 _ ?_, hrun, hended, _, _, rfl, ?_, ⟨_, rfl⟩, hW, hsame.mono (by decide) (by decide)⟩
  · show Steps p.tables e below (s₁.setTop (mkF m 0 #[.val (.ref a1), .val (.int (4 : Int32)), .val (.int p2), .unset, .unset, .unset, .unset] [])) _
    refine XS.aloadN X0.here hx rfl (hb hby d15_0) rfl rfl ?_
    show Steps p.tables e below (s₁.setTop (mkF m 1 #[.val (.ref a1), .val (.int (4 : Int32)), .val (.int p2), .unset, .unset, .unset, .unset] [(.ref a1)])) _
    refine st1 _ ?_
    show Steps p.tables e below (T1.setTop (mkF m 4 #[.val (.ref a1), .val (.int (4 : Int32)), .val (.int p2), .unset, .unset, .unset, .unset] [(.ref r1)])) _
    refine XS.astoreN X1.here hx rfl (hb hby d15_4) rfl rfl (l' := #[.val (.ref a1), .val (.int (4 : Int32)), .val (.int p2), .val (.ref r1), .unset, .unset, .unset]) rfl ?_
    show Steps p.tables e below (T1.setTop (mkF m 5 #[.val (.ref a1), .val (.int (4 : Int32)), .val (.int p2), .val (.ref r1), .unset, .unset, .unset] [])) _
    refine XS.iloadN X1.here hx rfl (hb hby d15_5) rfl ?_
    show Steps p.tables e below (T1.setTop (mkF m 6 #[.val (.ref a1), .val (.int (4 : Int32)), .val (.int p2), .val (.ref r1), .unset, .unset, .unset] [(.int p2)])) _
    refine XS.bipush X1.here hx rfl (hb hby d15_6) ?_
    show Steps p.tables e below (T1.setTop (mkF m 8 #[.val (.ref a1), .val (.int (4 : Int32)), .val (.int p2), .val (.ref r1), .unset, .unset, .unset] [(.int (8 : Int32)), (.int p2)])) _
    refine XS.imul X1.here hx rfl (hb hby d15_8) rfl ?_
    show Steps p.tables e below (T1.setTop (mkF m 9 #[.val (.ref a1), .val (.int (4 : Int32)), .val (.int p2), .val (.ref r1), .unset, .unset, .unset] [(.int (p2 * (8 : Int32)))])) _
    refine XS.iloadN X1.here hx rfl (hb hby d15_9) rfl ?_
    show Steps p.tables e below (T1.setTop (mkF m 10 #[.val (.ref a1), .val (.int (4 : Int32)), .val (.int p2), .val (.ref r1), .unset, .unset, .unset] [(.int (4 : Int32)), (.int (p2 * (8 : Int32)))])) _
    refine XS.iadd X1.here hx rfl (hb hby d15_10) rfl ?_
    show Steps p.tables e below (T1.setTop (mkF m 11 #[.val (.ref a1), .val (.int (4 : Int32)), .val (.int p2), .val (.ref r1), .unset, .unset, .unset] [(.int ((p2 * (8 : Int32)) + (4 : Int32)))])) _
    refine XS.istore X1.here hx rfl (hb hby d15_11) rfl (l' := #[.val (.ref a1), .val (.int (4 : Int32)), .val (.int p2), .val (.ref r1), .val (.int ((p2 * (8 : Int32)) + (4 : Int32))), .unset, .unset]) rfl ?_
    show Steps p.tables e below (T1.setTop (mkF m 13 #[.val (.ref a1), .val (.int (4 : Int32)), .val (.int p2), .val (.ref r1), .val (.int ((p2 * (8 : Int32)) + (4 : Int32))), .unset, .unset] [])) _
    refine XS.aloadN X1.here hx rfl (hb hby d15_13) rfl rfl ?_
    show Steps p.tables e below (T1.setTop (mkF m 14 #[.val (.ref a1), .val (.int (4 : Int32)), .val (.int p2), .val (.ref r1), .val (.int ((p2 * (8 : Int32)) + (4 : Int32))), .unset, .unset] [(.ref r1)])) _
    refine XS.iload X1.here hx rfl (hb hby d15_14) rfl ?_
    show Steps p.tables e below (T1.setTop (mkF m 16 #[.val (.ref a1), .val (.int (4 : Int32)), .val (.int p2), .val (.ref r1), .val (.int ((p2 * (8 : Int32)) + (4 : Int32))), .unset, .unset] [(.int ((p2 * (8 : Int32)) + (4 : Int32))), (.ref r1)])) _
    refine own_ldI X1 hx hZ e1 Vr (x := q1) (own_rdv f1).1 (own_rdv f1).2 (g := (mkF m 16 #[.val (.ref a1), .val (.int (4 : Int32)), .val (.int p2), .val (.ref r1), .val (.int ((p2 * (8 : Int32)) + (4 : Int32))), .unset, .unset] [(.int ((p2 * (8 : Int32)) + (4 : Int32))), (.ref r1)])) rfl rfl (hb hby d15_16) _ ?_
    show Steps p.tables e below (T1.setTop (mkF m 17 #[.val (.ref a1), .val (.int (4 : Int32)), .val (.int p2), .val (.ref r1), .val (.int ((p2 * (8 : Int32)) + (4 : Int32))), .unset, .unset] [(.int q1)])) _
    refine XS.istore X1.here hx rfl (hb hby d15_17) rfl (l' := #[.val (.ref a1), .val (.int (4 : Int32)), .val (.int p2), .val (.ref r1), .val (.int ((p2 * (8 : Int32)) + (4 : Int32))), .val (.int q1), .unset]) rfl ?_
    show Steps p.tables e below (T1.setTop (mkF m 19 #[.val (.ref a1), .val (.int (4 : Int32)), .val (.int p2), .val (.ref r1), .val (.int ((p2 * (8 : Int32)) + (4 : Int32))), .val (.int q1), .unset] [])) _
    refine XS.aloadN X1.here hx rfl (hb hby d15_19) rfl rfl ?_
    show Steps p.tables e below (T1.setTop (mkF m 20 #[.val (.ref a1), .val (.int (4 : Int32)), .val (.int p2), .val (.ref r1), .val (.int ((p2 * (8 : Int32)) + (4 : Int32))), .val (.int q1), .unset] [(.ref r1)])) _
    refine XS.iload X1.here hx rfl (hb hby d15_20) rfl ?_
    show Steps p.tables e below (T1.setTop (mkF m 22 #[.val (.ref a1), .val (.int (4 : Int32)), .val (.int p2), .val (.ref r1), .val (.int ((p2 * (8 : Int32)) + (4 : Int32))), .val (.int q1), .unset] [(.int ((p2 * (8 : Int32)) + (4 : Int32))), (.ref r1)])) _
    refine XS.iconst X1.here hx rfl (hb hby d15_22) ?_
    show Steps p.tables e below (T1.setTop (mkF m 23 #[.val (.ref a1), .val (.int (4 : Int32)), .val (.int p2), .val (.ref r1), .val (.int ((p2 * (8 : Int32)) + (4 : Int32))), .val (.int q1), .unset] [(.int (1 : Int32)), (.int ((p2 * (8 : Int32)) + (4 : Int32))), (.ref r1)])) _
    refine XS.iadd X1.here hx rfl (hb hby d15_23) rfl ?_
    show Steps p.tables e below (T1.setTop (mkF m 24 #[.val (.ref a1), .val (.int (4 : Int32)), .val (.int p2), .val (.ref r1), .val (.int ((p2 * (8 : Int32)) + (4 : Int32))), .val (.int q1), .unset] [(.int (((p2 * (8 : Int32)) + (4 : Int32)) + (1 : Int32))), (.ref r1)])) _
    refine own_ldI X1 hx hZ e1 Vr (x := q2) (own_rdv f2).1 (own_rdv f2).2 (g := (mkF m 24 #[.val (.ref a1), .val (.int (4 : Int32)), .val (.int p2), .val (.ref r1), .val (.int ((p2 * (8 : Int32)) + (4 : Int32))), .val (.int q1), .unset] [(.int (((p2 * (8 : Int32)) + (4 : Int32)) + (1 : Int32))), (.ref r1)])) rfl rfl (hb hby d15_24) _ ?_
    show Steps p.tables e below (T1.setTop (mkF m 25 #[.val (.ref a1), .val (.int (4 : Int32)), .val (.int p2), .val (.ref r1), .val (.int ((p2 * (8 : Int32)) + (4 : Int32))), .val (.int q1), .unset] [(.int q2)])) _
    refine XS.istore X1.here hx rfl (hb hby d15_25) rfl (l' := #[.val (.ref a1), .val (.int (4 : Int32)), .val (.int p2), .val (.ref r1), .val (.int ((p2 * (8 : Int32)) + (4 : Int32))), .val (.int q1), .val (.int q2)]) rfl ?_
    show Steps p.tables e below (T1.setTop (mkF m 27 #[.val (.ref a1), .val (.int (4 : Int32)), .val (.int p2), .val (.ref r1), .val (.int ((p2 * (8 : Int32)) + (4 : Int32))), .val (.int q1), .val (.int q2)] [])) _
    refine XS.aloadN X1.here hx rfl (hb hby d15_27) rfl rfl ?_
    show Steps p.tables e below (T1.setTop (mkF m 28 #[.val (.ref a1), .val (.int (4 : Int32)), .val (.int p2), .val (.ref r1), .val (.int ((p2 * (8 : Int32)) + (4 : Int32))), .val (.int q1), .val (.int q2)] [(.ref r1)])) _
    refine XS.iload X1.here hx rfl (hb hby d15_28) rfl ?_
    show Steps p.tables e below (T1.setTop (mkF m 30 #[.val (.ref a1), .val (.int (4 : Int32)), .val (.int p2), .val (.ref r1), .val (.int ((p2 * (8 : Int32)) + (4 : Int32))), .val (.int q1), .val (.int q2)] [(.int q1), (.ref r1)])) _
    refine XS.bipush X1.here hx rfl (hb hby d15_30) ?_
    show Steps p.tables e below (T1.setTop (mkF m 32 #[.val (.ref a1), .val (.int (4 : Int32)), .val (.int p2), .val (.ref r1), .val (.int ((p2 * (8 : Int32)) + (4 : Int32))), .val (.int q1), .val (.int q2)] [(.int (8 : Int32)), (.int q1), (.ref r1)])) _
    refine XS.imul X1.here hx rfl (hb hby d15_32) rfl ?_
    show Steps p.tables e below (T1.setTop (mkF m 33 #[.val (.ref a1), .val (.int (4 : Int32)), .val (.int p2), .val (.ref r1), .val (.int ((p2 * (8 : Int32)) + (4 : Int32))), .val (.int q1), .val (.int q2)] [(.int (q1 * (8 : Int32))), (.ref r1)])) _
    refine XS.iloadN X1.here hx rfl (hb hby d15_33) rfl ?_
    show Steps p.tables e below (T1.setTop (mkF m 34 #[.val (.ref a1), .val (.int (4 : Int32)), .val (.int p2), .val (.ref r1), .val (.int ((p2 * (8 : Int32)) + (4 : Int32))), .val (.int q1), .val (.int q2)] [(.int (4 : Int32)), (.int (q1 * (8 : Int32))), (.ref r1)])) _
    refine XS.iadd X1.here hx rfl (hb hby d15_34) rfl ?_
    show Steps p.tables e below (T1.setTop (mkF m 35 #[.val (.ref a1), .val (.int (4 : Int32)), .val (.int p2), .val (.ref r1), .val (.int ((p2 * (8 : Int32)) + (4 : Int32))), .val (.int q1), .val (.int q2)] [(.int ((q1 * (8 : Int32)) + (4 : Int32))), (.ref r1)])) _
    refine XS.iconst X1.here hx rfl (hb hby d15_35) ?_
    show Steps p.tables e below (T1.setTop (mkF m 36 #[.val (.ref a1), .val (.int (4 : Int32)), .val (.int p2), .val (.ref r1), .val (.int ((p2 * (8 : Int32)) + (4 : Int32))), .val (.int q1), .val (.int q2)] [(.int (1 : Int32)), (.int ((q1 * (8 : Int32)) + (4 : Int32))), (.ref r1)])) _
    refine XS.iadd X1.here hx rfl (hb hby d15_36) rfl ?_
    show Steps p.tables e below (T1.setTop (mkF m 37 #[.val (.ref a1), .val (.int (4 : Int32)), .val (.int p2), .val (.ref r1), .val (.int ((p2 * (8 : Int32)) + (4 : Int32))), .val (.int q1), .val (.int q2)] [(.int (((q1 * (8 : Int32)) + (4 : Int32)) + (1 : Int32))), (.ref r1)])) _
    refine XS.iload X1.here hx rfl (hb hby d15_37) rfl ?_
    show Steps p.tables e below (T1.setTop (mkF m 39 #[.val (.ref a1), .val (.int (4 : Int32)), .val (.int p2), .val (.ref r1), .val (.int ((p2 * (8 : Int32)) + (4 : Int32))), .val (.int q1), .val (.int q2)] [(.int q2), (.int (((q1 * (8 : Int32)) + (4 : Int32)) + (1 : Int32))), (.ref r1)])) _
    refine st2 _ ?_
    show Steps p.tables e below (T2.setTop (mkF m 40 #[.val (.ref a1), .val (.int (4 : Int32)), .val (.int p2), .val (.ref r1), .val (.int ((p2 * (8 : Int32)) + (4 : Int32))), .val (.int q1), .val (.int q2)] [])) _
    refine XS.aloadN X2.here hx rfl (hb hby d15_40) rfl rfl ?_
    show Steps p.tables e below (T2.setTop (mkF m 41 #[.val (.ref a1), .val (.int (4 : Int32)), .val (.int p2), .val (.ref r1), .val (.int ((p2 * (8 : Int32)) + (4 : Int32))), .val (.int q1), .val (.int q2)] [(.ref r1)])) _
    refine XS.iload X2.here hx rfl (hb hby d15_41) rfl ?_
    show Steps p.tables e below (T2.setTop (mkF m 43 #[.val (.ref a1), .val (.int (4 : Int32)), .val (.int p2), .val (.ref r1), .val (.int ((p2 * (8 : Int32)) + (4 : Int32))), .val (.int q1), .val (.int q2)] [(.int q2), (.ref r1)])) _
    refine XS.bipush X2.here hx rfl (hb hby d15_43) ?_
    show Steps p.tables e below (T2.setTop (mkF m 45 #[.val (.ref a1), .val (.int (4 : Int32)), .val (.int p2), .val (.ref r1), .val (.int ((p2 * (8 : Int32)) + (4 : Int32))), .val (.int q1), .val (.int q2)] [(.int (8 : Int32)), (.int q2), (.ref r1)])) _
    refine XS.imul X2.here hx rfl (hb hby d15_45) rfl ?_
    show Steps p.tables e below (T2.setTop (mkF m 46 #[.val (.ref a1), .val (.int (4 : Int32)), .val (.int p2), .val (.ref r1), .val (.int ((p2 * (8 : Int32)) + (4 : Int32))), .val (.int q1), .val (.int q2)] [(.int (q2 * (8 : Int32))), (.ref r1)])) _
    refine XS.iloadN X2.here hx rfl (hb hby d15_46) rfl ?_
    show Steps p.tables e below (T2.setTop (mkF m 47 #[.val (.ref a1), .val (.int (4 : Int32)), .val (.int p2), .val (.ref r1), .val (.int ((p2 * (8 : Int32)) + (4 : Int32))), .val (.int q1), .val (.int q2)] [(.int (4 : Int32)), (.int (q2 * (8 : Int32))), (.ref r1)])) _
    refine XS.iadd X2.here hx rfl (hb hby d15_47) rfl ?_
    show Steps p.tables e below (T2.setTop (mkF m 48 #[.val (.ref a1), .val (.int (4 : Int32)), .val (.int p2), .val (.ref r1), .val (.int ((p2 * (8 : Int32)) + (4 : Int32))), .val (.int q1), .val (.int q2)] [(.int ((q2 * (8 : Int32)) + (4 : Int32))), (.ref r1)])) _
    refine XS.iload X2.here hx rfl (hb hby d15_48) rfl ?_
    show Steps p.tables e below (T2.setTop (mkF m 50 #[.val (.ref a1), .val (.int (4 : Int32)), .val (.int p2), .val (.ref r1), .val (.int ((p2 * (8 : Int32)) + (4 : Int32))), .val (.int q1), .val (.int q2)] [(.int q1), (.int ((q2 * (8 : Int32)) + (4 : Int32))), (.ref r1)])) _
    refine st3 _ ?_
    show Steps p.tables e below (T3.setTop (mkF m 51 #[.val (.ref a1), .val (.int (4 : Int32)), .val (.int p2), .val (.ref r1), .val (.int ((p2 * (8 : Int32)) + (4 : Int32))), .val (.int q1), .val (.int q2)] [])) _
    exact X3.returnOut hx Bd.returns (hb hby d15_51) hr
  · show Q15 Z a1 r1 el1 u ys h0 n0 _ T3.heap _
    rw [e3]
    exact ⟨rfl, N3, K3, ⟨E1_e3, Frec_e3, Fel_e3, Frel_e3, Fused_e3, Vr1_3', Ve_e3, g_a1, g_r1, g_el1, ne_a1_r1, ne_a1_el1, ne_r1_el1⟩⟩

theorem ef_rm14 (m : MethodId) (a1 : Addr) (p1 : Int32) : entryFrame m #[(.ref a1), (.int p1)] 5 = mkF m 0 #[.val (.ref a1), .val (.int p1), .unset, .unset, .unset] [] := by first | (simp [entryFrame, mkF, argsToLocals, Value.category]; done) | rfl
def Q14 (Z : State) (a1 : Addr) (r1 : Addr) (el1 : Addr) (u : Int32) (ys : List Int32) (y : Int32) (h0 : Heap) (n0 : Nat) (v : Option Value) (h : Heap) (L : List Loc) : Prop := v = some (.int y) ∧ Fr n0 L ∧ Keep h0 h [a1, r1, el1] ∧ LT Z h n0 a1 r1 el1 u ys
set_option maxRecDepth 65536 in
set_option maxHeartbeats 40000000 in
theorem rm14 (l : Launch) (Z : State) (a0 : Array Value) (hw : ∀ d ∈ tables_1, d.before a0 Z = true) (ws : List Jvm.Cond) (a1 : Addr) (r1 : Addr) (el1 : Addr) (u : Int32) (xs : List Int32) (p1 : Int32) (ys : List Int32) (y : Int32) (h0 : Heap) (n0 : Nat) (Z0 : n0 ≤ h0.size) (W0 : LT Z h0 n0 a1 r1 el1 u xs) (hF : own_lvF xs p1 = some (ys, y)) :
    MetFree l (⟨"com/example/reticule/reticule/match/LinkTable", "leaveLine", "(I)I"⟩ : MethodName) (head1 (Jvm.Cond.code (⟨"com/example/reticule/reticule/match/LinkTable", "leaveLine", "(I)I"⟩ : MethodName) prog_64_method_9_code 5 (some .int) :: ws) ({ frames := 1, cells := 0, slots := 0, locals := 18 } : Room)) (fun a U => a = #[(.ref a1), (.int p1)] ∧ Z.Warmed39 U.vm ∧ U.heap = h0) (fun _ _ _ _ _ => True) (fun _ U o U' => ∃ v L, o = .returned v ∧ Q14 Z a1 r1 el1 u ys y h0 n0 v U'.heap L ∧ FrameEnd U o U' L ({ frames := 1, cells := 0, slots := 0, locals := 18 } : Room).cells ({ frames := 1, cells := 0, slots := 0, locals := 18 } : Room).slots) := by
  refine MetFree.of_bodySF (plainFor_of_name pn_14) hisR ?_
  intro p e s m args below meth c s₁ Bd hml0 hP hK
  obtain ⟨rfl, hZ, hh⟩ := hP
  have hx := Bd.exec
  have hby := Bd.bytes
  have hml : c.maxLocals = 5 := hml0
  have hown : s.vm.findClass "com/example/reticule/reticule/match/LinkTable" = some m.cls := findClass_of_methodNamed Bd.named
  have hnm := (name_of_methodNamed Bd.named Bd.method).1
  have X0 : Stand p l e ({ frames := 1, cells := 0, slots := 0, locals := 18 } : Room) s m #[(.ref a1), (.int p1)] below meth c s₁ [] 0 0 := Stand.of_body Bd
  have e0 : s₁.heap = h0 := by rw [← hh, Bd.state]; rfl
  have N0 := Fr.nil n0
  have pre0 : ∀ t, Steps p.tables e below (s₁.setTop (mkF m 0 #[.val (.ref a1), .val (.int p1), .unset, .unset, .unset] [])) t → Steps p.tables e below (s₁.setTop (entryFrame m #[(.ref a1), (.int p1)] 5)) t := fun t k => castTop (ef_rm14 m a1 p1) k
  have K0 : Keep h0 h0 [a1, r1, el1] := Keep.refl _ _

  have W1_ := W0
  obtain ⟨E1, Frec, Fel, Frel, Fused, Vr, Ve, g_a1, g_r1, g_el1, ne_a1_r1, ne_a1_el1, ne_r1_el1⟩ := W1_
  obtain ⟨q1, f1, G1⟩ := Option.bind_eq_some_iff.mp hF
  obtain ⟨q2, f2, G2⟩ := Option.bind_eq_some_iff.mp G1
  obtain ⟨x1, f3, G3⟩ := Option.bind_eq_some_iff.mp G2
  obtain ⟨x2, f4, G4⟩ := Option.bind_eq_some_iff.mp G3
  obtain ⟨rfl, rfl⟩ := Prod.mk.inj (Option.some.inj G4)
  obtain ⟨T1, X1, e1, st1⟩ := getF X0 hx hZ hown (host := "") (Or.inl (hw _ (List.mem_of_getElem? (i := 10) rfl))) Via.refl e0 Frec (g := (mkF m 6 #[.val (.ref a1), .val (.int p1), .val (.int (p1 * (8 : Int32))), .unset, .unset] [(.ref a1)])) rfl rfl (hb hby d14_6)
  obtain ⟨T2, X2, e2, st2⟩ := getF X1 hx hZ hown (host := "") (Or.inl (hw _ (List.mem_of_getElem? (i := 10) rfl))) Via.refl e1 Frec (g := (mkF m 15 #[.val (.ref a1), .val (.int p1), .val (.int (p1 * (8 : Int32))), .val (.int q1), .unset] [(.ref a1)])) rfl rfl (hb hby d14_15)
  obtain ⟨cq3, kq3, q3a, q3b, q3c⟩ := isOf hZ e2 E1
  obtain ⟨_, _, ⟨T3, L3, k3, n3⟩, -, X3, ⟨Lc3, hQ3, l3, y3, z3⟩, st3⟩ := X2.virtualBack hx (y := (⟨"com/example/reticule/reticule/match/LinkTable", "unlink", "(II)V"⟩ : MethodName)) (z := (⟨"com/example/reticule/reticule/match/LinkTable", "unlink", "(II)V"⟩ : MethodName)) hown (mvT hZ (hw _ (List.mem_of_getElem? (i := 74) rfl))) (mvT hZ (hw _ (List.mem_of_getElem? (i := 75) rfl))) (notFace_of_selects (args := #[]) (mvT hZ (hw _ (List.mem_of_getElem? (i := 77) rfl)))) (mvT hZ (hw _ (List.mem_of_getElem? (i := 77) rfl))) (mvT hZ (hw _ (List.mem_of_getElem? (i := 76) rfl))) (by decide) (backOf (W := 0) (rm15 l Z a0 hw [] a1 r1 el1 u xs (4 : Int32) p1 x1 h0 n0 Z0 ⟨E1, Frec, Fel, Frel, Fused, Vr, Ve, g_a1, g_r1, g_el1, ne_a1_r1, ne_a1_el1, ne_r1_el1⟩ rfl f3) hZ (hw _ (List.mem_of_getElem? (i := 78) rfl)) (hw _ (List.mem_of_getElem? (i := 2) rfl)) (by decide) (by decide)) q3a q3c (g := (mkF m 29 #[.val (.ref a1), .val (.int p1), .val (.int (p1 * (8 : Int32))), .val (.int q1), .val (.int q2)] [(.int p1), (.int (4 : Int32)), (.ref a1)])) rfl (by rw [hml]; rfl) (Steps.refl _) (argsL := [(.int (4 : Int32)), (.int p1)]) (rest := []) (lenOf pd_15 rfl) rfl (by show 2 * 0 + _ ≤ _; exact Nat.le_of_eq rfl) (hb hby d14_29) (fun _ _ => ⟨rfl, e2, (by decide : 0 + 0 ≤ _), (by decide : 0 + 0 ≤ _)⟩)
  dsimp only [Pt.U, Pt.locs, Pt.cells, Pt.slots] at X3 l3 y3 z3 st3 hQ3
  subst l3 y3 z3
  obtain ⟨rfl, N3q, Kc3, W3⟩ := hQ3
  have N3 := Fr.app N0 N3q
  obtain ⟨wE3, wR3, wL3, wD3, wU3, wV3, wW3, -⟩ := W3
  have Z3 : n0 ≤ T3.heap.size := Nat.le_trans Z0 Kc3.1
  have K3' : Keep h0 T3.heap [a1, r1, el1] := K0.trans Kc3 (allS (Or.inl (List.mem_of_getElem? (i := 0) rfl)) (allS (Or.inl (List.mem_of_getElem? (i := 1) rfl)) (allS (Or.inl (List.mem_of_getElem? (i := 2) rfl)) all0)))
  obtain ⟨T4, X4, e4, st4⟩ := getF X3 hx hZ hown (host := "") (Or.inl (hw _ (List.mem_of_getElem? (i := 10) rfl))) Via.refl rfl wR3 (g := (mkF m 33 #[.val (.ref a1), .val (.int p1), .val (.int (p1 * (8 : Int32))), .val (.int q1), .val (.int q2)] [(.ref a1)])) rfl rfl (hb hby d14_33)
  obtain ⟨T5, h5, L5, X5, N5, e5, W5, Vr1_5, st5⟩ := own_stI X4 hx hZ e4 wV3 N3 g_r1 (own_wrv f4).1 (own_wrv f4).2.1 (g := (mkF m 41 #[.val (.ref a1), .val (.int p1), .val (.int (p1 * (8 : Int32))), .val (.int q1), .val (.int q2)] [(.int (0 : Int32)), (.int ((p1 * (8 : Int32)) + (6 : Int32))), (.ref r1)])) rfl rfl (hb hby d14_41)
  have wE3_e5 := wE3.wr W5
  have wR3_e5 := wR3.other W5 (Or.inl ne_a1_r1)
  have wL3_e5 := wL3.other W5 (Or.inl ne_a1_r1)
  have wD3_e5 := wD3.other W5 (Or.inl ne_a1_r1)
  have wU3_e5 := wU3.other W5 (Or.inl ne_a1_r1)
  have wW3_e5 := wW3.other W5 (Ne.symm ne_r1_el1)
  have Z5 : n0 ≤ h5.size := W5.size.symm ▸ Z3
  have K5 : Keep h0 h5 [a1, r1, el1] := K3'.wr W5 (Or.inl (List.mem_of_getElem? (i := 1) rfl))
  have Vr1_5' : AL Z h5 r1 .int (x2.map Value.int) := (own_wrv f4).2.2 ▸ Vr1_5
  by_cases h1 : q1 = q2
  · obtain ⟨fs, hr, hrun, hended, hW, hsame⟩ := X5.leave (v := some (.int q1)) (fun h => by rw [Bd.returns] at h; cases h)
    refine ⟨_, _, pre0 _ ?_, hrun, hended, _, _, rfl, ?_, ⟨_, rfl⟩, hW, hsame.mono (by decide) (by decide)⟩
    · show Steps p.tables e below (s₁.setTop (mkF m 0 #[.val (.ref a1), .val (.int p1), .unset, .unset, .unset] [])) _
      refine XS.iloadN X0.here hx rfl (hb hby d14_0) rfl ?_
      show Steps p.tables e below (s₁.setTop (mkF m 1 #[.val (.ref a1), .val (.int p1), .unset, .unset, .unset] [(.int p1)])) _
      refine XS.bipush X0.here hx rfl (hb hby d14_1) ?_
      show Steps p.tables e below (s₁.setTop (mkF m 3 #[.val (.ref a1), .val (.int p1), .unset, .unset, .unset] [(.int (8 : Int32)), (.int p1)])) _
      refine XS.imul X0.here hx rfl (hb hby d14_3) rfl ?_
      show Steps p.tables e below (s₁.setTop (mkF m 4 #[.val (.ref a1), .val (.int p1), .unset, .unset, .unset] [(.int (p1 * (8 : Int32)))])) _
      refine XS.istoreN X0.here hx rfl (hb hby d14_4) rfl (l' := #[.val (.ref a1), .val (.int p1), .val (.int (p1 * (8 : Int32))), .unset, .unset]) rfl ?_
      show Steps p.tables e below (s₁.setTop (mkF m 5 #[.val (.ref a1), .val (.int p1), .val (.int (p1 * (8 : Int32))), .unset, .unset] [])) _
      refine XS.aloadN X0.here hx rfl (hb hby d14_5) rfl rfl ?_
      show Steps p.tables e below (s₁.setTop (mkF m 6 #[.val (.ref a1), .val (.int p1), .val (.int (p1 * (8 : Int32))), .unset, .unset] [(.ref a1)])) _
      refine st1 _ ?_
      show Steps p.tables e below (T1.setTop (mkF m 9 #[.val (.ref a1), .val (.int p1), .val (.int (p1 * (8 : Int32))), .unset, .unset] [(.ref r1)])) _
      refine XS.iloadN X1.here hx rfl (hb hby d14_9) rfl ?_
      show Steps p.tables e below (T1.setTop (mkF m 10 #[.val (.ref a1), .val (.int p1), .val (.int (p1 * (8 : Int32))), .unset, .unset] [(.int (p1 * (8 : Int32))), (.ref r1)])) _
      refine XS.iconst X1.here hx rfl (hb hby d14_10) ?_
      show Steps p.tables e below (T1.setTop (mkF m 11 #[.val (.ref a1), .val (.int p1), .val (.int (p1 * (8 : Int32))), .unset, .unset] [(.int (4 : Int32)), (.int (p1 * (8 : Int32))), (.ref r1)])) _
      refine XS.iadd X1.here hx rfl (hb hby d14_11) rfl ?_
      show Steps p.tables e below (T1.setTop (mkF m 12 #[.val (.ref a1), .val (.int p1), .val (.int (p1 * (8 : Int32))), .unset, .unset] [(.int ((p1 * (8 : Int32)) + (4 : Int32))), (.ref r1)])) _
      refine own_ldI X1 hx hZ e1 Vr (x := q1) (own_rdv f1).1 (own_rdv f1).2 (g := (mkF m 12 #[.val (.ref a1), .val (.int p1), .val (.int (p1 * (8 : Int32))), .unset, .unset] [(.int ((p1 * (8 : Int32)) + (4 : Int32))), (.ref r1)])) rfl rfl (hb hby d14_12) _ ?_
      show Steps p.tables e below (T1.setTop (mkF m 13 #[.val (.ref a1), .val (.int p1), .val (.int (p1 * (8 : Int32))), .unset, .unset] [(.int q1)])) _
      refine XS.istoreN X1.here hx rfl (hb hby d14_13) rfl (l' := #[.val (.ref a1), .val (.int p1), .val (.int (p1 * (8 : Int32))), .val (.int q1), .unset]) rfl ?_
      show Steps p.tables e below (T1.setTop (mkF m 14 #[.val (.ref a1), .val (.int p1), .val (.int (p1 * (8 : Int32))), .val (.int q1), .unset] [])) _
      refine XS.aloadN X1.here hx rfl (hb hby d14_14) rfl rfl ?_
      show Steps p.tables e below (T1.setTop (mkF m 15 #[.val (.ref a1), .val (.int p1), .val (.int (p1 * (8 : Int32))), .val (.int q1), .unset] [(.ref a1)])) _
      refine st2 _ ?_
      show Steps p.tables e below (T2.setTop (mkF m 18 #[.val (.ref a1), .val (.int p1), .val (.int (p1 * (8 : Int32))), .val (.int q1), .unset] [(.ref r1)])) _
      refine XS.iloadN X2.here hx rfl (hb hby d14_18) rfl ?_
      show Steps p.tables e below (T2.setTop (mkF m 19 #[.val (.ref a1), .val (.int p1), .val (.int (p1 * (8 : Int32))), .val (.int q1), .unset] [(.int (p1 * (8 : Int32))), (.ref r1)])) _
      refine XS.iconst X2.here hx rfl (hb hby d14_19) ?_
      show Steps p.tables e below (T2.setTop (mkF m 20 #[.val (.ref a1), .val (.int p1), .val (.int (p1 * (8 : Int32))), .val (.int q1), .unset] [(.int (4 : Int32)), (.int (p1 * (8 : Int32))), (.ref r1)])) _
      refine XS.iadd X2.here hx rfl (hb hby d14_20) rfl ?_
      show Steps p.tables e below (T2.setTop (mkF m 21 #[.val (.ref a1), .val (.int p1), .val (.int (p1 * (8 : Int32))), .val (.int q1), .unset] [(.int ((p1 * (8 : Int32)) + (4 : Int32))), (.ref r1)])) _
      refine XS.iconst X2.here hx rfl (hb hby d14_21) ?_
      show Steps p.tables e below (T2.setTop (mkF m 22 #[.val (.ref a1), .val (.int p1), .val (.int (p1 * (8 : Int32))), .val (.int q1), .unset] [(.int (1 : Int32)), (.int ((p1 * (8 : Int32)) + (4 : Int32))), (.ref r1)])) _
      refine XS.iadd X2.here hx rfl (hb hby d14_22) rfl ?_
      show Steps p.tables e below (T2.setTop (mkF m 23 #[.val (.ref a1), .val (.int p1), .val (.int (p1 * (8 : Int32))), .val (.int q1), .unset] [(.int (((p1 * (8 : Int32)) + (4 : Int32)) + (1 : Int32))), (.ref r1)])) _
      refine own_ldI X2 hx hZ e2 Vr (x := q2) (own_rdv f2).1 (own_rdv f2).2 (g := (mkF m 23 #[.val (.ref a1), .val (.int p1), .val (.int (p1 * (8 : Int32))), .val (.int q1), .unset] [(.int (((p1 * (8 : Int32)) + (4 : Int32)) + (1 : Int32))), (.ref r1)])) rfl rfl (hb hby d14_23) _ ?_
      show Steps p.tables e below (T2.setTop (mkF m 24 #[.val (.ref a1), .val (.int p1), .val (.int (p1 * (8 : Int32))), .val (.int q1), .unset] [(.int q2)])) _
      refine XS.istore X2.here hx rfl (hb hby d14_24) rfl (l' := #[.val (.ref a1), .val (.int p1), .val (.int (p1 * (8 : Int32))), .val (.int q1), .val (.int q2)]) rfl ?_
      show Steps p.tables e below (T2.setTop (mkF m 26 #[.val (.ref a1), .val (.int p1), .val (.int (p1 * (8 : Int32))), .val (.int q1), .val (.int q2)] [])) _
      refine XS.aloadN X2.here hx rfl (hb hby d14_26) rfl rfl ?_
      show Steps p.tables e below (T2.setTop (mkF m 27 #[.val (.ref a1), .val (.int p1), .val (.int (p1 * (8 : Int32))), .val (.int q1), .val (.int q2)] [(.ref a1)])) _
      refine XS.iconst X2.here hx rfl (hb hby d14_27) ?_
      show Steps p.tables e below (T2.setTop (mkF m 28 #[.val (.ref a1), .val (.int p1), .val (.int (p1 * (8 : Int32))), .val (.int q1), .val (.int q2)] [(.int (4 : Int32)), (.ref a1)])) _
      refine XS.iloadN X2.here hx rfl (hb hby d14_28) rfl ?_
      show Steps p.tables e below (T2.setTop (mkF m 29 #[.val (.ref a1), .val (.int p1), .val (.int (p1 * (8 : Int32))), .val (.int q1), .val (.int q2)] [(.int p1), (.int (4 : Int32)), (.ref a1)])) _
      refine st3.trans ?_
      show Steps p.tables e below (T3.setTop (mkF m 32 #[.val (.ref a1), .val (.int p1), .val (.int (p1 * (8 : Int32))), .val (.int q1), .val (.int q2)] [])) _
      refine XS.aloadN X3.here hx rfl (hb hby d14_32) rfl rfl ?_
      show Steps p.tables e below (T3.setTop (mkF m 33 #[.val (.ref a1), .val (.int p1), .val (.int (p1 * (8 : Int32))), .val (.int q1), .val (.int q2)] [(.ref a1)])) _
      refine st4 _ ?_
      show Steps p.tables e below (T4.setTop (mkF m 36 #[.val (.ref a1), .val (.int p1), .val (.int (p1 * (8 : Int32))), .val (.int q1), .val (.int q2)] [(.ref r1)])) _
      refine XS.iloadN X4.here hx rfl (hb hby d14_36) rfl ?_
      show Steps p.tables e below (T4.setTop (mkF m 37 #[.val (.ref a1), .val (.int p1), .val (.int (p1 * (8 : Int32))), .val (.int q1), .val (.int q2)] [(.int (p1 * (8 : Int32))), (.ref r1)])) _
      refine XS.bipush X4.here hx rfl (hb hby d14_37) ?_
      show Steps p.tables e below (T4.setTop (mkF m 39 #[.val (.ref a1), .val (.int p1), .val (.int (p1 * (8 : Int32))), .val (.int q1), .val (.int q2)] [(.int (6 : Int32)), (.int (p1 * (8 : Int32))), (.ref r1)])) _
      refine XS.iadd X4.here hx rfl (hb hby d14_39) rfl ?_
      show Steps p.tables e below (T4.setTop (mkF m 40 #[.val (.ref a1), .val (.int p1), .val (.int (p1 * (8 : Int32))), .val (.int q1), .val (.int q2)] [(.int ((p1 * (8 : Int32)) + (6 : Int32))), (.ref r1)])) _
      refine XS.iconst X4.here hx rfl (hb hby d14_40) ?_
      show Steps p.tables e below (T4.setTop (mkF m 41 #[.val (.ref a1), .val (.int p1), .val (.int (p1 * (8 : Int32))), .val (.int q1), .val (.int q2)] [(.int (0 : Int32)), (.int ((p1 * (8 : Int32)) + (6 : Int32))), (.ref r1)])) _
      refine st5 _ ?_
      show Steps p.tables e below (T5.setTop (mkF m 42 #[.val (.ref a1), .val (.int p1), .val (.int (p1 * (8 : Int32))), .val (.int q1), .val (.int q2)] [])) _
      refine XS.iloadN X5.here hx rfl (hb hby d14_42) rfl ?_
      show Steps p.tables e below (T5.setTop (mkF m 43 #[.val (.ref a1), .val (.int p1), .val (.int (p1 * (8 : Int32))), .val (.int q1), .val (.int q2)] [(.int q1)])) _
      refine XS.iload X5.here hx rfl (hb hby d14_43) rfl ?_
      show Steps p.tables e below (T5.setTop (mkF m 45 #[.val (.ref a1), .val (.int p1), .val (.int (p1 * (8 : Int32))), .val (.int q1), .val (.int q2)] [(.int q2), (.int q1)])) _
      refine XS.icmpNo X5.here hx rfl (hb hby d14_45) rfl (teq (h1 : q1 = q2)).2 ?_
      show Steps p.tables e below (T5.setTop (mkF m 48 #[.val (.ref a1), .val (.int p1), .val (.int (p1 * (8 : Int32))), .val (.int q1), .val (.int q2)] [])) _
      refine XS.iloadN X5.here hx rfl (hb hby d14_48) rfl ?_
      show Steps p.tables e below (T5.setTop (mkF m 49 #[.val (.ref a1), .val (.int p1), .val (.int (p1 * (8 : Int32))), .val (.int q1), .val (.int q2)] [(.int q1)])) _
      refine XS.goto X5.here hx rfl (pc0 := 49) (pc' := 53) rfl (hb hby d14_49) (by decide) (by decide) ?_
      show Steps p.tables e below (T5.setTop (mkF m 53 #[.val (.ref a1), .val (.int p1), .val (.int (p1 * (8 : Int32))), .val (.int q1), .val (.int q2)] [(.int q1)])) _
      exact retI X5 hx Bd.returns (hb hby d14_53) hr
    · show Q14 Z a1 r1 el1 u x2 (if q1 = q2 then q1 else -1) h0 n0 _ T5.heap _
      rw [e5]
      exact ⟨by rw [if_pos h1], N5, K5, ⟨wE3_e5, wR3_e5, wL3_e5, wD3_e5, wU3_e5, Vr1_5', wW3_e5, g_a1, g_r1, g_el1, ne_a1_r1, ne_a1_el1, ne_r1_el1⟩⟩
  · obtain ⟨fs, hr, hrun, hended, hW, hsame⟩ := X5.leave (v := some (.int (-1 : Int32))) (fun h => by rw [Bd.returns] at h; cases h)
    refine ⟨_, _, pre0 _ ?_, hrun, hended, _, _, rfl, ?_, ⟨_, rfl⟩, hW, hsame.mono (by decide) (by decide)⟩
    · show Steps p.tables e below (s₁.setTop (mkF m 0 #[.val (.ref a1), .val (.int p1), .unset, .unset, .unset] [])) _
      refine XS.iloadN X0.here hx rfl (hb hby d14_0) rfl ?_
      show Steps p.tables e below (s₁.setTop (mkF m 1 #[.val (.ref a1), .val (.int p1), .unset, .unset, .unset] [(.int p1)])) _
      refine XS.bipush X0.here hx rfl (hb hby d14_1) ?_
      show Steps p.tables e below (s₁.setTop (mkF m 3 #[.val (.ref a1), .val (.int p1), .unset, .unset, .unset] [(.int (8 : Int32)), (.int p1)])) _
      refine XS.imul X0.here hx rfl (hb hby d14_3) rfl ?_
      show Steps p.tables e below (s₁.setTop (mkF m 4 #[.val (.ref a1), .val (.int p1), .unset, .unset, .unset] [(.int (p1 * (8 : Int32)))])) _
      refine XS.istoreN X0.here hx rfl (hb hby d14_4) rfl (l' := #[.val (.ref a1), .val (.int p1), .val (.int (p1 * (8 : Int32))), .unset, .unset]) rfl ?_
      show Steps p.tables e below (s₁.setTop (mkF m 5 #[.val (.ref a1), .val (.int p1), .val (.int (p1 * (8 : Int32))), .unset, .unset] [])) _
      refine XS.aloadN X0.here hx rfl (hb hby d14_5) rfl rfl ?_
      show Steps p.tables e below (s₁.setTop (mkF m 6 #[.val (.ref a1), .val (.int p1), .val (.int (p1 * (8 : Int32))), .unset, .unset] [(.ref a1)])) _
      refine st1 _ ?_
      show Steps p.tables e below (T1.setTop (mkF m 9 #[.val (.ref a1), .val (.int p1), .val (.int (p1 * (8 : Int32))), .unset, .unset] [(.ref r1)])) _
      refine XS.iloadN X1.here hx rfl (hb hby d14_9) rfl ?_
      show Steps p.tables e below (T1.setTop (mkF m 10 #[.val (.ref a1), .val (.int p1), .val (.int (p1 * (8 : Int32))), .unset, .unset] [(.int (p1 * (8 : Int32))), (.ref r1)])) _
      refine XS.iconst X1.here hx rfl (hb hby d14_10) ?_
      show Steps p.tables e below (T1.setTop (mkF m 11 #[.val (.ref a1), .val (.int p1), .val (.int (p1 * (8 : Int32))), .unset, .unset] [(.int (4 : Int32)), (.int (p1 * (8 : Int32))), (.ref r1)])) _
      refine XS.iadd X1.here hx rfl (hb hby d14_11) rfl ?_
      show Steps p.tables e below (T1.setTop (mkF m 12 #[.val (.ref a1), .val (.int p1), .val (.int (p1 * (8 : Int32))), .unset, .unset] [(.int ((p1 * (8 : Int32)) + (4 : Int32))), (.ref r1)])) _
      refine own_ldI X1 hx hZ e1 Vr (x := q1) (own_rdv f1).1 (own_rdv f1).2 (g := (mkF m 12 #[.val (.ref a1), .val (.int p1), .val (.int (p1 * (8 : Int32))), .unset, .unset] [(.int ((p1 * (8 : Int32)) + (4 : Int32))), (.ref r1)])) rfl rfl (hb hby d14_12) _ ?_
      show Steps p.tables e below (T1.setTop (mkF m 13 #[.val (.ref a1), .val (.int p1), .val (.int (p1 * (8 : Int32))), .unset, .unset] [(.int q1)])) _
      refine XS.istoreN X1.here hx rfl (hb hby d14_13) rfl (l' := #[.val (.ref a1), .val (.int p1), .val (.int (p1 * (8 : Int32))), .val (.int q1), .unset]) rfl ?_
      show Steps p.tables e below (T1.setTop (mkF m 14 #[.val (.ref a1), .val (.int p1), .val (.int (p1 * (8 : Int32))), .val (.int q1), .unset] [])) _
      refine XS.aloadN X1.here hx rfl (hb hby d14_14) rfl rfl ?_
      show Steps p.tables e below (T1.setTop (mkF m 15 #[.val (.ref a1), .val (.int p1), .val (.int (p1 * (8 : Int32))), .val (.int q1), .unset] [(.ref a1)])) _
      refine st2 _ ?_
      show Steps p.tables e below (T2.setTop (mkF m 18 #[.val (.ref a1), .val (.int p1), .val (.int (p1 * (8 : Int32))), .val (.int q1), .unset] [(.ref r1)])) _
      refine XS.iloadN X2.here hx rfl (hb hby d14_18) rfl ?_
      show Steps p.tables e below (T2.setTop (mkF m 19 #[.val (.ref a1), .val (.int p1), .val (.int (p1 * (8 : Int32))), .val (.int q1), .unset] [(.int (p1 * (8 : Int32))), (.ref r1)])) _
      refine XS.iconst X2.here hx rfl (hb hby d14_19) ?_
      show Steps p.tables e below (T2.setTop (mkF m 20 #[.val (.ref a1), .val (.int p1), .val (.int (p1 * (8 : Int32))), .val (.int q1), .unset] [(.int (4 : Int32)), (.int (p1 * (8 : Int32))), (.ref r1)])) _
      refine XS.iadd X2.here hx rfl (hb hby d14_20) rfl ?_
      show Steps p.tables e below (T2.setTop (mkF m 21 #[.val (.ref a1), .val (.int p1), .val (.int (p1 * (8 : Int32))), .val (.int q1), .unset] [(.int ((p1 * (8 : Int32)) + (4 : Int32))), (.ref r1)])) _
      refine XS.iconst X2.here hx rfl (hb hby d14_21) ?_
      show Steps p.tables e below (T2.setTop (mkF m 22 #[.val (.ref a1), .val (.int p1), .val (.int (p1 * (8 : Int32))), .val (.int q1), .unset] [(.int (1 : Int32)), (.int ((p1 * (8 : Int32)) + (4 : Int32))), (.ref r1)])) _
      refine XS.iadd X2.here hx rfl (hb hby d14_22) rfl ?_
      show Steps p.tables e below (T2.setTop (mkF m 23 #[.val (.ref a1), .val (.int p1), .val (.int (p1 * (8 : Int32))), .val (.int q1), .unset] [(.int (((p1 * (8 : Int32)) + (4 : Int32)) + (1 : Int32))), (.ref r1)])) _
      refine own_ldI X2 hx hZ e2 Vr (x := q2) (own_rdv f2).1 (own_rdv f2).2 (g := (mkF m 23 #[.val (.ref a1), .val (.int p1), .val (.int (p1 * (8 : Int32))), .val (.int q1), .unset] [(.int (((p1 * (8 : Int32)) + (4 : Int32)) + (1 : Int32))), (.ref r1)])) rfl rfl (hb hby d14_23) _ ?_
      show Steps p.tables e below (T2.setTop (mkF m 24 #[.val (.ref a1), .val (.int p1), .val (.int (p1 * (8 : Int32))), .val (.int q1), .unset] [(.int q2)])) _
      refine XS.istore X2.here hx rfl (hb hby d14_24) rfl (l' := #[.val (.ref a1), .val (.int p1), .val (.int (p1 * (8 : Int32))), .val (.int q1), .val (.int q2)]) rfl ?_
      show Steps p.tables e below (T2.setTop (mkF m 26 #[.val (.ref a1), .val (.int p1), .val (.int (p1 * (8 : Int32))), .val (.int q1), .val (.int q2)] [])) _
      refine XS.aloadN X2.here hx rfl (hb hby d14_26) rfl rfl ?_
      show Steps p.tables e below (T2.setTop (mkF m 27 #[.val (.ref a1), .val (.int p1), .val (.int (p1 * (8 : Int32))), .val (.int q1), .val (.int q2)] [(.ref a1)])) _
      refine XS.iconst X2.here hx rfl (hb hby d14_27) ?_
      show Steps p.tables e below (T2.setTop (mkF m 28 #[.val (.ref a1), .val (.int p1), .val (.int (p1 * (8 : Int32))), .val (.int q1), .val (.int q2)] [(.int (4 : Int32)), (.ref a1)])) _
      refine XS.iloadN X2.here hx rfl (hb hby d14_28) rfl ?_
      show Steps p.tables e below (T2.setTop (mkF m 29 #[.val (.ref a1), .val (.int p1), .val (.int (p1 * (8 : Int32))), .val (.int q1), .val (.int q2)] [(.int p1), (.int (4 : Int32)), (.ref a1)])) _
      refine st3.trans ?_
      show Steps p.tables e below (T3.setTop (mkF m 32 #[.val (.ref a1), .val (.int p1), .val (.int (p1 * (8 : Int32))), .val (.int q1), .val (.int q2)] [])) _
      refine XS.aloadN X3.here hx rfl (hb hby d14_32) rfl rfl ?_
      show Steps p.tables e below (T3.setTop (mkF m 33 #[.val (.ref a1), .val (.int p1), .val (.int (p1 * (8 : Int32))), .val (.int q1), .val (.int q2)] [(.ref a1)])) _
      refine st4 _ ?_
      show Steps p.tables e below (T4.setTop (mkF m 36 #[.val (.ref a1), .val (.int p1), .val (.int (p1 * (8 : Int32))), .val (.int q1), .val (.int q2)] [(.ref r1)])) _
      refine XS.iloadN X4.here hx rfl (hb hby d14_36) rfl ?_
      show Steps p.tables e below (T4.setTop (mkF m 37 #[.val (.ref a1), .val (.int p1), .val (.int (p1 * (8 : Int32))), .val (.int q1), .val (.int q2)] [(.int (p1 * (8 : Int32))), (.ref r1)])) _
      refine XS.bipush X4.here hx rfl (hb hby d14_37) ?_
      show Steps p.tables e below (T4.setTop (mkF m 39 #[.val (.ref a1), .val (.int p1), .val (.int (p1 * (8 : Int32))), .val (.int q1), .val (.int q2)] [(.int (6 : Int32)), (.int (p1 * (8 : Int32))), (.ref r1)])) _
      refine XS.iadd X4.here hx rfl (hb hby d14_39) rfl ?_
      show Steps p.tables e below (T4.setTop (mkF m 40 #[.val (.ref a1), .val (.int p1), .val (.int (p1 * (8 : Int32))), .val (.int q1), .val (.int q2)] [(.int ((p1 * (8 : Int32)) + (6 : Int32))), (.ref r1)])) _
      refine XS.iconst X4.here hx rfl (hb hby d14_40) ?_
      show Steps p.tables e below (T4.setTop (mkF m 41 #[.val (.ref a1), .val (.int p1), .val (.int (p1 * (8 : Int32))), .val (.int q1), .val (.int q2)] [(.int (0 : Int32)), (.int ((p1 * (8 : Int32)) + (6 : Int32))), (.ref r1)])) _
      refine st5 _ ?_
      show Steps p.tables e below (T5.setTop (mkF m 42 #[.val (.ref a1), .val (.int p1), .val (.int (p1 * (8 : Int32))), .val (.int q1), .val (.int q2)] [])) _
      refine XS.iloadN X5.here hx rfl (hb hby d14_42) rfl ?_
      show Steps p.tables e below (T5.setTop (mkF m 43 #[.val (.ref a1), .val (.int p1), .val (.int (p1 * (8 : Int32))), .val (.int q1), .val (.int q2)] [(.int q1)])) _
      refine XS.iload X5.here hx rfl (hb hby d14_43) rfl ?_
      show Steps p.tables e below (T5.setTop (mkF m 45 #[.val (.ref a1), .val (.int p1), .val (.int (p1 * (8 : Int32))), .val (.int q1), .val (.int q2)] [(.int q2), (.int q1)])) _
      refine XS.icmpYes X5.here hx rfl (pc0 := 45) (pc' := 52) rfl (hb hby d14_45) rfl (feq (h1 : ¬ (q1 = q2))).2 (by decide) (by decide) ?_
      show Steps p.tables e below (T5.setTop (mkF m 52 #[.val (.ref a1), .val (.int p1), .val (.int (p1 * (8 : Int32))), .val (.int q1), .val (.int q2)] [])) _
      refine XS.iconst X5.here hx rfl (hb hby d14_52) ?_
      show Steps p.tables e below (T5.setTop (mkF m 53 #[.val (.ref a1), .val (.int p1), .val (.int (p1 * (8 : Int32))), .val (.int q1), .val (.int q2)] [(.int (-1 : Int32))])) _
      exact retI X5 hx Bd.returns (hb hby d14_53) hr
    · show Q14 Z a1 r1 el1 u x2 (if q1 = q2 then q1 else -1) h0 n0 _ T5.heap _
      rw [e5]
      exact ⟨by rw [if_neg h1], N5, K5, ⟨wE3_e5, wR3_e5, wL3_e5, wD3_e5, wU3_e5, Vr1_5', wW3_e5, g_a1, g_r1, g_el1, ne_a1_r1, ne_a1_el1, ne_r1_el1⟩⟩

set_option maxRecDepth 65536 in
set_option maxHeartbeats 40000000 in
theorem own_loopLU {p : Program} {l : Launch} {e : Env} {R : Room} {s : State} {m : MethodId} {args : Array Value} {below : List Frame} {meth : Method} {c : Code} {cells slots : Nat} {Z : State} {n0 : Nat} (hx : p.tables.exec = Jvm.exec) (hZ : Z.Warmed39 s.vm) (hby : c.code = prog_64_method_8_code) (a1 a2 r1 : Addr) (p1 p3 p4 pd sc : Int32) (ys : List Int32) (g_r1 : n0 ≤ r1) (ne2 : a2 ≠ r1) :
    ∀ (K : Nat) (i pv : Int32) (xs : List Int32) (T0 : State) (locs : List Loc) (h0 : Heap) (s10 : Slot) (zs : List Int32) (pv' : Int32), Stand p l e R s m args below meth c T0 locs cells slots → T0.heap = h0 → Fr n0 locs → n0 ≤ h0.size → AL Z h0 r1 .int (xs.map Value.int) → AL Z h0 a2 .int (ys.map Value.int) → i.toInt + K = p3.toInt → 0 ≤ i.toInt → p3.toInt < 1000 → own_luL ys K i pv xs = some (zs, pv') → One s10 →
      ∃ (T' : State) (L' : List Loc) (h' : Heap) (s' : Slot) (i' : Int32), Stand p l e R s m args below meth c T' L' cells slots ∧ T'.heap = h' ∧ Fr n0 L' ∧ AL Z h' r1 .int (zs.map Value.int) ∧ Keep h0 h' [r1] ∧ One s' ∧ ∀ t, Steps p.tables e below (T'.setTop (mkF m 115 #[.val (.ref a1), .val (.int p1), .val (.ref a2), .val (.int p3), .val (.int p4), .val (.ref r1), .val (.int pd), .val (.int sc), .val (.int pv'), .val (.int i'), s'] [])) t → Steps p.tables e below (T0.setTop (mkF m 55 #[.val (.ref a1), .val (.int p1), .val (.ref a2), .val (.int p3), .val (.int p4), .val (.ref r1), .val (.int pd), .val (.int sc), .val (.int pv), .val (.int i), s10] [])) t := by
  intro K
  induction K with
  | zero =>
    intro i pv xs T0 locs h0 s10 zs pv' X0 e0 N0 Z0 V1 V2 hi h0_ h3_ hF hs
    obtain ⟨rfl, rfl⟩ := Prod.mk.inj (Option.some.inj hF)
    refine ⟨T0, locs, h0, s10, i, X0, e0, N0, V1, Keep.refl _ _, hs, fun t k => ?_⟩
    show Steps p.tables e below (T0.setTop (mkF m 55 #[.val (.ref a1), .val (.int p1), .val (.ref a2), .val (.int p3), .val (.int p4), .val (.ref r1), .val (.int pd), .val (.int sc), .val (.int pv), .val (.int i), s10] [])) _
    refine XS.iload X0.here hx rfl (hb hby d9_55) rfl ?_
    show Steps p.tables e below (T0.setTop (mkF m 57 #[.val (.ref a1), .val (.int p1), .val (.ref a2), .val (.int p3), .val (.int p4), .val (.ref r1), .val (.int pd), .val (.int sc), .val (.int pv), .val (.int i), s10] [(.int i)])) _
    refine XS.iloadN X0.here hx rfl (hb hby d9_57) rfl ?_
    show Steps p.tables e below (T0.setTop (mkF m 58 #[.val (.ref a1), .val (.int p1), .val (.ref a2), .val (.int p3), .val (.int p4), .val (.ref r1), .val (.int pd), .val (.int sc), .val (.int pv), .val (.int i), s10] [(.int p3), (.int i)])) _
    refine XS.icmpYes X0.here hx rfl (pc0 := 58) (pc' := 115) rfl (hb hby d9_58) rfl (flt (by rw [Int32.lt_iff_toInt_lt]; omega : ¬ (i < p3))).2.1 (by decide) (by decide) ?_
    exact k
  | succ K ih =>
    intro i pv xs T0 locs h0 s10 zs pv' X0 e0 N0 Z0 V1 V2 hi h0_ h3_ hF hs
    obtain ⟨nd, f1, G1⟩ := Option.bind_eq_some_iff.mp hF
    obtain ⟨x1, f2, G2⟩ := Option.bind_eq_some_iff.mp G1
    obtain ⟨x2, f3, G3⟩ := Option.bind_eq_some_iff.mp G2
    obtain ⟨x3, f4, G4⟩ := Option.bind_eq_some_iff.mp G3
    have ei : (i + (1 : Int32)).toInt = i.toInt + 1 := by
      have := c_iadd i (1 : Int32); have := rng32 (i + (1 : Int32)); have : (1 : Int32).toInt = 1 := by decide
      omega
    have pre0 : ∀ t, Steps p.tables e below (T0.setTop (mkF m 55 #[.val (.ref a1), .val (.int p1), .val (.ref a2), .val (.int p3), .val (.int p4), .val (.ref r1), .val (.int pd), .val (.int sc), .val (.int pv), .val (.int i), s10] [])) t → Steps p.tables e below (T0.setTop (mkF m 55 #[.val (.ref a1), .val (.int p1), .val (.ref a2), .val (.int p3), .val (.int p4), .val (.ref r1), .val (.int pd), .val (.int sc), .val (.int pv), .val (.int i), s10] [])) t := fun t k => k
    have KA : Keep h0 h0 [r1] := Keep.refl _ _
    obtain ⟨T1, h1, L1, X1, N1, e1, W1, Vr1_1, st1⟩ := own_stI X0 hx hZ e0 V1 N0 g_r1 (own_wrv f2).1 (own_wrv f2).2.1 (g := (mkF m 80 #[.val (.ref a1), .val (.int p1), .val (.ref a2), .val (.int p3), .val (.int p4), .val (.ref r1), .val (.int pd), .val (.int sc), .val (.int pv), .val (.int i), .val (.int nd)] [(.int nd), (.int (((pv * (8 : Int32)) + (4 : Int32)) + (1 : Int32))), (.ref r1)])) rfl rfl (hb hby d9_80)
    have V2_e1 := V2.other W1 ne2
    have Z1 : n0 ≤ h1.size := W1.size.symm ▸ Z0
    have K1 : Keep h0 h1 [r1] := KA.wr W1 (Or.inl (List.mem_of_getElem? (i := 0) rfl))
    have Vr1_1' : AL Z h1 r1 .int (x1.map Value.int) := (own_wrv f2).2.2 ▸ Vr1_1
    obtain ⟨T2, h2, L2, X2, N2, e2, W2, Vr1_2, st2⟩ := own_stI X1 hx hZ e1 Vr1_1' N1 g_r1 (own_wrv f3).1 (own_wrv f3).2.1 (g := (mkF m 92 #[.val (.ref a1), .val (.int p1), .val (.ref a2), .val (.int p3), .val (.int p4), .val (.ref r1), .val (.int pd), .val (.int sc), .val (.int pv), .val (.int i), .val (.int nd)] [(.int pv), (.int ((nd * (8 : Int32)) + (4 : Int32))), (.ref r1)])) rfl rfl (hb hby d9_92)
    have V2_e2 := V2_e1.other W2 ne2
    have Z2 : n0 ≤ h2.size := W2.size.symm ▸ Z1
    have K2 : Keep h0 h2 [r1] := K1.wr W2 (Or.inl (List.mem_of_getElem? (i := 0) rfl))
    have Vr1_2' : AL Z h2 r1 .int (x2.map Value.int) := (own_wrv f3).2.2 ▸ Vr1_2
    obtain ⟨T3, h3, L3, X3, N3, e3, W3, Vr1_3, st3⟩ := own_stI X2 hx hZ e2 Vr1_2' N2 g_r1 (own_wrv f4).1 (own_wrv f4).2.1 (g := (mkF m 104 #[.val (.ref a1), .val (.int p1), .val (.ref a2), .val (.int p3), .val (.int p4), .val (.ref r1), .val (.int pd), .val (.int sc), .val (.int pv), .val (.int i), .val (.int nd)] [(.int (1 : Int32)), (.int ((nd * (8 : Int32)) + (6 : Int32))), (.ref r1)])) rfl rfl (hb hby d9_104)
    have V2_e3 := V2_e2.other W3 ne2
    have Z3 : n0 ≤ h3.size := W3.size.symm ▸ Z2
    have K3 : Keep h0 h3 [r1] := K2.wr W3 (Or.inl (List.mem_of_getElem? (i := 0) rfl))
    have Vr1_3' : AL Z h3 r1 .int (x3.map Value.int) := (own_wrv f4).2.2 ▸ Vr1_3
    have pre4 : ∀ t, Steps p.tables e below (T3.setTop (mkF m 55 #[.val (.ref a1), .val (.int p1), .val (.ref a2), .val (.int p3), .val (.int p4), .val (.ref r1), .val (.int pd), .val (.int sc), .val (.int nd), .val (.int (i + (1 : Int32))), .val (.int nd)] [])) t → Steps p.tables e below (T0.setTop (mkF m 55 #[.val (.ref a1), .val (.int p1), .val (.ref a2), .val (.int p3), .val (.int p4), .val (.ref r1), .val (.int pd), .val (.int sc), .val (.int pv), .val (.int i), s10] [])) t := fun t k => pre0 t (by
      show Steps p.tables e below (T0.setTop (mkF m 55 #[.val (.ref a1), .val (.int p1), .val (.ref a2), .val (.int p3), .val (.int p4), .val (.ref r1), .val (.int pd), .val (.int sc), .val (.int pv), .val (.int i), s10] [])) _
      refine XS.iload X0.here hx rfl (hb hby d9_55) rfl ?_
      show Steps p.tables e below (T0.setTop (mkF m 57 #[.val (.ref a1), .val (.int p1), .val (.ref a2), .val (.int p3), .val (.int p4), .val (.ref r1), .val (.int pd), .val (.int sc), .val (.int pv), .val (.int i), s10] [(.int i)])) _
      refine XS.iloadN X0.here hx rfl (hb hby d9_57) rfl ?_
      show Steps p.tables e below (T0.setTop (mkF m 58 #[.val (.ref a1), .val (.int p1), .val (.ref a2), .val (.int p3), .val (.int p4), .val (.ref r1), .val (.int pd), .val (.int sc), .val (.int pv), .val (.int i), s10] [(.int p3), (.int i)])) _
      refine XS.icmpNo X0.here hx rfl (hb hby d9_58) rfl (tlt (by rw [Int32.lt_iff_toInt_lt]; omega : i < p3)).2.1 ?_
      show Steps p.tables e below (T0.setTop (mkF m 61 #[.val (.ref a1), .val (.int p1), .val (.ref a2), .val (.int p3), .val (.int p4), .val (.ref r1), .val (.int pd), .val (.int sc), .val (.int pv), .val (.int i), s10] [])) _
      refine XS.aloadN X0.here hx rfl (hb hby d9_61) rfl rfl ?_
      show Steps p.tables e below (T0.setTop (mkF m 62 #[.val (.ref a1), .val (.int p1), .val (.ref a2), .val (.int p3), .val (.int p4), .val (.ref r1), .val (.int pd), .val (.int sc), .val (.int pv), .val (.int i), s10] [(.ref a2)])) _
      refine XS.iload X0.here hx rfl (hb hby d9_62) rfl ?_
      show Steps p.tables e below (T0.setTop (mkF m 64 #[.val (.ref a1), .val (.int p1), .val (.ref a2), .val (.int p3), .val (.int p4), .val (.ref r1), .val (.int pd), .val (.int sc), .val (.int pv), .val (.int i), s10] [(.int i), (.ref a2)])) _
      refine own_ldI X0 hx hZ e0 V2 (x := nd) (own_rdv f1).1 (own_rdv f1).2 (g := (mkF m 64 #[.val (.ref a1), .val (.int p1), .val (.ref a2), .val (.int p3), .val (.int p4), .val (.ref r1), .val (.int pd), .val (.int sc), .val (.int pv), .val (.int i), s10] [(.int i), (.ref a2)])) rfl rfl (hb hby d9_64) _ ?_
      show Steps p.tables e below (T0.setTop (mkF m 65 #[.val (.ref a1), .val (.int p1), .val (.ref a2), .val (.int p3), .val (.int p4), .val (.ref r1), .val (.int pd), .val (.int sc), .val (.int pv), .val (.int i), s10] [(.int nd)])) _
      refine XS.istoreS X0.here hx rfl (hb hby d9_65) rfl (o := s10) rfl hs ?_
      show Steps p.tables e below (T0.setTop (mkF m 67 #[.val (.ref a1), .val (.int p1), .val (.ref a2), .val (.int p3), .val (.int p4), .val (.ref r1), .val (.int pd), .val (.int sc), .val (.int pv), .val (.int i), .val (.int nd)] [])) _
      refine XS.aload X0.here hx rfl (hb hby d9_67) rfl rfl ?_
      show Steps p.tables e below (T0.setTop (mkF m 69 #[.val (.ref a1), .val (.int p1), .val (.ref a2), .val (.int p3), .val (.int p4), .val (.ref r1), .val (.int pd), .val (.int sc), .val (.int pv), .val (.int i), .val (.int nd)] [(.ref r1)])) _
      refine XS.iload X0.here hx rfl (hb hby d9_69) rfl ?_
      show Steps p.tables e below (T0.setTop (mkF m 71 #[.val (.ref a1), .val (.int p1), .val (.ref a2), .val (.int p3), .val (.int p4), .val (.ref r1), .val (.int pd), .val (.int sc), .val (.int pv), .val (.int i), .val (.int nd)] [(.int pv), (.ref r1)])) _
      refine XS.bipush X0.here hx rfl (hb hby d9_71) ?_
      show Steps p.tables e below (T0.setTop (mkF m 73 #[.val (.ref a1), .val (.int p1), .val (.ref a2), .val (.int p3), .val (.int p4), .val (.ref r1), .val (.int pd), .val (.int sc), .val (.int pv), .val (.int i), .val (.int nd)] [(.int (8 : Int32)), (.int pv), (.ref r1)])) _
      refine XS.imul X0.here hx rfl (hb hby d9_73) rfl ?_
      show Steps p.tables e below (T0.setTop (mkF m 74 #[.val (.ref a1), .val (.int p1), .val (.ref a2), .val (.int p3), .val (.int p4), .val (.ref r1), .val (.int pd), .val (.int sc), .val (.int pv), .val (.int i), .val (.int nd)] [(.int (pv * (8 : Int32))), (.ref r1)])) _
      refine XS.iconst X0.here hx rfl (hb hby d9_74) ?_
      show Steps p.tables e below (T0.setTop (mkF m 75 #[.val (.ref a1), .val (.int p1), .val (.ref a2), .val (.int p3), .val (.int p4), .val (.ref r1), .val (.int pd), .val (.int sc), .val (.int pv), .val (.int i), .val (.int nd)] [(.int (4 : Int32)), (.int (pv * (8 : Int32))), (.ref r1)])) _
      refine XS.iadd X0.here hx rfl (hb hby d9_75) rfl ?_
      show Steps p.tables e below (T0.setTop (mkF m 76 #[.val (.ref a1), .val (.int p1), .val (.ref a2), .val (.int p3), .val (.int p4), .val (.ref r1), .val (.int pd), .val (.int sc), .val (.int pv), .val (.int i), .val (.int nd)] [(.int ((pv * (8 : Int32)) + (4 : Int32))), (.ref r1)])) _
      refine XS.iconst X0.here hx rfl (hb hby d9_76) ?_
      show Steps p.tables e below (T0.setTop (mkF m 77 #[.val (.ref a1), .val (.int p1), .val (.ref a2), .val (.int p3), .val (.int p4), .val (.ref r1), .val (.int pd), .val (.int sc), .val (.int pv), .val (.int i), .val (.int nd)] [(.int (1 : Int32)), (.int ((pv * (8 : Int32)) + (4 : Int32))), (.ref r1)])) _
      refine XS.iadd X0.here hx rfl (hb hby d9_77) rfl ?_
      show Steps p.tables e below (T0.setTop (mkF m 78 #[.val (.ref a1), .val (.int p1), .val (.ref a2), .val (.int p3), .val (.int p4), .val (.ref r1), .val (.int pd), .val (.int sc), .val (.int pv), .val (.int i), .val (.int nd)] [(.int (((pv * (8 : Int32)) + (4 : Int32)) + (1 : Int32))), (.ref r1)])) _
      refine XS.iload X0.here hx rfl (hb hby d9_78) rfl ?_
      show Steps p.tables e below (T0.setTop (mkF m 80 #[.val (.ref a1), .val (.int p1), .val (.ref a2), .val (.int p3), .val (.int p4), .val (.ref r1), .val (.int pd), .val (.int sc), .val (.int pv), .val (.int i), .val (.int nd)] [(.int nd), (.int (((pv * (8 : Int32)) + (4 : Int32)) + (1 : Int32))), (.ref r1)])) _
      refine st1 _ ?_
      show Steps p.tables e below (T1.setTop (mkF m 81 #[.val (.ref a1), .val (.int p1), .val (.ref a2), .val (.int p3), .val (.int p4), .val (.ref r1), .val (.int pd), .val (.int sc), .val (.int pv), .val (.int i), .val (.int nd)] [])) _
      refine XS.aload X1.here hx rfl (hb hby d9_81) rfl rfl ?_
      show Steps p.tables e below (T1.setTop (mkF m 83 #[.val (.ref a1), .val (.int p1), .val (.ref a2), .val (.int p3), .val (.int p4), .val (.ref r1), .val (.int pd), .val (.int sc), .val (.int pv), .val (.int i), .val (.int nd)] [(.ref r1)])) _
      refine XS.iload X1.here hx rfl (hb hby d9_83) rfl ?_
      show Steps p.tables e below (T1.setTop (mkF m 85 #[.val (.ref a1), .val (.int p1), .val (.ref a2), .val (.int p3), .val (.int p4), .val (.ref r1), .val (.int pd), .val (.int sc), .val (.int pv), .val (.int i), .val (.int nd)] [(.int nd), (.ref r1)])) _
      refine XS.bipush X1.here hx rfl (hb hby d9_85) ?_
      show Steps p.tables e below (T1.setTop (mkF m 87 #[.val (.ref a1), .val (.int p1), .val (.ref a2), .val (.int p3), .val (.int p4), .val (.ref r1), .val (.int pd), .val (.int sc), .val (.int pv), .val (.int i), .val (.int nd)] [(.int (8 : Int32)), (.int nd), (.ref r1)])) _
      refine XS.imul X1.here hx rfl (hb hby d9_87) rfl ?_
      show Steps p.tables e below (T1.setTop (mkF m 88 #[.val (.ref a1), .val (.int p1), .val (.ref a2), .val (.int p3), .val (.int p4), .val (.ref r1), .val (.int pd), .val (.int sc), .val (.int pv), .val (.int i), .val (.int nd)] [(.int (nd * (8 : Int32))), (.ref r1)])) _
      refine XS.iconst X1.here hx rfl (hb hby d9_88) ?_
      show Steps p.tables e below (T1.setTop (mkF m 89 #[.val (.ref a1), .val (.int p1), .val (.ref a2), .val (.int p3), .val (.int p4), .val (.ref r1), .val (.int pd), .val (.int sc), .val (.int pv), .val (.int i), .val (.int nd)] [(.int (4 : Int32)), (.int (nd * (8 : Int32))), (.ref r1)])) _
      refine XS.iadd X1.here hx rfl (hb hby d9_89) rfl ?_
      show Steps p.tables e below (T1.setTop (mkF m 90 #[.val (.ref a1), .val (.int p1), .val (.ref a2), .val (.int p3), .val (.int p4), .val (.ref r1), .val (.int pd), .val (.int sc), .val (.int pv), .val (.int i), .val (.int nd)] [(.int ((nd * (8 : Int32)) + (4 : Int32))), (.ref r1)])) _
      refine XS.iload X1.here hx rfl (hb hby d9_90) rfl ?_
      show Steps p.tables e below (T1.setTop (mkF m 92 #[.val (.ref a1), .val (.int p1), .val (.ref a2), .val (.int p3), .val (.int p4), .val (.ref r1), .val (.int pd), .val (.int sc), .val (.int pv), .val (.int i), .val (.int nd)] [(.int pv), (.int ((nd * (8 : Int32)) + (4 : Int32))), (.ref r1)])) _
      refine st2 _ ?_
      show Steps p.tables e below (T2.setTop (mkF m 93 #[.val (.ref a1), .val (.int p1), .val (.ref a2), .val (.int p3), .val (.int p4), .val (.ref r1), .val (.int pd), .val (.int sc), .val (.int pv), .val (.int i), .val (.int nd)] [])) _
      refine XS.aload X2.here hx rfl (hb hby d9_93) rfl rfl ?_
      show Steps p.tables e below (T2.setTop (mkF m 95 #[.val (.ref a1), .val (.int p1), .val (.ref a2), .val (.int p3), .val (.int p4), .val (.ref r1), .val (.int pd), .val (.int sc), .val (.int pv), .val (.int i), .val (.int nd)] [(.ref r1)])) _
      refine XS.iload X2.here hx rfl (hb hby d9_95) rfl ?_
      show Steps p.tables e below (T2.setTop (mkF m 97 #[.val (.ref a1), .val (.int p1), .val (.ref a2), .val (.int p3), .val (.int p4), .val (.ref r1), .val (.int pd), .val (.int sc), .val (.int pv), .val (.int i), .val (.int nd)] [(.int nd), (.ref r1)])) _
      refine XS.bipush X2.here hx rfl (hb hby d9_97) ?_
      show Steps p.tables e below (T2.setTop (mkF m 99 #[.val (.ref a1), .val (.int p1), .val (.ref a2), .val (.int p3), .val (.int p4), .val (.ref r1), .val (.int pd), .val (.int sc), .val (.int pv), .val (.int i), .val (.int nd)] [(.int (8 : Int32)), (.int nd), (.ref r1)])) _
      refine XS.imul X2.here hx rfl (hb hby d9_99) rfl ?_
      show Steps p.tables e below (T2.setTop (mkF m 100 #[.val (.ref a1), .val (.int p1), .val (.ref a2), .val (.int p3), .val (.int p4), .val (.ref r1), .val (.int pd), .val (.int sc), .val (.int pv), .val (.int i), .val (.int nd)] [(.int (nd * (8 : Int32))), (.ref r1)])) _
      refine XS.bipush X2.here hx rfl (hb hby d9_100) ?_
      show Steps p.tables e below (T2.setTop (mkF m 102 #[.val (.ref a1), .val (.int p1), .val (.ref a2), .val (.int p3), .val (.int p4), .val (.ref r1), .val (.int pd), .val (.int sc), .val (.int pv), .val (.int i), .val (.int nd)] [(.int (6 : Int32)), (.int (nd * (8 : Int32))), (.ref r1)])) _
      refine XS.iadd X2.here hx rfl (hb hby d9_102) rfl ?_
      show Steps p.tables e below (T2.setTop (mkF m 103 #[.val (.ref a1), .val (.int p1), .val (.ref a2), .val (.int p3), .val (.int p4), .val (.ref r1), .val (.int pd), .val (.int sc), .val (.int pv), .val (.int i), .val (.int nd)] [(.int ((nd * (8 : Int32)) + (6 : Int32))), (.ref r1)])) _
      refine XS.iconst X2.here hx rfl (hb hby d9_103) ?_
      show Steps p.tables e below (T2.setTop (mkF m 104 #[.val (.ref a1), .val (.int p1), .val (.ref a2), .val (.int p3), .val (.int p4), .val (.ref r1), .val (.int pd), .val (.int sc), .val (.int pv), .val (.int i), .val (.int nd)] [(.int (1 : Int32)), (.int ((nd * (8 : Int32)) + (6 : Int32))), (.ref r1)])) _
      refine st3 _ ?_
      show Steps p.tables e below (T3.setTop (mkF m 105 #[.val (.ref a1), .val (.int p1), .val (.ref a2), .val (.int p3), .val (.int p4), .val (.ref r1), .val (.int pd), .val (.int sc), .val (.int pv), .val (.int i), .val (.int nd)] [])) _
      refine XS.iload X3.here hx rfl (hb hby d9_105) rfl ?_
      show Steps p.tables e below (T3.setTop (mkF m 107 #[.val (.ref a1), .val (.int p1), .val (.ref a2), .val (.int p3), .val (.int p4), .val (.ref r1), .val (.int pd), .val (.int sc), .val (.int pv), .val (.int i), .val (.int nd)] [(.int nd)])) _
      refine XS.istore X3.here hx rfl (hb hby d9_107) rfl (l' := #[.val (.ref a1), .val (.int p1), .val (.ref a2), .val (.int p3), .val (.int p4), .val (.ref r1), .val (.int pd), .val (.int sc), .val (.int nd), .val (.int i), .val (.int nd)]) rfl ?_
      show Steps p.tables e below (T3.setTop (mkF m 109 #[.val (.ref a1), .val (.int p1), .val (.ref a2), .val (.int p3), .val (.int p4), .val (.ref r1), .val (.int pd), .val (.int sc), .val (.int nd), .val (.int i), .val (.int nd)] [])) _
      refine XS.iinc X3.here hx rfl (hb hby d9_109) rfl (l' := #[.val (.ref a1), .val (.int p1), .val (.ref a2), .val (.int p3), .val (.int p4), .val (.ref r1), .val (.int pd), .val (.int sc), .val (.int nd), .val (.int (i + (1 : Int32))), .val (.int nd)]) rfl ?_
      show Steps p.tables e below (T3.setTop (mkF m 112 #[.val (.ref a1), .val (.int p1), .val (.ref a2), .val (.int p3), .val (.int p4), .val (.ref r1), .val (.int pd), .val (.int sc), .val (.int nd), .val (.int (i + (1 : Int32))), .val (.int nd)] [])) _
      refine XS.goto X3.here hx rfl (pc0 := 112) (pc' := 55) rfl (hb hby d9_112) (by decide) (by decide) ?_
      exact k)
    obtain ⟨TL, LL, hL, sL, iL, XL, eL, NL, VL, KL, sL', stL⟩ := ih (i + (1 : Int32)) nd x3 _ _ _ (.val (.int nd)) zs pv' X3 e3 N3 Z3 Vr1_3' V2_e3 (by omega) (by omega) h3_ G4 (One.val rfl)
    exact ⟨TL, LL, hL, sL, iL, XL, eL, NL, VL, K3.trans KL (allS (Or.inl (List.mem_of_getElem? (i := 0) rfl)) all0), sL', fun t k => pre4 t (stL t k)⟩

theorem ef_rm9 (m : MethodId) (a1 : Addr) (p1 : Int32) (a2 : Addr) (p3 : Int32) (p4 : Int32) : entryFrame m #[(.ref a1), (.int p1), (.ref a2), (.int p3), (.int p4)] 11 = mkF m 0 #[.val (.ref a1), .val (.int p1), .val (.ref a2), .val (.int p3), .val (.int p4), .unset, .unset, .unset, .unset, .unset, .unset] [] := by first | (simp [entryFrame, mkF, argsToLocals, Value.category]; done) | rfl
def Q9 (Z : State) (a1 : Addr) (r1 : Addr) (el1 : Addr) (u : Int32) (zs : List Int32) (h0 : Heap) (n0 : Nat) (v : Option Value) (h : Heap) (L : List Loc) : Prop := v = none ∧ Fr n0 L ∧ Keep h0 h [a1, r1, el1] ∧ LT Z h n0 a1 r1 el1 u zs
set_option maxRecDepth 65536 in
set_option maxHeartbeats 40000000 in
theorem rm9 (l : Launch) (Z : State) (a0 : Array Value) (hw : ∀ d ∈ tables_1, d.before a0 Z = true) (ws : List Jvm.Cond) (a1 : Addr) (r1 : Addr) (el1 : Addr) (u : Int32) (xs : List Int32) (a2 : Addr) (p1 : Int32) (p3 : Int32) (p4 : Int32) (ys : List Int32) (K : Nat) (zs : List Int32) (h0 : Heap) (n0 : Nat) (Z0 : n0 ≤ h0.size) (W0 : LT Z h0 n0 a1 r1 el1 u xs) (V2 : AL Z h0 a2 .int (ys.map Value.int)) (ne2 : a2 ≠ r1) (hk : p3.toInt = K) (hk3 : p3.toInt < 1000) (hF : own_luF xs p1 ys K p4 = some zs) :
    MetFree l (⟨"com/example/reticule/reticule/match/LinkTable", "lineUp", "(I[IIZ)V"⟩ : MethodName) (head1 (Jvm.Cond.code (⟨"com/example/reticule/reticule/match/LinkTable", "lineUp", "(I[IIZ)V"⟩ : MethodName) prog_64_method_8_code 11 none :: ws) ({ frames := 0, cells := 0, slots := 0, locals := 0 } : Room)) (fun a U => a = #[(.ref a1), (.int p1), (.ref a2), (.int p3), (.int p4)] ∧ Z.Warmed39 U.vm ∧ U.heap = h0) (fun _ _ _ _ _ => True) (fun _ U o U' => ∃ v L, o = .returned v ∧ Q9 Z a1 r1 el1 u zs h0 n0 v U'.heap L ∧ FrameEnd U o U' L ({ frames := 0, cells := 0, slots := 0, locals := 0 } : Room).cells ({ frames := 0, cells := 0, slots := 0, locals := 0 } : Room).slots) := by
  refine MetFree.of_bodySF (plainFor_of_name pn_9) hisR ?_
  intro p e s m args below meth c s₁ Bd hml0 hP hK
  obtain ⟨rfl, hZ, hh⟩ := hP
  have hx := Bd.exec
  have hby := Bd.bytes
  have hml : c.maxLocals = 11 := hml0
  have hown : s.vm.findClass "com/example/reticule/reticule/match/LinkTable" = some m.cls := findClass_of_methodNamed Bd.named
  have hnm := (name_of_methodNamed Bd.named Bd.method).1
  have X0 : Stand p l e ({ frames := 0, cells := 0, slots := 0, locals := 0 } : Room) s m #[(.ref a1), (.int p1), (.ref a2), (.int p3), (.int p4)] below meth c s₁ [] 0 0 := Stand.of_body Bd
  have e0 : s₁.heap = h0 := by rw [← hh, Bd.state]; rfl
  have N0 := Fr.nil n0
  have pre0 : ∀ t, Steps p.tables e below (s₁.setTop (mkF m 0 #[.val (.ref a1), .val (.int p1), .val (.ref a2), .val (.int p3), .val (.int p4), .unset, .unset, .unset, .unset, .unset, .unset] [])) t → Steps p.tables e below (s₁.setTop (entryFrame m #[(.ref a1), (.int p1), (.ref a2), (.int p3), (.int p4)] 11)) t := fun t k => castTop (ef_rm9 m a1 p1 a2 p3 p4) k
  have K0 : Keep h0 h0 [a1, r1, el1] := Keep.refl _ _

  have W1_ := W0
  obtain ⟨E1, Frec, Fel, Frel, Fused, Vr, Ve, g_a1, g_r1, g_el1, ne_a1_r1, ne_a1_el1, ne_r1_el1⟩ := W1_
  obtain ⟨pd, f1, G1⟩ := Option.bind_eq_some_iff.mp hF
  obtain ⟨sc, f2, G2⟩ := Option.bind_eq_some_iff.mp G1
  obtain ⟨⟨x1, pv'⟩, f3, G3⟩ := Option.bind_eq_some_iff.mp G2
  obtain ⟨x2, f4, f5⟩ := Option.bind_eq_some_iff.mp G3
  obtain ⟨T1, X1, e1, st1⟩ := getF X0 hx hZ hown (host := "") (Or.inl (hw _ (List.mem_of_getElem? (i := 10) rfl))) Via.refl e0 Frec (g := (mkF m 1 #[.val (.ref a1), .val (.int p1), .val (.ref a2), .val (.int p3), .val (.int p4), .unset, .unset, .unset, .unset, .unset, .unset] [(.ref a1)])) rfl rfl (hb hby d9_1)
  have pre2 : ∀ t, Steps p.tables e below (T1.setTop (mkF m 6 #[.val (.ref a1), .val (.int p1), .val (.ref a2), .val (.int p3), .val (.int p4), .val (.ref r1), .unset, .unset, .unset, .unset, .unset] [])) t → Steps p.tables e below (s₁.setTop (entryFrame m #[(.ref a1), (.int p1), (.ref a2), (.int p3), (.int p4)] 11)) t := fun t k => pre0 t (by
    show Steps p.tables e below (s₁.setTop (mkF m 0 #[.val (.ref a1), .val (.int p1), .val (.ref a2), .val (.int p3), .val (.int p4), .unset, .unset, .unset, .unset, .unset, .unset] [])) _
    refine XS.aloadN X0.here hx rfl (hb hby d9_0) rfl rfl ?_
    show Steps p.tables e below (s₁.setTop (mkF m 1 #[.val (.ref a1), .val (.int p1), .val (.ref a2), .val (.int p3), .val (.int p4), .unset, .unset, .unset, .unset, .unset, .unset] [(.ref a1)])) _
    refine st1 _ ?_
    show Steps p.tables e below (T1.setTop (mkF m 4 #[.val (.ref a1), .val (.int p1), .val (.ref a2), .val (.int p3), .val (.int p4), .unset, .unset, .unset, .unset, .unset, .unset] [(.ref r1)])) _
    refine XS.astore X1.here hx rfl (hb hby d9_4) rfl rfl (l' := #[.val (.ref a1), .val (.int p1), .val (.ref a2), .val (.int p3), .val (.int p4), .val (.ref r1), .unset, .unset, .unset, .unset, .unset]) rfl ?_
    exact k)
  obtain ⟨pd1, h_pd1⟩ : ∃ z : Int32, z = pd := ⟨_, rfl⟩
  have pre3 : ∀ t, Steps p.tables e below (T1.setTop (mkF m 24 #[.val (.ref a1), .val (.int p1), .val (.ref a2), .val (.int p3), .val (.int p4), .val (.ref r1), .unset, .unset, .unset, .unset, .unset] [(.int pd1)])) t → Steps p.tables e below (s₁.setTop (entryFrame m #[(.ref a1), (.int p1), (.ref a2), (.int p3), (.int p4)] 11)) t := fun t k => pre2 t (by
    by_cases h1 : p4 = (0 : Int32)
    · have f1' : own_rd xs (p1 * 8 + 4) = some pd := by rw [if_pos h1] at f1; exact f1
      have ev_pd1 : pd1 = pd := h_pd1
      rw [ev_pd1] at k
      show Steps p.tables e below (T1.setTop (mkF m 6 #[.val (.ref a1), .val (.int p1), .val (.ref a2), .val (.int p3), .val (.int p4), .val (.ref r1), .unset, .unset, .unset, .unset, .unset] [])) _
      refine XS.iload X1.here hx rfl (hb hby d9_6) rfl ?_
      show Steps p.tables e below (T1.setTop (mkF m 8 #[.val (.ref a1), .val (.int p1), .val (.ref a2), .val (.int p3), .val (.int p4), .val (.ref r1), .unset, .unset, .unset, .unset, .unset] [(.int p4)])) _
      refine XS.ifYes X1.here hx rfl (pc0 := 8) (pc' := 15) rfl (hb hby d9_8) rfl ((if0 _ _).trans (teq (h1 : p4 = (0 : Int32))).1) (by decide) (by decide) ?_
      show Steps p.tables e below (T1.setTop (mkF m 15 #[.val (.ref a1), .val (.int p1), .val (.ref a2), .val (.int p3), .val (.int p4), .val (.ref r1), .unset, .unset, .unset, .unset, .unset] [])) _
      refine XS.aload X1.here hx rfl (hb hby d9_15) rfl rfl ?_
      show Steps p.tables e below (T1.setTop (mkF m 17 #[.val (.ref a1), .val (.int p1), .val (.ref a2), .val (.int p3), .val (.int p4), .val (.ref r1), .unset, .unset, .unset, .unset, .unset] [(.ref r1)])) _
      refine XS.iloadN X1.here hx rfl (hb hby d9_17) rfl ?_
      show Steps p.tables e below (T1.setTop (mkF m 18 #[.val (.ref a1), .val (.int p1), .val (.ref a2), .val (.int p3), .val (.int p4), .val (.ref r1), .unset, .unset, .unset, .unset, .unset] [(.int p1), (.ref r1)])) _
      refine XS.bipush X1.here hx rfl (hb hby d9_18) ?_
      show Steps p.tables e below (T1.setTop (mkF m 20 #[.val (.ref a1), .val (.int p1), .val (.ref a2), .val (.int p3), .val (.int p4), .val (.ref r1), .unset, .unset, .unset, .unset, .unset] [(.int (8 : Int32)), (.int p1), (.ref r1)])) _
      refine XS.imul X1.here hx rfl (hb hby d9_20) rfl ?_
      show Steps p.tables e below (T1.setTop (mkF m 21 #[.val (.ref a1), .val (.int p1), .val (.ref a2), .val (.int p3), .val (.int p4), .val (.ref r1), .unset, .unset, .unset, .unset, .unset] [(.int (p1 * (8 : Int32))), (.ref r1)])) _
      refine XS.iconst X1.here hx rfl (hb hby d9_21) ?_
      show Steps p.tables e below (T1.setTop (mkF m 22 #[.val (.ref a1), .val (.int p1), .val (.ref a2), .val (.int p3), .val (.int p4), .val (.ref r1), .unset, .unset, .unset, .unset, .unset] [(.int (4 : Int32)), (.int (p1 * (8 : Int32))), (.ref r1)])) _
      refine XS.iadd X1.here hx rfl (hb hby d9_22) rfl ?_
      show Steps p.tables e below (T1.setTop (mkF m 23 #[.val (.ref a1), .val (.int p1), .val (.ref a2), .val (.int p3), .val (.int p4), .val (.ref r1), .unset, .unset, .unset, .unset, .unset] [(.int ((p1 * (8 : Int32)) + (4 : Int32))), (.ref r1)])) _
      refine own_ldI X1 hx hZ e1 Vr (x := pd) (own_rdv f1').1 (own_rdv f1').2 (g := (mkF m 23 #[.val (.ref a1), .val (.int p1), .val (.ref a2), .val (.int p3), .val (.int p4), .val (.ref r1), .unset, .unset, .unset, .unset, .unset] [(.int ((p1 * (8 : Int32)) + (4 : Int32))), (.ref r1)])) rfl rfl (hb hby d9_23) _ ?_
      exact k
    · have f1' : p1 = pd := Option.some.inj (by rw [if_neg h1] at f1; exact f1)
      have ev_pd1 : pd1 = p1 := h_pd1.trans f1'.symm
      rw [ev_pd1] at k
      show Steps p.tables e below (T1.setTop (mkF m 6 #[.val (.ref a1), .val (.int p1), .val (.ref a2), .val (.int p3), .val (.int p4), .val (.ref r1), .unset, .unset, .unset, .unset, .unset] [])) _
      refine XS.iload X1.here hx rfl (hb hby d9_6) rfl ?_
      show Steps p.tables e below (T1.setTop (mkF m 8 #[.val (.ref a1), .val (.int p1), .val (.ref a2), .val (.int p3), .val (.int p4), .val (.ref r1), .unset, .unset, .unset, .unset, .unset] [(.int p4)])) _
      refine XS.ifNo X1.here hx rfl (hb hby d9_8) rfl ((if0 _ _).trans (feq (h1 : ¬ (p4 = (0 : Int32)))).1) ?_
      show Steps p.tables e below (T1.setTop (mkF m 11 #[.val (.ref a1), .val (.int p1), .val (.ref a2), .val (.int p3), .val (.int p4), .val (.ref r1), .unset, .unset, .unset, .unset, .unset] [])) _
      refine XS.iloadN X1.here hx rfl (hb hby d9_11) rfl ?_
      show Steps p.tables e below (T1.setTop (mkF m 12 #[.val (.ref a1), .val (.int p1), .val (.ref a2), .val (.int p3), .val (.int p4), .val (.ref r1), .unset, .unset, .unset, .unset, .unset] [(.int p1)])) _
      refine XS.goto X1.here hx rfl (pc0 := 12) (pc' := 24) rfl (hb hby d9_12) (by decide) (by decide) ?_
      exact k)
  have pre4 : ∀ t, Steps p.tables e below (T1.setTop (mkF m 26 #[.val (.ref a1), .val (.int p1), .val (.ref a2), .val (.int p3), .val (.int p4), .val (.ref r1), .val (.int pd1), .unset, .unset, .unset, .unset] [])) t → Steps p.tables e below (s₁.setTop (entryFrame m #[(.ref a1), (.int p1), (.ref a2), (.int p3), (.int p4)] 11)) t := fun t k => pre3 t (by
    show Steps p.tables e below (T1.setTop (mkF m 24 #[.val (.ref a1), .val (.int p1), .val (.ref a2), .val (.int p3), .val (.int p4), .val (.ref r1), .unset, .unset, .unset, .unset, .unset] [(.int pd1)])) _
    refine XS.istore X1.here hx rfl (hb hby d9_24) rfl (l' := #[.val (.ref a1), .val (.int p1), .val (.ref a2), .val (.int p3), .val (.int p4), .val (.ref r1), .val (.int pd1), .unset, .unset, .unset, .unset]) rfl ?_
    exact k)
  obtain ⟨sc1, h_sc1⟩ : ∃ z : Int32, z = sc := ⟨_, rfl⟩
  have pre5 : ∀ t, Steps p.tables e below (T1.setTop (mkF m 46 #[.val (.ref a1), .val (.int p1), .val (.ref a2), .val (.int p3), .val (.int p4), .val (.ref r1), .val (.int pd1), .unset, .unset, .unset, .unset] [(.int sc1)])) t → Steps p.tables e below (s₁.setTop (entryFrame m #[(.ref a1), (.int p1), (.ref a2), (.int p3), (.int p4)] 11)) t := fun t k => pre4 t (by
    by_cases h1 : p4 = (0 : Int32)
    · have f2' : p1 = sc := Option.some.inj (by rw [if_pos h1] at f2; exact f2)
      have ev_sc1 : sc1 = p1 := h_sc1.trans f2'.symm
      rw [ev_sc1] at k
      show Steps p.tables e below (T1.setTop (mkF m 26 #[.val (.ref a1), .val (.int p1), .val (.ref a2), .val (.int p3), .val (.int p4), .val (.ref r1), .val (.int pd1), .unset, .unset, .unset, .unset] [])) _
      refine XS.iload X1.here hx rfl (hb hby d9_26) rfl ?_
      show Steps p.tables e below (T1.setTop (mkF m 28 #[.val (.ref a1), .val (.int p1), .val (.ref a2), .val (.int p3), .val (.int p4), .val (.ref r1), .val (.int pd1), .unset, .unset, .unset, .unset] [(.int p4)])) _
      refine XS.ifYes X1.here hx rfl (pc0 := 28) (pc' := 45) rfl (hb hby d9_28) rfl ((if0 _ _).trans (teq (h1 : p4 = (0 : Int32))).1) (by decide) (by decide) ?_
      show Steps p.tables e below (T1.setTop (mkF m 45 #[.val (.ref a1), .val (.int p1), .val (.ref a2), .val (.int p3), .val (.int p4), .val (.ref r1), .val (.int pd1), .unset, .unset, .unset, .unset] [])) _
      refine XS.iloadN X1.here hx rfl (hb hby d9_45) rfl ?_
      exact k
    · have f2' : own_rd xs (p1 * 8 + 4 + 1) = some sc := by rw [if_neg h1] at f2; exact f2
      have ev_sc1 : sc1 = sc := h_sc1
      rw [ev_sc1] at k
      show Steps p.tables e below (T1.setTop (mkF m 26 #[.val (.ref a1), .val (.int p1), .val (.ref a2), .val (.int p3), .val (.int p4), .val (.ref r1), .val (.int pd1), .unset, .unset, .unset, .unset] [])) _
      refine XS.iload X1.here hx rfl (hb hby d9_26) rfl ?_
      show Steps p.tables e below (T1.setTop (mkF m 28 #[.val (.ref a1), .val (.int p1), .val (.ref a2), .val (.int p3), .val (.int p4), .val (.ref r1), .val (.int pd1), .unset, .unset, .unset, .unset] [(.int p4)])) _
      refine XS.ifNo X1.here hx rfl (hb hby d9_28) rfl ((if0 _ _).trans (feq (h1 : ¬ (p4 = (0 : Int32)))).1) ?_
      show Steps p.tables e below (T1.setTop (mkF m 31 #[.val (.ref a1), .val (.int p1), .val (.ref a2), .val (.int p3), .val (.int p4), .val (.ref r1), .val (.int pd1), .unset, .unset, .unset, .unset] [])) _
      refine XS.aload X1.here hx rfl (hb hby d9_31) rfl rfl ?_
      show Steps p.tables e below (T1.setTop (mkF m 33 #[.val (.ref a1), .val (.int p1), .val (.ref a2), .val (.int p3), .val (.int p4), .val (.ref r1), .val (.int pd1), .unset, .unset, .unset, .unset] [(.ref r1)])) _
      refine XS.iloadN X1.here hx rfl (hb hby d9_33) rfl ?_
      show Steps p.tables e below (T1.setTop (mkF m 34 #[.val (.ref a1), .val (.int p1), .val (.ref a2), .val (.int p3), .val (.int p4), .val (.ref r1), .val (.int pd1), .unset, .unset, .unset, .unset] [(.int p1), (.ref r1)])) _
      refine XS.bipush X1.here hx rfl (hb hby d9_34) ?_
      show Steps p.tables e below (T1.setTop (mkF m 36 #[.val (.ref a1), .val (.int p1), .val (.ref a2), .val (.int p3), .val (.int p4), .val (.ref r1), .val (.int pd1), .unset, .unset, .unset, .unset] [(.int (8 : Int32)), (.int p1), (.ref r1)])) _
      refine XS.imul X1.here hx rfl (hb hby d9_36) rfl ?_
      show Steps p.tables e below (T1.setTop (mkF m 37 #[.val (.ref a1), .val (.int p1), .val (.ref a2), .val (.int p3), .val (.int p4), .val (.ref r1), .val (.int pd1), .unset, .unset, .unset, .unset] [(.int (p1 * (8 : Int32))), (.ref r1)])) _
      refine XS.iconst X1.here hx rfl (hb hby d9_37) ?_
      show Steps p.tables e below (T1.setTop (mkF m 38 #[.val (.ref a1), .val (.int p1), .val (.ref a2), .val (.int p3), .val (.int p4), .val (.ref r1), .val (.int pd1), .unset, .unset, .unset, .unset] [(.int (4 : Int32)), (.int (p1 * (8 : Int32))), (.ref r1)])) _
      refine XS.iadd X1.here hx rfl (hb hby d9_38) rfl ?_
      show Steps p.tables e below (T1.setTop (mkF m 39 #[.val (.ref a1), .val (.int p1), .val (.ref a2), .val (.int p3), .val (.int p4), .val (.ref r1), .val (.int pd1), .unset, .unset, .unset, .unset] [(.int ((p1 * (8 : Int32)) + (4 : Int32))), (.ref r1)])) _
      refine XS.iconst X1.here hx rfl (hb hby d9_39) ?_
      show Steps p.tables e below (T1.setTop (mkF m 40 #[.val (.ref a1), .val (.int p1), .val (.ref a2), .val (.int p3), .val (.int p4), .val (.ref r1), .val (.int pd1), .unset, .unset, .unset, .unset] [(.int (1 : Int32)), (.int ((p1 * (8 : Int32)) + (4 : Int32))), (.ref r1)])) _
      refine XS.iadd X1.here hx rfl (hb hby d9_40) rfl ?_
      show Steps p.tables e below (T1.setTop (mkF m 41 #[.val (.ref a1), .val (.int p1), .val (.ref a2), .val (.int p3), .val (.int p4), .val (.ref r1), .val (.int pd1), .unset, .unset, .unset, .unset] [(.int (((p1 * (8 : Int32)) + (4 : Int32)) + (1 : Int32))), (.ref r1)])) _
      refine own_ldI X1 hx hZ e1 Vr (x := sc) (own_rdv f2').1 (own_rdv f2').2 (g := (mkF m 41 #[.val (.ref a1), .val (.int p1), .val (.ref a2), .val (.int p3), .val (.int p4), .val (.ref r1), .val (.int pd1), .unset, .unset, .unset, .unset] [(.int (((p1 * (8 : Int32)) + (4 : Int32)) + (1 : Int32))), (.ref r1)])) rfl rfl (hb hby d9_41) _ ?_
      show Steps p.tables e below (T1.setTop (mkF m 42 #[.val (.ref a1), .val (.int p1), .val (.ref a2), .val (.int p3), .val (.int p4), .val (.ref r1), .val (.int pd1), .unset, .unset, .unset, .unset] [(.int sc)])) _
      refine XS.goto X1.here hx rfl (pc0 := 42) (pc' := 46) rfl (hb hby d9_42) (by decide) (by decide) ?_
      exact k)
  have pre6 : ∀ t, Steps p.tables e below (T1.setTop (mkF m 55 #[.val (.ref a1), .val (.int p1), .val (.ref a2), .val (.int p3), .val (.int p4), .val (.ref r1), .val (.int pd1), .val (.int sc1), .val (.int pd1), .val (.int (0 : Int32)), .unset] [])) t → Steps p.tables e below (s₁.setTop (entryFrame m #[(.ref a1), (.int p1), (.ref a2), (.int p3), (.int p4)] 11)) t := fun t k => pre5 t (by
    show Steps p.tables e below (T1.setTop (mkF m 46 #[.val (.ref a1), .val (.int p1), .val (.ref a2), .val (.int p3), .val (.int p4), .val (.ref r1), .val (.int pd1), .unset, .unset, .unset, .unset] [(.int sc1)])) _
    refine XS.istore X1.here hx rfl (hb hby d9_46) rfl (l' := #[.val (.ref a1), .val (.int p1), .val (.ref a2), .val (.int p3), .val (.int p4), .val (.ref r1), .val (.int pd1), .val (.int sc1), .unset, .unset, .unset]) rfl ?_
    show Steps p.tables e below (T1.setTop (mkF m 48 #[.val (.ref a1), .val (.int p1), .val (.ref a2), .val (.int p3), .val (.int p4), .val (.ref r1), .val (.int pd1), .val (.int sc1), .unset, .unset, .unset] [])) _
    refine XS.iload X1.here hx rfl (hb hby d9_48) rfl ?_
    show Steps p.tables e below (T1.setTop (mkF m 50 #[.val (.ref a1), .val (.int p1), .val (.ref a2), .val (.int p3), .val (.int p4), .val (.ref r1), .val (.int pd1), .val (.int sc1), .unset, .unset, .unset] [(.int pd1)])) _
    refine XS.istore X1.here hx rfl (hb hby d9_50) rfl (l' := #[.val (.ref a1), .val (.int p1), .val (.ref a2), .val (.int p3), .val (.int p4), .val (.ref r1), .val (.int pd1), .val (.int sc1), .val (.int pd1), .unset, .unset]) rfl ?_
    show Steps p.tables e below (T1.setTop (mkF m 52 #[.val (.ref a1), .val (.int p1), .val (.ref a2), .val (.int p3), .val (.int p4), .val (.ref r1), .val (.int pd1), .val (.int sc1), .val (.int pd1), .unset, .unset] [])) _
    refine XS.iconst X1.here hx rfl (hb hby d9_52) ?_
    show Steps p.tables e below (T1.setTop (mkF m 53 #[.val (.ref a1), .val (.int p1), .val (.ref a2), .val (.int p3), .val (.int p4), .val (.ref r1), .val (.int pd1), .val (.int sc1), .val (.int pd1), .unset, .unset] [(.int (0 : Int32))])) _
    refine XS.istore X1.here hx rfl (hb hby d9_53) rfl (l' := #[.val (.ref a1), .val (.int p1), .val (.ref a2), .val (.int p3), .val (.int p4), .val (.ref r1), .val (.int pd1), .val (.int sc1), .val (.int pd1), .val (.int (0 : Int32)), .unset]) rfl ?_
    exact k)
  subst h_pd1 h_sc1
  obtain ⟨TL, LL, hL, sL, iL, XL, eL, NL, VL, KL, sL', stL⟩ := own_loopLU hx hZ hby a1 a2 r1 p1 p3 p4 pd1 sc1 ys g_r1 ne2 K (0 : Int32) pd1 xs _ _ _ .unset x1 pv' X1 e1 N0 Z0 Vr V2 (by show 0 + _ = _; omega) (by decide) hk3 f3 One.u
  have E1_l := E1.keep KL
  have Frec_l := Frec.keep KL (ninS ne_a1_r1 nin0)
  have Fel_l := Fel.keep KL (ninS ne_a1_r1 nin0)
  have Frel_l := Frel.keep KL (ninS ne_a1_r1 nin0)
  have Fused_l := Fused.keep KL (ninS ne_a1_r1 nin0)
  have Ve_l := Ve.keep KL (ninS (Ne.symm ne_r1_el1) nin0)
  have ZL : n0 ≤ hL.size := Nat.le_trans Z0 KL.1
  have KK : Keep h0 hL [a1, r1, el1] := K0.trans KL (allS (Or.inl (List.mem_of_getElem? (i := 1) rfl)) all0)
  have preL : ∀ t, Steps p.tables e below (TL.setTop (mkF m 115 #[.val (.ref a1), .val (.int p1), .val (.ref a2), .val (.int p3), .val (.int p4), .val (.ref r1), .val (.int pd1), .val (.int sc1), .val (.int pv'), .val (.int iL), sL] [])) t → Steps p.tables e below (s₁.setTop (entryFrame m #[(.ref a1), (.int p1), (.ref a2), (.int p3), (.int p4)] 11)) t := fun t k => pre6 t (stL t k)
  obtain ⟨T7, h7, L7, X7, N7, e7, W7, Vr1_7, st7⟩ := own_stI XL hx hZ eL VL NL g_r1 (own_wrv f4).1 (own_wrv f4).2.1 (g := (mkF m 128 #[.val (.ref a1), .val (.int p1), .val (.ref a2), .val (.int p3), .val (.int p4), .val (.ref r1), .val (.int pd1), .val (.int sc1), .val (.int pv'), .val (.int iL), sL] [(.int sc1), (.int (((pv' * (8 : Int32)) + (4 : Int32)) + (1 : Int32))), (.ref r1)])) rfl rfl (hb hby d9_128)
  have E1_l_e7 := E1_l.wr W7
  have Frec_l_e7 := Frec_l.other W7 (Or.inl ne_a1_r1)
  have Fel_l_e7 := Fel_l.other W7 (Or.inl ne_a1_r1)
  have Frel_l_e7 := Frel_l.other W7 (Or.inl ne_a1_r1)
  have Fused_l_e7 := Fused_l.other W7 (Or.inl ne_a1_r1)
  have Ve_l_e7 := Ve_l.other W7 (Ne.symm ne_r1_el1)
  have Z7 : n0 ≤ h7.size := W7.size.symm ▸ ZL
  have K7 : Keep h0 h7 [a1, r1, el1] := KK.wr W7 (Or.inl (List.mem_of_getElem? (i := 1) rfl))
  have Vr1_7' : AL Z h7 r1 .int (x2.map Value.int) := (own_wrv f4).2.2 ▸ Vr1_7
  obtain ⟨T8, h8, L8, X8, N8, e8, W8, Vr1_8, st8⟩ := own_stI X7 hx hZ e7 Vr1_7' N7 g_r1 (own_wrv f5).1 (own_wrv f5).2.1 (g := (mkF m 140 #[.val (.ref a1), .val (.int p1), .val (.ref a2), .val (.int p3), .val (.int p4), .val (.ref r1), .val (.int pd1), .val (.int sc1), .val (.int pv'), .val (.int iL), sL] [(.int pv'), (.int ((sc1 * (8 : Int32)) + (4 : Int32))), (.ref r1)])) rfl rfl (hb hby d9_140)
  have E1_l_e8 := E1_l_e7.wr W8
  have Frec_l_e8 := Frec_l_e7.other W8 (Or.inl ne_a1_r1)
  have Fel_l_e8 := Fel_l_e7.other W8 (Or.inl ne_a1_r1)
  have Frel_l_e8 := Frel_l_e7.other W8 (Or.inl ne_a1_r1)
  have Fused_l_e8 := Fused_l_e7.other W8 (Or.inl ne_a1_r1)
  have Ve_l_e8 := Ve_l_e7.other W8 (Ne.symm ne_r1_el1)
  have Z8 : n0 ≤ h8.size := W8.size.symm ▸ Z7
  have K8 : Keep h0 h8 [a1, r1, el1] := K7.wr W8 (Or.inl (List.mem_of_getElem? (i := 1) rfl))
  have Vr1_8' : AL Z h8 r1 .int (zs.map Value.int) := (own_wrv f5).2.2 ▸ Vr1_8
  obtain ⟨fs, hr, hrun, hended, hW, hsame⟩ := X8.leave (v := none) (fun _ => rfl)
  refine ⟨_, _, preL _ ?_, hrun, hended, _, _, rfl, ?_, ⟨_, rfl⟩, hW, hsame.mono (by decide) (by decide)⟩
  · show Steps p.tables e below (TL.setTop (mkF m 115 #[.val (.ref a1), .val (.int p1), .val (.ref a2), .val (.int p3), .val (.int p4), .val (.ref r1), .val (.int pd1), .val (.int sc1), .val (.int pv'), .val (.int iL), sL] [])) _
    refine XS.aload XL.here hx rfl (hb hby d9_115) rfl rfl ?_
    show Steps p.tables e below (TL.setTop (mkF m 117 #[.val (.ref a1), .val (.int p1), .val (.ref a2), .val (.int p3), .val (.int p4), .val (.ref r1), .val (.int pd1), .val (.int sc1), .val (.int pv'), .val (.int iL), sL] [(.ref r1)])) _
    refine XS.iload XL.here hx rfl (hb hby d9_117) rfl ?_
    show Steps p.tables e below (TL.setTop (mkF m 119 #[.val (.ref a1), .val (.int p1), .val (.ref a2), .val (.int p3), .val (.int p4), .val (.ref r1), .val (.int pd1), .val (.int sc1), .val (.int pv'), .val (.int iL), sL] [(.int pv'), (.ref r1)])) _
    refine XS.bipush XL.here hx rfl (hb hby d9_119) ?_
    show Steps p.tables e below (TL.setTop (mkF m 121 #[.val (.ref a1), .val (.int p1), .val (.ref a2), .val (.int p3), .val (.int p4), .val (.ref r1), .val (.int pd1), .val (.int sc1), .val (.int pv'), .val (.int iL), sL] [(.int (8 : Int32)), (.int pv'), (.ref r1)])) _
    refine XS.imul XL.here hx rfl (hb hby d9_121) rfl ?_
    show Steps p.tables e below (TL.setTop (mkF m 122 #[.val (.ref a1), .val (.int p1), .val (.ref a2), .val (.int p3), .val (.int p4), .val (.ref r1), .val (.int pd1), .val (.int sc1), .val (.int pv'), .val (.int iL), sL] [(.int (pv' * (8 : Int32))), (.ref r1)])) _
    refine XS.iconst XL.here hx rfl (hb hby d9_122) ?_
    show Steps p.tables e below (TL.setTop (mkF m 123 #[.val (.ref a1), .val (.int p1), .val (.ref a2), .val (.int p3), .val (.int p4), .val (.ref r1), .val (.int pd1), .val (.int sc1), .val (.int pv'), .val (.int iL), sL] [(.int (4 : Int32)), (.int (pv' * (8 : Int32))), (.ref r1)])) _
    refine XS.iadd XL.here hx rfl (hb hby d9_123) rfl ?_
    show Steps p.tables e below (TL.setTop (mkF m 124 #[.val (.ref a1), .val (.int p1), .val (.ref a2), .val (.int p3), .val (.int p4), .val (.ref r1), .val (.int pd1), .val (.int sc1), .val (.int pv'), .val (.int iL), sL] [(.int ((pv' * (8 : Int32)) + (4 : Int32))), (.ref r1)])) _
    refine XS.iconst XL.here hx rfl (hb hby d9_124) ?_
    show Steps p.tables e below (TL.setTop (mkF m 125 #[.val (.ref a1), .val (.int p1), .val (.ref a2), .val (.int p3), .val (.int p4), .val (.ref r1), .val (.int pd1), .val (.int sc1), .val (.int pv'), .val (.int iL), sL] [(.int (1 : Int32)), (.int ((pv' * (8 : Int32)) + (4 : Int32))), (.ref r1)])) _
    refine XS.iadd XL.here hx rfl (hb hby d9_125) rfl ?_
    show Steps p.tables e below (TL.setTop (mkF m 126 #[.val (.ref a1), .val (.int p1), .val (.ref a2), .val (.int p3), .val (.int p4), .val (.ref r1), .val (.int pd1), .val (.int sc1), .val (.int pv'), .val (.int iL), sL] [(.int (((pv' * (8 : Int32)) + (4 : Int32)) + (1 : Int32))), (.ref r1)])) _
    refine XS.iload XL.here hx rfl (hb hby d9_126) rfl ?_
    show Steps p.tables e below (TL.setTop (mkF m 128 #[.val (.ref a1), .val (.int p1), .val (.ref a2), .val (.int p3), .val (.int p4), .val (.ref r1), .val (.int pd1), .val (.int sc1), .val (.int pv'), .val (.int iL), sL] [(.int sc1), (.int (((pv' * (8 : Int32)) + (4 : Int32)) + (1 : Int32))), (.ref r1)])) _
    refine st7 _ ?_
    show Steps p.tables e below (T7.setTop (mkF m 129 #[.val (.ref a1), .val (.int p1), .val (.ref a2), .val (.int p3), .val (.int p4), .val (.ref r1), .val (.int pd1), .val (.int sc1), .val (.int pv'), .val (.int iL), sL] [])) _
    refine XS.aload X7.here hx rfl (hb hby d9_129) rfl rfl ?_
    show Steps p.tables e below (T7.setTop (mkF m 131 #[.val (.ref a1), .val (.int p1), .val (.ref a2), .val (.int p3), .val (.int p4), .val (.ref r1), .val (.int pd1), .val (.int sc1), .val (.int pv'), .val (.int iL), sL] [(.ref r1)])) _
    refine XS.iload X7.here hx rfl (hb hby d9_131) rfl ?_
    show Steps p.tables e below (T7.setTop (mkF m 133 #[.val (.ref a1), .val (.int p1), .val (.ref a2), .val (.int p3), .val (.int p4), .val (.ref r1), .val (.int pd1), .val (.int sc1), .val (.int pv'), .val (.int iL), sL] [(.int sc1), (.ref r1)])) _
    refine XS.bipush X7.here hx rfl (hb hby d9_133) ?_
    show Steps p.tables e below (T7.setTop (mkF m 135 #[.val (.ref a1), .val (.int p1), .val (.ref a2), .val (.int p3), .val (.int p4), .val (.ref r1), .val (.int pd1), .val (.int sc1), .val (.int pv'), .val (.int iL), sL] [(.int (8 : Int32)), (.int sc1), (.ref r1)])) _
    refine XS.imul X7.here hx rfl (hb hby d9_135) rfl ?_
    show Steps p.tables e below (T7.setTop (mkF m 136 #[.val (.ref a1), .val (.int p1), .val (.ref a2), .val (.int p3), .val (.int p4), .val (.ref r1), .val (.int pd1), .val (.int sc1), .val (.int pv'), .val (.int iL), sL] [(.int (sc1 * (8 : Int32))), (.ref r1)])) _
    refine XS.iconst X7.here hx rfl (hb hby d9_136) ?_
    show Steps p.tables e below (T7.setTop (mkF m 137 #[.val (.ref a1), .val (.int p1), .val (.ref a2), .val (.int p3), .val (.int p4), .val (.ref r1), .val (.int pd1), .val (.int sc1), .val (.int pv'), .val (.int iL), sL] [(.int (4 : Int32)), (.int (sc1 * (8 : Int32))), (.ref r1)])) _
    refine XS.iadd X7.here hx rfl (hb hby d9_137) rfl ?_
    show Steps p.tables e below (T7.setTop (mkF m 138 #[.val (.ref a1), .val (.int p1), .val (.ref a2), .val (.int p3), .val (.int p4), .val (.ref r1), .val (.int pd1), .val (.int sc1), .val (.int pv'), .val (.int iL), sL] [(.int ((sc1 * (8 : Int32)) + (4 : Int32))), (.ref r1)])) _
    refine XS.iload X7.here hx rfl (hb hby d9_138) rfl ?_
    show Steps p.tables e below (T7.setTop (mkF m 140 #[.val (.ref a1), .val (.int p1), .val (.ref a2), .val (.int p3), .val (.int p4), .val (.ref r1), .val (.int pd1), .val (.int sc1), .val (.int pv'), .val (.int iL), sL] [(.int pv'), (.int ((sc1 * (8 : Int32)) + (4 : Int32))), (.ref r1)])) _
    refine st8 _ ?_
    show Steps p.tables e below (T8.setTop (mkF m 141 #[.val (.ref a1), .val (.int p1), .val (.ref a2), .val (.int p3), .val (.int p4), .val (.ref r1), .val (.int pd1), .val (.int sc1), .val (.int pv'), .val (.int iL), sL] [])) _
    exact X8.returnOut hx Bd.returns (hb hby d9_141) hr
  · show Q9 Z a1 r1 el1 u zs h0 n0 _ T8.heap _
    rw [e8]
    exact ⟨rfl, N8, K8, ⟨E1_l_e8, Frec_l_e8, Fel_l_e8, Frel_l_e8, Fused_l_e8, Vr1_8', Ve_l_e8, g_a1, g_r1, g_el1, ne_a1_r1, ne_a1_el1, ne_r1_el1⟩⟩

theorem own_r3 (x : Int32) : ∃ r : Fin 3, (x &&& (2147483647 : Int32)) % (3 : Int32) = own_rI r := by
  have h0 := (c_and x (2147483647 : Int32) (by decide)).1
  have := (c_iremV (x &&& (2147483647 : Int32)) (3 : Int32)).1 h0 (by decide)
  have e3 : (3 : Int32).toInt = 3 := by decide
  have hr : ((x &&& (2147483647 : Int32)) % (3 : Int32)).toInt = 0 ∨ ((x &&& (2147483647 : Int32)) % (3 : Int32)).toInt = 1 ∨ ((x &&& (2147483647 : Int32)) % (3 : Int32)).toInt = 2 := by omega
  rcases hr with q | q | q
  · exact ⟨0, Int32.toInt_inj.mp (by rw [q]; decide)⟩
  · exact ⟨1, Int32.toInt_inj.mp (by rw [q]; decide)⟩
  · exact ⟨2, Int32.toInt_inj.mp (by rw [q]; decide)⟩
theorem own_k4 (x : Int32) : ∃ r : Fin 4, (x &&& (2147483647 : Int32)) % (4 : Int32) = own_kI r := by
  have h0 := (c_and x (2147483647 : Int32) (by decide)).1
  have := (c_iremV (x &&& (2147483647 : Int32)) (4 : Int32)).1 h0 (by decide)
  have e3 : (4 : Int32).toInt = 4 := by decide
  have hr : ((x &&& (2147483647 : Int32)) % (4 : Int32)).toInt = 0 ∨ ((x &&& (2147483647 : Int32)) % (4 : Int32)).toInt = 1 ∨ ((x &&& (2147483647 : Int32)) % (4 : Int32)).toInt = 2 ∨ ((x &&& (2147483647 : Int32)) % (4 : Int32)).toInt = 3 := by omega
  rcases hr with q | q | q | q
  · exact ⟨0, Int32.toInt_inj.mp (by rw [q]; decide)⟩
  · exact ⟨1, Int32.toInt_inj.mp (by rw [q]; decide)⟩
  · exact ⟨2, Int32.toInt_inj.mp (by rw [q]; decide)⟩
  · exact ⟨3, Int32.toInt_inj.mp (by rw [q]; decide)⟩
theorem own_b2 (P : Prop) [Decidable P] : ∃ b : Bool, (if P then (0 : Int32) else (1 : Int32)) = own_bI b := by
  by_cases h : P
  · exact ⟨false, by rw [if_pos h]; rfl⟩
  · exact ⟨true, by rw [if_neg h]; rfl⟩
theorem own_bn {b : Bool} (h : ¬ own_bI b = (0 : Int32)) : b = true := by cases b <;> first | rfl | exact absurd rfl h
theorem own_bz {b : Bool} (h : own_bI b = (0 : Int32)) : b = false := by cases b <;> first | rfl | exact absurd h (by decide)
theorem own_kk (k : Fin 4) : (own_kI k).toInt = (k.val : Int) ∧ (own_kI k).toInt < 1000 := by revert k; decide
theorem own_k3 (k : Fin 4) : ((3 : Int32) - own_kI k).toInt = ((3 - k.val : Nat) : Int) ∧ ((3 : Int32) - own_kI k).toInt < 1000 := by revert k; decide
theorem own_pO1 : ∀ r, own_rd own_eL ((own_rI r + 2) % 3) = some (own_o1 r true) ∧ own_rd own_eL ((own_rI r + 1) % 3) = some (own_o1 r false) ∧ own_rd own_eL ((own_rI r + 1) % 3) = some (own_o2 r true) ∧ own_rd own_eL ((own_rI r + 2) % 3) = some (own_o2 r false) := by decide +kernel
theorem own_pT : ∀ r v k, own_rd (own_oL r v) (own_kI k % 3) = some (own_t0 r v k) ∧ own_rd (own_oL r v) ((own_kI k + 1) % 3) = some (own_t1 r v k) ∧ own_rd (own_oL r v) ((own_kI k + 2) % 3) = some (own_t2 r v k) := by decide +kernel

theorem own_j0 {j : Fin 3} (h : own_rI j = (0 : Int32)) : j = 0 := by revert j; decide
theorem own_j1 {j : Fin 3} (h : own_rI j = (1 : Int32)) : j = 1 := by revert j; decide
theorem own_j2 {j : Fin 3} (h : own_rI j = (2 : Int32)) : j = 2 := by revert j; decide
theorem own_j01 {j : Fin 3} (h : ¬ own_rI j = (0 : Int32)) (h' : ¬ own_rI j = (1 : Int32)) : j = 2 := by revert j; decide
theorem own_u0n {r : Fin 3} {v : Bool} {k : Fin 4} {g : Bool} {j : Fin 3} (h : ¬ own_rI j = (0 : Int32)) : own_u0 r v k g j = own_s0 r v k g := if_neg fun q => h (by rw [show j = 0 from Fin.ext q]; rfl)
theorem own_u1n {r : Fin 3} {v : Bool} {k : Fin 4} {g : Bool} {j : Fin 3} (h : ¬ own_rI j = (2 : Int32)) : own_u1 r v k g j = own_s2 r v k g := if_neg fun q => h (by rw [show j = 2 from Fin.ext q]; rfl)

theorem ef_rm0 (m : MethodId) (p1 : Int32) (p2 : Int32) (p3 : Int32) (p4 : Int32) : entryFrame m #[(.int p1), (.int p2), (.int p3), (.int p4)] maxLocals = mkF m 0 #[.val (.int p1), .val (.int p2), .val (.int p3), .val (.int p4), .unset, .unset, .unset, .unset, .unset, .unset, .unset, .unset, .unset, .unset, .unset, .unset, .unset, .unset, .unset, .unset, .unset, .unset, .unset, .unset, .unset, .unset, .unset, .unset, .unset] [] := by first | (simp [entryFrame, mkF, argsToLocals, Value.category, maxLocals]; done) | rfl
def Q0 (Z : State)  (h0 : Heap) (n0 : Nat) (v : Option Value) (h : Heap) (L : List Loc) : Prop := v = some (.int (1 : Int32)) ∧ Fr n0 L
set_option maxRecDepth 65536 in
set_option maxHeartbeats 40000000 in
theorem rm0 (l : Launch) (Z : State) (a0 : Array Value) (hw : ∀ d ∈ tables_1, d.before a0 Z = true) (ws : List Jvm.Cond) (p1 : Int32) (p2 : Int32) (p3 : Int32) (p4 : Int32) (h0 : Heap) (n0 : Nat) (Z0 : n0 ≤ h0.size) :
    MetFree l x (head1 (Jvm.Cond.code x code maxLocals ret :: ws) room_1) (fun a U => a = #[(.int p1), (.int p2), (.int p3), (.int p4)] ∧ Z.Warmed39 U.vm ∧ U.heap = h0) (fun _ _ _ _ _ => True) (fun _ U o U' => ∃ v L, o = .returned v ∧ Q0 Z  h0 n0 v U'.heap L ∧ FrameEnd U o U' L room_1.cells room_1.slots) := by
  refine MetFree.of_bodySF (plainFor_of_name pn_0) hisR ?_
  intro p e s m args below meth c s₁ Bd hml0 hP hK
  obtain ⟨rfl, hZ, hh⟩ := hP
  have hx := Bd.exec
  have hby := Bd.bytes
  have hml : c.maxLocals = 29 := hml0
  have hown : s.vm.findClass "com/example/reticule/reticule/match/LinkTableLineUpPinLaw" = some m.cls := findClass_of_methodNamed Bd.named
  have hnm := (name_of_methodNamed Bd.named Bd.method).1
  have X0 : Stand p l e room_1 s m #[(.int p1), (.int p2), (.int p3), (.int p4)] below meth c s₁ [] 0 0 := Stand.of_body Bd
  have e0 : s₁.heap = h0 := by rw [← hh, Bd.state]; rfl
  have N0 := Fr.nil n0
  have pre0 : ∀ t, Steps p.tables e below (s₁.setTop (mkF m 0 #[.val (.int p1), .val (.int p2), .val (.int p3), .val (.int p4), .unset, .unset, .unset, .unset, .unset, .unset, .unset, .unset, .unset, .unset, .unset, .unset, .unset, .unset, .unset, .unset, .unset, .unset, .unset, .unset, .unset, .unset, .unset, .unset, .unset] [])) t → Steps p.tables e below (s₁.setTop (entryFrame m #[(.int p1), (.int p2), (.int p3), (.int p4)] maxLocals)) t := fun t k => castTop (ef_rm0 m p1 p2 p3 p4) k

  obtain ⟨T1, h1, X1, e1, E1, A1, D1, -, st1⟩ := newO X0 hx hZ hown (hw _ (List.mem_of_getElem? (i := 0) rfl)) (hw _ (List.mem_of_getElem? (i := 1) rfl)) (hw _ (List.mem_of_getElem? (i := 2) rfl)) e0 (g := (mkF m 0 #[.val (.int p1), .val (.int p2), .val (.int p3), .val (.int p4), .unset, .unset, .unset, .unset, .unset, .unset, .unset, .unset, .unset, .unset, .unset, .unset, .unset, .unset, .unset, .unset, .unset, .unset, .unset, .unset, .unset, .unset, .unset, .unset, .unset] [])) rfl (hb hby at_0) (by decide) (by decide)
  obtain ⟨bt, g1⟩ : ∃ z, z = h0.size := ⟨_, rfl⟩
  rw [← g1] at A1 D1 st1
  have g_bt : n0 ≤ bt := Nat.le_trans Z0 (Nat.le_of_eq g1.symm)
  have Z1 : n0 ≤ h1.size := Nat.le_trans Z0 E1.1
  have F_records_bt : Fld Z h1 bt "com/example/reticule/reticule/match/LinkTable" "records" "[I" .null := D1 (Or.inl (hw _ (List.mem_of_getElem? (i := 11) rfl))) (ty := (.array .int)) (by decide)
  have F_elements_bt : Fld Z h1 bt "com/example/reticule/reticule/match/LinkTable" "elements" "[Ljava/lang/Object;" .null := D1 (Or.inl (hw _ (List.mem_of_getElem? (i := 15) rfl))) (ty := (.array (.object "java/lang/Object"))) (by decide)
  have F_released_bt : Fld Z h1 bt "com/example/reticule/reticule/match/LinkTable" "released" "I" (.int (0 : Int32)) := D1 (Or.inl (hw _ (List.mem_of_getElem? (i := 17) rfl))) (ty := .int) (by decide)
  have F_used_bt : Fld Z h1 bt "com/example/reticule/reticule/match/LinkTable" "used" "I" (.int (0 : Int32)) := D1 (Or.inl (hw _ (List.mem_of_getElem? (i := 32) rfl))) (ty := .int) (by decide)
  obtain ⟨_, _, ⟨T2, L2, k2, n2⟩, -, X2, ⟨Lc2, hQ2, l2, y2, z2⟩, st2⟩ := X1.specialBack hx (y := (⟨"com/example/reticule/reticule/match/LinkTable", "<init>", "()V"⟩ : MethodName)) rfl hown (mvT hZ (hw _ (List.mem_of_getElem? (i := 3) rfl))) (mvT hZ (hw _ (List.mem_of_getElem? (i := 4) rfl))) (mvT hZ (hw _ (List.mem_of_getElem? (i := 5) rfl))) (by decide) (backOf (W := 1) (rm1 l Z a0 hw [] bt h1 n0 Z1 A1 g_bt F_records_bt F_elements_bt F_released_bt F_used_bt) hZ (hw _ (List.mem_of_getElem? (i := 5) rfl)) (hw _ (List.mem_of_getElem? (i := 2) rfl)) (by decide) (by decide)) (g := (mkF m 4 #[.val (.int p1), .val (.int p2), .val (.int p3), .val (.int p4), .unset, .unset, .unset, .unset, .unset, .unset, .unset, .unset, .unset, .unset, .unset, .unset, .unset, .unset, .unset, .unset, .unset, .unset, .unset, .unset, .unset, .unset, .unset, .unset, .unset] [(.ref bt), (.ref bt)])) rfl (by rw [hml]; rfl) (Steps.refl _) (a := bt) (argsL := []) (rest := [(.ref bt)]) (lenOf pd_1 rfl) rfl (by show 2 * 0 + _ ≤ _; exact Nat.le_of_eq rfl) (hb hby at_4) (fun _ _ => ⟨rfl, e1, (by decide : 1 + 2 ≤ _), (by decide : 4 + 72 ≤ _)⟩)
  dsimp only [Pt.U, Pt.locs, Pt.cells, Pt.slots] at X2 l2 y2 z2 st2 hQ2
  subst l2 y2 z2
  obtain ⟨N2q, rfl, br, bl, szr, szl, Kc2, W2⟩ := hQ2
  have N2 := Fr.app N0 N2q
  obtain ⟨wE2, wR2, wL2, wD2, wU2, wV2, wW2, -, g_br, g_bl, ne_bt_br, ne_bt_bl, ne_br_bl⟩ := W2
  have Z2 : n0 ≤ T2.heap.size := Nat.le_trans Z1 Kc2.1
  obtain ⟨_, _, ⟨T3, L3, k3, n3⟩, -, X3, ⟨Lc3, hQ3, l3, y3, z3⟩, st3⟩ := Jvm.LawKit.callS X2 hx (y := (⟨"com/example/reticule/reticule/match/LinkTableLineUpPinLaw", "mk", "(Lcom/example/reticule/reticule/match/LinkTable;)I"⟩ : MethodName)) hown (mvT hZ (hw _ (List.mem_of_getElem? (i := 18) rfl))) (mvT hZ (hw _ (List.mem_of_getElem? (i := 19) rfl))) (mvT hZ (hw _ (List.mem_of_getElem? (i := 20) rfl))) (mvT hZ (hw _ (List.mem_of_getElem? (i := 21) rfl))) (by decide) (backOf (W := 0) (rm3 l Z a0 hw [] bt br bl (0 : Int32) (List.replicate 64 (0 : Int32)) own_X1 T2.heap n0 Z2 ⟨wE2, wR2, wL2, wD2, wU2, wV2, wW2, g_bt, g_br, g_bl, ne_bt_br, ne_bt_bl, ne_br_bl⟩ (by decide) (by decide) (by decide) own_pX1) hZ (hw _ (List.mem_of_getElem? (i := 21) rfl)) (hw _ (List.mem_of_getElem? (i := 20) rfl)) (by decide) (by decide)) (g := (mkF m 11 #[.val (.int p1), .val (.int p2), .val (.int p3), .val (.int p4), .val (.ref bt), .unset, .unset, .unset, .unset, .unset, .unset, .unset, .unset, .unset, .unset, .unset, .unset, .unset, .unset, .unset, .unset, .unset, .unset, .unset, .unset, .unset, .unset, .unset, .unset] [(.ref bt)])) rfl (by rw [hml]; rfl) (argsL := [(.ref bt)]) (rest := []) (lenOf pd_3 rfl) rfl (by show 2 * 0 + _ ≤ _; exact Nat.le_of_eq rfl) (hb hby at_11) (fun _ _ => ⟨rfl, rfl, (by decide : 3 + 0 ≤ _), (by decide : 76 + 0 ≤ _)⟩)
  dsimp only [Pt.U, Pt.locs, Pt.cells, Pt.slots] at X3 l3 y3 z3 st3 hQ3
  subst l3 y3 z3
  obtain ⟨rfl, N3q, Kc3, W3⟩ := hQ3
  have N3 := Fr.app N2 N3q
  obtain ⟨wE3, wR3, wL3, wD3, wU3, wV3, wW3, -⟩ := W3
  have wU3' : Fld Z T3.heap bt "com/example/reticule/reticule/match/LinkTable" "used" "I" (.int (1 : Int32)) := wU3
  have Z3 : n0 ≤ T3.heap.size := Nat.le_trans Z2 Kc3.1
  obtain ⟨cq4, kq4, q4a, q4b, q4c⟩ := isOf hZ rfl wE3
  obtain ⟨_, _, ⟨T4, L4, k4, n4⟩, -, X4, ⟨Lc4, hQ4, l4, y4, z4⟩, st4⟩ := X3.virtualBack hx (y := (⟨"com/example/reticule/reticule/match/LinkTable", "newList", "()I"⟩ : MethodName)) (z := (⟨"com/example/reticule/reticule/match/LinkTable", "newList", "()I"⟩ : MethodName)) hown (mvT hZ (hw _ (List.mem_of_getElem? (i := 37) rfl))) (mvT hZ (hw _ (List.mem_of_getElem? (i := 38) rfl))) (notFace_of_selects (args := #[]) (mvT hZ (hw _ (List.mem_of_getElem? (i := 40) rfl)))) (mvT hZ (hw _ (List.mem_of_getElem? (i := 40) rfl))) (mvT hZ (hw _ (List.mem_of_getElem? (i := 39) rfl))) (by decide) (backOf (W := 0) (rm7 l Z a0 hw [] bt br bl (1 : Int32) own_X1 own_X2 T3.heap n0 Z3 ⟨wE3, wR3, wL3, wD3, wU3', wV3, wW3, g_bt, g_br, g_bl, ne_bt_br, ne_bt_bl, ne_br_bl⟩ (by decide) (by decide) (by decide) own_pX2) hZ (hw _ (List.mem_of_getElem? (i := 41) rfl)) (hw _ (List.mem_of_getElem? (i := 2) rfl)) (by decide) (by decide)) q4a q4c (g := (mkF m 18 #[.val (.int p1), .val (.int p2), .val (.int p3), .val (.int p4), .val (.ref bt), .val (.int (0 : Int32)), .unset, .unset, .unset, .unset, .unset, .unset, .unset, .unset, .unset, .unset, .unset, .unset, .unset, .unset, .unset, .unset, .unset, .unset, .unset, .unset, .unset, .unset, .unset] [(.ref bt)])) rfl (by rw [hml]; rfl) (Steps.refl _) (argsL := []) (rest := []) (lenOf pd_7 rfl) rfl (by show 2 * 0 + _ ≤ _; exact Nat.le_of_eq rfl) (hb hby at_18) (fun _ _ => ⟨rfl, rfl, (by decide : 3 + 0 ≤ _), (by decide : 76 + 0 ≤ _)⟩)
  dsimp only [Pt.U, Pt.locs, Pt.cells, Pt.slots] at X4 l4 y4 z4 st4 hQ4
  subst l4 y4 z4
  obtain ⟨rfl, N4q, Kc4, W4⟩ := hQ4
  have N4 := Fr.app N3 N4q
  obtain ⟨wE4, wR4, wL4, wD4, wU4, wV4, wW4, -⟩ := W4
  have wU4' : Fld Z T4.heap bt "com/example/reticule/reticule/match/LinkTable" "used" "I" (.int (2 : Int32)) := wU4
  have Z4 : n0 ≤ T4.heap.size := Nat.le_trans Z3 Kc4.1
  obtain ⟨_, _, ⟨T5, L5, k5, n5⟩, -, X5, ⟨Lc5, hQ5, l5, y5, z5⟩, st5⟩ := Jvm.LawKit.callS X4 hx (y := (⟨"com/example/reticule/reticule/match/LinkTableLineUpPinLaw", "mk", "(Lcom/example/reticule/reticule/match/LinkTable;)I"⟩ : MethodName)) hown (mvT hZ (hw _ (List.mem_of_getElem? (i := 18) rfl))) (mvT hZ (hw _ (List.mem_of_getElem? (i := 19) rfl))) (mvT hZ (hw _ (List.mem_of_getElem? (i := 20) rfl))) (mvT hZ (hw _ (List.mem_of_getElem? (i := 21) rfl))) (by decide) (backOf (W := 0) (rm3 l Z a0 hw [] bt br bl (2 : Int32) own_X2 own_X3 T4.heap n0 Z4 ⟨wE4, wR4, wL4, wD4, wU4', wV4, wW4, g_bt, g_br, g_bl, ne_bt_br, ne_bt_bl, ne_br_bl⟩ (by decide) (by decide) (by decide) own_pX3) hZ (hw _ (List.mem_of_getElem? (i := 21) rfl)) (hw _ (List.mem_of_getElem? (i := 20) rfl)) (by decide) (by decide)) (g := (mkF m 25 #[.val (.int p1), .val (.int p2), .val (.int p3), .val (.int p4), .val (.ref bt), .val (.int (0 : Int32)), .val (.int (1 : Int32)), .unset, .unset, .unset, .unset, .unset, .unset, .unset, .unset, .unset, .unset, .unset, .unset, .unset, .unset, .unset, .unset, .unset, .unset, .unset, .unset, .unset, .unset] [(.ref bt)])) rfl (by rw [hml]; rfl) (argsL := [(.ref bt)]) (rest := []) (lenOf pd_3 rfl) rfl (by show 2 * 0 + _ ≤ _; exact Nat.le_of_eq rfl) (hb hby at_25) (fun _ _ => ⟨rfl, rfl, (by decide : 3 + 0 ≤ _), (by decide : 76 + 0 ≤ _)⟩)
  dsimp only [Pt.U, Pt.locs, Pt.cells, Pt.slots] at X5 l5 y5 z5 st5 hQ5
  subst l5 y5 z5
  obtain ⟨rfl, N5q, Kc5, W5⟩ := hQ5
  have N5 := Fr.app N4 N5q
  obtain ⟨wE5, wR5, wL5, wD5, wU5, wV5, wW5, -⟩ := W5
  have wU5' : Fld Z T5.heap bt "com/example/reticule/reticule/match/LinkTable" "used" "I" (.int (3 : Int32)) := wU5
  have Z5 : n0 ≤ T5.heap.size := Nat.le_trans Z4 Kc5.1
  obtain ⟨_, _, ⟨T6, L6, k6, n6⟩, -, X6, ⟨Lc6, hQ6, l6, y6, z6⟩, st6⟩ := Jvm.LawKit.callS X5 hx (y := (⟨"com/example/reticule/reticule/match/LinkTableLineUpPinLaw", "mk", "(Lcom/example/reticule/reticule/match/LinkTable;)I"⟩ : MethodName)) hown (mvT hZ (hw _ (List.mem_of_getElem? (i := 18) rfl))) (mvT hZ (hw _ (List.mem_of_getElem? (i := 19) rfl))) (mvT hZ (hw _ (List.mem_of_getElem? (i := 20) rfl))) (mvT hZ (hw _ (List.mem_of_getElem? (i := 21) rfl))) (by decide) (backOf (W := 0) (rm3 l Z a0 hw [] bt br bl (3 : Int32) own_X3 own_X4 T5.heap n0 Z5 ⟨wE5, wR5, wL5, wD5, wU5', wV5, wW5, g_bt, g_br, g_bl, ne_bt_br, ne_bt_bl, ne_br_bl⟩ (by decide) (by decide) (by decide) own_pX4) hZ (hw _ (List.mem_of_getElem? (i := 21) rfl)) (hw _ (List.mem_of_getElem? (i := 20) rfl)) (by decide) (by decide)) (g := (mkF m 32 #[.val (.int p1), .val (.int p2), .val (.int p3), .val (.int p4), .val (.ref bt), .val (.int (0 : Int32)), .val (.int (1 : Int32)), .val (.int (2 : Int32)), .unset, .unset, .unset, .unset, .unset, .unset, .unset, .unset, .unset, .unset, .unset, .unset, .unset, .unset, .unset, .unset, .unset, .unset, .unset, .unset, .unset] [(.ref bt)])) rfl (by rw [hml]; rfl) (argsL := [(.ref bt)]) (rest := []) (lenOf pd_3 rfl) rfl (by show 2 * 0 + _ ≤ _; exact Nat.le_of_eq rfl) (hb hby at_32) (fun _ _ => ⟨rfl, rfl, (by decide : 3 + 0 ≤ _), (by decide : 76 + 0 ≤ _)⟩)
  dsimp only [Pt.U, Pt.locs, Pt.cells, Pt.slots] at X6 l6 y6 z6 st6 hQ6
  subst l6 y6 z6
  obtain ⟨rfl, N6q, Kc6, W6⟩ := hQ6
  have N6 := Fr.app N5 N6q
  obtain ⟨wE6, wR6, wL6, wD6, wU6, wV6, wW6, -⟩ := W6
  have wU6' : Fld Z T6.heap bt "com/example/reticule/reticule/match/LinkTable" "used" "I" (.int (4 : Int32)) := wU6
  have Z6 : n0 ≤ T6.heap.size := Nat.le_trans Z5 Kc6.1
  obtain ⟨T7, h7, k7, X7, e7, E7, A7, st7⟩ := newP X6 hx hZ (hw _ (List.mem_of_getElem? (i := 9) rfl)) rfl (g := (mkF m 38 #[.val (.int p1), .val (.int p2), .val (.int p3), .val (.int p4), .val (.ref bt), .val (.int (0 : Int32)), .val (.int (1 : Int32)), .val (.int (2 : Int32)), .val (.int (3 : Int32)), .unset, .unset, .unset, .unset, .unset, .unset, .unset, .unset, .unset, .unset, .unset, .unset, .unset, .unset, .unset, .unset, .unset, .unset, .unset, .unset] [(.int (3 : Int32))])) rfl (hb hby at_38) rfl (by decide) (cap := 3) (by decide) (by decide) (by decide) (by decide)
  obtain ⟨be, g7⟩ : ∃ z, z = T6.heap.size := ⟨_, rfl⟩
  rw [← g7] at A7 st7
  have g_be : n0 ≤ be := Nat.le_trans Z6 (Nat.le_of_eq g7.symm)
  have ne_bt_be : bt ≠ be := Nat.ne_of_lt (Nat.lt_of_lt_of_le wE6.lt (Nat.le_of_eq g7.symm))
  have ne_br_be : br ≠ be := Nat.ne_of_lt (Nat.lt_of_lt_of_le wV6.lt (Nat.le_of_eq g7.symm))
  have ne_bl_be : bl ≠ be := Nat.ne_of_lt (Nat.lt_of_lt_of_le wW6.lt (Nat.le_of_eq g7.symm))
  have wE6_e7 := wE6.ext E7
  have wR6_e7 := wR6.ext E7
  have wL6_e7 := wL6.ext E7
  have wD6_e7 := wD6.ext E7
  have wU6'_e7 := wU6'.ext E7
  have wV6_e7 := wV6.ext E7
  have wW6_e7 := wW6.ext E7
  have Z7 : n0 ≤ h7.size := Nat.le_trans Z6 E7.1
  have V_be : AL Z h7 be .int (List.replicate 3 (.int (0 : Int32))) := AL.new A7 (by decide) rfl rfl
  obtain ⟨T8, h8, L8, X8, N8, e8, W8, Vbe_8, st8⟩ := own_stI X7 hx hZ e7 V_be N6 g_be (by decide) (Nat.le_of_ble_eq_true rfl) (g := (mkF m 44 #[.val (.int p1), .val (.int p2), .val (.int p3), .val (.int p4), .val (.ref bt), .val (.int (0 : Int32)), .val (.int (1 : Int32)), .val (.int (2 : Int32)), .val (.int (3 : Int32)), .unset, .unset, .unset, .unset, .unset, .unset, .unset, .unset, .unset, .unset, .unset, .unset, .unset, .unset, .unset, .unset, .unset, .unset, .unset, .unset] [(.int (0 : Int32)), (.int (0 : Int32)), (.ref be), (.ref be)])) rfl rfl (hb hby at_44)
  have wE6_e8 := wE6_e7.wr W8
  have wR6_e8 := wR6_e7.other W8 (Or.inl ne_bt_be)
  have wL6_e8 := wL6_e7.other W8 (Or.inl ne_bt_be)
  have wD6_e8 := wD6_e7.other W8 (Or.inl ne_bt_be)
  have wU6'_e8 := wU6'_e7.other W8 (Or.inl ne_bt_be)
  have wV6_e8 := wV6_e7.other W8 ne_br_be
  have wW6_e8 := wW6_e7.other W8 ne_bl_be
  have Z8 : n0 ≤ h8.size := W8.size.symm ▸ Z7
  obtain ⟨T9, h9, L9, X9, N9, e9, W9, Vbe_9, st9⟩ := own_stI X8 hx hZ e8 Vbe_8 N8 g_be (by decide) (Nat.le_of_ble_eq_true rfl) (g := (mkF m 49 #[.val (.int p1), .val (.int p2), .val (.int p3), .val (.int p4), .val (.ref bt), .val (.int (0 : Int32)), .val (.int (1 : Int32)), .val (.int (2 : Int32)), .val (.int (3 : Int32)), .unset, .unset, .unset, .unset, .unset, .unset, .unset, .unset, .unset, .unset, .unset, .unset, .unset, .unset, .unset, .unset, .unset, .unset, .unset, .unset] [(.int (2 : Int32)), (.int (1 : Int32)), (.ref be), (.ref be)])) rfl rfl (hb hby at_49)
  have wE6_e9 := wE6_e8.wr W9
  have wR6_e9 := wR6_e8.other W9 (Or.inl ne_bt_be)
  have wL6_e9 := wL6_e8.other W9 (Or.inl ne_bt_be)
  have wD6_e9 := wD6_e8.other W9 (Or.inl ne_bt_be)
  have wU6'_e9 := wU6'_e8.other W9 (Or.inl ne_bt_be)
  have wV6_e9 := wV6_e8.other W9 ne_br_be
  have wW6_e9 := wW6_e8.other W9 ne_bl_be
  have Z9 : n0 ≤ h9.size := W9.size.symm ▸ Z8
  obtain ⟨T10, h10, L10, X10, N10, e10, W10, Vbe_10, st10⟩ := own_stI X9 hx hZ e9 Vbe_9 N9 g_be (by decide) (Nat.le_of_ble_eq_true rfl) (g := (mkF m 54 #[.val (.int p1), .val (.int p2), .val (.int p3), .val (.int p4), .val (.ref bt), .val (.int (0 : Int32)), .val (.int (1 : Int32)), .val (.int (2 : Int32)), .val (.int (3 : Int32)), .unset, .unset, .unset, .unset, .unset, .unset, .unset, .unset, .unset, .unset, .unset, .unset, .unset, .unset, .unset, .unset, .unset, .unset, .unset, .unset] [(.int (3 : Int32)), (.int (2 : Int32)), (.ref be), (.ref be)])) rfl rfl (hb hby at_54)
  have wE6_e10 := wE6_e9.wr W10
  have wR6_e10 := wR6_e9.other W10 (Or.inl ne_bt_be)
  have wL6_e10 := wL6_e9.other W10 (Or.inl ne_bt_be)
  have wD6_e10 := wD6_e9.other W10 (Or.inl ne_bt_be)
  have wU6'_e10 := wU6'_e9.other W10 (Or.inl ne_bt_be)
  have wV6_e10 := wV6_e9.other W10 ne_br_be
  have wW6_e10 := wW6_e9.other W10 ne_bl_be
  have Z10 : n0 ≤ h10.size := W10.size.symm ▸ Z9
  have V_be' : AL Z h10 be .int (own_eL.map Value.int) := Vbe_10
  obtain ⟨r_, h_r_⟩ : ∃ z : Int32, z = ((p1 &&& (2147483647 : Int32)) % (3 : Int32)) := ⟨_, rfl⟩
  have pre11 : ∀ t, Steps p.tables e below (T10.setTop (mkF m 65 #[.val (.int p1), .val (.int p2), .val (.int p3), .val (.int p4), .val (.ref bt), .val (.int (0 : Int32)), .val (.int (1 : Int32)), .val (.int (2 : Int32)), .val (.int (3 : Int32)), .val (.ref be), .val (.int r_), .unset, .unset, .unset, .unset, .unset, .unset, .unset, .unset, .unset, .unset, .unset, .unset, .unset, .unset, .unset, .unset, .unset, .unset] [])) t → Steps p.tables e below (s₁.setTop (entryFrame m #[(.int p1), (.int p2), (.int p3), (.int p4)] maxLocals)) t := fun t k => pre0 t (by
    rw [h_r_] at k
    show Steps p.tables e below (s₁.setTop (mkF m 0 #[.val (.int p1), .val (.int p2), .val (.int p3), .val (.int p4), .unset, .unset, .unset, .unset, .unset, .unset, .unset, .unset, .unset, .unset, .unset, .unset, .unset, .unset, .unset, .unset, .unset, .unset, .unset, .unset, .unset, .unset, .unset, .unset, .unset] [])) _
    refine st1 _ ?_
    show Steps p.tables e below (T1.setTop (mkF m 3 #[.val (.int p1), .val (.int p2), .val (.int p3), .val (.int p4), .unset, .unset, .unset, .unset, .unset, .unset, .unset, .unset, .unset, .unset, .unset, .unset, .unset, .unset, .unset, .unset, .unset, .unset, .unset, .unset, .unset, .unset, .unset, .unset, .unset] [(.ref bt)])) _
    refine XS.dup X1.here hx rfl (hb hby at_3) rfl rfl ?_
    show Steps p.tables e below (T1.setTop (mkF m 4 #[.val (.int p1), .val (.int p2), .val (.int p3), .val (.int p4), .unset, .unset, .unset, .unset, .unset, .unset, .unset, .unset, .unset, .unset, .unset, .unset, .unset, .unset, .unset, .unset, .unset, .unset, .unset, .unset, .unset, .unset, .unset, .unset, .unset] [(.ref bt), (.ref bt)])) _
    refine st2.trans ?_
    show Steps p.tables e below (T2.setTop (mkF m 7 #[.val (.int p1), .val (.int p2), .val (.int p3), .val (.int p4), .unset, .unset, .unset, .unset, .unset, .unset, .unset, .unset, .unset, .unset, .unset, .unset, .unset, .unset, .unset, .unset, .unset, .unset, .unset, .unset, .unset, .unset, .unset, .unset, .unset] [(.ref bt)])) _
    refine XS.astore X2.here hx rfl (hb hby at_7) rfl rfl (l' := #[.val (.int p1), .val (.int p2), .val (.int p3), .val (.int p4), .val (.ref bt), .unset, .unset, .unset, .unset, .unset, .unset, .unset, .unset, .unset, .unset, .unset, .unset, .unset, .unset, .unset, .unset, .unset, .unset, .unset, .unset, .unset, .unset, .unset, .unset]) rfl ?_
    show Steps p.tables e below (T2.setTop (mkF m 9 #[.val (.int p1), .val (.int p2), .val (.int p3), .val (.int p4), .val (.ref bt), .unset, .unset, .unset, .unset, .unset, .unset, .unset, .unset, .unset, .unset, .unset, .unset, .unset, .unset, .unset, .unset, .unset, .unset, .unset, .unset, .unset, .unset, .unset, .unset] [])) _
    refine XS.aload X2.here hx rfl (hb hby at_9) rfl rfl ?_
    show Steps p.tables e below (T2.setTop (mkF m 11 #[.val (.int p1), .val (.int p2), .val (.int p3), .val (.int p4), .val (.ref bt), .unset, .unset, .unset, .unset, .unset, .unset, .unset, .unset, .unset, .unset, .unset, .unset, .unset, .unset, .unset, .unset, .unset, .unset, .unset, .unset, .unset, .unset, .unset, .unset] [(.ref bt)])) _
    refine st3 _ ?_
    show Steps p.tables e below (T3.setTop (mkF m 14 #[.val (.int p1), .val (.int p2), .val (.int p3), .val (.int p4), .val (.ref bt), .unset, .unset, .unset, .unset, .unset, .unset, .unset, .unset, .unset, .unset, .unset, .unset, .unset, .unset, .unset, .unset, .unset, .unset, .unset, .unset, .unset, .unset, .unset, .unset] [(.int (0 : Int32))])) _
    refine XS.istore X3.here hx rfl (hb hby at_14) rfl (l' := #[.val (.int p1), .val (.int p2), .val (.int p3), .val (.int p4), .val (.ref bt), .val (.int (0 : Int32)), .unset, .unset, .unset, .unset, .unset, .unset, .unset, .unset, .unset, .unset, .unset, .unset, .unset, .unset, .unset, .unset, .unset, .unset, .unset, .unset, .unset, .unset, .unset]) rfl ?_
    show Steps p.tables e below (T3.setTop (mkF m 16 #[.val (.int p1), .val (.int p2), .val (.int p3), .val (.int p4), .val (.ref bt), .val (.int (0 : Int32)), .unset, .unset, .unset, .unset, .unset, .unset, .unset, .unset, .unset, .unset, .unset, .unset, .unset, .unset, .unset, .unset, .unset, .unset, .unset, .unset, .unset, .unset, .unset] [])) _
    refine XS.aload X3.here hx rfl (hb hby at_16) rfl rfl ?_
    show Steps p.tables e below (T3.setTop (mkF m 18 #[.val (.int p1), .val (.int p2), .val (.int p3), .val (.int p4), .val (.ref bt), .val (.int (0 : Int32)), .unset, .unset, .unset, .unset, .unset, .unset, .unset, .unset, .unset, .unset, .unset, .unset, .unset, .unset, .unset, .unset, .unset, .unset, .unset, .unset, .unset, .unset, .unset] [(.ref bt)])) _
    refine st4.trans ?_
    show Steps p.tables e below (T4.setTop (mkF m 21 #[.val (.int p1), .val (.int p2), .val (.int p3), .val (.int p4), .val (.ref bt), .val (.int (0 : Int32)), .unset, .unset, .unset, .unset, .unset, .unset, .unset, .unset, .unset, .unset, .unset, .unset, .unset, .unset, .unset, .unset, .unset, .unset, .unset, .unset, .unset, .unset, .unset] [(.int (1 : Int32))])) _
    refine XS.istore X4.here hx rfl (hb hby at_21) rfl (l' := #[.val (.int p1), .val (.int p2), .val (.int p3), .val (.int p4), .val (.ref bt), .val (.int (0 : Int32)), .val (.int (1 : Int32)), .unset, .unset, .unset, .unset, .unset, .unset, .unset, .unset, .unset, .unset, .unset, .unset, .unset, .unset, .unset, .unset, .unset, .unset, .unset, .unset, .unset, .unset]) rfl ?_
    show Steps p.tables e below (T4.setTop (mkF m 23 #[.val (.int p1), .val (.int p2), .val (.int p3), .val (.int p4), .val (.ref bt), .val (.int (0 : Int32)), .val (.int (1 : Int32)), .unset, .unset, .unset, .unset, .unset, .unset, .unset, .unset, .unset, .unset, .unset, .unset, .unset, .unset, .unset, .unset, .unset, .unset, .unset, .unset, .unset, .unset] [])) _
    refine XS.aload X4.here hx rfl (hb hby at_23) rfl rfl ?_
    show Steps p.tables e below (T4.setTop (mkF m 25 #[.val (.int p1), .val (.int p2), .val (.int p3), .val (.int p4), .val (.ref bt), .val (.int (0 : Int32)), .val (.int (1 : Int32)), .unset, .unset, .unset, .unset, .unset, .unset, .unset, .unset, .unset, .unset, .unset, .unset, .unset, .unset, .unset, .unset, .unset, .unset, .unset, .unset, .unset, .unset] [(.ref bt)])) _
    refine st5 _ ?_
    show Steps p.tables e below (T5.setTop (mkF m 28 #[.val (.int p1), .val (.int p2), .val (.int p3), .val (.int p4), .val (.ref bt), .val (.int (0 : Int32)), .val (.int (1 : Int32)), .unset, .unset, .unset, .unset, .unset, .unset, .unset, .unset, .unset, .unset, .unset, .unset, .unset, .unset, .unset, .unset, .unset, .unset, .unset, .unset, .unset, .unset] [(.int (2 : Int32))])) _
    refine XS.istore X5.here hx rfl (hb hby at_28) rfl (l' := #[.val (.int p1), .val (.int p2), .val (.int p3), .val (.int p4), .val (.ref bt), .val (.int (0 : Int32)), .val (.int (1 : Int32)), .val (.int (2 : Int32)), .unset, .unset, .unset, .unset, .unset, .unset, .unset, .unset, .unset, .unset, .unset, .unset, .unset, .unset, .unset, .unset, .unset, .unset, .unset, .unset, .unset]) rfl ?_
    show Steps p.tables e below (T5.setTop (mkF m 30 #[.val (.int p1), .val (.int p2), .val (.int p3), .val (.int p4), .val (.ref bt), .val (.int (0 : Int32)), .val (.int (1 : Int32)), .val (.int (2 : Int32)), .unset, .unset, .unset, .unset, .unset, .unset, .unset, .unset, .unset, .unset, .unset, .unset, .unset, .unset, .unset, .unset, .unset, .unset, .unset, .unset, .unset] [])) _
    refine XS.aload X5.here hx rfl (hb hby at_30) rfl rfl ?_
    show Steps p.tables e below (T5.setTop (mkF m 32 #[.val (.int p1), .val (.int p2), .val (.int p3), .val (.int p4), .val (.ref bt), .val (.int (0 : Int32)), .val (.int (1 : Int32)), .val (.int (2 : Int32)), .unset, .unset, .unset, .unset, .unset, .unset, .unset, .unset, .unset, .unset, .unset, .unset, .unset, .unset, .unset, .unset, .unset, .unset, .unset, .unset, .unset] [(.ref bt)])) _
    refine st6 _ ?_
    show Steps p.tables e below (T6.setTop (mkF m 35 #[.val (.int p1), .val (.int p2), .val (.int p3), .val (.int p4), .val (.ref bt), .val (.int (0 : Int32)), .val (.int (1 : Int32)), .val (.int (2 : Int32)), .unset, .unset, .unset, .unset, .unset, .unset, .unset, .unset, .unset, .unset, .unset, .unset, .unset, .unset, .unset, .unset, .unset, .unset, .unset, .unset, .unset] [(.int (3 : Int32))])) _
    refine XS.istore X6.here hx rfl (hb hby at_35) rfl (l' := #[.val (.int p1), .val (.int p2), .val (.int p3), .val (.int p4), .val (.ref bt), .val (.int (0 : Int32)), .val (.int (1 : Int32)), .val (.int (2 : Int32)), .val (.int (3 : Int32)), .unset, .unset, .unset, .unset, .unset, .unset, .unset, .unset, .unset, .unset, .unset, .unset, .unset, .unset, .unset, .unset, .unset, .unset, .unset, .unset]) rfl ?_
    show Steps p.tables e below (T6.setTop (mkF m 37 #[.val (.int p1), .val (.int p2), .val (.int p3), .val (.int p4), .val (.ref bt), .val (.int (0 : Int32)), .val (.int (1 : Int32)), .val (.int (2 : Int32)), .val (.int (3 : Int32)), .unset, .unset, .unset, .unset, .unset, .unset, .unset, .unset, .unset, .unset, .unset, .unset, .unset, .unset, .unset, .unset, .unset, .unset, .unset, .unset] [])) _
    refine XS.iconst X6.here hx rfl (hb hby at_37) ?_
    show Steps p.tables e below (T6.setTop (mkF m 38 #[.val (.int p1), .val (.int p2), .val (.int p3), .val (.int p4), .val (.ref bt), .val (.int (0 : Int32)), .val (.int (1 : Int32)), .val (.int (2 : Int32)), .val (.int (3 : Int32)), .unset, .unset, .unset, .unset, .unset, .unset, .unset, .unset, .unset, .unset, .unset, .unset, .unset, .unset, .unset, .unset, .unset, .unset, .unset, .unset] [(.int (3 : Int32))])) _
    refine st7 _ ?_
    show Steps p.tables e below (T7.setTop (mkF m 40 #[.val (.int p1), .val (.int p2), .val (.int p3), .val (.int p4), .val (.ref bt), .val (.int (0 : Int32)), .val (.int (1 : Int32)), .val (.int (2 : Int32)), .val (.int (3 : Int32)), .unset, .unset, .unset, .unset, .unset, .unset, .unset, .unset, .unset, .unset, .unset, .unset, .unset, .unset, .unset, .unset, .unset, .unset, .unset, .unset] [(.ref be)])) _
    refine XS.dup X7.here hx rfl (hb hby at_40) rfl rfl ?_
    show Steps p.tables e below (T7.setTop (mkF m 41 #[.val (.int p1), .val (.int p2), .val (.int p3), .val (.int p4), .val (.ref bt), .val (.int (0 : Int32)), .val (.int (1 : Int32)), .val (.int (2 : Int32)), .val (.int (3 : Int32)), .unset, .unset, .unset, .unset, .unset, .unset, .unset, .unset, .unset, .unset, .unset, .unset, .unset, .unset, .unset, .unset, .unset, .unset, .unset, .unset] [(.ref be), (.ref be)])) _
    refine XS.iconst X7.here hx rfl (hb hby at_41) ?_
    show Steps p.tables e below (T7.setTop (mkF m 42 #[.val (.int p1), .val (.int p2), .val (.int p3), .val (.int p4), .val (.ref bt), .val (.int (0 : Int32)), .val (.int (1 : Int32)), .val (.int (2 : Int32)), .val (.int (3 : Int32)), .unset, .unset, .unset, .unset, .unset, .unset, .unset, .unset, .unset, .unset, .unset, .unset, .unset, .unset, .unset, .unset, .unset, .unset, .unset, .unset] [(.int (0 : Int32)), (.ref be), (.ref be)])) _
    refine XS.iload X7.here hx rfl (hb hby at_42) rfl ?_
    show Steps p.tables e below (T7.setTop (mkF m 44 #[.val (.int p1), .val (.int p2), .val (.int p3), .val (.int p4), .val (.ref bt), .val (.int (0 : Int32)), .val (.int (1 : Int32)), .val (.int (2 : Int32)), .val (.int (3 : Int32)), .unset, .unset, .unset, .unset, .unset, .unset, .unset, .unset, .unset, .unset, .unset, .unset, .unset, .unset, .unset, .unset, .unset, .unset, .unset, .unset] [(.int (0 : Int32)), (.int (0 : Int32)), (.ref be), (.ref be)])) _
    refine st8 _ ?_
    show Steps p.tables e below (T8.setTop (mkF m 45 #[.val (.int p1), .val (.int p2), .val (.int p3), .val (.int p4), .val (.ref bt), .val (.int (0 : Int32)), .val (.int (1 : Int32)), .val (.int (2 : Int32)), .val (.int (3 : Int32)), .unset, .unset, .unset, .unset, .unset, .unset, .unset, .unset, .unset, .unset, .unset, .unset, .unset, .unset, .unset, .unset, .unset, .unset, .unset, .unset] [(.ref be)])) _
    refine XS.dup X8.here hx rfl (hb hby at_45) rfl rfl ?_
    show Steps p.tables e below (T8.setTop (mkF m 46 #[.val (.int p1), .val (.int p2), .val (.int p3), .val (.int p4), .val (.ref bt), .val (.int (0 : Int32)), .val (.int (1 : Int32)), .val (.int (2 : Int32)), .val (.int (3 : Int32)), .unset, .unset, .unset, .unset, .unset, .unset, .unset, .unset, .unset, .unset, .unset, .unset, .unset, .unset, .unset, .unset, .unset, .unset, .unset, .unset] [(.ref be), (.ref be)])) _
    refine XS.iconst X8.here hx rfl (hb hby at_46) ?_
    show Steps p.tables e below (T8.setTop (mkF m 47 #[.val (.int p1), .val (.int p2), .val (.int p3), .val (.int p4), .val (.ref bt), .val (.int (0 : Int32)), .val (.int (1 : Int32)), .val (.int (2 : Int32)), .val (.int (3 : Int32)), .unset, .unset, .unset, .unset, .unset, .unset, .unset, .unset, .unset, .unset, .unset, .unset, .unset, .unset, .unset, .unset, .unset, .unset, .unset, .unset] [(.int (1 : Int32)), (.ref be), (.ref be)])) _
    refine XS.iload X8.here hx rfl (hb hby at_47) rfl ?_
    show Steps p.tables e below (T8.setTop (mkF m 49 #[.val (.int p1), .val (.int p2), .val (.int p3), .val (.int p4), .val (.ref bt), .val (.int (0 : Int32)), .val (.int (1 : Int32)), .val (.int (2 : Int32)), .val (.int (3 : Int32)), .unset, .unset, .unset, .unset, .unset, .unset, .unset, .unset, .unset, .unset, .unset, .unset, .unset, .unset, .unset, .unset, .unset, .unset, .unset, .unset] [(.int (2 : Int32)), (.int (1 : Int32)), (.ref be), (.ref be)])) _
    refine st9 _ ?_
    show Steps p.tables e below (T9.setTop (mkF m 50 #[.val (.int p1), .val (.int p2), .val (.int p3), .val (.int p4), .val (.ref bt), .val (.int (0 : Int32)), .val (.int (1 : Int32)), .val (.int (2 : Int32)), .val (.int (3 : Int32)), .unset, .unset, .unset, .unset, .unset, .unset, .unset, .unset, .unset, .unset, .unset, .unset, .unset, .unset, .unset, .unset, .unset, .unset, .unset, .unset] [(.ref be)])) _
    refine XS.dup X9.here hx rfl (hb hby at_50) rfl rfl ?_
    show Steps p.tables e below (T9.setTop (mkF m 51 #[.val (.int p1), .val (.int p2), .val (.int p3), .val (.int p4), .val (.ref bt), .val (.int (0 : Int32)), .val (.int (1 : Int32)), .val (.int (2 : Int32)), .val (.int (3 : Int32)), .unset, .unset, .unset, .unset, .unset, .unset, .unset, .unset, .unset, .unset, .unset, .unset, .unset, .unset, .unset, .unset, .unset, .unset, .unset, .unset] [(.ref be), (.ref be)])) _
    refine XS.iconst X9.here hx rfl (hb hby at_51) ?_
    show Steps p.tables e below (T9.setTop (mkF m 52 #[.val (.int p1), .val (.int p2), .val (.int p3), .val (.int p4), .val (.ref bt), .val (.int (0 : Int32)), .val (.int (1 : Int32)), .val (.int (2 : Int32)), .val (.int (3 : Int32)), .unset, .unset, .unset, .unset, .unset, .unset, .unset, .unset, .unset, .unset, .unset, .unset, .unset, .unset, .unset, .unset, .unset, .unset, .unset, .unset] [(.int (2 : Int32)), (.ref be), (.ref be)])) _
    refine XS.iload X9.here hx rfl (hb hby at_52) rfl ?_
    show Steps p.tables e below (T9.setTop (mkF m 54 #[.val (.int p1), .val (.int p2), .val (.int p3), .val (.int p4), .val (.ref bt), .val (.int (0 : Int32)), .val (.int (1 : Int32)), .val (.int (2 : Int32)), .val (.int (3 : Int32)), .unset, .unset, .unset, .unset, .unset, .unset, .unset, .unset, .unset, .unset, .unset, .unset, .unset, .unset, .unset, .unset, .unset, .unset, .unset, .unset] [(.int (3 : Int32)), (.int (2 : Int32)), (.ref be), (.ref be)])) _
    refine st10 _ ?_
    show Steps p.tables e below (T10.setTop (mkF m 55 #[.val (.int p1), .val (.int p2), .val (.int p3), .val (.int p4), .val (.ref bt), .val (.int (0 : Int32)), .val (.int (1 : Int32)), .val (.int (2 : Int32)), .val (.int (3 : Int32)), .unset, .unset, .unset, .unset, .unset, .unset, .unset, .unset, .unset, .unset, .unset, .unset, .unset, .unset, .unset, .unset, .unset, .unset, .unset, .unset] [(.ref be)])) _
    refine XS.astore X10.here hx rfl (hb hby at_55) rfl rfl (l' := #[.val (.int p1), .val (.int p2), .val (.int p3), .val (.int p4), .val (.ref bt), .val (.int (0 : Int32)), .val (.int (1 : Int32)), .val (.int (2 : Int32)), .val (.int (3 : Int32)), .val (.ref be), .unset, .unset, .unset, .unset, .unset, .unset, .unset, .unset, .unset, .unset, .unset, .unset, .unset, .unset, .unset, .unset, .unset, .unset, .unset]) rfl ?_
    show Steps p.tables e below (T10.setTop (mkF m 57 #[.val (.int p1), .val (.int p2), .val (.int p3), .val (.int p4), .val (.ref bt), .val (.int (0 : Int32)), .val (.int (1 : Int32)), .val (.int (2 : Int32)), .val (.int (3 : Int32)), .val (.ref be), .unset, .unset, .unset, .unset, .unset, .unset, .unset, .unset, .unset, .unset, .unset, .unset, .unset, .unset, .unset, .unset, .unset, .unset, .unset] [])) _
    refine XS.iloadN X10.here hx rfl (hb hby at_57) rfl ?_
    show Steps p.tables e below (T10.setTop (mkF m 58 #[.val (.int p1), .val (.int p2), .val (.int p3), .val (.int p4), .val (.ref bt), .val (.int (0 : Int32)), .val (.int (1 : Int32)), .val (.int (2 : Int32)), .val (.int (3 : Int32)), .val (.ref be), .unset, .unset, .unset, .unset, .unset, .unset, .unset, .unset, .unset, .unset, .unset, .unset, .unset, .unset, .unset, .unset, .unset, .unset, .unset] [(.int p1)])) _
    refine X10.ldcInt hx hown (mvT hZ (hw _ (List.mem_of_getElem? (i := 47) rfl))) (g := (mkF m 58 #[.val (.int p1), .val (.int p2), .val (.int p3), .val (.int p4), .val (.ref bt), .val (.int (0 : Int32)), .val (.int (1 : Int32)), .val (.int (2 : Int32)), .val (.int (3 : Int32)), .val (.ref be), .unset, .unset, .unset, .unset, .unset, .unset, .unset, .unset, .unset, .unset, .unset, .unset, .unset, .unset, .unset, .unset, .unset, .unset, .unset] [(.int p1)])) rfl (hb hby at_58) _ ?_
    show Steps p.tables e below (T10.setTop (mkF m 60 #[.val (.int p1), .val (.int p2), .val (.int p3), .val (.int p4), .val (.ref bt), .val (.int (0 : Int32)), .val (.int (1 : Int32)), .val (.int (2 : Int32)), .val (.int (3 : Int32)), .val (.ref be), .unset, .unset, .unset, .unset, .unset, .unset, .unset, .unset, .unset, .unset, .unset, .unset, .unset, .unset, .unset, .unset, .unset, .unset, .unset] [(.int (2147483647 : Int32)), (.int p1)])) _
    refine XS.iand X10.here hx rfl (hb hby at_60) rfl ?_
    show Steps p.tables e below (T10.setTop (mkF m 61 #[.val (.int p1), .val (.int p2), .val (.int p3), .val (.int p4), .val (.ref bt), .val (.int (0 : Int32)), .val (.int (1 : Int32)), .val (.int (2 : Int32)), .val (.int (3 : Int32)), .val (.ref be), .unset, .unset, .unset, .unset, .unset, .unset, .unset, .unset, .unset, .unset, .unset, .unset, .unset, .unset, .unset, .unset, .unset, .unset, .unset] [(.int (p1 &&& (2147483647 : Int32)))])) _
    refine XS.iconst X10.here hx rfl (hb hby at_61) ?_
    show Steps p.tables e below (T10.setTop (mkF m 62 #[.val (.int p1), .val (.int p2), .val (.int p3), .val (.int p4), .val (.ref bt), .val (.int (0 : Int32)), .val (.int (1 : Int32)), .val (.int (2 : Int32)), .val (.int (3 : Int32)), .val (.ref be), .unset, .unset, .unset, .unset, .unset, .unset, .unset, .unset, .unset, .unset, .unset, .unset, .unset, .unset, .unset, .unset, .unset, .unset, .unset] [(.int (3 : Int32)), (.int (p1 &&& (2147483647 : Int32)))])) _
    refine iremM (g := (mkF m 62 #[.val (.int p1), .val (.int p2), .val (.int p3), .val (.int p4), .val (.ref bt), .val (.int (0 : Int32)), .val (.int (1 : Int32)), .val (.int (2 : Int32)), .val (.int (3 : Int32)), .val (.ref be), .unset, .unset, .unset, .unset, .unset, .unset, .unset, .unset, .unset, .unset, .unset, .unset, .unset, .unset, .unset, .unset, .unset, .unset, .unset] [(.int (3 : Int32)), (.int (p1 &&& (2147483647 : Int32)))])) X10 hx rfl (hb hby at_62) rfl (by decide) ?_
    show Steps p.tables e below (T10.setTop (mkF m 63 #[.val (.int p1), .val (.int p2), .val (.int p3), .val (.int p4), .val (.ref bt), .val (.int (0 : Int32)), .val (.int (1 : Int32)), .val (.int (2 : Int32)), .val (.int (3 : Int32)), .val (.ref be), .unset, .unset, .unset, .unset, .unset, .unset, .unset, .unset, .unset, .unset, .unset, .unset, .unset, .unset, .unset, .unset, .unset, .unset, .unset] [(.int ((p1 &&& (2147483647 : Int32)) % (3 : Int32)))])) _
    refine XS.istore X10.here hx rfl (hb hby at_63) rfl (l' := #[.val (.int p1), .val (.int p2), .val (.int p3), .val (.int p4), .val (.ref bt), .val (.int (0 : Int32)), .val (.int (1 : Int32)), .val (.int (2 : Int32)), .val (.int (3 : Int32)), .val (.ref be), .val (.int ((p1 &&& (2147483647 : Int32)) % (3 : Int32))), .unset, .unset, .unset, .unset, .unset, .unset, .unset, .unset, .unset, .unset, .unset, .unset, .unset, .unset, .unset, .unset, .unset, .unset]) rfl ?_
    exact k)
  obtain ⟨r, hr⟩ := own_r3 p1
  rw [← h_r_] at hr
  subst hr
  have pre12 : ∀ t, Steps p.tables e below (T10.setTop (mkF m 65 #[.val (.int p1), .val (.int p2), .val (.int p3), .val (.int p4), .val (.ref bt), .val (.int (0 : Int32)), .val (.int (1 : Int32)), .val (.int (2 : Int32)), .val (.int (3 : Int32)), .val (.ref be), .val (.int (own_rI r)), .unset, .unset, .unset, .unset, .unset, .unset, .unset, .unset, .unset, .unset, .unset, .unset, .unset, .unset, .unset, .unset, .unset, .unset] [])) t → Steps p.tables e below (s₁.setTop (entryFrame m #[(.int p1), (.int p2), (.int p3), (.int p4)] maxLocals)) t := fun t k => pre11 t (by
    exact k)
  obtain ⟨rv_, h_rv_⟩ : ∃ z : Int32, z = if (p3 &&& (4 : Int32)) = (0 : Int32) then (0 : Int32) else (1 : Int32) := ⟨_, rfl⟩
  have pre13 : ∀ t, Steps p.tables e below (T10.setTop (mkF m 76 #[.val (.int p1), .val (.int p2), .val (.int p3), .val (.int p4), .val (.ref bt), .val (.int (0 : Int32)), .val (.int (1 : Int32)), .val (.int (2 : Int32)), .val (.int (3 : Int32)), .val (.ref be), .val (.int (own_rI r)), .unset, .unset, .unset, .unset, .unset, .unset, .unset, .unset, .unset, .unset, .unset, .unset, .unset, .unset, .unset, .unset, .unset, .unset] [(.int rv_)])) t → Steps p.tables e below (s₁.setTop (entryFrame m #[(.int p1), (.int p2), (.int p3), (.int p4)] maxLocals)) t := fun t k => pre12 t (by
    by_cases h1 : (p3 &&& (4 : Int32)) = (0 : Int32)
    · have ev_rv_ : rv_ = (0 : Int32) := h_rv_.trans (if_pos h1)
      rw [ev_rv_] at k
      show Steps p.tables e below (T10.setTop (mkF m 65 #[.val (.int p1), .val (.int p2), .val (.int p3), .val (.int p4), .val (.ref bt), .val (.int (0 : Int32)), .val (.int (1 : Int32)), .val (.int (2 : Int32)), .val (.int (3 : Int32)), .val (.ref be), .val (.int (own_rI r)), .unset, .unset, .unset, .unset, .unset, .unset, .unset, .unset, .unset, .unset, .unset, .unset, .unset, .unset, .unset, .unset, .unset, .unset] [])) _
      refine XS.iloadN X10.here hx rfl (hb hby at_65) rfl ?_
      show Steps p.tables e below (T10.setTop (mkF m 66 #[.val (.int p1), .val (.int p2), .val (.int p3), .val (.int p4), .val (.ref bt), .val (.int (0 : Int32)), .val (.int (1 : Int32)), .val (.int (2 : Int32)), .val (.int (3 : Int32)), .val (.ref be), .val (.int (own_rI r)), .unset, .unset, .unset, .unset, .unset, .unset, .unset, .unset, .unset, .unset, .unset, .unset, .unset, .unset, .unset, .unset, .unset, .unset] [(.int p3)])) _
      refine XS.iconst X10.here hx rfl (hb hby at_66) ?_
      show Steps p.tables e below (T10.setTop (mkF m 67 #[.val (.int p1), .val (.int p2), .val (.int p3), .val (.int p4), .val (.ref bt), .val (.int (0 : Int32)), .val (.int (1 : Int32)), .val (.int (2 : Int32)), .val (.int (3 : Int32)), .val (.ref be), .val (.int (own_rI r)), .unset, .unset, .unset, .unset, .unset, .unset, .unset, .unset, .unset, .unset, .unset, .unset, .unset, .unset, .unset, .unset, .unset, .unset] [(.int (4 : Int32)), (.int p3)])) _
      refine XS.iand X10.here hx rfl (hb hby at_67) rfl ?_
      show Steps p.tables e below (T10.setTop (mkF m 68 #[.val (.int p1), .val (.int p2), .val (.int p3), .val (.int p4), .val (.ref bt), .val (.int (0 : Int32)), .val (.int (1 : Int32)), .val (.int (2 : Int32)), .val (.int (3 : Int32)), .val (.ref be), .val (.int (own_rI r)), .unset, .unset, .unset, .unset, .unset, .unset, .unset, .unset, .unset, .unset, .unset, .unset, .unset, .unset, .unset, .unset, .unset, .unset] [(.int (p3 &&& (4 : Int32)))])) _
      refine XS.ifYes X10.here hx rfl (pc0 := 68) (pc' := 75) rfl (hb hby at_68) rfl ((if0 _ _).trans (teq (h1 : (p3 &&& (4 : Int32)) = (0 : Int32))).1) (by decide) (by decide) ?_
      show Steps p.tables e below (T10.setTop (mkF m 75 #[.val (.int p1), .val (.int p2), .val (.int p3), .val (.int p4), .val (.ref bt), .val (.int (0 : Int32)), .val (.int (1 : Int32)), .val (.int (2 : Int32)), .val (.int (3 : Int32)), .val (.ref be), .val (.int (own_rI r)), .unset, .unset, .unset, .unset, .unset, .unset, .unset, .unset, .unset, .unset, .unset, .unset, .unset, .unset, .unset, .unset, .unset, .unset] [])) _
      refine XS.iconst X10.here hx rfl (hb hby at_75) ?_
      exact k
    · have ev_rv_ : rv_ = (1 : Int32) := h_rv_.trans (if_neg h1)
      rw [ev_rv_] at k
      show Steps p.tables e below (T10.setTop (mkF m 65 #[.val (.int p1), .val (.int p2), .val (.int p3), .val (.int p4), .val (.ref bt), .val (.int (0 : Int32)), .val (.int (1 : Int32)), .val (.int (2 : Int32)), .val (.int (3 : Int32)), .val (.ref be), .val (.int (own_rI r)), .unset, .unset, .unset, .unset, .unset, .unset, .unset, .unset, .unset, .unset, .unset, .unset, .unset, .unset, .unset, .unset, .unset, .unset] [])) _
      refine XS.iloadN X10.here hx rfl (hb hby at_65) rfl ?_
      show Steps p.tables e below (T10.setTop (mkF m 66 #[.val (.int p1), .val (.int p2), .val (.int p3), .val (.int p4), .val (.ref bt), .val (.int (0 : Int32)), .val (.int (1 : Int32)), .val (.int (2 : Int32)), .val (.int (3 : Int32)), .val (.ref be), .val (.int (own_rI r)), .unset, .unset, .unset, .unset, .unset, .unset, .unset, .unset, .unset, .unset, .unset, .unset, .unset, .unset, .unset, .unset, .unset, .unset] [(.int p3)])) _
      refine XS.iconst X10.here hx rfl (hb hby at_66) ?_
      show Steps p.tables e below (T10.setTop (mkF m 67 #[.val (.int p1), .val (.int p2), .val (.int p3), .val (.int p4), .val (.ref bt), .val (.int (0 : Int32)), .val (.int (1 : Int32)), .val (.int (2 : Int32)), .val (.int (3 : Int32)), .val (.ref be), .val (.int (own_rI r)), .unset, .unset, .unset, .unset, .unset, .unset, .unset, .unset, .unset, .unset, .unset, .unset, .unset, .unset, .unset, .unset, .unset, .unset] [(.int (4 : Int32)), (.int p3)])) _
      refine XS.iand X10.here hx rfl (hb hby at_67) rfl ?_
      show Steps p.tables e below (T10.setTop (mkF m 68 #[.val (.int p1), .val (.int p2), .val (.int p3), .val (.int p4), .val (.ref bt), .val (.int (0 : Int32)), .val (.int (1 : Int32)), .val (.int (2 : Int32)), .val (.int (3 : Int32)), .val (.ref be), .val (.int (own_rI r)), .unset, .unset, .unset, .unset, .unset, .unset, .unset, .unset, .unset, .unset, .unset, .unset, .unset, .unset, .unset, .unset, .unset, .unset] [(.int (p3 &&& (4 : Int32)))])) _
      refine XS.ifNo X10.here hx rfl (hb hby at_68) rfl ((if0 _ _).trans (feq (h1 : ¬ ((p3 &&& (4 : Int32)) = (0 : Int32)))).1) ?_
      show Steps p.tables e below (T10.setTop (mkF m 71 #[.val (.int p1), .val (.int p2), .val (.int p3), .val (.int p4), .val (.ref bt), .val (.int (0 : Int32)), .val (.int (1 : Int32)), .val (.int (2 : Int32)), .val (.int (3 : Int32)), .val (.ref be), .val (.int (own_rI r)), .unset, .unset, .unset, .unset, .unset, .unset, .unset, .unset, .unset, .unset, .unset, .unset, .unset, .unset, .unset, .unset, .unset, .unset] [])) _
      refine XS.iconst X10.here hx rfl (hb hby at_71) ?_
      show Steps p.tables e below (T10.setTop (mkF m 72 #[.val (.int p1), .val (.int p2), .val (.int p3), .val (.int p4), .val (.ref bt), .val (.int (0 : Int32)), .val (.int (1 : Int32)), .val (.int (2 : Int32)), .val (.int (3 : Int32)), .val (.ref be), .val (.int (own_rI r)), .unset, .unset, .unset, .unset, .unset, .unset, .unset, .unset, .unset, .unset, .unset, .unset, .unset, .unset, .unset, .unset, .unset, .unset] [(.int (1 : Int32))])) _
      refine XS.goto X10.here hx rfl (pc0 := 72) (pc' := 76) rfl (hb hby at_72) (by decide) (by decide) ?_
      exact k)
  obtain ⟨rv, hbrv⟩ := own_b2 ((p3 &&& (4 : Int32)) = (0 : Int32))
  rw [← h_rv_] at hbrv
  subst hbrv
  have pre14 : ∀ t, Steps p.tables e below (T10.setTop (mkF m 85 #[.val (.int p1), .val (.int p2), .val (.int p3), .val (.int p4), .val (.ref bt), .val (.int (0 : Int32)), .val (.int (1 : Int32)), .val (.int (2 : Int32)), .val (.int (3 : Int32)), .val (.ref be), .val (.int (own_rI r)), .val (.int (own_bI rv)), .val (.int (own_o0 r)), .unset, .unset, .unset, .unset, .unset, .unset, .unset, .unset, .unset, .unset, .unset, .unset, .unset, .unset, .unset, .unset] [])) t → Steps p.tables e below (s₁.setTop (entryFrame m #[(.int p1), (.int p2), (.int p3), (.int p4)] maxLocals)) t := fun t k => pre13 t (by
    show Steps p.tables e below (T10.setTop (mkF m 76 #[.val (.int p1), .val (.int p2), .val (.int p3), .val (.int p4), .val (.ref bt), .val (.int (0 : Int32)), .val (.int (1 : Int32)), .val (.int (2 : Int32)), .val (.int (3 : Int32)), .val (.ref be), .val (.int (own_rI r)), .unset, .unset, .unset, .unset, .unset, .unset, .unset, .unset, .unset, .unset, .unset, .unset, .unset, .unset, .unset, .unset, .unset, .unset] [(.int (own_bI rv))])) _
    refine XS.istore X10.here hx rfl (hb hby at_76) rfl (l' := #[.val (.int p1), .val (.int p2), .val (.int p3), .val (.int p4), .val (.ref bt), .val (.int (0 : Int32)), .val (.int (1 : Int32)), .val (.int (2 : Int32)), .val (.int (3 : Int32)), .val (.ref be), .val (.int (own_rI r)), .val (.int (own_bI rv)), .unset, .unset, .unset, .unset, .unset, .unset, .unset, .unset, .unset, .unset, .unset, .unset, .unset, .unset, .unset, .unset, .unset]) rfl ?_
    show Steps p.tables e below (T10.setTop (mkF m 78 #[.val (.int p1), .val (.int p2), .val (.int p3), .val (.int p4), .val (.ref bt), .val (.int (0 : Int32)), .val (.int (1 : Int32)), .val (.int (2 : Int32)), .val (.int (3 : Int32)), .val (.ref be), .val (.int (own_rI r)), .val (.int (own_bI rv)), .unset, .unset, .unset, .unset, .unset, .unset, .unset, .unset, .unset, .unset, .unset, .unset, .unset, .unset, .unset, .unset, .unset] [])) _
    refine XS.aload X10.here hx rfl (hb hby at_78) rfl rfl ?_
    show Steps p.tables e below (T10.setTop (mkF m 80 #[.val (.int p1), .val (.int p2), .val (.int p3), .val (.int p4), .val (.ref bt), .val (.int (0 : Int32)), .val (.int (1 : Int32)), .val (.int (2 : Int32)), .val (.int (3 : Int32)), .val (.ref be), .val (.int (own_rI r)), .val (.int (own_bI rv)), .unset, .unset, .unset, .unset, .unset, .unset, .unset, .unset, .unset, .unset, .unset, .unset, .unset, .unset, .unset, .unset, .unset] [(.ref be)])) _
    refine XS.iload X10.here hx rfl (hb hby at_80) rfl ?_
    show Steps p.tables e below (T10.setTop (mkF m 82 #[.val (.int p1), .val (.int p2), .val (.int p3), .val (.int p4), .val (.ref bt), .val (.int (0 : Int32)), .val (.int (1 : Int32)), .val (.int (2 : Int32)), .val (.int (3 : Int32)), .val (.ref be), .val (.int (own_rI r)), .val (.int (own_bI rv)), .unset, .unset, .unset, .unset, .unset, .unset, .unset, .unset, .unset, .unset, .unset, .unset, .unset, .unset, .unset, .unset, .unset] [(.int (own_rI r)), (.ref be)])) _
    refine own_ldI X10 hx hZ e10 V_be' (x := (own_o0 r)) (own_rdv (own_pO0 r)).1 (own_rdv (own_pO0 r)).2 (g := (mkF m 82 #[.val (.int p1), .val (.int p2), .val (.int p3), .val (.int p4), .val (.ref bt), .val (.int (0 : Int32)), .val (.int (1 : Int32)), .val (.int (2 : Int32)), .val (.int (3 : Int32)), .val (.ref be), .val (.int (own_rI r)), .val (.int (own_bI rv)), .unset, .unset, .unset, .unset, .unset, .unset, .unset, .unset, .unset, .unset, .unset, .unset, .unset, .unset, .unset, .unset, .unset] [(.int (own_rI r)), (.ref be)])) rfl rfl (hb hby at_82) _ ?_
    show Steps p.tables e below (T10.setTop (mkF m 83 #[.val (.int p1), .val (.int p2), .val (.int p3), .val (.int p4), .val (.ref bt), .val (.int (0 : Int32)), .val (.int (1 : Int32)), .val (.int (2 : Int32)), .val (.int (3 : Int32)), .val (.ref be), .val (.int (own_rI r)), .val (.int (own_bI rv)), .unset, .unset, .unset, .unset, .unset, .unset, .unset, .unset, .unset, .unset, .unset, .unset, .unset, .unset, .unset, .unset, .unset] [(.int (own_o0 r))])) _
    refine XS.istore X10.here hx rfl (hb hby at_83) rfl (l' := #[.val (.int p1), .val (.int p2), .val (.int p3), .val (.int p4), .val (.ref bt), .val (.int (0 : Int32)), .val (.int (1 : Int32)), .val (.int (2 : Int32)), .val (.int (3 : Int32)), .val (.ref be), .val (.int (own_rI r)), .val (.int (own_bI rv)), .val (.int (own_o0 r)), .unset, .unset, .unset, .unset, .unset, .unset, .unset, .unset, .unset, .unset, .unset, .unset, .unset, .unset, .unset, .unset]) rfl ?_
    exact k)
  obtain ⟨oo1, h_oo1⟩ : ∃ z : Int32, z = own_o1 r rv := ⟨_, rfl⟩
  have pre15 : ∀ t, Steps p.tables e below (T10.setTop (mkF m 111 #[.val (.int p1), .val (.int p2), .val (.int p3), .val (.int p4), .val (.ref bt), .val (.int (0 : Int32)), .val (.int (1 : Int32)), .val (.int (2 : Int32)), .val (.int (3 : Int32)), .val (.ref be), .val (.int (own_rI r)), .val (.int (own_bI rv)), .val (.int (own_o0 r)), .unset, .unset, .unset, .unset, .unset, .unset, .unset, .unset, .unset, .unset, .unset, .unset, .unset, .unset, .unset, .unset] [(.int oo1)])) t → Steps p.tables e below (s₁.setTop (entryFrame m #[(.int p1), (.int p2), (.int p3), (.int p4)] maxLocals)) t := fun t k => pre14 t (by
    by_cases h1 : own_bI rv = (0 : Int32)
    · have ev := own_bz h1
      have ev_oo1 : oo1 = (own_o1 r false) := h_oo1.trans (by rw [ev])
      rw [ev_oo1] at k
      show Steps p.tables e below (T10.setTop (mkF m 85 #[.val (.int p1), .val (.int p2), .val (.int p3), .val (.int p4), .val (.ref bt), .val (.int (0 : Int32)), .val (.int (1 : Int32)), .val (.int (2 : Int32)), .val (.int (3 : Int32)), .val (.ref be), .val (.int (own_rI r)), .val (.int (own_bI rv)), .val (.int (own_o0 r)), .unset, .unset, .unset, .unset, .unset, .unset, .unset, .unset, .unset, .unset, .unset, .unset, .unset, .unset, .unset, .unset] [])) _
      refine XS.iload X10.here hx rfl (hb hby at_85) rfl ?_
      show Steps p.tables e below (T10.setTop (mkF m 87 #[.val (.int p1), .val (.int p2), .val (.int p3), .val (.int p4), .val (.ref bt), .val (.int (0 : Int32)), .val (.int (1 : Int32)), .val (.int (2 : Int32)), .val (.int (3 : Int32)), .val (.ref be), .val (.int (own_rI r)), .val (.int (own_bI rv)), .val (.int (own_o0 r)), .unset, .unset, .unset, .unset, .unset, .unset, .unset, .unset, .unset, .unset, .unset, .unset, .unset, .unset, .unset, .unset] [(.int (own_bI rv))])) _
      refine XS.ifYes X10.here hx rfl (pc0 := 87) (pc' := 102) rfl (hb hby at_87) rfl ((if0 _ _).trans (teq (h1 : (own_bI rv) = (0 : Int32))).1) (by decide) (by decide) ?_
      show Steps p.tables e below (T10.setTop (mkF m 102 #[.val (.int p1), .val (.int p2), .val (.int p3), .val (.int p4), .val (.ref bt), .val (.int (0 : Int32)), .val (.int (1 : Int32)), .val (.int (2 : Int32)), .val (.int (3 : Int32)), .val (.ref be), .val (.int (own_rI r)), .val (.int (own_bI rv)), .val (.int (own_o0 r)), .unset, .unset, .unset, .unset, .unset, .unset, .unset, .unset, .unset, .unset, .unset, .unset, .unset, .unset, .unset, .unset] [])) _
      refine XS.aload X10.here hx rfl (hb hby at_102) rfl rfl ?_
      show Steps p.tables e below (T10.setTop (mkF m 104 #[.val (.int p1), .val (.int p2), .val (.int p3), .val (.int p4), .val (.ref bt), .val (.int (0 : Int32)), .val (.int (1 : Int32)), .val (.int (2 : Int32)), .val (.int (3 : Int32)), .val (.ref be), .val (.int (own_rI r)), .val (.int (own_bI rv)), .val (.int (own_o0 r)), .unset, .unset, .unset, .unset, .unset, .unset, .unset, .unset, .unset, .unset, .unset, .unset, .unset, .unset, .unset, .unset] [(.ref be)])) _
      refine XS.iload X10.here hx rfl (hb hby at_104) rfl ?_
      show Steps p.tables e below (T10.setTop (mkF m 106 #[.val (.int p1), .val (.int p2), .val (.int p3), .val (.int p4), .val (.ref bt), .val (.int (0 : Int32)), .val (.int (1 : Int32)), .val (.int (2 : Int32)), .val (.int (3 : Int32)), .val (.ref be), .val (.int (own_rI r)), .val (.int (own_bI rv)), .val (.int (own_o0 r)), .unset, .unset, .unset, .unset, .unset, .unset, .unset, .unset, .unset, .unset, .unset, .unset, .unset, .unset, .unset, .unset] [(.int (own_rI r)), (.ref be)])) _
      refine XS.iconst X10.here hx rfl (hb hby at_106) ?_
      show Steps p.tables e below (T10.setTop (mkF m 107 #[.val (.int p1), .val (.int p2), .val (.int p3), .val (.int p4), .val (.ref bt), .val (.int (0 : Int32)), .val (.int (1 : Int32)), .val (.int (2 : Int32)), .val (.int (3 : Int32)), .val (.ref be), .val (.int (own_rI r)), .val (.int (own_bI rv)), .val (.int (own_o0 r)), .unset, .unset, .unset, .unset, .unset, .unset, .unset, .unset, .unset, .unset, .unset, .unset, .unset, .unset, .unset, .unset] [(.int (1 : Int32)), (.int (own_rI r)), (.ref be)])) _
      refine XS.iadd X10.here hx rfl (hb hby at_107) rfl ?_
      show Steps p.tables e below (T10.setTop (mkF m 108 #[.val (.int p1), .val (.int p2), .val (.int p3), .val (.int p4), .val (.ref bt), .val (.int (0 : Int32)), .val (.int (1 : Int32)), .val (.int (2 : Int32)), .val (.int (3 : Int32)), .val (.ref be), .val (.int (own_rI r)), .val (.int (own_bI rv)), .val (.int (own_o0 r)), .unset, .unset, .unset, .unset, .unset, .unset, .unset, .unset, .unset, .unset, .unset, .unset, .unset, .unset, .unset, .unset] [(.int ((own_rI r) + (1 : Int32))), (.ref be)])) _
      refine XS.iconst X10.here hx rfl (hb hby at_108) ?_
      show Steps p.tables e below (T10.setTop (mkF m 109 #[.val (.int p1), .val (.int p2), .val (.int p3), .val (.int p4), .val (.ref bt), .val (.int (0 : Int32)), .val (.int (1 : Int32)), .val (.int (2 : Int32)), .val (.int (3 : Int32)), .val (.ref be), .val (.int (own_rI r)), .val (.int (own_bI rv)), .val (.int (own_o0 r)), .unset, .unset, .unset, .unset, .unset, .unset, .unset, .unset, .unset, .unset, .unset, .unset, .unset, .unset, .unset, .unset] [(.int (3 : Int32)), (.int ((own_rI r) + (1 : Int32))), (.ref be)])) _
      refine iremM (g := (mkF m 109 #[.val (.int p1), .val (.int p2), .val (.int p3), .val (.int p4), .val (.ref bt), .val (.int (0 : Int32)), .val (.int (1 : Int32)), .val (.int (2 : Int32)), .val (.int (3 : Int32)), .val (.ref be), .val (.int (own_rI r)), .val (.int (own_bI rv)), .val (.int (own_o0 r)), .unset, .unset, .unset, .unset, .unset, .unset, .unset, .unset, .unset, .unset, .unset, .unset, .unset, .unset, .unset, .unset] [(.int (3 : Int32)), (.int ((own_rI r) + (1 : Int32))), (.ref be)])) X10 hx rfl (hb hby at_109) rfl (by decide) ?_
      show Steps p.tables e below (T10.setTop (mkF m 110 #[.val (.int p1), .val (.int p2), .val (.int p3), .val (.int p4), .val (.ref bt), .val (.int (0 : Int32)), .val (.int (1 : Int32)), .val (.int (2 : Int32)), .val (.int (3 : Int32)), .val (.ref be), .val (.int (own_rI r)), .val (.int (own_bI rv)), .val (.int (own_o0 r)), .unset, .unset, .unset, .unset, .unset, .unset, .unset, .unset, .unset, .unset, .unset, .unset, .unset, .unset, .unset, .unset] [(.int (((own_rI r) + (1 : Int32)) % (3 : Int32))), (.ref be)])) _
      refine own_ldI X10 hx hZ e10 V_be' (x := (own_o1 r false)) (own_rdv (own_pO1 r).2.1).1 (own_rdv (own_pO1 r).2.1).2 (g := (mkF m 110 #[.val (.int p1), .val (.int p2), .val (.int p3), .val (.int p4), .val (.ref bt), .val (.int (0 : Int32)), .val (.int (1 : Int32)), .val (.int (2 : Int32)), .val (.int (3 : Int32)), .val (.ref be), .val (.int (own_rI r)), .val (.int (own_bI rv)), .val (.int (own_o0 r)), .unset, .unset, .unset, .unset, .unset, .unset, .unset, .unset, .unset, .unset, .unset, .unset, .unset, .unset, .unset, .unset] [(.int (((own_rI r) + (1 : Int32)) % (3 : Int32))), (.ref be)])) rfl rfl (hb hby at_110) _ ?_
      exact k
    · have ev := own_bn h1
      have ev_oo1 : oo1 = (own_o1 r true) := h_oo1.trans (by rw [ev])
      rw [ev_oo1] at k
      show Steps p.tables e below (T10.setTop (mkF m 85 #[.val (.int p1), .val (.int p2), .val (.int p3), .val (.int p4), .val (.ref bt), .val (.int (0 : Int32)), .val (.int (1 : Int32)), .val (.int (2 : Int32)), .val (.int (3 : Int32)), .val (.ref be), .val (.int (own_rI r)), .val (.int (own_bI rv)), .val (.int (own_o0 r)), .unset, .unset, .unset, .unset, .unset, .unset, .unset, .unset, .unset, .unset, .unset, .unset, .unset, .unset, .unset, .unset] [])) _
      refine XS.iload X10.here hx rfl (hb hby at_85) rfl ?_
      show Steps p.tables e below (T10.setTop (mkF m 87 #[.val (.int p1), .val (.int p2), .val (.int p3), .val (.int p4), .val (.ref bt), .val (.int (0 : Int32)), .val (.int (1 : Int32)), .val (.int (2 : Int32)), .val (.int (3 : Int32)), .val (.ref be), .val (.int (own_rI r)), .val (.int (own_bI rv)), .val (.int (own_o0 r)), .unset, .unset, .unset, .unset, .unset, .unset, .unset, .unset, .unset, .unset, .unset, .unset, .unset, .unset, .unset, .unset] [(.int (own_bI rv))])) _
      refine XS.ifNo X10.here hx rfl (hb hby at_87) rfl ((if0 _ _).trans (feq (h1 : ¬ ((own_bI rv) = (0 : Int32)))).1) ?_
      show Steps p.tables e below (T10.setTop (mkF m 90 #[.val (.int p1), .val (.int p2), .val (.int p3), .val (.int p4), .val (.ref bt), .val (.int (0 : Int32)), .val (.int (1 : Int32)), .val (.int (2 : Int32)), .val (.int (3 : Int32)), .val (.ref be), .val (.int (own_rI r)), .val (.int (own_bI rv)), .val (.int (own_o0 r)), .unset, .unset, .unset, .unset, .unset, .unset, .unset, .unset, .unset, .unset, .unset, .unset, .unset, .unset, .unset, .unset] [])) _
      refine XS.aload X10.here hx rfl (hb hby at_90) rfl rfl ?_
      show Steps p.tables e below (T10.setTop (mkF m 92 #[.val (.int p1), .val (.int p2), .val (.int p3), .val (.int p4), .val (.ref bt), .val (.int (0 : Int32)), .val (.int (1 : Int32)), .val (.int (2 : Int32)), .val (.int (3 : Int32)), .val (.ref be), .val (.int (own_rI r)), .val (.int (own_bI rv)), .val (.int (own_o0 r)), .unset, .unset, .unset, .unset, .unset, .unset, .unset, .unset, .unset, .unset, .unset, .unset, .unset, .unset, .unset, .unset] [(.ref be)])) _
      refine XS.iload X10.here hx rfl (hb hby at_92) rfl ?_
      show Steps p.tables e below (T10.setTop (mkF m 94 #[.val (.int p1), .val (.int p2), .val (.int p3), .val (.int p4), .val (.ref bt), .val (.int (0 : Int32)), .val (.int (1 : Int32)), .val (.int (2 : Int32)), .val (.int (3 : Int32)), .val (.ref be), .val (.int (own_rI r)), .val (.int (own_bI rv)), .val (.int (own_o0 r)), .unset, .unset, .unset, .unset, .unset, .unset, .unset, .unset, .unset, .unset, .unset, .unset, .unset, .unset, .unset, .unset] [(.int (own_rI r)), (.ref be)])) _
      refine XS.iconst X10.here hx rfl (hb hby at_94) ?_
      show Steps p.tables e below (T10.setTop (mkF m 95 #[.val (.int p1), .val (.int p2), .val (.int p3), .val (.int p4), .val (.ref bt), .val (.int (0 : Int32)), .val (.int (1 : Int32)), .val (.int (2 : Int32)), .val (.int (3 : Int32)), .val (.ref be), .val (.int (own_rI r)), .val (.int (own_bI rv)), .val (.int (own_o0 r)), .unset, .unset, .unset, .unset, .unset, .unset, .unset, .unset, .unset, .unset, .unset, .unset, .unset, .unset, .unset, .unset] [(.int (2 : Int32)), (.int (own_rI r)), (.ref be)])) _
      refine XS.iadd X10.here hx rfl (hb hby at_95) rfl ?_
      show Steps p.tables e below (T10.setTop (mkF m 96 #[.val (.int p1), .val (.int p2), .val (.int p3), .val (.int p4), .val (.ref bt), .val (.int (0 : Int32)), .val (.int (1 : Int32)), .val (.int (2 : Int32)), .val (.int (3 : Int32)), .val (.ref be), .val (.int (own_rI r)), .val (.int (own_bI rv)), .val (.int (own_o0 r)), .unset, .unset, .unset, .unset, .unset, .unset, .unset, .unset, .unset, .unset, .unset, .unset, .unset, .unset, .unset, .unset] [(.int ((own_rI r) + (2 : Int32))), (.ref be)])) _
      refine XS.iconst X10.here hx rfl (hb hby at_96) ?_
      show Steps p.tables e below (T10.setTop (mkF m 97 #[.val (.int p1), .val (.int p2), .val (.int p3), .val (.int p4), .val (.ref bt), .val (.int (0 : Int32)), .val (.int (1 : Int32)), .val (.int (2 : Int32)), .val (.int (3 : Int32)), .val (.ref be), .val (.int (own_rI r)), .val (.int (own_bI rv)), .val (.int (own_o0 r)), .unset, .unset, .unset, .unset, .unset, .unset, .unset, .unset, .unset, .unset, .unset, .unset, .unset, .unset, .unset, .unset] [(.int (3 : Int32)), (.int ((own_rI r) + (2 : Int32))), (.ref be)])) _
      refine iremM (g := (mkF m 97 #[.val (.int p1), .val (.int p2), .val (.int p3), .val (.int p4), .val (.ref bt), .val (.int (0 : Int32)), .val (.int (1 : Int32)), .val (.int (2 : Int32)), .val (.int (3 : Int32)), .val (.ref be), .val (.int (own_rI r)), .val (.int (own_bI rv)), .val (.int (own_o0 r)), .unset, .unset, .unset, .unset, .unset, .unset, .unset, .unset, .unset, .unset, .unset, .unset, .unset, .unset, .unset, .unset] [(.int (3 : Int32)), (.int ((own_rI r) + (2 : Int32))), (.ref be)])) X10 hx rfl (hb hby at_97) rfl (by decide) ?_
      show Steps p.tables e below (T10.setTop (mkF m 98 #[.val (.int p1), .val (.int p2), .val (.int p3), .val (.int p4), .val (.ref bt), .val (.int (0 : Int32)), .val (.int (1 : Int32)), .val (.int (2 : Int32)), .val (.int (3 : Int32)), .val (.ref be), .val (.int (own_rI r)), .val (.int (own_bI rv)), .val (.int (own_o0 r)), .unset, .unset, .unset, .unset, .unset, .unset, .unset, .unset, .unset, .unset, .unset, .unset, .unset, .unset, .unset, .unset] [(.int (((own_rI r) + (2 : Int32)) % (3 : Int32))), (.ref be)])) _
      refine own_ldI X10 hx hZ e10 V_be' (x := (own_o1 r true)) (own_rdv (own_pO1 r).1).1 (own_rdv (own_pO1 r).1).2 (g := (mkF m 98 #[.val (.int p1), .val (.int p2), .val (.int p3), .val (.int p4), .val (.ref bt), .val (.int (0 : Int32)), .val (.int (1 : Int32)), .val (.int (2 : Int32)), .val (.int (3 : Int32)), .val (.ref be), .val (.int (own_rI r)), .val (.int (own_bI rv)), .val (.int (own_o0 r)), .unset, .unset, .unset, .unset, .unset, .unset, .unset, .unset, .unset, .unset, .unset, .unset, .unset, .unset, .unset, .unset] [(.int (((own_rI r) + (2 : Int32)) % (3 : Int32))), (.ref be)])) rfl rfl (hb hby at_98) _ ?_
      show Steps p.tables e below (T10.setTop (mkF m 99 #[.val (.int p1), .val (.int p2), .val (.int p3), .val (.int p4), .val (.ref bt), .val (.int (0 : Int32)), .val (.int (1 : Int32)), .val (.int (2 : Int32)), .val (.int (3 : Int32)), .val (.ref be), .val (.int (own_rI r)), .val (.int (own_bI rv)), .val (.int (own_o0 r)), .unset, .unset, .unset, .unset, .unset, .unset, .unset, .unset, .unset, .unset, .unset, .unset, .unset, .unset, .unset, .unset] [(.int (own_o1 r true))])) _
      refine XS.goto X10.here hx rfl (pc0 := 99) (pc' := 111) rfl (hb hby at_99) (by decide) (by decide) ?_
      exact k)
  have pre16 : ∀ t, Steps p.tables e below (T10.setTop (mkF m 113 #[.val (.int p1), .val (.int p2), .val (.int p3), .val (.int p4), .val (.ref bt), .val (.int (0 : Int32)), .val (.int (1 : Int32)), .val (.int (2 : Int32)), .val (.int (3 : Int32)), .val (.ref be), .val (.int (own_rI r)), .val (.int (own_bI rv)), .val (.int (own_o0 r)), .val (.int oo1), .unset, .unset, .unset, .unset, .unset, .unset, .unset, .unset, .unset, .unset, .unset, .unset, .unset, .unset, .unset] [])) t → Steps p.tables e below (s₁.setTop (entryFrame m #[(.int p1), (.int p2), (.int p3), (.int p4)] maxLocals)) t := fun t k => pre15 t (by
    show Steps p.tables e below (T10.setTop (mkF m 111 #[.val (.int p1), .val (.int p2), .val (.int p3), .val (.int p4), .val (.ref bt), .val (.int (0 : Int32)), .val (.int (1 : Int32)), .val (.int (2 : Int32)), .val (.int (3 : Int32)), .val (.ref be), .val (.int (own_rI r)), .val (.int (own_bI rv)), .val (.int (own_o0 r)), .unset, .unset, .unset, .unset, .unset, .unset, .unset, .unset, .unset, .unset, .unset, .unset, .unset, .unset, .unset, .unset] [(.int oo1)])) _
    refine XS.istore X10.here hx rfl (hb hby at_111) rfl (l' := #[.val (.int p1), .val (.int p2), .val (.int p3), .val (.int p4), .val (.ref bt), .val (.int (0 : Int32)), .val (.int (1 : Int32)), .val (.int (2 : Int32)), .val (.int (3 : Int32)), .val (.ref be), .val (.int (own_rI r)), .val (.int (own_bI rv)), .val (.int (own_o0 r)), .val (.int oo1), .unset, .unset, .unset, .unset, .unset, .unset, .unset, .unset, .unset, .unset, .unset, .unset, .unset, .unset, .unset]) rfl ?_
    exact k)
  obtain ⟨oo2, h_oo2⟩ : ∃ z : Int32, z = own_o2 r rv := ⟨_, rfl⟩
  have pre17 : ∀ t, Steps p.tables e below (T10.setTop (mkF m 139 #[.val (.int p1), .val (.int p2), .val (.int p3), .val (.int p4), .val (.ref bt), .val (.int (0 : Int32)), .val (.int (1 : Int32)), .val (.int (2 : Int32)), .val (.int (3 : Int32)), .val (.ref be), .val (.int (own_rI r)), .val (.int (own_bI rv)), .val (.int (own_o0 r)), .val (.int oo1), .unset, .unset, .unset, .unset, .unset, .unset, .unset, .unset, .unset, .unset, .unset, .unset, .unset, .unset, .unset] [(.int oo2)])) t → Steps p.tables e below (s₁.setTop (entryFrame m #[(.int p1), (.int p2), (.int p3), (.int p4)] maxLocals)) t := fun t k => pre16 t (by
    by_cases h1 : own_bI rv = (0 : Int32)
    · have ev := own_bz h1
      have ev_oo2 : oo2 = (own_o2 r false) := h_oo2.trans (by rw [ev])
      rw [ev_oo2] at k
      show Steps p.tables e below (T10.setTop (mkF m 113 #[.val (.int p1), .val (.int p2), .val (.int p3), .val (.int p4), .val (.ref bt), .val (.int (0 : Int32)), .val (.int (1 : Int32)), .val (.int (2 : Int32)), .val (.int (3 : Int32)), .val (.ref be), .val (.int (own_rI r)), .val (.int (own_bI rv)), .val (.int (own_o0 r)), .val (.int oo1), .unset, .unset, .unset, .unset, .unset, .unset, .unset, .unset, .unset, .unset, .unset, .unset, .unset, .unset, .unset] [])) _
      refine XS.iload X10.here hx rfl (hb hby at_113) rfl ?_
      show Steps p.tables e below (T10.setTop (mkF m 115 #[.val (.int p1), .val (.int p2), .val (.int p3), .val (.int p4), .val (.ref bt), .val (.int (0 : Int32)), .val (.int (1 : Int32)), .val (.int (2 : Int32)), .val (.int (3 : Int32)), .val (.ref be), .val (.int (own_rI r)), .val (.int (own_bI rv)), .val (.int (own_o0 r)), .val (.int oo1), .unset, .unset, .unset, .unset, .unset, .unset, .unset, .unset, .unset, .unset, .unset, .unset, .unset, .unset, .unset] [(.int (own_bI rv))])) _
      refine XS.ifYes X10.here hx rfl (pc0 := 115) (pc' := 130) rfl (hb hby at_115) rfl ((if0 _ _).trans (teq (h1 : (own_bI rv) = (0 : Int32))).1) (by decide) (by decide) ?_
      show Steps p.tables e below (T10.setTop (mkF m 130 #[.val (.int p1), .val (.int p2), .val (.int p3), .val (.int p4), .val (.ref bt), .val (.int (0 : Int32)), .val (.int (1 : Int32)), .val (.int (2 : Int32)), .val (.int (3 : Int32)), .val (.ref be), .val (.int (own_rI r)), .val (.int (own_bI rv)), .val (.int (own_o0 r)), .val (.int oo1), .unset, .unset, .unset, .unset, .unset, .unset, .unset, .unset, .unset, .unset, .unset, .unset, .unset, .unset, .unset] [])) _
      refine XS.aload X10.here hx rfl (hb hby at_130) rfl rfl ?_
      show Steps p.tables e below (T10.setTop (mkF m 132 #[.val (.int p1), .val (.int p2), .val (.int p3), .val (.int p4), .val (.ref bt), .val (.int (0 : Int32)), .val (.int (1 : Int32)), .val (.int (2 : Int32)), .val (.int (3 : Int32)), .val (.ref be), .val (.int (own_rI r)), .val (.int (own_bI rv)), .val (.int (own_o0 r)), .val (.int oo1), .unset, .unset, .unset, .unset, .unset, .unset, .unset, .unset, .unset, .unset, .unset, .unset, .unset, .unset, .unset] [(.ref be)])) _
      refine XS.iload X10.here hx rfl (hb hby at_132) rfl ?_
      show Steps p.tables e below (T10.setTop (mkF m 134 #[.val (.int p1), .val (.int p2), .val (.int p3), .val (.int p4), .val (.ref bt), .val (.int (0 : Int32)), .val (.int (1 : Int32)), .val (.int (2 : Int32)), .val (.int (3 : Int32)), .val (.ref be), .val (.int (own_rI r)), .val (.int (own_bI rv)), .val (.int (own_o0 r)), .val (.int oo1), .unset, .unset, .unset, .unset, .unset, .unset, .unset, .unset, .unset, .unset, .unset, .unset, .unset, .unset, .unset] [(.int (own_rI r)), (.ref be)])) _
      refine XS.iconst X10.here hx rfl (hb hby at_134) ?_
      show Steps p.tables e below (T10.setTop (mkF m 135 #[.val (.int p1), .val (.int p2), .val (.int p3), .val (.int p4), .val (.ref bt), .val (.int (0 : Int32)), .val (.int (1 : Int32)), .val (.int (2 : Int32)), .val (.int (3 : Int32)), .val (.ref be), .val (.int (own_rI r)), .val (.int (own_bI rv)), .val (.int (own_o0 r)), .val (.int oo1), .unset, .unset, .unset, .unset, .unset, .unset, .unset, .unset, .unset, .unset, .unset, .unset, .unset, .unset, .unset] [(.int (2 : Int32)), (.int (own_rI r)), (.ref be)])) _
      refine XS.iadd X10.here hx rfl (hb hby at_135) rfl ?_
      show Steps p.tables e below (T10.setTop (mkF m 136 #[.val (.int p1), .val (.int p2), .val (.int p3), .val (.int p4), .val (.ref bt), .val (.int (0 : Int32)), .val (.int (1 : Int32)), .val (.int (2 : Int32)), .val (.int (3 : Int32)), .val (.ref be), .val (.int (own_rI r)), .val (.int (own_bI rv)), .val (.int (own_o0 r)), .val (.int oo1), .unset, .unset, .unset, .unset, .unset, .unset, .unset, .unset, .unset, .unset, .unset, .unset, .unset, .unset, .unset] [(.int ((own_rI r) + (2 : Int32))), (.ref be)])) _
      refine XS.iconst X10.here hx rfl (hb hby at_136) ?_
      show Steps p.tables e below (T10.setTop (mkF m 137 #[.val (.int p1), .val (.int p2), .val (.int p3), .val (.int p4), .val (.ref bt), .val (.int (0 : Int32)), .val (.int (1 : Int32)), .val (.int (2 : Int32)), .val (.int (3 : Int32)), .val (.ref be), .val (.int (own_rI r)), .val (.int (own_bI rv)), .val (.int (own_o0 r)), .val (.int oo1), .unset, .unset, .unset, .unset, .unset, .unset, .unset, .unset, .unset, .unset, .unset, .unset, .unset, .unset, .unset] [(.int (3 : Int32)), (.int ((own_rI r) + (2 : Int32))), (.ref be)])) _
      refine iremM (g := (mkF m 137 #[.val (.int p1), .val (.int p2), .val (.int p3), .val (.int p4), .val (.ref bt), .val (.int (0 : Int32)), .val (.int (1 : Int32)), .val (.int (2 : Int32)), .val (.int (3 : Int32)), .val (.ref be), .val (.int (own_rI r)), .val (.int (own_bI rv)), .val (.int (own_o0 r)), .val (.int oo1), .unset, .unset, .unset, .unset, .unset, .unset, .unset, .unset, .unset, .unset, .unset, .unset, .unset, .unset, .unset] [(.int (3 : Int32)), (.int ((own_rI r) + (2 : Int32))), (.ref be)])) X10 hx rfl (hb hby at_137) rfl (by decide) ?_
      show Steps p.tables e below (T10.setTop (mkF m 138 #[.val (.int p1), .val (.int p2), .val (.int p3), .val (.int p4), .val (.ref bt), .val (.int (0 : Int32)), .val (.int (1 : Int32)), .val (.int (2 : Int32)), .val (.int (3 : Int32)), .val (.ref be), .val (.int (own_rI r)), .val (.int (own_bI rv)), .val (.int (own_o0 r)), .val (.int oo1), .unset, .unset, .unset, .unset, .unset, .unset, .unset, .unset, .unset, .unset, .unset, .unset, .unset, .unset, .unset] [(.int (((own_rI r) + (2 : Int32)) % (3 : Int32))), (.ref be)])) _
      refine own_ldI X10 hx hZ e10 V_be' (x := (own_o2 r false)) (own_rdv (own_pO1 r).2.2.2).1 (own_rdv (own_pO1 r).2.2.2).2 (g := (mkF m 138 #[.val (.int p1), .val (.int p2), .val (.int p3), .val (.int p4), .val (.ref bt), .val (.int (0 : Int32)), .val (.int (1 : Int32)), .val (.int (2 : Int32)), .val (.int (3 : Int32)), .val (.ref be), .val (.int (own_rI r)), .val (.int (own_bI rv)), .val (.int (own_o0 r)), .val (.int oo1), .unset, .unset, .unset, .unset, .unset, .unset, .unset, .unset, .unset, .unset, .unset, .unset, .unset, .unset, .unset] [(.int (((own_rI r) + (2 : Int32)) % (3 : Int32))), (.ref be)])) rfl rfl (hb hby at_138) _ ?_
      exact k
    · have ev := own_bn h1
      have ev_oo2 : oo2 = (own_o2 r true) := h_oo2.trans (by rw [ev])
      rw [ev_oo2] at k
      show Steps p.tables e below (T10.setTop (mkF m 113 #[.val (.int p1), .val (.int p2), .val (.int p3), .val (.int p4), .val (.ref bt), .val (.int (0 : Int32)), .val (.int (1 : Int32)), .val (.int (2 : Int32)), .val (.int (3 : Int32)), .val (.ref be), .val (.int (own_rI r)), .val (.int (own_bI rv)), .val (.int (own_o0 r)), .val (.int oo1), .unset, .unset, .unset, .unset, .unset, .unset, .unset, .unset, .unset, .unset, .unset, .unset, .unset, .unset, .unset] [])) _
      refine XS.iload X10.here hx rfl (hb hby at_113) rfl ?_
      show Steps p.tables e below (T10.setTop (mkF m 115 #[.val (.int p1), .val (.int p2), .val (.int p3), .val (.int p4), .val (.ref bt), .val (.int (0 : Int32)), .val (.int (1 : Int32)), .val (.int (2 : Int32)), .val (.int (3 : Int32)), .val (.ref be), .val (.int (own_rI r)), .val (.int (own_bI rv)), .val (.int (own_o0 r)), .val (.int oo1), .unset, .unset, .unset, .unset, .unset, .unset, .unset, .unset, .unset, .unset, .unset, .unset, .unset, .unset, .unset] [(.int (own_bI rv))])) _
      refine XS.ifNo X10.here hx rfl (hb hby at_115) rfl ((if0 _ _).trans (feq (h1 : ¬ ((own_bI rv) = (0 : Int32)))).1) ?_
      show Steps p.tables e below (T10.setTop (mkF m 118 #[.val (.int p1), .val (.int p2), .val (.int p3), .val (.int p4), .val (.ref bt), .val (.int (0 : Int32)), .val (.int (1 : Int32)), .val (.int (2 : Int32)), .val (.int (3 : Int32)), .val (.ref be), .val (.int (own_rI r)), .val (.int (own_bI rv)), .val (.int (own_o0 r)), .val (.int oo1), .unset, .unset, .unset, .unset, .unset, .unset, .unset, .unset, .unset, .unset, .unset, .unset, .unset, .unset, .unset] [])) _
      refine XS.aload X10.here hx rfl (hb hby at_118) rfl rfl ?_
      show Steps p.tables e below (T10.setTop (mkF m 120 #[.val (.int p1), .val (.int p2), .val (.int p3), .val (.int p4), .val (.ref bt), .val (.int (0 : Int32)), .val (.int (1 : Int32)), .val (.int (2 : Int32)), .val (.int (3 : Int32)), .val (.ref be), .val (.int (own_rI r)), .val (.int (own_bI rv)), .val (.int (own_o0 r)), .val (.int oo1), .unset, .unset, .unset, .unset, .unset, .unset, .unset, .unset, .unset, .unset, .unset, .unset, .unset, .unset, .unset] [(.ref be)])) _
      refine XS.iload X10.here hx rfl (hb hby at_120) rfl ?_
      show Steps p.tables e below (T10.setTop (mkF m 122 #[.val (.int p1), .val (.int p2), .val (.int p3), .val (.int p4), .val (.ref bt), .val (.int (0 : Int32)), .val (.int (1 : Int32)), .val (.int (2 : Int32)), .val (.int (3 : Int32)), .val (.ref be), .val (.int (own_rI r)), .val (.int (own_bI rv)), .val (.int (own_o0 r)), .val (.int oo1), .unset, .unset, .unset, .unset, .unset, .unset, .unset, .unset, .unset, .unset, .unset, .unset, .unset, .unset, .unset] [(.int (own_rI r)), (.ref be)])) _
      refine XS.iconst X10.here hx rfl (hb hby at_122) ?_
      show Steps p.tables e below (T10.setTop (mkF m 123 #[.val (.int p1), .val (.int p2), .val (.int p3), .val (.int p4), .val (.ref bt), .val (.int (0 : Int32)), .val (.int (1 : Int32)), .val (.int (2 : Int32)), .val (.int (3 : Int32)), .val (.ref be), .val (.int (own_rI r)), .val (.int (own_bI rv)), .val (.int (own_o0 r)), .val (.int oo1), .unset, .unset, .unset, .unset, .unset, .unset, .unset, .unset, .unset, .unset, .unset, .unset, .unset, .unset, .unset] [(.int (1 : Int32)), (.int (own_rI r)), (.ref be)])) _
      refine XS.iadd X10.here hx rfl (hb hby at_123) rfl ?_
      show Steps p.tables e below (T10.setTop (mkF m 124 #[.val (.int p1), .val (.int p2), .val (.int p3), .val (.int p4), .val (.ref bt), .val (.int (0 : Int32)), .val (.int (1 : Int32)), .val (.int (2 : Int32)), .val (.int (3 : Int32)), .val (.ref be), .val (.int (own_rI r)), .val (.int (own_bI rv)), .val (.int (own_o0 r)), .val (.int oo1), .unset, .unset, .unset, .unset, .unset, .unset, .unset, .unset, .unset, .unset, .unset, .unset, .unset, .unset, .unset] [(.int ((own_rI r) + (1 : Int32))), (.ref be)])) _
      refine XS.iconst X10.here hx rfl (hb hby at_124) ?_
      show Steps p.tables e below (T10.setTop (mkF m 125 #[.val (.int p1), .val (.int p2), .val (.int p3), .val (.int p4), .val (.ref bt), .val (.int (0 : Int32)), .val (.int (1 : Int32)), .val (.int (2 : Int32)), .val (.int (3 : Int32)), .val (.ref be), .val (.int (own_rI r)), .val (.int (own_bI rv)), .val (.int (own_o0 r)), .val (.int oo1), .unset, .unset, .unset, .unset, .unset, .unset, .unset, .unset, .unset, .unset, .unset, .unset, .unset, .unset, .unset] [(.int (3 : Int32)), (.int ((own_rI r) + (1 : Int32))), (.ref be)])) _
      refine iremM (g := (mkF m 125 #[.val (.int p1), .val (.int p2), .val (.int p3), .val (.int p4), .val (.ref bt), .val (.int (0 : Int32)), .val (.int (1 : Int32)), .val (.int (2 : Int32)), .val (.int (3 : Int32)), .val (.ref be), .val (.int (own_rI r)), .val (.int (own_bI rv)), .val (.int (own_o0 r)), .val (.int oo1), .unset, .unset, .unset, .unset, .unset, .unset, .unset, .unset, .unset, .unset, .unset, .unset, .unset, .unset, .unset] [(.int (3 : Int32)), (.int ((own_rI r) + (1 : Int32))), (.ref be)])) X10 hx rfl (hb hby at_125) rfl (by decide) ?_
      show Steps p.tables e below (T10.setTop (mkF m 126 #[.val (.int p1), .val (.int p2), .val (.int p3), .val (.int p4), .val (.ref bt), .val (.int (0 : Int32)), .val (.int (1 : Int32)), .val (.int (2 : Int32)), .val (.int (3 : Int32)), .val (.ref be), .val (.int (own_rI r)), .val (.int (own_bI rv)), .val (.int (own_o0 r)), .val (.int oo1), .unset, .unset, .unset, .unset, .unset, .unset, .unset, .unset, .unset, .unset, .unset, .unset, .unset, .unset, .unset] [(.int (((own_rI r) + (1 : Int32)) % (3 : Int32))), (.ref be)])) _
      refine own_ldI X10 hx hZ e10 V_be' (x := (own_o2 r true)) (own_rdv (own_pO1 r).2.2.1).1 (own_rdv (own_pO1 r).2.2.1).2 (g := (mkF m 126 #[.val (.int p1), .val (.int p2), .val (.int p3), .val (.int p4), .val (.ref bt), .val (.int (0 : Int32)), .val (.int (1 : Int32)), .val (.int (2 : Int32)), .val (.int (3 : Int32)), .val (.ref be), .val (.int (own_rI r)), .val (.int (own_bI rv)), .val (.int (own_o0 r)), .val (.int oo1), .unset, .unset, .unset, .unset, .unset, .unset, .unset, .unset, .unset, .unset, .unset, .unset, .unset, .unset, .unset] [(.int (((own_rI r) + (1 : Int32)) % (3 : Int32))), (.ref be)])) rfl rfl (hb hby at_126) _ ?_
      show Steps p.tables e below (T10.setTop (mkF m 127 #[.val (.int p1), .val (.int p2), .val (.int p3), .val (.int p4), .val (.ref bt), .val (.int (0 : Int32)), .val (.int (1 : Int32)), .val (.int (2 : Int32)), .val (.int (3 : Int32)), .val (.ref be), .val (.int (own_rI r)), .val (.int (own_bI rv)), .val (.int (own_o0 r)), .val (.int oo1), .unset, .unset, .unset, .unset, .unset, .unset, .unset, .unset, .unset, .unset, .unset, .unset, .unset, .unset, .unset] [(.int (own_o2 r true))])) _
      refine XS.goto X10.here hx rfl (pc0 := 127) (pc' := 139) rfl (hb hby at_127) (by decide) (by decide) ?_
      exact k)
  subst h_oo1 h_oo2
  obtain ⟨T18, h18, k18, X18, e18, E18, A18, st18⟩ := newP X10 hx hZ (hw _ (List.mem_of_getElem? (i := 9) rfl)) e10 (g := (mkF m 142 #[.val (.int p1), .val (.int p2), .val (.int p3), .val (.int p4), .val (.ref bt), .val (.int (0 : Int32)), .val (.int (1 : Int32)), .val (.int (2 : Int32)), .val (.int (3 : Int32)), .val (.ref be), .val (.int (own_rI r)), .val (.int (own_bI rv)), .val (.int (own_o0 r)), .val (.int (own_o1 r rv)), .val (.int (own_o2 r rv)), .unset, .unset, .unset, .unset, .unset, .unset, .unset, .unset, .unset, .unset, .unset, .unset, .unset, .unset] [(.int (3 : Int32))])) rfl (hb hby at_142) rfl (by decide) (cap := 3) (by decide) (by decide) (by decide) (by decide)
  obtain ⟨bo, g18⟩ : ∃ z, z = h10.size := ⟨_, rfl⟩
  rw [← g18] at A18 st18
  have g_bo : n0 ≤ bo := Nat.le_trans Z10 (Nat.le_of_eq g18.symm)
  have ne_bt_bo : bt ≠ bo := Nat.ne_of_lt (Nat.lt_of_lt_of_le wE6_e10.lt (Nat.le_of_eq g18.symm))
  have ne_br_bo : br ≠ bo := Nat.ne_of_lt (Nat.lt_of_lt_of_le wV6_e10.lt (Nat.le_of_eq g18.symm))
  have ne_bl_bo : bl ≠ bo := Nat.ne_of_lt (Nat.lt_of_lt_of_le wW6_e10.lt (Nat.le_of_eq g18.symm))
  have ne_be_bo : be ≠ bo := Nat.ne_of_lt (Nat.lt_of_lt_of_le V_be'.lt (Nat.le_of_eq g18.symm))
  have wE6_e18 := wE6_e10.ext E18
  have wR6_e18 := wR6_e10.ext E18
  have wL6_e18 := wL6_e10.ext E18
  have wD6_e18 := wD6_e10.ext E18
  have wU6'_e18 := wU6'_e10.ext E18
  have wV6_e18 := wV6_e10.ext E18
  have wW6_e18 := wW6_e10.ext E18
  have V_be'_e18 := V_be'.ext E18
  have Z18 : n0 ≤ h18.size := Nat.le_trans Z10 E18.1
  have V_bo : AL Z h18 bo .int (List.replicate 3 (.int (0 : Int32))) := AL.new A18 (by decide) rfl rfl
  obtain ⟨T19, h19, L19, X19, N19, e19, W19, Vbo_19, st19⟩ := own_stI X18 hx hZ e18 V_bo N10 g_bo (by decide) (Nat.le_of_ble_eq_true rfl) (g := (mkF m 148 #[.val (.int p1), .val (.int p2), .val (.int p3), .val (.int p4), .val (.ref bt), .val (.int (0 : Int32)), .val (.int (1 : Int32)), .val (.int (2 : Int32)), .val (.int (3 : Int32)), .val (.ref be), .val (.int (own_rI r)), .val (.int (own_bI rv)), .val (.int (own_o0 r)), .val (.int (own_o1 r rv)), .val (.int (own_o2 r rv)), .unset, .unset, .unset, .unset, .unset, .unset, .unset, .unset, .unset, .unset, .unset, .unset, .unset, .unset] [(.int (own_o0 r)), (.int (0 : Int32)), (.ref bo), (.ref bo)])) rfl rfl (hb hby at_148)
  have wE6_e19 := wE6_e18.wr W19
  have wR6_e19 := wR6_e18.other W19 (Or.inl ne_bt_bo)
  have wL6_e19 := wL6_e18.other W19 (Or.inl ne_bt_bo)
  have wD6_e19 := wD6_e18.other W19 (Or.inl ne_bt_bo)
  have wU6'_e19 := wU6'_e18.other W19 (Or.inl ne_bt_bo)
  have wV6_e19 := wV6_e18.other W19 ne_br_bo
  have wW6_e19 := wW6_e18.other W19 ne_bl_bo
  have V_be'_e19 := V_be'_e18.other W19 ne_be_bo
  have Z19 : n0 ≤ h19.size := W19.size.symm ▸ Z18
  obtain ⟨T20, h20, L20, X20, N20, e20, W20, Vbo_20, st20⟩ := own_stI X19 hx hZ e19 Vbo_19 N19 g_bo (by decide) (Nat.le_of_ble_eq_true rfl) (g := (mkF m 153 #[.val (.int p1), .val (.int p2), .val (.int p3), .val (.int p4), .val (.ref bt), .val (.int (0 : Int32)), .val (.int (1 : Int32)), .val (.int (2 : Int32)), .val (.int (3 : Int32)), .val (.ref be), .val (.int (own_rI r)), .val (.int (own_bI rv)), .val (.int (own_o0 r)), .val (.int (own_o1 r rv)), .val (.int (own_o2 r rv)), .unset, .unset, .unset, .unset, .unset, .unset, .unset, .unset, .unset, .unset, .unset, .unset, .unset, .unset] [(.int (own_o1 r rv)), (.int (1 : Int32)), (.ref bo), (.ref bo)])) rfl rfl (hb hby at_153)
  have wE6_e20 := wE6_e19.wr W20
  have wR6_e20 := wR6_e19.other W20 (Or.inl ne_bt_bo)
  have wL6_e20 := wL6_e19.other W20 (Or.inl ne_bt_bo)
  have wD6_e20 := wD6_e19.other W20 (Or.inl ne_bt_bo)
  have wU6'_e20 := wU6'_e19.other W20 (Or.inl ne_bt_bo)
  have wV6_e20 := wV6_e19.other W20 ne_br_bo
  have wW6_e20 := wW6_e19.other W20 ne_bl_bo
  have V_be'_e20 := V_be'_e19.other W20 ne_be_bo
  have Z20 : n0 ≤ h20.size := W20.size.symm ▸ Z19
  obtain ⟨T21, h21, L21, X21, N21, e21, W21, Vbo_21, st21⟩ := own_stI X20 hx hZ e20 Vbo_20 N20 g_bo (by decide) (Nat.le_of_ble_eq_true rfl) (g := (mkF m 158 #[.val (.int p1), .val (.int p2), .val (.int p3), .val (.int p4), .val (.ref bt), .val (.int (0 : Int32)), .val (.int (1 : Int32)), .val (.int (2 : Int32)), .val (.int (3 : Int32)), .val (.ref be), .val (.int (own_rI r)), .val (.int (own_bI rv)), .val (.int (own_o0 r)), .val (.int (own_o1 r rv)), .val (.int (own_o2 r rv)), .unset, .unset, .unset, .unset, .unset, .unset, .unset, .unset, .unset, .unset, .unset, .unset, .unset, .unset] [(.int (own_o2 r rv)), (.int (2 : Int32)), (.ref bo), (.ref bo)])) rfl rfl (hb hby at_158)
  have wE6_e21 := wE6_e20.wr W21
  have wR6_e21 := wR6_e20.other W21 (Or.inl ne_bt_bo)
  have wL6_e21 := wL6_e20.other W21 (Or.inl ne_bt_bo)
  have wD6_e21 := wD6_e20.other W21 (Or.inl ne_bt_bo)
  have wU6'_e21 := wU6'_e20.other W21 (Or.inl ne_bt_bo)
  have wV6_e21 := wV6_e20.other W21 ne_br_bo
  have wW6_e21 := wW6_e20.other W21 ne_bl_bo
  have V_be'_e21 := V_be'_e20.other W21 ne_be_bo
  have Z21 : n0 ≤ h21.size := W21.size.symm ▸ Z20
  have V_bo' : AL Z h21 bo .int ((own_oL r rv).map Value.int) := Vbo_21
  obtain ⟨k_, h_k_⟩ : ∃ z : Int32, z = ((p2 &&& (2147483647 : Int32)) % (4 : Int32)) := ⟨_, rfl⟩
  have pre22 : ∀ t, Steps p.tables e below (T21.setTop (mkF m 169 #[.val (.int p1), .val (.int p2), .val (.int p3), .val (.int p4), .val (.ref bt), .val (.int (0 : Int32)), .val (.int (1 : Int32)), .val (.int (2 : Int32)), .val (.int (3 : Int32)), .val (.ref be), .val (.int (own_rI r)), .val (.int (own_bI rv)), .val (.int (own_o0 r)), .val (.int (own_o1 r rv)), .val (.int (own_o2 r rv)), .val (.ref bo), .val (.int k_), .unset, .unset, .unset, .unset, .unset, .unset, .unset, .unset, .unset, .unset, .unset, .unset] [])) t → Steps p.tables e below (s₁.setTop (entryFrame m #[(.int p1), (.int p2), (.int p3), (.int p4)] maxLocals)) t := fun t k => pre17 t (by
    rw [h_k_] at k
    show Steps p.tables e below (T10.setTop (mkF m 139 #[.val (.int p1), .val (.int p2), .val (.int p3), .val (.int p4), .val (.ref bt), .val (.int (0 : Int32)), .val (.int (1 : Int32)), .val (.int (2 : Int32)), .val (.int (3 : Int32)), .val (.ref be), .val (.int (own_rI r)), .val (.int (own_bI rv)), .val (.int (own_o0 r)), .val (.int (own_o1 r rv)), .unset, .unset, .unset, .unset, .unset, .unset, .unset, .unset, .unset, .unset, .unset, .unset, .unset, .unset, .unset] [(.int (own_o2 r rv))])) _
    refine XS.istore X10.here hx rfl (hb hby at_139) rfl (l' := #[.val (.int p1), .val (.int p2), .val (.int p3), .val (.int p4), .val (.ref bt), .val (.int (0 : Int32)), .val (.int (1 : Int32)), .val (.int (2 : Int32)), .val (.int (3 : Int32)), .val (.ref be), .val (.int (own_rI r)), .val (.int (own_bI rv)), .val (.int (own_o0 r)), .val (.int (own_o1 r rv)), .val (.int (own_o2 r rv)), .unset, .unset, .unset, .unset, .unset, .unset, .unset, .unset, .unset, .unset, .unset, .unset, .unset, .unset]) rfl ?_
    show Steps p.tables e below (T10.setTop (mkF m 141 #[.val (.int p1), .val (.int p2), .val (.int p3), .val (.int p4), .val (.ref bt), .val (.int (0 : Int32)), .val (.int (1 : Int32)), .val (.int (2 : Int32)), .val (.int (3 : Int32)), .val (.ref be), .val (.int (own_rI r)), .val (.int (own_bI rv)), .val (.int (own_o0 r)), .val (.int (own_o1 r rv)), .val (.int (own_o2 r rv)), .unset, .unset, .unset, .unset, .unset, .unset, .unset, .unset, .unset, .unset, .unset, .unset, .unset, .unset] [])) _
    refine XS.iconst X10.here hx rfl (hb hby at_141) ?_
    show Steps p.tables e below (T10.setTop (mkF m 142 #[.val (.int p1), .val (.int p2), .val (.int p3), .val (.int p4), .val (.ref bt), .val (.int (0 : Int32)), .val (.int (1 : Int32)), .val (.int (2 : Int32)), .val (.int (3 : Int32)), .val (.ref be), .val (.int (own_rI r)), .val (.int (own_bI rv)), .val (.int (own_o0 r)), .val (.int (own_o1 r rv)), .val (.int (own_o2 r rv)), .unset, .unset, .unset, .unset, .unset, .unset, .unset, .unset, .unset, .unset, .unset, .unset, .unset, .unset] [(.int (3 : Int32))])) _
    refine st18 _ ?_
    show Steps p.tables e below (T18.setTop (mkF m 144 #[.val (.int p1), .val (.int p2), .val (.int p3), .val (.int p4), .val (.ref bt), .val (.int (0 : Int32)), .val (.int (1 : Int32)), .val (.int (2 : Int32)), .val (.int (3 : Int32)), .val (.ref be), .val (.int (own_rI r)), .val (.int (own_bI rv)), .val (.int (own_o0 r)), .val (.int (own_o1 r rv)), .val (.int (own_o2 r rv)), .unset, .unset, .unset, .unset, .unset, .unset, .unset, .unset, .unset, .unset, .unset, .unset, .unset, .unset] [(.ref bo)])) _
    refine XS.dup X18.here hx rfl (hb hby at_144) rfl rfl ?_
    show Steps p.tables e below (T18.setTop (mkF m 145 #[.val (.int p1), .val (.int p2), .val (.int p3), .val (.int p4), .val (.ref bt), .val (.int (0 : Int32)), .val (.int (1 : Int32)), .val (.int (2 : Int32)), .val (.int (3 : Int32)), .val (.ref be), .val (.int (own_rI r)), .val (.int (own_bI rv)), .val (.int (own_o0 r)), .val (.int (own_o1 r rv)), .val (.int (own_o2 r rv)), .unset, .unset, .unset, .unset, .unset, .unset, .unset, .unset, .unset, .unset, .unset, .unset, .unset, .unset] [(.ref bo), (.ref bo)])) _
    refine XS.iconst X18.here hx rfl (hb hby at_145) ?_
    show Steps p.tables e below (T18.setTop (mkF m 146 #[.val (.int p1), .val (.int p2), .val (.int p3), .val (.int p4), .val (.ref bt), .val (.int (0 : Int32)), .val (.int (1 : Int32)), .val (.int (2 : Int32)), .val (.int (3 : Int32)), .val (.ref be), .val (.int (own_rI r)), .val (.int (own_bI rv)), .val (.int (own_o0 r)), .val (.int (own_o1 r rv)), .val (.int (own_o2 r rv)), .unset, .unset, .unset, .unset, .unset, .unset, .unset, .unset, .unset, .unset, .unset, .unset, .unset, .unset] [(.int (0 : Int32)), (.ref bo), (.ref bo)])) _
    refine XS.iload X18.here hx rfl (hb hby at_146) rfl ?_
    show Steps p.tables e below (T18.setTop (mkF m 148 #[.val (.int p1), .val (.int p2), .val (.int p3), .val (.int p4), .val (.ref bt), .val (.int (0 : Int32)), .val (.int (1 : Int32)), .val (.int (2 : Int32)), .val (.int (3 : Int32)), .val (.ref be), .val (.int (own_rI r)), .val (.int (own_bI rv)), .val (.int (own_o0 r)), .val (.int (own_o1 r rv)), .val (.int (own_o2 r rv)), .unset, .unset, .unset, .unset, .unset, .unset, .unset, .unset, .unset, .unset, .unset, .unset, .unset, .unset] [(.int (own_o0 r)), (.int (0 : Int32)), (.ref bo), (.ref bo)])) _
    refine st19 _ ?_
    show Steps p.tables e below (T19.setTop (mkF m 149 #[.val (.int p1), .val (.int p2), .val (.int p3), .val (.int p4), .val (.ref bt), .val (.int (0 : Int32)), .val (.int (1 : Int32)), .val (.int (2 : Int32)), .val (.int (3 : Int32)), .val (.ref be), .val (.int (own_rI r)), .val (.int (own_bI rv)), .val (.int (own_o0 r)), .val (.int (own_o1 r rv)), .val (.int (own_o2 r rv)), .unset, .unset, .unset, .unset, .unset, .unset, .unset, .unset, .unset, .unset, .unset, .unset, .unset, .unset] [(.ref bo)])) _
    refine XS.dup X19.here hx rfl (hb hby at_149) rfl rfl ?_
    show Steps p.tables e below (T19.setTop (mkF m 150 #[.val (.int p1), .val (.int p2), .val (.int p3), .val (.int p4), .val (.ref bt), .val (.int (0 : Int32)), .val (.int (1 : Int32)), .val (.int (2 : Int32)), .val (.int (3 : Int32)), .val (.ref be), .val (.int (own_rI r)), .val (.int (own_bI rv)), .val (.int (own_o0 r)), .val (.int (own_o1 r rv)), .val (.int (own_o2 r rv)), .unset, .unset, .unset, .unset, .unset, .unset, .unset, .unset, .unset, .unset, .unset, .unset, .unset, .unset] [(.ref bo), (.ref bo)])) _
    refine XS.iconst X19.here hx rfl (hb hby at_150) ?_
    show Steps p.tables e below (T19.setTop (mkF m 151 #[.val (.int p1), .val (.int p2), .val (.int p3), .val (.int p4), .val (.ref bt), .val (.int (0 : Int32)), .val (.int (1 : Int32)), .val (.int (2 : Int32)), .val (.int (3 : Int32)), .val (.ref be), .val (.int (own_rI r)), .val (.int (own_bI rv)), .val (.int (own_o0 r)), .val (.int (own_o1 r rv)), .val (.int (own_o2 r rv)), .unset, .unset, .unset, .unset, .unset, .unset, .unset, .unset, .unset, .unset, .unset, .unset, .unset, .unset] [(.int (1 : Int32)), (.ref bo), (.ref bo)])) _
    refine XS.iload X19.here hx rfl (hb hby at_151) rfl ?_
    show Steps p.tables e below (T19.setTop (mkF m 153 #[.val (.int p1), .val (.int p2), .val (.int p3), .val (.int p4), .val (.ref bt), .val (.int (0 : Int32)), .val (.int (1 : Int32)), .val (.int (2 : Int32)), .val (.int (3 : Int32)), .val (.ref be), .val (.int (own_rI r)), .val (.int (own_bI rv)), .val (.int (own_o0 r)), .val (.int (own_o1 r rv)), .val (.int (own_o2 r rv)), .unset, .unset, .unset, .unset, .unset, .unset, .unset, .unset, .unset, .unset, .unset, .unset, .unset, .unset] [(.int (own_o1 r rv)), (.int (1 : Int32)), (.ref bo), (.ref bo)])) _
    refine st20 _ ?_
    show Steps p.tables e below (T20.setTop (mkF m 154 #[.val (.int p1), .val (.int p2), .val (.int p3), .val (.int p4), .val (.ref bt), .val (.int (0 : Int32)), .val (.int (1 : Int32)), .val (.int (2 : Int32)), .val (.int (3 : Int32)), .val (.ref be), .val (.int (own_rI r)), .val (.int (own_bI rv)), .val (.int (own_o0 r)), .val (.int (own_o1 r rv)), .val (.int (own_o2 r rv)), .unset, .unset, .unset, .unset, .unset, .unset, .unset, .unset, .unset, .unset, .unset, .unset, .unset, .unset] [(.ref bo)])) _
    refine XS.dup X20.here hx rfl (hb hby at_154) rfl rfl ?_
    show Steps p.tables e below (T20.setTop (mkF m 155 #[.val (.int p1), .val (.int p2), .val (.int p3), .val (.int p4), .val (.ref bt), .val (.int (0 : Int32)), .val (.int (1 : Int32)), .val (.int (2 : Int32)), .val (.int (3 : Int32)), .val (.ref be), .val (.int (own_rI r)), .val (.int (own_bI rv)), .val (.int (own_o0 r)), .val (.int (own_o1 r rv)), .val (.int (own_o2 r rv)), .unset, .unset, .unset, .unset, .unset, .unset, .unset, .unset, .unset, .unset, .unset, .unset, .unset, .unset] [(.ref bo), (.ref bo)])) _
    refine XS.iconst X20.here hx rfl (hb hby at_155) ?_
    show Steps p.tables e below (T20.setTop (mkF m 156 #[.val (.int p1), .val (.int p2), .val (.int p3), .val (.int p4), .val (.ref bt), .val (.int (0 : Int32)), .val (.int (1 : Int32)), .val (.int (2 : Int32)), .val (.int (3 : Int32)), .val (.ref be), .val (.int (own_rI r)), .val (.int (own_bI rv)), .val (.int (own_o0 r)), .val (.int (own_o1 r rv)), .val (.int (own_o2 r rv)), .unset, .unset, .unset, .unset, .unset, .unset, .unset, .unset, .unset, .unset, .unset, .unset, .unset, .unset] [(.int (2 : Int32)), (.ref bo), (.ref bo)])) _
    refine XS.iload X20.here hx rfl (hb hby at_156) rfl ?_
    show Steps p.tables e below (T20.setTop (mkF m 158 #[.val (.int p1), .val (.int p2), .val (.int p3), .val (.int p4), .val (.ref bt), .val (.int (0 : Int32)), .val (.int (1 : Int32)), .val (.int (2 : Int32)), .val (.int (3 : Int32)), .val (.ref be), .val (.int (own_rI r)), .val (.int (own_bI rv)), .val (.int (own_o0 r)), .val (.int (own_o1 r rv)), .val (.int (own_o2 r rv)), .unset, .unset, .unset, .unset, .unset, .unset, .unset, .unset, .unset, .unset, .unset, .unset, .unset, .unset] [(.int (own_o2 r rv)), (.int (2 : Int32)), (.ref bo), (.ref bo)])) _
    refine st21 _ ?_
    show Steps p.tables e below (T21.setTop (mkF m 159 #[.val (.int p1), .val (.int p2), .val (.int p3), .val (.int p4), .val (.ref bt), .val (.int (0 : Int32)), .val (.int (1 : Int32)), .val (.int (2 : Int32)), .val (.int (3 : Int32)), .val (.ref be), .val (.int (own_rI r)), .val (.int (own_bI rv)), .val (.int (own_o0 r)), .val (.int (own_o1 r rv)), .val (.int (own_o2 r rv)), .unset, .unset, .unset, .unset, .unset, .unset, .unset, .unset, .unset, .unset, .unset, .unset, .unset, .unset] [(.ref bo)])) _
    refine XS.astore X21.here hx rfl (hb hby at_159) rfl rfl (l' := #[.val (.int p1), .val (.int p2), .val (.int p3), .val (.int p4), .val (.ref bt), .val (.int (0 : Int32)), .val (.int (1 : Int32)), .val (.int (2 : Int32)), .val (.int (3 : Int32)), .val (.ref be), .val (.int (own_rI r)), .val (.int (own_bI rv)), .val (.int (own_o0 r)), .val (.int (own_o1 r rv)), .val (.int (own_o2 r rv)), .val (.ref bo), .unset, .unset, .unset, .unset, .unset, .unset, .unset, .unset, .unset, .unset, .unset, .unset, .unset]) rfl ?_
    show Steps p.tables e below (T21.setTop (mkF m 161 #[.val (.int p1), .val (.int p2), .val (.int p3), .val (.int p4), .val (.ref bt), .val (.int (0 : Int32)), .val (.int (1 : Int32)), .val (.int (2 : Int32)), .val (.int (3 : Int32)), .val (.ref be), .val (.int (own_rI r)), .val (.int (own_bI rv)), .val (.int (own_o0 r)), .val (.int (own_o1 r rv)), .val (.int (own_o2 r rv)), .val (.ref bo), .unset, .unset, .unset, .unset, .unset, .unset, .unset, .unset, .unset, .unset, .unset, .unset, .unset] [])) _
    refine XS.iloadN X21.here hx rfl (hb hby at_161) rfl ?_
    show Steps p.tables e below (T21.setTop (mkF m 162 #[.val (.int p1), .val (.int p2), .val (.int p3), .val (.int p4), .val (.ref bt), .val (.int (0 : Int32)), .val (.int (1 : Int32)), .val (.int (2 : Int32)), .val (.int (3 : Int32)), .val (.ref be), .val (.int (own_rI r)), .val (.int (own_bI rv)), .val (.int (own_o0 r)), .val (.int (own_o1 r rv)), .val (.int (own_o2 r rv)), .val (.ref bo), .unset, .unset, .unset, .unset, .unset, .unset, .unset, .unset, .unset, .unset, .unset, .unset, .unset] [(.int p2)])) _
    refine X21.ldcInt hx hown (mvT hZ (hw _ (List.mem_of_getElem? (i := 47) rfl))) (g := (mkF m 162 #[.val (.int p1), .val (.int p2), .val (.int p3), .val (.int p4), .val (.ref bt), .val (.int (0 : Int32)), .val (.int (1 : Int32)), .val (.int (2 : Int32)), .val (.int (3 : Int32)), .val (.ref be), .val (.int (own_rI r)), .val (.int (own_bI rv)), .val (.int (own_o0 r)), .val (.int (own_o1 r rv)), .val (.int (own_o2 r rv)), .val (.ref bo), .unset, .unset, .unset, .unset, .unset, .unset, .unset, .unset, .unset, .unset, .unset, .unset, .unset] [(.int p2)])) rfl (hb hby at_162) _ ?_
    show Steps p.tables e below (T21.setTop (mkF m 164 #[.val (.int p1), .val (.int p2), .val (.int p3), .val (.int p4), .val (.ref bt), .val (.int (0 : Int32)), .val (.int (1 : Int32)), .val (.int (2 : Int32)), .val (.int (3 : Int32)), .val (.ref be), .val (.int (own_rI r)), .val (.int (own_bI rv)), .val (.int (own_o0 r)), .val (.int (own_o1 r rv)), .val (.int (own_o2 r rv)), .val (.ref bo), .unset, .unset, .unset, .unset, .unset, .unset, .unset, .unset, .unset, .unset, .unset, .unset, .unset] [(.int (2147483647 : Int32)), (.int p2)])) _
    refine XS.iand X21.here hx rfl (hb hby at_164) rfl ?_
    show Steps p.tables e below (T21.setTop (mkF m 165 #[.val (.int p1), .val (.int p2), .val (.int p3), .val (.int p4), .val (.ref bt), .val (.int (0 : Int32)), .val (.int (1 : Int32)), .val (.int (2 : Int32)), .val (.int (3 : Int32)), .val (.ref be), .val (.int (own_rI r)), .val (.int (own_bI rv)), .val (.int (own_o0 r)), .val (.int (own_o1 r rv)), .val (.int (own_o2 r rv)), .val (.ref bo), .unset, .unset, .unset, .unset, .unset, .unset, .unset, .unset, .unset, .unset, .unset, .unset, .unset] [(.int (p2 &&& (2147483647 : Int32)))])) _
    refine XS.iconst X21.here hx rfl (hb hby at_165) ?_
    show Steps p.tables e below (T21.setTop (mkF m 166 #[.val (.int p1), .val (.int p2), .val (.int p3), .val (.int p4), .val (.ref bt), .val (.int (0 : Int32)), .val (.int (1 : Int32)), .val (.int (2 : Int32)), .val (.int (3 : Int32)), .val (.ref be), .val (.int (own_rI r)), .val (.int (own_bI rv)), .val (.int (own_o0 r)), .val (.int (own_o1 r rv)), .val (.int (own_o2 r rv)), .val (.ref bo), .unset, .unset, .unset, .unset, .unset, .unset, .unset, .unset, .unset, .unset, .unset, .unset, .unset] [(.int (4 : Int32)), (.int (p2 &&& (2147483647 : Int32)))])) _
    refine iremM (g := (mkF m 166 #[.val (.int p1), .val (.int p2), .val (.int p3), .val (.int p4), .val (.ref bt), .val (.int (0 : Int32)), .val (.int (1 : Int32)), .val (.int (2 : Int32)), .val (.int (3 : Int32)), .val (.ref be), .val (.int (own_rI r)), .val (.int (own_bI rv)), .val (.int (own_o0 r)), .val (.int (own_o1 r rv)), .val (.int (own_o2 r rv)), .val (.ref bo), .unset, .unset, .unset, .unset, .unset, .unset, .unset, .unset, .unset, .unset, .unset, .unset, .unset] [(.int (4 : Int32)), (.int (p2 &&& (2147483647 : Int32)))])) X21 hx rfl (hb hby at_166) rfl (by decide) ?_
    show Steps p.tables e below (T21.setTop (mkF m 167 #[.val (.int p1), .val (.int p2), .val (.int p3), .val (.int p4), .val (.ref bt), .val (.int (0 : Int32)), .val (.int (1 : Int32)), .val (.int (2 : Int32)), .val (.int (3 : Int32)), .val (.ref be), .val (.int (own_rI r)), .val (.int (own_bI rv)), .val (.int (own_o0 r)), .val (.int (own_o1 r rv)), .val (.int (own_o2 r rv)), .val (.ref bo), .unset, .unset, .unset, .unset, .unset, .unset, .unset, .unset, .unset, .unset, .unset, .unset, .unset] [(.int ((p2 &&& (2147483647 : Int32)) % (4 : Int32)))])) _
    refine XS.istore X21.here hx rfl (hb hby at_167) rfl (l' := #[.val (.int p1), .val (.int p2), .val (.int p3), .val (.int p4), .val (.ref bt), .val (.int (0 : Int32)), .val (.int (1 : Int32)), .val (.int (2 : Int32)), .val (.int (3 : Int32)), .val (.ref be), .val (.int (own_rI r)), .val (.int (own_bI rv)), .val (.int (own_o0 r)), .val (.int (own_o1 r rv)), .val (.int (own_o2 r rv)), .val (.ref bo), .val (.int ((p2 &&& (2147483647 : Int32)) % (4 : Int32))), .unset, .unset, .unset, .unset, .unset, .unset, .unset, .unset, .unset, .unset, .unset, .unset]) rfl ?_
    exact k)
  obtain ⟨kk, hk⟩ := own_k4 p2
  rw [← h_k_] at hk
  subst hk
  obtain ⟨T23, h23, k23, X23, e23, E23, A23, st23⟩ := newP X21 hx hZ (hw _ (List.mem_of_getElem? (i := 9) rfl)) e21 (g := (mkF m 170 #[.val (.int p1), .val (.int p2), .val (.int p3), .val (.int p4), .val (.ref bt), .val (.int (0 : Int32)), .val (.int (1 : Int32)), .val (.int (2 : Int32)), .val (.int (3 : Int32)), .val (.ref be), .val (.int (own_rI r)), .val (.int (own_bI rv)), .val (.int (own_o0 r)), .val (.int (own_o1 r rv)), .val (.int (own_o2 r rv)), .val (.ref bo), .val (.int (own_kI kk)), .unset, .unset, .unset, .unset, .unset, .unset, .unset, .unset, .unset, .unset, .unset, .unset] [(.int (3 : Int32))])) rfl (hb hby at_170) rfl (by decide) (cap := 3) (by decide) (by decide) (by decide) (by decide)
  obtain ⟨bs, g23⟩ : ∃ z, z = h21.size := ⟨_, rfl⟩
  rw [← g23] at A23 st23
  have g_bs : n0 ≤ bs := Nat.le_trans Z21 (Nat.le_of_eq g23.symm)
  have ne_bt_bs : bt ≠ bs := Nat.ne_of_lt (Nat.lt_of_lt_of_le wE6_e21.lt (Nat.le_of_eq g23.symm))
  have ne_br_bs : br ≠ bs := Nat.ne_of_lt (Nat.lt_of_lt_of_le wV6_e21.lt (Nat.le_of_eq g23.symm))
  have ne_bl_bs : bl ≠ bs := Nat.ne_of_lt (Nat.lt_of_lt_of_le wW6_e21.lt (Nat.le_of_eq g23.symm))
  have ne_be_bs : be ≠ bs := Nat.ne_of_lt (Nat.lt_of_lt_of_le V_be'_e21.lt (Nat.le_of_eq g23.symm))
  have ne_bo_bs : bo ≠ bs := Nat.ne_of_lt (Nat.lt_of_lt_of_le V_bo'.lt (Nat.le_of_eq g23.symm))
  have wE6_e23 := wE6_e21.ext E23
  have wR6_e23 := wR6_e21.ext E23
  have wL6_e23 := wL6_e21.ext E23
  have wD6_e23 := wD6_e21.ext E23
  have wU6'_e23 := wU6'_e21.ext E23
  have wV6_e23 := wV6_e21.ext E23
  have wW6_e23 := wW6_e21.ext E23
  have V_be'_e23 := V_be'_e21.ext E23
  have V_bo'_e23 := V_bo'.ext E23
  have Z23 : n0 ≤ h23.size := Nat.le_trans Z21 E23.1
  have V_bs : AL Z h23 bs .int (List.replicate 3 (.int (0 : Int32))) := AL.new A23 (by decide) rfl rfl
  obtain ⟨T24, h24, L24, X24, N24, e24, W24, Vbs_24, st24⟩ := own_stI X23 hx hZ e23 V_bs N21 g_bs (by decide) (Nat.le_of_ble_eq_true rfl) (g := (mkF m 181 #[.val (.int p1), .val (.int p2), .val (.int p3), .val (.int p4), .val (.ref bt), .val (.int (0 : Int32)), .val (.int (1 : Int32)), .val (.int (2 : Int32)), .val (.int (3 : Int32)), .val (.ref be), .val (.int (own_rI r)), .val (.int (own_bI rv)), .val (.int (own_o0 r)), .val (.int (own_o1 r rv)), .val (.int (own_o2 r rv)), .val (.ref bo), .val (.int (own_kI kk)), .unset, .unset, .unset, .unset, .unset, .unset, .unset, .unset, .unset, .unset, .unset, .unset] [(.int (own_t0 r rv kk)), (.int (0 : Int32)), (.ref bs), (.ref bs)])) rfl rfl (hb hby at_181)
  have wE6_e24 := wE6_e23.wr W24
  have wR6_e24 := wR6_e23.other W24 (Or.inl ne_bt_bs)
  have wL6_e24 := wL6_e23.other W24 (Or.inl ne_bt_bs)
  have wD6_e24 := wD6_e23.other W24 (Or.inl ne_bt_bs)
  have wU6'_e24 := wU6'_e23.other W24 (Or.inl ne_bt_bs)
  have wV6_e24 := wV6_e23.other W24 ne_br_bs
  have wW6_e24 := wW6_e23.other W24 ne_bl_bs
  have V_be'_e24 := V_be'_e23.other W24 ne_be_bs
  have V_bo'_e24 := V_bo'_e23.other W24 ne_bo_bs
  have Z24 : n0 ≤ h24.size := W24.size.symm ▸ Z23
  obtain ⟨T25, h25, L25, X25, N25, e25, W25, Vbs_25, st25⟩ := own_stI X24 hx hZ e24 Vbs_24 N24 g_bs (by decide) (Nat.le_of_ble_eq_true rfl) (g := (mkF m 193 #[.val (.int p1), .val (.int p2), .val (.int p3), .val (.int p4), .val (.ref bt), .val (.int (0 : Int32)), .val (.int (1 : Int32)), .val (.int (2 : Int32)), .val (.int (3 : Int32)), .val (.ref be), .val (.int (own_rI r)), .val (.int (own_bI rv)), .val (.int (own_o0 r)), .val (.int (own_o1 r rv)), .val (.int (own_o2 r rv)), .val (.ref bo), .val (.int (own_kI kk)), .unset, .unset, .unset, .unset, .unset, .unset, .unset, .unset, .unset, .unset, .unset, .unset] [(.int (own_t1 r rv kk)), (.int (1 : Int32)), (.ref bs), (.ref bs)])) rfl rfl (hb hby at_193)
  have wE6_e25 := wE6_e24.wr W25
  have wR6_e25 := wR6_e24.other W25 (Or.inl ne_bt_bs)
  have wL6_e25 := wL6_e24.other W25 (Or.inl ne_bt_bs)
  have wD6_e25 := wD6_e24.other W25 (Or.inl ne_bt_bs)
  have wU6'_e25 := wU6'_e24.other W25 (Or.inl ne_bt_bs)
  have wV6_e25 := wV6_e24.other W25 ne_br_bs
  have wW6_e25 := wW6_e24.other W25 ne_bl_bs
  have V_be'_e25 := V_be'_e24.other W25 ne_be_bs
  have V_bo'_e25 := V_bo'_e24.other W25 ne_bo_bs
  have Z25 : n0 ≤ h25.size := W25.size.symm ▸ Z24
  obtain ⟨T26, h26, L26, X26, N26, e26, W26, Vbs_26, st26⟩ := own_stI X25 hx hZ e25 Vbs_25 N25 g_bs (by decide) (Nat.le_of_ble_eq_true rfl) (g := (mkF m 205 #[.val (.int p1), .val (.int p2), .val (.int p3), .val (.int p4), .val (.ref bt), .val (.int (0 : Int32)), .val (.int (1 : Int32)), .val (.int (2 : Int32)), .val (.int (3 : Int32)), .val (.ref be), .val (.int (own_rI r)), .val (.int (own_bI rv)), .val (.int (own_o0 r)), .val (.int (own_o1 r rv)), .val (.int (own_o2 r rv)), .val (.ref bo), .val (.int (own_kI kk)), .unset, .unset, .unset, .unset, .unset, .unset, .unset, .unset, .unset, .unset, .unset, .unset] [(.int (own_t2 r rv kk)), (.int (2 : Int32)), (.ref bs), (.ref bs)])) rfl rfl (hb hby at_205)
  have wE6_e26 := wE6_e25.wr W26
  have wR6_e26 := wR6_e25.other W26 (Or.inl ne_bt_bs)
  have wL6_e26 := wL6_e25.other W26 (Or.inl ne_bt_bs)
  have wD6_e26 := wD6_e25.other W26 (Or.inl ne_bt_bs)
  have wU6'_e26 := wU6'_e25.other W26 (Or.inl ne_bt_bs)
  have wV6_e26 := wV6_e25.other W26 ne_br_bs
  have wW6_e26 := wW6_e25.other W26 ne_bl_bs
  have V_be'_e26 := V_be'_e25.other W26 ne_be_bs
  have V_bo'_e26 := V_bo'_e25.other W26 ne_bo_bs
  have Z26 : n0 ≤ h26.size := W26.size.symm ▸ Z25
  have V_bs' : AL Z h26 bs .int ((own_tL r rv kk).map Value.int) := Vbs_26
  have pre27 : ∀ t, Steps p.tables e below (T26.setTop (mkF m 208 #[.val (.int p1), .val (.int p2), .val (.int p3), .val (.int p4), .val (.ref bt), .val (.int (0 : Int32)), .val (.int (1 : Int32)), .val (.int (2 : Int32)), .val (.int (3 : Int32)), .val (.ref be), .val (.int (own_rI r)), .val (.int (own_bI rv)), .val (.int (own_o0 r)), .val (.int (own_o1 r rv)), .val (.int (own_o2 r rv)), .val (.ref bo), .val (.int (own_kI kk)), .val (.ref bs), .unset, .unset, .unset, .unset, .unset, .unset, .unset, .unset, .unset, .unset, .unset] [])) t → Steps p.tables e below (s₁.setTop (entryFrame m #[(.int p1), (.int p2), (.int p3), (.int p4)] maxLocals)) t := fun t k => pre22 t (by
    show Steps p.tables e below (T21.setTop (mkF m 169 #[.val (.int p1), .val (.int p2), .val (.int p3), .val (.int p4), .val (.ref bt), .val (.int (0 : Int32)), .val (.int (1 : Int32)), .val (.int (2 : Int32)), .val (.int (3 : Int32)), .val (.ref be), .val (.int (own_rI r)), .val (.int (own_bI rv)), .val (.int (own_o0 r)), .val (.int (own_o1 r rv)), .val (.int (own_o2 r rv)), .val (.ref bo), .val (.int (own_kI kk)), .unset, .unset, .unset, .unset, .unset, .unset, .unset, .unset, .unset, .unset, .unset, .unset] [])) _
    refine XS.iconst X21.here hx rfl (hb hby at_169) ?_
    show Steps p.tables e below (T21.setTop (mkF m 170 #[.val (.int p1), .val (.int p2), .val (.int p3), .val (.int p4), .val (.ref bt), .val (.int (0 : Int32)), .val (.int (1 : Int32)), .val (.int (2 : Int32)), .val (.int (3 : Int32)), .val (.ref be), .val (.int (own_rI r)), .val (.int (own_bI rv)), .val (.int (own_o0 r)), .val (.int (own_o1 r rv)), .val (.int (own_o2 r rv)), .val (.ref bo), .val (.int (own_kI kk)), .unset, .unset, .unset, .unset, .unset, .unset, .unset, .unset, .unset, .unset, .unset, .unset] [(.int (3 : Int32))])) _
    refine st23 _ ?_
    show Steps p.tables e below (T23.setTop (mkF m 172 #[.val (.int p1), .val (.int p2), .val (.int p3), .val (.int p4), .val (.ref bt), .val (.int (0 : Int32)), .val (.int (1 : Int32)), .val (.int (2 : Int32)), .val (.int (3 : Int32)), .val (.ref be), .val (.int (own_rI r)), .val (.int (own_bI rv)), .val (.int (own_o0 r)), .val (.int (own_o1 r rv)), .val (.int (own_o2 r rv)), .val (.ref bo), .val (.int (own_kI kk)), .unset, .unset, .unset, .unset, .unset, .unset, .unset, .unset, .unset, .unset, .unset, .unset] [(.ref bs)])) _
    refine XS.dup X23.here hx rfl (hb hby at_172) rfl rfl ?_
    show Steps p.tables e below (T23.setTop (mkF m 173 #[.val (.int p1), .val (.int p2), .val (.int p3), .val (.int p4), .val (.ref bt), .val (.int (0 : Int32)), .val (.int (1 : Int32)), .val (.int (2 : Int32)), .val (.int (3 : Int32)), .val (.ref be), .val (.int (own_rI r)), .val (.int (own_bI rv)), .val (.int (own_o0 r)), .val (.int (own_o1 r rv)), .val (.int (own_o2 r rv)), .val (.ref bo), .val (.int (own_kI kk)), .unset, .unset, .unset, .unset, .unset, .unset, .unset, .unset, .unset, .unset, .unset, .unset] [(.ref bs), (.ref bs)])) _
    refine XS.iconst X23.here hx rfl (hb hby at_173) ?_
    show Steps p.tables e below (T23.setTop (mkF m 174 #[.val (.int p1), .val (.int p2), .val (.int p3), .val (.int p4), .val (.ref bt), .val (.int (0 : Int32)), .val (.int (1 : Int32)), .val (.int (2 : Int32)), .val (.int (3 : Int32)), .val (.ref be), .val (.int (own_rI r)), .val (.int (own_bI rv)), .val (.int (own_o0 r)), .val (.int (own_o1 r rv)), .val (.int (own_o2 r rv)), .val (.ref bo), .val (.int (own_kI kk)), .unset, .unset, .unset, .unset, .unset, .unset, .unset, .unset, .unset, .unset, .unset, .unset] [(.int (0 : Int32)), (.ref bs), (.ref bs)])) _
    refine XS.aload X23.here hx rfl (hb hby at_174) rfl rfl ?_
    show Steps p.tables e below (T23.setTop (mkF m 176 #[.val (.int p1), .val (.int p2), .val (.int p3), .val (.int p4), .val (.ref bt), .val (.int (0 : Int32)), .val (.int (1 : Int32)), .val (.int (2 : Int32)), .val (.int (3 : Int32)), .val (.ref be), .val (.int (own_rI r)), .val (.int (own_bI rv)), .val (.int (own_o0 r)), .val (.int (own_o1 r rv)), .val (.int (own_o2 r rv)), .val (.ref bo), .val (.int (own_kI kk)), .unset, .unset, .unset, .unset, .unset, .unset, .unset, .unset, .unset, .unset, .unset, .unset] [(.ref bo), (.int (0 : Int32)), (.ref bs), (.ref bs)])) _
    refine XS.iload X23.here hx rfl (hb hby at_176) rfl ?_
    show Steps p.tables e below (T23.setTop (mkF m 178 #[.val (.int p1), .val (.int p2), .val (.int p3), .val (.int p4), .val (.ref bt), .val (.int (0 : Int32)), .val (.int (1 : Int32)), .val (.int (2 : Int32)), .val (.int (3 : Int32)), .val (.ref be), .val (.int (own_rI r)), .val (.int (own_bI rv)), .val (.int (own_o0 r)), .val (.int (own_o1 r rv)), .val (.int (own_o2 r rv)), .val (.ref bo), .val (.int (own_kI kk)), .unset, .unset, .unset, .unset, .unset, .unset, .unset, .unset, .unset, .unset, .unset, .unset] [(.int (own_kI kk)), (.ref bo), (.int (0 : Int32)), (.ref bs), (.ref bs)])) _
    refine XS.iconst X23.here hx rfl (hb hby at_178) ?_
    show Steps p.tables e below (T23.setTop (mkF m 179 #[.val (.int p1), .val (.int p2), .val (.int p3), .val (.int p4), .val (.ref bt), .val (.int (0 : Int32)), .val (.int (1 : Int32)), .val (.int (2 : Int32)), .val (.int (3 : Int32)), .val (.ref be), .val (.int (own_rI r)), .val (.int (own_bI rv)), .val (.int (own_o0 r)), .val (.int (own_o1 r rv)), .val (.int (own_o2 r rv)), .val (.ref bo), .val (.int (own_kI kk)), .unset, .unset, .unset, .unset, .unset, .unset, .unset, .unset, .unset, .unset, .unset, .unset] [(.int (3 : Int32)), (.int (own_kI kk)), (.ref bo), (.int (0 : Int32)), (.ref bs), (.ref bs)])) _
    refine iremM (g := (mkF m 179 #[.val (.int p1), .val (.int p2), .val (.int p3), .val (.int p4), .val (.ref bt), .val (.int (0 : Int32)), .val (.int (1 : Int32)), .val (.int (2 : Int32)), .val (.int (3 : Int32)), .val (.ref be), .val (.int (own_rI r)), .val (.int (own_bI rv)), .val (.int (own_o0 r)), .val (.int (own_o1 r rv)), .val (.int (own_o2 r rv)), .val (.ref bo), .val (.int (own_kI kk)), .unset, .unset, .unset, .unset, .unset, .unset, .unset, .unset, .unset, .unset, .unset, .unset] [(.int (3 : Int32)), (.int (own_kI kk)), (.ref bo), (.int (0 : Int32)), (.ref bs), (.ref bs)])) X23 hx rfl (hb hby at_179) rfl (by decide) ?_
    show Steps p.tables e below (T23.setTop (mkF m 180 #[.val (.int p1), .val (.int p2), .val (.int p3), .val (.int p4), .val (.ref bt), .val (.int (0 : Int32)), .val (.int (1 : Int32)), .val (.int (2 : Int32)), .val (.int (3 : Int32)), .val (.ref be), .val (.int (own_rI r)), .val (.int (own_bI rv)), .val (.int (own_o0 r)), .val (.int (own_o1 r rv)), .val (.int (own_o2 r rv)), .val (.ref bo), .val (.int (own_kI kk)), .unset, .unset, .unset, .unset, .unset, .unset, .unset, .unset, .unset, .unset, .unset, .unset] [(.int ((own_kI kk) % (3 : Int32))), (.ref bo), (.int (0 : Int32)), (.ref bs), (.ref bs)])) _
    refine own_ldI X23 hx hZ e23 V_bo'_e23 (x := (own_t0 r rv kk)) (own_rdv (own_pT r rv kk).1).1 (own_rdv (own_pT r rv kk).1).2 (g := (mkF m 180 #[.val (.int p1), .val (.int p2), .val (.int p3), .val (.int p4), .val (.ref bt), .val (.int (0 : Int32)), .val (.int (1 : Int32)), .val (.int (2 : Int32)), .val (.int (3 : Int32)), .val (.ref be), .val (.int (own_rI r)), .val (.int (own_bI rv)), .val (.int (own_o0 r)), .val (.int (own_o1 r rv)), .val (.int (own_o2 r rv)), .val (.ref bo), .val (.int (own_kI kk)), .unset, .unset, .unset, .unset, .unset, .unset, .unset, .unset, .unset, .unset, .unset, .unset] [(.int ((own_kI kk) % (3 : Int32))), (.ref bo), (.int (0 : Int32)), (.ref bs), (.ref bs)])) rfl rfl (hb hby at_180) _ ?_
    show Steps p.tables e below (T23.setTop (mkF m 181 #[.val (.int p1), .val (.int p2), .val (.int p3), .val (.int p4), .val (.ref bt), .val (.int (0 : Int32)), .val (.int (1 : Int32)), .val (.int (2 : Int32)), .val (.int (3 : Int32)), .val (.ref be), .val (.int (own_rI r)), .val (.int (own_bI rv)), .val (.int (own_o0 r)), .val (.int (own_o1 r rv)), .val (.int (own_o2 r rv)), .val (.ref bo), .val (.int (own_kI kk)), .unset, .unset, .unset, .unset, .unset, .unset, .unset, .unset, .unset, .unset, .unset, .unset] [(.int (own_t0 r rv kk)), (.int (0 : Int32)), (.ref bs), (.ref bs)])) _
    refine st24 _ ?_
    show Steps p.tables e below (T24.setTop (mkF m 182 #[.val (.int p1), .val (.int p2), .val (.int p3), .val (.int p4), .val (.ref bt), .val (.int (0 : Int32)), .val (.int (1 : Int32)), .val (.int (2 : Int32)), .val (.int (3 : Int32)), .val (.ref be), .val (.int (own_rI r)), .val (.int (own_bI rv)), .val (.int (own_o0 r)), .val (.int (own_o1 r rv)), .val (.int (own_o2 r rv)), .val (.ref bo), .val (.int (own_kI kk)), .unset, .unset, .unset, .unset, .unset, .unset, .unset, .unset, .unset, .unset, .unset, .unset] [(.ref bs)])) _
    refine XS.dup X24.here hx rfl (hb hby at_182) rfl rfl ?_
    show Steps p.tables e below (T24.setTop (mkF m 183 #[.val (.int p1), .val (.int p2), .val (.int p3), .val (.int p4), .val (.ref bt), .val (.int (0 : Int32)), .val (.int (1 : Int32)), .val (.int (2 : Int32)), .val (.int (3 : Int32)), .val (.ref be), .val (.int (own_rI r)), .val (.int (own_bI rv)), .val (.int (own_o0 r)), .val (.int (own_o1 r rv)), .val (.int (own_o2 r rv)), .val (.ref bo), .val (.int (own_kI kk)), .unset, .unset, .unset, .unset, .unset, .unset, .unset, .unset, .unset, .unset, .unset, .unset] [(.ref bs), (.ref bs)])) _
    refine XS.iconst X24.here hx rfl (hb hby at_183) ?_
    show Steps p.tables e below (T24.setTop (mkF m 184 #[.val (.int p1), .val (.int p2), .val (.int p3), .val (.int p4), .val (.ref bt), .val (.int (0 : Int32)), .val (.int (1 : Int32)), .val (.int (2 : Int32)), .val (.int (3 : Int32)), .val (.ref be), .val (.int (own_rI r)), .val (.int (own_bI rv)), .val (.int (own_o0 r)), .val (.int (own_o1 r rv)), .val (.int (own_o2 r rv)), .val (.ref bo), .val (.int (own_kI kk)), .unset, .unset, .unset, .unset, .unset, .unset, .unset, .unset, .unset, .unset, .unset, .unset] [(.int (1 : Int32)), (.ref bs), (.ref bs)])) _
    refine XS.aload X24.here hx rfl (hb hby at_184) rfl rfl ?_
    show Steps p.tables e below (T24.setTop (mkF m 186 #[.val (.int p1), .val (.int p2), .val (.int p3), .val (.int p4), .val (.ref bt), .val (.int (0 : Int32)), .val (.int (1 : Int32)), .val (.int (2 : Int32)), .val (.int (3 : Int32)), .val (.ref be), .val (.int (own_rI r)), .val (.int (own_bI rv)), .val (.int (own_o0 r)), .val (.int (own_o1 r rv)), .val (.int (own_o2 r rv)), .val (.ref bo), .val (.int (own_kI kk)), .unset, .unset, .unset, .unset, .unset, .unset, .unset, .unset, .unset, .unset, .unset, .unset] [(.ref bo), (.int (1 : Int32)), (.ref bs), (.ref bs)])) _
    refine XS.iload X24.here hx rfl (hb hby at_186) rfl ?_
    show Steps p.tables e below (T24.setTop (mkF m 188 #[.val (.int p1), .val (.int p2), .val (.int p3), .val (.int p4), .val (.ref bt), .val (.int (0 : Int32)), .val (.int (1 : Int32)), .val (.int (2 : Int32)), .val (.int (3 : Int32)), .val (.ref be), .val (.int (own_rI r)), .val (.int (own_bI rv)), .val (.int (own_o0 r)), .val (.int (own_o1 r rv)), .val (.int (own_o2 r rv)), .val (.ref bo), .val (.int (own_kI kk)), .unset, .unset, .unset, .unset, .unset, .unset, .unset, .unset, .unset, .unset, .unset, .unset] [(.int (own_kI kk)), (.ref bo), (.int (1 : Int32)), (.ref bs), (.ref bs)])) _
    refine XS.iconst X24.here hx rfl (hb hby at_188) ?_
    show Steps p.tables e below (T24.setTop (mkF m 189 #[.val (.int p1), .val (.int p2), .val (.int p3), .val (.int p4), .val (.ref bt), .val (.int (0 : Int32)), .val (.int (1 : Int32)), .val (.int (2 : Int32)), .val (.int (3 : Int32)), .val (.ref be), .val (.int (own_rI r)), .val (.int (own_bI rv)), .val (.int (own_o0 r)), .val (.int (own_o1 r rv)), .val (.int (own_o2 r rv)), .val (.ref bo), .val (.int (own_kI kk)), .unset, .unset, .unset, .unset, .unset, .unset, .unset, .unset, .unset, .unset, .unset, .unset] [(.int (1 : Int32)), (.int (own_kI kk)), (.ref bo), (.int (1 : Int32)), (.ref bs), (.ref bs)])) _
    refine XS.iadd X24.here hx rfl (hb hby at_189) rfl ?_
    show Steps p.tables e below (T24.setTop (mkF m 190 #[.val (.int p1), .val (.int p2), .val (.int p3), .val (.int p4), .val (.ref bt), .val (.int (0 : Int32)), .val (.int (1 : Int32)), .val (.int (2 : Int32)), .val (.int (3 : Int32)), .val (.ref be), .val (.int (own_rI r)), .val (.int (own_bI rv)), .val (.int (own_o0 r)), .val (.int (own_o1 r rv)), .val (.int (own_o2 r rv)), .val (.ref bo), .val (.int (own_kI kk)), .unset, .unset, .unset, .unset, .unset, .unset, .unset, .unset, .unset, .unset, .unset, .unset] [(.int ((own_kI kk) + (1 : Int32))), (.ref bo), (.int (1 : Int32)), (.ref bs), (.ref bs)])) _
    refine XS.iconst X24.here hx rfl (hb hby at_190) ?_
    show Steps p.tables e below (T24.setTop (mkF m 191 #[.val (.int p1), .val (.int p2), .val (.int p3), .val (.int p4), .val (.ref bt), .val (.int (0 : Int32)), .val (.int (1 : Int32)), .val (.int (2 : Int32)), .val (.int (3 : Int32)), .val (.ref be), .val (.int (own_rI r)), .val (.int (own_bI rv)), .val (.int (own_o0 r)), .val (.int (own_o1 r rv)), .val (.int (own_o2 r rv)), .val (.ref bo), .val (.int (own_kI kk)), .unset, .unset, .unset, .unset, .unset, .unset, .unset, .unset, .unset, .unset, .unset, .unset] [(.int (3 : Int32)), (.int ((own_kI kk) + (1 : Int32))), (.ref bo), (.int (1 : Int32)), (.ref bs), (.ref bs)])) _
    refine iremM (g := (mkF m 191 #[.val (.int p1), .val (.int p2), .val (.int p3), .val (.int p4), .val (.ref bt), .val (.int (0 : Int32)), .val (.int (1 : Int32)), .val (.int (2 : Int32)), .val (.int (3 : Int32)), .val (.ref be), .val (.int (own_rI r)), .val (.int (own_bI rv)), .val (.int (own_o0 r)), .val (.int (own_o1 r rv)), .val (.int (own_o2 r rv)), .val (.ref bo), .val (.int (own_kI kk)), .unset, .unset, .unset, .unset, .unset, .unset, .unset, .unset, .unset, .unset, .unset, .unset] [(.int (3 : Int32)), (.int ((own_kI kk) + (1 : Int32))), (.ref bo), (.int (1 : Int32)), (.ref bs), (.ref bs)])) X24 hx rfl (hb hby at_191) rfl (by decide) ?_
    show Steps p.tables e below (T24.setTop (mkF m 192 #[.val (.int p1), .val (.int p2), .val (.int p3), .val (.int p4), .val (.ref bt), .val (.int (0 : Int32)), .val (.int (1 : Int32)), .val (.int (2 : Int32)), .val (.int (3 : Int32)), .val (.ref be), .val (.int (own_rI r)), .val (.int (own_bI rv)), .val (.int (own_o0 r)), .val (.int (own_o1 r rv)), .val (.int (own_o2 r rv)), .val (.ref bo), .val (.int (own_kI kk)), .unset, .unset, .unset, .unset, .unset, .unset, .unset, .unset, .unset, .unset, .unset, .unset] [(.int (((own_kI kk) + (1 : Int32)) % (3 : Int32))), (.ref bo), (.int (1 : Int32)), (.ref bs), (.ref bs)])) _
    refine own_ldI X24 hx hZ e24 V_bo'_e24 (x := (own_t1 r rv kk)) (own_rdv (own_pT r rv kk).2.1).1 (own_rdv (own_pT r rv kk).2.1).2 (g := (mkF m 192 #[.val (.int p1), .val (.int p2), .val (.int p3), .val (.int p4), .val (.ref bt), .val (.int (0 : Int32)), .val (.int (1 : Int32)), .val (.int (2 : Int32)), .val (.int (3 : Int32)), .val (.ref be), .val (.int (own_rI r)), .val (.int (own_bI rv)), .val (.int (own_o0 r)), .val (.int (own_o1 r rv)), .val (.int (own_o2 r rv)), .val (.ref bo), .val (.int (own_kI kk)), .unset, .unset, .unset, .unset, .unset, .unset, .unset, .unset, .unset, .unset, .unset, .unset] [(.int (((own_kI kk) + (1 : Int32)) % (3 : Int32))), (.ref bo), (.int (1 : Int32)), (.ref bs), (.ref bs)])) rfl rfl (hb hby at_192) _ ?_
    show Steps p.tables e below (T24.setTop (mkF m 193 #[.val (.int p1), .val (.int p2), .val (.int p3), .val (.int p4), .val (.ref bt), .val (.int (0 : Int32)), .val (.int (1 : Int32)), .val (.int (2 : Int32)), .val (.int (3 : Int32)), .val (.ref be), .val (.int (own_rI r)), .val (.int (own_bI rv)), .val (.int (own_o0 r)), .val (.int (own_o1 r rv)), .val (.int (own_o2 r rv)), .val (.ref bo), .val (.int (own_kI kk)), .unset, .unset, .unset, .unset, .unset, .unset, .unset, .unset, .unset, .unset, .unset, .unset] [(.int (own_t1 r rv kk)), (.int (1 : Int32)), (.ref bs), (.ref bs)])) _
    refine st25 _ ?_
    show Steps p.tables e below (T25.setTop (mkF m 194 #[.val (.int p1), .val (.int p2), .val (.int p3), .val (.int p4), .val (.ref bt), .val (.int (0 : Int32)), .val (.int (1 : Int32)), .val (.int (2 : Int32)), .val (.int (3 : Int32)), .val (.ref be), .val (.int (own_rI r)), .val (.int (own_bI rv)), .val (.int (own_o0 r)), .val (.int (own_o1 r rv)), .val (.int (own_o2 r rv)), .val (.ref bo), .val (.int (own_kI kk)), .unset, .unset, .unset, .unset, .unset, .unset, .unset, .unset, .unset, .unset, .unset, .unset] [(.ref bs)])) _
    refine XS.dup X25.here hx rfl (hb hby at_194) rfl rfl ?_
    show Steps p.tables e below (T25.setTop (mkF m 195 #[.val (.int p1), .val (.int p2), .val (.int p3), .val (.int p4), .val (.ref bt), .val (.int (0 : Int32)), .val (.int (1 : Int32)), .val (.int (2 : Int32)), .val (.int (3 : Int32)), .val (.ref be), .val (.int (own_rI r)), .val (.int (own_bI rv)), .val (.int (own_o0 r)), .val (.int (own_o1 r rv)), .val (.int (own_o2 r rv)), .val (.ref bo), .val (.int (own_kI kk)), .unset, .unset, .unset, .unset, .unset, .unset, .unset, .unset, .unset, .unset, .unset, .unset] [(.ref bs), (.ref bs)])) _
    refine XS.iconst X25.here hx rfl (hb hby at_195) ?_
    show Steps p.tables e below (T25.setTop (mkF m 196 #[.val (.int p1), .val (.int p2), .val (.int p3), .val (.int p4), .val (.ref bt), .val (.int (0 : Int32)), .val (.int (1 : Int32)), .val (.int (2 : Int32)), .val (.int (3 : Int32)), .val (.ref be), .val (.int (own_rI r)), .val (.int (own_bI rv)), .val (.int (own_o0 r)), .val (.int (own_o1 r rv)), .val (.int (own_o2 r rv)), .val (.ref bo), .val (.int (own_kI kk)), .unset, .unset, .unset, .unset, .unset, .unset, .unset, .unset, .unset, .unset, .unset, .unset] [(.int (2 : Int32)), (.ref bs), (.ref bs)])) _
    refine XS.aload X25.here hx rfl (hb hby at_196) rfl rfl ?_
    show Steps p.tables e below (T25.setTop (mkF m 198 #[.val (.int p1), .val (.int p2), .val (.int p3), .val (.int p4), .val (.ref bt), .val (.int (0 : Int32)), .val (.int (1 : Int32)), .val (.int (2 : Int32)), .val (.int (3 : Int32)), .val (.ref be), .val (.int (own_rI r)), .val (.int (own_bI rv)), .val (.int (own_o0 r)), .val (.int (own_o1 r rv)), .val (.int (own_o2 r rv)), .val (.ref bo), .val (.int (own_kI kk)), .unset, .unset, .unset, .unset, .unset, .unset, .unset, .unset, .unset, .unset, .unset, .unset] [(.ref bo), (.int (2 : Int32)), (.ref bs), (.ref bs)])) _
    refine XS.iload X25.here hx rfl (hb hby at_198) rfl ?_
    show Steps p.tables e below (T25.setTop (mkF m 200 #[.val (.int p1), .val (.int p2), .val (.int p3), .val (.int p4), .val (.ref bt), .val (.int (0 : Int32)), .val (.int (1 : Int32)), .val (.int (2 : Int32)), .val (.int (3 : Int32)), .val (.ref be), .val (.int (own_rI r)), .val (.int (own_bI rv)), .val (.int (own_o0 r)), .val (.int (own_o1 r rv)), .val (.int (own_o2 r rv)), .val (.ref bo), .val (.int (own_kI kk)), .unset, .unset, .unset, .unset, .unset, .unset, .unset, .unset, .unset, .unset, .unset, .unset] [(.int (own_kI kk)), (.ref bo), (.int (2 : Int32)), (.ref bs), (.ref bs)])) _
    refine XS.iconst X25.here hx rfl (hb hby at_200) ?_
    show Steps p.tables e below (T25.setTop (mkF m 201 #[.val (.int p1), .val (.int p2), .val (.int p3), .val (.int p4), .val (.ref bt), .val (.int (0 : Int32)), .val (.int (1 : Int32)), .val (.int (2 : Int32)), .val (.int (3 : Int32)), .val (.ref be), .val (.int (own_rI r)), .val (.int (own_bI rv)), .val (.int (own_o0 r)), .val (.int (own_o1 r rv)), .val (.int (own_o2 r rv)), .val (.ref bo), .val (.int (own_kI kk)), .unset, .unset, .unset, .unset, .unset, .unset, .unset, .unset, .unset, .unset, .unset, .unset] [(.int (2 : Int32)), (.int (own_kI kk)), (.ref bo), (.int (2 : Int32)), (.ref bs), (.ref bs)])) _
    refine XS.iadd X25.here hx rfl (hb hby at_201) rfl ?_
    show Steps p.tables e below (T25.setTop (mkF m 202 #[.val (.int p1), .val (.int p2), .val (.int p3), .val (.int p4), .val (.ref bt), .val (.int (0 : Int32)), .val (.int (1 : Int32)), .val (.int (2 : Int32)), .val (.int (3 : Int32)), .val (.ref be), .val (.int (own_rI r)), .val (.int (own_bI rv)), .val (.int (own_o0 r)), .val (.int (own_o1 r rv)), .val (.int (own_o2 r rv)), .val (.ref bo), .val (.int (own_kI kk)), .unset, .unset, .unset, .unset, .unset, .unset, .unset, .unset, .unset, .unset, .unset, .unset] [(.int ((own_kI kk) + (2 : Int32))), (.ref bo), (.int (2 : Int32)), (.ref bs), (.ref bs)])) _
    refine XS.iconst X25.here hx rfl (hb hby at_202) ?_
    show Steps p.tables e below (T25.setTop (mkF m 203 #[.val (.int p1), .val (.int p2), .val (.int p3), .val (.int p4), .val (.ref bt), .val (.int (0 : Int32)), .val (.int (1 : Int32)), .val (.int (2 : Int32)), .val (.int (3 : Int32)), .val (.ref be), .val (.int (own_rI r)), .val (.int (own_bI rv)), .val (.int (own_o0 r)), .val (.int (own_o1 r rv)), .val (.int (own_o2 r rv)), .val (.ref bo), .val (.int (own_kI kk)), .unset, .unset, .unset, .unset, .unset, .unset, .unset, .unset, .unset, .unset, .unset, .unset] [(.int (3 : Int32)), (.int ((own_kI kk) + (2 : Int32))), (.ref bo), (.int (2 : Int32)), (.ref bs), (.ref bs)])) _
    refine iremM (g := (mkF m 203 #[.val (.int p1), .val (.int p2), .val (.int p3), .val (.int p4), .val (.ref bt), .val (.int (0 : Int32)), .val (.int (1 : Int32)), .val (.int (2 : Int32)), .val (.int (3 : Int32)), .val (.ref be), .val (.int (own_rI r)), .val (.int (own_bI rv)), .val (.int (own_o0 r)), .val (.int (own_o1 r rv)), .val (.int (own_o2 r rv)), .val (.ref bo), .val (.int (own_kI kk)), .unset, .unset, .unset, .unset, .unset, .unset, .unset, .unset, .unset, .unset, .unset, .unset] [(.int (3 : Int32)), (.int ((own_kI kk) + (2 : Int32))), (.ref bo), (.int (2 : Int32)), (.ref bs), (.ref bs)])) X25 hx rfl (hb hby at_203) rfl (by decide) ?_
    show Steps p.tables e below (T25.setTop (mkF m 204 #[.val (.int p1), .val (.int p2), .val (.int p3), .val (.int p4), .val (.ref bt), .val (.int (0 : Int32)), .val (.int (1 : Int32)), .val (.int (2 : Int32)), .val (.int (3 : Int32)), .val (.ref be), .val (.int (own_rI r)), .val (.int (own_bI rv)), .val (.int (own_o0 r)), .val (.int (own_o1 r rv)), .val (.int (own_o2 r rv)), .val (.ref bo), .val (.int (own_kI kk)), .unset, .unset, .unset, .unset, .unset, .unset, .unset, .unset, .unset, .unset, .unset, .unset] [(.int (((own_kI kk) + (2 : Int32)) % (3 : Int32))), (.ref bo), (.int (2 : Int32)), (.ref bs), (.ref bs)])) _
    refine own_ldI X25 hx hZ e25 V_bo'_e25 (x := (own_t2 r rv kk)) (own_rdv (own_pT r rv kk).2.2).1 (own_rdv (own_pT r rv kk).2.2).2 (g := (mkF m 204 #[.val (.int p1), .val (.int p2), .val (.int p3), .val (.int p4), .val (.ref bt), .val (.int (0 : Int32)), .val (.int (1 : Int32)), .val (.int (2 : Int32)), .val (.int (3 : Int32)), .val (.ref be), .val (.int (own_rI r)), .val (.int (own_bI rv)), .val (.int (own_o0 r)), .val (.int (own_o1 r rv)), .val (.int (own_o2 r rv)), .val (.ref bo), .val (.int (own_kI kk)), .unset, .unset, .unset, .unset, .unset, .unset, .unset, .unset, .unset, .unset, .unset, .unset] [(.int (((own_kI kk) + (2 : Int32)) % (3 : Int32))), (.ref bo), (.int (2 : Int32)), (.ref bs), (.ref bs)])) rfl rfl (hb hby at_204) _ ?_
    show Steps p.tables e below (T25.setTop (mkF m 205 #[.val (.int p1), .val (.int p2), .val (.int p3), .val (.int p4), .val (.ref bt), .val (.int (0 : Int32)), .val (.int (1 : Int32)), .val (.int (2 : Int32)), .val (.int (3 : Int32)), .val (.ref be), .val (.int (own_rI r)), .val (.int (own_bI rv)), .val (.int (own_o0 r)), .val (.int (own_o1 r rv)), .val (.int (own_o2 r rv)), .val (.ref bo), .val (.int (own_kI kk)), .unset, .unset, .unset, .unset, .unset, .unset, .unset, .unset, .unset, .unset, .unset, .unset] [(.int (own_t2 r rv kk)), (.int (2 : Int32)), (.ref bs), (.ref bs)])) _
    refine st26 _ ?_
    show Steps p.tables e below (T26.setTop (mkF m 206 #[.val (.int p1), .val (.int p2), .val (.int p3), .val (.int p4), .val (.ref bt), .val (.int (0 : Int32)), .val (.int (1 : Int32)), .val (.int (2 : Int32)), .val (.int (3 : Int32)), .val (.ref be), .val (.int (own_rI r)), .val (.int (own_bI rv)), .val (.int (own_o0 r)), .val (.int (own_o1 r rv)), .val (.int (own_o2 r rv)), .val (.ref bo), .val (.int (own_kI kk)), .unset, .unset, .unset, .unset, .unset, .unset, .unset, .unset, .unset, .unset, .unset, .unset] [(.ref bs)])) _
    refine XS.astore X26.here hx rfl (hb hby at_206) rfl rfl (l' := #[.val (.int p1), .val (.int p2), .val (.int p3), .val (.int p4), .val (.ref bt), .val (.int (0 : Int32)), .val (.int (1 : Int32)), .val (.int (2 : Int32)), .val (.int (3 : Int32)), .val (.ref be), .val (.int (own_rI r)), .val (.int (own_bI rv)), .val (.int (own_o0 r)), .val (.int (own_o1 r rv)), .val (.int (own_o2 r rv)), .val (.ref bo), .val (.int (own_kI kk)), .val (.ref bs), .unset, .unset, .unset, .unset, .unset, .unset, .unset, .unset, .unset, .unset, .unset]) rfl ?_
    exact k)
  obtain ⟨f1_, h_f1_⟩ : ∃ z : Int32, z = if (p3 &&& (1 : Int32)) = (0 : Int32) then (0 : Int32) else (1 : Int32) := ⟨_, rfl⟩
  have pre28 : ∀ t, Steps p.tables e below (T26.setTop (mkF m 219 #[.val (.int p1), .val (.int p2), .val (.int p3), .val (.int p4), .val (.ref bt), .val (.int (0 : Int32)), .val (.int (1 : Int32)), .val (.int (2 : Int32)), .val (.int (3 : Int32)), .val (.ref be), .val (.int (own_rI r)), .val (.int (own_bI rv)), .val (.int (own_o0 r)), .val (.int (own_o1 r rv)), .val (.int (own_o2 r rv)), .val (.ref bo), .val (.int (own_kI kk)), .val (.ref bs), .unset, .unset, .unset, .unset, .unset, .unset, .unset, .unset, .unset, .unset, .unset] [(.int f1_)])) t → Steps p.tables e below (s₁.setTop (entryFrame m #[(.int p1), (.int p2), (.int p3), (.int p4)] maxLocals)) t := fun t k => pre27 t (by
    by_cases h1 : (p3 &&& (1 : Int32)) = (0 : Int32)
    · have ev_f1_ : f1_ = (0 : Int32) := h_f1_.trans (if_pos h1)
      rw [ev_f1_] at k
      show Steps p.tables e below (T26.setTop (mkF m 208 #[.val (.int p1), .val (.int p2), .val (.int p3), .val (.int p4), .val (.ref bt), .val (.int (0 : Int32)), .val (.int (1 : Int32)), .val (.int (2 : Int32)), .val (.int (3 : Int32)), .val (.ref be), .val (.int (own_rI r)), .val (.int (own_bI rv)), .val (.int (own_o0 r)), .val (.int (own_o1 r rv)), .val (.int (own_o2 r rv)), .val (.ref bo), .val (.int (own_kI kk)), .val (.ref bs), .unset, .unset, .unset, .unset, .unset, .unset, .unset, .unset, .unset, .unset, .unset] [])) _
      refine XS.iloadN X26.here hx rfl (hb hby at_208) rfl ?_
      show Steps p.tables e below (T26.setTop (mkF m 209 #[.val (.int p1), .val (.int p2), .val (.int p3), .val (.int p4), .val (.ref bt), .val (.int (0 : Int32)), .val (.int (1 : Int32)), .val (.int (2 : Int32)), .val (.int (3 : Int32)), .val (.ref be), .val (.int (own_rI r)), .val (.int (own_bI rv)), .val (.int (own_o0 r)), .val (.int (own_o1 r rv)), .val (.int (own_o2 r rv)), .val (.ref bo), .val (.int (own_kI kk)), .val (.ref bs), .unset, .unset, .unset, .unset, .unset, .unset, .unset, .unset, .unset, .unset, .unset] [(.int p3)])) _
      refine XS.iconst X26.here hx rfl (hb hby at_209) ?_
      show Steps p.tables e below (T26.setTop (mkF m 210 #[.val (.int p1), .val (.int p2), .val (.int p3), .val (.int p4), .val (.ref bt), .val (.int (0 : Int32)), .val (.int (1 : Int32)), .val (.int (2 : Int32)), .val (.int (3 : Int32)), .val (.ref be), .val (.int (own_rI r)), .val (.int (own_bI rv)), .val (.int (own_o0 r)), .val (.int (own_o1 r rv)), .val (.int (own_o2 r rv)), .val (.ref bo), .val (.int (own_kI kk)), .val (.ref bs), .unset, .unset, .unset, .unset, .unset, .unset, .unset, .unset, .unset, .unset, .unset] [(.int (1 : Int32)), (.int p3)])) _
      refine XS.iand X26.here hx rfl (hb hby at_210) rfl ?_
      show Steps p.tables e below (T26.setTop (mkF m 211 #[.val (.int p1), .val (.int p2), .val (.int p3), .val (.int p4), .val (.ref bt), .val (.int (0 : Int32)), .val (.int (1 : Int32)), .val (.int (2 : Int32)), .val (.int (3 : Int32)), .val (.ref be), .val (.int (own_rI r)), .val (.int (own_bI rv)), .val (.int (own_o0 r)), .val (.int (own_o1 r rv)), .val (.int (own_o2 r rv)), .val (.ref bo), .val (.int (own_kI kk)), .val (.ref bs), .unset, .unset, .unset, .unset, .unset, .unset, .unset, .unset, .unset, .unset, .unset] [(.int (p3 &&& (1 : Int32)))])) _
      refine XS.ifYes X26.here hx rfl (pc0 := 211) (pc' := 218) rfl (hb hby at_211) rfl ((if0 _ _).trans (teq (h1 : (p3 &&& (1 : Int32)) = (0 : Int32))).1) (by decide) (by decide) ?_
      show Steps p.tables e below (T26.setTop (mkF m 218 #[.val (.int p1), .val (.int p2), .val (.int p3), .val (.int p4), .val (.ref bt), .val (.int (0 : Int32)), .val (.int (1 : Int32)), .val (.int (2 : Int32)), .val (.int (3 : Int32)), .val (.ref be), .val (.int (own_rI r)), .val (.int (own_bI rv)), .val (.int (own_o0 r)), .val (.int (own_o1 r rv)), .val (.int (own_o2 r rv)), .val (.ref bo), .val (.int (own_kI kk)), .val (.ref bs), .unset, .unset, .unset, .unset, .unset, .unset, .unset, .unset, .unset, .unset, .unset] [])) _
      refine XS.iconst X26.here hx rfl (hb hby at_218) ?_
      exact k
    · have ev_f1_ : f1_ = (1 : Int32) := h_f1_.trans (if_neg h1)
      rw [ev_f1_] at k
      show Steps p.tables e below (T26.setTop (mkF m 208 #[.val (.int p1), .val (.int p2), .val (.int p3), .val (.int p4), .val (.ref bt), .val (.int (0 : Int32)), .val (.int (1 : Int32)), .val (.int (2 : Int32)), .val (.int (3 : Int32)), .val (.ref be), .val (.int (own_rI r)), .val (.int (own_bI rv)), .val (.int (own_o0 r)), .val (.int (own_o1 r rv)), .val (.int (own_o2 r rv)), .val (.ref bo), .val (.int (own_kI kk)), .val (.ref bs), .unset, .unset, .unset, .unset, .unset, .unset, .unset, .unset, .unset, .unset, .unset] [])) _
      refine XS.iloadN X26.here hx rfl (hb hby at_208) rfl ?_
      show Steps p.tables e below (T26.setTop (mkF m 209 #[.val (.int p1), .val (.int p2), .val (.int p3), .val (.int p4), .val (.ref bt), .val (.int (0 : Int32)), .val (.int (1 : Int32)), .val (.int (2 : Int32)), .val (.int (3 : Int32)), .val (.ref be), .val (.int (own_rI r)), .val (.int (own_bI rv)), .val (.int (own_o0 r)), .val (.int (own_o1 r rv)), .val (.int (own_o2 r rv)), .val (.ref bo), .val (.int (own_kI kk)), .val (.ref bs), .unset, .unset, .unset, .unset, .unset, .unset, .unset, .unset, .unset, .unset, .unset] [(.int p3)])) _
      refine XS.iconst X26.here hx rfl (hb hby at_209) ?_
      show Steps p.tables e below (T26.setTop (mkF m 210 #[.val (.int p1), .val (.int p2), .val (.int p3), .val (.int p4), .val (.ref bt), .val (.int (0 : Int32)), .val (.int (1 : Int32)), .val (.int (2 : Int32)), .val (.int (3 : Int32)), .val (.ref be), .val (.int (own_rI r)), .val (.int (own_bI rv)), .val (.int (own_o0 r)), .val (.int (own_o1 r rv)), .val (.int (own_o2 r rv)), .val (.ref bo), .val (.int (own_kI kk)), .val (.ref bs), .unset, .unset, .unset, .unset, .unset, .unset, .unset, .unset, .unset, .unset, .unset] [(.int (1 : Int32)), (.int p3)])) _
      refine XS.iand X26.here hx rfl (hb hby at_210) rfl ?_
      show Steps p.tables e below (T26.setTop (mkF m 211 #[.val (.int p1), .val (.int p2), .val (.int p3), .val (.int p4), .val (.ref bt), .val (.int (0 : Int32)), .val (.int (1 : Int32)), .val (.int (2 : Int32)), .val (.int (3 : Int32)), .val (.ref be), .val (.int (own_rI r)), .val (.int (own_bI rv)), .val (.int (own_o0 r)), .val (.int (own_o1 r rv)), .val (.int (own_o2 r rv)), .val (.ref bo), .val (.int (own_kI kk)), .val (.ref bs), .unset, .unset, .unset, .unset, .unset, .unset, .unset, .unset, .unset, .unset, .unset] [(.int (p3 &&& (1 : Int32)))])) _
      refine XS.ifNo X26.here hx rfl (hb hby at_211) rfl ((if0 _ _).trans (feq (h1 : ¬ ((p3 &&& (1 : Int32)) = (0 : Int32)))).1) ?_
      show Steps p.tables e below (T26.setTop (mkF m 214 #[.val (.int p1), .val (.int p2), .val (.int p3), .val (.int p4), .val (.ref bt), .val (.int (0 : Int32)), .val (.int (1 : Int32)), .val (.int (2 : Int32)), .val (.int (3 : Int32)), .val (.ref be), .val (.int (own_rI r)), .val (.int (own_bI rv)), .val (.int (own_o0 r)), .val (.int (own_o1 r rv)), .val (.int (own_o2 r rv)), .val (.ref bo), .val (.int (own_kI kk)), .val (.ref bs), .unset, .unset, .unset, .unset, .unset, .unset, .unset, .unset, .unset, .unset, .unset] [])) _
      refine XS.iconst X26.here hx rfl (hb hby at_214) ?_
      show Steps p.tables e below (T26.setTop (mkF m 215 #[.val (.int p1), .val (.int p2), .val (.int p3), .val (.int p4), .val (.ref bt), .val (.int (0 : Int32)), .val (.int (1 : Int32)), .val (.int (2 : Int32)), .val (.int (3 : Int32)), .val (.ref be), .val (.int (own_rI r)), .val (.int (own_bI rv)), .val (.int (own_o0 r)), .val (.int (own_o1 r rv)), .val (.int (own_o2 r rv)), .val (.ref bo), .val (.int (own_kI kk)), .val (.ref bs), .unset, .unset, .unset, .unset, .unset, .unset, .unset, .unset, .unset, .unset, .unset] [(.int (1 : Int32))])) _
      refine XS.goto X26.here hx rfl (pc0 := 215) (pc' := 219) rfl (hb hby at_215) (by decide) (by decide) ?_
      exact k)
  obtain ⟨ff, hbff⟩ := own_b2 ((p3 &&& (1 : Int32)) = (0 : Int32))
  rw [← h_f1_] at hbff
  subst hbff
  have pre29 : ∀ t, Steps p.tables e below (T26.setTop (mkF m 221 #[.val (.int p1), .val (.int p2), .val (.int p3), .val (.int p4), .val (.ref bt), .val (.int (0 : Int32)), .val (.int (1 : Int32)), .val (.int (2 : Int32)), .val (.int (3 : Int32)), .val (.ref be), .val (.int (own_rI r)), .val (.int (own_bI rv)), .val (.int (own_o0 r)), .val (.int (own_o1 r rv)), .val (.int (own_o2 r rv)), .val (.ref bo), .val (.int (own_kI kk)), .val (.ref bs), .val (.int (own_bI ff)), .unset, .unset, .unset, .unset, .unset, .unset, .unset, .unset, .unset, .unset] [])) t → Steps p.tables e below (s₁.setTop (entryFrame m #[(.int p1), (.int p2), (.int p3), (.int p4)] maxLocals)) t := fun t k => pre28 t (by
    show Steps p.tables e below (T26.setTop (mkF m 219 #[.val (.int p1), .val (.int p2), .val (.int p3), .val (.int p4), .val (.ref bt), .val (.int (0 : Int32)), .val (.int (1 : Int32)), .val (.int (2 : Int32)), .val (.int (3 : Int32)), .val (.ref be), .val (.int (own_rI r)), .val (.int (own_bI rv)), .val (.int (own_o0 r)), .val (.int (own_o1 r rv)), .val (.int (own_o2 r rv)), .val (.ref bo), .val (.int (own_kI kk)), .val (.ref bs), .unset, .unset, .unset, .unset, .unset, .unset, .unset, .unset, .unset, .unset, .unset] [(.int (own_bI ff))])) _
    refine XS.istore X26.here hx rfl (hb hby at_219) rfl (l' := #[.val (.int p1), .val (.int p2), .val (.int p3), .val (.int p4), .val (.ref bt), .val (.int (0 : Int32)), .val (.int (1 : Int32)), .val (.int (2 : Int32)), .val (.int (3 : Int32)), .val (.ref be), .val (.int (own_rI r)), .val (.int (own_bI rv)), .val (.int (own_o0 r)), .val (.int (own_o1 r rv)), .val (.int (own_o2 r rv)), .val (.ref bo), .val (.int (own_kI kk)), .val (.ref bs), .val (.int (own_bI ff)), .unset, .unset, .unset, .unset, .unset, .unset, .unset, .unset, .unset, .unset]) rfl ?_
    exact k)
  obtain ⟨f2_, h_f2_⟩ : ∃ z : Int32, z = if (p3 &&& (2 : Int32)) = (0 : Int32) then (0 : Int32) else (1 : Int32) := ⟨_, rfl⟩
  have pre30 : ∀ t, Steps p.tables e below (T26.setTop (mkF m 232 #[.val (.int p1), .val (.int p2), .val (.int p3), .val (.int p4), .val (.ref bt), .val (.int (0 : Int32)), .val (.int (1 : Int32)), .val (.int (2 : Int32)), .val (.int (3 : Int32)), .val (.ref be), .val (.int (own_rI r)), .val (.int (own_bI rv)), .val (.int (own_o0 r)), .val (.int (own_o1 r rv)), .val (.int (own_o2 r rv)), .val (.ref bo), .val (.int (own_kI kk)), .val (.ref bs), .val (.int (own_bI ff)), .unset, .unset, .unset, .unset, .unset, .unset, .unset, .unset, .unset, .unset] [(.int f2_)])) t → Steps p.tables e below (s₁.setTop (entryFrame m #[(.int p1), (.int p2), (.int p3), (.int p4)] maxLocals)) t := fun t k => pre29 t (by
    by_cases h1 : (p3 &&& (2 : Int32)) = (0 : Int32)
    · have ev_f2_ : f2_ = (0 : Int32) := h_f2_.trans (if_pos h1)
      rw [ev_f2_] at k
      show Steps p.tables e below (T26.setTop (mkF m 221 #[.val (.int p1), .val (.int p2), .val (.int p3), .val (.int p4), .val (.ref bt), .val (.int (0 : Int32)), .val (.int (1 : Int32)), .val (.int (2 : Int32)), .val (.int (3 : Int32)), .val (.ref be), .val (.int (own_rI r)), .val (.int (own_bI rv)), .val (.int (own_o0 r)), .val (.int (own_o1 r rv)), .val (.int (own_o2 r rv)), .val (.ref bo), .val (.int (own_kI kk)), .val (.ref bs), .val (.int (own_bI ff)), .unset, .unset, .unset, .unset, .unset, .unset, .unset, .unset, .unset, .unset] [])) _
      refine XS.iloadN X26.here hx rfl (hb hby at_221) rfl ?_
      show Steps p.tables e below (T26.setTop (mkF m 222 #[.val (.int p1), .val (.int p2), .val (.int p3), .val (.int p4), .val (.ref bt), .val (.int (0 : Int32)), .val (.int (1 : Int32)), .val (.int (2 : Int32)), .val (.int (3 : Int32)), .val (.ref be), .val (.int (own_rI r)), .val (.int (own_bI rv)), .val (.int (own_o0 r)), .val (.int (own_o1 r rv)), .val (.int (own_o2 r rv)), .val (.ref bo), .val (.int (own_kI kk)), .val (.ref bs), .val (.int (own_bI ff)), .unset, .unset, .unset, .unset, .unset, .unset, .unset, .unset, .unset, .unset] [(.int p3)])) _
      refine XS.iconst X26.here hx rfl (hb hby at_222) ?_
      show Steps p.tables e below (T26.setTop (mkF m 223 #[.val (.int p1), .val (.int p2), .val (.int p3), .val (.int p4), .val (.ref bt), .val (.int (0 : Int32)), .val (.int (1 : Int32)), .val (.int (2 : Int32)), .val (.int (3 : Int32)), .val (.ref be), .val (.int (own_rI r)), .val (.int (own_bI rv)), .val (.int (own_o0 r)), .val (.int (own_o1 r rv)), .val (.int (own_o2 r rv)), .val (.ref bo), .val (.int (own_kI kk)), .val (.ref bs), .val (.int (own_bI ff)), .unset, .unset, .unset, .unset, .unset, .unset, .unset, .unset, .unset, .unset] [(.int (2 : Int32)), (.int p3)])) _
      refine XS.iand X26.here hx rfl (hb hby at_223) rfl ?_
      show Steps p.tables e below (T26.setTop (mkF m 224 #[.val (.int p1), .val (.int p2), .val (.int p3), .val (.int p4), .val (.ref bt), .val (.int (0 : Int32)), .val (.int (1 : Int32)), .val (.int (2 : Int32)), .val (.int (3 : Int32)), .val (.ref be), .val (.int (own_rI r)), .val (.int (own_bI rv)), .val (.int (own_o0 r)), .val (.int (own_o1 r rv)), .val (.int (own_o2 r rv)), .val (.ref bo), .val (.int (own_kI kk)), .val (.ref bs), .val (.int (own_bI ff)), .unset, .unset, .unset, .unset, .unset, .unset, .unset, .unset, .unset, .unset] [(.int (p3 &&& (2 : Int32)))])) _
      refine XS.ifYes X26.here hx rfl (pc0 := 224) (pc' := 231) rfl (hb hby at_224) rfl ((if0 _ _).trans (teq (h1 : (p3 &&& (2 : Int32)) = (0 : Int32))).1) (by decide) (by decide) ?_
      show Steps p.tables e below (T26.setTop (mkF m 231 #[.val (.int p1), .val (.int p2), .val (.int p3), .val (.int p4), .val (.ref bt), .val (.int (0 : Int32)), .val (.int (1 : Int32)), .val (.int (2 : Int32)), .val (.int (3 : Int32)), .val (.ref be), .val (.int (own_rI r)), .val (.int (own_bI rv)), .val (.int (own_o0 r)), .val (.int (own_o1 r rv)), .val (.int (own_o2 r rv)), .val (.ref bo), .val (.int (own_kI kk)), .val (.ref bs), .val (.int (own_bI ff)), .unset, .unset, .unset, .unset, .unset, .unset, .unset, .unset, .unset, .unset] [])) _
      refine XS.iconst X26.here hx rfl (hb hby at_231) ?_
      exact k
    · have ev_f2_ : f2_ = (1 : Int32) := h_f2_.trans (if_neg h1)
      rw [ev_f2_] at k
      show Steps p.tables e below (T26.setTop (mkF m 221 #[.val (.int p1), .val (.int p2), .val (.int p3), .val (.int p4), .val (.ref bt), .val (.int (0 : Int32)), .val (.int (1 : Int32)), .val (.int (2 : Int32)), .val (.int (3 : Int32)), .val (.ref be), .val (.int (own_rI r)), .val (.int (own_bI rv)), .val (.int (own_o0 r)), .val (.int (own_o1 r rv)), .val (.int (own_o2 r rv)), .val (.ref bo), .val (.int (own_kI kk)), .val (.ref bs), .val (.int (own_bI ff)), .unset, .unset, .unset, .unset, .unset, .unset, .unset, .unset, .unset, .unset] [])) _
      refine XS.iloadN X26.here hx rfl (hb hby at_221) rfl ?_
      show Steps p.tables e below (T26.setTop (mkF m 222 #[.val (.int p1), .val (.int p2), .val (.int p3), .val (.int p4), .val (.ref bt), .val (.int (0 : Int32)), .val (.int (1 : Int32)), .val (.int (2 : Int32)), .val (.int (3 : Int32)), .val (.ref be), .val (.int (own_rI r)), .val (.int (own_bI rv)), .val (.int (own_o0 r)), .val (.int (own_o1 r rv)), .val (.int (own_o2 r rv)), .val (.ref bo), .val (.int (own_kI kk)), .val (.ref bs), .val (.int (own_bI ff)), .unset, .unset, .unset, .unset, .unset, .unset, .unset, .unset, .unset, .unset] [(.int p3)])) _
      refine XS.iconst X26.here hx rfl (hb hby at_222) ?_
      show Steps p.tables e below (T26.setTop (mkF m 223 #[.val (.int p1), .val (.int p2), .val (.int p3), .val (.int p4), .val (.ref bt), .val (.int (0 : Int32)), .val (.int (1 : Int32)), .val (.int (2 : Int32)), .val (.int (3 : Int32)), .val (.ref be), .val (.int (own_rI r)), .val (.int (own_bI rv)), .val (.int (own_o0 r)), .val (.int (own_o1 r rv)), .val (.int (own_o2 r rv)), .val (.ref bo), .val (.int (own_kI kk)), .val (.ref bs), .val (.int (own_bI ff)), .unset, .unset, .unset, .unset, .unset, .unset, .unset, .unset, .unset, .unset] [(.int (2 : Int32)), (.int p3)])) _
      refine XS.iand X26.here hx rfl (hb hby at_223) rfl ?_
      show Steps p.tables e below (T26.setTop (mkF m 224 #[.val (.int p1), .val (.int p2), .val (.int p3), .val (.int p4), .val (.ref bt), .val (.int (0 : Int32)), .val (.int (1 : Int32)), .val (.int (2 : Int32)), .val (.int (3 : Int32)), .val (.ref be), .val (.int (own_rI r)), .val (.int (own_bI rv)), .val (.int (own_o0 r)), .val (.int (own_o1 r rv)), .val (.int (own_o2 r rv)), .val (.ref bo), .val (.int (own_kI kk)), .val (.ref bs), .val (.int (own_bI ff)), .unset, .unset, .unset, .unset, .unset, .unset, .unset, .unset, .unset, .unset] [(.int (p3 &&& (2 : Int32)))])) _
      refine XS.ifNo X26.here hx rfl (hb hby at_224) rfl ((if0 _ _).trans (feq (h1 : ¬ ((p3 &&& (2 : Int32)) = (0 : Int32)))).1) ?_
      show Steps p.tables e below (T26.setTop (mkF m 227 #[.val (.int p1), .val (.int p2), .val (.int p3), .val (.int p4), .val (.ref bt), .val (.int (0 : Int32)), .val (.int (1 : Int32)), .val (.int (2 : Int32)), .val (.int (3 : Int32)), .val (.ref be), .val (.int (own_rI r)), .val (.int (own_bI rv)), .val (.int (own_o0 r)), .val (.int (own_o1 r rv)), .val (.int (own_o2 r rv)), .val (.ref bo), .val (.int (own_kI kk)), .val (.ref bs), .val (.int (own_bI ff)), .unset, .unset, .unset, .unset, .unset, .unset, .unset, .unset, .unset, .unset] [])) _
      refine XS.iconst X26.here hx rfl (hb hby at_227) ?_
      show Steps p.tables e below (T26.setTop (mkF m 228 #[.val (.int p1), .val (.int p2), .val (.int p3), .val (.int p4), .val (.ref bt), .val (.int (0 : Int32)), .val (.int (1 : Int32)), .val (.int (2 : Int32)), .val (.int (3 : Int32)), .val (.ref be), .val (.int (own_rI r)), .val (.int (own_bI rv)), .val (.int (own_o0 r)), .val (.int (own_o1 r rv)), .val (.int (own_o2 r rv)), .val (.ref bo), .val (.int (own_kI kk)), .val (.ref bs), .val (.int (own_bI ff)), .unset, .unset, .unset, .unset, .unset, .unset, .unset, .unset, .unset, .unset] [(.int (1 : Int32))])) _
      refine XS.goto X26.here hx rfl (pc0 := 228) (pc' := 232) rfl (hb hby at_228) (by decide) (by decide) ?_
      exact k)
  obtain ⟨gg, hbgg⟩ := own_b2 ((p3 &&& (2 : Int32)) = (0 : Int32))
  rw [← h_f2_] at hbgg
  subst hbgg
  obtain ⟨cq31, kq31, q31a, q31b, q31c⟩ := isOf hZ e26 wE6_e26
  obtain ⟨_, _, ⟨T31, L31, k31, n31⟩, -, X31, ⟨Lc31, hQ31, l31, y31, z31⟩, st31⟩ := X26.virtualBack hx (y := (⟨"com/example/reticule/reticule/match/LinkTable", "lineUp", "(I[IIZ)V"⟩ : MethodName)) (z := (⟨"com/example/reticule/reticule/match/LinkTable", "lineUp", "(I[IIZ)V"⟩ : MethodName)) hown (mvT hZ (hw _ (List.mem_of_getElem? (i := 48) rfl))) (mvT hZ (hw _ (List.mem_of_getElem? (i := 49) rfl))) (notFace_of_selects (args := #[]) (mvT hZ (hw _ (List.mem_of_getElem? (i := 51) rfl)))) (mvT hZ (hw _ (List.mem_of_getElem? (i := 51) rfl))) (mvT hZ (hw _ (List.mem_of_getElem? (i := 50) rfl))) (by decide) (backOf (W := 0) (rm9 l Z a0 hw [] bt br bl (4 : Int32) own_X4 bo (1 : Int32) (own_kI kk) (own_bI ff) (own_oL r rv) kk.val (own_X5 r rv kk ff) h26 n0 Z26 ⟨wE6_e26, wR6_e26, wL6_e26, wD6_e26, wU6'_e26, wV6_e26, wW6_e26, g_bt, g_br, g_bl, ne_bt_br, ne_bt_bl, ne_br_bl⟩ V_bo'_e26 (Ne.symm ne_br_bo) (own_kk kk).1 (own_kk kk).2 (own_pX5 r rv kk ff)) hZ (hw _ (List.mem_of_getElem? (i := 52) rfl)) (hw _ (List.mem_of_getElem? (i := 2) rfl)) (by decide) (by decide)) q31a q31c (g := (mkF m 244 #[.val (.int p1), .val (.int p2), .val (.int p3), .val (.int p4), .val (.ref bt), .val (.int (0 : Int32)), .val (.int (1 : Int32)), .val (.int (2 : Int32)), .val (.int (3 : Int32)), .val (.ref be), .val (.int (own_rI r)), .val (.int (own_bI rv)), .val (.int (own_o0 r)), .val (.int (own_o1 r rv)), .val (.int (own_o2 r rv)), .val (.ref bo), .val (.int (own_kI kk)), .val (.ref bs), .val (.int (own_bI ff)), .val (.int (own_bI gg)), .unset, .unset, .unset, .unset, .unset, .unset, .unset, .unset, .unset] [(.int (own_bI ff)), (.int (own_kI kk)), (.ref bo), (.int (1 : Int32)), (.ref bt)])) rfl (by rw [hml]; rfl) (Steps.refl _) (argsL := [(.int (1 : Int32)), (.ref bo), (.int (own_kI kk)), (.int (own_bI ff))]) (rest := []) (lenOf pd_9 rfl) rfl (by show 2 * 0 + _ ≤ _; exact Nat.le_of_eq rfl) (hb hby at_244) (fun _ _ => ⟨rfl, e26, (by decide : 6 + 0 ≤ _), (by decide : 85 + 0 ≤ _)⟩)
  dsimp only [Pt.U, Pt.locs, Pt.cells, Pt.slots] at X31 l31 y31 z31 st31 hQ31
  subst l31 y31 z31
  obtain ⟨rfl, N31q, Kc31, W31⟩ := hQ31
  have N31 := Fr.app N26 N31q
  obtain ⟨wE31, wR31, wL31, wD31, wU31, wV31, wW31, -⟩ := W31
  have V_be'_e31 := V_be'_e26.keep Kc31 (ninS (Ne.symm ne_bt_be) (ninS (Ne.symm ne_br_be) (ninS (Ne.symm ne_bl_be) nin0)))
  have V_bo'_e31 := V_bo'_e26.keep Kc31 (ninS (Ne.symm ne_bt_bo) (ninS (Ne.symm ne_br_bo) (ninS (Ne.symm ne_bl_bo) nin0)))
  have V_bs'_e31 := V_bs'.keep Kc31 (ninS (Ne.symm ne_bt_bs) (ninS (Ne.symm ne_br_bs) (ninS (Ne.symm ne_bl_bs) nin0)))
  have Z31 : n0 ≤ T31.heap.size := Nat.le_trans Z26 Kc31.1
  obtain ⟨cq32, kq32, q32a, q32b, q32c⟩ := isOf hZ rfl wE31
  obtain ⟨_, _, ⟨T32, L32, k32, n32⟩, -, X32, ⟨Lc32, hQ32, l32, y32, z32⟩, st32⟩ := X31.virtualBack hx (y := (⟨"com/example/reticule/reticule/match/LinkTable", "lineUp", "(I[IIZ)V"⟩ : MethodName)) (z := (⟨"com/example/reticule/reticule/match/LinkTable", "lineUp", "(I[IIZ)V"⟩ : MethodName)) hown (mvT hZ (hw _ (List.mem_of_getElem? (i := 48) rfl))) (mvT hZ (hw _ (List.mem_of_getElem? (i := 49) rfl))) (notFace_of_selects (args := #[]) (mvT hZ (hw _ (List.mem_of_getElem? (i := 51) rfl)))) (mvT hZ (hw _ (List.mem_of_getElem? (i := 51) rfl))) (mvT hZ (hw _ (List.mem_of_getElem? (i := 50) rfl))) (by decide) (backOf (W := 0) (rm9 l Z a0 hw [] bt br bl (4 : Int32) (own_X5 r rv kk ff) bs (1 : Int32) ((3 : Int32) - (own_kI kk)) (own_bI gg) (own_tL r rv kk) (3 - kk.val) (own_X6 r rv kk ff gg) T31.heap n0 Z31 ⟨wE31, wR31, wL31, wD31, wU31, wV31, wW31, g_bt, g_br, g_bl, ne_bt_br, ne_bt_bl, ne_br_bl⟩ V_bs'_e31 (Ne.symm ne_br_bs) (own_k3 kk).1 (own_k3 kk).2 (own_pX6 r rv kk ff gg)) hZ (hw _ (List.mem_of_getElem? (i := 52) rfl)) (hw _ (List.mem_of_getElem? (i := 2) rfl)) (by decide) (by decide)) q32a q32c (g := (mkF m 259 #[.val (.int p1), .val (.int p2), .val (.int p3), .val (.int p4), .val (.ref bt), .val (.int (0 : Int32)), .val (.int (1 : Int32)), .val (.int (2 : Int32)), .val (.int (3 : Int32)), .val (.ref be), .val (.int (own_rI r)), .val (.int (own_bI rv)), .val (.int (own_o0 r)), .val (.int (own_o1 r rv)), .val (.int (own_o2 r rv)), .val (.ref bo), .val (.int (own_kI kk)), .val (.ref bs), .val (.int (own_bI ff)), .val (.int (own_bI gg)), .unset, .unset, .unset, .unset, .unset, .unset, .unset, .unset, .unset] [(.int (own_bI gg)), (.int ((3 : Int32) - (own_kI kk))), (.ref bs), (.int (1 : Int32)), (.ref bt)])) rfl (by rw [hml]; rfl) (Steps.refl _) (argsL := [(.int (1 : Int32)), (.ref bs), (.int ((3 : Int32) - (own_kI kk))), (.int (own_bI gg))]) (rest := []) (lenOf pd_9 rfl) rfl (by show 2 * 0 + _ ≤ _; exact Nat.le_of_eq rfl) (hb hby at_259) (fun _ _ => ⟨rfl, rfl, (by decide : 6 + 0 ≤ _), (by decide : 85 + 0 ≤ _)⟩)
  dsimp only [Pt.U, Pt.locs, Pt.cells, Pt.slots] at X32 l32 y32 z32 st32 hQ32
  subst l32 y32 z32
  obtain ⟨rfl, N32q, Kc32, W32⟩ := hQ32
  have N32 := Fr.app N31 N32q
  obtain ⟨wE32, wR32, wL32, wD32, wU32, wV32, wW32, -⟩ := W32
  have V_be'_e32 := V_be'_e31.keep Kc32 (ninS (Ne.symm ne_bt_be) (ninS (Ne.symm ne_br_be) (ninS (Ne.symm ne_bl_be) nin0)))
  have V_bo'_e32 := V_bo'_e31.keep Kc32 (ninS (Ne.symm ne_bt_bo) (ninS (Ne.symm ne_br_bo) (ninS (Ne.symm ne_bl_bo) nin0)))
  have V_bs'_e32 := V_bs'_e31.keep Kc32 (ninS (Ne.symm ne_bt_bs) (ninS (Ne.symm ne_br_bs) (ninS (Ne.symm ne_bl_bs) nin0)))
  have Z32 : n0 ≤ T32.heap.size := Nat.le_trans Z31 Kc32.1
  obtain ⟨cq33, kq33, q33a, q33b, q33c⟩ := isOf hZ rfl wE32
  obtain ⟨_, _, ⟨T33, L33, k33, n33⟩, -, X33, ⟨Lc33, hQ33, l33, y33, z33⟩, st33⟩ := X32.virtualBack hx (y := (⟨"com/example/reticule/reticule/match/LinkTable", "lineUp", "(I[IIZ)V"⟩ : MethodName)) (z := (⟨"com/example/reticule/reticule/match/LinkTable", "lineUp", "(I[IIZ)V"⟩ : MethodName)) hown (mvT hZ (hw _ (List.mem_of_getElem? (i := 48) rfl))) (mvT hZ (hw _ (List.mem_of_getElem? (i := 49) rfl))) (notFace_of_selects (args := #[]) (mvT hZ (hw _ (List.mem_of_getElem? (i := 51) rfl)))) (mvT hZ (hw _ (List.mem_of_getElem? (i := 51) rfl))) (mvT hZ (hw _ (List.mem_of_getElem? (i := 50) rfl))) (by decide) (backOf (W := 0) (rm9 l Z a0 hw [] bt br bl (4 : Int32) (own_X6 r rv kk ff gg) bo (1 : Int32) (0 : Int32) (0 : Int32) (own_oL r rv) 0 (own_X7 r rv kk ff gg) T32.heap n0 Z32 ⟨wE32, wR32, wL32, wD32, wU32, wV32, wW32, g_bt, g_br, g_bl, ne_bt_br, ne_bt_bl, ne_br_bl⟩ V_bo'_e32 (Ne.symm ne_br_bo) (by decide) (by decide) (own_pX7 r rv kk ff gg)) hZ (hw _ (List.mem_of_getElem? (i := 52) rfl)) (hw _ (List.mem_of_getElem? (i := 2) rfl)) (by decide) (by decide)) q33a q33c (g := (mkF m 270 #[.val (.int p1), .val (.int p2), .val (.int p3), .val (.int p4), .val (.ref bt), .val (.int (0 : Int32)), .val (.int (1 : Int32)), .val (.int (2 : Int32)), .val (.int (3 : Int32)), .val (.ref be), .val (.int (own_rI r)), .val (.int (own_bI rv)), .val (.int (own_o0 r)), .val (.int (own_o1 r rv)), .val (.int (own_o2 r rv)), .val (.ref bo), .val (.int (own_kI kk)), .val (.ref bs), .val (.int (own_bI ff)), .val (.int (own_bI gg)), .unset, .unset, .unset, .unset, .unset, .unset, .unset, .unset, .unset] [(.int (0 : Int32)), (.int (0 : Int32)), (.ref bo), (.int (1 : Int32)), (.ref bt)])) rfl (by rw [hml]; rfl) (Steps.refl _) (argsL := [(.int (1 : Int32)), (.ref bo), (.int (0 : Int32)), (.int (0 : Int32))]) (rest := []) (lenOf pd_9 rfl) rfl (by show 2 * 0 + _ ≤ _; exact Nat.le_of_eq rfl) (hb hby at_270) (fun _ _ => ⟨rfl, rfl, (by decide : 6 + 0 ≤ _), (by decide : 85 + 0 ≤ _)⟩)
  dsimp only [Pt.U, Pt.locs, Pt.cells, Pt.slots] at X33 l33 y33 z33 st33 hQ33
  subst l33 y33 z33
  obtain ⟨rfl, N33q, Kc33, W33⟩ := hQ33
  have N33 := Fr.app N32 N33q
  obtain ⟨wE33, wR33, wL33, wD33, wU33, wV33, wW33, -⟩ := W33
  have V_be'_e33 := V_be'_e32.keep Kc33 (ninS (Ne.symm ne_bt_be) (ninS (Ne.symm ne_br_be) (ninS (Ne.symm ne_bl_be) nin0)))
  have V_bo'_e33 := V_bo'_e32.keep Kc33 (ninS (Ne.symm ne_bt_bo) (ninS (Ne.symm ne_br_bo) (ninS (Ne.symm ne_bl_bo) nin0)))
  have V_bs'_e33 := V_bs'_e32.keep Kc33 (ninS (Ne.symm ne_bt_bs) (ninS (Ne.symm ne_br_bs) (ninS (Ne.symm ne_bl_bs) nin0)))
  have Z33 : n0 ≤ T33.heap.size := Nat.le_trans Z32 Kc33.1
  have pre34 : ∀ t, Steps p.tables e below (T33.setTop (mkF m 273 #[.val (.int p1), .val (.int p2), .val (.int p3), .val (.int p4), .val (.ref bt), .val (.int (0 : Int32)), .val (.int (1 : Int32)), .val (.int (2 : Int32)), .val (.int (3 : Int32)), .val (.ref be), .val (.int (own_rI r)), .val (.int (own_bI rv)), .val (.int (own_o0 r)), .val (.int (own_o1 r rv)), .val (.int (own_o2 r rv)), .val (.ref bo), .val (.int (own_kI kk)), .val (.ref bs), .val (.int (own_bI ff)), .val (.int (own_bI gg)), .unset, .unset, .unset, .unset, .unset, .unset, .unset, .unset, .unset] [])) t → Steps p.tables e below (s₁.setTop (entryFrame m #[(.int p1), (.int p2), (.int p3), (.int p4)] maxLocals)) t := fun t k => pre30 t (by
    show Steps p.tables e below (T26.setTop (mkF m 232 #[.val (.int p1), .val (.int p2), .val (.int p3), .val (.int p4), .val (.ref bt), .val (.int (0 : Int32)), .val (.int (1 : Int32)), .val (.int (2 : Int32)), .val (.int (3 : Int32)), .val (.ref be), .val (.int (own_rI r)), .val (.int (own_bI rv)), .val (.int (own_o0 r)), .val (.int (own_o1 r rv)), .val (.int (own_o2 r rv)), .val (.ref bo), .val (.int (own_kI kk)), .val (.ref bs), .val (.int (own_bI ff)), .unset, .unset, .unset, .unset, .unset, .unset, .unset, .unset, .unset, .unset] [(.int (own_bI gg))])) _
    refine XS.istore X26.here hx rfl (hb hby at_232) rfl (l' := #[.val (.int p1), .val (.int p2), .val (.int p3), .val (.int p4), .val (.ref bt), .val (.int (0 : Int32)), .val (.int (1 : Int32)), .val (.int (2 : Int32)), .val (.int (3 : Int32)), .val (.ref be), .val (.int (own_rI r)), .val (.int (own_bI rv)), .val (.int (own_o0 r)), .val (.int (own_o1 r rv)), .val (.int (own_o2 r rv)), .val (.ref bo), .val (.int (own_kI kk)), .val (.ref bs), .val (.int (own_bI ff)), .val (.int (own_bI gg)), .unset, .unset, .unset, .unset, .unset, .unset, .unset, .unset, .unset]) rfl ?_
    show Steps p.tables e below (T26.setTop (mkF m 234 #[.val (.int p1), .val (.int p2), .val (.int p3), .val (.int p4), .val (.ref bt), .val (.int (0 : Int32)), .val (.int (1 : Int32)), .val (.int (2 : Int32)), .val (.int (3 : Int32)), .val (.ref be), .val (.int (own_rI r)), .val (.int (own_bI rv)), .val (.int (own_o0 r)), .val (.int (own_o1 r rv)), .val (.int (own_o2 r rv)), .val (.ref bo), .val (.int (own_kI kk)), .val (.ref bs), .val (.int (own_bI ff)), .val (.int (own_bI gg)), .unset, .unset, .unset, .unset, .unset, .unset, .unset, .unset, .unset] [])) _
    refine XS.aload X26.here hx rfl (hb hby at_234) rfl rfl ?_
    show Steps p.tables e below (T26.setTop (mkF m 236 #[.val (.int p1), .val (.int p2), .val (.int p3), .val (.int p4), .val (.ref bt), .val (.int (0 : Int32)), .val (.int (1 : Int32)), .val (.int (2 : Int32)), .val (.int (3 : Int32)), .val (.ref be), .val (.int (own_rI r)), .val (.int (own_bI rv)), .val (.int (own_o0 r)), .val (.int (own_o1 r rv)), .val (.int (own_o2 r rv)), .val (.ref bo), .val (.int (own_kI kk)), .val (.ref bs), .val (.int (own_bI ff)), .val (.int (own_bI gg)), .unset, .unset, .unset, .unset, .unset, .unset, .unset, .unset, .unset] [(.ref bt)])) _
    refine XS.iload X26.here hx rfl (hb hby at_236) rfl ?_
    show Steps p.tables e below (T26.setTop (mkF m 238 #[.val (.int p1), .val (.int p2), .val (.int p3), .val (.int p4), .val (.ref bt), .val (.int (0 : Int32)), .val (.int (1 : Int32)), .val (.int (2 : Int32)), .val (.int (3 : Int32)), .val (.ref be), .val (.int (own_rI r)), .val (.int (own_bI rv)), .val (.int (own_o0 r)), .val (.int (own_o1 r rv)), .val (.int (own_o2 r rv)), .val (.ref bo), .val (.int (own_kI kk)), .val (.ref bs), .val (.int (own_bI ff)), .val (.int (own_bI gg)), .unset, .unset, .unset, .unset, .unset, .unset, .unset, .unset, .unset] [(.int (1 : Int32)), (.ref bt)])) _
    refine XS.aload X26.here hx rfl (hb hby at_238) rfl rfl ?_
    show Steps p.tables e below (T26.setTop (mkF m 240 #[.val (.int p1), .val (.int p2), .val (.int p3), .val (.int p4), .val (.ref bt), .val (.int (0 : Int32)), .val (.int (1 : Int32)), .val (.int (2 : Int32)), .val (.int (3 : Int32)), .val (.ref be), .val (.int (own_rI r)), .val (.int (own_bI rv)), .val (.int (own_o0 r)), .val (.int (own_o1 r rv)), .val (.int (own_o2 r rv)), .val (.ref bo), .val (.int (own_kI kk)), .val (.ref bs), .val (.int (own_bI ff)), .val (.int (own_bI gg)), .unset, .unset, .unset, .unset, .unset, .unset, .unset, .unset, .unset] [(.ref bo), (.int (1 : Int32)), (.ref bt)])) _
    refine XS.iload X26.here hx rfl (hb hby at_240) rfl ?_
    show Steps p.tables e below (T26.setTop (mkF m 242 #[.val (.int p1), .val (.int p2), .val (.int p3), .val (.int p4), .val (.ref bt), .val (.int (0 : Int32)), .val (.int (1 : Int32)), .val (.int (2 : Int32)), .val (.int (3 : Int32)), .val (.ref be), .val (.int (own_rI r)), .val (.int (own_bI rv)), .val (.int (own_o0 r)), .val (.int (own_o1 r rv)), .val (.int (own_o2 r rv)), .val (.ref bo), .val (.int (own_kI kk)), .val (.ref bs), .val (.int (own_bI ff)), .val (.int (own_bI gg)), .unset, .unset, .unset, .unset, .unset, .unset, .unset, .unset, .unset] [(.int (own_kI kk)), (.ref bo), (.int (1 : Int32)), (.ref bt)])) _
    refine XS.iload X26.here hx rfl (hb hby at_242) rfl ?_
    show Steps p.tables e below (T26.setTop (mkF m 244 #[.val (.int p1), .val (.int p2), .val (.int p3), .val (.int p4), .val (.ref bt), .val (.int (0 : Int32)), .val (.int (1 : Int32)), .val (.int (2 : Int32)), .val (.int (3 : Int32)), .val (.ref be), .val (.int (own_rI r)), .val (.int (own_bI rv)), .val (.int (own_o0 r)), .val (.int (own_o1 r rv)), .val (.int (own_o2 r rv)), .val (.ref bo), .val (.int (own_kI kk)), .val (.ref bs), .val (.int (own_bI ff)), .val (.int (own_bI gg)), .unset, .unset, .unset, .unset, .unset, .unset, .unset, .unset, .unset] [(.int (own_bI ff)), (.int (own_kI kk)), (.ref bo), (.int (1 : Int32)), (.ref bt)])) _
    refine st31.trans ?_
    show Steps p.tables e below (T31.setTop (mkF m 247 #[.val (.int p1), .val (.int p2), .val (.int p3), .val (.int p4), .val (.ref bt), .val (.int (0 : Int32)), .val (.int (1 : Int32)), .val (.int (2 : Int32)), .val (.int (3 : Int32)), .val (.ref be), .val (.int (own_rI r)), .val (.int (own_bI rv)), .val (.int (own_o0 r)), .val (.int (own_o1 r rv)), .val (.int (own_o2 r rv)), .val (.ref bo), .val (.int (own_kI kk)), .val (.ref bs), .val (.int (own_bI ff)), .val (.int (own_bI gg)), .unset, .unset, .unset, .unset, .unset, .unset, .unset, .unset, .unset] [])) _
    refine XS.aload X31.here hx rfl (hb hby at_247) rfl rfl ?_
    show Steps p.tables e below (T31.setTop (mkF m 249 #[.val (.int p1), .val (.int p2), .val (.int p3), .val (.int p4), .val (.ref bt), .val (.int (0 : Int32)), .val (.int (1 : Int32)), .val (.int (2 : Int32)), .val (.int (3 : Int32)), .val (.ref be), .val (.int (own_rI r)), .val (.int (own_bI rv)), .val (.int (own_o0 r)), .val (.int (own_o1 r rv)), .val (.int (own_o2 r rv)), .val (.ref bo), .val (.int (own_kI kk)), .val (.ref bs), .val (.int (own_bI ff)), .val (.int (own_bI gg)), .unset, .unset, .unset, .unset, .unset, .unset, .unset, .unset, .unset] [(.ref bt)])) _
    refine XS.iload X31.here hx rfl (hb hby at_249) rfl ?_
    show Steps p.tables e below (T31.setTop (mkF m 251 #[.val (.int p1), .val (.int p2), .val (.int p3), .val (.int p4), .val (.ref bt), .val (.int (0 : Int32)), .val (.int (1 : Int32)), .val (.int (2 : Int32)), .val (.int (3 : Int32)), .val (.ref be), .val (.int (own_rI r)), .val (.int (own_bI rv)), .val (.int (own_o0 r)), .val (.int (own_o1 r rv)), .val (.int (own_o2 r rv)), .val (.ref bo), .val (.int (own_kI kk)), .val (.ref bs), .val (.int (own_bI ff)), .val (.int (own_bI gg)), .unset, .unset, .unset, .unset, .unset, .unset, .unset, .unset, .unset] [(.int (1 : Int32)), (.ref bt)])) _
    refine XS.aload X31.here hx rfl (hb hby at_251) rfl rfl ?_
    show Steps p.tables e below (T31.setTop (mkF m 253 #[.val (.int p1), .val (.int p2), .val (.int p3), .val (.int p4), .val (.ref bt), .val (.int (0 : Int32)), .val (.int (1 : Int32)), .val (.int (2 : Int32)), .val (.int (3 : Int32)), .val (.ref be), .val (.int (own_rI r)), .val (.int (own_bI rv)), .val (.int (own_o0 r)), .val (.int (own_o1 r rv)), .val (.int (own_o2 r rv)), .val (.ref bo), .val (.int (own_kI kk)), .val (.ref bs), .val (.int (own_bI ff)), .val (.int (own_bI gg)), .unset, .unset, .unset, .unset, .unset, .unset, .unset, .unset, .unset] [(.ref bs), (.int (1 : Int32)), (.ref bt)])) _
    refine XS.iconst X31.here hx rfl (hb hby at_253) ?_
    show Steps p.tables e below (T31.setTop (mkF m 254 #[.val (.int p1), .val (.int p2), .val (.int p3), .val (.int p4), .val (.ref bt), .val (.int (0 : Int32)), .val (.int (1 : Int32)), .val (.int (2 : Int32)), .val (.int (3 : Int32)), .val (.ref be), .val (.int (own_rI r)), .val (.int (own_bI rv)), .val (.int (own_o0 r)), .val (.int (own_o1 r rv)), .val (.int (own_o2 r rv)), .val (.ref bo), .val (.int (own_kI kk)), .val (.ref bs), .val (.int (own_bI ff)), .val (.int (own_bI gg)), .unset, .unset, .unset, .unset, .unset, .unset, .unset, .unset, .unset] [(.int (3 : Int32)), (.ref bs), (.int (1 : Int32)), (.ref bt)])) _
    refine XS.iload X31.here hx rfl (hb hby at_254) rfl ?_
    show Steps p.tables e below (T31.setTop (mkF m 256 #[.val (.int p1), .val (.int p2), .val (.int p3), .val (.int p4), .val (.ref bt), .val (.int (0 : Int32)), .val (.int (1 : Int32)), .val (.int (2 : Int32)), .val (.int (3 : Int32)), .val (.ref be), .val (.int (own_rI r)), .val (.int (own_bI rv)), .val (.int (own_o0 r)), .val (.int (own_o1 r rv)), .val (.int (own_o2 r rv)), .val (.ref bo), .val (.int (own_kI kk)), .val (.ref bs), .val (.int (own_bI ff)), .val (.int (own_bI gg)), .unset, .unset, .unset, .unset, .unset, .unset, .unset, .unset, .unset] [(.int (own_kI kk)), (.int (3 : Int32)), (.ref bs), (.int (1 : Int32)), (.ref bt)])) _
    refine XS.isub X31.here hx rfl (hb hby at_256) rfl ?_
    show Steps p.tables e below (T31.setTop (mkF m 257 #[.val (.int p1), .val (.int p2), .val (.int p3), .val (.int p4), .val (.ref bt), .val (.int (0 : Int32)), .val (.int (1 : Int32)), .val (.int (2 : Int32)), .val (.int (3 : Int32)), .val (.ref be), .val (.int (own_rI r)), .val (.int (own_bI rv)), .val (.int (own_o0 r)), .val (.int (own_o1 r rv)), .val (.int (own_o2 r rv)), .val (.ref bo), .val (.int (own_kI kk)), .val (.ref bs), .val (.int (own_bI ff)), .val (.int (own_bI gg)), .unset, .unset, .unset, .unset, .unset, .unset, .unset, .unset, .unset] [(.int ((3 : Int32) - (own_kI kk))), (.ref bs), (.int (1 : Int32)), (.ref bt)])) _
    refine XS.iload X31.here hx rfl (hb hby at_257) rfl ?_
    show Steps p.tables e below (T31.setTop (mkF m 259 #[.val (.int p1), .val (.int p2), .val (.int p3), .val (.int p4), .val (.ref bt), .val (.int (0 : Int32)), .val (.int (1 : Int32)), .val (.int (2 : Int32)), .val (.int (3 : Int32)), .val (.ref be), .val (.int (own_rI r)), .val (.int (own_bI rv)), .val (.int (own_o0 r)), .val (.int (own_o1 r rv)), .val (.int (own_o2 r rv)), .val (.ref bo), .val (.int (own_kI kk)), .val (.ref bs), .val (.int (own_bI ff)), .val (.int (own_bI gg)), .unset, .unset, .unset, .unset, .unset, .unset, .unset, .unset, .unset] [(.int (own_bI gg)), (.int ((3 : Int32) - (own_kI kk))), (.ref bs), (.int (1 : Int32)), (.ref bt)])) _
    refine st32.trans ?_
    show Steps p.tables e below (T32.setTop (mkF m 262 #[.val (.int p1), .val (.int p2), .val (.int p3), .val (.int p4), .val (.ref bt), .val (.int (0 : Int32)), .val (.int (1 : Int32)), .val (.int (2 : Int32)), .val (.int (3 : Int32)), .val (.ref be), .val (.int (own_rI r)), .val (.int (own_bI rv)), .val (.int (own_o0 r)), .val (.int (own_o1 r rv)), .val (.int (own_o2 r rv)), .val (.ref bo), .val (.int (own_kI kk)), .val (.ref bs), .val (.int (own_bI ff)), .val (.int (own_bI gg)), .unset, .unset, .unset, .unset, .unset, .unset, .unset, .unset, .unset] [])) _
    refine XS.aload X32.here hx rfl (hb hby at_262) rfl rfl ?_
    show Steps p.tables e below (T32.setTop (mkF m 264 #[.val (.int p1), .val (.int p2), .val (.int p3), .val (.int p4), .val (.ref bt), .val (.int (0 : Int32)), .val (.int (1 : Int32)), .val (.int (2 : Int32)), .val (.int (3 : Int32)), .val (.ref be), .val (.int (own_rI r)), .val (.int (own_bI rv)), .val (.int (own_o0 r)), .val (.int (own_o1 r rv)), .val (.int (own_o2 r rv)), .val (.ref bo), .val (.int (own_kI kk)), .val (.ref bs), .val (.int (own_bI ff)), .val (.int (own_bI gg)), .unset, .unset, .unset, .unset, .unset, .unset, .unset, .unset, .unset] [(.ref bt)])) _
    refine XS.iload X32.here hx rfl (hb hby at_264) rfl ?_
    show Steps p.tables e below (T32.setTop (mkF m 266 #[.val (.int p1), .val (.int p2), .val (.int p3), .val (.int p4), .val (.ref bt), .val (.int (0 : Int32)), .val (.int (1 : Int32)), .val (.int (2 : Int32)), .val (.int (3 : Int32)), .val (.ref be), .val (.int (own_rI r)), .val (.int (own_bI rv)), .val (.int (own_o0 r)), .val (.int (own_o1 r rv)), .val (.int (own_o2 r rv)), .val (.ref bo), .val (.int (own_kI kk)), .val (.ref bs), .val (.int (own_bI ff)), .val (.int (own_bI gg)), .unset, .unset, .unset, .unset, .unset, .unset, .unset, .unset, .unset] [(.int (1 : Int32)), (.ref bt)])) _
    refine XS.aload X32.here hx rfl (hb hby at_266) rfl rfl ?_
    show Steps p.tables e below (T32.setTop (mkF m 268 #[.val (.int p1), .val (.int p2), .val (.int p3), .val (.int p4), .val (.ref bt), .val (.int (0 : Int32)), .val (.int (1 : Int32)), .val (.int (2 : Int32)), .val (.int (3 : Int32)), .val (.ref be), .val (.int (own_rI r)), .val (.int (own_bI rv)), .val (.int (own_o0 r)), .val (.int (own_o1 r rv)), .val (.int (own_o2 r rv)), .val (.ref bo), .val (.int (own_kI kk)), .val (.ref bs), .val (.int (own_bI ff)), .val (.int (own_bI gg)), .unset, .unset, .unset, .unset, .unset, .unset, .unset, .unset, .unset] [(.ref bo), (.int (1 : Int32)), (.ref bt)])) _
    refine XS.iconst X32.here hx rfl (hb hby at_268) ?_
    show Steps p.tables e below (T32.setTop (mkF m 269 #[.val (.int p1), .val (.int p2), .val (.int p3), .val (.int p4), .val (.ref bt), .val (.int (0 : Int32)), .val (.int (1 : Int32)), .val (.int (2 : Int32)), .val (.int (3 : Int32)), .val (.ref be), .val (.int (own_rI r)), .val (.int (own_bI rv)), .val (.int (own_o0 r)), .val (.int (own_o1 r rv)), .val (.int (own_o2 r rv)), .val (.ref bo), .val (.int (own_kI kk)), .val (.ref bs), .val (.int (own_bI ff)), .val (.int (own_bI gg)), .unset, .unset, .unset, .unset, .unset, .unset, .unset, .unset, .unset] [(.int (0 : Int32)), (.ref bo), (.int (1 : Int32)), (.ref bt)])) _
    refine XS.iconst X32.here hx rfl (hb hby at_269) ?_
    show Steps p.tables e below (T32.setTop (mkF m 270 #[.val (.int p1), .val (.int p2), .val (.int p3), .val (.int p4), .val (.ref bt), .val (.int (0 : Int32)), .val (.int (1 : Int32)), .val (.int (2 : Int32)), .val (.int (3 : Int32)), .val (.ref be), .val (.int (own_rI r)), .val (.int (own_bI rv)), .val (.int (own_o0 r)), .val (.int (own_o1 r rv)), .val (.int (own_o2 r rv)), .val (.ref bo), .val (.int (own_kI kk)), .val (.ref bs), .val (.int (own_bI ff)), .val (.int (own_bI gg)), .unset, .unset, .unset, .unset, .unset, .unset, .unset, .unset, .unset] [(.int (0 : Int32)), (.int (0 : Int32)), (.ref bo), (.int (1 : Int32)), (.ref bt)])) _
    refine st33.trans ?_
    exact k)
  have pre35 : ∀ t, Steps p.tables e below (T33.setTop (mkF m 273 #[.val (.int p1), .val (.int p2), .val (.int p3), .val (.int p4), .val (.ref bt), .val (.int (0 : Int32)), .val (.int (1 : Int32)), .val (.int (2 : Int32)), .val (.int (3 : Int32)), .val (.ref be), .val (.int (own_rI r)), .val (.int (own_bI rv)), .val (.int (own_o0 r)), .val (.int (own_o1 r rv)), .val (.int (own_o2 r rv)), .val (.ref bo), .val (.int (own_kI kk)), .val (.ref bs), .val (.int (own_bI ff)), .val (.int (own_bI gg)), .unset, .unset, .unset, .unset, .unset, .unset, .unset, .unset, .unset] [])) t → Steps p.tables e below (s₁.setTop (entryFrame m #[(.int p1), (.int p2), (.int p3), (.int p4)] maxLocals)) t := fun t k => pre34 t (by
    exact k)
  obtain ⟨ss0, h_ss0⟩ : ∃ z : Int32, z = own_s0 r rv kk gg := ⟨_, rfl⟩
  have pre36 : ∀ t, Steps p.tables e below (T33.setTop (mkF m 287 #[.val (.int p1), .val (.int p2), .val (.int p3), .val (.int p4), .val (.ref bt), .val (.int (0 : Int32)), .val (.int (1 : Int32)), .val (.int (2 : Int32)), .val (.int (3 : Int32)), .val (.ref be), .val (.int (own_rI r)), .val (.int (own_bI rv)), .val (.int (own_o0 r)), .val (.int (own_o1 r rv)), .val (.int (own_o2 r rv)), .val (.ref bo), .val (.int (own_kI kk)), .val (.ref bs), .val (.int (own_bI ff)), .val (.int (own_bI gg)), .unset, .unset, .unset, .unset, .unset, .unset, .unset, .unset, .unset] [(.int ss0)])) t → Steps p.tables e below (s₁.setTop (entryFrame m #[(.int p1), (.int p2), (.int p3), (.int p4)] maxLocals)) t := fun t k => pre35 t (by
    by_cases h1 : own_bI gg = (0 : Int32)
    · have ev := own_bz h1
      have ev_ss0 : ss0 = (own_o0 r) := h_ss0.trans (by rw [ev]; rfl)
      rw [ev_ss0] at k
      show Steps p.tables e below (T33.setTop (mkF m 273 #[.val (.int p1), .val (.int p2), .val (.int p3), .val (.int p4), .val (.ref bt), .val (.int (0 : Int32)), .val (.int (1 : Int32)), .val (.int (2 : Int32)), .val (.int (3 : Int32)), .val (.ref be), .val (.int (own_rI r)), .val (.int (own_bI rv)), .val (.int (own_o0 r)), .val (.int (own_o1 r rv)), .val (.int (own_o2 r rv)), .val (.ref bo), .val (.int (own_kI kk)), .val (.ref bs), .val (.int (own_bI ff)), .val (.int (own_bI gg)), .unset, .unset, .unset, .unset, .unset, .unset, .unset, .unset, .unset] [])) _
      refine XS.iload X33.here hx rfl (hb hby at_273) rfl ?_
      show Steps p.tables e below (T33.setTop (mkF m 275 #[.val (.int p1), .val (.int p2), .val (.int p3), .val (.int p4), .val (.ref bt), .val (.int (0 : Int32)), .val (.int (1 : Int32)), .val (.int (2 : Int32)), .val (.int (3 : Int32)), .val (.ref be), .val (.int (own_rI r)), .val (.int (own_bI rv)), .val (.int (own_o0 r)), .val (.int (own_o1 r rv)), .val (.int (own_o2 r rv)), .val (.ref bo), .val (.int (own_kI kk)), .val (.ref bs), .val (.int (own_bI ff)), .val (.int (own_bI gg)), .unset, .unset, .unset, .unset, .unset, .unset, .unset, .unset, .unset] [(.int (own_bI gg))])) _
      refine XS.ifYes X33.here hx rfl (pc0 := 275) (pc' := 285) rfl (hb hby at_275) rfl ((if0 _ _).trans (teq (h1 : (own_bI gg) = (0 : Int32))).1) (by decide) (by decide) ?_
      show Steps p.tables e below (T33.setTop (mkF m 285 #[.val (.int p1), .val (.int p2), .val (.int p3), .val (.int p4), .val (.ref bt), .val (.int (0 : Int32)), .val (.int (1 : Int32)), .val (.int (2 : Int32)), .val (.int (3 : Int32)), .val (.ref be), .val (.int (own_rI r)), .val (.int (own_bI rv)), .val (.int (own_o0 r)), .val (.int (own_o1 r rv)), .val (.int (own_o2 r rv)), .val (.ref bo), .val (.int (own_kI kk)), .val (.ref bs), .val (.int (own_bI ff)), .val (.int (own_bI gg)), .unset, .unset, .unset, .unset, .unset, .unset, .unset, .unset, .unset] [])) _
      refine XS.iload X33.here hx rfl (hb hby at_285) rfl ?_
      exact k
    · have ev := own_bn h1
      have ev_ss0 : ss0 = (own_t0 r rv kk) := h_ss0.trans (by rw [ev]; rfl)
      rw [ev_ss0] at k
      show Steps p.tables e below (T33.setTop (mkF m 273 #[.val (.int p1), .val (.int p2), .val (.int p3), .val (.int p4), .val (.ref bt), .val (.int (0 : Int32)), .val (.int (1 : Int32)), .val (.int (2 : Int32)), .val (.int (3 : Int32)), .val (.ref be), .val (.int (own_rI r)), .val (.int (own_bI rv)), .val (.int (own_o0 r)), .val (.int (own_o1 r rv)), .val (.int (own_o2 r rv)), .val (.ref bo), .val (.int (own_kI kk)), .val (.ref bs), .val (.int (own_bI ff)), .val (.int (own_bI gg)), .unset, .unset, .unset, .unset, .unset, .unset, .unset, .unset, .unset] [])) _
      refine XS.iload X33.here hx rfl (hb hby at_273) rfl ?_
      show Steps p.tables e below (T33.setTop (mkF m 275 #[.val (.int p1), .val (.int p2), .val (.int p3), .val (.int p4), .val (.ref bt), .val (.int (0 : Int32)), .val (.int (1 : Int32)), .val (.int (2 : Int32)), .val (.int (3 : Int32)), .val (.ref be), .val (.int (own_rI r)), .val (.int (own_bI rv)), .val (.int (own_o0 r)), .val (.int (own_o1 r rv)), .val (.int (own_o2 r rv)), .val (.ref bo), .val (.int (own_kI kk)), .val (.ref bs), .val (.int (own_bI ff)), .val (.int (own_bI gg)), .unset, .unset, .unset, .unset, .unset, .unset, .unset, .unset, .unset] [(.int (own_bI gg))])) _
      refine XS.ifNo X33.here hx rfl (hb hby at_275) rfl ((if0 _ _).trans (feq (h1 : ¬ ((own_bI gg) = (0 : Int32)))).1) ?_
      show Steps p.tables e below (T33.setTop (mkF m 278 #[.val (.int p1), .val (.int p2), .val (.int p3), .val (.int p4), .val (.ref bt), .val (.int (0 : Int32)), .val (.int (1 : Int32)), .val (.int (2 : Int32)), .val (.int (3 : Int32)), .val (.ref be), .val (.int (own_rI r)), .val (.int (own_bI rv)), .val (.int (own_o0 r)), .val (.int (own_o1 r rv)), .val (.int (own_o2 r rv)), .val (.ref bo), .val (.int (own_kI kk)), .val (.ref bs), .val (.int (own_bI ff)), .val (.int (own_bI gg)), .unset, .unset, .unset, .unset, .unset, .unset, .unset, .unset, .unset] [])) _
      refine XS.aload X33.here hx rfl (hb hby at_278) rfl rfl ?_
      show Steps p.tables e below (T33.setTop (mkF m 280 #[.val (.int p1), .val (.int p2), .val (.int p3), .val (.int p4), .val (.ref bt), .val (.int (0 : Int32)), .val (.int (1 : Int32)), .val (.int (2 : Int32)), .val (.int (3 : Int32)), .val (.ref be), .val (.int (own_rI r)), .val (.int (own_bI rv)), .val (.int (own_o0 r)), .val (.int (own_o1 r rv)), .val (.int (own_o2 r rv)), .val (.ref bo), .val (.int (own_kI kk)), .val (.ref bs), .val (.int (own_bI ff)), .val (.int (own_bI gg)), .unset, .unset, .unset, .unset, .unset, .unset, .unset, .unset, .unset] [(.ref bs)])) _
      refine XS.iconst X33.here hx rfl (hb hby at_280) ?_
      show Steps p.tables e below (T33.setTop (mkF m 281 #[.val (.int p1), .val (.int p2), .val (.int p3), .val (.int p4), .val (.ref bt), .val (.int (0 : Int32)), .val (.int (1 : Int32)), .val (.int (2 : Int32)), .val (.int (3 : Int32)), .val (.ref be), .val (.int (own_rI r)), .val (.int (own_bI rv)), .val (.int (own_o0 r)), .val (.int (own_o1 r rv)), .val (.int (own_o2 r rv)), .val (.ref bo), .val (.int (own_kI kk)), .val (.ref bs), .val (.int (own_bI ff)), .val (.int (own_bI gg)), .unset, .unset, .unset, .unset, .unset, .unset, .unset, .unset, .unset] [(.int (0 : Int32)), (.ref bs)])) _
      refine own_ldI X33 hx hZ rfl V_bs'_e33 (x := (own_t0 r rv kk)) (by decide) rfl (g := (mkF m 281 #[.val (.int p1), .val (.int p2), .val (.int p3), .val (.int p4), .val (.ref bt), .val (.int (0 : Int32)), .val (.int (1 : Int32)), .val (.int (2 : Int32)), .val (.int (3 : Int32)), .val (.ref be), .val (.int (own_rI r)), .val (.int (own_bI rv)), .val (.int (own_o0 r)), .val (.int (own_o1 r rv)), .val (.int (own_o2 r rv)), .val (.ref bo), .val (.int (own_kI kk)), .val (.ref bs), .val (.int (own_bI ff)), .val (.int (own_bI gg)), .unset, .unset, .unset, .unset, .unset, .unset, .unset, .unset, .unset] [(.int (0 : Int32)), (.ref bs)])) rfl rfl (hb hby at_281) _ ?_
      show Steps p.tables e below (T33.setTop (mkF m 282 #[.val (.int p1), .val (.int p2), .val (.int p3), .val (.int p4), .val (.ref bt), .val (.int (0 : Int32)), .val (.int (1 : Int32)), .val (.int (2 : Int32)), .val (.int (3 : Int32)), .val (.ref be), .val (.int (own_rI r)), .val (.int (own_bI rv)), .val (.int (own_o0 r)), .val (.int (own_o1 r rv)), .val (.int (own_o2 r rv)), .val (.ref bo), .val (.int (own_kI kk)), .val (.ref bs), .val (.int (own_bI ff)), .val (.int (own_bI gg)), .unset, .unset, .unset, .unset, .unset, .unset, .unset, .unset, .unset] [(.int (own_t0 r rv kk))])) _
      refine XS.goto X33.here hx rfl (pc0 := 282) (pc' := 287) rfl (hb hby at_282) (by decide) (by decide) ?_
      exact k)
  have pre37 : ∀ t, Steps p.tables e below (T33.setTop (mkF m 289 #[.val (.int p1), .val (.int p2), .val (.int p3), .val (.int p4), .val (.ref bt), .val (.int (0 : Int32)), .val (.int (1 : Int32)), .val (.int (2 : Int32)), .val (.int (3 : Int32)), .val (.ref be), .val (.int (own_rI r)), .val (.int (own_bI rv)), .val (.int (own_o0 r)), .val (.int (own_o1 r rv)), .val (.int (own_o2 r rv)), .val (.ref bo), .val (.int (own_kI kk)), .val (.ref bs), .val (.int (own_bI ff)), .val (.int (own_bI gg)), .val (.int ss0), .unset, .unset, .unset, .unset, .unset, .unset, .unset, .unset] [])) t → Steps p.tables e below (s₁.setTop (entryFrame m #[(.int p1), (.int p2), (.int p3), (.int p4)] maxLocals)) t := fun t k => pre36 t (by
    show Steps p.tables e below (T33.setTop (mkF m 287 #[.val (.int p1), .val (.int p2), .val (.int p3), .val (.int p4), .val (.ref bt), .val (.int (0 : Int32)), .val (.int (1 : Int32)), .val (.int (2 : Int32)), .val (.int (3 : Int32)), .val (.ref be), .val (.int (own_rI r)), .val (.int (own_bI rv)), .val (.int (own_o0 r)), .val (.int (own_o1 r rv)), .val (.int (own_o2 r rv)), .val (.ref bo), .val (.int (own_kI kk)), .val (.ref bs), .val (.int (own_bI ff)), .val (.int (own_bI gg)), .unset, .unset, .unset, .unset, .unset, .unset, .unset, .unset, .unset] [(.int ss0)])) _
    refine XS.istore X33.here hx rfl (hb hby at_287) rfl (l' := #[.val (.int p1), .val (.int p2), .val (.int p3), .val (.int p4), .val (.ref bt), .val (.int (0 : Int32)), .val (.int (1 : Int32)), .val (.int (2 : Int32)), .val (.int (3 : Int32)), .val (.ref be), .val (.int (own_rI r)), .val (.int (own_bI rv)), .val (.int (own_o0 r)), .val (.int (own_o1 r rv)), .val (.int (own_o2 r rv)), .val (.ref bo), .val (.int (own_kI kk)), .val (.ref bs), .val (.int (own_bI ff)), .val (.int (own_bI gg)), .val (.int ss0), .unset, .unset, .unset, .unset, .unset, .unset, .unset, .unset]) rfl ?_
    exact k)
  obtain ⟨ss1, h_ss1⟩ : ∃ z : Int32, z = own_s1 r rv kk gg := ⟨_, rfl⟩
  have pre38 : ∀ t, Steps p.tables e below (T33.setTop (mkF m 303 #[.val (.int p1), .val (.int p2), .val (.int p3), .val (.int p4), .val (.ref bt), .val (.int (0 : Int32)), .val (.int (1 : Int32)), .val (.int (2 : Int32)), .val (.int (3 : Int32)), .val (.ref be), .val (.int (own_rI r)), .val (.int (own_bI rv)), .val (.int (own_o0 r)), .val (.int (own_o1 r rv)), .val (.int (own_o2 r rv)), .val (.ref bo), .val (.int (own_kI kk)), .val (.ref bs), .val (.int (own_bI ff)), .val (.int (own_bI gg)), .val (.int ss0), .unset, .unset, .unset, .unset, .unset, .unset, .unset, .unset] [(.int ss1)])) t → Steps p.tables e below (s₁.setTop (entryFrame m #[(.int p1), (.int p2), (.int p3), (.int p4)] maxLocals)) t := fun t k => pre37 t (by
    by_cases h1 : own_bI gg = (0 : Int32)
    · have ev := own_bz h1
      have ev_ss1 : ss1 = (own_o1 r rv) := h_ss1.trans (by rw [ev]; rfl)
      rw [ev_ss1] at k
      show Steps p.tables e below (T33.setTop (mkF m 289 #[.val (.int p1), .val (.int p2), .val (.int p3), .val (.int p4), .val (.ref bt), .val (.int (0 : Int32)), .val (.int (1 : Int32)), .val (.int (2 : Int32)), .val (.int (3 : Int32)), .val (.ref be), .val (.int (own_rI r)), .val (.int (own_bI rv)), .val (.int (own_o0 r)), .val (.int (own_o1 r rv)), .val (.int (own_o2 r rv)), .val (.ref bo), .val (.int (own_kI kk)), .val (.ref bs), .val (.int (own_bI ff)), .val (.int (own_bI gg)), .val (.int ss0), .unset, .unset, .unset, .unset, .unset, .unset, .unset, .unset] [])) _
      refine XS.iload X33.here hx rfl (hb hby at_289) rfl ?_
      show Steps p.tables e below (T33.setTop (mkF m 291 #[.val (.int p1), .val (.int p2), .val (.int p3), .val (.int p4), .val (.ref bt), .val (.int (0 : Int32)), .val (.int (1 : Int32)), .val (.int (2 : Int32)), .val (.int (3 : Int32)), .val (.ref be), .val (.int (own_rI r)), .val (.int (own_bI rv)), .val (.int (own_o0 r)), .val (.int (own_o1 r rv)), .val (.int (own_o2 r rv)), .val (.ref bo), .val (.int (own_kI kk)), .val (.ref bs), .val (.int (own_bI ff)), .val (.int (own_bI gg)), .val (.int ss0), .unset, .unset, .unset, .unset, .unset, .unset, .unset, .unset] [(.int (own_bI gg))])) _
      refine XS.ifYes X33.here hx rfl (pc0 := 291) (pc' := 301) rfl (hb hby at_291) rfl ((if0 _ _).trans (teq (h1 : (own_bI gg) = (0 : Int32))).1) (by decide) (by decide) ?_
      show Steps p.tables e below (T33.setTop (mkF m 301 #[.val (.int p1), .val (.int p2), .val (.int p3), .val (.int p4), .val (.ref bt), .val (.int (0 : Int32)), .val (.int (1 : Int32)), .val (.int (2 : Int32)), .val (.int (3 : Int32)), .val (.ref be), .val (.int (own_rI r)), .val (.int (own_bI rv)), .val (.int (own_o0 r)), .val (.int (own_o1 r rv)), .val (.int (own_o2 r rv)), .val (.ref bo), .val (.int (own_kI kk)), .val (.ref bs), .val (.int (own_bI ff)), .val (.int (own_bI gg)), .val (.int ss0), .unset, .unset, .unset, .unset, .unset, .unset, .unset, .unset] [])) _
      refine XS.iload X33.here hx rfl (hb hby at_301) rfl ?_
      exact k
    · have ev := own_bn h1
      have ev_ss1 : ss1 = (own_t1 r rv kk) := h_ss1.trans (by rw [ev]; rfl)
      rw [ev_ss1] at k
      show Steps p.tables e below (T33.setTop (mkF m 289 #[.val (.int p1), .val (.int p2), .val (.int p3), .val (.int p4), .val (.ref bt), .val (.int (0 : Int32)), .val (.int (1 : Int32)), .val (.int (2 : Int32)), .val (.int (3 : Int32)), .val (.ref be), .val (.int (own_rI r)), .val (.int (own_bI rv)), .val (.int (own_o0 r)), .val (.int (own_o1 r rv)), .val (.int (own_o2 r rv)), .val (.ref bo), .val (.int (own_kI kk)), .val (.ref bs), .val (.int (own_bI ff)), .val (.int (own_bI gg)), .val (.int ss0), .unset, .unset, .unset, .unset, .unset, .unset, .unset, .unset] [])) _
      refine XS.iload X33.here hx rfl (hb hby at_289) rfl ?_
      show Steps p.tables e below (T33.setTop (mkF m 291 #[.val (.int p1), .val (.int p2), .val (.int p3), .val (.int p4), .val (.ref bt), .val (.int (0 : Int32)), .val (.int (1 : Int32)), .val (.int (2 : Int32)), .val (.int (3 : Int32)), .val (.ref be), .val (.int (own_rI r)), .val (.int (own_bI rv)), .val (.int (own_o0 r)), .val (.int (own_o1 r rv)), .val (.int (own_o2 r rv)), .val (.ref bo), .val (.int (own_kI kk)), .val (.ref bs), .val (.int (own_bI ff)), .val (.int (own_bI gg)), .val (.int ss0), .unset, .unset, .unset, .unset, .unset, .unset, .unset, .unset] [(.int (own_bI gg))])) _
      refine XS.ifNo X33.here hx rfl (hb hby at_291) rfl ((if0 _ _).trans (feq (h1 : ¬ ((own_bI gg) = (0 : Int32)))).1) ?_
      show Steps p.tables e below (T33.setTop (mkF m 294 #[.val (.int p1), .val (.int p2), .val (.int p3), .val (.int p4), .val (.ref bt), .val (.int (0 : Int32)), .val (.int (1 : Int32)), .val (.int (2 : Int32)), .val (.int (3 : Int32)), .val (.ref be), .val (.int (own_rI r)), .val (.int (own_bI rv)), .val (.int (own_o0 r)), .val (.int (own_o1 r rv)), .val (.int (own_o2 r rv)), .val (.ref bo), .val (.int (own_kI kk)), .val (.ref bs), .val (.int (own_bI ff)), .val (.int (own_bI gg)), .val (.int ss0), .unset, .unset, .unset, .unset, .unset, .unset, .unset, .unset] [])) _
      refine XS.aload X33.here hx rfl (hb hby at_294) rfl rfl ?_
      show Steps p.tables e below (T33.setTop (mkF m 296 #[.val (.int p1), .val (.int p2), .val (.int p3), .val (.int p4), .val (.ref bt), .val (.int (0 : Int32)), .val (.int (1 : Int32)), .val (.int (2 : Int32)), .val (.int (3 : Int32)), .val (.ref be), .val (.int (own_rI r)), .val (.int (own_bI rv)), .val (.int (own_o0 r)), .val (.int (own_o1 r rv)), .val (.int (own_o2 r rv)), .val (.ref bo), .val (.int (own_kI kk)), .val (.ref bs), .val (.int (own_bI ff)), .val (.int (own_bI gg)), .val (.int ss0), .unset, .unset, .unset, .unset, .unset, .unset, .unset, .unset] [(.ref bs)])) _
      refine XS.iconst X33.here hx rfl (hb hby at_296) ?_
      show Steps p.tables e below (T33.setTop (mkF m 297 #[.val (.int p1), .val (.int p2), .val (.int p3), .val (.int p4), .val (.ref bt), .val (.int (0 : Int32)), .val (.int (1 : Int32)), .val (.int (2 : Int32)), .val (.int (3 : Int32)), .val (.ref be), .val (.int (own_rI r)), .val (.int (own_bI rv)), .val (.int (own_o0 r)), .val (.int (own_o1 r rv)), .val (.int (own_o2 r rv)), .val (.ref bo), .val (.int (own_kI kk)), .val (.ref bs), .val (.int (own_bI ff)), .val (.int (own_bI gg)), .val (.int ss0), .unset, .unset, .unset, .unset, .unset, .unset, .unset, .unset] [(.int (1 : Int32)), (.ref bs)])) _
      refine own_ldI X33 hx hZ rfl V_bs'_e33 (x := (own_t1 r rv kk)) (by decide) rfl (g := (mkF m 297 #[.val (.int p1), .val (.int p2), .val (.int p3), .val (.int p4), .val (.ref bt), .val (.int (0 : Int32)), .val (.int (1 : Int32)), .val (.int (2 : Int32)), .val (.int (3 : Int32)), .val (.ref be), .val (.int (own_rI r)), .val (.int (own_bI rv)), .val (.int (own_o0 r)), .val (.int (own_o1 r rv)), .val (.int (own_o2 r rv)), .val (.ref bo), .val (.int (own_kI kk)), .val (.ref bs), .val (.int (own_bI ff)), .val (.int (own_bI gg)), .val (.int ss0), .unset, .unset, .unset, .unset, .unset, .unset, .unset, .unset] [(.int (1 : Int32)), (.ref bs)])) rfl rfl (hb hby at_297) _ ?_
      show Steps p.tables e below (T33.setTop (mkF m 298 #[.val (.int p1), .val (.int p2), .val (.int p3), .val (.int p4), .val (.ref bt), .val (.int (0 : Int32)), .val (.int (1 : Int32)), .val (.int (2 : Int32)), .val (.int (3 : Int32)), .val (.ref be), .val (.int (own_rI r)), .val (.int (own_bI rv)), .val (.int (own_o0 r)), .val (.int (own_o1 r rv)), .val (.int (own_o2 r rv)), .val (.ref bo), .val (.int (own_kI kk)), .val (.ref bs), .val (.int (own_bI ff)), .val (.int (own_bI gg)), .val (.int ss0), .unset, .unset, .unset, .unset, .unset, .unset, .unset, .unset] [(.int (own_t1 r rv kk))])) _
      refine XS.goto X33.here hx rfl (pc0 := 298) (pc' := 303) rfl (hb hby at_298) (by decide) (by decide) ?_
      exact k)
  have pre39 : ∀ t, Steps p.tables e below (T33.setTop (mkF m 305 #[.val (.int p1), .val (.int p2), .val (.int p3), .val (.int p4), .val (.ref bt), .val (.int (0 : Int32)), .val (.int (1 : Int32)), .val (.int (2 : Int32)), .val (.int (3 : Int32)), .val (.ref be), .val (.int (own_rI r)), .val (.int (own_bI rv)), .val (.int (own_o0 r)), .val (.int (own_o1 r rv)), .val (.int (own_o2 r rv)), .val (.ref bo), .val (.int (own_kI kk)), .val (.ref bs), .val (.int (own_bI ff)), .val (.int (own_bI gg)), .val (.int ss0), .val (.int ss1), .unset, .unset, .unset, .unset, .unset, .unset, .unset] [])) t → Steps p.tables e below (s₁.setTop (entryFrame m #[(.int p1), (.int p2), (.int p3), (.int p4)] maxLocals)) t := fun t k => pre38 t (by
    show Steps p.tables e below (T33.setTop (mkF m 303 #[.val (.int p1), .val (.int p2), .val (.int p3), .val (.int p4), .val (.ref bt), .val (.int (0 : Int32)), .val (.int (1 : Int32)), .val (.int (2 : Int32)), .val (.int (3 : Int32)), .val (.ref be), .val (.int (own_rI r)), .val (.int (own_bI rv)), .val (.int (own_o0 r)), .val (.int (own_o1 r rv)), .val (.int (own_o2 r rv)), .val (.ref bo), .val (.int (own_kI kk)), .val (.ref bs), .val (.int (own_bI ff)), .val (.int (own_bI gg)), .val (.int ss0), .unset, .unset, .unset, .unset, .unset, .unset, .unset, .unset] [(.int ss1)])) _
    refine XS.istore X33.here hx rfl (hb hby at_303) rfl (l' := #[.val (.int p1), .val (.int p2), .val (.int p3), .val (.int p4), .val (.ref bt), .val (.int (0 : Int32)), .val (.int (1 : Int32)), .val (.int (2 : Int32)), .val (.int (3 : Int32)), .val (.ref be), .val (.int (own_rI r)), .val (.int (own_bI rv)), .val (.int (own_o0 r)), .val (.int (own_o1 r rv)), .val (.int (own_o2 r rv)), .val (.ref bo), .val (.int (own_kI kk)), .val (.ref bs), .val (.int (own_bI ff)), .val (.int (own_bI gg)), .val (.int ss0), .val (.int ss1), .unset, .unset, .unset, .unset, .unset, .unset, .unset]) rfl ?_
    exact k)
  obtain ⟨ss2, h_ss2⟩ : ∃ z : Int32, z = own_s2 r rv kk gg := ⟨_, rfl⟩
  have pre40 : ∀ t, Steps p.tables e below (T33.setTop (mkF m 319 #[.val (.int p1), .val (.int p2), .val (.int p3), .val (.int p4), .val (.ref bt), .val (.int (0 : Int32)), .val (.int (1 : Int32)), .val (.int (2 : Int32)), .val (.int (3 : Int32)), .val (.ref be), .val (.int (own_rI r)), .val (.int (own_bI rv)), .val (.int (own_o0 r)), .val (.int (own_o1 r rv)), .val (.int (own_o2 r rv)), .val (.ref bo), .val (.int (own_kI kk)), .val (.ref bs), .val (.int (own_bI ff)), .val (.int (own_bI gg)), .val (.int ss0), .val (.int ss1), .unset, .unset, .unset, .unset, .unset, .unset, .unset] [(.int ss2)])) t → Steps p.tables e below (s₁.setTop (entryFrame m #[(.int p1), (.int p2), (.int p3), (.int p4)] maxLocals)) t := fun t k => pre39 t (by
    by_cases h1 : own_bI gg = (0 : Int32)
    · have ev := own_bz h1
      have ev_ss2 : ss2 = (own_o2 r rv) := h_ss2.trans (by rw [ev]; rfl)
      rw [ev_ss2] at k
      show Steps p.tables e below (T33.setTop (mkF m 305 #[.val (.int p1), .val (.int p2), .val (.int p3), .val (.int p4), .val (.ref bt), .val (.int (0 : Int32)), .val (.int (1 : Int32)), .val (.int (2 : Int32)), .val (.int (3 : Int32)), .val (.ref be), .val (.int (own_rI r)), .val (.int (own_bI rv)), .val (.int (own_o0 r)), .val (.int (own_o1 r rv)), .val (.int (own_o2 r rv)), .val (.ref bo), .val (.int (own_kI kk)), .val (.ref bs), .val (.int (own_bI ff)), .val (.int (own_bI gg)), .val (.int ss0), .val (.int ss1), .unset, .unset, .unset, .unset, .unset, .unset, .unset] [])) _
      refine XS.iload X33.here hx rfl (hb hby at_305) rfl ?_
      show Steps p.tables e below (T33.setTop (mkF m 307 #[.val (.int p1), .val (.int p2), .val (.int p3), .val (.int p4), .val (.ref bt), .val (.int (0 : Int32)), .val (.int (1 : Int32)), .val (.int (2 : Int32)), .val (.int (3 : Int32)), .val (.ref be), .val (.int (own_rI r)), .val (.int (own_bI rv)), .val (.int (own_o0 r)), .val (.int (own_o1 r rv)), .val (.int (own_o2 r rv)), .val (.ref bo), .val (.int (own_kI kk)), .val (.ref bs), .val (.int (own_bI ff)), .val (.int (own_bI gg)), .val (.int ss0), .val (.int ss1), .unset, .unset, .unset, .unset, .unset, .unset, .unset] [(.int (own_bI gg))])) _
      refine XS.ifYes X33.here hx rfl (pc0 := 307) (pc' := 317) rfl (hb hby at_307) rfl ((if0 _ _).trans (teq (h1 : (own_bI gg) = (0 : Int32))).1) (by decide) (by decide) ?_
      show Steps p.tables e below (T33.setTop (mkF m 317 #[.val (.int p1), .val (.int p2), .val (.int p3), .val (.int p4), .val (.ref bt), .val (.int (0 : Int32)), .val (.int (1 : Int32)), .val (.int (2 : Int32)), .val (.int (3 : Int32)), .val (.ref be), .val (.int (own_rI r)), .val (.int (own_bI rv)), .val (.int (own_o0 r)), .val (.int (own_o1 r rv)), .val (.int (own_o2 r rv)), .val (.ref bo), .val (.int (own_kI kk)), .val (.ref bs), .val (.int (own_bI ff)), .val (.int (own_bI gg)), .val (.int ss0), .val (.int ss1), .unset, .unset, .unset, .unset, .unset, .unset, .unset] [])) _
      refine XS.iload X33.here hx rfl (hb hby at_317) rfl ?_
      exact k
    · have ev := own_bn h1
      have ev_ss2 : ss2 = (own_t2 r rv kk) := h_ss2.trans (by rw [ev]; rfl)
      rw [ev_ss2] at k
      show Steps p.tables e below (T33.setTop (mkF m 305 #[.val (.int p1), .val (.int p2), .val (.int p3), .val (.int p4), .val (.ref bt), .val (.int (0 : Int32)), .val (.int (1 : Int32)), .val (.int (2 : Int32)), .val (.int (3 : Int32)), .val (.ref be), .val (.int (own_rI r)), .val (.int (own_bI rv)), .val (.int (own_o0 r)), .val (.int (own_o1 r rv)), .val (.int (own_o2 r rv)), .val (.ref bo), .val (.int (own_kI kk)), .val (.ref bs), .val (.int (own_bI ff)), .val (.int (own_bI gg)), .val (.int ss0), .val (.int ss1), .unset, .unset, .unset, .unset, .unset, .unset, .unset] [])) _
      refine XS.iload X33.here hx rfl (hb hby at_305) rfl ?_
      show Steps p.tables e below (T33.setTop (mkF m 307 #[.val (.int p1), .val (.int p2), .val (.int p3), .val (.int p4), .val (.ref bt), .val (.int (0 : Int32)), .val (.int (1 : Int32)), .val (.int (2 : Int32)), .val (.int (3 : Int32)), .val (.ref be), .val (.int (own_rI r)), .val (.int (own_bI rv)), .val (.int (own_o0 r)), .val (.int (own_o1 r rv)), .val (.int (own_o2 r rv)), .val (.ref bo), .val (.int (own_kI kk)), .val (.ref bs), .val (.int (own_bI ff)), .val (.int (own_bI gg)), .val (.int ss0), .val (.int ss1), .unset, .unset, .unset, .unset, .unset, .unset, .unset] [(.int (own_bI gg))])) _
      refine XS.ifNo X33.here hx rfl (hb hby at_307) rfl ((if0 _ _).trans (feq (h1 : ¬ ((own_bI gg) = (0 : Int32)))).1) ?_
      show Steps p.tables e below (T33.setTop (mkF m 310 #[.val (.int p1), .val (.int p2), .val (.int p3), .val (.int p4), .val (.ref bt), .val (.int (0 : Int32)), .val (.int (1 : Int32)), .val (.int (2 : Int32)), .val (.int (3 : Int32)), .val (.ref be), .val (.int (own_rI r)), .val (.int (own_bI rv)), .val (.int (own_o0 r)), .val (.int (own_o1 r rv)), .val (.int (own_o2 r rv)), .val (.ref bo), .val (.int (own_kI kk)), .val (.ref bs), .val (.int (own_bI ff)), .val (.int (own_bI gg)), .val (.int ss0), .val (.int ss1), .unset, .unset, .unset, .unset, .unset, .unset, .unset] [])) _
      refine XS.aload X33.here hx rfl (hb hby at_310) rfl rfl ?_
      show Steps p.tables e below (T33.setTop (mkF m 312 #[.val (.int p1), .val (.int p2), .val (.int p3), .val (.int p4), .val (.ref bt), .val (.int (0 : Int32)), .val (.int (1 : Int32)), .val (.int (2 : Int32)), .val (.int (3 : Int32)), .val (.ref be), .val (.int (own_rI r)), .val (.int (own_bI rv)), .val (.int (own_o0 r)), .val (.int (own_o1 r rv)), .val (.int (own_o2 r rv)), .val (.ref bo), .val (.int (own_kI kk)), .val (.ref bs), .val (.int (own_bI ff)), .val (.int (own_bI gg)), .val (.int ss0), .val (.int ss1), .unset, .unset, .unset, .unset, .unset, .unset, .unset] [(.ref bs)])) _
      refine XS.iconst X33.here hx rfl (hb hby at_312) ?_
      show Steps p.tables e below (T33.setTop (mkF m 313 #[.val (.int p1), .val (.int p2), .val (.int p3), .val (.int p4), .val (.ref bt), .val (.int (0 : Int32)), .val (.int (1 : Int32)), .val (.int (2 : Int32)), .val (.int (3 : Int32)), .val (.ref be), .val (.int (own_rI r)), .val (.int (own_bI rv)), .val (.int (own_o0 r)), .val (.int (own_o1 r rv)), .val (.int (own_o2 r rv)), .val (.ref bo), .val (.int (own_kI kk)), .val (.ref bs), .val (.int (own_bI ff)), .val (.int (own_bI gg)), .val (.int ss0), .val (.int ss1), .unset, .unset, .unset, .unset, .unset, .unset, .unset] [(.int (2 : Int32)), (.ref bs)])) _
      refine own_ldI X33 hx hZ rfl V_bs'_e33 (x := (own_t2 r rv kk)) (by decide) rfl (g := (mkF m 313 #[.val (.int p1), .val (.int p2), .val (.int p3), .val (.int p4), .val (.ref bt), .val (.int (0 : Int32)), .val (.int (1 : Int32)), .val (.int (2 : Int32)), .val (.int (3 : Int32)), .val (.ref be), .val (.int (own_rI r)), .val (.int (own_bI rv)), .val (.int (own_o0 r)), .val (.int (own_o1 r rv)), .val (.int (own_o2 r rv)), .val (.ref bo), .val (.int (own_kI kk)), .val (.ref bs), .val (.int (own_bI ff)), .val (.int (own_bI gg)), .val (.int ss0), .val (.int ss1), .unset, .unset, .unset, .unset, .unset, .unset, .unset] [(.int (2 : Int32)), (.ref bs)])) rfl rfl (hb hby at_313) _ ?_
      show Steps p.tables e below (T33.setTop (mkF m 314 #[.val (.int p1), .val (.int p2), .val (.int p3), .val (.int p4), .val (.ref bt), .val (.int (0 : Int32)), .val (.int (1 : Int32)), .val (.int (2 : Int32)), .val (.int (3 : Int32)), .val (.ref be), .val (.int (own_rI r)), .val (.int (own_bI rv)), .val (.int (own_o0 r)), .val (.int (own_o1 r rv)), .val (.int (own_o2 r rv)), .val (.ref bo), .val (.int (own_kI kk)), .val (.ref bs), .val (.int (own_bI ff)), .val (.int (own_bI gg)), .val (.int ss0), .val (.int ss1), .unset, .unset, .unset, .unset, .unset, .unset, .unset] [(.int (own_t2 r rv kk))])) _
      refine XS.goto X33.here hx rfl (pc0 := 314) (pc' := 319) rfl (hb hby at_314) (by decide) (by decide) ?_
      exact k)
  have pre41 : ∀ t, Steps p.tables e below (T33.setTop (mkF m 321 #[.val (.int p1), .val (.int p2), .val (.int p3), .val (.int p4), .val (.ref bt), .val (.int (0 : Int32)), .val (.int (1 : Int32)), .val (.int (2 : Int32)), .val (.int (3 : Int32)), .val (.ref be), .val (.int (own_rI r)), .val (.int (own_bI rv)), .val (.int (own_o0 r)), .val (.int (own_o1 r rv)), .val (.int (own_o2 r rv)), .val (.ref bo), .val (.int (own_kI kk)), .val (.ref bs), .val (.int (own_bI ff)), .val (.int (own_bI gg)), .val (.int ss0), .val (.int ss1), .val (.int ss2), .unset, .unset, .unset, .unset, .unset, .unset] [])) t → Steps p.tables e below (s₁.setTop (entryFrame m #[(.int p1), (.int p2), (.int p3), (.int p4)] maxLocals)) t := fun t k => pre40 t (by
    show Steps p.tables e below (T33.setTop (mkF m 319 #[.val (.int p1), .val (.int p2), .val (.int p3), .val (.int p4), .val (.ref bt), .val (.int (0 : Int32)), .val (.int (1 : Int32)), .val (.int (2 : Int32)), .val (.int (3 : Int32)), .val (.ref be), .val (.int (own_rI r)), .val (.int (own_bI rv)), .val (.int (own_o0 r)), .val (.int (own_o1 r rv)), .val (.int (own_o2 r rv)), .val (.ref bo), .val (.int (own_kI kk)), .val (.ref bs), .val (.int (own_bI ff)), .val (.int (own_bI gg)), .val (.int ss0), .val (.int ss1), .unset, .unset, .unset, .unset, .unset, .unset, .unset] [(.int ss2)])) _
    refine XS.istore X33.here hx rfl (hb hby at_319) rfl (l' := #[.val (.int p1), .val (.int p2), .val (.int p3), .val (.int p4), .val (.ref bt), .val (.int (0 : Int32)), .val (.int (1 : Int32)), .val (.int (2 : Int32)), .val (.int (3 : Int32)), .val (.ref be), .val (.int (own_rI r)), .val (.int (own_bI rv)), .val (.int (own_o0 r)), .val (.int (own_o1 r rv)), .val (.int (own_o2 r rv)), .val (.ref bo), .val (.int (own_kI kk)), .val (.ref bs), .val (.int (own_bI ff)), .val (.int (own_bI gg)), .val (.int ss0), .val (.int ss1), .val (.int ss2), .unset, .unset, .unset, .unset, .unset, .unset]) rfl ?_
    exact k)
  subst h_ss0 h_ss1 h_ss2
  obtain ⟨_, _, ⟨T42, L42, k42, n42⟩, -, X42, ⟨Lc42, hQ42, l42, y42, z42⟩, st42⟩ := Jvm.LawKit.callS X33 hx (y := (⟨"com/example/reticule/reticule/match/LinkTableLineUpPinLaw", "nx", "(Lcom/example/reticule/reticule/match/LinkTable;I)I"⟩ : MethodName)) hown (mvT hZ (hw _ (List.mem_of_getElem? (i := 53) rfl))) (mvT hZ (hw _ (List.mem_of_getElem? (i := 54) rfl))) (mvT hZ (hw _ (List.mem_of_getElem? (i := 20) rfl))) (mvT hZ (hw _ (List.mem_of_getElem? (i := 55) rfl))) (by decide) (backOf (W := 0) (rm10 l Z a0 hw [] bt br bl (4 : Int32) (own_X7 r rv kk ff gg) (1 : Int32) (own_s0 r rv kk gg) T33.heap n0 Z33 ⟨wE33, wR33, wL33, wD33, wU33, wV33, wW33, g_bt, g_br, g_bl, ne_bt_br, ne_bt_bl, ne_br_bl⟩ (own_pN r rv kk ff gg).1) hZ (hw _ (List.mem_of_getElem? (i := 55) rfl)) (hw _ (List.mem_of_getElem? (i := 20) rfl)) (by decide) (by decide)) (g := (mkF m 325 #[.val (.int p1), .val (.int p2), .val (.int p3), .val (.int p4), .val (.ref bt), .val (.int (0 : Int32)), .val (.int (1 : Int32)), .val (.int (2 : Int32)), .val (.int (3 : Int32)), .val (.ref be), .val (.int (own_rI r)), .val (.int (own_bI rv)), .val (.int (own_o0 r)), .val (.int (own_o1 r rv)), .val (.int (own_o2 r rv)), .val (.ref bo), .val (.int (own_kI kk)), .val (.ref bs), .val (.int (own_bI ff)), .val (.int (own_bI gg)), .val (.int (own_s0 r rv kk gg)), .val (.int (own_s1 r rv kk gg)), .val (.int (own_s2 r rv kk gg)), .unset, .unset, .unset, .unset, .unset, .unset] [(.int (1 : Int32)), (.ref bt)])) rfl (by rw [hml]; rfl) (argsL := [(.ref bt), (.int (1 : Int32))]) (rest := []) (lenOf pd_10 rfl) rfl (by show 2 * 0 + _ ≤ _; exact Nat.le_of_eq rfl) (hb hby at_325) (fun _ _ => ⟨rfl, rfl, (by decide : 6 + 0 ≤ _), (by decide : 85 + 0 ≤ _)⟩)
  dsimp only [Pt.U, Pt.locs, Pt.cells, Pt.slots] at X42 l42 y42 z42 st42 hQ42
  subst l42 y42 z42
  obtain ⟨rfl, N42q, q42⟩ := hQ42
  have N42 := Fr.app N33 N42q
  have K42 : Keep T33.heap T42.heap [] := own_kr q42
  have wE33_e42 := wE33.keep K42
  have wR33_e42 := wR33.keep K42 nin0
  have wL33_e42 := wL33.keep K42 nin0
  have wD33_e42 := wD33.keep K42 nin0
  have wU33_e42 := wU33.keep K42 nin0
  have wV33_e42 := wV33.keep K42 nin0
  have wW33_e42 := wW33.keep K42 nin0
  have V_be'_e42 := V_be'_e33.keep K42 nin0
  have V_bo'_e42 := V_bo'_e33.keep K42 nin0
  have V_bs'_e42 := V_bs'_e33.keep K42 nin0
  have Z42 : n0 ≤ T42.heap.size := Nat.le_trans Z33 K42.1
  obtain ⟨_, _, ⟨T43, L43, k43, n43⟩, -, X43, ⟨Lc43, hQ43, l43, y43, z43⟩, st43⟩ := Jvm.LawKit.callS X42 hx (y := (⟨"com/example/reticule/reticule/match/LinkTableLineUpPinLaw", "nx", "(Lcom/example/reticule/reticule/match/LinkTable;I)I"⟩ : MethodName)) hown (mvT hZ (hw _ (List.mem_of_getElem? (i := 53) rfl))) (mvT hZ (hw _ (List.mem_of_getElem? (i := 54) rfl))) (mvT hZ (hw _ (List.mem_of_getElem? (i := 20) rfl))) (mvT hZ (hw _ (List.mem_of_getElem? (i := 55) rfl))) (by decide) (backOf (W := 0) (rm10 l Z a0 hw [] bt br bl (4 : Int32) (own_X7 r rv kk ff gg) (own_s0 r rv kk gg) (own_s1 r rv kk gg) T42.heap n0 Z42 ⟨wE33_e42, wR33_e42, wL33_e42, wD33_e42, wU33_e42, wV33_e42, wW33_e42, g_bt, g_br, g_bl, ne_bt_br, ne_bt_bl, ne_br_bl⟩ (own_pN r rv kk ff gg).2.1) hZ (hw _ (List.mem_of_getElem? (i := 55) rfl)) (hw _ (List.mem_of_getElem? (i := 20) rfl)) (by decide) (by decide)) (g := (mkF m 337 #[.val (.int p1), .val (.int p2), .val (.int p3), .val (.int p4), .val (.ref bt), .val (.int (0 : Int32)), .val (.int (1 : Int32)), .val (.int (2 : Int32)), .val (.int (3 : Int32)), .val (.ref be), .val (.int (own_rI r)), .val (.int (own_bI rv)), .val (.int (own_o0 r)), .val (.int (own_o1 r rv)), .val (.int (own_o2 r rv)), .val (.ref bo), .val (.int (own_kI kk)), .val (.ref bs), .val (.int (own_bI ff)), .val (.int (own_bI gg)), .val (.int (own_s0 r rv kk gg)), .val (.int (own_s1 r rv kk gg)), .val (.int (own_s2 r rv kk gg)), .unset, .unset, .unset, .unset, .unset, .unset] [(.int (own_s0 r rv kk gg)), (.ref bt)])) rfl (by rw [hml]; rfl) (argsL := [(.ref bt), (.int (own_s0 r rv kk gg))]) (rest := []) (lenOf pd_10 rfl) rfl (by show 2 * 0 + _ ≤ _; exact Nat.le_of_eq rfl) (hb hby at_337) (fun _ _ => ⟨rfl, rfl, (by decide : 6 + 0 ≤ _), (by decide : 85 + 0 ≤ _)⟩)
  dsimp only [Pt.U, Pt.locs, Pt.cells, Pt.slots] at X43 l43 y43 z43 st43 hQ43
  subst l43 y43 z43
  obtain ⟨rfl, N43q, q43⟩ := hQ43
  have N43 := Fr.app N42 N43q
  have K43 : Keep T42.heap T43.heap [] := own_kr q43
  have wE33_e43 := wE33_e42.keep K43
  have wR33_e43 := wR33_e42.keep K43 nin0
  have wL33_e43 := wL33_e42.keep K43 nin0
  have wD33_e43 := wD33_e42.keep K43 nin0
  have wU33_e43 := wU33_e42.keep K43 nin0
  have wV33_e43 := wV33_e42.keep K43 nin0
  have wW33_e43 := wW33_e42.keep K43 nin0
  have V_be'_e43 := V_be'_e42.keep K43 nin0
  have V_bo'_e43 := V_bo'_e42.keep K43 nin0
  have V_bs'_e43 := V_bs'_e42.keep K43 nin0
  have Z43 : n0 ≤ T43.heap.size := Nat.le_trans Z42 K43.1
  obtain ⟨_, _, ⟨T44, L44, k44, n44⟩, -, X44, ⟨Lc44, hQ44, l44, y44, z44⟩, st44⟩ := Jvm.LawKit.callS X43 hx (y := (⟨"com/example/reticule/reticule/match/LinkTableLineUpPinLaw", "nx", "(Lcom/example/reticule/reticule/match/LinkTable;I)I"⟩ : MethodName)) hown (mvT hZ (hw _ (List.mem_of_getElem? (i := 53) rfl))) (mvT hZ (hw _ (List.mem_of_getElem? (i := 54) rfl))) (mvT hZ (hw _ (List.mem_of_getElem? (i := 20) rfl))) (mvT hZ (hw _ (List.mem_of_getElem? (i := 55) rfl))) (by decide) (backOf (W := 0) (rm10 l Z a0 hw [] bt br bl (4 : Int32) (own_X7 r rv kk ff gg) (own_s1 r rv kk gg) (own_s2 r rv kk gg) T43.heap n0 Z43 ⟨wE33_e43, wR33_e43, wL33_e43, wD33_e43, wU33_e43, wV33_e43, wW33_e43, g_bt, g_br, g_bl, ne_bt_br, ne_bt_bl, ne_br_bl⟩ (own_pN r rv kk ff gg).2.2.1) hZ (hw _ (List.mem_of_getElem? (i := 55) rfl)) (hw _ (List.mem_of_getElem? (i := 20) rfl)) (by decide) (by decide)) (g := (mkF m 349 #[.val (.int p1), .val (.int p2), .val (.int p3), .val (.int p4), .val (.ref bt), .val (.int (0 : Int32)), .val (.int (1 : Int32)), .val (.int (2 : Int32)), .val (.int (3 : Int32)), .val (.ref be), .val (.int (own_rI r)), .val (.int (own_bI rv)), .val (.int (own_o0 r)), .val (.int (own_o1 r rv)), .val (.int (own_o2 r rv)), .val (.ref bo), .val (.int (own_kI kk)), .val (.ref bs), .val (.int (own_bI ff)), .val (.int (own_bI gg)), .val (.int (own_s0 r rv kk gg)), .val (.int (own_s1 r rv kk gg)), .val (.int (own_s2 r rv kk gg)), .unset, .unset, .unset, .unset, .unset, .unset] [(.int (own_s1 r rv kk gg)), (.ref bt)])) rfl (by rw [hml]; rfl) (argsL := [(.ref bt), (.int (own_s1 r rv kk gg))]) (rest := []) (lenOf pd_10 rfl) rfl (by show 2 * 0 + _ ≤ _; exact Nat.le_of_eq rfl) (hb hby at_349) (fun _ _ => ⟨rfl, rfl, (by decide : 6 + 0 ≤ _), (by decide : 85 + 0 ≤ _)⟩)
  dsimp only [Pt.U, Pt.locs, Pt.cells, Pt.slots] at X44 l44 y44 z44 st44 hQ44
  subst l44 y44 z44
  obtain ⟨rfl, N44q, q44⟩ := hQ44
  have N44 := Fr.app N43 N44q
  have K44 : Keep T43.heap T44.heap [] := own_kr q44
  have wE33_e44 := wE33_e43.keep K44
  have wR33_e44 := wR33_e43.keep K44 nin0
  have wL33_e44 := wL33_e43.keep K44 nin0
  have wD33_e44 := wD33_e43.keep K44 nin0
  have wU33_e44 := wU33_e43.keep K44 nin0
  have wV33_e44 := wV33_e43.keep K44 nin0
  have wW33_e44 := wW33_e43.keep K44 nin0
  have V_be'_e44 := V_be'_e43.keep K44 nin0
  have V_bo'_e44 := V_bo'_e43.keep K44 nin0
  have V_bs'_e44 := V_bs'_e43.keep K44 nin0
  have Z44 : n0 ≤ T44.heap.size := Nat.le_trans Z43 K44.1
  obtain ⟨_, _, ⟨T45, L45, k45, n45⟩, -, X45, ⟨Lc45, hQ45, l45, y45, z45⟩, st45⟩ := Jvm.LawKit.callS X44 hx (y := (⟨"com/example/reticule/reticule/match/LinkTableLineUpPinLaw", "nx", "(Lcom/example/reticule/reticule/match/LinkTable;I)I"⟩ : MethodName)) hown (mvT hZ (hw _ (List.mem_of_getElem? (i := 53) rfl))) (mvT hZ (hw _ (List.mem_of_getElem? (i := 54) rfl))) (mvT hZ (hw _ (List.mem_of_getElem? (i := 20) rfl))) (mvT hZ (hw _ (List.mem_of_getElem? (i := 55) rfl))) (by decide) (backOf (W := 0) (rm10 l Z a0 hw [] bt br bl (4 : Int32) (own_X7 r rv kk ff gg) (own_s2 r rv kk gg) (1 : Int32) T44.heap n0 Z44 ⟨wE33_e44, wR33_e44, wL33_e44, wD33_e44, wU33_e44, wV33_e44, wW33_e44, g_bt, g_br, g_bl, ne_bt_br, ne_bt_bl, ne_br_bl⟩ (own_pN r rv kk ff gg).2.2.2.1) hZ (hw _ (List.mem_of_getElem? (i := 55) rfl)) (hw _ (List.mem_of_getElem? (i := 20) rfl)) (by decide) (by decide)) (g := (mkF m 361 #[.val (.int p1), .val (.int p2), .val (.int p3), .val (.int p4), .val (.ref bt), .val (.int (0 : Int32)), .val (.int (1 : Int32)), .val (.int (2 : Int32)), .val (.int (3 : Int32)), .val (.ref be), .val (.int (own_rI r)), .val (.int (own_bI rv)), .val (.int (own_o0 r)), .val (.int (own_o1 r rv)), .val (.int (own_o2 r rv)), .val (.ref bo), .val (.int (own_kI kk)), .val (.ref bs), .val (.int (own_bI ff)), .val (.int (own_bI gg)), .val (.int (own_s0 r rv kk gg)), .val (.int (own_s1 r rv kk gg)), .val (.int (own_s2 r rv kk gg)), .unset, .unset, .unset, .unset, .unset, .unset] [(.int (own_s2 r rv kk gg)), (.ref bt)])) rfl (by rw [hml]; rfl) (argsL := [(.ref bt), (.int (own_s2 r rv kk gg))]) (rest := []) (lenOf pd_10 rfl) rfl (by show 2 * 0 + _ ≤ _; exact Nat.le_of_eq rfl) (hb hby at_361) (fun _ _ => ⟨rfl, rfl, (by decide : 6 + 0 ≤ _), (by decide : 85 + 0 ≤ _)⟩)
  dsimp only [Pt.U, Pt.locs, Pt.cells, Pt.slots] at X45 l45 y45 z45 st45 hQ45
  subst l45 y45 z45
  obtain ⟨rfl, N45q, q45⟩ := hQ45
  have N45 := Fr.app N44 N45q
  have K45 : Keep T44.heap T45.heap [] := own_kr q45
  have wE33_e45 := wE33_e44.keep K45
  have wR33_e45 := wR33_e44.keep K45 nin0
  have wL33_e45 := wL33_e44.keep K45 nin0
  have wD33_e45 := wD33_e44.keep K45 nin0
  have wU33_e45 := wU33_e44.keep K45 nin0
  have wV33_e45 := wV33_e44.keep K45 nin0
  have wW33_e45 := wW33_e44.keep K45 nin0
  have V_be'_e45 := V_be'_e44.keep K45 nin0
  have V_bo'_e45 := V_bo'_e44.keep K45 nin0
  have V_bs'_e45 := V_bs'_e44.keep K45 nin0
  have Z45 : n0 ≤ T45.heap.size := Nat.le_trans Z44 K45.1
  obtain ⟨_, _, ⟨T46, L46, k46, n46⟩, -, X46, ⟨Lc46, hQ46, l46, y46, z46⟩, st46⟩ := Jvm.LawKit.callS X45 hx (y := (⟨"com/example/reticule/reticule/match/LinkTableLineUpPinLaw", "st", "(Lcom/example/reticule/reticule/match/LinkTable;I)I"⟩ : MethodName)) hown (mvT hZ (hw _ (List.mem_of_getElem? (i := 61) rfl))) (mvT hZ (hw _ (List.mem_of_getElem? (i := 62) rfl))) (mvT hZ (hw _ (List.mem_of_getElem? (i := 20) rfl))) (mvT hZ (hw _ (List.mem_of_getElem? (i := 63) rfl))) (by decide) (backOf (W := 0) (rm12 l Z a0 hw [] bt br bl (4 : Int32) (own_X7 r rv kk ff gg) (0 : Int32) (1 : Int32) T45.heap n0 Z45 ⟨wE33_e45, wR33_e45, wL33_e45, wD33_e45, wU33_e45, wV33_e45, wW33_e45, g_bt, g_br, g_bl, ne_bt_br, ne_bt_bl, ne_br_bl⟩ (own_pN r rv kk ff gg).2.2.2.2.1) hZ (hw _ (List.mem_of_getElem? (i := 63) rfl)) (hw _ (List.mem_of_getElem? (i := 20) rfl)) (by decide) (by decide)) (g := (mkF m 385 #[.val (.int p1), .val (.int p2), .val (.int p3), .val (.int p4), .val (.ref bt), .val (.int (0 : Int32)), .val (.int (1 : Int32)), .val (.int (2 : Int32)), .val (.int (3 : Int32)), .val (.ref be), .val (.int (own_rI r)), .val (.int (own_bI rv)), .val (.int (own_o0 r)), .val (.int (own_o1 r rv)), .val (.int (own_o2 r rv)), .val (.ref bo), .val (.int (own_kI kk)), .val (.ref bs), .val (.int (own_bI ff)), .val (.int (own_bI gg)), .val (.int (own_s0 r rv kk gg)), .val (.int (own_s1 r rv kk gg)), .val (.int (own_s2 r rv kk gg)), .val (.int (1 : Int32)), .unset, .unset, .unset, .unset, .unset] [(.int (0 : Int32)), (.ref bt)])) rfl (by rw [hml]; rfl) (argsL := [(.ref bt), (.int (0 : Int32))]) (rest := []) (lenOf pd_12 rfl) rfl (by show 2 * 0 + _ ≤ _; exact Nat.le_of_eq rfl) (hb hby at_385) (fun _ _ => ⟨rfl, rfl, (by decide : 6 + 0 ≤ _), (by decide : 85 + 0 ≤ _)⟩)
  dsimp only [Pt.U, Pt.locs, Pt.cells, Pt.slots] at X46 l46 y46 z46 st46 hQ46
  subst l46 y46 z46
  obtain ⟨rfl, N46q, q46⟩ := hQ46
  have N46 := Fr.app N45 N46q
  have K46 : Keep T45.heap T46.heap [] := own_kr q46
  have wE33_e46 := wE33_e45.keep K46
  have wR33_e46 := wR33_e45.keep K46 nin0
  have wL33_e46 := wL33_e45.keep K46 nin0
  have wD33_e46 := wD33_e45.keep K46 nin0
  have wU33_e46 := wU33_e45.keep K46 nin0
  have wV33_e46 := wV33_e45.keep K46 nin0
  have wW33_e46 := wW33_e45.keep K46 nin0
  have V_be'_e46 := V_be'_e45.keep K46 nin0
  have V_bo'_e46 := V_bo'_e45.keep K46 nin0
  have V_bs'_e46 := V_bs'_e45.keep K46 nin0
  have Z46 : n0 ≤ T46.heap.size := Nat.le_trans Z45 K46.1
  obtain ⟨_, _, ⟨T47, L47, k47, n47⟩, -, X47, ⟨Lc47, hQ47, l47, y47, z47⟩, st47⟩ := Jvm.LawKit.callS X46 hx (y := (⟨"com/example/reticule/reticule/match/LinkTableLineUpPinLaw", "st", "(Lcom/example/reticule/reticule/match/LinkTable;I)I"⟩ : MethodName)) hown (mvT hZ (hw _ (List.mem_of_getElem? (i := 61) rfl))) (mvT hZ (hw _ (List.mem_of_getElem? (i := 62) rfl))) (mvT hZ (hw _ (List.mem_of_getElem? (i := 20) rfl))) (mvT hZ (hw _ (List.mem_of_getElem? (i := 63) rfl))) (by decide) (backOf (W := 0) (rm12 l Z a0 hw [] bt br bl (4 : Int32) (own_X7 r rv kk ff gg) (2 : Int32) (1 : Int32) T46.heap n0 Z46 ⟨wE33_e46, wR33_e46, wL33_e46, wD33_e46, wU33_e46, wV33_e46, wW33_e46, g_bt, g_br, g_bl, ne_bt_br, ne_bt_bl, ne_br_bl⟩ (own_pN r rv kk ff gg).2.2.2.2.2.1) hZ (hw _ (List.mem_of_getElem? (i := 63) rfl)) (hw _ (List.mem_of_getElem? (i := 20) rfl)) (by decide) (by decide)) (g := (mkF m 396 #[.val (.int p1), .val (.int p2), .val (.int p3), .val (.int p4), .val (.ref bt), .val (.int (0 : Int32)), .val (.int (1 : Int32)), .val (.int (2 : Int32)), .val (.int (3 : Int32)), .val (.ref be), .val (.int (own_rI r)), .val (.int (own_bI rv)), .val (.int (own_o0 r)), .val (.int (own_o1 r rv)), .val (.int (own_o2 r rv)), .val (.ref bo), .val (.int (own_kI kk)), .val (.ref bs), .val (.int (own_bI ff)), .val (.int (own_bI gg)), .val (.int (own_s0 r rv kk gg)), .val (.int (own_s1 r rv kk gg)), .val (.int (own_s2 r rv kk gg)), .val (.int (1 : Int32)), .unset, .unset, .unset, .unset, .unset] [(.int (2 : Int32)), (.ref bt)])) rfl (by rw [hml]; rfl) (argsL := [(.ref bt), (.int (2 : Int32))]) (rest := []) (lenOf pd_12 rfl) rfl (by show 2 * 0 + _ ≤ _; exact Nat.le_of_eq rfl) (hb hby at_396) (fun _ _ => ⟨rfl, rfl, (by decide : 6 + 0 ≤ _), (by decide : 85 + 0 ≤ _)⟩)
  dsimp only [Pt.U, Pt.locs, Pt.cells, Pt.slots] at X47 l47 y47 z47 st47 hQ47
  subst l47 y47 z47
  obtain ⟨rfl, N47q, q47⟩ := hQ47
  have N47 := Fr.app N46 N47q
  have K47 : Keep T46.heap T47.heap [] := own_kr q47
  have wE33_e47 := wE33_e46.keep K47
  have wR33_e47 := wR33_e46.keep K47 nin0
  have wL33_e47 := wL33_e46.keep K47 nin0
  have wD33_e47 := wD33_e46.keep K47 nin0
  have wU33_e47 := wU33_e46.keep K47 nin0
  have wV33_e47 := wV33_e46.keep K47 nin0
  have wW33_e47 := wW33_e46.keep K47 nin0
  have V_be'_e47 := V_be'_e46.keep K47 nin0
  have V_bo'_e47 := V_bo'_e46.keep K47 nin0
  have V_bs'_e47 := V_bs'_e46.keep K47 nin0
  have Z47 : n0 ≤ T47.heap.size := Nat.le_trans Z46 K47.1
  obtain ⟨_, _, ⟨T48, L48, k48, n48⟩, -, X48, ⟨Lc48, hQ48, l48, y48, z48⟩, st48⟩ := Jvm.LawKit.callS X47 hx (y := (⟨"com/example/reticule/reticule/match/LinkTableLineUpPinLaw", "st", "(Lcom/example/reticule/reticule/match/LinkTable;I)I"⟩ : MethodName)) hown (mvT hZ (hw _ (List.mem_of_getElem? (i := 61) rfl))) (mvT hZ (hw _ (List.mem_of_getElem? (i := 62) rfl))) (mvT hZ (hw _ (List.mem_of_getElem? (i := 20) rfl))) (mvT hZ (hw _ (List.mem_of_getElem? (i := 63) rfl))) (by decide) (backOf (W := 0) (rm12 l Z a0 hw [] bt br bl (4 : Int32) (own_X7 r rv kk ff gg) (3 : Int32) (1 : Int32) T47.heap n0 Z47 ⟨wE33_e47, wR33_e47, wL33_e47, wD33_e47, wU33_e47, wV33_e47, wW33_e47, g_bt, g_br, g_bl, ne_bt_br, ne_bt_bl, ne_br_bl⟩ (own_pN r rv kk ff gg).2.2.2.2.2.2.1) hZ (hw _ (List.mem_of_getElem? (i := 63) rfl)) (hw _ (List.mem_of_getElem? (i := 20) rfl)) (by decide) (by decide)) (g := (mkF m 407 #[.val (.int p1), .val (.int p2), .val (.int p3), .val (.int p4), .val (.ref bt), .val (.int (0 : Int32)), .val (.int (1 : Int32)), .val (.int (2 : Int32)), .val (.int (3 : Int32)), .val (.ref be), .val (.int (own_rI r)), .val (.int (own_bI rv)), .val (.int (own_o0 r)), .val (.int (own_o1 r rv)), .val (.int (own_o2 r rv)), .val (.ref bo), .val (.int (own_kI kk)), .val (.ref bs), .val (.int (own_bI ff)), .val (.int (own_bI gg)), .val (.int (own_s0 r rv kk gg)), .val (.int (own_s1 r rv kk gg)), .val (.int (own_s2 r rv kk gg)), .val (.int (1 : Int32)), .unset, .unset, .unset, .unset, .unset] [(.int (3 : Int32)), (.ref bt)])) rfl (by rw [hml]; rfl) (argsL := [(.ref bt), (.int (3 : Int32))]) (rest := []) (lenOf pd_12 rfl) rfl (by show 2 * 0 + _ ≤ _; exact Nat.le_of_eq rfl) (hb hby at_407) (fun _ _ => ⟨rfl, rfl, (by decide : 6 + 0 ≤ _), (by decide : 85 + 0 ≤ _)⟩)
  dsimp only [Pt.U, Pt.locs, Pt.cells, Pt.slots] at X48 l48 y48 z48 st48 hQ48
  subst l48 y48 z48
  obtain ⟨rfl, N48q, q48⟩ := hQ48
  have N48 := Fr.app N47 N48q
  have K48 : Keep T47.heap T48.heap [] := own_kr q48
  have wE33_e48 := wE33_e47.keep K48
  have wR33_e48 := wR33_e47.keep K48 nin0
  have wL33_e48 := wL33_e47.keep K48 nin0
  have wD33_e48 := wD33_e47.keep K48 nin0
  have wU33_e48 := wU33_e47.keep K48 nin0
  have wV33_e48 := wV33_e47.keep K48 nin0
  have wW33_e48 := wW33_e47.keep K48 nin0
  have V_be'_e48 := V_be'_e47.keep K48 nin0
  have V_bo'_e48 := V_bo'_e47.keep K48 nin0
  have V_bs'_e48 := V_bs'_e47.keep K48 nin0
  have Z48 : n0 ≤ T48.heap.size := Nat.le_trans Z47 K48.1
  obtain ⟨_, _, ⟨T49, L49, k49, n49⟩, -, X49, ⟨Lc49, hQ49, l49, y49, z49⟩, st49⟩ := Jvm.LawKit.callS X48 hx (y := (⟨"com/example/reticule/reticule/match/LinkTableLineUpPinLaw", "st", "(Lcom/example/reticule/reticule/match/LinkTable;I)I"⟩ : MethodName)) hown (mvT hZ (hw _ (List.mem_of_getElem? (i := 61) rfl))) (mvT hZ (hw _ (List.mem_of_getElem? (i := 62) rfl))) (mvT hZ (hw _ (List.mem_of_getElem? (i := 20) rfl))) (mvT hZ (hw _ (List.mem_of_getElem? (i := 63) rfl))) (by decide) (backOf (W := 0) (rm12 l Z a0 hw [] bt br bl (4 : Int32) (own_X7 r rv kk ff gg) (1 : Int32) (-1 : Int32) T48.heap n0 Z48 ⟨wE33_e48, wR33_e48, wL33_e48, wD33_e48, wU33_e48, wV33_e48, wW33_e48, g_bt, g_br, g_bl, ne_bt_br, ne_bt_bl, ne_br_bl⟩ (own_pN r rv kk ff gg).2.2.2.2.2.2.2) hZ (hw _ (List.mem_of_getElem? (i := 63) rfl)) (hw _ (List.mem_of_getElem? (i := 20) rfl)) (by decide) (by decide)) (g := (mkF m 418 #[.val (.int p1), .val (.int p2), .val (.int p3), .val (.int p4), .val (.ref bt), .val (.int (0 : Int32)), .val (.int (1 : Int32)), .val (.int (2 : Int32)), .val (.int (3 : Int32)), .val (.ref be), .val (.int (own_rI r)), .val (.int (own_bI rv)), .val (.int (own_o0 r)), .val (.int (own_o1 r rv)), .val (.int (own_o2 r rv)), .val (.ref bo), .val (.int (own_kI kk)), .val (.ref bs), .val (.int (own_bI ff)), .val (.int (own_bI gg)), .val (.int (own_s0 r rv kk gg)), .val (.int (own_s1 r rv kk gg)), .val (.int (own_s2 r rv kk gg)), .val (.int (1 : Int32)), .unset, .unset, .unset, .unset, .unset] [(.int (1 : Int32)), (.ref bt)])) rfl (by rw [hml]; rfl) (argsL := [(.ref bt), (.int (1 : Int32))]) (rest := []) (lenOf pd_12 rfl) rfl (by show 2 * 0 + _ ≤ _; exact Nat.le_of_eq rfl) (hb hby at_418) (fun _ _ => ⟨rfl, rfl, (by decide : 6 + 0 ≤ _), (by decide : 85 + 0 ≤ _)⟩)
  dsimp only [Pt.U, Pt.locs, Pt.cells, Pt.slots] at X49 l49 y49 z49 st49 hQ49
  subst l49 y49 z49
  obtain ⟨rfl, N49q, q49⟩ := hQ49
  have N49 := Fr.app N48 N49q
  have K49 : Keep T48.heap T49.heap [] := own_kr q49
  have wE33_e49 := wE33_e48.keep K49
  have wR33_e49 := wR33_e48.keep K49 nin0
  have wL33_e49 := wL33_e48.keep K49 nin0
  have wD33_e49 := wD33_e48.keep K49 nin0
  have wU33_e49 := wU33_e48.keep K49 nin0
  have wV33_e49 := wV33_e48.keep K49 nin0
  have wW33_e49 := wW33_e48.keep K49 nin0
  have V_be'_e49 := V_be'_e48.keep K49 nin0
  have V_bo'_e49 := V_bo'_e48.keep K49 nin0
  have V_bs'_e49 := V_bs'_e48.keep K49 nin0
  have Z49 : n0 ≤ T49.heap.size := Nat.le_trans Z48 K49.1
  obtain ⟨j_, h_j_⟩ : ∃ z : Int32, z = ((p4 &&& (2147483647 : Int32)) % (3 : Int32)) := ⟨_, rfl⟩
  have pre50 : ∀ t, Steps p.tables e below (T49.setTop (mkF m 447 #[.val (.int p1), .val (.int p2), .val (.int p3), .val (.int p4), .val (.ref bt), .val (.int (0 : Int32)), .val (.int (1 : Int32)), .val (.int (2 : Int32)), .val (.int (3 : Int32)), .val (.ref be), .val (.int (own_rI r)), .val (.int (own_bI rv)), .val (.int (own_o0 r)), .val (.int (own_o1 r rv)), .val (.int (own_o2 r rv)), .val (.ref bo), .val (.int (own_kI kk)), .val (.ref bs), .val (.int (own_bI ff)), .val (.int (own_bI gg)), .val (.int (own_s0 r rv kk gg)), .val (.int (own_s1 r rv kk gg)), .val (.int (own_s2 r rv kk gg)), .val (.int (1 : Int32)), .val (.int j_), .unset, .unset, .unset, .unset] [])) t → Steps p.tables e below (s₁.setTop (entryFrame m #[(.int p1), (.int p2), (.int p3), (.int p4)] maxLocals)) t := fun t k => pre41 t (by
    rw [h_j_] at k
    show Steps p.tables e below (T33.setTop (mkF m 321 #[.val (.int p1), .val (.int p2), .val (.int p3), .val (.int p4), .val (.ref bt), .val (.int (0 : Int32)), .val (.int (1 : Int32)), .val (.int (2 : Int32)), .val (.int (3 : Int32)), .val (.ref be), .val (.int (own_rI r)), .val (.int (own_bI rv)), .val (.int (own_o0 r)), .val (.int (own_o1 r rv)), .val (.int (own_o2 r rv)), .val (.ref bo), .val (.int (own_kI kk)), .val (.ref bs), .val (.int (own_bI ff)), .val (.int (own_bI gg)), .val (.int (own_s0 r rv kk gg)), .val (.int (own_s1 r rv kk gg)), .val (.int (own_s2 r rv kk gg)), .unset, .unset, .unset, .unset, .unset, .unset] [])) _
    refine XS.aload X33.here hx rfl (hb hby at_321) rfl rfl ?_
    show Steps p.tables e below (T33.setTop (mkF m 323 #[.val (.int p1), .val (.int p2), .val (.int p3), .val (.int p4), .val (.ref bt), .val (.int (0 : Int32)), .val (.int (1 : Int32)), .val (.int (2 : Int32)), .val (.int (3 : Int32)), .val (.ref be), .val (.int (own_rI r)), .val (.int (own_bI rv)), .val (.int (own_o0 r)), .val (.int (own_o1 r rv)), .val (.int (own_o2 r rv)), .val (.ref bo), .val (.int (own_kI kk)), .val (.ref bs), .val (.int (own_bI ff)), .val (.int (own_bI gg)), .val (.int (own_s0 r rv kk gg)), .val (.int (own_s1 r rv kk gg)), .val (.int (own_s2 r rv kk gg)), .unset, .unset, .unset, .unset, .unset, .unset] [(.ref bt)])) _
    refine XS.iload X33.here hx rfl (hb hby at_323) rfl ?_
    show Steps p.tables e below (T33.setTop (mkF m 325 #[.val (.int p1), .val (.int p2), .val (.int p3), .val (.int p4), .val (.ref bt), .val (.int (0 : Int32)), .val (.int (1 : Int32)), .val (.int (2 : Int32)), .val (.int (3 : Int32)), .val (.ref be), .val (.int (own_rI r)), .val (.int (own_bI rv)), .val (.int (own_o0 r)), .val (.int (own_o1 r rv)), .val (.int (own_o2 r rv)), .val (.ref bo), .val (.int (own_kI kk)), .val (.ref bs), .val (.int (own_bI ff)), .val (.int (own_bI gg)), .val (.int (own_s0 r rv kk gg)), .val (.int (own_s1 r rv kk gg)), .val (.int (own_s2 r rv kk gg)), .unset, .unset, .unset, .unset, .unset, .unset] [(.int (1 : Int32)), (.ref bt)])) _
    refine st42 _ ?_
    show Steps p.tables e below (T42.setTop (mkF m 328 #[.val (.int p1), .val (.int p2), .val (.int p3), .val (.int p4), .val (.ref bt), .val (.int (0 : Int32)), .val (.int (1 : Int32)), .val (.int (2 : Int32)), .val (.int (3 : Int32)), .val (.ref be), .val (.int (own_rI r)), .val (.int (own_bI rv)), .val (.int (own_o0 r)), .val (.int (own_o1 r rv)), .val (.int (own_o2 r rv)), .val (.ref bo), .val (.int (own_kI kk)), .val (.ref bs), .val (.int (own_bI ff)), .val (.int (own_bI gg)), .val (.int (own_s0 r rv kk gg)), .val (.int (own_s1 r rv kk gg)), .val (.int (own_s2 r rv kk gg)), .unset, .unset, .unset, .unset, .unset, .unset] [(.int (own_s0 r rv kk gg))])) _
    refine XS.iload X42.here hx rfl (hb hby at_328) rfl ?_
    show Steps p.tables e below (T42.setTop (mkF m 330 #[.val (.int p1), .val (.int p2), .val (.int p3), .val (.int p4), .val (.ref bt), .val (.int (0 : Int32)), .val (.int (1 : Int32)), .val (.int (2 : Int32)), .val (.int (3 : Int32)), .val (.ref be), .val (.int (own_rI r)), .val (.int (own_bI rv)), .val (.int (own_o0 r)), .val (.int (own_o1 r rv)), .val (.int (own_o2 r rv)), .val (.ref bo), .val (.int (own_kI kk)), .val (.ref bs), .val (.int (own_bI ff)), .val (.int (own_bI gg)), .val (.int (own_s0 r rv kk gg)), .val (.int (own_s1 r rv kk gg)), .val (.int (own_s2 r rv kk gg)), .unset, .unset, .unset, .unset, .unset, .unset] [(.int (own_s0 r rv kk gg)), (.int (own_s0 r rv kk gg))])) _
    refine XS.icmpNo X42.here hx rfl (hb hby at_330) rfl (teq (rfl : (own_s0 r rv kk gg) = (own_s0 r rv kk gg))).2 ?_
    show Steps p.tables e below (T42.setTop (mkF m 333 #[.val (.int p1), .val (.int p2), .val (.int p3), .val (.int p4), .val (.ref bt), .val (.int (0 : Int32)), .val (.int (1 : Int32)), .val (.int (2 : Int32)), .val (.int (3 : Int32)), .val (.ref be), .val (.int (own_rI r)), .val (.int (own_bI rv)), .val (.int (own_o0 r)), .val (.int (own_o1 r rv)), .val (.int (own_o2 r rv)), .val (.ref bo), .val (.int (own_kI kk)), .val (.ref bs), .val (.int (own_bI ff)), .val (.int (own_bI gg)), .val (.int (own_s0 r rv kk gg)), .val (.int (own_s1 r rv kk gg)), .val (.int (own_s2 r rv kk gg)), .unset, .unset, .unset, .unset, .unset, .unset] [])) _
    refine XS.aload X42.here hx rfl (hb hby at_333) rfl rfl ?_
    show Steps p.tables e below (T42.setTop (mkF m 335 #[.val (.int p1), .val (.int p2), .val (.int p3), .val (.int p4), .val (.ref bt), .val (.int (0 : Int32)), .val (.int (1 : Int32)), .val (.int (2 : Int32)), .val (.int (3 : Int32)), .val (.ref be), .val (.int (own_rI r)), .val (.int (own_bI rv)), .val (.int (own_o0 r)), .val (.int (own_o1 r rv)), .val (.int (own_o2 r rv)), .val (.ref bo), .val (.int (own_kI kk)), .val (.ref bs), .val (.int (own_bI ff)), .val (.int (own_bI gg)), .val (.int (own_s0 r rv kk gg)), .val (.int (own_s1 r rv kk gg)), .val (.int (own_s2 r rv kk gg)), .unset, .unset, .unset, .unset, .unset, .unset] [(.ref bt)])) _
    refine XS.iload X42.here hx rfl (hb hby at_335) rfl ?_
    show Steps p.tables e below (T42.setTop (mkF m 337 #[.val (.int p1), .val (.int p2), .val (.int p3), .val (.int p4), .val (.ref bt), .val (.int (0 : Int32)), .val (.int (1 : Int32)), .val (.int (2 : Int32)), .val (.int (3 : Int32)), .val (.ref be), .val (.int (own_rI r)), .val (.int (own_bI rv)), .val (.int (own_o0 r)), .val (.int (own_o1 r rv)), .val (.int (own_o2 r rv)), .val (.ref bo), .val (.int (own_kI kk)), .val (.ref bs), .val (.int (own_bI ff)), .val (.int (own_bI gg)), .val (.int (own_s0 r rv kk gg)), .val (.int (own_s1 r rv kk gg)), .val (.int (own_s2 r rv kk gg)), .unset, .unset, .unset, .unset, .unset, .unset] [(.int (own_s0 r rv kk gg)), (.ref bt)])) _
    refine st43 _ ?_
    show Steps p.tables e below (T43.setTop (mkF m 340 #[.val (.int p1), .val (.int p2), .val (.int p3), .val (.int p4), .val (.ref bt), .val (.int (0 : Int32)), .val (.int (1 : Int32)), .val (.int (2 : Int32)), .val (.int (3 : Int32)), .val (.ref be), .val (.int (own_rI r)), .val (.int (own_bI rv)), .val (.int (own_o0 r)), .val (.int (own_o1 r rv)), .val (.int (own_o2 r rv)), .val (.ref bo), .val (.int (own_kI kk)), .val (.ref bs), .val (.int (own_bI ff)), .val (.int (own_bI gg)), .val (.int (own_s0 r rv kk gg)), .val (.int (own_s1 r rv kk gg)), .val (.int (own_s2 r rv kk gg)), .unset, .unset, .unset, .unset, .unset, .unset] [(.int (own_s1 r rv kk gg))])) _
    refine XS.iload X43.here hx rfl (hb hby at_340) rfl ?_
    show Steps p.tables e below (T43.setTop (mkF m 342 #[.val (.int p1), .val (.int p2), .val (.int p3), .val (.int p4), .val (.ref bt), .val (.int (0 : Int32)), .val (.int (1 : Int32)), .val (.int (2 : Int32)), .val (.int (3 : Int32)), .val (.ref be), .val (.int (own_rI r)), .val (.int (own_bI rv)), .val (.int (own_o0 r)), .val (.int (own_o1 r rv)), .val (.int (own_o2 r rv)), .val (.ref bo), .val (.int (own_kI kk)), .val (.ref bs), .val (.int (own_bI ff)), .val (.int (own_bI gg)), .val (.int (own_s0 r rv kk gg)), .val (.int (own_s1 r rv kk gg)), .val (.int (own_s2 r rv kk gg)), .unset, .unset, .unset, .unset, .unset, .unset] [(.int (own_s1 r rv kk gg)), (.int (own_s1 r rv kk gg))])) _
    refine XS.icmpNo X43.here hx rfl (hb hby at_342) rfl (teq (rfl : (own_s1 r rv kk gg) = (own_s1 r rv kk gg))).2 ?_
    show Steps p.tables e below (T43.setTop (mkF m 345 #[.val (.int p1), .val (.int p2), .val (.int p3), .val (.int p4), .val (.ref bt), .val (.int (0 : Int32)), .val (.int (1 : Int32)), .val (.int (2 : Int32)), .val (.int (3 : Int32)), .val (.ref be), .val (.int (own_rI r)), .val (.int (own_bI rv)), .val (.int (own_o0 r)), .val (.int (own_o1 r rv)), .val (.int (own_o2 r rv)), .val (.ref bo), .val (.int (own_kI kk)), .val (.ref bs), .val (.int (own_bI ff)), .val (.int (own_bI gg)), .val (.int (own_s0 r rv kk gg)), .val (.int (own_s1 r rv kk gg)), .val (.int (own_s2 r rv kk gg)), .unset, .unset, .unset, .unset, .unset, .unset] [])) _
    refine XS.aload X43.here hx rfl (hb hby at_345) rfl rfl ?_
    show Steps p.tables e below (T43.setTop (mkF m 347 #[.val (.int p1), .val (.int p2), .val (.int p3), .val (.int p4), .val (.ref bt), .val (.int (0 : Int32)), .val (.int (1 : Int32)), .val (.int (2 : Int32)), .val (.int (3 : Int32)), .val (.ref be), .val (.int (own_rI r)), .val (.int (own_bI rv)), .val (.int (own_o0 r)), .val (.int (own_o1 r rv)), .val (.int (own_o2 r rv)), .val (.ref bo), .val (.int (own_kI kk)), .val (.ref bs), .val (.int (own_bI ff)), .val (.int (own_bI gg)), .val (.int (own_s0 r rv kk gg)), .val (.int (own_s1 r rv kk gg)), .val (.int (own_s2 r rv kk gg)), .unset, .unset, .unset, .unset, .unset, .unset] [(.ref bt)])) _
    refine XS.iload X43.here hx rfl (hb hby at_347) rfl ?_
    show Steps p.tables e below (T43.setTop (mkF m 349 #[.val (.int p1), .val (.int p2), .val (.int p3), .val (.int p4), .val (.ref bt), .val (.int (0 : Int32)), .val (.int (1 : Int32)), .val (.int (2 : Int32)), .val (.int (3 : Int32)), .val (.ref be), .val (.int (own_rI r)), .val (.int (own_bI rv)), .val (.int (own_o0 r)), .val (.int (own_o1 r rv)), .val (.int (own_o2 r rv)), .val (.ref bo), .val (.int (own_kI kk)), .val (.ref bs), .val (.int (own_bI ff)), .val (.int (own_bI gg)), .val (.int (own_s0 r rv kk gg)), .val (.int (own_s1 r rv kk gg)), .val (.int (own_s2 r rv kk gg)), .unset, .unset, .unset, .unset, .unset, .unset] [(.int (own_s1 r rv kk gg)), (.ref bt)])) _
    refine st44 _ ?_
    show Steps p.tables e below (T44.setTop (mkF m 352 #[.val (.int p1), .val (.int p2), .val (.int p3), .val (.int p4), .val (.ref bt), .val (.int (0 : Int32)), .val (.int (1 : Int32)), .val (.int (2 : Int32)), .val (.int (3 : Int32)), .val (.ref be), .val (.int (own_rI r)), .val (.int (own_bI rv)), .val (.int (own_o0 r)), .val (.int (own_o1 r rv)), .val (.int (own_o2 r rv)), .val (.ref bo), .val (.int (own_kI kk)), .val (.ref bs), .val (.int (own_bI ff)), .val (.int (own_bI gg)), .val (.int (own_s0 r rv kk gg)), .val (.int (own_s1 r rv kk gg)), .val (.int (own_s2 r rv kk gg)), .unset, .unset, .unset, .unset, .unset, .unset] [(.int (own_s2 r rv kk gg))])) _
    refine XS.iload X44.here hx rfl (hb hby at_352) rfl ?_
    show Steps p.tables e below (T44.setTop (mkF m 354 #[.val (.int p1), .val (.int p2), .val (.int p3), .val (.int p4), .val (.ref bt), .val (.int (0 : Int32)), .val (.int (1 : Int32)), .val (.int (2 : Int32)), .val (.int (3 : Int32)), .val (.ref be), .val (.int (own_rI r)), .val (.int (own_bI rv)), .val (.int (own_o0 r)), .val (.int (own_o1 r rv)), .val (.int (own_o2 r rv)), .val (.ref bo), .val (.int (own_kI kk)), .val (.ref bs), .val (.int (own_bI ff)), .val (.int (own_bI gg)), .val (.int (own_s0 r rv kk gg)), .val (.int (own_s1 r rv kk gg)), .val (.int (own_s2 r rv kk gg)), .unset, .unset, .unset, .unset, .unset, .unset] [(.int (own_s2 r rv kk gg)), (.int (own_s2 r rv kk gg))])) _
    refine XS.icmpNo X44.here hx rfl (hb hby at_354) rfl (teq (rfl : (own_s2 r rv kk gg) = (own_s2 r rv kk gg))).2 ?_
    show Steps p.tables e below (T44.setTop (mkF m 357 #[.val (.int p1), .val (.int p2), .val (.int p3), .val (.int p4), .val (.ref bt), .val (.int (0 : Int32)), .val (.int (1 : Int32)), .val (.int (2 : Int32)), .val (.int (3 : Int32)), .val (.ref be), .val (.int (own_rI r)), .val (.int (own_bI rv)), .val (.int (own_o0 r)), .val (.int (own_o1 r rv)), .val (.int (own_o2 r rv)), .val (.ref bo), .val (.int (own_kI kk)), .val (.ref bs), .val (.int (own_bI ff)), .val (.int (own_bI gg)), .val (.int (own_s0 r rv kk gg)), .val (.int (own_s1 r rv kk gg)), .val (.int (own_s2 r rv kk gg)), .unset, .unset, .unset, .unset, .unset, .unset] [])) _
    refine XS.aload X44.here hx rfl (hb hby at_357) rfl rfl ?_
    show Steps p.tables e below (T44.setTop (mkF m 359 #[.val (.int p1), .val (.int p2), .val (.int p3), .val (.int p4), .val (.ref bt), .val (.int (0 : Int32)), .val (.int (1 : Int32)), .val (.int (2 : Int32)), .val (.int (3 : Int32)), .val (.ref be), .val (.int (own_rI r)), .val (.int (own_bI rv)), .val (.int (own_o0 r)), .val (.int (own_o1 r rv)), .val (.int (own_o2 r rv)), .val (.ref bo), .val (.int (own_kI kk)), .val (.ref bs), .val (.int (own_bI ff)), .val (.int (own_bI gg)), .val (.int (own_s0 r rv kk gg)), .val (.int (own_s1 r rv kk gg)), .val (.int (own_s2 r rv kk gg)), .unset, .unset, .unset, .unset, .unset, .unset] [(.ref bt)])) _
    refine XS.iload X44.here hx rfl (hb hby at_359) rfl ?_
    show Steps p.tables e below (T44.setTop (mkF m 361 #[.val (.int p1), .val (.int p2), .val (.int p3), .val (.int p4), .val (.ref bt), .val (.int (0 : Int32)), .val (.int (1 : Int32)), .val (.int (2 : Int32)), .val (.int (3 : Int32)), .val (.ref be), .val (.int (own_rI r)), .val (.int (own_bI rv)), .val (.int (own_o0 r)), .val (.int (own_o1 r rv)), .val (.int (own_o2 r rv)), .val (.ref bo), .val (.int (own_kI kk)), .val (.ref bs), .val (.int (own_bI ff)), .val (.int (own_bI gg)), .val (.int (own_s0 r rv kk gg)), .val (.int (own_s1 r rv kk gg)), .val (.int (own_s2 r rv kk gg)), .unset, .unset, .unset, .unset, .unset, .unset] [(.int (own_s2 r rv kk gg)), (.ref bt)])) _
    refine st45 _ ?_
    show Steps p.tables e below (T45.setTop (mkF m 364 #[.val (.int p1), .val (.int p2), .val (.int p3), .val (.int p4), .val (.ref bt), .val (.int (0 : Int32)), .val (.int (1 : Int32)), .val (.int (2 : Int32)), .val (.int (3 : Int32)), .val (.ref be), .val (.int (own_rI r)), .val (.int (own_bI rv)), .val (.int (own_o0 r)), .val (.int (own_o1 r rv)), .val (.int (own_o2 r rv)), .val (.ref bo), .val (.int (own_kI kk)), .val (.ref bs), .val (.int (own_bI ff)), .val (.int (own_bI gg)), .val (.int (own_s0 r rv kk gg)), .val (.int (own_s1 r rv kk gg)), .val (.int (own_s2 r rv kk gg)), .unset, .unset, .unset, .unset, .unset, .unset] [(.int (1 : Int32))])) _
    refine XS.iload X45.here hx rfl (hb hby at_364) rfl ?_
    show Steps p.tables e below (T45.setTop (mkF m 366 #[.val (.int p1), .val (.int p2), .val (.int p3), .val (.int p4), .val (.ref bt), .val (.int (0 : Int32)), .val (.int (1 : Int32)), .val (.int (2 : Int32)), .val (.int (3 : Int32)), .val (.ref be), .val (.int (own_rI r)), .val (.int (own_bI rv)), .val (.int (own_o0 r)), .val (.int (own_o1 r rv)), .val (.int (own_o2 r rv)), .val (.ref bo), .val (.int (own_kI kk)), .val (.ref bs), .val (.int (own_bI ff)), .val (.int (own_bI gg)), .val (.int (own_s0 r rv kk gg)), .val (.int (own_s1 r rv kk gg)), .val (.int (own_s2 r rv kk gg)), .unset, .unset, .unset, .unset, .unset, .unset] [(.int (1 : Int32)), (.int (1 : Int32))])) _
    refine XS.icmpNo X45.here hx rfl (hb hby at_366) rfl (teq (rfl : (1 : Int32) = (1 : Int32))).2 ?_
    show Steps p.tables e below (T45.setTop (mkF m 369 #[.val (.int p1), .val (.int p2), .val (.int p3), .val (.int p4), .val (.ref bt), .val (.int (0 : Int32)), .val (.int (1 : Int32)), .val (.int (2 : Int32)), .val (.int (3 : Int32)), .val (.ref be), .val (.int (own_rI r)), .val (.int (own_bI rv)), .val (.int (own_o0 r)), .val (.int (own_o1 r rv)), .val (.int (own_o2 r rv)), .val (.ref bo), .val (.int (own_kI kk)), .val (.ref bs), .val (.int (own_bI ff)), .val (.int (own_bI gg)), .val (.int (own_s0 r rv kk gg)), .val (.int (own_s1 r rv kk gg)), .val (.int (own_s2 r rv kk gg)), .unset, .unset, .unset, .unset, .unset, .unset] [])) _
    refine XS.iconst X45.here hx rfl (hb hby at_369) ?_
    show Steps p.tables e below (T45.setTop (mkF m 370 #[.val (.int p1), .val (.int p2), .val (.int p3), .val (.int p4), .val (.ref bt), .val (.int (0 : Int32)), .val (.int (1 : Int32)), .val (.int (2 : Int32)), .val (.int (3 : Int32)), .val (.ref be), .val (.int (own_rI r)), .val (.int (own_bI rv)), .val (.int (own_o0 r)), .val (.int (own_o1 r rv)), .val (.int (own_o2 r rv)), .val (.ref bo), .val (.int (own_kI kk)), .val (.ref bs), .val (.int (own_bI ff)), .val (.int (own_bI gg)), .val (.int (own_s0 r rv kk gg)), .val (.int (own_s1 r rv kk gg)), .val (.int (own_s2 r rv kk gg)), .unset, .unset, .unset, .unset, .unset, .unset] [(.int (1 : Int32))])) _
    refine XS.goto X45.here hx rfl (pc0 := 370) (pc' := 374) rfl (hb hby at_370) (by decide) (by decide) ?_
    show Steps p.tables e below (T45.setTop (mkF m 374 #[.val (.int p1), .val (.int p2), .val (.int p3), .val (.int p4), .val (.ref bt), .val (.int (0 : Int32)), .val (.int (1 : Int32)), .val (.int (2 : Int32)), .val (.int (3 : Int32)), .val (.ref be), .val (.int (own_rI r)), .val (.int (own_bI rv)), .val (.int (own_o0 r)), .val (.int (own_o1 r rv)), .val (.int (own_o2 r rv)), .val (.ref bo), .val (.int (own_kI kk)), .val (.ref bs), .val (.int (own_bI ff)), .val (.int (own_bI gg)), .val (.int (own_s0 r rv kk gg)), .val (.int (own_s1 r rv kk gg)), .val (.int (own_s2 r rv kk gg)), .unset, .unset, .unset, .unset, .unset, .unset] [(.int (1 : Int32))])) _
    refine XS.istore X45.here hx rfl (hb hby at_374) rfl (l' := #[.val (.int p1), .val (.int p2), .val (.int p3), .val (.int p4), .val (.ref bt), .val (.int (0 : Int32)), .val (.int (1 : Int32)), .val (.int (2 : Int32)), .val (.int (3 : Int32)), .val (.ref be), .val (.int (own_rI r)), .val (.int (own_bI rv)), .val (.int (own_o0 r)), .val (.int (own_o1 r rv)), .val (.int (own_o2 r rv)), .val (.ref bo), .val (.int (own_kI kk)), .val (.ref bs), .val (.int (own_bI ff)), .val (.int (own_bI gg)), .val (.int (own_s0 r rv kk gg)), .val (.int (own_s1 r rv kk gg)), .val (.int (own_s2 r rv kk gg)), .val (.int (1 : Int32)), .unset, .unset, .unset, .unset, .unset]) rfl ?_
    show Steps p.tables e below (T45.setTop (mkF m 376 #[.val (.int p1), .val (.int p2), .val (.int p3), .val (.int p4), .val (.ref bt), .val (.int (0 : Int32)), .val (.int (1 : Int32)), .val (.int (2 : Int32)), .val (.int (3 : Int32)), .val (.ref be), .val (.int (own_rI r)), .val (.int (own_bI rv)), .val (.int (own_o0 r)), .val (.int (own_o1 r rv)), .val (.int (own_o2 r rv)), .val (.ref bo), .val (.int (own_kI kk)), .val (.ref bs), .val (.int (own_bI ff)), .val (.int (own_bI gg)), .val (.int (own_s0 r rv kk gg)), .val (.int (own_s1 r rv kk gg)), .val (.int (own_s2 r rv kk gg)), .val (.int (1 : Int32)), .unset, .unset, .unset, .unset, .unset] [])) _
    refine XS.iload X45.here hx rfl (hb hby at_376) rfl ?_
    show Steps p.tables e below (T45.setTop (mkF m 378 #[.val (.int p1), .val (.int p2), .val (.int p3), .val (.int p4), .val (.ref bt), .val (.int (0 : Int32)), .val (.int (1 : Int32)), .val (.int (2 : Int32)), .val (.int (3 : Int32)), .val (.ref be), .val (.int (own_rI r)), .val (.int (own_bI rv)), .val (.int (own_o0 r)), .val (.int (own_o1 r rv)), .val (.int (own_o2 r rv)), .val (.ref bo), .val (.int (own_kI kk)), .val (.ref bs), .val (.int (own_bI ff)), .val (.int (own_bI gg)), .val (.int (own_s0 r rv kk gg)), .val (.int (own_s1 r rv kk gg)), .val (.int (own_s2 r rv kk gg)), .val (.int (1 : Int32)), .unset, .unset, .unset, .unset, .unset] [(.int (1 : Int32))])) _
    refine XS.ifNo X45.here hx rfl (hb hby at_378) rfl ((if0 _ _).trans (feq (by decide : ¬ ((1 : Int32) = (0 : Int32)))).1) ?_
    show Steps p.tables e below (T45.setTop (mkF m 381 #[.val (.int p1), .val (.int p2), .val (.int p3), .val (.int p4), .val (.ref bt), .val (.int (0 : Int32)), .val (.int (1 : Int32)), .val (.int (2 : Int32)), .val (.int (3 : Int32)), .val (.ref be), .val (.int (own_rI r)), .val (.int (own_bI rv)), .val (.int (own_o0 r)), .val (.int (own_o1 r rv)), .val (.int (own_o2 r rv)), .val (.ref bo), .val (.int (own_kI kk)), .val (.ref bs), .val (.int (own_bI ff)), .val (.int (own_bI gg)), .val (.int (own_s0 r rv kk gg)), .val (.int (own_s1 r rv kk gg)), .val (.int (own_s2 r rv kk gg)), .val (.int (1 : Int32)), .unset, .unset, .unset, .unset, .unset] [])) _
    refine XS.aload X45.here hx rfl (hb hby at_381) rfl rfl ?_
    show Steps p.tables e below (T45.setTop (mkF m 383 #[.val (.int p1), .val (.int p2), .val (.int p3), .val (.int p4), .val (.ref bt), .val (.int (0 : Int32)), .val (.int (1 : Int32)), .val (.int (2 : Int32)), .val (.int (3 : Int32)), .val (.ref be), .val (.int (own_rI r)), .val (.int (own_bI rv)), .val (.int (own_o0 r)), .val (.int (own_o1 r rv)), .val (.int (own_o2 r rv)), .val (.ref bo), .val (.int (own_kI kk)), .val (.ref bs), .val (.int (own_bI ff)), .val (.int (own_bI gg)), .val (.int (own_s0 r rv kk gg)), .val (.int (own_s1 r rv kk gg)), .val (.int (own_s2 r rv kk gg)), .val (.int (1 : Int32)), .unset, .unset, .unset, .unset, .unset] [(.ref bt)])) _
    refine XS.iload X45.here hx rfl (hb hby at_383) rfl ?_
    show Steps p.tables e below (T45.setTop (mkF m 385 #[.val (.int p1), .val (.int p2), .val (.int p3), .val (.int p4), .val (.ref bt), .val (.int (0 : Int32)), .val (.int (1 : Int32)), .val (.int (2 : Int32)), .val (.int (3 : Int32)), .val (.ref be), .val (.int (own_rI r)), .val (.int (own_bI rv)), .val (.int (own_o0 r)), .val (.int (own_o1 r rv)), .val (.int (own_o2 r rv)), .val (.ref bo), .val (.int (own_kI kk)), .val (.ref bs), .val (.int (own_bI ff)), .val (.int (own_bI gg)), .val (.int (own_s0 r rv kk gg)), .val (.int (own_s1 r rv kk gg)), .val (.int (own_s2 r rv kk gg)), .val (.int (1 : Int32)), .unset, .unset, .unset, .unset, .unset] [(.int (0 : Int32)), (.ref bt)])) _
    refine st46 _ ?_
    show Steps p.tables e below (T46.setTop (mkF m 388 #[.val (.int p1), .val (.int p2), .val (.int p3), .val (.int p4), .val (.ref bt), .val (.int (0 : Int32)), .val (.int (1 : Int32)), .val (.int (2 : Int32)), .val (.int (3 : Int32)), .val (.ref be), .val (.int (own_rI r)), .val (.int (own_bI rv)), .val (.int (own_o0 r)), .val (.int (own_o1 r rv)), .val (.int (own_o2 r rv)), .val (.ref bo), .val (.int (own_kI kk)), .val (.ref bs), .val (.int (own_bI ff)), .val (.int (own_bI gg)), .val (.int (own_s0 r rv kk gg)), .val (.int (own_s1 r rv kk gg)), .val (.int (own_s2 r rv kk gg)), .val (.int (1 : Int32)), .unset, .unset, .unset, .unset, .unset] [(.int (1 : Int32))])) _
    refine XS.iconst X46.here hx rfl (hb hby at_388) ?_
    show Steps p.tables e below (T46.setTop (mkF m 389 #[.val (.int p1), .val (.int p2), .val (.int p3), .val (.int p4), .val (.ref bt), .val (.int (0 : Int32)), .val (.int (1 : Int32)), .val (.int (2 : Int32)), .val (.int (3 : Int32)), .val (.ref be), .val (.int (own_rI r)), .val (.int (own_bI rv)), .val (.int (own_o0 r)), .val (.int (own_o1 r rv)), .val (.int (own_o2 r rv)), .val (.ref bo), .val (.int (own_kI kk)), .val (.ref bs), .val (.int (own_bI ff)), .val (.int (own_bI gg)), .val (.int (own_s0 r rv kk gg)), .val (.int (own_s1 r rv kk gg)), .val (.int (own_s2 r rv kk gg)), .val (.int (1 : Int32)), .unset, .unset, .unset, .unset, .unset] [(.int (1 : Int32)), (.int (1 : Int32))])) _
    refine XS.icmpNo X46.here hx rfl (hb hby at_389) rfl (teq (rfl : (1 : Int32) = (1 : Int32))).2 ?_
    show Steps p.tables e below (T46.setTop (mkF m 392 #[.val (.int p1), .val (.int p2), .val (.int p3), .val (.int p4), .val (.ref bt), .val (.int (0 : Int32)), .val (.int (1 : Int32)), .val (.int (2 : Int32)), .val (.int (3 : Int32)), .val (.ref be), .val (.int (own_rI r)), .val (.int (own_bI rv)), .val (.int (own_o0 r)), .val (.int (own_o1 r rv)), .val (.int (own_o2 r rv)), .val (.ref bo), .val (.int (own_kI kk)), .val (.ref bs), .val (.int (own_bI ff)), .val (.int (own_bI gg)), .val (.int (own_s0 r rv kk gg)), .val (.int (own_s1 r rv kk gg)), .val (.int (own_s2 r rv kk gg)), .val (.int (1 : Int32)), .unset, .unset, .unset, .unset, .unset] [])) _
    refine XS.aload X46.here hx rfl (hb hby at_392) rfl rfl ?_
    show Steps p.tables e below (T46.setTop (mkF m 394 #[.val (.int p1), .val (.int p2), .val (.int p3), .val (.int p4), .val (.ref bt), .val (.int (0 : Int32)), .val (.int (1 : Int32)), .val (.int (2 : Int32)), .val (.int (3 : Int32)), .val (.ref be), .val (.int (own_rI r)), .val (.int (own_bI rv)), .val (.int (own_o0 r)), .val (.int (own_o1 r rv)), .val (.int (own_o2 r rv)), .val (.ref bo), .val (.int (own_kI kk)), .val (.ref bs), .val (.int (own_bI ff)), .val (.int (own_bI gg)), .val (.int (own_s0 r rv kk gg)), .val (.int (own_s1 r rv kk gg)), .val (.int (own_s2 r rv kk gg)), .val (.int (1 : Int32)), .unset, .unset, .unset, .unset, .unset] [(.ref bt)])) _
    refine XS.iload X46.here hx rfl (hb hby at_394) rfl ?_
    show Steps p.tables e below (T46.setTop (mkF m 396 #[.val (.int p1), .val (.int p2), .val (.int p3), .val (.int p4), .val (.ref bt), .val (.int (0 : Int32)), .val (.int (1 : Int32)), .val (.int (2 : Int32)), .val (.int (3 : Int32)), .val (.ref be), .val (.int (own_rI r)), .val (.int (own_bI rv)), .val (.int (own_o0 r)), .val (.int (own_o1 r rv)), .val (.int (own_o2 r rv)), .val (.ref bo), .val (.int (own_kI kk)), .val (.ref bs), .val (.int (own_bI ff)), .val (.int (own_bI gg)), .val (.int (own_s0 r rv kk gg)), .val (.int (own_s1 r rv kk gg)), .val (.int (own_s2 r rv kk gg)), .val (.int (1 : Int32)), .unset, .unset, .unset, .unset, .unset] [(.int (2 : Int32)), (.ref bt)])) _
    refine st47 _ ?_
    show Steps p.tables e below (T47.setTop (mkF m 399 #[.val (.int p1), .val (.int p2), .val (.int p3), .val (.int p4), .val (.ref bt), .val (.int (0 : Int32)), .val (.int (1 : Int32)), .val (.int (2 : Int32)), .val (.int (3 : Int32)), .val (.ref be), .val (.int (own_rI r)), .val (.int (own_bI rv)), .val (.int (own_o0 r)), .val (.int (own_o1 r rv)), .val (.int (own_o2 r rv)), .val (.ref bo), .val (.int (own_kI kk)), .val (.ref bs), .val (.int (own_bI ff)), .val (.int (own_bI gg)), .val (.int (own_s0 r rv kk gg)), .val (.int (own_s1 r rv kk gg)), .val (.int (own_s2 r rv kk gg)), .val (.int (1 : Int32)), .unset, .unset, .unset, .unset, .unset] [(.int (1 : Int32))])) _
    refine XS.iconst X47.here hx rfl (hb hby at_399) ?_
    show Steps p.tables e below (T47.setTop (mkF m 400 #[.val (.int p1), .val (.int p2), .val (.int p3), .val (.int p4), .val (.ref bt), .val (.int (0 : Int32)), .val (.int (1 : Int32)), .val (.int (2 : Int32)), .val (.int (3 : Int32)), .val (.ref be), .val (.int (own_rI r)), .val (.int (own_bI rv)), .val (.int (own_o0 r)), .val (.int (own_o1 r rv)), .val (.int (own_o2 r rv)), .val (.ref bo), .val (.int (own_kI kk)), .val (.ref bs), .val (.int (own_bI ff)), .val (.int (own_bI gg)), .val (.int (own_s0 r rv kk gg)), .val (.int (own_s1 r rv kk gg)), .val (.int (own_s2 r rv kk gg)), .val (.int (1 : Int32)), .unset, .unset, .unset, .unset, .unset] [(.int (1 : Int32)), (.int (1 : Int32))])) _
    refine XS.icmpNo X47.here hx rfl (hb hby at_400) rfl (teq (rfl : (1 : Int32) = (1 : Int32))).2 ?_
    show Steps p.tables e below (T47.setTop (mkF m 403 #[.val (.int p1), .val (.int p2), .val (.int p3), .val (.int p4), .val (.ref bt), .val (.int (0 : Int32)), .val (.int (1 : Int32)), .val (.int (2 : Int32)), .val (.int (3 : Int32)), .val (.ref be), .val (.int (own_rI r)), .val (.int (own_bI rv)), .val (.int (own_o0 r)), .val (.int (own_o1 r rv)), .val (.int (own_o2 r rv)), .val (.ref bo), .val (.int (own_kI kk)), .val (.ref bs), .val (.int (own_bI ff)), .val (.int (own_bI gg)), .val (.int (own_s0 r rv kk gg)), .val (.int (own_s1 r rv kk gg)), .val (.int (own_s2 r rv kk gg)), .val (.int (1 : Int32)), .unset, .unset, .unset, .unset, .unset] [])) _
    refine XS.aload X47.here hx rfl (hb hby at_403) rfl rfl ?_
    show Steps p.tables e below (T47.setTop (mkF m 405 #[.val (.int p1), .val (.int p2), .val (.int p3), .val (.int p4), .val (.ref bt), .val (.int (0 : Int32)), .val (.int (1 : Int32)), .val (.int (2 : Int32)), .val (.int (3 : Int32)), .val (.ref be), .val (.int (own_rI r)), .val (.int (own_bI rv)), .val (.int (own_o0 r)), .val (.int (own_o1 r rv)), .val (.int (own_o2 r rv)), .val (.ref bo), .val (.int (own_kI kk)), .val (.ref bs), .val (.int (own_bI ff)), .val (.int (own_bI gg)), .val (.int (own_s0 r rv kk gg)), .val (.int (own_s1 r rv kk gg)), .val (.int (own_s2 r rv kk gg)), .val (.int (1 : Int32)), .unset, .unset, .unset, .unset, .unset] [(.ref bt)])) _
    refine XS.iload X47.here hx rfl (hb hby at_405) rfl ?_
    show Steps p.tables e below (T47.setTop (mkF m 407 #[.val (.int p1), .val (.int p2), .val (.int p3), .val (.int p4), .val (.ref bt), .val (.int (0 : Int32)), .val (.int (1 : Int32)), .val (.int (2 : Int32)), .val (.int (3 : Int32)), .val (.ref be), .val (.int (own_rI r)), .val (.int (own_bI rv)), .val (.int (own_o0 r)), .val (.int (own_o1 r rv)), .val (.int (own_o2 r rv)), .val (.ref bo), .val (.int (own_kI kk)), .val (.ref bs), .val (.int (own_bI ff)), .val (.int (own_bI gg)), .val (.int (own_s0 r rv kk gg)), .val (.int (own_s1 r rv kk gg)), .val (.int (own_s2 r rv kk gg)), .val (.int (1 : Int32)), .unset, .unset, .unset, .unset, .unset] [(.int (3 : Int32)), (.ref bt)])) _
    refine st48 _ ?_
    show Steps p.tables e below (T48.setTop (mkF m 410 #[.val (.int p1), .val (.int p2), .val (.int p3), .val (.int p4), .val (.ref bt), .val (.int (0 : Int32)), .val (.int (1 : Int32)), .val (.int (2 : Int32)), .val (.int (3 : Int32)), .val (.ref be), .val (.int (own_rI r)), .val (.int (own_bI rv)), .val (.int (own_o0 r)), .val (.int (own_o1 r rv)), .val (.int (own_o2 r rv)), .val (.ref bo), .val (.int (own_kI kk)), .val (.ref bs), .val (.int (own_bI ff)), .val (.int (own_bI gg)), .val (.int (own_s0 r rv kk gg)), .val (.int (own_s1 r rv kk gg)), .val (.int (own_s2 r rv kk gg)), .val (.int (1 : Int32)), .unset, .unset, .unset, .unset, .unset] [(.int (1 : Int32))])) _
    refine XS.iconst X48.here hx rfl (hb hby at_410) ?_
    show Steps p.tables e below (T48.setTop (mkF m 411 #[.val (.int p1), .val (.int p2), .val (.int p3), .val (.int p4), .val (.ref bt), .val (.int (0 : Int32)), .val (.int (1 : Int32)), .val (.int (2 : Int32)), .val (.int (3 : Int32)), .val (.ref be), .val (.int (own_rI r)), .val (.int (own_bI rv)), .val (.int (own_o0 r)), .val (.int (own_o1 r rv)), .val (.int (own_o2 r rv)), .val (.ref bo), .val (.int (own_kI kk)), .val (.ref bs), .val (.int (own_bI ff)), .val (.int (own_bI gg)), .val (.int (own_s0 r rv kk gg)), .val (.int (own_s1 r rv kk gg)), .val (.int (own_s2 r rv kk gg)), .val (.int (1 : Int32)), .unset, .unset, .unset, .unset, .unset] [(.int (1 : Int32)), (.int (1 : Int32))])) _
    refine XS.icmpNo X48.here hx rfl (hb hby at_411) rfl (teq (rfl : (1 : Int32) = (1 : Int32))).2 ?_
    show Steps p.tables e below (T48.setTop (mkF m 414 #[.val (.int p1), .val (.int p2), .val (.int p3), .val (.int p4), .val (.ref bt), .val (.int (0 : Int32)), .val (.int (1 : Int32)), .val (.int (2 : Int32)), .val (.int (3 : Int32)), .val (.ref be), .val (.int (own_rI r)), .val (.int (own_bI rv)), .val (.int (own_o0 r)), .val (.int (own_o1 r rv)), .val (.int (own_o2 r rv)), .val (.ref bo), .val (.int (own_kI kk)), .val (.ref bs), .val (.int (own_bI ff)), .val (.int (own_bI gg)), .val (.int (own_s0 r rv kk gg)), .val (.int (own_s1 r rv kk gg)), .val (.int (own_s2 r rv kk gg)), .val (.int (1 : Int32)), .unset, .unset, .unset, .unset, .unset] [])) _
    refine XS.aload X48.here hx rfl (hb hby at_414) rfl rfl ?_
    show Steps p.tables e below (T48.setTop (mkF m 416 #[.val (.int p1), .val (.int p2), .val (.int p3), .val (.int p4), .val (.ref bt), .val (.int (0 : Int32)), .val (.int (1 : Int32)), .val (.int (2 : Int32)), .val (.int (3 : Int32)), .val (.ref be), .val (.int (own_rI r)), .val (.int (own_bI rv)), .val (.int (own_o0 r)), .val (.int (own_o1 r rv)), .val (.int (own_o2 r rv)), .val (.ref bo), .val (.int (own_kI kk)), .val (.ref bs), .val (.int (own_bI ff)), .val (.int (own_bI gg)), .val (.int (own_s0 r rv kk gg)), .val (.int (own_s1 r rv kk gg)), .val (.int (own_s2 r rv kk gg)), .val (.int (1 : Int32)), .unset, .unset, .unset, .unset, .unset] [(.ref bt)])) _
    refine XS.iload X48.here hx rfl (hb hby at_416) rfl ?_
    show Steps p.tables e below (T48.setTop (mkF m 418 #[.val (.int p1), .val (.int p2), .val (.int p3), .val (.int p4), .val (.ref bt), .val (.int (0 : Int32)), .val (.int (1 : Int32)), .val (.int (2 : Int32)), .val (.int (3 : Int32)), .val (.ref be), .val (.int (own_rI r)), .val (.int (own_bI rv)), .val (.int (own_o0 r)), .val (.int (own_o1 r rv)), .val (.int (own_o2 r rv)), .val (.ref bo), .val (.int (own_kI kk)), .val (.ref bs), .val (.int (own_bI ff)), .val (.int (own_bI gg)), .val (.int (own_s0 r rv kk gg)), .val (.int (own_s1 r rv kk gg)), .val (.int (own_s2 r rv kk gg)), .val (.int (1 : Int32)), .unset, .unset, .unset, .unset, .unset] [(.int (1 : Int32)), (.ref bt)])) _
    refine st49 _ ?_
    show Steps p.tables e below (T49.setTop (mkF m 421 #[.val (.int p1), .val (.int p2), .val (.int p3), .val (.int p4), .val (.ref bt), .val (.int (0 : Int32)), .val (.int (1 : Int32)), .val (.int (2 : Int32)), .val (.int (3 : Int32)), .val (.ref be), .val (.int (own_rI r)), .val (.int (own_bI rv)), .val (.int (own_o0 r)), .val (.int (own_o1 r rv)), .val (.int (own_o2 r rv)), .val (.ref bo), .val (.int (own_kI kk)), .val (.ref bs), .val (.int (own_bI ff)), .val (.int (own_bI gg)), .val (.int (own_s0 r rv kk gg)), .val (.int (own_s1 r rv kk gg)), .val (.int (own_s2 r rv kk gg)), .val (.int (1 : Int32)), .unset, .unset, .unset, .unset, .unset] [(.int (-1 : Int32))])) _
    refine XS.iconst X49.here hx rfl (hb hby at_421) ?_
    show Steps p.tables e below (T49.setTop (mkF m 422 #[.val (.int p1), .val (.int p2), .val (.int p3), .val (.int p4), .val (.ref bt), .val (.int (0 : Int32)), .val (.int (1 : Int32)), .val (.int (2 : Int32)), .val (.int (3 : Int32)), .val (.ref be), .val (.int (own_rI r)), .val (.int (own_bI rv)), .val (.int (own_o0 r)), .val (.int (own_o1 r rv)), .val (.int (own_o2 r rv)), .val (.ref bo), .val (.int (own_kI kk)), .val (.ref bs), .val (.int (own_bI ff)), .val (.int (own_bI gg)), .val (.int (own_s0 r rv kk gg)), .val (.int (own_s1 r rv kk gg)), .val (.int (own_s2 r rv kk gg)), .val (.int (1 : Int32)), .unset, .unset, .unset, .unset, .unset] [(.int (-1 : Int32)), (.int (-1 : Int32))])) _
    refine XS.icmpNo X49.here hx rfl (hb hby at_422) rfl (teq (rfl : (-1 : Int32) = (-1 : Int32))).2 ?_
    show Steps p.tables e below (T49.setTop (mkF m 425 #[.val (.int p1), .val (.int p2), .val (.int p3), .val (.int p4), .val (.ref bt), .val (.int (0 : Int32)), .val (.int (1 : Int32)), .val (.int (2 : Int32)), .val (.int (3 : Int32)), .val (.ref be), .val (.int (own_rI r)), .val (.int (own_bI rv)), .val (.int (own_o0 r)), .val (.int (own_o1 r rv)), .val (.int (own_o2 r rv)), .val (.ref bo), .val (.int (own_kI kk)), .val (.ref bs), .val (.int (own_bI ff)), .val (.int (own_bI gg)), .val (.int (own_s0 r rv kk gg)), .val (.int (own_s1 r rv kk gg)), .val (.int (own_s2 r rv kk gg)), .val (.int (1 : Int32)), .unset, .unset, .unset, .unset, .unset] [])) _
    refine XS.iconst X49.here hx rfl (hb hby at_425) ?_
    show Steps p.tables e below (T49.setTop (mkF m 426 #[.val (.int p1), .val (.int p2), .val (.int p3), .val (.int p4), .val (.ref bt), .val (.int (0 : Int32)), .val (.int (1 : Int32)), .val (.int (2 : Int32)), .val (.int (3 : Int32)), .val (.ref be), .val (.int (own_rI r)), .val (.int (own_bI rv)), .val (.int (own_o0 r)), .val (.int (own_o1 r rv)), .val (.int (own_o2 r rv)), .val (.ref bo), .val (.int (own_kI kk)), .val (.ref bs), .val (.int (own_bI ff)), .val (.int (own_bI gg)), .val (.int (own_s0 r rv kk gg)), .val (.int (own_s1 r rv kk gg)), .val (.int (own_s2 r rv kk gg)), .val (.int (1 : Int32)), .unset, .unset, .unset, .unset, .unset] [(.int (1 : Int32))])) _
    refine XS.goto X49.here hx rfl (pc0 := 426) (pc' := 430) rfl (hb hby at_426) (by decide) (by decide) ?_
    show Steps p.tables e below (T49.setTop (mkF m 430 #[.val (.int p1), .val (.int p2), .val (.int p3), .val (.int p4), .val (.ref bt), .val (.int (0 : Int32)), .val (.int (1 : Int32)), .val (.int (2 : Int32)), .val (.int (3 : Int32)), .val (.ref be), .val (.int (own_rI r)), .val (.int (own_bI rv)), .val (.int (own_o0 r)), .val (.int (own_o1 r rv)), .val (.int (own_o2 r rv)), .val (.ref bo), .val (.int (own_kI kk)), .val (.ref bs), .val (.int (own_bI ff)), .val (.int (own_bI gg)), .val (.int (own_s0 r rv kk gg)), .val (.int (own_s1 r rv kk gg)), .val (.int (own_s2 r rv kk gg)), .val (.int (1 : Int32)), .unset, .unset, .unset, .unset, .unset] [(.int (1 : Int32))])) _
    refine XS.istore X49.here hx rfl (hb hby at_430) rfl (l' := #[.val (.int p1), .val (.int p2), .val (.int p3), .val (.int p4), .val (.ref bt), .val (.int (0 : Int32)), .val (.int (1 : Int32)), .val (.int (2 : Int32)), .val (.int (3 : Int32)), .val (.ref be), .val (.int (own_rI r)), .val (.int (own_bI rv)), .val (.int (own_o0 r)), .val (.int (own_o1 r rv)), .val (.int (own_o2 r rv)), .val (.ref bo), .val (.int (own_kI kk)), .val (.ref bs), .val (.int (own_bI ff)), .val (.int (own_bI gg)), .val (.int (own_s0 r rv kk gg)), .val (.int (own_s1 r rv kk gg)), .val (.int (own_s2 r rv kk gg)), .val (.int (1 : Int32)), .unset, .unset, .unset, .unset, .unset]) rfl ?_
    show Steps p.tables e below (T49.setTop (mkF m 432 #[.val (.int p1), .val (.int p2), .val (.int p3), .val (.int p4), .val (.ref bt), .val (.int (0 : Int32)), .val (.int (1 : Int32)), .val (.int (2 : Int32)), .val (.int (3 : Int32)), .val (.ref be), .val (.int (own_rI r)), .val (.int (own_bI rv)), .val (.int (own_o0 r)), .val (.int (own_o1 r rv)), .val (.int (own_o2 r rv)), .val (.ref bo), .val (.int (own_kI kk)), .val (.ref bs), .val (.int (own_bI ff)), .val (.int (own_bI gg)), .val (.int (own_s0 r rv kk gg)), .val (.int (own_s1 r rv kk gg)), .val (.int (own_s2 r rv kk gg)), .val (.int (1 : Int32)), .unset, .unset, .unset, .unset, .unset] [])) _
    refine XS.iload X49.here hx rfl (hb hby at_432) rfl ?_
    show Steps p.tables e below (T49.setTop (mkF m 434 #[.val (.int p1), .val (.int p2), .val (.int p3), .val (.int p4), .val (.ref bt), .val (.int (0 : Int32)), .val (.int (1 : Int32)), .val (.int (2 : Int32)), .val (.int (3 : Int32)), .val (.ref be), .val (.int (own_rI r)), .val (.int (own_bI rv)), .val (.int (own_o0 r)), .val (.int (own_o1 r rv)), .val (.int (own_o2 r rv)), .val (.ref bo), .val (.int (own_kI kk)), .val (.ref bs), .val (.int (own_bI ff)), .val (.int (own_bI gg)), .val (.int (own_s0 r rv kk gg)), .val (.int (own_s1 r rv kk gg)), .val (.int (own_s2 r rv kk gg)), .val (.int (1 : Int32)), .unset, .unset, .unset, .unset, .unset] [(.int (1 : Int32))])) _
    refine XS.ifYes X49.here hx rfl (pc0 := 434) (pc' := 439) rfl (hb hby at_434) rfl ((if0 _ _).trans (feq (by decide : ¬ ((1 : Int32) = (0 : Int32)))).2) (by decide) (by decide) ?_
    show Steps p.tables e below (T49.setTop (mkF m 439 #[.val (.int p1), .val (.int p2), .val (.int p3), .val (.int p4), .val (.ref bt), .val (.int (0 : Int32)), .val (.int (1 : Int32)), .val (.int (2 : Int32)), .val (.int (3 : Int32)), .val (.ref be), .val (.int (own_rI r)), .val (.int (own_bI rv)), .val (.int (own_o0 r)), .val (.int (own_o1 r rv)), .val (.int (own_o2 r rv)), .val (.ref bo), .val (.int (own_kI kk)), .val (.ref bs), .val (.int (own_bI ff)), .val (.int (own_bI gg)), .val (.int (own_s0 r rv kk gg)), .val (.int (own_s1 r rv kk gg)), .val (.int (own_s2 r rv kk gg)), .val (.int (1 : Int32)), .unset, .unset, .unset, .unset, .unset] [])) _
    refine XS.iloadN X49.here hx rfl (hb hby at_439) rfl ?_
    show Steps p.tables e below (T49.setTop (mkF m 440 #[.val (.int p1), .val (.int p2), .val (.int p3), .val (.int p4), .val (.ref bt), .val (.int (0 : Int32)), .val (.int (1 : Int32)), .val (.int (2 : Int32)), .val (.int (3 : Int32)), .val (.ref be), .val (.int (own_rI r)), .val (.int (own_bI rv)), .val (.int (own_o0 r)), .val (.int (own_o1 r rv)), .val (.int (own_o2 r rv)), .val (.ref bo), .val (.int (own_kI kk)), .val (.ref bs), .val (.int (own_bI ff)), .val (.int (own_bI gg)), .val (.int (own_s0 r rv kk gg)), .val (.int (own_s1 r rv kk gg)), .val (.int (own_s2 r rv kk gg)), .val (.int (1 : Int32)), .unset, .unset, .unset, .unset, .unset] [(.int p4)])) _
    refine X49.ldcInt hx hown (mvT hZ (hw _ (List.mem_of_getElem? (i := 47) rfl))) (g := (mkF m 440 #[.val (.int p1), .val (.int p2), .val (.int p3), .val (.int p4), .val (.ref bt), .val (.int (0 : Int32)), .val (.int (1 : Int32)), .val (.int (2 : Int32)), .val (.int (3 : Int32)), .val (.ref be), .val (.int (own_rI r)), .val (.int (own_bI rv)), .val (.int (own_o0 r)), .val (.int (own_o1 r rv)), .val (.int (own_o2 r rv)), .val (.ref bo), .val (.int (own_kI kk)), .val (.ref bs), .val (.int (own_bI ff)), .val (.int (own_bI gg)), .val (.int (own_s0 r rv kk gg)), .val (.int (own_s1 r rv kk gg)), .val (.int (own_s2 r rv kk gg)), .val (.int (1 : Int32)), .unset, .unset, .unset, .unset, .unset] [(.int p4)])) rfl (hb hby at_440) _ ?_
    show Steps p.tables e below (T49.setTop (mkF m 442 #[.val (.int p1), .val (.int p2), .val (.int p3), .val (.int p4), .val (.ref bt), .val (.int (0 : Int32)), .val (.int (1 : Int32)), .val (.int (2 : Int32)), .val (.int (3 : Int32)), .val (.ref be), .val (.int (own_rI r)), .val (.int (own_bI rv)), .val (.int (own_o0 r)), .val (.int (own_o1 r rv)), .val (.int (own_o2 r rv)), .val (.ref bo), .val (.int (own_kI kk)), .val (.ref bs), .val (.int (own_bI ff)), .val (.int (own_bI gg)), .val (.int (own_s0 r rv kk gg)), .val (.int (own_s1 r rv kk gg)), .val (.int (own_s2 r rv kk gg)), .val (.int (1 : Int32)), .unset, .unset, .unset, .unset, .unset] [(.int (2147483647 : Int32)), (.int p4)])) _
    refine XS.iand X49.here hx rfl (hb hby at_442) rfl ?_
    show Steps p.tables e below (T49.setTop (mkF m 443 #[.val (.int p1), .val (.int p2), .val (.int p3), .val (.int p4), .val (.ref bt), .val (.int (0 : Int32)), .val (.int (1 : Int32)), .val (.int (2 : Int32)), .val (.int (3 : Int32)), .val (.ref be), .val (.int (own_rI r)), .val (.int (own_bI rv)), .val (.int (own_o0 r)), .val (.int (own_o1 r rv)), .val (.int (own_o2 r rv)), .val (.ref bo), .val (.int (own_kI kk)), .val (.ref bs), .val (.int (own_bI ff)), .val (.int (own_bI gg)), .val (.int (own_s0 r rv kk gg)), .val (.int (own_s1 r rv kk gg)), .val (.int (own_s2 r rv kk gg)), .val (.int (1 : Int32)), .unset, .unset, .unset, .unset, .unset] [(.int (p4 &&& (2147483647 : Int32)))])) _
    refine XS.iconst X49.here hx rfl (hb hby at_443) ?_
    show Steps p.tables e below (T49.setTop (mkF m 444 #[.val (.int p1), .val (.int p2), .val (.int p3), .val (.int p4), .val (.ref bt), .val (.int (0 : Int32)), .val (.int (1 : Int32)), .val (.int (2 : Int32)), .val (.int (3 : Int32)), .val (.ref be), .val (.int (own_rI r)), .val (.int (own_bI rv)), .val (.int (own_o0 r)), .val (.int (own_o1 r rv)), .val (.int (own_o2 r rv)), .val (.ref bo), .val (.int (own_kI kk)), .val (.ref bs), .val (.int (own_bI ff)), .val (.int (own_bI gg)), .val (.int (own_s0 r rv kk gg)), .val (.int (own_s1 r rv kk gg)), .val (.int (own_s2 r rv kk gg)), .val (.int (1 : Int32)), .unset, .unset, .unset, .unset, .unset] [(.int (3 : Int32)), (.int (p4 &&& (2147483647 : Int32)))])) _
    refine iremM (g := (mkF m 444 #[.val (.int p1), .val (.int p2), .val (.int p3), .val (.int p4), .val (.ref bt), .val (.int (0 : Int32)), .val (.int (1 : Int32)), .val (.int (2 : Int32)), .val (.int (3 : Int32)), .val (.ref be), .val (.int (own_rI r)), .val (.int (own_bI rv)), .val (.int (own_o0 r)), .val (.int (own_o1 r rv)), .val (.int (own_o2 r rv)), .val (.ref bo), .val (.int (own_kI kk)), .val (.ref bs), .val (.int (own_bI ff)), .val (.int (own_bI gg)), .val (.int (own_s0 r rv kk gg)), .val (.int (own_s1 r rv kk gg)), .val (.int (own_s2 r rv kk gg)), .val (.int (1 : Int32)), .unset, .unset, .unset, .unset, .unset] [(.int (3 : Int32)), (.int (p4 &&& (2147483647 : Int32)))])) X49 hx rfl (hb hby at_444) rfl (by decide) ?_
    show Steps p.tables e below (T49.setTop (mkF m 445 #[.val (.int p1), .val (.int p2), .val (.int p3), .val (.int p4), .val (.ref bt), .val (.int (0 : Int32)), .val (.int (1 : Int32)), .val (.int (2 : Int32)), .val (.int (3 : Int32)), .val (.ref be), .val (.int (own_rI r)), .val (.int (own_bI rv)), .val (.int (own_o0 r)), .val (.int (own_o1 r rv)), .val (.int (own_o2 r rv)), .val (.ref bo), .val (.int (own_kI kk)), .val (.ref bs), .val (.int (own_bI ff)), .val (.int (own_bI gg)), .val (.int (own_s0 r rv kk gg)), .val (.int (own_s1 r rv kk gg)), .val (.int (own_s2 r rv kk gg)), .val (.int (1 : Int32)), .unset, .unset, .unset, .unset, .unset] [(.int ((p4 &&& (2147483647 : Int32)) % (3 : Int32)))])) _
    refine XS.istore X49.here hx rfl (hb hby at_445) rfl (l' := #[.val (.int p1), .val (.int p2), .val (.int p3), .val (.int p4), .val (.ref bt), .val (.int (0 : Int32)), .val (.int (1 : Int32)), .val (.int (2 : Int32)), .val (.int (3 : Int32)), .val (.ref be), .val (.int (own_rI r)), .val (.int (own_bI rv)), .val (.int (own_o0 r)), .val (.int (own_o1 r rv)), .val (.int (own_o2 r rv)), .val (.ref bo), .val (.int (own_kI kk)), .val (.ref bs), .val (.int (own_bI ff)), .val (.int (own_bI gg)), .val (.int (own_s0 r rv kk gg)), .val (.int (own_s1 r rv kk gg)), .val (.int (own_s2 r rv kk gg)), .val (.int (1 : Int32)), .val (.int ((p4 &&& (2147483647 : Int32)) % (3 : Int32))), .unset, .unset, .unset, .unset]) rfl ?_
    exact k)
  obtain ⟨jj, hj⟩ := own_r3 p4
  rw [← h_j_] at hj
  subst hj
  obtain ⟨xq, h_xq⟩ : ∃ z : Int32, z = own_xx r rv kk gg jj := ⟨_, rfl⟩
  have pre51 : ∀ t, Steps p.tables e below (T49.setTop (mkF m 470 #[.val (.int p1), .val (.int p2), .val (.int p3), .val (.int p4), .val (.ref bt), .val (.int (0 : Int32)), .val (.int (1 : Int32)), .val (.int (2 : Int32)), .val (.int (3 : Int32)), .val (.ref be), .val (.int (own_rI r)), .val (.int (own_bI rv)), .val (.int (own_o0 r)), .val (.int (own_o1 r rv)), .val (.int (own_o2 r rv)), .val (.ref bo), .val (.int (own_kI kk)), .val (.ref bs), .val (.int (own_bI ff)), .val (.int (own_bI gg)), .val (.int (own_s0 r rv kk gg)), .val (.int (own_s1 r rv kk gg)), .val (.int (own_s2 r rv kk gg)), .val (.int (1 : Int32)), .val (.int (own_rI jj)), .unset, .unset, .unset, .unset] [(.int xq)])) t → Steps p.tables e below (s₁.setTop (entryFrame m #[(.int p1), (.int p2), (.int p3), (.int p4)] maxLocals)) t := fun t k => pre50 t (by
    by_cases h1 : own_rI jj = (0 : Int32)
    · have ev := own_j0 h1
      have ev_xq : xq = (own_s0 r rv kk gg) := h_xq.trans (by rw [ev]; rfl)
      rw [ev_xq] at k
      show Steps p.tables e below (T49.setTop (mkF m 447 #[.val (.int p1), .val (.int p2), .val (.int p3), .val (.int p4), .val (.ref bt), .val (.int (0 : Int32)), .val (.int (1 : Int32)), .val (.int (2 : Int32)), .val (.int (3 : Int32)), .val (.ref be), .val (.int (own_rI r)), .val (.int (own_bI rv)), .val (.int (own_o0 r)), .val (.int (own_o1 r rv)), .val (.int (own_o2 r rv)), .val (.ref bo), .val (.int (own_kI kk)), .val (.ref bs), .val (.int (own_bI ff)), .val (.int (own_bI gg)), .val (.int (own_s0 r rv kk gg)), .val (.int (own_s1 r rv kk gg)), .val (.int (own_s2 r rv kk gg)), .val (.int (1 : Int32)), .val (.int (own_rI jj)), .unset, .unset, .unset, .unset] [])) _
      refine XS.iload X49.here hx rfl (hb hby at_447) rfl ?_
      show Steps p.tables e below (T49.setTop (mkF m 449 #[.val (.int p1), .val (.int p2), .val (.int p3), .val (.int p4), .val (.ref bt), .val (.int (0 : Int32)), .val (.int (1 : Int32)), .val (.int (2 : Int32)), .val (.int (3 : Int32)), .val (.ref be), .val (.int (own_rI r)), .val (.int (own_bI rv)), .val (.int (own_o0 r)), .val (.int (own_o1 r rv)), .val (.int (own_o2 r rv)), .val (.ref bo), .val (.int (own_kI kk)), .val (.ref bs), .val (.int (own_bI ff)), .val (.int (own_bI gg)), .val (.int (own_s0 r rv kk gg)), .val (.int (own_s1 r rv kk gg)), .val (.int (own_s2 r rv kk gg)), .val (.int (1 : Int32)), .val (.int (own_rI jj)), .unset, .unset, .unset, .unset] [(.int (own_rI jj))])) _
      refine XS.ifNo X49.here hx rfl (hb hby at_449) rfl ((if0 _ _).trans (teq (h1 : (own_rI jj) = (0 : Int32))).2) ?_
      show Steps p.tables e below (T49.setTop (mkF m 452 #[.val (.int p1), .val (.int p2), .val (.int p3), .val (.int p4), .val (.ref bt), .val (.int (0 : Int32)), .val (.int (1 : Int32)), .val (.int (2 : Int32)), .val (.int (3 : Int32)), .val (.ref be), .val (.int (own_rI r)), .val (.int (own_bI rv)), .val (.int (own_o0 r)), .val (.int (own_o1 r rv)), .val (.int (own_o2 r rv)), .val (.ref bo), .val (.int (own_kI kk)), .val (.ref bs), .val (.int (own_bI ff)), .val (.int (own_bI gg)), .val (.int (own_s0 r rv kk gg)), .val (.int (own_s1 r rv kk gg)), .val (.int (own_s2 r rv kk gg)), .val (.int (1 : Int32)), .val (.int (own_rI jj)), .unset, .unset, .unset, .unset] [])) _
      refine XS.iload X49.here hx rfl (hb hby at_452) rfl ?_
      show Steps p.tables e below (T49.setTop (mkF m 454 #[.val (.int p1), .val (.int p2), .val (.int p3), .val (.int p4), .val (.ref bt), .val (.int (0 : Int32)), .val (.int (1 : Int32)), .val (.int (2 : Int32)), .val (.int (3 : Int32)), .val (.ref be), .val (.int (own_rI r)), .val (.int (own_bI rv)), .val (.int (own_o0 r)), .val (.int (own_o1 r rv)), .val (.int (own_o2 r rv)), .val (.ref bo), .val (.int (own_kI kk)), .val (.ref bs), .val (.int (own_bI ff)), .val (.int (own_bI gg)), .val (.int (own_s0 r rv kk gg)), .val (.int (own_s1 r rv kk gg)), .val (.int (own_s2 r rv kk gg)), .val (.int (1 : Int32)), .val (.int (own_rI jj)), .unset, .unset, .unset, .unset] [(.int (own_s0 r rv kk gg))])) _
      refine XS.goto X49.here hx rfl (pc0 := 454) (pc' := 470) rfl (hb hby at_454) (by decide) (by decide) ?_
      exact k
    · by_cases h2 : own_rI jj = (1 : Int32)
      · have ev := own_j1 h2
        have ev_xq : xq = (own_s1 r rv kk gg) := h_xq.trans (by rw [ev]; rfl)
        rw [ev_xq] at k
        show Steps p.tables e below (T49.setTop (mkF m 447 #[.val (.int p1), .val (.int p2), .val (.int p3), .val (.int p4), .val (.ref bt), .val (.int (0 : Int32)), .val (.int (1 : Int32)), .val (.int (2 : Int32)), .val (.int (3 : Int32)), .val (.ref be), .val (.int (own_rI r)), .val (.int (own_bI rv)), .val (.int (own_o0 r)), .val (.int (own_o1 r rv)), .val (.int (own_o2 r rv)), .val (.ref bo), .val (.int (own_kI kk)), .val (.ref bs), .val (.int (own_bI ff)), .val (.int (own_bI gg)), .val (.int (own_s0 r rv kk gg)), .val (.int (own_s1 r rv kk gg)), .val (.int (own_s2 r rv kk gg)), .val (.int (1 : Int32)), .val (.int (own_rI jj)), .unset, .unset, .unset, .unset] [])) _
        refine XS.iload X49.here hx rfl (hb hby at_447) rfl ?_
        show Steps p.tables e below (T49.setTop (mkF m 449 #[.val (.int p1), .val (.int p2), .val (.int p3), .val (.int p4), .val (.ref bt), .val (.int (0 : Int32)), .val (.int (1 : Int32)), .val (.int (2 : Int32)), .val (.int (3 : Int32)), .val (.ref be), .val (.int (own_rI r)), .val (.int (own_bI rv)), .val (.int (own_o0 r)), .val (.int (own_o1 r rv)), .val (.int (own_o2 r rv)), .val (.ref bo), .val (.int (own_kI kk)), .val (.ref bs), .val (.int (own_bI ff)), .val (.int (own_bI gg)), .val (.int (own_s0 r rv kk gg)), .val (.int (own_s1 r rv kk gg)), .val (.int (own_s2 r rv kk gg)), .val (.int (1 : Int32)), .val (.int (own_rI jj)), .unset, .unset, .unset, .unset] [(.int (own_rI jj))])) _
        refine XS.ifYes X49.here hx rfl (pc0 := 449) (pc' := 457) rfl (hb hby at_449) rfl ((if0 _ _).trans (feq (h1 : ¬ ((own_rI jj) = (0 : Int32)))).2) (by decide) (by decide) ?_
        show Steps p.tables e below (T49.setTop (mkF m 457 #[.val (.int p1), .val (.int p2), .val (.int p3), .val (.int p4), .val (.ref bt), .val (.int (0 : Int32)), .val (.int (1 : Int32)), .val (.int (2 : Int32)), .val (.int (3 : Int32)), .val (.ref be), .val (.int (own_rI r)), .val (.int (own_bI rv)), .val (.int (own_o0 r)), .val (.int (own_o1 r rv)), .val (.int (own_o2 r rv)), .val (.ref bo), .val (.int (own_kI kk)), .val (.ref bs), .val (.int (own_bI ff)), .val (.int (own_bI gg)), .val (.int (own_s0 r rv kk gg)), .val (.int (own_s1 r rv kk gg)), .val (.int (own_s2 r rv kk gg)), .val (.int (1 : Int32)), .val (.int (own_rI jj)), .unset, .unset, .unset, .unset] [])) _
        refine XS.iload X49.here hx rfl (hb hby at_457) rfl ?_
        show Steps p.tables e below (T49.setTop (mkF m 459 #[.val (.int p1), .val (.int p2), .val (.int p3), .val (.int p4), .val (.ref bt), .val (.int (0 : Int32)), .val (.int (1 : Int32)), .val (.int (2 : Int32)), .val (.int (3 : Int32)), .val (.ref be), .val (.int (own_rI r)), .val (.int (own_bI rv)), .val (.int (own_o0 r)), .val (.int (own_o1 r rv)), .val (.int (own_o2 r rv)), .val (.ref bo), .val (.int (own_kI kk)), .val (.ref bs), .val (.int (own_bI ff)), .val (.int (own_bI gg)), .val (.int (own_s0 r rv kk gg)), .val (.int (own_s1 r rv kk gg)), .val (.int (own_s2 r rv kk gg)), .val (.int (1 : Int32)), .val (.int (own_rI jj)), .unset, .unset, .unset, .unset] [(.int (own_rI jj))])) _
        refine XS.iconst X49.here hx rfl (hb hby at_459) ?_
        show Steps p.tables e below (T49.setTop (mkF m 460 #[.val (.int p1), .val (.int p2), .val (.int p3), .val (.int p4), .val (.ref bt), .val (.int (0 : Int32)), .val (.int (1 : Int32)), .val (.int (2 : Int32)), .val (.int (3 : Int32)), .val (.ref be), .val (.int (own_rI r)), .val (.int (own_bI rv)), .val (.int (own_o0 r)), .val (.int (own_o1 r rv)), .val (.int (own_o2 r rv)), .val (.ref bo), .val (.int (own_kI kk)), .val (.ref bs), .val (.int (own_bI ff)), .val (.int (own_bI gg)), .val (.int (own_s0 r rv kk gg)), .val (.int (own_s1 r rv kk gg)), .val (.int (own_s2 r rv kk gg)), .val (.int (1 : Int32)), .val (.int (own_rI jj)), .unset, .unset, .unset, .unset] [(.int (1 : Int32)), (.int (own_rI jj))])) _
        refine XS.icmpNo X49.here hx rfl (hb hby at_460) rfl (teq (h2 : (own_rI jj) = (1 : Int32))).2 ?_
        show Steps p.tables e below (T49.setTop (mkF m 463 #[.val (.int p1), .val (.int p2), .val (.int p3), .val (.int p4), .val (.ref bt), .val (.int (0 : Int32)), .val (.int (1 : Int32)), .val (.int (2 : Int32)), .val (.int (3 : Int32)), .val (.ref be), .val (.int (own_rI r)), .val (.int (own_bI rv)), .val (.int (own_o0 r)), .val (.int (own_o1 r rv)), .val (.int (own_o2 r rv)), .val (.ref bo), .val (.int (own_kI kk)), .val (.ref bs), .val (.int (own_bI ff)), .val (.int (own_bI gg)), .val (.int (own_s0 r rv kk gg)), .val (.int (own_s1 r rv kk gg)), .val (.int (own_s2 r rv kk gg)), .val (.int (1 : Int32)), .val (.int (own_rI jj)), .unset, .unset, .unset, .unset] [])) _
        refine XS.iload X49.here hx rfl (hb hby at_463) rfl ?_
        show Steps p.tables e below (T49.setTop (mkF m 465 #[.val (.int p1), .val (.int p2), .val (.int p3), .val (.int p4), .val (.ref bt), .val (.int (0 : Int32)), .val (.int (1 : Int32)), .val (.int (2 : Int32)), .val (.int (3 : Int32)), .val (.ref be), .val (.int (own_rI r)), .val (.int (own_bI rv)), .val (.int (own_o0 r)), .val (.int (own_o1 r rv)), .val (.int (own_o2 r rv)), .val (.ref bo), .val (.int (own_kI kk)), .val (.ref bs), .val (.int (own_bI ff)), .val (.int (own_bI gg)), .val (.int (own_s0 r rv kk gg)), .val (.int (own_s1 r rv kk gg)), .val (.int (own_s2 r rv kk gg)), .val (.int (1 : Int32)), .val (.int (own_rI jj)), .unset, .unset, .unset, .unset] [(.int (own_s1 r rv kk gg))])) _
        refine XS.goto X49.here hx rfl (pc0 := 465) (pc' := 470) rfl (hb hby at_465) (by decide) (by decide) ?_
        exact k
      · have ev := own_j01 h1 h2
        have ev_xq : xq = (own_s2 r rv kk gg) := h_xq.trans (by rw [ev]; rfl)
        rw [ev_xq] at k
        show Steps p.tables e below (T49.setTop (mkF m 447 #[.val (.int p1), .val (.int p2), .val (.int p3), .val (.int p4), .val (.ref bt), .val (.int (0 : Int32)), .val (.int (1 : Int32)), .val (.int (2 : Int32)), .val (.int (3 : Int32)), .val (.ref be), .val (.int (own_rI r)), .val (.int (own_bI rv)), .val (.int (own_o0 r)), .val (.int (own_o1 r rv)), .val (.int (own_o2 r rv)), .val (.ref bo), .val (.int (own_kI kk)), .val (.ref bs), .val (.int (own_bI ff)), .val (.int (own_bI gg)), .val (.int (own_s0 r rv kk gg)), .val (.int (own_s1 r rv kk gg)), .val (.int (own_s2 r rv kk gg)), .val (.int (1 : Int32)), .val (.int (own_rI jj)), .unset, .unset, .unset, .unset] [])) _
        refine XS.iload X49.here hx rfl (hb hby at_447) rfl ?_
        show Steps p.tables e below (T49.setTop (mkF m 449 #[.val (.int p1), .val (.int p2), .val (.int p3), .val (.int p4), .val (.ref bt), .val (.int (0 : Int32)), .val (.int (1 : Int32)), .val (.int (2 : Int32)), .val (.int (3 : Int32)), .val (.ref be), .val (.int (own_rI r)), .val (.int (own_bI rv)), .val (.int (own_o0 r)), .val (.int (own_o1 r rv)), .val (.int (own_o2 r rv)), .val (.ref bo), .val (.int (own_kI kk)), .val (.ref bs), .val (.int (own_bI ff)), .val (.int (own_bI gg)), .val (.int (own_s0 r rv kk gg)), .val (.int (own_s1 r rv kk gg)), .val (.int (own_s2 r rv kk gg)), .val (.int (1 : Int32)), .val (.int (own_rI jj)), .unset, .unset, .unset, .unset] [(.int (own_rI jj))])) _
        refine XS.ifYes X49.here hx rfl (pc0 := 449) (pc' := 457) rfl (hb hby at_449) rfl ((if0 _ _).trans (feq (h1 : ¬ ((own_rI jj) = (0 : Int32)))).2) (by decide) (by decide) ?_
        show Steps p.tables e below (T49.setTop (mkF m 457 #[.val (.int p1), .val (.int p2), .val (.int p3), .val (.int p4), .val (.ref bt), .val (.int (0 : Int32)), .val (.int (1 : Int32)), .val (.int (2 : Int32)), .val (.int (3 : Int32)), .val (.ref be), .val (.int (own_rI r)), .val (.int (own_bI rv)), .val (.int (own_o0 r)), .val (.int (own_o1 r rv)), .val (.int (own_o2 r rv)), .val (.ref bo), .val (.int (own_kI kk)), .val (.ref bs), .val (.int (own_bI ff)), .val (.int (own_bI gg)), .val (.int (own_s0 r rv kk gg)), .val (.int (own_s1 r rv kk gg)), .val (.int (own_s2 r rv kk gg)), .val (.int (1 : Int32)), .val (.int (own_rI jj)), .unset, .unset, .unset, .unset] [])) _
        refine XS.iload X49.here hx rfl (hb hby at_457) rfl ?_
        show Steps p.tables e below (T49.setTop (mkF m 459 #[.val (.int p1), .val (.int p2), .val (.int p3), .val (.int p4), .val (.ref bt), .val (.int (0 : Int32)), .val (.int (1 : Int32)), .val (.int (2 : Int32)), .val (.int (3 : Int32)), .val (.ref be), .val (.int (own_rI r)), .val (.int (own_bI rv)), .val (.int (own_o0 r)), .val (.int (own_o1 r rv)), .val (.int (own_o2 r rv)), .val (.ref bo), .val (.int (own_kI kk)), .val (.ref bs), .val (.int (own_bI ff)), .val (.int (own_bI gg)), .val (.int (own_s0 r rv kk gg)), .val (.int (own_s1 r rv kk gg)), .val (.int (own_s2 r rv kk gg)), .val (.int (1 : Int32)), .val (.int (own_rI jj)), .unset, .unset, .unset, .unset] [(.int (own_rI jj))])) _
        refine XS.iconst X49.here hx rfl (hb hby at_459) ?_
        show Steps p.tables e below (T49.setTop (mkF m 460 #[.val (.int p1), .val (.int p2), .val (.int p3), .val (.int p4), .val (.ref bt), .val (.int (0 : Int32)), .val (.int (1 : Int32)), .val (.int (2 : Int32)), .val (.int (3 : Int32)), .val (.ref be), .val (.int (own_rI r)), .val (.int (own_bI rv)), .val (.int (own_o0 r)), .val (.int (own_o1 r rv)), .val (.int (own_o2 r rv)), .val (.ref bo), .val (.int (own_kI kk)), .val (.ref bs), .val (.int (own_bI ff)), .val (.int (own_bI gg)), .val (.int (own_s0 r rv kk gg)), .val (.int (own_s1 r rv kk gg)), .val (.int (own_s2 r rv kk gg)), .val (.int (1 : Int32)), .val (.int (own_rI jj)), .unset, .unset, .unset, .unset] [(.int (1 : Int32)), (.int (own_rI jj))])) _
        refine XS.icmpYes X49.here hx rfl (pc0 := 460) (pc' := 468) rfl (hb hby at_460) rfl (feq (h2 : ¬ ((own_rI jj) = (1 : Int32)))).2 (by decide) (by decide) ?_
        show Steps p.tables e below (T49.setTop (mkF m 468 #[.val (.int p1), .val (.int p2), .val (.int p3), .val (.int p4), .val (.ref bt), .val (.int (0 : Int32)), .val (.int (1 : Int32)), .val (.int (2 : Int32)), .val (.int (3 : Int32)), .val (.ref be), .val (.int (own_rI r)), .val (.int (own_bI rv)), .val (.int (own_o0 r)), .val (.int (own_o1 r rv)), .val (.int (own_o2 r rv)), .val (.ref bo), .val (.int (own_kI kk)), .val (.ref bs), .val (.int (own_bI ff)), .val (.int (own_bI gg)), .val (.int (own_s0 r rv kk gg)), .val (.int (own_s1 r rv kk gg)), .val (.int (own_s2 r rv kk gg)), .val (.int (1 : Int32)), .val (.int (own_rI jj)), .unset, .unset, .unset, .unset] [])) _
        refine XS.iload X49.here hx rfl (hb hby at_468) rfl ?_
        exact k)
  have pre52 : ∀ t, Steps p.tables e below (T49.setTop (mkF m 472 #[.val (.int p1), .val (.int p2), .val (.int p3), .val (.int p4), .val (.ref bt), .val (.int (0 : Int32)), .val (.int (1 : Int32)), .val (.int (2 : Int32)), .val (.int (3 : Int32)), .val (.ref be), .val (.int (own_rI r)), .val (.int (own_bI rv)), .val (.int (own_o0 r)), .val (.int (own_o1 r rv)), .val (.int (own_o2 r rv)), .val (.ref bo), .val (.int (own_kI kk)), .val (.ref bs), .val (.int (own_bI ff)), .val (.int (own_bI gg)), .val (.int (own_s0 r rv kk gg)), .val (.int (own_s1 r rv kk gg)), .val (.int (own_s2 r rv kk gg)), .val (.int (1 : Int32)), .val (.int (own_rI jj)), .val (.int xq), .unset, .unset, .unset] [])) t → Steps p.tables e below (s₁.setTop (entryFrame m #[(.int p1), (.int p2), (.int p3), (.int p4)] maxLocals)) t := fun t k => pre51 t (by
    show Steps p.tables e below (T49.setTop (mkF m 470 #[.val (.int p1), .val (.int p2), .val (.int p3), .val (.int p4), .val (.ref bt), .val (.int (0 : Int32)), .val (.int (1 : Int32)), .val (.int (2 : Int32)), .val (.int (3 : Int32)), .val (.ref be), .val (.int (own_rI r)), .val (.int (own_bI rv)), .val (.int (own_o0 r)), .val (.int (own_o1 r rv)), .val (.int (own_o2 r rv)), .val (.ref bo), .val (.int (own_kI kk)), .val (.ref bs), .val (.int (own_bI ff)), .val (.int (own_bI gg)), .val (.int (own_s0 r rv kk gg)), .val (.int (own_s1 r rv kk gg)), .val (.int (own_s2 r rv kk gg)), .val (.int (1 : Int32)), .val (.int (own_rI jj)), .unset, .unset, .unset, .unset] [(.int xq)])) _
    refine XS.istore X49.here hx rfl (hb hby at_470) rfl (l' := #[.val (.int p1), .val (.int p2), .val (.int p3), .val (.int p4), .val (.ref bt), .val (.int (0 : Int32)), .val (.int (1 : Int32)), .val (.int (2 : Int32)), .val (.int (3 : Int32)), .val (.ref be), .val (.int (own_rI r)), .val (.int (own_bI rv)), .val (.int (own_o0 r)), .val (.int (own_o1 r rv)), .val (.int (own_o2 r rv)), .val (.ref bo), .val (.int (own_kI kk)), .val (.ref bs), .val (.int (own_bI ff)), .val (.int (own_bI gg)), .val (.int (own_s0 r rv kk gg)), .val (.int (own_s1 r rv kk gg)), .val (.int (own_s2 r rv kk gg)), .val (.int (1 : Int32)), .val (.int (own_rI jj)), .val (.int xq), .unset, .unset, .unset]) rfl ?_
    exact k)
  obtain ⟨uq, h_uq⟩ : ∃ z : Int32, z = own_u0 r rv kk gg jj := ⟨_, rfl⟩
  have pre53 : ∀ t, Steps p.tables e below (T49.setTop (mkF m 484 #[.val (.int p1), .val (.int p2), .val (.int p3), .val (.int p4), .val (.ref bt), .val (.int (0 : Int32)), .val (.int (1 : Int32)), .val (.int (2 : Int32)), .val (.int (3 : Int32)), .val (.ref be), .val (.int (own_rI r)), .val (.int (own_bI rv)), .val (.int (own_o0 r)), .val (.int (own_o1 r rv)), .val (.int (own_o2 r rv)), .val (.ref bo), .val (.int (own_kI kk)), .val (.ref bs), .val (.int (own_bI ff)), .val (.int (own_bI gg)), .val (.int (own_s0 r rv kk gg)), .val (.int (own_s1 r rv kk gg)), .val (.int (own_s2 r rv kk gg)), .val (.int (1 : Int32)), .val (.int (own_rI jj)), .val (.int xq), .unset, .unset, .unset] [(.int uq)])) t → Steps p.tables e below (s₁.setTop (entryFrame m #[(.int p1), (.int p2), (.int p3), (.int p4)] maxLocals)) t := fun t k => pre52 t (by
    by_cases h1 : own_rI jj = (0 : Int32)
    · have ev := own_j0 h1
      have ev_uq : uq = (own_s1 r rv kk gg) := h_uq.trans (by rw [ev]; rfl)
      rw [ev_uq] at k
      show Steps p.tables e below (T49.setTop (mkF m 472 #[.val (.int p1), .val (.int p2), .val (.int p3), .val (.int p4), .val (.ref bt), .val (.int (0 : Int32)), .val (.int (1 : Int32)), .val (.int (2 : Int32)), .val (.int (3 : Int32)), .val (.ref be), .val (.int (own_rI r)), .val (.int (own_bI rv)), .val (.int (own_o0 r)), .val (.int (own_o1 r rv)), .val (.int (own_o2 r rv)), .val (.ref bo), .val (.int (own_kI kk)), .val (.ref bs), .val (.int (own_bI ff)), .val (.int (own_bI gg)), .val (.int (own_s0 r rv kk gg)), .val (.int (own_s1 r rv kk gg)), .val (.int (own_s2 r rv kk gg)), .val (.int (1 : Int32)), .val (.int (own_rI jj)), .val (.int xq), .unset, .unset, .unset] [])) _
      refine XS.iload X49.here hx rfl (hb hby at_472) rfl ?_
      show Steps p.tables e below (T49.setTop (mkF m 474 #[.val (.int p1), .val (.int p2), .val (.int p3), .val (.int p4), .val (.ref bt), .val (.int (0 : Int32)), .val (.int (1 : Int32)), .val (.int (2 : Int32)), .val (.int (3 : Int32)), .val (.ref be), .val (.int (own_rI r)), .val (.int (own_bI rv)), .val (.int (own_o0 r)), .val (.int (own_o1 r rv)), .val (.int (own_o2 r rv)), .val (.ref bo), .val (.int (own_kI kk)), .val (.ref bs), .val (.int (own_bI ff)), .val (.int (own_bI gg)), .val (.int (own_s0 r rv kk gg)), .val (.int (own_s1 r rv kk gg)), .val (.int (own_s2 r rv kk gg)), .val (.int (1 : Int32)), .val (.int (own_rI jj)), .val (.int xq), .unset, .unset, .unset] [(.int (own_rI jj))])) _
      refine XS.ifNo X49.here hx rfl (hb hby at_474) rfl ((if0 _ _).trans (teq (h1 : (own_rI jj) = (0 : Int32))).2) ?_
      show Steps p.tables e below (T49.setTop (mkF m 477 #[.val (.int p1), .val (.int p2), .val (.int p3), .val (.int p4), .val (.ref bt), .val (.int (0 : Int32)), .val (.int (1 : Int32)), .val (.int (2 : Int32)), .val (.int (3 : Int32)), .val (.ref be), .val (.int (own_rI r)), .val (.int (own_bI rv)), .val (.int (own_o0 r)), .val (.int (own_o1 r rv)), .val (.int (own_o2 r rv)), .val (.ref bo), .val (.int (own_kI kk)), .val (.ref bs), .val (.int (own_bI ff)), .val (.int (own_bI gg)), .val (.int (own_s0 r rv kk gg)), .val (.int (own_s1 r rv kk gg)), .val (.int (own_s2 r rv kk gg)), .val (.int (1 : Int32)), .val (.int (own_rI jj)), .val (.int xq), .unset, .unset, .unset] [])) _
      refine XS.iload X49.here hx rfl (hb hby at_477) rfl ?_
      show Steps p.tables e below (T49.setTop (mkF m 479 #[.val (.int p1), .val (.int p2), .val (.int p3), .val (.int p4), .val (.ref bt), .val (.int (0 : Int32)), .val (.int (1 : Int32)), .val (.int (2 : Int32)), .val (.int (3 : Int32)), .val (.ref be), .val (.int (own_rI r)), .val (.int (own_bI rv)), .val (.int (own_o0 r)), .val (.int (own_o1 r rv)), .val (.int (own_o2 r rv)), .val (.ref bo), .val (.int (own_kI kk)), .val (.ref bs), .val (.int (own_bI ff)), .val (.int (own_bI gg)), .val (.int (own_s0 r rv kk gg)), .val (.int (own_s1 r rv kk gg)), .val (.int (own_s2 r rv kk gg)), .val (.int (1 : Int32)), .val (.int (own_rI jj)), .val (.int xq), .unset, .unset, .unset] [(.int (own_s1 r rv kk gg))])) _
      refine XS.goto X49.here hx rfl (pc0 := 479) (pc' := 484) rfl (hb hby at_479) (by decide) (by decide) ?_
      exact k
    · have ev_uq : uq = (own_s0 r rv kk gg) := h_uq.trans (own_u0n h1)
      rw [ev_uq] at k
      show Steps p.tables e below (T49.setTop (mkF m 472 #[.val (.int p1), .val (.int p2), .val (.int p3), .val (.int p4), .val (.ref bt), .val (.int (0 : Int32)), .val (.int (1 : Int32)), .val (.int (2 : Int32)), .val (.int (3 : Int32)), .val (.ref be), .val (.int (own_rI r)), .val (.int (own_bI rv)), .val (.int (own_o0 r)), .val (.int (own_o1 r rv)), .val (.int (own_o2 r rv)), .val (.ref bo), .val (.int (own_kI kk)), .val (.ref bs), .val (.int (own_bI ff)), .val (.int (own_bI gg)), .val (.int (own_s0 r rv kk gg)), .val (.int (own_s1 r rv kk gg)), .val (.int (own_s2 r rv kk gg)), .val (.int (1 : Int32)), .val (.int (own_rI jj)), .val (.int xq), .unset, .unset, .unset] [])) _
      refine XS.iload X49.here hx rfl (hb hby at_472) rfl ?_
      show Steps p.tables e below (T49.setTop (mkF m 474 #[.val (.int p1), .val (.int p2), .val (.int p3), .val (.int p4), .val (.ref bt), .val (.int (0 : Int32)), .val (.int (1 : Int32)), .val (.int (2 : Int32)), .val (.int (3 : Int32)), .val (.ref be), .val (.int (own_rI r)), .val (.int (own_bI rv)), .val (.int (own_o0 r)), .val (.int (own_o1 r rv)), .val (.int (own_o2 r rv)), .val (.ref bo), .val (.int (own_kI kk)), .val (.ref bs), .val (.int (own_bI ff)), .val (.int (own_bI gg)), .val (.int (own_s0 r rv kk gg)), .val (.int (own_s1 r rv kk gg)), .val (.int (own_s2 r rv kk gg)), .val (.int (1 : Int32)), .val (.int (own_rI jj)), .val (.int xq), .unset, .unset, .unset] [(.int (own_rI jj))])) _
      refine XS.ifYes X49.here hx rfl (pc0 := 474) (pc' := 482) rfl (hb hby at_474) rfl ((if0 _ _).trans (feq (h1 : ¬ ((own_rI jj) = (0 : Int32)))).2) (by decide) (by decide) ?_
      show Steps p.tables e below (T49.setTop (mkF m 482 #[.val (.int p1), .val (.int p2), .val (.int p3), .val (.int p4), .val (.ref bt), .val (.int (0 : Int32)), .val (.int (1 : Int32)), .val (.int (2 : Int32)), .val (.int (3 : Int32)), .val (.ref be), .val (.int (own_rI r)), .val (.int (own_bI rv)), .val (.int (own_o0 r)), .val (.int (own_o1 r rv)), .val (.int (own_o2 r rv)), .val (.ref bo), .val (.int (own_kI kk)), .val (.ref bs), .val (.int (own_bI ff)), .val (.int (own_bI gg)), .val (.int (own_s0 r rv kk gg)), .val (.int (own_s1 r rv kk gg)), .val (.int (own_s2 r rv kk gg)), .val (.int (1 : Int32)), .val (.int (own_rI jj)), .val (.int xq), .unset, .unset, .unset] [])) _
      refine XS.iload X49.here hx rfl (hb hby at_482) rfl ?_
      exact k)
  have pre54 : ∀ t, Steps p.tables e below (T49.setTop (mkF m 486 #[.val (.int p1), .val (.int p2), .val (.int p3), .val (.int p4), .val (.ref bt), .val (.int (0 : Int32)), .val (.int (1 : Int32)), .val (.int (2 : Int32)), .val (.int (3 : Int32)), .val (.ref be), .val (.int (own_rI r)), .val (.int (own_bI rv)), .val (.int (own_o0 r)), .val (.int (own_o1 r rv)), .val (.int (own_o2 r rv)), .val (.ref bo), .val (.int (own_kI kk)), .val (.ref bs), .val (.int (own_bI ff)), .val (.int (own_bI gg)), .val (.int (own_s0 r rv kk gg)), .val (.int (own_s1 r rv kk gg)), .val (.int (own_s2 r rv kk gg)), .val (.int (1 : Int32)), .val (.int (own_rI jj)), .val (.int xq), .val (.int uq), .unset, .unset] [])) t → Steps p.tables e below (s₁.setTop (entryFrame m #[(.int p1), (.int p2), (.int p3), (.int p4)] maxLocals)) t := fun t k => pre53 t (by
    show Steps p.tables e below (T49.setTop (mkF m 484 #[.val (.int p1), .val (.int p2), .val (.int p3), .val (.int p4), .val (.ref bt), .val (.int (0 : Int32)), .val (.int (1 : Int32)), .val (.int (2 : Int32)), .val (.int (3 : Int32)), .val (.ref be), .val (.int (own_rI r)), .val (.int (own_bI rv)), .val (.int (own_o0 r)), .val (.int (own_o1 r rv)), .val (.int (own_o2 r rv)), .val (.ref bo), .val (.int (own_kI kk)), .val (.ref bs), .val (.int (own_bI ff)), .val (.int (own_bI gg)), .val (.int (own_s0 r rv kk gg)), .val (.int (own_s1 r rv kk gg)), .val (.int (own_s2 r rv kk gg)), .val (.int (1 : Int32)), .val (.int (own_rI jj)), .val (.int xq), .unset, .unset, .unset] [(.int uq)])) _
    refine XS.istore X49.here hx rfl (hb hby at_484) rfl (l' := #[.val (.int p1), .val (.int p2), .val (.int p3), .val (.int p4), .val (.ref bt), .val (.int (0 : Int32)), .val (.int (1 : Int32)), .val (.int (2 : Int32)), .val (.int (3 : Int32)), .val (.ref be), .val (.int (own_rI r)), .val (.int (own_bI rv)), .val (.int (own_o0 r)), .val (.int (own_o1 r rv)), .val (.int (own_o2 r rv)), .val (.ref bo), .val (.int (own_kI kk)), .val (.ref bs), .val (.int (own_bI ff)), .val (.int (own_bI gg)), .val (.int (own_s0 r rv kk gg)), .val (.int (own_s1 r rv kk gg)), .val (.int (own_s2 r rv kk gg)), .val (.int (1 : Int32)), .val (.int (own_rI jj)), .val (.int xq), .val (.int uq), .unset, .unset]) rfl ?_
    exact k)
  obtain ⟨wq, h_wq⟩ : ∃ z : Int32, z = own_u1 r rv kk gg jj := ⟨_, rfl⟩
  have pre55 : ∀ t, Steps p.tables e below (T49.setTop (mkF m 499 #[.val (.int p1), .val (.int p2), .val (.int p3), .val (.int p4), .val (.ref bt), .val (.int (0 : Int32)), .val (.int (1 : Int32)), .val (.int (2 : Int32)), .val (.int (3 : Int32)), .val (.ref be), .val (.int (own_rI r)), .val (.int (own_bI rv)), .val (.int (own_o0 r)), .val (.int (own_o1 r rv)), .val (.int (own_o2 r rv)), .val (.ref bo), .val (.int (own_kI kk)), .val (.ref bs), .val (.int (own_bI ff)), .val (.int (own_bI gg)), .val (.int (own_s0 r rv kk gg)), .val (.int (own_s1 r rv kk gg)), .val (.int (own_s2 r rv kk gg)), .val (.int (1 : Int32)), .val (.int (own_rI jj)), .val (.int xq), .val (.int uq), .unset, .unset] [(.int wq)])) t → Steps p.tables e below (s₁.setTop (entryFrame m #[(.int p1), (.int p2), (.int p3), (.int p4)] maxLocals)) t := fun t k => pre54 t (by
    by_cases h1 : own_rI jj = (2 : Int32)
    · have ev := own_j2 h1
      have ev_wq : wq = (own_s1 r rv kk gg) := h_wq.trans (by rw [ev]; rfl)
      rw [ev_wq] at k
      show Steps p.tables e below (T49.setTop (mkF m 486 #[.val (.int p1), .val (.int p2), .val (.int p3), .val (.int p4), .val (.ref bt), .val (.int (0 : Int32)), .val (.int (1 : Int32)), .val (.int (2 : Int32)), .val (.int (3 : Int32)), .val (.ref be), .val (.int (own_rI r)), .val (.int (own_bI rv)), .val (.int (own_o0 r)), .val (.int (own_o1 r rv)), .val (.int (own_o2 r rv)), .val (.ref bo), .val (.int (own_kI kk)), .val (.ref bs), .val (.int (own_bI ff)), .val (.int (own_bI gg)), .val (.int (own_s0 r rv kk gg)), .val (.int (own_s1 r rv kk gg)), .val (.int (own_s2 r rv kk gg)), .val (.int (1 : Int32)), .val (.int (own_rI jj)), .val (.int xq), .val (.int uq), .unset, .unset] [])) _
      refine XS.iload X49.here hx rfl (hb hby at_486) rfl ?_
      show Steps p.tables e below (T49.setTop (mkF m 488 #[.val (.int p1), .val (.int p2), .val (.int p3), .val (.int p4), .val (.ref bt), .val (.int (0 : Int32)), .val (.int (1 : Int32)), .val (.int (2 : Int32)), .val (.int (3 : Int32)), .val (.ref be), .val (.int (own_rI r)), .val (.int (own_bI rv)), .val (.int (own_o0 r)), .val (.int (own_o1 r rv)), .val (.int (own_o2 r rv)), .val (.ref bo), .val (.int (own_kI kk)), .val (.ref bs), .val (.int (own_bI ff)), .val (.int (own_bI gg)), .val (.int (own_s0 r rv kk gg)), .val (.int (own_s1 r rv kk gg)), .val (.int (own_s2 r rv kk gg)), .val (.int (1 : Int32)), .val (.int (own_rI jj)), .val (.int xq), .val (.int uq), .unset, .unset] [(.int (own_rI jj))])) _
      refine XS.iconst X49.here hx rfl (hb hby at_488) ?_
      show Steps p.tables e below (T49.setTop (mkF m 489 #[.val (.int p1), .val (.int p2), .val (.int p3), .val (.int p4), .val (.ref bt), .val (.int (0 : Int32)), .val (.int (1 : Int32)), .val (.int (2 : Int32)), .val (.int (3 : Int32)), .val (.ref be), .val (.int (own_rI r)), .val (.int (own_bI rv)), .val (.int (own_o0 r)), .val (.int (own_o1 r rv)), .val (.int (own_o2 r rv)), .val (.ref bo), .val (.int (own_kI kk)), .val (.ref bs), .val (.int (own_bI ff)), .val (.int (own_bI gg)), .val (.int (own_s0 r rv kk gg)), .val (.int (own_s1 r rv kk gg)), .val (.int (own_s2 r rv kk gg)), .val (.int (1 : Int32)), .val (.int (own_rI jj)), .val (.int xq), .val (.int uq), .unset, .unset] [(.int (2 : Int32)), (.int (own_rI jj))])) _
      refine XS.icmpNo X49.here hx rfl (hb hby at_489) rfl (teq (h1 : (own_rI jj) = (2 : Int32))).2 ?_
      show Steps p.tables e below (T49.setTop (mkF m 492 #[.val (.int p1), .val (.int p2), .val (.int p3), .val (.int p4), .val (.ref bt), .val (.int (0 : Int32)), .val (.int (1 : Int32)), .val (.int (2 : Int32)), .val (.int (3 : Int32)), .val (.ref be), .val (.int (own_rI r)), .val (.int (own_bI rv)), .val (.int (own_o0 r)), .val (.int (own_o1 r rv)), .val (.int (own_o2 r rv)), .val (.ref bo), .val (.int (own_kI kk)), .val (.ref bs), .val (.int (own_bI ff)), .val (.int (own_bI gg)), .val (.int (own_s0 r rv kk gg)), .val (.int (own_s1 r rv kk gg)), .val (.int (own_s2 r rv kk gg)), .val (.int (1 : Int32)), .val (.int (own_rI jj)), .val (.int xq), .val (.int uq), .unset, .unset] [])) _
      refine XS.iload X49.here hx rfl (hb hby at_492) rfl ?_
      show Steps p.tables e below (T49.setTop (mkF m 494 #[.val (.int p1), .val (.int p2), .val (.int p3), .val (.int p4), .val (.ref bt), .val (.int (0 : Int32)), .val (.int (1 : Int32)), .val (.int (2 : Int32)), .val (.int (3 : Int32)), .val (.ref be), .val (.int (own_rI r)), .val (.int (own_bI rv)), .val (.int (own_o0 r)), .val (.int (own_o1 r rv)), .val (.int (own_o2 r rv)), .val (.ref bo), .val (.int (own_kI kk)), .val (.ref bs), .val (.int (own_bI ff)), .val (.int (own_bI gg)), .val (.int (own_s0 r rv kk gg)), .val (.int (own_s1 r rv kk gg)), .val (.int (own_s2 r rv kk gg)), .val (.int (1 : Int32)), .val (.int (own_rI jj)), .val (.int xq), .val (.int uq), .unset, .unset] [(.int (own_s1 r rv kk gg))])) _
      refine XS.goto X49.here hx rfl (pc0 := 494) (pc' := 499) rfl (hb hby at_494) (by decide) (by decide) ?_
      exact k
    · have ev_wq : wq = (own_s2 r rv kk gg) := h_wq.trans (own_u1n h1)
      rw [ev_wq] at k
      show Steps p.tables e below (T49.setTop (mkF m 486 #[.val (.int p1), .val (.int p2), .val (.int p3), .val (.int p4), .val (.ref bt), .val (.int (0 : Int32)), .val (.int (1 : Int32)), .val (.int (2 : Int32)), .val (.int (3 : Int32)), .val (.ref be), .val (.int (own_rI r)), .val (.int (own_bI rv)), .val (.int (own_o0 r)), .val (.int (own_o1 r rv)), .val (.int (own_o2 r rv)), .val (.ref bo), .val (.int (own_kI kk)), .val (.ref bs), .val (.int (own_bI ff)), .val (.int (own_bI gg)), .val (.int (own_s0 r rv kk gg)), .val (.int (own_s1 r rv kk gg)), .val (.int (own_s2 r rv kk gg)), .val (.int (1 : Int32)), .val (.int (own_rI jj)), .val (.int xq), .val (.int uq), .unset, .unset] [])) _
      refine XS.iload X49.here hx rfl (hb hby at_486) rfl ?_
      show Steps p.tables e below (T49.setTop (mkF m 488 #[.val (.int p1), .val (.int p2), .val (.int p3), .val (.int p4), .val (.ref bt), .val (.int (0 : Int32)), .val (.int (1 : Int32)), .val (.int (2 : Int32)), .val (.int (3 : Int32)), .val (.ref be), .val (.int (own_rI r)), .val (.int (own_bI rv)), .val (.int (own_o0 r)), .val (.int (own_o1 r rv)), .val (.int (own_o2 r rv)), .val (.ref bo), .val (.int (own_kI kk)), .val (.ref bs), .val (.int (own_bI ff)), .val (.int (own_bI gg)), .val (.int (own_s0 r rv kk gg)), .val (.int (own_s1 r rv kk gg)), .val (.int (own_s2 r rv kk gg)), .val (.int (1 : Int32)), .val (.int (own_rI jj)), .val (.int xq), .val (.int uq), .unset, .unset] [(.int (own_rI jj))])) _
      refine XS.iconst X49.here hx rfl (hb hby at_488) ?_
      show Steps p.tables e below (T49.setTop (mkF m 489 #[.val (.int p1), .val (.int p2), .val (.int p3), .val (.int p4), .val (.ref bt), .val (.int (0 : Int32)), .val (.int (1 : Int32)), .val (.int (2 : Int32)), .val (.int (3 : Int32)), .val (.ref be), .val (.int (own_rI r)), .val (.int (own_bI rv)), .val (.int (own_o0 r)), .val (.int (own_o1 r rv)), .val (.int (own_o2 r rv)), .val (.ref bo), .val (.int (own_kI kk)), .val (.ref bs), .val (.int (own_bI ff)), .val (.int (own_bI gg)), .val (.int (own_s0 r rv kk gg)), .val (.int (own_s1 r rv kk gg)), .val (.int (own_s2 r rv kk gg)), .val (.int (1 : Int32)), .val (.int (own_rI jj)), .val (.int xq), .val (.int uq), .unset, .unset] [(.int (2 : Int32)), (.int (own_rI jj))])) _
      refine XS.icmpYes X49.here hx rfl (pc0 := 489) (pc' := 497) rfl (hb hby at_489) rfl (feq (h1 : ¬ ((own_rI jj) = (2 : Int32)))).2 (by decide) (by decide) ?_
      show Steps p.tables e below (T49.setTop (mkF m 497 #[.val (.int p1), .val (.int p2), .val (.int p3), .val (.int p4), .val (.ref bt), .val (.int (0 : Int32)), .val (.int (1 : Int32)), .val (.int (2 : Int32)), .val (.int (3 : Int32)), .val (.ref be), .val (.int (own_rI r)), .val (.int (own_bI rv)), .val (.int (own_o0 r)), .val (.int (own_o1 r rv)), .val (.int (own_o2 r rv)), .val (.ref bo), .val (.int (own_kI kk)), .val (.ref bs), .val (.int (own_bI ff)), .val (.int (own_bI gg)), .val (.int (own_s0 r rv kk gg)), .val (.int (own_s1 r rv kk gg)), .val (.int (own_s2 r rv kk gg)), .val (.int (1 : Int32)), .val (.int (own_rI jj)), .val (.int xq), .val (.int uq), .unset, .unset] [])) _
      refine XS.iload X49.here hx rfl (hb hby at_497) rfl ?_
      exact k)
  have pre56 : ∀ t, Steps p.tables e below (T49.setTop (mkF m 501 #[.val (.int p1), .val (.int p2), .val (.int p3), .val (.int p4), .val (.ref bt), .val (.int (0 : Int32)), .val (.int (1 : Int32)), .val (.int (2 : Int32)), .val (.int (3 : Int32)), .val (.ref be), .val (.int (own_rI r)), .val (.int (own_bI rv)), .val (.int (own_o0 r)), .val (.int (own_o1 r rv)), .val (.int (own_o2 r rv)), .val (.ref bo), .val (.int (own_kI kk)), .val (.ref bs), .val (.int (own_bI ff)), .val (.int (own_bI gg)), .val (.int (own_s0 r rv kk gg)), .val (.int (own_s1 r rv kk gg)), .val (.int (own_s2 r rv kk gg)), .val (.int (1 : Int32)), .val (.int (own_rI jj)), .val (.int xq), .val (.int uq), .val (.int wq), .unset] [])) t → Steps p.tables e below (s₁.setTop (entryFrame m #[(.int p1), (.int p2), (.int p3), (.int p4)] maxLocals)) t := fun t k => pre55 t (by
    show Steps p.tables e below (T49.setTop (mkF m 499 #[.val (.int p1), .val (.int p2), .val (.int p3), .val (.int p4), .val (.ref bt), .val (.int (0 : Int32)), .val (.int (1 : Int32)), .val (.int (2 : Int32)), .val (.int (3 : Int32)), .val (.ref be), .val (.int (own_rI r)), .val (.int (own_bI rv)), .val (.int (own_o0 r)), .val (.int (own_o1 r rv)), .val (.int (own_o2 r rv)), .val (.ref bo), .val (.int (own_kI kk)), .val (.ref bs), .val (.int (own_bI ff)), .val (.int (own_bI gg)), .val (.int (own_s0 r rv kk gg)), .val (.int (own_s1 r rv kk gg)), .val (.int (own_s2 r rv kk gg)), .val (.int (1 : Int32)), .val (.int (own_rI jj)), .val (.int xq), .val (.int uq), .unset, .unset] [(.int wq)])) _
    refine XS.istore X49.here hx rfl (hb hby at_499) rfl (l' := #[.val (.int p1), .val (.int p2), .val (.int p3), .val (.int p4), .val (.ref bt), .val (.int (0 : Int32)), .val (.int (1 : Int32)), .val (.int (2 : Int32)), .val (.int (3 : Int32)), .val (.ref be), .val (.int (own_rI r)), .val (.int (own_bI rv)), .val (.int (own_o0 r)), .val (.int (own_o1 r rv)), .val (.int (own_o2 r rv)), .val (.ref bo), .val (.int (own_kI kk)), .val (.ref bs), .val (.int (own_bI ff)), .val (.int (own_bI gg)), .val (.int (own_s0 r rv kk gg)), .val (.int (own_s1 r rv kk gg)), .val (.int (own_s2 r rv kk gg)), .val (.int (1 : Int32)), .val (.int (own_rI jj)), .val (.int xq), .val (.int uq), .val (.int wq), .unset]) rfl ?_
    exact k)
  subst h_xq h_uq h_wq
  obtain ⟨cq57, kq57, q57a, q57b, q57c⟩ := isOf hZ rfl wE33_e49
  obtain ⟨_, _, ⟨T57, L57, k57, n57⟩, -, X57, ⟨Lc57, hQ57, l57, y57, z57⟩, st57⟩ := X49.virtualBack hx (y := (⟨"com/example/reticule/reticule/match/LinkTable", "leaveLine", "(I)I"⟩ : MethodName)) (z := (⟨"com/example/reticule/reticule/match/LinkTable", "leaveLine", "(I)I"⟩ : MethodName)) hown (mvT hZ (hw _ (List.mem_of_getElem? (i := 69) rfl))) (mvT hZ (hw _ (List.mem_of_getElem? (i := 70) rfl))) (notFace_of_selects (args := #[]) (mvT hZ (hw _ (List.mem_of_getElem? (i := 72) rfl)))) (mvT hZ (hw _ (List.mem_of_getElem? (i := 72) rfl))) (mvT hZ (hw _ (List.mem_of_getElem? (i := 71) rfl))) (by decide) (backOf (W := 0) (rm14 l Z a0 hw [] bt br bl (4 : Int32) (own_X7 r rv kk ff gg) (own_xx r rv kk gg jj) (own_X8 r rv kk ff gg jj) (-1 : Int32) T49.heap n0 Z49 ⟨wE33_e49, wR33_e49, wL33_e49, wD33_e49, wU33_e49, wV33_e49, wW33_e49, g_bt, g_br, g_bl, ne_bt_br, ne_bt_bl, ne_br_bl⟩ (own_pX8 r rv kk ff gg jj)) hZ (hw _ (List.mem_of_getElem? (i := 73) rfl)) (hw _ (List.mem_of_getElem? (i := 2) rfl)) (by decide) (by decide)) q57a q57c (g := (mkF m 505 #[.val (.int p1), .val (.int p2), .val (.int p3), .val (.int p4), .val (.ref bt), .val (.int (0 : Int32)), .val (.int (1 : Int32)), .val (.int (2 : Int32)), .val (.int (3 : Int32)), .val (.ref be), .val (.int (own_rI r)), .val (.int (own_bI rv)), .val (.int (own_o0 r)), .val (.int (own_o1 r rv)), .val (.int (own_o2 r rv)), .val (.ref bo), .val (.int (own_kI kk)), .val (.ref bs), .val (.int (own_bI ff)), .val (.int (own_bI gg)), .val (.int (own_s0 r rv kk gg)), .val (.int (own_s1 r rv kk gg)), .val (.int (own_s2 r rv kk gg)), .val (.int (1 : Int32)), .val (.int (own_rI jj)), .val (.int (own_xx r rv kk gg jj)), .val (.int (own_u0 r rv kk gg jj)), .val (.int (own_u1 r rv kk gg jj)), .unset] [(.int (own_xx r rv kk gg jj)), (.ref bt)])) rfl (by rw [hml]; rfl) (Steps.refl _) (argsL := [(.int (own_xx r rv kk gg jj))]) (rest := []) (lenOf pd_14 rfl) rfl (by show 2 * 0 + _ ≤ _; exact Nat.le_of_eq rfl) (hb hby at_505) (fun _ _ => ⟨rfl, rfl, (by decide : 6 + 0 ≤ _), (by decide : 85 + 0 ≤ _)⟩)
  dsimp only [Pt.U, Pt.locs, Pt.cells, Pt.slots] at X57 l57 y57 z57 st57 hQ57
  subst l57 y57 z57
  obtain ⟨rfl, N57q, Kc57, W57⟩ := hQ57
  have N57 := Fr.app N49 N57q
  obtain ⟨wE57, wR57, wL57, wD57, wU57, wV57, wW57, -⟩ := W57
  have V_be'_e57 := V_be'_e49.keep Kc57 (ninS (Ne.symm ne_bt_be) (ninS (Ne.symm ne_br_be) (ninS (Ne.symm ne_bl_be) nin0)))
  have V_bo'_e57 := V_bo'_e49.keep Kc57 (ninS (Ne.symm ne_bt_bo) (ninS (Ne.symm ne_br_bo) (ninS (Ne.symm ne_bl_bo) nin0)))
  have V_bs'_e57 := V_bs'_e49.keep Kc57 (ninS (Ne.symm ne_bt_bs) (ninS (Ne.symm ne_br_bs) (ninS (Ne.symm ne_bl_bs) nin0)))
  have Z57 : n0 ≤ T57.heap.size := Nat.le_trans Z49 Kc57.1
  obtain ⟨_, _, ⟨T58, L58, k58, n58⟩, -, X58, ⟨Lc58, hQ58, l58, y58, z58⟩, st58⟩ := Jvm.LawKit.callS X57 hx (y := (⟨"com/example/reticule/reticule/match/LinkTableLineUpPinLaw", "st", "(Lcom/example/reticule/reticule/match/LinkTable;I)I"⟩ : MethodName)) hown (mvT hZ (hw _ (List.mem_of_getElem? (i := 61) rfl))) (mvT hZ (hw _ (List.mem_of_getElem? (i := 62) rfl))) (mvT hZ (hw _ (List.mem_of_getElem? (i := 20) rfl))) (mvT hZ (hw _ (List.mem_of_getElem? (i := 63) rfl))) (by decide) (backOf (W := 0) (rm12 l Z a0 hw [] bt br bl (4 : Int32) (own_X8 r rv kk ff gg jj) (own_xx r rv kk gg jj) (0 : Int32) T57.heap n0 Z57 ⟨wE57, wR57, wL57, wD57, wU57, wV57, wW57, g_bt, g_br, g_bl, ne_bt_br, ne_bt_bl, ne_br_bl⟩ (own_pM r rv kk ff gg jj).1) hZ (hw _ (List.mem_of_getElem? (i := 63) rfl)) (hw _ (List.mem_of_getElem? (i := 20) rfl)) (by decide) (by decide)) (g := (mkF m 520 #[.val (.int p1), .val (.int p2), .val (.int p3), .val (.int p4), .val (.ref bt), .val (.int (0 : Int32)), .val (.int (1 : Int32)), .val (.int (2 : Int32)), .val (.int (3 : Int32)), .val (.ref be), .val (.int (own_rI r)), .val (.int (own_bI rv)), .val (.int (own_o0 r)), .val (.int (own_o1 r rv)), .val (.int (own_o2 r rv)), .val (.ref bo), .val (.int (own_kI kk)), .val (.ref bs), .val (.int (own_bI ff)), .val (.int (own_bI gg)), .val (.int (own_s0 r rv kk gg)), .val (.int (own_s1 r rv kk gg)), .val (.int (own_s2 r rv kk gg)), .val (.int (1 : Int32)), .val (.int (own_rI jj)), .val (.int (own_xx r rv kk gg jj)), .val (.int (own_u0 r rv kk gg jj)), .val (.int (own_u1 r rv kk gg jj)), .val (.int (-1 : Int32))] [(.int (own_xx r rv kk gg jj)), (.ref bt)])) rfl (by rw [hml]; rfl) (argsL := [(.ref bt), (.int (own_xx r rv kk gg jj))]) (rest := []) (lenOf pd_12 rfl) rfl (by show 2 * 0 + _ ≤ _; exact Nat.le_of_eq rfl) (hb hby at_520) (fun _ _ => ⟨rfl, rfl, (by decide : 6 + 0 ≤ _), (by decide : 85 + 0 ≤ _)⟩)
  dsimp only [Pt.U, Pt.locs, Pt.cells, Pt.slots] at X58 l58 y58 z58 st58 hQ58
  subst l58 y58 z58
  obtain ⟨rfl, N58q, q58⟩ := hQ58
  have N58 := Fr.app N57 N58q
  have K58 : Keep T57.heap T58.heap [] := own_kr q58
  have wE57_e58 := wE57.keep K58
  have wR57_e58 := wR57.keep K58 nin0
  have wL57_e58 := wL57.keep K58 nin0
  have wD57_e58 := wD57.keep K58 nin0
  have wU57_e58 := wU57.keep K58 nin0
  have wV57_e58 := wV57.keep K58 nin0
  have wW57_e58 := wW57.keep K58 nin0
  have V_be'_e58 := V_be'_e57.keep K58 nin0
  have V_bo'_e58 := V_bo'_e57.keep K58 nin0
  have V_bs'_e58 := V_bs'_e57.keep K58 nin0
  have Z58 : n0 ≤ T58.heap.size := Nat.le_trans Z57 K58.1
  obtain ⟨_, _, ⟨T59, L59, k59, n59⟩, -, X59, ⟨Lc59, hQ59, l59, y59, z59⟩, st59⟩ := Jvm.LawKit.callS X58 hx (y := (⟨"com/example/reticule/reticule/match/LinkTableLineUpPinLaw", "nx", "(Lcom/example/reticule/reticule/match/LinkTable;I)I"⟩ : MethodName)) hown (mvT hZ (hw _ (List.mem_of_getElem? (i := 53) rfl))) (mvT hZ (hw _ (List.mem_of_getElem? (i := 54) rfl))) (mvT hZ (hw _ (List.mem_of_getElem? (i := 20) rfl))) (mvT hZ (hw _ (List.mem_of_getElem? (i := 55) rfl))) (by decide) (backOf (W := 0) (rm10 l Z a0 hw [] bt br bl (4 : Int32) (own_X8 r rv kk ff gg jj) (1 : Int32) (own_u0 r rv kk gg jj) T58.heap n0 Z58 ⟨wE57_e58, wR57_e58, wL57_e58, wD57_e58, wU57_e58, wV57_e58, wW57_e58, g_bt, g_br, g_bl, ne_bt_br, ne_bt_bl, ne_br_bl⟩ (own_pM r rv kk ff gg jj).2.1) hZ (hw _ (List.mem_of_getElem? (i := 55) rfl)) (hw _ (List.mem_of_getElem? (i := 20) rfl)) (by decide) (by decide)) (g := (mkF m 530 #[.val (.int p1), .val (.int p2), .val (.int p3), .val (.int p4), .val (.ref bt), .val (.int (0 : Int32)), .val (.int (1 : Int32)), .val (.int (2 : Int32)), .val (.int (3 : Int32)), .val (.ref be), .val (.int (own_rI r)), .val (.int (own_bI rv)), .val (.int (own_o0 r)), .val (.int (own_o1 r rv)), .val (.int (own_o2 r rv)), .val (.ref bo), .val (.int (own_kI kk)), .val (.ref bs), .val (.int (own_bI ff)), .val (.int (own_bI gg)), .val (.int (own_s0 r rv kk gg)), .val (.int (own_s1 r rv kk gg)), .val (.int (own_s2 r rv kk gg)), .val (.int (1 : Int32)), .val (.int (own_rI jj)), .val (.int (own_xx r rv kk gg jj)), .val (.int (own_u0 r rv kk gg jj)), .val (.int (own_u1 r rv kk gg jj)), .val (.int (-1 : Int32))] [(.int (1 : Int32)), (.ref bt)])) rfl (by rw [hml]; rfl) (argsL := [(.ref bt), (.int (1 : Int32))]) (rest := []) (lenOf pd_10 rfl) rfl (by show 2 * 0 + _ ≤ _; exact Nat.le_of_eq rfl) (hb hby at_530) (fun _ _ => ⟨rfl, rfl, (by decide : 6 + 0 ≤ _), (by decide : 85 + 0 ≤ _)⟩)
  dsimp only [Pt.U, Pt.locs, Pt.cells, Pt.slots] at X59 l59 y59 z59 st59 hQ59
  subst l59 y59 z59
  obtain ⟨rfl, N59q, q59⟩ := hQ59
  have N59 := Fr.app N58 N59q
  have K59 : Keep T58.heap T59.heap [] := own_kr q59
  have wE57_e59 := wE57_e58.keep K59
  have wR57_e59 := wR57_e58.keep K59 nin0
  have wL57_e59 := wL57_e58.keep K59 nin0
  have wD57_e59 := wD57_e58.keep K59 nin0
  have wU57_e59 := wU57_e58.keep K59 nin0
  have wV57_e59 := wV57_e58.keep K59 nin0
  have wW57_e59 := wW57_e58.keep K59 nin0
  have V_be'_e59 := V_be'_e58.keep K59 nin0
  have V_bo'_e59 := V_bo'_e58.keep K59 nin0
  have V_bs'_e59 := V_bs'_e58.keep K59 nin0
  have Z59 : n0 ≤ T59.heap.size := Nat.le_trans Z58 K59.1
  obtain ⟨_, _, ⟨T60, L60, k60, n60⟩, -, X60, ⟨Lc60, hQ60, l60, y60, z60⟩, st60⟩ := Jvm.LawKit.callS X59 hx (y := (⟨"com/example/reticule/reticule/match/LinkTableLineUpPinLaw", "nx", "(Lcom/example/reticule/reticule/match/LinkTable;I)I"⟩ : MethodName)) hown (mvT hZ (hw _ (List.mem_of_getElem? (i := 53) rfl))) (mvT hZ (hw _ (List.mem_of_getElem? (i := 54) rfl))) (mvT hZ (hw _ (List.mem_of_getElem? (i := 20) rfl))) (mvT hZ (hw _ (List.mem_of_getElem? (i := 55) rfl))) (by decide) (backOf (W := 0) (rm10 l Z a0 hw [] bt br bl (4 : Int32) (own_X8 r rv kk ff gg jj) (own_u0 r rv kk gg jj) (own_u1 r rv kk gg jj) T59.heap n0 Z59 ⟨wE57_e59, wR57_e59, wL57_e59, wD57_e59, wU57_e59, wV57_e59, wW57_e59, g_bt, g_br, g_bl, ne_bt_br, ne_bt_bl, ne_br_bl⟩ (own_pM r rv kk ff gg jj).2.2.1) hZ (hw _ (List.mem_of_getElem? (i := 55) rfl)) (hw _ (List.mem_of_getElem? (i := 20) rfl)) (by decide) (by decide)) (g := (mkF m 542 #[.val (.int p1), .val (.int p2), .val (.int p3), .val (.int p4), .val (.ref bt), .val (.int (0 : Int32)), .val (.int (1 : Int32)), .val (.int (2 : Int32)), .val (.int (3 : Int32)), .val (.ref be), .val (.int (own_rI r)), .val (.int (own_bI rv)), .val (.int (own_o0 r)), .val (.int (own_o1 r rv)), .val (.int (own_o2 r rv)), .val (.ref bo), .val (.int (own_kI kk)), .val (.ref bs), .val (.int (own_bI ff)), .val (.int (own_bI gg)), .val (.int (own_s0 r rv kk gg)), .val (.int (own_s1 r rv kk gg)), .val (.int (own_s2 r rv kk gg)), .val (.int (1 : Int32)), .val (.int (own_rI jj)), .val (.int (own_xx r rv kk gg jj)), .val (.int (own_u0 r rv kk gg jj)), .val (.int (own_u1 r rv kk gg jj)), .val (.int (-1 : Int32))] [(.int (own_u0 r rv kk gg jj)), (.ref bt)])) rfl (by rw [hml]; rfl) (argsL := [(.ref bt), (.int (own_u0 r rv kk gg jj))]) (rest := []) (lenOf pd_10 rfl) rfl (by show 2 * 0 + _ ≤ _; exact Nat.le_of_eq rfl) (hb hby at_542) (fun _ _ => ⟨rfl, rfl, (by decide : 6 + 0 ≤ _), (by decide : 85 + 0 ≤ _)⟩)
  dsimp only [Pt.U, Pt.locs, Pt.cells, Pt.slots] at X60 l60 y60 z60 st60 hQ60
  subst l60 y60 z60
  obtain ⟨rfl, N60q, q60⟩ := hQ60
  have N60 := Fr.app N59 N60q
  have K60 : Keep T59.heap T60.heap [] := own_kr q60
  have wE57_e60 := wE57_e59.keep K60
  have wR57_e60 := wR57_e59.keep K60 nin0
  have wL57_e60 := wL57_e59.keep K60 nin0
  have wD57_e60 := wD57_e59.keep K60 nin0
  have wU57_e60 := wU57_e59.keep K60 nin0
  have wV57_e60 := wV57_e59.keep K60 nin0
  have wW57_e60 := wW57_e59.keep K60 nin0
  have V_be'_e60 := V_be'_e59.keep K60 nin0
  have V_bo'_e60 := V_bo'_e59.keep K60 nin0
  have V_bs'_e60 := V_bs'_e59.keep K60 nin0
  have Z60 : n0 ≤ T60.heap.size := Nat.le_trans Z59 K60.1
  obtain ⟨_, _, ⟨T61, L61, k61, n61⟩, -, X61, ⟨Lc61, hQ61, l61, y61, z61⟩, st61⟩ := Jvm.LawKit.callS X60 hx (y := (⟨"com/example/reticule/reticule/match/LinkTableLineUpPinLaw", "nx", "(Lcom/example/reticule/reticule/match/LinkTable;I)I"⟩ : MethodName)) hown (mvT hZ (hw _ (List.mem_of_getElem? (i := 53) rfl))) (mvT hZ (hw _ (List.mem_of_getElem? (i := 54) rfl))) (mvT hZ (hw _ (List.mem_of_getElem? (i := 20) rfl))) (mvT hZ (hw _ (List.mem_of_getElem? (i := 55) rfl))) (by decide) (backOf (W := 0) (rm10 l Z a0 hw [] bt br bl (4 : Int32) (own_X8 r rv kk ff gg jj) (own_u1 r rv kk gg jj) (1 : Int32) T60.heap n0 Z60 ⟨wE57_e60, wR57_e60, wL57_e60, wD57_e60, wU57_e60, wV57_e60, wW57_e60, g_bt, g_br, g_bl, ne_bt_br, ne_bt_bl, ne_br_bl⟩ (own_pM r rv kk ff gg jj).2.2.2) hZ (hw _ (List.mem_of_getElem? (i := 55) rfl)) (hw _ (List.mem_of_getElem? (i := 20) rfl)) (by decide) (by decide)) (g := (mkF m 554 #[.val (.int p1), .val (.int p2), .val (.int p3), .val (.int p4), .val (.ref bt), .val (.int (0 : Int32)), .val (.int (1 : Int32)), .val (.int (2 : Int32)), .val (.int (3 : Int32)), .val (.ref be), .val (.int (own_rI r)), .val (.int (own_bI rv)), .val (.int (own_o0 r)), .val (.int (own_o1 r rv)), .val (.int (own_o2 r rv)), .val (.ref bo), .val (.int (own_kI kk)), .val (.ref bs), .val (.int (own_bI ff)), .val (.int (own_bI gg)), .val (.int (own_s0 r rv kk gg)), .val (.int (own_s1 r rv kk gg)), .val (.int (own_s2 r rv kk gg)), .val (.int (1 : Int32)), .val (.int (own_rI jj)), .val (.int (own_xx r rv kk gg jj)), .val (.int (own_u0 r rv kk gg jj)), .val (.int (own_u1 r rv kk gg jj)), .val (.int (-1 : Int32))] [(.int (own_u1 r rv kk gg jj)), (.ref bt)])) rfl (by rw [hml]; rfl) (argsL := [(.ref bt), (.int (own_u1 r rv kk gg jj))]) (rest := []) (lenOf pd_10 rfl) rfl (by show 2 * 0 + _ ≤ _; exact Nat.le_of_eq rfl) (hb hby at_554) (fun _ _ => ⟨rfl, rfl, (by decide : 6 + 0 ≤ _), (by decide : 85 + 0 ≤ _)⟩)
  dsimp only [Pt.U, Pt.locs, Pt.cells, Pt.slots] at X61 l61 y61 z61 st61 hQ61
  subst l61 y61 z61
  obtain ⟨rfl, N61q, q61⟩ := hQ61
  have N61 := Fr.app N60 N61q
  have K61 : Keep T60.heap T61.heap [] := own_kr q61
  have wE57_e61 := wE57_e60.keep K61
  have wR57_e61 := wR57_e60.keep K61 nin0
  have wL57_e61 := wL57_e60.keep K61 nin0
  have wD57_e61 := wD57_e60.keep K61 nin0
  have wU57_e61 := wU57_e60.keep K61 nin0
  have wV57_e61 := wV57_e60.keep K61 nin0
  have wW57_e61 := wW57_e60.keep K61 nin0
  have V_be'_e61 := V_be'_e60.keep K61 nin0
  have V_bo'_e61 := V_bo'_e60.keep K61 nin0
  have V_bs'_e61 := V_bs'_e60.keep K61 nin0
  have Z61 : n0 ≤ T61.heap.size := Nat.le_trans Z60 K61.1
  obtain ⟨fs, hr, hrun, hended, hW, hsame⟩ := X61.leave (v := some (.int (1 : Int32))) (fun h => by rw [Bd.returns] at h; cases h)
  refine ⟨_, _, pre56 _ ?_, hrun, hended, _, _, rfl, ?_, ⟨_, rfl⟩, hW, hsame.mono (by decide) (by decide)⟩
  · show Steps p.tables e below (T49.setTop (mkF m 501 #[.val (.int p1), .val (.int p2), .val (.int p3), .val (.int p4), .val (.ref bt), .val (.int (0 : Int32)), .val (.int (1 : Int32)), .val (.int (2 : Int32)), .val (.int (3 : Int32)), .val (.ref be), .val (.int (own_rI r)), .val (.int (own_bI rv)), .val (.int (own_o0 r)), .val (.int (own_o1 r rv)), .val (.int (own_o2 r rv)), .val (.ref bo), .val (.int (own_kI kk)), .val (.ref bs), .val (.int (own_bI ff)), .val (.int (own_bI gg)), .val (.int (own_s0 r rv kk gg)), .val (.int (own_s1 r rv kk gg)), .val (.int (own_s2 r rv kk gg)), .val (.int (1 : Int32)), .val (.int (own_rI jj)), .val (.int (own_xx r rv kk gg jj)), .val (.int (own_u0 r rv kk gg jj)), .val (.int (own_u1 r rv kk gg jj)), .unset] [])) _
    refine XS.aload X49.here hx rfl (hb hby at_501) rfl rfl ?_
    show Steps p.tables e below (T49.setTop (mkF m 503 #[.val (.int p1), .val (.int p2), .val (.int p3), .val (.int p4), .val (.ref bt), .val (.int (0 : Int32)), .val (.int (1 : Int32)), .val (.int (2 : Int32)), .val (.int (3 : Int32)), .val (.ref be), .val (.int (own_rI r)), .val (.int (own_bI rv)), .val (.int (own_o0 r)), .val (.int (own_o1 r rv)), .val (.int (own_o2 r rv)), .val (.ref bo), .val (.int (own_kI kk)), .val (.ref bs), .val (.int (own_bI ff)), .val (.int (own_bI gg)), .val (.int (own_s0 r rv kk gg)), .val (.int (own_s1 r rv kk gg)), .val (.int (own_s2 r rv kk gg)), .val (.int (1 : Int32)), .val (.int (own_rI jj)), .val (.int (own_xx r rv kk gg jj)), .val (.int (own_u0 r rv kk gg jj)), .val (.int (own_u1 r rv kk gg jj)), .unset] [(.ref bt)])) _
    refine XS.iload X49.here hx rfl (hb hby at_503) rfl ?_
    show Steps p.tables e below (T49.setTop (mkF m 505 #[.val (.int p1), .val (.int p2), .val (.int p3), .val (.int p4), .val (.ref bt), .val (.int (0 : Int32)), .val (.int (1 : Int32)), .val (.int (2 : Int32)), .val (.int (3 : Int32)), .val (.ref be), .val (.int (own_rI r)), .val (.int (own_bI rv)), .val (.int (own_o0 r)), .val (.int (own_o1 r rv)), .val (.int (own_o2 r rv)), .val (.ref bo), .val (.int (own_kI kk)), .val (.ref bs), .val (.int (own_bI ff)), .val (.int (own_bI gg)), .val (.int (own_s0 r rv kk gg)), .val (.int (own_s1 r rv kk gg)), .val (.int (own_s2 r rv kk gg)), .val (.int (1 : Int32)), .val (.int (own_rI jj)), .val (.int (own_xx r rv kk gg jj)), .val (.int (own_u0 r rv kk gg jj)), .val (.int (own_u1 r rv kk gg jj)), .unset] [(.int (own_xx r rv kk gg jj)), (.ref bt)])) _
    refine st57.trans ?_
    show Steps p.tables e below (T57.setTop (mkF m 508 #[.val (.int p1), .val (.int p2), .val (.int p3), .val (.int p4), .val (.ref bt), .val (.int (0 : Int32)), .val (.int (1 : Int32)), .val (.int (2 : Int32)), .val (.int (3 : Int32)), .val (.ref be), .val (.int (own_rI r)), .val (.int (own_bI rv)), .val (.int (own_o0 r)), .val (.int (own_o1 r rv)), .val (.int (own_o2 r rv)), .val (.ref bo), .val (.int (own_kI kk)), .val (.ref bs), .val (.int (own_bI ff)), .val (.int (own_bI gg)), .val (.int (own_s0 r rv kk gg)), .val (.int (own_s1 r rv kk gg)), .val (.int (own_s2 r rv kk gg)), .val (.int (1 : Int32)), .val (.int (own_rI jj)), .val (.int (own_xx r rv kk gg jj)), .val (.int (own_u0 r rv kk gg jj)), .val (.int (own_u1 r rv kk gg jj)), .unset] [(.int (-1 : Int32))])) _
    refine XS.istore X57.here hx rfl (hb hby at_508) rfl (l' := #[.val (.int p1), .val (.int p2), .val (.int p3), .val (.int p4), .val (.ref bt), .val (.int (0 : Int32)), .val (.int (1 : Int32)), .val (.int (2 : Int32)), .val (.int (3 : Int32)), .val (.ref be), .val (.int (own_rI r)), .val (.int (own_bI rv)), .val (.int (own_o0 r)), .val (.int (own_o1 r rv)), .val (.int (own_o2 r rv)), .val (.ref bo), .val (.int (own_kI kk)), .val (.ref bs), .val (.int (own_bI ff)), .val (.int (own_bI gg)), .val (.int (own_s0 r rv kk gg)), .val (.int (own_s1 r rv kk gg)), .val (.int (own_s2 r rv kk gg)), .val (.int (1 : Int32)), .val (.int (own_rI jj)), .val (.int (own_xx r rv kk gg jj)), .val (.int (own_u0 r rv kk gg jj)), .val (.int (own_u1 r rv kk gg jj)), .val (.int (-1 : Int32))]) rfl ?_
    show Steps p.tables e below (T57.setTop (mkF m 510 #[.val (.int p1), .val (.int p2), .val (.int p3), .val (.int p4), .val (.ref bt), .val (.int (0 : Int32)), .val (.int (1 : Int32)), .val (.int (2 : Int32)), .val (.int (3 : Int32)), .val (.ref be), .val (.int (own_rI r)), .val (.int (own_bI rv)), .val (.int (own_o0 r)), .val (.int (own_o1 r rv)), .val (.int (own_o2 r rv)), .val (.ref bo), .val (.int (own_kI kk)), .val (.ref bs), .val (.int (own_bI ff)), .val (.int (own_bI gg)), .val (.int (own_s0 r rv kk gg)), .val (.int (own_s1 r rv kk gg)), .val (.int (own_s2 r rv kk gg)), .val (.int (1 : Int32)), .val (.int (own_rI jj)), .val (.int (own_xx r rv kk gg jj)), .val (.int (own_u0 r rv kk gg jj)), .val (.int (own_u1 r rv kk gg jj)), .val (.int (-1 : Int32))] [])) _
    refine XS.iload X57.here hx rfl (hb hby at_510) rfl ?_
    show Steps p.tables e below (T57.setTop (mkF m 512 #[.val (.int p1), .val (.int p2), .val (.int p3), .val (.int p4), .val (.ref bt), .val (.int (0 : Int32)), .val (.int (1 : Int32)), .val (.int (2 : Int32)), .val (.int (3 : Int32)), .val (.ref be), .val (.int (own_rI r)), .val (.int (own_bI rv)), .val (.int (own_o0 r)), .val (.int (own_o1 r rv)), .val (.int (own_o2 r rv)), .val (.ref bo), .val (.int (own_kI kk)), .val (.ref bs), .val (.int (own_bI ff)), .val (.int (own_bI gg)), .val (.int (own_s0 r rv kk gg)), .val (.int (own_s1 r rv kk gg)), .val (.int (own_s2 r rv kk gg)), .val (.int (1 : Int32)), .val (.int (own_rI jj)), .val (.int (own_xx r rv kk gg jj)), .val (.int (own_u0 r rv kk gg jj)), .val (.int (own_u1 r rv kk gg jj)), .val (.int (-1 : Int32))] [(.int (-1 : Int32))])) _
    refine XS.iconst X57.here hx rfl (hb hby at_512) ?_
    show Steps p.tables e below (T57.setTop (mkF m 513 #[.val (.int p1), .val (.int p2), .val (.int p3), .val (.int p4), .val (.ref bt), .val (.int (0 : Int32)), .val (.int (1 : Int32)), .val (.int (2 : Int32)), .val (.int (3 : Int32)), .val (.ref be), .val (.int (own_rI r)), .val (.int (own_bI rv)), .val (.int (own_o0 r)), .val (.int (own_o1 r rv)), .val (.int (own_o2 r rv)), .val (.ref bo), .val (.int (own_kI kk)), .val (.ref bs), .val (.int (own_bI ff)), .val (.int (own_bI gg)), .val (.int (own_s0 r rv kk gg)), .val (.int (own_s1 r rv kk gg)), .val (.int (own_s2 r rv kk gg)), .val (.int (1 : Int32)), .val (.int (own_rI jj)), .val (.int (own_xx r rv kk gg jj)), .val (.int (own_u0 r rv kk gg jj)), .val (.int (own_u1 r rv kk gg jj)), .val (.int (-1 : Int32))] [(.int (-1 : Int32)), (.int (-1 : Int32))])) _
    refine XS.icmpNo X57.here hx rfl (hb hby at_513) rfl (teq (rfl : (-1 : Int32) = (-1 : Int32))).2 ?_
    show Steps p.tables e below (T57.setTop (mkF m 516 #[.val (.int p1), .val (.int p2), .val (.int p3), .val (.int p4), .val (.ref bt), .val (.int (0 : Int32)), .val (.int (1 : Int32)), .val (.int (2 : Int32)), .val (.int (3 : Int32)), .val (.ref be), .val (.int (own_rI r)), .val (.int (own_bI rv)), .val (.int (own_o0 r)), .val (.int (own_o1 r rv)), .val (.int (own_o2 r rv)), .val (.ref bo), .val (.int (own_kI kk)), .val (.ref bs), .val (.int (own_bI ff)), .val (.int (own_bI gg)), .val (.int (own_s0 r rv kk gg)), .val (.int (own_s1 r rv kk gg)), .val (.int (own_s2 r rv kk gg)), .val (.int (1 : Int32)), .val (.int (own_rI jj)), .val (.int (own_xx r rv kk gg jj)), .val (.int (own_u0 r rv kk gg jj)), .val (.int (own_u1 r rv kk gg jj)), .val (.int (-1 : Int32))] [])) _
    refine XS.aload X57.here hx rfl (hb hby at_516) rfl rfl ?_
    show Steps p.tables e below (T57.setTop (mkF m 518 #[.val (.int p1), .val (.int p2), .val (.int p3), .val (.int p4), .val (.ref bt), .val (.int (0 : Int32)), .val (.int (1 : Int32)), .val (.int (2 : Int32)), .val (.int (3 : Int32)), .val (.ref be), .val (.int (own_rI r)), .val (.int (own_bI rv)), .val (.int (own_o0 r)), .val (.int (own_o1 r rv)), .val (.int (own_o2 r rv)), .val (.ref bo), .val (.int (own_kI kk)), .val (.ref bs), .val (.int (own_bI ff)), .val (.int (own_bI gg)), .val (.int (own_s0 r rv kk gg)), .val (.int (own_s1 r rv kk gg)), .val (.int (own_s2 r rv kk gg)), .val (.int (1 : Int32)), .val (.int (own_rI jj)), .val (.int (own_xx r rv kk gg jj)), .val (.int (own_u0 r rv kk gg jj)), .val (.int (own_u1 r rv kk gg jj)), .val (.int (-1 : Int32))] [(.ref bt)])) _
    refine XS.iload X57.here hx rfl (hb hby at_518) rfl ?_
    show Steps p.tables e below (T57.setTop (mkF m 520 #[.val (.int p1), .val (.int p2), .val (.int p3), .val (.int p4), .val (.ref bt), .val (.int (0 : Int32)), .val (.int (1 : Int32)), .val (.int (2 : Int32)), .val (.int (3 : Int32)), .val (.ref be), .val (.int (own_rI r)), .val (.int (own_bI rv)), .val (.int (own_o0 r)), .val (.int (own_o1 r rv)), .val (.int (own_o2 r rv)), .val (.ref bo), .val (.int (own_kI kk)), .val (.ref bs), .val (.int (own_bI ff)), .val (.int (own_bI gg)), .val (.int (own_s0 r rv kk gg)), .val (.int (own_s1 r rv kk gg)), .val (.int (own_s2 r rv kk gg)), .val (.int (1 : Int32)), .val (.int (own_rI jj)), .val (.int (own_xx r rv kk gg jj)), .val (.int (own_u0 r rv kk gg jj)), .val (.int (own_u1 r rv kk gg jj)), .val (.int (-1 : Int32))] [(.int (own_xx r rv kk gg jj)), (.ref bt)])) _
    refine st58 _ ?_
    show Steps p.tables e below (T58.setTop (mkF m 523 #[.val (.int p1), .val (.int p2), .val (.int p3), .val (.int p4), .val (.ref bt), .val (.int (0 : Int32)), .val (.int (1 : Int32)), .val (.int (2 : Int32)), .val (.int (3 : Int32)), .val (.ref be), .val (.int (own_rI r)), .val (.int (own_bI rv)), .val (.int (own_o0 r)), .val (.int (own_o1 r rv)), .val (.int (own_o2 r rv)), .val (.ref bo), .val (.int (own_kI kk)), .val (.ref bs), .val (.int (own_bI ff)), .val (.int (own_bI gg)), .val (.int (own_s0 r rv kk gg)), .val (.int (own_s1 r rv kk gg)), .val (.int (own_s2 r rv kk gg)), .val (.int (1 : Int32)), .val (.int (own_rI jj)), .val (.int (own_xx r rv kk gg jj)), .val (.int (own_u0 r rv kk gg jj)), .val (.int (own_u1 r rv kk gg jj)), .val (.int (-1 : Int32))] [(.int (0 : Int32))])) _
    refine XS.ifNo X58.here hx rfl (hb hby at_523) rfl ((if0 _ _).trans (teq (rfl : (0 : Int32) = (0 : Int32))).2) ?_
    show Steps p.tables e below (T58.setTop (mkF m 526 #[.val (.int p1), .val (.int p2), .val (.int p3), .val (.int p4), .val (.ref bt), .val (.int (0 : Int32)), .val (.int (1 : Int32)), .val (.int (2 : Int32)), .val (.int (3 : Int32)), .val (.ref be), .val (.int (own_rI r)), .val (.int (own_bI rv)), .val (.int (own_o0 r)), .val (.int (own_o1 r rv)), .val (.int (own_o2 r rv)), .val (.ref bo), .val (.int (own_kI kk)), .val (.ref bs), .val (.int (own_bI ff)), .val (.int (own_bI gg)), .val (.int (own_s0 r rv kk gg)), .val (.int (own_s1 r rv kk gg)), .val (.int (own_s2 r rv kk gg)), .val (.int (1 : Int32)), .val (.int (own_rI jj)), .val (.int (own_xx r rv kk gg jj)), .val (.int (own_u0 r rv kk gg jj)), .val (.int (own_u1 r rv kk gg jj)), .val (.int (-1 : Int32))] [])) _
    refine XS.aload X58.here hx rfl (hb hby at_526) rfl rfl ?_
    show Steps p.tables e below (T58.setTop (mkF m 528 #[.val (.int p1), .val (.int p2), .val (.int p3), .val (.int p4), .val (.ref bt), .val (.int (0 : Int32)), .val (.int (1 : Int32)), .val (.int (2 : Int32)), .val (.int (3 : Int32)), .val (.ref be), .val (.int (own_rI r)), .val (.int (own_bI rv)), .val (.int (own_o0 r)), .val (.int (own_o1 r rv)), .val (.int (own_o2 r rv)), .val (.ref bo), .val (.int (own_kI kk)), .val (.ref bs), .val (.int (own_bI ff)), .val (.int (own_bI gg)), .val (.int (own_s0 r rv kk gg)), .val (.int (own_s1 r rv kk gg)), .val (.int (own_s2 r rv kk gg)), .val (.int (1 : Int32)), .val (.int (own_rI jj)), .val (.int (own_xx r rv kk gg jj)), .val (.int (own_u0 r rv kk gg jj)), .val (.int (own_u1 r rv kk gg jj)), .val (.int (-1 : Int32))] [(.ref bt)])) _
    refine XS.iload X58.here hx rfl (hb hby at_528) rfl ?_
    show Steps p.tables e below (T58.setTop (mkF m 530 #[.val (.int p1), .val (.int p2), .val (.int p3), .val (.int p4), .val (.ref bt), .val (.int (0 : Int32)), .val (.int (1 : Int32)), .val (.int (2 : Int32)), .val (.int (3 : Int32)), .val (.ref be), .val (.int (own_rI r)), .val (.int (own_bI rv)), .val (.int (own_o0 r)), .val (.int (own_o1 r rv)), .val (.int (own_o2 r rv)), .val (.ref bo), .val (.int (own_kI kk)), .val (.ref bs), .val (.int (own_bI ff)), .val (.int (own_bI gg)), .val (.int (own_s0 r rv kk gg)), .val (.int (own_s1 r rv kk gg)), .val (.int (own_s2 r rv kk gg)), .val (.int (1 : Int32)), .val (.int (own_rI jj)), .val (.int (own_xx r rv kk gg jj)), .val (.int (own_u0 r rv kk gg jj)), .val (.int (own_u1 r rv kk gg jj)), .val (.int (-1 : Int32))] [(.int (1 : Int32)), (.ref bt)])) _
    refine st59 _ ?_
    show Steps p.tables e below (T59.setTop (mkF m 533 #[.val (.int p1), .val (.int p2), .val (.int p3), .val (.int p4), .val (.ref bt), .val (.int (0 : Int32)), .val (.int (1 : Int32)), .val (.int (2 : Int32)), .val (.int (3 : Int32)), .val (.ref be), .val (.int (own_rI r)), .val (.int (own_bI rv)), .val (.int (own_o0 r)), .val (.int (own_o1 r rv)), .val (.int (own_o2 r rv)), .val (.ref bo), .val (.int (own_kI kk)), .val (.ref bs), .val (.int (own_bI ff)), .val (.int (own_bI gg)), .val (.int (own_s0 r rv kk gg)), .val (.int (own_s1 r rv kk gg)), .val (.int (own_s2 r rv kk gg)), .val (.int (1 : Int32)), .val (.int (own_rI jj)), .val (.int (own_xx r rv kk gg jj)), .val (.int (own_u0 r rv kk gg jj)), .val (.int (own_u1 r rv kk gg jj)), .val (.int (-1 : Int32))] [(.int (own_u0 r rv kk gg jj))])) _
    refine XS.iload X59.here hx rfl (hb hby at_533) rfl ?_
    show Steps p.tables e below (T59.setTop (mkF m 535 #[.val (.int p1), .val (.int p2), .val (.int p3), .val (.int p4), .val (.ref bt), .val (.int (0 : Int32)), .val (.int (1 : Int32)), .val (.int (2 : Int32)), .val (.int (3 : Int32)), .val (.ref be), .val (.int (own_rI r)), .val (.int (own_bI rv)), .val (.int (own_o0 r)), .val (.int (own_o1 r rv)), .val (.int (own_o2 r rv)), .val (.ref bo), .val (.int (own_kI kk)), .val (.ref bs), .val (.int (own_bI ff)), .val (.int (own_bI gg)), .val (.int (own_s0 r rv kk gg)), .val (.int (own_s1 r rv kk gg)), .val (.int (own_s2 r rv kk gg)), .val (.int (1 : Int32)), .val (.int (own_rI jj)), .val (.int (own_xx r rv kk gg jj)), .val (.int (own_u0 r rv kk gg jj)), .val (.int (own_u1 r rv kk gg jj)), .val (.int (-1 : Int32))] [(.int (own_u0 r rv kk gg jj)), (.int (own_u0 r rv kk gg jj))])) _
    refine XS.icmpNo X59.here hx rfl (hb hby at_535) rfl (teq (rfl : (own_u0 r rv kk gg jj) = (own_u0 r rv kk gg jj))).2 ?_
    show Steps p.tables e below (T59.setTop (mkF m 538 #[.val (.int p1), .val (.int p2), .val (.int p3), .val (.int p4), .val (.ref bt), .val (.int (0 : Int32)), .val (.int (1 : Int32)), .val (.int (2 : Int32)), .val (.int (3 : Int32)), .val (.ref be), .val (.int (own_rI r)), .val (.int (own_bI rv)), .val (.int (own_o0 r)), .val (.int (own_o1 r rv)), .val (.int (own_o2 r rv)), .val (.ref bo), .val (.int (own_kI kk)), .val (.ref bs), .val (.int (own_bI ff)), .val (.int (own_bI gg)), .val (.int (own_s0 r rv kk gg)), .val (.int (own_s1 r rv kk gg)), .val (.int (own_s2 r rv kk gg)), .val (.int (1 : Int32)), .val (.int (own_rI jj)), .val (.int (own_xx r rv kk gg jj)), .val (.int (own_u0 r rv kk gg jj)), .val (.int (own_u1 r rv kk gg jj)), .val (.int (-1 : Int32))] [])) _
    refine XS.aload X59.here hx rfl (hb hby at_538) rfl rfl ?_
    show Steps p.tables e below (T59.setTop (mkF m 540 #[.val (.int p1), .val (.int p2), .val (.int p3), .val (.int p4), .val (.ref bt), .val (.int (0 : Int32)), .val (.int (1 : Int32)), .val (.int (2 : Int32)), .val (.int (3 : Int32)), .val (.ref be), .val (.int (own_rI r)), .val (.int (own_bI rv)), .val (.int (own_o0 r)), .val (.int (own_o1 r rv)), .val (.int (own_o2 r rv)), .val (.ref bo), .val (.int (own_kI kk)), .val (.ref bs), .val (.int (own_bI ff)), .val (.int (own_bI gg)), .val (.int (own_s0 r rv kk gg)), .val (.int (own_s1 r rv kk gg)), .val (.int (own_s2 r rv kk gg)), .val (.int (1 : Int32)), .val (.int (own_rI jj)), .val (.int (own_xx r rv kk gg jj)), .val (.int (own_u0 r rv kk gg jj)), .val (.int (own_u1 r rv kk gg jj)), .val (.int (-1 : Int32))] [(.ref bt)])) _
    refine XS.iload X59.here hx rfl (hb hby at_540) rfl ?_
    show Steps p.tables e below (T59.setTop (mkF m 542 #[.val (.int p1), .val (.int p2), .val (.int p3), .val (.int p4), .val (.ref bt), .val (.int (0 : Int32)), .val (.int (1 : Int32)), .val (.int (2 : Int32)), .val (.int (3 : Int32)), .val (.ref be), .val (.int (own_rI r)), .val (.int (own_bI rv)), .val (.int (own_o0 r)), .val (.int (own_o1 r rv)), .val (.int (own_o2 r rv)), .val (.ref bo), .val (.int (own_kI kk)), .val (.ref bs), .val (.int (own_bI ff)), .val (.int (own_bI gg)), .val (.int (own_s0 r rv kk gg)), .val (.int (own_s1 r rv kk gg)), .val (.int (own_s2 r rv kk gg)), .val (.int (1 : Int32)), .val (.int (own_rI jj)), .val (.int (own_xx r rv kk gg jj)), .val (.int (own_u0 r rv kk gg jj)), .val (.int (own_u1 r rv kk gg jj)), .val (.int (-1 : Int32))] [(.int (own_u0 r rv kk gg jj)), (.ref bt)])) _
    refine st60 _ ?_
    show Steps p.tables e below (T60.setTop (mkF m 545 #[.val (.int p1), .val (.int p2), .val (.int p3), .val (.int p4), .val (.ref bt), .val (.int (0 : Int32)), .val (.int (1 : Int32)), .val (.int (2 : Int32)), .val (.int (3 : Int32)), .val (.ref be), .val (.int (own_rI r)), .val (.int (own_bI rv)), .val (.int (own_o0 r)), .val (.int (own_o1 r rv)), .val (.int (own_o2 r rv)), .val (.ref bo), .val (.int (own_kI kk)), .val (.ref bs), .val (.int (own_bI ff)), .val (.int (own_bI gg)), .val (.int (own_s0 r rv kk gg)), .val (.int (own_s1 r rv kk gg)), .val (.int (own_s2 r rv kk gg)), .val (.int (1 : Int32)), .val (.int (own_rI jj)), .val (.int (own_xx r rv kk gg jj)), .val (.int (own_u0 r rv kk gg jj)), .val (.int (own_u1 r rv kk gg jj)), .val (.int (-1 : Int32))] [(.int (own_u1 r rv kk gg jj))])) _
    refine XS.iload X60.here hx rfl (hb hby at_545) rfl ?_
    show Steps p.tables e below (T60.setTop (mkF m 547 #[.val (.int p1), .val (.int p2), .val (.int p3), .val (.int p4), .val (.ref bt), .val (.int (0 : Int32)), .val (.int (1 : Int32)), .val (.int (2 : Int32)), .val (.int (3 : Int32)), .val (.ref be), .val (.int (own_rI r)), .val (.int (own_bI rv)), .val (.int (own_o0 r)), .val (.int (own_o1 r rv)), .val (.int (own_o2 r rv)), .val (.ref bo), .val (.int (own_kI kk)), .val (.ref bs), .val (.int (own_bI ff)), .val (.int (own_bI gg)), .val (.int (own_s0 r rv kk gg)), .val (.int (own_s1 r rv kk gg)), .val (.int (own_s2 r rv kk gg)), .val (.int (1 : Int32)), .val (.int (own_rI jj)), .val (.int (own_xx r rv kk gg jj)), .val (.int (own_u0 r rv kk gg jj)), .val (.int (own_u1 r rv kk gg jj)), .val (.int (-1 : Int32))] [(.int (own_u1 r rv kk gg jj)), (.int (own_u1 r rv kk gg jj))])) _
    refine XS.icmpNo X60.here hx rfl (hb hby at_547) rfl (teq (rfl : (own_u1 r rv kk gg jj) = (own_u1 r rv kk gg jj))).2 ?_
    show Steps p.tables e below (T60.setTop (mkF m 550 #[.val (.int p1), .val (.int p2), .val (.int p3), .val (.int p4), .val (.ref bt), .val (.int (0 : Int32)), .val (.int (1 : Int32)), .val (.int (2 : Int32)), .val (.int (3 : Int32)), .val (.ref be), .val (.int (own_rI r)), .val (.int (own_bI rv)), .val (.int (own_o0 r)), .val (.int (own_o1 r rv)), .val (.int (own_o2 r rv)), .val (.ref bo), .val (.int (own_kI kk)), .val (.ref bs), .val (.int (own_bI ff)), .val (.int (own_bI gg)), .val (.int (own_s0 r rv kk gg)), .val (.int (own_s1 r rv kk gg)), .val (.int (own_s2 r rv kk gg)), .val (.int (1 : Int32)), .val (.int (own_rI jj)), .val (.int (own_xx r rv kk gg jj)), .val (.int (own_u0 r rv kk gg jj)), .val (.int (own_u1 r rv kk gg jj)), .val (.int (-1 : Int32))] [])) _
    refine XS.aload X60.here hx rfl (hb hby at_550) rfl rfl ?_
    show Steps p.tables e below (T60.setTop (mkF m 552 #[.val (.int p1), .val (.int p2), .val (.int p3), .val (.int p4), .val (.ref bt), .val (.int (0 : Int32)), .val (.int (1 : Int32)), .val (.int (2 : Int32)), .val (.int (3 : Int32)), .val (.ref be), .val (.int (own_rI r)), .val (.int (own_bI rv)), .val (.int (own_o0 r)), .val (.int (own_o1 r rv)), .val (.int (own_o2 r rv)), .val (.ref bo), .val (.int (own_kI kk)), .val (.ref bs), .val (.int (own_bI ff)), .val (.int (own_bI gg)), .val (.int (own_s0 r rv kk gg)), .val (.int (own_s1 r rv kk gg)), .val (.int (own_s2 r rv kk gg)), .val (.int (1 : Int32)), .val (.int (own_rI jj)), .val (.int (own_xx r rv kk gg jj)), .val (.int (own_u0 r rv kk gg jj)), .val (.int (own_u1 r rv kk gg jj)), .val (.int (-1 : Int32))] [(.ref bt)])) _
    refine XS.iload X60.here hx rfl (hb hby at_552) rfl ?_
    show Steps p.tables e below (T60.setTop (mkF m 554 #[.val (.int p1), .val (.int p2), .val (.int p3), .val (.int p4), .val (.ref bt), .val (.int (0 : Int32)), .val (.int (1 : Int32)), .val (.int (2 : Int32)), .val (.int (3 : Int32)), .val (.ref be), .val (.int (own_rI r)), .val (.int (own_bI rv)), .val (.int (own_o0 r)), .val (.int (own_o1 r rv)), .val (.int (own_o2 r rv)), .val (.ref bo), .val (.int (own_kI kk)), .val (.ref bs), .val (.int (own_bI ff)), .val (.int (own_bI gg)), .val (.int (own_s0 r rv kk gg)), .val (.int (own_s1 r rv kk gg)), .val (.int (own_s2 r rv kk gg)), .val (.int (1 : Int32)), .val (.int (own_rI jj)), .val (.int (own_xx r rv kk gg jj)), .val (.int (own_u0 r rv kk gg jj)), .val (.int (own_u1 r rv kk gg jj)), .val (.int (-1 : Int32))] [(.int (own_u1 r rv kk gg jj)), (.ref bt)])) _
    refine st61 _ ?_
    show Steps p.tables e below (T61.setTop (mkF m 557 #[.val (.int p1), .val (.int p2), .val (.int p3), .val (.int p4), .val (.ref bt), .val (.int (0 : Int32)), .val (.int (1 : Int32)), .val (.int (2 : Int32)), .val (.int (3 : Int32)), .val (.ref be), .val (.int (own_rI r)), .val (.int (own_bI rv)), .val (.int (own_o0 r)), .val (.int (own_o1 r rv)), .val (.int (own_o2 r rv)), .val (.ref bo), .val (.int (own_kI kk)), .val (.ref bs), .val (.int (own_bI ff)), .val (.int (own_bI gg)), .val (.int (own_s0 r rv kk gg)), .val (.int (own_s1 r rv kk gg)), .val (.int (own_s2 r rv kk gg)), .val (.int (1 : Int32)), .val (.int (own_rI jj)), .val (.int (own_xx r rv kk gg jj)), .val (.int (own_u0 r rv kk gg jj)), .val (.int (own_u1 r rv kk gg jj)), .val (.int (-1 : Int32))] [(.int (1 : Int32))])) _
    refine XS.iload X61.here hx rfl (hb hby at_557) rfl ?_
    show Steps p.tables e below (T61.setTop (mkF m 559 #[.val (.int p1), .val (.int p2), .val (.int p3), .val (.int p4), .val (.ref bt), .val (.int (0 : Int32)), .val (.int (1 : Int32)), .val (.int (2 : Int32)), .val (.int (3 : Int32)), .val (.ref be), .val (.int (own_rI r)), .val (.int (own_bI rv)), .val (.int (own_o0 r)), .val (.int (own_o1 r rv)), .val (.int (own_o2 r rv)), .val (.ref bo), .val (.int (own_kI kk)), .val (.ref bs), .val (.int (own_bI ff)), .val (.int (own_bI gg)), .val (.int (own_s0 r rv kk gg)), .val (.int (own_s1 r rv kk gg)), .val (.int (own_s2 r rv kk gg)), .val (.int (1 : Int32)), .val (.int (own_rI jj)), .val (.int (own_xx r rv kk gg jj)), .val (.int (own_u0 r rv kk gg jj)), .val (.int (own_u1 r rv kk gg jj)), .val (.int (-1 : Int32))] [(.int (1 : Int32)), (.int (1 : Int32))])) _
    refine XS.icmpNo X61.here hx rfl (hb hby at_559) rfl (teq (rfl : (1 : Int32) = (1 : Int32))).2 ?_
    show Steps p.tables e below (T61.setTop (mkF m 562 #[.val (.int p1), .val (.int p2), .val (.int p3), .val (.int p4), .val (.ref bt), .val (.int (0 : Int32)), .val (.int (1 : Int32)), .val (.int (2 : Int32)), .val (.int (3 : Int32)), .val (.ref be), .val (.int (own_rI r)), .val (.int (own_bI rv)), .val (.int (own_o0 r)), .val (.int (own_o1 r rv)), .val (.int (own_o2 r rv)), .val (.ref bo), .val (.int (own_kI kk)), .val (.ref bs), .val (.int (own_bI ff)), .val (.int (own_bI gg)), .val (.int (own_s0 r rv kk gg)), .val (.int (own_s1 r rv kk gg)), .val (.int (own_s2 r rv kk gg)), .val (.int (1 : Int32)), .val (.int (own_rI jj)), .val (.int (own_xx r rv kk gg jj)), .val (.int (own_u0 r rv kk gg jj)), .val (.int (own_u1 r rv kk gg jj)), .val (.int (-1 : Int32))] [])) _
    refine XS.iconst X61.here hx rfl (hb hby at_562) ?_
    show Steps p.tables e below (T61.setTop (mkF m 563 #[.val (.int p1), .val (.int p2), .val (.int p3), .val (.int p4), .val (.ref bt), .val (.int (0 : Int32)), .val (.int (1 : Int32)), .val (.int (2 : Int32)), .val (.int (3 : Int32)), .val (.ref be), .val (.int (own_rI r)), .val (.int (own_bI rv)), .val (.int (own_o0 r)), .val (.int (own_o1 r rv)), .val (.int (own_o2 r rv)), .val (.ref bo), .val (.int (own_kI kk)), .val (.ref bs), .val (.int (own_bI ff)), .val (.int (own_bI gg)), .val (.int (own_s0 r rv kk gg)), .val (.int (own_s1 r rv kk gg)), .val (.int (own_s2 r rv kk gg)), .val (.int (1 : Int32)), .val (.int (own_rI jj)), .val (.int (own_xx r rv kk gg jj)), .val (.int (own_u0 r rv kk gg jj)), .val (.int (own_u1 r rv kk gg jj)), .val (.int (-1 : Int32))] [(.int (1 : Int32))])) _
    refine XS.goto X61.here hx rfl (pc0 := 563) (pc' := 567) rfl (hb hby at_563) (by decide) (by decide) ?_
    show Steps p.tables e below (T61.setTop (mkF m 567 #[.val (.int p1), .val (.int p2), .val (.int p3), .val (.int p4), .val (.ref bt), .val (.int (0 : Int32)), .val (.int (1 : Int32)), .val (.int (2 : Int32)), .val (.int (3 : Int32)), .val (.ref be), .val (.int (own_rI r)), .val (.int (own_bI rv)), .val (.int (own_o0 r)), .val (.int (own_o1 r rv)), .val (.int (own_o2 r rv)), .val (.ref bo), .val (.int (own_kI kk)), .val (.ref bs), .val (.int (own_bI ff)), .val (.int (own_bI gg)), .val (.int (own_s0 r rv kk gg)), .val (.int (own_s1 r rv kk gg)), .val (.int (own_s2 r rv kk gg)), .val (.int (1 : Int32)), .val (.int (own_rI jj)), .val (.int (own_xx r rv kk gg jj)), .val (.int (own_u0 r rv kk gg jj)), .val (.int (own_u1 r rv kk gg jj)), .val (.int (-1 : Int32))] [(.int (1 : Int32))])) _
    exact retN X61 hx (t := .boolean) Bd.returns (by simp) (hb hby at_567) hr
  · show Q0 Z  h0 n0 _ T61.heap _
    exact ⟨rfl, N61⟩

set_option maxRecDepth 65536 in
set_option maxHeartbeats 40000000 in
theorem comes_1 {Post : Tables → Env → Array Value → State → Outcome → State → Prop} (hpost : ∀ tb e args s v u, (limb_1_1.after args s (.returned v) u = true ∧ limb_1_2.after args s (.returned v) u = true ∧ True) → FrameEnd s (.returned v) u (Jvm.fieldLocs frame_1_writes args s ++ Jvm.arrayLocs frame_1_arrays args s ++ Jvm.staticLocs frame_1_statics s) 24 256 → Post tb e args s (.returned v) u) :
    ArmFor flags0 classFile x code maxLocals ret World_1 tables_1 room_1 Calls_1 rest_1 Pre_1 Post := by
  intro l hfl _ _ p e ha hc hk s m args below hf hA hF happ hP
  obtain ⟨hcalls, hrest, hpre⟩ := hP
  obtain ⟨-, -, -, hnamed, -, -, -, hat⟩ := (Spec.applies_iff hf).mp happ
  obtain ⟨hg, hn⟩ := and_e (Cond.before_iff.mp (show (Jvm.Cond.and given_1 narrow_1).before args s = true from hpre))
  obtain ⟨gc, r0⟩ := and_e hg
  obtain ⟨k0, r1⟩ := and_e r0
  obtain ⟨k1, r2⟩ := and_e r1
  obtain ⟨k2, r3⟩ := and_e r2
  have k3 := r3
  obtain ⟨w0, w1, w2, w3, rfl⟩ : ∃ w0 w1 w2 w3 : Value, args = #[w0, w1, w2, w3] := by
    have hs : args.size = 4 := by simpa [Cond.value, given_1] using gc
    obtain ⟨L⟩ := args
    match L, hs with
    | [w0, w1, w2, w3], _ => exact ⟨w0, w1, w2, w3, rfl⟩
  have hw := fun d (hd : d ∈ tables_1) => atoms_spec (ws := Jvm.Cond.code x code maxLocals ret :: tables_1) hat d (List.mem_cons_of_mem _ hd)
  obtain ⟨i0, ei0⟩ := is_v k0
  obtain rfl : w0 = (.int i0) := Option.some.inj ei0
  obtain ⟨i1, ei1⟩ := is_v k1
  obtain rfl : w1 = (.int i1) := Option.some.inj ei1
  obtain ⟨i2, ei2⟩ := is_v k2
  obtain rfl : w2 = (.int i2) := Option.some.inj ei2
  obtain ⟨i3, ei3⟩ := is_v k3
  obtain rfl : w3 = (.int i3) := Option.some.inj ei3
  obtain ⟨n, o, h1, h2, h3, _, L, rfl, ⟨rfl, N⟩, hq⟩ := rm0 l s _ hw tables_1 i0 i1 i2 i3 s.heap s.heap.size (Nat.le_refl _) p e ha hc hk s m _ below hf ((Spec.applies_iff_loose hf).mp happ).1 ⟨rfl, State.Warmed39.refl s, rfl⟩ trivial
  refine ⟨n, _, h1, h2, h3, hpost _ _ _ _ _ _ ⟨Cond.after_iff.mpr rfl, Cond.after_iff.mpr (eq_i res_at (Term.int_eval (1)) rfl), trivial⟩ ⟨hq.1, hq.2.1, (hq.2.2.sift fun y hy => Or.inr (N y hy)).mono (by decide) (by decide)⟩⟩
theorem main_1_1 : Claimed_1_1 := comes_1 fun _ _ _ _ _ _ h hF => ⟨h.1, hF⟩
theorem main_1_2 : Claimed_1_2 := comes_1 fun _ _ _ _ _ _ h hF => ⟨h.2.1, hF⟩

end Jvm.Pilot.@@N@@
namespace Jvm.Pilot.@@N@@
open Jvm Jvm.ClassFile Sem Op Lib Jvm.Free Jvm.Stand Jvm.Pilot.@@N@@.Jvm.D
/-! MADE BY PROGRAM (witnessworld.py) out of the Statement's table words and the real class files: 10 classes; the members and pool entries that the words name. The judged class is class 1, her method 4. -/
namespace start1
open Jvm.ClassFile
def u (s : String) : CpInfo := .utf8 (stringToUtf16 s)
/-- a pool by its gaps: so many unusable entries, then the entry; so many at the end -/
def gap : Nat → List CpInfo → List CpInfo
  | 0, r => r
  | n + 1, r => .unusable :: gap n r
def poolList (es : List (Nat × CpInfo)) (last : Nat) : List CpInfo := es.foldr (fun e r => gap e.1 (e.2 :: r)) (gap last [])
def pool (es : List (Nat × CpInfo)) (last : Nat) : Array CpInfo := ⟨poolList es last⟩
def fileOf (pool : Array CpInfo) (this : Nat) (attrs : Array Attribute := #[]) (ms : Array MethodInfo := #[]) (fl : Nat := 33) (sup : Nat := 0) (ifs : Array Nat := #[]) (fds : Array FieldInfo := #[]) : ClassFile where
  minorVersion := 0
  majorVersion := 65
  constantPool := pool
  accessFlags := fl
  thisClass := this
  superClass := sup
  interfaces := ifs
  fields := fds
  methods := ms
  attributes := attrs
def plain (name : String) (sup : Option ClassId) : Class where
  name := name
  kind := .ordinary
  loader := none
  accessFlags := 33
  super := sup
  interfaces := #[]
  cf := none
  fields := #[]
  methods := #[]
  instanceTypes := #[]
  staticTypes := #[]
  resolved := #[]
  callSites := []
  init := .initialized
  statics := none
  mirror := none

def pool0 : Array CpInfo := pool [(5, u "<init>"), (0, u "()V"), (1, .class_ 10), (1, u "java/lang/Object")] 113

def k0c0 : Code := { maxStack := 0, maxLocals := 1, code := object_method_1_code, exceptionTable := #[], attributes := #[] }
def k0m0 : Method := { name := "<init>", desc := "()V", sig := { parameters := [], returnType := none }, accessFlags := 1, code := some k0c0 }
/-- java/lang/Object -/
def k0 : Class := { plain "java/lang/Object" none with
  accessFlags := 33
  interfaces := #[]
  cf := some (fileOf pool0 8 #[] #[{ accessFlags := 1, nameIndex := 5, descriptorIndex := 6, attributes := #[] }] 33 0 #[] #[])
  fields := #[]
  methods := #[k0m0]
  instanceTypes := #[]
  staticTypes := #[]
  resolved := Array.replicate 124 none
  statics := none }

def pool1 : Array CpInfo := pool [(2, .class_ 4), (0, .nameAndType 5 6), (0, u "java/lang/Object"), (0, u "<init>"), (0, u "()V"), (0, .class_ 8), (0, u "com/example/reticule/reticule/match/LinkTable"), (0, .methodref 7 10), (0, .nameAndType 11 12), (0, u "next"), (0, u "(II)I"), (0, .methodref 7 14), (0, .nameAndType 15 16), (0, u "add"), (0, u "(Ljava/lang/Object;II)I"), (0, .methodref 7 18), (0, .nameAndType 19 20), (0, u "standing"), (0, u "(I)I"), (0, .methodref 7 3), (0, .methodref 23 24), (0, .class_ 25), (0, .nameAndType 26 27), (0, u "com/example/reticule/reticule/match/LinkTableLineUpPinLaw"), (0, u "mk"), (0, u "(Lcom/example/reticule/reticule/match/LinkTable;)I"), (0, .methodref 7 29), (0, .nameAndType 30 31), (0, u "newList"), (0, u "()I"), (0, .integer 2147483647), (0, .methodref 7 34), (0, .nameAndType 35 36), (0, u "lineUp"), (0, u "(I[IIZ)V"), (0, .methodref 23 38), (0, .nameAndType 39 40), (0, u "nx"), (0, u "(Lcom/example/reticule/reticule/match/LinkTable;I)I"), (0, .methodref 23 42), (0, .nameAndType 43 40), (0, u "st"), (0, .methodref 7 45), (0, .nameAndType 46 20), (0, u "leaveLine"), (2, u "law"), (0, u "(IIII)Z")] 5

def k1m0 : Method := { name := "<init>", desc := "()V", sig := { parameters := [], returnType := none }, accessFlags := 1, code := none }
def k1c1 : Code := { maxStack := 3, maxLocals := 2, code := method_2_code, exceptionTable := #[], attributes := #[] }
def k1m1 : Method := { name := "nx", desc := "(Lcom/example/reticule/reticule/match/LinkTable;I)I", sig := { parameters := [(.object "com/example/reticule/reticule/match/LinkTable"), .int], returnType := some .int }, accessFlags := 10, code := some k1c1 }
def k1c2 : Code := { maxStack := 4, maxLocals := 1, code := method_3_code, exceptionTable := #[], attributes := #[] }
def k1m2 : Method := { name := "mk", desc := "(Lcom/example/reticule/reticule/match/LinkTable;)I", sig := { parameters := [(.object "com/example/reticule/reticule/match/LinkTable")], returnType := some .int }, accessFlags := 10, code := some k1c2 }
def k1c3 : Code := { maxStack := 2, maxLocals := 2, code := method_4_code, exceptionTable := #[], attributes := #[] }
def k1m3 : Method := { name := "st", desc := "(Lcom/example/reticule/reticule/match/LinkTable;I)I", sig := { parameters := [(.object "com/example/reticule/reticule/match/LinkTable"), .int], returnType := some .int }, accessFlags := 10, code := some k1c3 }
def k1c4 : Code := { maxStack := 6, maxLocals := 29, code := code, exceptionTable := #[], attributes := #[] }
def k1m4 : Method := { name := "law", desc := "(IIII)Z", sig := { parameters := [.int, .int, .int, .int], returnType := some .boolean }, accessFlags := 9, code := some k1c4 }
/-- com/example/reticule/reticule/match/LinkTableLineUpPinLaw -/
def k1 : Class := { plain "com/example/reticule/reticule/match/LinkTableLineUpPinLaw" (some 0) with
  accessFlags := 49
  interfaces := #[]
  cf := some (fileOf pool1 23 #[] #[{ accessFlags := 1, nameIndex := 5, descriptorIndex := 6, attributes := #[] }, { accessFlags := 10, nameIndex := 39, descriptorIndex := 40, attributes := #[] }, { accessFlags := 10, nameIndex := 26, descriptorIndex := 27, attributes := #[] }, { accessFlags := 10, nameIndex := 43, descriptorIndex := 40, attributes := #[] }, { accessFlags := 9, nameIndex := 49, descriptorIndex := 50, attributes := #[] }] 49 2 #[] #[])
  fields := #[]
  methods := #[k1m0, k1m1, k1m2, k1m3, k1m4]
  instanceTypes := #[]
  staticTypes := #[]
  resolved := Array.replicate 56 none
  statics := none }

def pool2 : Array CpInfo := pool [(1, .methodref 2 3), (0, .class_ 4), (0, .nameAndType 5 6), (0, u "java/lang/Object"), (0, u "<init>"), (0, u "()V"), (0, .class_ 8), (0, u "com/example/reticule/reticule/match/LinkTable"), (0, .fieldref 7 10), (0, .nameAndType 11 12), (0, u "records"), (0, u "[I"), (0, .fieldref 7 14), (0, .nameAndType 15 16), (0, u "elements"), (0, u "[Ljava/lang/Object;"), (0, .fieldref 7 18), (0, .nameAndType 19 20), (0, u "released"), (0, u "I"), (0, .methodref 7 22), (0, .nameAndType 23 24), (0, u "take"), (0, u "()I"), (0, .methodref 7 26), (0, .nameAndType 27 28), (0, u "linkFirst"), (0, u "(III)V"), (0, .methodref 7 30), (0, .nameAndType 31 32), (0, u "newList"), (0, u "(Ljava/lang/Object;)I"), (0, .methodref 7 34), (0, .nameAndType 35 36), (0, u "unlink"), (0, u "(II)V"), (0, .fieldref 7 38), (0, .nameAndType 39 20), (0, u "used"), (9, u "FACT"), (2, u "OWNER"), (1, u "LINE"), (1, u "NO_STANDING"), (1, u "OUT_OF_LINE"), (0, u "IN_LINE"), (1, u "NEXT"), (0, u "STANDING"), (1, u "RECORD"), (1, u "FIRST_CAPACITY"), (2, u "add"), (0, u "(Ljava/lang/Object;II)I"), (9, u "lineUp"), (0, u "(I[IIZ)V"), (0, u "leaveLine"), (0, u "(I)I"), (0, u "next"), (0, u "(II)I"), (3, u "standing")] 3

def k2c0 : Code := { maxStack := 2, maxLocals := 1, code := prog_64_method_1_code, exceptionTable := #[], attributes := #[] }
def k2m0 : Method := { name := "<init>", desc := "()V", sig := { parameters := [], returnType := none }, accessFlags := 0, code := some k2c0 }
def k2c1 : Code := { maxStack := 4, maxLocals := 5, code := prog_64_method_2_code, exceptionTable := #[], attributes := #[] }
def k2m1 : Method := { name := "add", desc := "(Ljava/lang/Object;II)I", sig := { parameters := [(.object "java/lang/Object"), .int, .int], returnType := some .int }, accessFlags := 0, code := some k2c1 }
def k2c2 : Code := { maxStack := 2, maxLocals := 1, code := prog_64_method_3_code, exceptionTable := #[], attributes := #[] }
def k2m2 : Method := { name := "newList", desc := "()I", sig := { parameters := [], returnType := some .int }, accessFlags := 0, code := some k2c2 }
def k2c3 : Code := { maxStack := 3, maxLocals := 4, code := prog_64_method_4_code, exceptionTable := #[], attributes := #[] }
def k2m3 : Method := { name := "newList", desc := "(Ljava/lang/Object;)I", sig := { parameters := [(.object "java/lang/Object")], returnType := some .int }, accessFlags := 0, code := some k2c3 }
def k2c4 : Code := { maxStack := 3, maxLocals := 11, code := prog_64_method_8_code, exceptionTable := #[], attributes := #[] }
def k2m4 : Method := { name := "lineUp", desc := "(I[IIZ)V", sig := { parameters := [.int, (.array .int), .int, .boolean], returnType := none }, accessFlags := 0, code := some k2c4 }
def k2c5 : Code := { maxStack := 3, maxLocals := 5, code := prog_64_method_9_code, exceptionTable := #[], attributes := #[] }
def k2m5 : Method := { name := "leaveLine", desc := "(I)I", sig := { parameters := [.int], returnType := some .int }, accessFlags := 0, code := some k2c5 }
def k2c6 : Code := { maxStack := 3, maxLocals := 7, code := prog_64_method_10_code, exceptionTable := #[], attributes := #[] }
def k2m6 : Method := { name := "unlink", desc := "(II)V", sig := { parameters := [.int, .int], returnType := none }, accessFlags := 0, code := some k2c6 }
def k2c7 : Code := { maxStack := 3, maxLocals := 3, code := prog_64_method_11_code, exceptionTable := #[], attributes := #[] }
def k2m7 : Method := { name := "next", desc := "(II)I", sig := { parameters := [.int, .int], returnType := some .int }, accessFlags := 0, code := some k2c7 }
def k2c8 : Code := { maxStack := 3, maxLocals := 2, code := prog_64_method_14_code, exceptionTable := #[], attributes := #[] }
def k2m8 : Method := { name := "standing", desc := "(I)I", sig := { parameters := [.int], returnType := some .int }, accessFlags := 0, code := some k2c8 }
def k2c9 : Code := { maxStack := 3, maxLocals := 7, code := prog_64_method_16_code, exceptionTable := #[], attributes := #[] }
def k2m9 : Method := { name := "linkFirst", desc := "(III)V", sig := { parameters := [.int, .int, .int], returnType := none }, accessFlags := 2, code := some k2c9 }
def k2c10 : Code := { maxStack := 4, maxLocals := 2, code := prog_64_method_17_code, exceptionTable := #[], attributes := #[] }
def k2m10 : Method := { name := "take", desc := "()I", sig := { parameters := [], returnType := some .int }, accessFlags := 2, code := some k2c10 }
/-- com/example/reticule/reticule/match/LinkTable -/
def k2 : Class := { plain "com/example/reticule/reticule/match/LinkTable" (some 0) with
  accessFlags := 48
  interfaces := #[]
  cf := some (fileOf pool2 7 #[] #[{ accessFlags := 0, nameIndex := 5, descriptorIndex := 6, attributes := #[] }, { accessFlags := 0, nameIndex := 69, descriptorIndex := 70, attributes := #[] }, { accessFlags := 0, nameIndex := 31, descriptorIndex := 24, attributes := #[] }, { accessFlags := 0, nameIndex := 31, descriptorIndex := 32, attributes := #[] }, { accessFlags := 0, nameIndex := 80, descriptorIndex := 81, attributes := #[] }, { accessFlags := 0, nameIndex := 82, descriptorIndex := 83, attributes := #[] }, { accessFlags := 0, nameIndex := 35, descriptorIndex := 36, attributes := #[] }, { accessFlags := 0, nameIndex := 84, descriptorIndex := 85, attributes := #[] }, { accessFlags := 0, nameIndex := 89, descriptorIndex := 83, attributes := #[] }, { accessFlags := 2, nameIndex := 27, descriptorIndex := 28, attributes := #[] }, { accessFlags := 2, nameIndex := 23, descriptorIndex := 24, attributes := #[] }] 48 2 #[] #[{ accessFlags := 24, nameIndex := 49, descriptorIndex := 20, attributes := #[] }, { accessFlags := 24, nameIndex := 52, descriptorIndex := 20, attributes := #[] }, { accessFlags := 24, nameIndex := 54, descriptorIndex := 20, attributes := #[] }, { accessFlags := 24, nameIndex := 56, descriptorIndex := 20, attributes := #[] }, { accessFlags := 24, nameIndex := 58, descriptorIndex := 20, attributes := #[] }, { accessFlags := 24, nameIndex := 59, descriptorIndex := 20, attributes := #[] }, { accessFlags := 26, nameIndex := 61, descriptorIndex := 20, attributes := #[] }, { accessFlags := 26, nameIndex := 62, descriptorIndex := 20, attributes := #[] }, { accessFlags := 26, nameIndex := 64, descriptorIndex := 20, attributes := #[] }, { accessFlags := 26, nameIndex := 66, descriptorIndex := 20, attributes := #[] }, { accessFlags := 2, nameIndex := 11, descriptorIndex := 12, attributes := #[] }, { accessFlags := 2, nameIndex := 15, descriptorIndex := 16, attributes := #[] }, { accessFlags := 2, nameIndex := 39, descriptorIndex := 20, attributes := #[] }, { accessFlags := 2, nameIndex := 19, descriptorIndex := 20, attributes := #[] }])
  fields := #[{ name := "FACT", type := .int, accessFlags := 24, slot := 0, constantValue := 0 }, { name := "OWNER", type := .int, accessFlags := 24, slot := 1, constantValue := 0 }, { name := "LINE", type := .int, accessFlags := 24, slot := 2, constantValue := 0 }, { name := "NO_STANDING", type := .int, accessFlags := 24, slot := 3, constantValue := 0 }, { name := "OUT_OF_LINE", type := .int, accessFlags := 24, slot := 4, constantValue := 0 }, { name := "IN_LINE", type := .int, accessFlags := 24, slot := 5, constantValue := 0 }, { name := "NEXT", type := .int, accessFlags := 26, slot := 6, constantValue := 0 }, { name := "STANDING", type := .int, accessFlags := 26, slot := 7, constantValue := 0 }, { name := "RECORD", type := .int, accessFlags := 26, slot := 8, constantValue := 0 }, { name := "FIRST_CAPACITY", type := .int, accessFlags := 26, slot := 9, constantValue := 0 }, { name := "records", type := (.array .int), accessFlags := 2, slot := 0, constantValue := 0 }, { name := "elements", type := (.array (.object "java/lang/Object")), accessFlags := 2, slot := 1, constantValue := 0 }, { name := "used", type := .int, accessFlags := 2, slot := 2, constantValue := 0 }, { name := "released", type := .int, accessFlags := 2, slot := 3, constantValue := 0 }]
  methods := #[k2m0, k2m1, k2m2, k2m3, k2m4, k2m5, k2m6, k2m7, k2m8, k2m9, k2m10]
  instanceTypes := #[(.array .int), (.array (.object "java/lang/Object")), .int, .int]
  staticTypes := #[.int, .int, .int, .int, .int, .int, .int, .int, .int, .int]
  resolved := Array.replicate 93 none
  statics := none }

def pool3 : Array CpInfo := pool [(1, u "java/lang/Cloneable"), (0, .class_ 1), (0, u "java/lang/Object"), (0, .class_ 3)] 3

/-- java/lang/Cloneable -/
def k3 : Class := { plain "java/lang/Cloneable" (some 0) with
  accessFlags := 1537
  interfaces := #[]
  cf := some (fileOf pool3 2 #[] #[] 1537 4 #[] #[])
  fields := #[]
  methods := #[]
  instanceTypes := #[]
  staticTypes := #[]
  resolved := Array.replicate 8 none
  statics := none }

def pool4 : Array CpInfo := pool [(1, u "java/io/Serializable"), (0, .class_ 1), (0, u "java/lang/Object"), (0, .class_ 3)] 3

/-- java/io/Serializable -/
def k4 : Class := { plain "java/io/Serializable" (some 0) with
  accessFlags := 1537
  interfaces := #[]
  cf := some (fileOf pool4 2 #[] #[] 1537 4 #[] #[])
  fields := #[]
  methods := #[]
  instanceTypes := #[]
  staticTypes := #[]
  resolved := Array.replicate 8 none
  statics := none }

/-- the primitive byte -/
def k5 : Class := { plain "byte" none with kind := .primitive 'B', accessFlags := 0x411 }
/-- [B -/
def k6 : Class := { plain "[B" (some 0) with kind := .array 5 .byte, interfaces := #[3, 4], accessFlags := 1041 }

/-- the primitive int -/
def k7 : Class := { plain "int" none with kind := .primitive 'I', accessFlags := 0x411 }
/-- [I -/
def k8 : Class := { plain "[I" (some 0) with kind := .array 7 .int, interfaces := #[3, 4], accessFlags := 1041 }

/-- [Ljava/lang/Object; -/
def k9 : Class := { plain "[Ljava/lang/Object;" (some 0) with kind := .array 0 (.object "java/lang/Object"), interfaces := #[3, 4], accessFlags := 1041 }

def heap : Heap := #[]
def classes : Array Class := #[k0, k1, k2, k3, k4, k5, k6, k7, k8, k9]
def interned : List (Array UInt16 × Addr) := []
def slotsUsed : Nat := 0
def theMethod : MethodId := ⟨1, 4⟩
def args0 : Array Value := #[.int 5, .int 300, .int 7, .int 9]
def aboutOver (below : List Frame) : State where
  vm := { classes := classes, interned := interned.toArray }
  heap := heap
  slotsUsed := slotsUsed
  threads := #[{ frames := .invoking theMethod args0 :: below }]
def below0 : List Frame := [.native { method := ⟨0, 0⟩, args := #[] }]
def about1 : State := aboutOver below0
def p0 : Program := .bare "" "" ""
def e0 : Env := launch0.env 0 0 0
theorem w_frames : about1.frames = Frame.invoking theMethod args0 :: below0 := rfl
set_option maxRecDepth 65536 in
theorem w_args : argsFit about1.vm theMethod args0 = true := by decide +kernel
set_option maxRecDepth 65536 in
theorem w_heap : heapFits about1 = true := by decide +kernel
set_option maxRecDepth 65536 in
theorem w_runnable : about1.curStatus? = some .runnable := by decide +kernel
set_option maxRecDepth 65536 in
theorem w_alone : about1.alone = true := by decide +kernel
set_option maxRecDepth 65536 in
theorem w_named : about1.methodNamed? x = some theMethod := by decide +kernel
set_option maxRecDepth 65536 in
theorem w_hears : about1.hears theMethod below0 = true := by decide +kernel
set_option maxRecDepth 65536 in
theorem w_ripe : about1.ripe theMethod args0 below0 = true := by decide +kernel
theorem w_running : about1.status = .running := rfl
set_option maxRecDepth 65536 in
theorem w_room : about1.hasRoom e0.platform room_1 = true :=
  launch0.hasRoom_least _ room_1 (by decide +kernel) (by decide +kernel) (by decide +kernel) (by decide +kernel) (by decide +kernel) (by decide +kernel)
theorem allAtoms_all (ts : List Jvm.Cond) (a : Array Jvm.Value) (st : Jvm.State) : (allAtoms ts).before a st = ts.all (fun c => c.before a st) := by
  induction ts with
  | nil => rfl
  | cons c t ih =>
    show (Jvm.Cond.and c (allAtoms t)).before a st = _
    rw [Jvm.Cond.before_and, ih, List.all_cons]
def words1 : List Jvm.Cond := Jvm.Cond.code x code maxLocals ret :: tables_1
/-- a 'code' word, met by the world's own term for the bytes: nothing is compared byte by byte -/
theorem code_word {y : MethodName} {bytes : ByteArray} {mx : Nat} {rt : Option FieldType} {a : Array Value} {s : State} {m : MethodId} {meth : Method} {c : Code} (h1 : s.methodNamed? y = some m) (h2 : s.vm.method? m = some meth) (h3 : meth.code = some c) (h4 : c.code = bytes)
    (h5 : (c.maxLocals == mx && c.exceptionTable.isEmpty && decide (c.maxStack ≤ mostOperands) && decide (meth.sig.returnType = rt) && !meth.locks && decide (parseMethodDescriptor y.desc = some meth.sig)) = true) : (Jvm.Cond.code y bytes mx rt).before a s = true := by
  simp only [Bool.and_eq_true, beq_iff_eq, Bool.not_eq_true', decide_eq_true_eq] at h5
  obtain ⟨⟨⟨⟨⟨g1, g2⟩, g3⟩, g4⟩, g5⟩, g6⟩ := h5
  simp [Cond.before, Cond.holds, Cond.value, h1, h2, h3, h4, g1, g2, g3, g4, g5, g6]
def isCode : Jvm.Cond → Bool
  | .code _ _ _ _ => true
  | _ => false
theorem all_split {L : List Jvm.Cond} {P : Jvm.Cond → Bool} (h1 : L.all (fun c => isCode c || P c) = true) (h2 : ∀ c ∈ L.filter isCode, P c = true) : L.all P = true := by
  refine List.all_eq_true.mpr fun c hc => ?_
  have h := List.all_eq_true.mp h1 c hc
  rcases Bool.eq_false_or_eq_true (isCode c) with hi | hi
  · exact h2 c (List.mem_filter.mpr ⟨hc, hi⟩)
  · simpa [hi] using h
set_option maxRecDepth 65536 in
theorem w_c0 : (Jvm.Cond.code x code maxLocals ret).before args0 about1 = true := code_word (m := ⟨1, 4⟩) (meth := k1m4) (c := k1c4) (by decide +kernel) rfl rfl rfl (by decide +kernel)
set_option maxRecDepth 65536 in
theorem w_c1 : (Jvm.Cond.code ({ cls := "com/example/reticule/reticule/match/LinkTable", name := "<init>", desc := "()V" } : Jvm.MethodName) prog_64_method_1_code (1 : Nat) (Option.none : Option Jvm.ClassFile.FieldType)).before args0 about1 = true := code_word (m := ⟨2, 0⟩) (meth := k2m0) (c := k2c0) (by decide +kernel) rfl rfl rfl (by decide +kernel)
set_option maxRecDepth 65536 in
theorem w_c2 : (Jvm.Cond.code ({ cls := "java/lang/Object", name := "<init>", desc := "()V" } : Jvm.MethodName) object_method_1_code (1 : Nat) (Option.none : Option Jvm.ClassFile.FieldType)).before args0 about1 = true := code_word (m := ⟨0, 0⟩) (meth := k0m0) (c := k0c0) (by decide +kernel) rfl rfl rfl (by decide +kernel)
set_option maxRecDepth 65536 in
theorem w_c3 : (Jvm.Cond.code ({ cls := "com/example/reticule/reticule/match/LinkTableLineUpPinLaw", name := "mk", desc := "(Lcom/example/reticule/reticule/match/LinkTable;)I" } : Jvm.MethodName) method_3_code (1 : Nat) (Option.some Jvm.ClassFile.FieldType.int)).before args0 about1 = true := code_word (m := ⟨1, 2⟩) (meth := k1m2) (c := k1c2) (by decide +kernel) rfl rfl rfl (by decide +kernel)
set_option maxRecDepth 65536 in
theorem w_c4 : (Jvm.Cond.code ({ cls := "com/example/reticule/reticule/match/LinkTable", name := "add", desc := "(Ljava/lang/Object;II)I" } : Jvm.MethodName) prog_64_method_2_code (5 : Nat) (Option.some Jvm.ClassFile.FieldType.int)).before args0 about1 = true := code_word (m := ⟨2, 1⟩) (meth := k2m1) (c := k2c1) (by decide +kernel) rfl rfl rfl (by decide +kernel)
set_option maxRecDepth 65536 in
theorem w_c5 : (Jvm.Cond.code ({ cls := "com/example/reticule/reticule/match/LinkTable", name := "take", desc := "()I" } : Jvm.MethodName) prog_64_method_17_code (2 : Nat) (Option.some Jvm.ClassFile.FieldType.int)).before args0 about1 = true := code_word (m := ⟨2, 10⟩) (meth := k2m10) (c := k2c10) (by decide +kernel) rfl rfl rfl (by decide +kernel)
set_option maxRecDepth 65536 in
theorem w_c6 : (Jvm.Cond.code ({ cls := "com/example/reticule/reticule/match/LinkTable", name := "linkFirst", desc := "(III)V" } : Jvm.MethodName) prog_64_method_16_code (7 : Nat) (Option.none : Option Jvm.ClassFile.FieldType)).before args0 about1 = true := code_word (m := ⟨2, 9⟩) (meth := k2m9) (c := k2c9) (by decide +kernel) rfl rfl rfl (by decide +kernel)
set_option maxRecDepth 65536 in
theorem w_c7 : (Jvm.Cond.code ({ cls := "com/example/reticule/reticule/match/LinkTable", name := "newList", desc := "()I" } : Jvm.MethodName) prog_64_method_3_code (1 : Nat) (Option.some Jvm.ClassFile.FieldType.int)).before args0 about1 = true := code_word (m := ⟨2, 2⟩) (meth := k2m2) (c := k2c2) (by decide +kernel) rfl rfl rfl (by decide +kernel)
set_option maxRecDepth 65536 in
theorem w_c8 : (Jvm.Cond.code ({ cls := "com/example/reticule/reticule/match/LinkTable", name := "newList", desc := "(Ljava/lang/Object;)I" } : Jvm.MethodName) prog_64_method_4_code (4 : Nat) (Option.some Jvm.ClassFile.FieldType.int)).before args0 about1 = true := code_word (m := ⟨2, 3⟩) (meth := k2m3) (c := k2c3) (by decide +kernel) rfl rfl rfl (by decide +kernel)
set_option maxRecDepth 65536 in
theorem w_c9 : (Jvm.Cond.code ({ cls := "com/example/reticule/reticule/match/LinkTable", name := "lineUp", desc := "(I[IIZ)V" } : Jvm.MethodName) prog_64_method_8_code (11 : Nat) (Option.none : Option Jvm.ClassFile.FieldType)).before args0 about1 = true := code_word (m := ⟨2, 4⟩) (meth := k2m4) (c := k2c4) (by decide +kernel) rfl rfl rfl (by decide +kernel)
set_option maxRecDepth 65536 in
theorem w_c10 : (Jvm.Cond.code ({ cls := "com/example/reticule/reticule/match/LinkTableLineUpPinLaw", name := "nx", desc := "(Lcom/example/reticule/reticule/match/LinkTable;I)I" } : Jvm.MethodName) method_2_code (2 : Nat) (Option.some Jvm.ClassFile.FieldType.int)).before args0 about1 = true := code_word (m := ⟨1, 1⟩) (meth := k1m1) (c := k1c1) (by decide +kernel) rfl rfl rfl (by decide +kernel)
set_option maxRecDepth 65536 in
theorem w_c11 : (Jvm.Cond.code ({ cls := "com/example/reticule/reticule/match/LinkTable", name := "next", desc := "(II)I" } : Jvm.MethodName) prog_64_method_11_code (3 : Nat) (Option.some Jvm.ClassFile.FieldType.int)).before args0 about1 = true := code_word (m := ⟨2, 7⟩) (meth := k2m7) (c := k2c7) (by decide +kernel) rfl rfl rfl (by decide +kernel)
set_option maxRecDepth 65536 in
theorem w_c12 : (Jvm.Cond.code ({ cls := "com/example/reticule/reticule/match/LinkTableLineUpPinLaw", name := "st", desc := "(Lcom/example/reticule/reticule/match/LinkTable;I)I" } : Jvm.MethodName) method_4_code (2 : Nat) (Option.some Jvm.ClassFile.FieldType.int)).before args0 about1 = true := code_word (m := ⟨1, 3⟩) (meth := k1m3) (c := k1c3) (by decide +kernel) rfl rfl rfl (by decide +kernel)
set_option maxRecDepth 65536 in
theorem w_c13 : (Jvm.Cond.code ({ cls := "com/example/reticule/reticule/match/LinkTable", name := "standing", desc := "(I)I" } : Jvm.MethodName) prog_64_method_14_code (2 : Nat) (Option.some Jvm.ClassFile.FieldType.int)).before args0 about1 = true := code_word (m := ⟨2, 8⟩) (meth := k2m8) (c := k2c8) (by decide +kernel) rfl rfl rfl (by decide +kernel)
set_option maxRecDepth 65536 in
theorem w_c14 : (Jvm.Cond.code ({ cls := "com/example/reticule/reticule/match/LinkTable", name := "leaveLine", desc := "(I)I" } : Jvm.MethodName) prog_64_method_9_code (5 : Nat) (Option.some Jvm.ClassFile.FieldType.int)).before args0 about1 = true := code_word (m := ⟨2, 5⟩) (meth := k2m5) (c := k2c5) (by decide +kernel) rfl rfl rfl (by decide +kernel)
set_option maxRecDepth 65536 in
theorem w_c15 : (Jvm.Cond.code ({ cls := "com/example/reticule/reticule/match/LinkTable", name := "unlink", desc := "(II)V" } : Jvm.MethodName) prog_64_method_10_code (7 : Nat) (Option.none : Option Jvm.ClassFile.FieldType)).before args0 about1 = true := code_word (m := ⟨2, 6⟩) (meth := k2m6) (c := k2c6) (by decide +kernel) rfl rfl rfl (by decide +kernel)
def codes1 : List Jvm.Cond := [Jvm.Cond.code x code maxLocals ret, Jvm.Cond.code ({ cls := "com/example/reticule/reticule/match/LinkTable", name := "<init>", desc := "()V" } : Jvm.MethodName) prog_64_method_1_code (1 : Nat) (Option.none : Option Jvm.ClassFile.FieldType), Jvm.Cond.code ({ cls := "java/lang/Object", name := "<init>", desc := "()V" } : Jvm.MethodName) object_method_1_code (1 : Nat) (Option.none : Option Jvm.ClassFile.FieldType), Jvm.Cond.code ({ cls := "com/example/reticule/reticule/match/LinkTableLineUpPinLaw", name := "mk", desc := "(Lcom/example/reticule/reticule/match/LinkTable;)I" } : Jvm.MethodName) method_3_code (1 : Nat) (Option.some Jvm.ClassFile.FieldType.int), Jvm.Cond.code ({ cls := "com/example/reticule/reticule/match/LinkTable", name := "add", desc := "(Ljava/lang/Object;II)I" } : Jvm.MethodName) prog_64_method_2_code (5 : Nat) (Option.some Jvm.ClassFile.FieldType.int), Jvm.Cond.code ({ cls := "com/example/reticule/reticule/match/LinkTable", name := "take", desc := "()I" } : Jvm.MethodName) prog_64_method_17_code (2 : Nat) (Option.some Jvm.ClassFile.FieldType.int), Jvm.Cond.code ({ cls := "com/example/reticule/reticule/match/LinkTable", name := "linkFirst", desc := "(III)V" } : Jvm.MethodName) prog_64_method_16_code (7 : Nat) (Option.none : Option Jvm.ClassFile.FieldType), Jvm.Cond.code ({ cls := "com/example/reticule/reticule/match/LinkTable", name := "newList", desc := "()I" } : Jvm.MethodName) prog_64_method_3_code (1 : Nat) (Option.some Jvm.ClassFile.FieldType.int), Jvm.Cond.code ({ cls := "com/example/reticule/reticule/match/LinkTable", name := "newList", desc := "(Ljava/lang/Object;)I" } : Jvm.MethodName) prog_64_method_4_code (4 : Nat) (Option.some Jvm.ClassFile.FieldType.int), Jvm.Cond.code ({ cls := "com/example/reticule/reticule/match/LinkTable", name := "lineUp", desc := "(I[IIZ)V" } : Jvm.MethodName) prog_64_method_8_code (11 : Nat) (Option.none : Option Jvm.ClassFile.FieldType), Jvm.Cond.code ({ cls := "com/example/reticule/reticule/match/LinkTableLineUpPinLaw", name := "nx", desc := "(Lcom/example/reticule/reticule/match/LinkTable;I)I" } : Jvm.MethodName) method_2_code (2 : Nat) (Option.some Jvm.ClassFile.FieldType.int), Jvm.Cond.code ({ cls := "com/example/reticule/reticule/match/LinkTable", name := "next", desc := "(II)I" } : Jvm.MethodName) prog_64_method_11_code (3 : Nat) (Option.some Jvm.ClassFile.FieldType.int), Jvm.Cond.code ({ cls := "com/example/reticule/reticule/match/LinkTableLineUpPinLaw", name := "st", desc := "(Lcom/example/reticule/reticule/match/LinkTable;I)I" } : Jvm.MethodName) method_4_code (2 : Nat) (Option.some Jvm.ClassFile.FieldType.int), Jvm.Cond.code ({ cls := "com/example/reticule/reticule/match/LinkTable", name := "standing", desc := "(I)I" } : Jvm.MethodName) prog_64_method_14_code (2 : Nat) (Option.some Jvm.ClassFile.FieldType.int), Jvm.Cond.code ({ cls := "com/example/reticule/reticule/match/LinkTable", name := "leaveLine", desc := "(I)I" } : Jvm.MethodName) prog_64_method_9_code (5 : Nat) (Option.some Jvm.ClassFile.FieldType.int), Jvm.Cond.code ({ cls := "com/example/reticule/reticule/match/LinkTable", name := "unlink", desc := "(II)V" } : Jvm.MethodName) prog_64_method_10_code (7 : Nat) (Option.none : Option Jvm.ClassFile.FieldType)]
set_option maxRecDepth 65536 in
theorem codes_eq : words1.filter isCode = codes1 := rfl
theorem w_codes : ∀ c ∈ words1.filter isCode, c.before args0 about1 = true := by
  rw [codes_eq]
  intro c hc
  simp only [codes1, List.mem_cons, List.not_mem_nil, or_false] at hc
  rcases hc with rfl | rfl | rfl | rfl | rfl | rfl | rfl | rfl | rfl | rfl | rfl | rfl | rfl | rfl | rfl | rfl
  · exact w_c0
  · exact w_c1
  · exact w_c2
  · exact w_c3
  · exact w_c4
  · exact w_c5
  · exact w_c6
  · exact w_c7
  · exact w_c8
  · exact w_c9
  · exact w_c10
  · exact w_c11
  · exact w_c12
  · exact w_c13
  · exact w_c14
  · exact w_c15
set_option maxRecDepth 65536 in
theorem w_t1 : (words1.take 24).all (fun c => isCode c || c.before args0 about1) = true := by decide +kernel
set_option maxRecDepth 65536 in
theorem w_t2 : ((words1.drop 24).take 24).all (fun c => isCode c || c.before args0 about1) = true := by decide +kernel
set_option maxRecDepth 65536 in
theorem w_t3 : (((words1.drop 24).drop 24).take 24).all (fun c => isCode c || c.before args0 about1) = true := by decide +kernel
set_option maxRecDepth 65536 in
theorem w_t4 : (((words1.drop 24).drop 24).drop 24).all (fun c => isCode c || c.before args0 about1) = true := by decide +kernel
theorem w_tables : (allAtoms (Jvm.Cond.code x code maxLocals ret :: tables_1)).before args0 about1 = true := by
  rw [allAtoms_all]
  show words1.all (fun c => c.before args0 about1) = true
  refine all_split ?_ w_codes
  rw [← List.take_append_drop 24 words1, List.all_append, w_t1, ← List.take_append_drop 24 (words1.drop 24), List.all_append, w_t2, ← List.take_append_drop 24 ((words1.drop 24).drop 24), List.all_append, w_t3, w_t4]
  rfl
set_option maxRecDepth 65536 in
theorem w_case : (Jvm.Cond.and given_1 narrow_1).before args0 about1 = true := by decide +kernel
theorem w_applies : (headSpec (Jvm.Cond.code x code maxLocals ret :: tables_1) room_1).applies x e0.platform about1 = true :=
  (Spec.applies_iff w_frames).mpr ⟨w_running, w_runnable, w_alone, w_named, w_hears, w_ripe, w_room, w_tables⟩
theorem atStart : AtStart classFile x code maxLocals ret World_1 tables_1 room_1 Calls_1 rest_1 Pre_1 launch0 p0 e0 about1 theMethod args0 below0 :=
  ⟨lists_1, trivial, launch0.admits_env _ _ _, launch0.least_env, fairChoices_fair.cas, fairChoices_fair.clock, w_frames, w_args, w_heap, w_applies, trivial, trivial, w_case⟩
end start1
theorem witness_1 : WitnessClaimed_1 := ⟨start1.p0, start1.e0, start1.about1, start1.theMethod, start1.args0, start1.below0, start1.atStart⟩
end Jvm.Pilot.@@N@@
