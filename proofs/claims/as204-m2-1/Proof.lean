import JvmDerived
import JvmDerived.Pilot.@@N@@Statement
import JvmDerived.Pilot.@@N@@Code
set_option linter.unusedVariables false
set_option linter.unusedSimpArgs false
namespace Jvm.RoadKit
open Sem ClassFile Op Lib Jvm.Stand Jvm.Free Jvm.LawKit
section New
variable {p : Program} {l : Launch} {e : Env} {R : Room} {s : State} {m : MethodId} {args : Array Value} {below : List Frame} {meth : Method} {c : Code} {T : State} {locs : List Loc} {cells slots : Nat}
theorem retI (X : Stand p l e R s m args below meth c T locs cells slots) (hx : p.tables.exec = Jvm.exec) {pc : Nat} {Ls : Array Slot} {z : Int32} {rest : List Value} (hret : meth.sig.returnType = some .int) (hd : decode c.code pc = .ok (.ireturn, 1)) {fs : List Frame}
    (hl : ∀ (f : JFrame) (acts : List Action), f.method = m → f.locked = none → f.entered = [] → (doReturn e (T.setTop f) acts (some (.int z))).1 = T.setFrames fs) : Steps p.tables e below (T.setTop (mkF m pc Ls (.int z :: rest))) (T.setFrames fs) := by
  have hm' : T.vm.method? m = some meth := X.method'
  have hn : narrow .int (.int z) = .int z := rfl
  show Steps p.tables e below (T.setTop { method := m, pc := pc, locals := Ls, stack := _ :: rest, locked := none }) _
  jvm_step X.here [X.here.top, hx, hd, hm', hret, hn]
  first | (intro acts; rw [hl _ acts rfl rfl rfl]) | rw [hl _ _ rfl rfl rfl]
  exact Steps.refl _
end New
end Jvm.RoadKit
namespace Jvm.Pilot.@@N@@
open Jvm Jvm.ClassFile Sem Op Lib Jvm.Free Jvm.Stand Jvm.LawKit Jvm.RoadKit Bundle Jvm.Pilot.@@N@@.Jvm.D

section OwnLib
variable {p : Program} {l : Launch} {e : Env} {R : Room} {s : State} {m : MethodId} {args : Array Value} {below : List Frame} {meth : Method} {c : Code} {T : State} {locs : List Loc} {cells slots : Nat} {Z : State} {h h' : Heap} {a b : Addr} {ty : FieldType} {vs : List Value} {n0 : Nat}
theorem own_kr {h h' : Heap} {ws : List Addr} (q : h' = h) : Keep h h' ws := q ▸ Keep.refl _ _
/-- an array by the list of what it holds -/
def AL (Z : State) (h : Heap) (a : Addr) (ty : FieldType) (vs : List Value) : Prop := ∃ c : Cell, Arr Z h a c ty ∧ c.slots.toList = vs ∧ vs.length < 2147483648
theorem AL.lt (F : AL Z h a ty vs) : a < h.size := by obtain ⟨c, A, -⟩ := F; exact A.lt
theorem AL.ext (F : AL Z h a ty vs) (E : Ext h h') : AL Z h' a ty vs := by obtain ⟨c, A, r⟩ := F; exact ⟨c, A.ext E, r⟩
theorem AL.other {sl : Nat} {v : Value} (F : AL Z h b ty vs) (W : Wr h h' a sl v) (q : b ≠ a) : AL Z h' b ty vs := by obtain ⟨c, A, r⟩ := F; exact ⟨c, A.other W q, r⟩
theorem AL.keep {ws : List Addr} (F : AL Z h a ty vs) (K : Keep h h' ws) (q : a ∉ ws) : AL Z h' a ty vs := by obtain ⟨c, A, r⟩ := F; exact ⟨c, ⟨K.2.1 a c A.1 q, A.2⟩, r⟩
theorem AL.new {k : ClassId} {z : Int32} {n : Nat} {d : Value} (A : Arr Z h a (newA k ty z) ty) (q : ¬ z < 0) (hn : z.toNatClampNeg = n) (hd : defaultValue ty = d) : AL Z h a ty (List.replicate n d) := by
  subst hn hd
  refine ⟨_, A, by simp [newA], ?_⟩
  have := (back32 q).2
  simpa using this
theorem own_sz {cl : Cell} (e : cl.slots.toList = vs) : cl.slots.size = vs.length := by rw [← e]; simp
theorem own_inb {cl : Cell} {j : Int32} (e : cl.slots.toList = vs) (h0 : ¬ j < 0) (hl : j.toNatClampNeg < vs.length) : ¬ (j < 0 ∨ cl.slots.size ≤ j.toNatClampNeg) := by
  rw [own_sz e]; intro q; rcases q with q | q
  · exact h0 q
  · omega
theorem own_at {cl : Cell} {i : Nat} {v : Value} (e : cl.slots.toList = vs) (hv : vs[i]? = some v) : cl.slots[i]? = some v := by
  rw [← e] at hv; simpa using hv
theorem AL.same {sl : Nat} {v : Value} (W : Wr h h' a sl v) {cl : Cell} (A : Arr Z h a cl ty) (e : cl.slots.toList = vs) (hl : vs.length < 2147483648) : AL Z h' a ty (vs.set sl v) :=
  ⟨_, A.same W, by rw [← e]; simp [Cell.setSlot], by simpa using hl⟩
theorem own_stI (X : Stand p l e R s m args below meth c T locs cells slots) (hx : p.tables.exec = Jvm.exec) (hZ : Z.Warmed39 s.vm) (eT : T.heap = h) (A : AL Z h a .int vs) (N : Fr n0 locs) (ga : n0 ≤ a) {j x : Int32} (h0 : ¬ j < 0) (hl : j.toNatClampNeg < vs.length) {g : JFrame} (hg : g.method = m) {rest : List Value} (hs : g.stack = .int x :: .int j :: .ref a :: rest) (hd : decode c.code g.pc = .ok (.iastore, 1)) :
    ∃ T' h' L', Stand p l e R s m args below meth c T' L' cells slots ∧ Fr n0 L' ∧ T'.heap = h' ∧ Wr h h' a j.toNatClampNeg (.int x) ∧ AL Z h' a .int (vs.set j.toNatClampNeg (.int x)) ∧ ∀ target, Steps p.tables e below (T'.setTop { g with pc := g.pc + 1, stack := rest }) target → Steps p.tables e below (T.setTop g) target := by
  obtain ⟨cl, A, e1, e2⟩ := A
  obtain ⟨T', h', X', e', W, st⟩ := stI X hx hZ eT A (own_inb e1 h0 hl) hg hs hd
  exact ⟨T', h', _, X', Fr.snoc X' N ga, e', W, AL.same W A e1 e2, st⟩
theorem own_stJ (X : Stand p l e R s m args below meth c T locs cells slots) (hx : p.tables.exec = Jvm.exec) (hZ : Z.Warmed39 s.vm) (eT : T.heap = h) (A : AL Z h a .long vs) (N : Fr n0 locs) (ga : n0 ≤ a) {j : Int32} {x : Int64} (h0 : ¬ j < 0) (hl : j.toNatClampNeg < vs.length) {g : JFrame} (hg : g.method = m) {rest : List Value} (hs : g.stack = .long x :: .int j :: .ref a :: rest) (hd : decode c.code g.pc = .ok (.lastore, 1)) :
    ∃ T' h' L', Stand p l e R s m args below meth c T' L' cells slots ∧ Fr n0 L' ∧ T'.heap = h' ∧ Wr h h' a j.toNatClampNeg (.long x) ∧ AL Z h' a .long (vs.set j.toNatClampNeg (.long x)) ∧ ∀ target, Steps p.tables e below (T'.setTop { g with pc := g.pc + 1, stack := rest }) target → Steps p.tables e below (T.setTop g) target := by
  obtain ⟨cl, A, e1, e2⟩ := A
  obtain ⟨T', h', X', e', W, st⟩ := stJ X hx hZ eT A (own_inb e1 h0 hl) hg hs hd
  exact ⟨T', h', _, X', Fr.snoc X' N ga, e', W, AL.same W A e1 e2, st⟩
theorem own_stB (X : Stand p l e R s m args below meth c T locs cells slots) (hx : p.tables.exec = Jvm.exec) (hZ : Z.Warmed39 s.vm) (eT : T.heap = h) (A : AL Z h a .byte vs) (N : Fr n0 locs) (ga : n0 ≤ a) {j x : Int32} (h0 : ¬ j < 0) (hl : j.toNatClampNeg < vs.length) {g : JFrame} (hg : g.method = m) {rest : List Value} (hs : g.stack = .int x :: .int j :: .ref a :: rest) (hd : decode c.code g.pc = .ok (.bastore, 1)) :
    ∃ T' h' L', Stand p l e R s m args below meth c T' L' cells slots ∧ Fr n0 L' ∧ T'.heap = h' ∧ Wr h h' a j.toNatClampNeg (.int x.toInt8.toInt32) ∧ AL Z h' a .byte (vs.set j.toNatClampNeg (.int x.toInt8.toInt32)) ∧ ∀ target, Steps p.tables e below (T'.setTop { g with pc := g.pc + 1, stack := rest }) target → Steps p.tables e below (T.setTop g) target := by
  obtain ⟨cl, A, e1, e2⟩ := A
  obtain ⟨T', h', X', e', W, st⟩ := stB X hx hZ eT A (own_inb e1 h0 hl) hg hs hd
  exact ⟨T', h', _, X', Fr.snoc X' N ga, e', W, AL.same W A e1 e2, st⟩
theorem own_stZ (X : Stand p l e R s m args below meth c T locs cells slots) (hx : p.tables.exec = Jvm.exec) (hZ : Z.Warmed39 s.vm) (eT : T.heap = h) (A : AL Z h a .boolean vs) (N : Fr n0 locs) (ga : n0 ≤ a) {j x : Int32} (h0 : ¬ j < 0) (hl : j.toNatClampNeg < vs.length) {g : JFrame} (hg : g.method = m) {rest : List Value} (hs : g.stack = .int x :: .int j :: .ref a :: rest) (hd : decode c.code g.pc = .ok (.bastore, 1)) :
    ∃ T' h' L', Stand p l e R s m args below meth c T' L' cells slots ∧ Fr n0 L' ∧ T'.heap = h' ∧ Wr h h' a j.toNatClampNeg (.int (nar .boolean x)) ∧ AL Z h' a .boolean (vs.set j.toNatClampNeg (.int (nar .boolean x))) ∧ ∀ target, Steps p.tables e below (T'.setTop { g with pc := g.pc + 1, stack := rest }) target → Steps p.tables e below (T.setTop g) target := by
  obtain ⟨cl, A, e1, e2⟩ := A
  obtain ⟨T', h', X', e', W, st⟩ := stZ X hx hZ eT A (own_inb e1 h0 hl) hg hs hd
  exact ⟨T', h', _, X', Fr.snoc X' N ga, e', W, AL.same W A e1 e2, st⟩
theorem own_stR (X : Stand p l e R s m args below meth c T locs cells slots) (hx : p.tables.exec = Jvm.exec) (hZ : Z.Warmed39 s.vm) (eT : T.heap = h) (A : AL Z h a ty vs) (N : Fr n0 locs) (ga : n0 ≤ a) (hty : ty.isReference = true) {j : Int32} (h0 : ¬ j < 0) (hl : j.toNatClampNeg < vs.length) {g : JFrame} (hg : g.method = m) {rest : List Value} (hs : g.stack = .null :: .int j :: .ref a :: rest) (hd : decode c.code g.pc = .ok (.aastore, 1)) :
    ∃ T' h' L', Stand p l e R s m args below meth c T' L' cells slots ∧ Fr n0 L' ∧ T'.heap = h' ∧ Wr h h' a j.toNatClampNeg .null ∧ AL Z h' a ty (vs.set j.toNatClampNeg .null) ∧ ∀ target, Steps p.tables e below (T'.setTop { g with pc := g.pc + 1, stack := rest }) target → Steps p.tables e below (T.setTop g) target := by
  obtain ⟨cl, A, e1, e2⟩ := A
  obtain ⟨T', h', X', e', W, st⟩ := stR X hx hZ eT A (own_inb e1 h0 hl) hty (Or.inl rfl) hg hs hd
  exact ⟨T', h', _, X', Fr.snoc X' N ga, e', W, AL.same W A e1 e2, st⟩
theorem own_lt_of {i : Nat} {v : Value} (hv : vs[i]? = some v) : i < vs.length := (List.getElem?_eq_some_iff.mp hv).1
theorem own_ldI (X : Stand p l e R s m args below meth c T locs cells slots) (hx : p.tables.exec = Jvm.exec) (hZ : Z.Warmed39 s.vm) (eT : T.heap = h) (A : AL Z h a .int vs) {j x : Int32} (h0 : ¬ j < 0) (hv : vs[j.toNatClampNeg]? = some (.int x)) {g : JFrame} (hg : g.method = m) {rest : List Value} (hs : g.stack = .int j :: .ref a :: rest) (hd : decode c.code g.pc = .ok (.iaload, 1)) :
    ∀ target, Steps p.tables e below (T.setTop { g with pc := g.pc + 1, stack := .int x :: rest }) target → Steps p.tables e below (T.setTop g) target := by
  obtain ⟨cl, A, e1, e2⟩ := A
  exact X.iaload hx (j := j) (v := .int x) (by rw [eT]; exact A.1) (State.isArrayOf_alike hZ.alike A.2.1) A.2.2 (own_inb e1 h0 (own_lt_of hv)) (own_at e1 hv) hg hs hd
theorem own_ldJ (X : Stand p l e R s m args below meth c T locs cells slots) (hx : p.tables.exec = Jvm.exec) (hZ : Z.Warmed39 s.vm) (eT : T.heap = h) (A : AL Z h a .long vs) {j : Int32} {x : Int64} (h0 : ¬ j < 0) (hv : vs[j.toNatClampNeg]? = some (.long x)) {g : JFrame} (hg : g.method = m) {rest : List Value} (hs : g.stack = .int j :: .ref a :: rest) (hd : decode c.code g.pc = .ok (.laload, 1)) :
    ∀ target, Steps p.tables e below (T.setTop { g with pc := g.pc + 1, stack := .long x :: rest }) target → Steps p.tables e below (T.setTop g) target := by
  obtain ⟨cl, A, e1, e2⟩ := A
  exact X.laload hx (j := j) (v := .long x) (by rw [eT]; exact A.1) (State.isArrayOf_alike hZ.alike A.2.1) A.2.2 (own_inb e1 h0 (own_lt_of hv)) (own_at e1 hv) hg hs hd
theorem own_ldB (X : Stand p l e R s m args below meth c T locs cells slots) (hx : p.tables.exec = Jvm.exec) (hZ : Z.Warmed39 s.vm) (eT : T.heap = h) (A : AL Z h a .byte vs) {j x : Int32} (h0 : ¬ j < 0) (hv : vs[j.toNatClampNeg]? = some (.int x)) {g : JFrame} (hg : g.method = m) {rest : List Value} (hs : g.stack = .int j :: .ref a :: rest) (hd : decode c.code g.pc = .ok (.baload, 1)) :
    ∀ target, Steps p.tables e below (T.setTop { g with pc := g.pc + 1, stack := .int x :: rest }) target → Steps p.tables e below (T.setTop g) target := by
  obtain ⟨cl, A, e1, e2⟩ := A
  exact X.baloadBytes hx (j := j) (v := .int x) (by rw [eT]; exact A.1) (State.isArrayOf_alike hZ.alike A.2.1) A.2.2 (own_inb e1 h0 (own_lt_of hv)) (own_at e1 hv) hg hs hd
theorem own_len (X : Stand p l e R s m args below meth c T locs cells slots) (hx : p.tables.exec = Jvm.exec) (hZ : Z.Warmed39 s.vm) (eT : T.heap = h) (A : AL Z h a ty vs) {z : Int32} (hz : vs.length.toInt32 = z) {g : JFrame} (hg : g.method = m) {rest : List Value} (hs : g.stack = .ref a :: rest) (hd : decode c.code g.pc = .ok (.arraylength, 1)) :
    ∀ target, Steps p.tables e below (T.setTop { g with pc := g.pc + 1, stack := .int z :: rest }) target → Steps p.tables e below (T.setTop g) target := by
  obtain ⟨cl, A, e1, e2⟩ := A
  intro target k
  refine X.arraylength hx (by rw [eT]; exact A.1) (State.isArrayOf_alike hZ.alike A.2.1) hg hs hd _ ?_
  rw [own_sz e1, hz]; exact k
end OwnLib

theorem pn_0 : plainName "com/example/othograph/othograph/AutomatonLabelPinLaw" = true := by first | (simp [plainName, overriddenIn]; done) | decide +kernel
theorem pd_0 : parseMethodDescriptor "(IIII)Z" = some ⟨[.int, .int, .int, .int], some .boolean⟩ := by decide +kernel

theorem d1_0 : decode method_2_code 0 = .ok (.iload_n 0, 1) := by decide +kernel
theorem d1_1 : decode method_2_code 1 = .ok (.iload_n 1, 1) := by decide +kernel
theorem d1_2 : decode method_2_code 2 = .ok (.if_icmp .ge 5, 3) := by decide +kernel
theorem d1_5 : decode method_2_code 5 = .ok (.iconst 0, 1) := by decide +kernel
theorem d1_6 : decode method_2_code 6 = .ok (.ireturn, 1) := by decide +kernel
theorem d1_7 : decode method_2_code 7 = .ok (.iload_n 0, 1) := by decide +kernel
theorem d1_8 : decode method_2_code 8 = .ok (.iload_n 1, 1) := by decide +kernel
theorem d1_9 : decode method_2_code 9 = .ok (.if_icmp .ne 7, 3) := by decide +kernel
theorem d1_12 : decode method_2_code 12 = .ok (.iconst 1, 1) := by decide +kernel
theorem d1_13 : decode method_2_code 13 = .ok (.goto 4, 3) := by decide +kernel
theorem d1_16 : decode method_2_code 16 = .ok (.iconst 0, 1) := by decide +kernel
theorem d1_17 : decode method_2_code 17 = .ok (.ireturn, 1) := by decide +kernel
theorem pn_1 : plainName "com/example/othograph/othograph/AutomatonLabelPinLaw" = true := by first | (simp [plainName, overriddenIn]; done) | decide +kernel
theorem pd_1 : parseMethodDescriptor "(II)I" = some ⟨[.int, .int], some .int⟩ := by decide +kernel

theorem d2_0 : decode method_3_code 0 = .ok (.iload_n 0, 1) := by decide +kernel
theorem d2_1 : decode method_3_code 1 = .ok (.iload_n 1, 1) := by decide +kernel
theorem d2_2 : decode method_3_code 2 = .ok (.if_icmp .ge 7, 3) := by decide +kernel
theorem d2_5 : decode method_3_code 5 = .ok (.iload_n 2, 1) := by decide +kernel
theorem d2_6 : decode method_3_code 6 = .ok (.iload_n 0, 1) := by decide +kernel
theorem d2_7 : decode method_3_code 7 = .ok (.iadd, 1) := by decide +kernel
theorem d2_8 : decode method_3_code 8 = .ok (.ireturn, 1) := by decide +kernel
theorem d2_9 : decode method_3_code 9 = .ok (.iload_n 0, 1) := by decide +kernel
theorem d2_10 : decode method_3_code 10 = .ok (.iload_n 1, 1) := by decide +kernel
theorem d2_11 : decode method_3_code 11 = .ok (.isub, 1) := by decide +kernel
theorem d2_12 : decode method_3_code 12 = .ok (.istore 5, 2) := by decide +kernel
theorem d2_14 : decode method_3_code 14 = .ok (.iload_n 3, 1) := by decide +kernel
theorem d2_15 : decode method_3_code 15 = .ok (.iload 5, 2) := by decide +kernel
theorem d2_17 : decode method_3_code 17 = .ok (.iconst 1, 1) := by decide +kernel
theorem d2_18 : decode method_3_code 18 = .ok (.if_icmp .lt 8, 3) := by decide +kernel
theorem d2_21 : decode method_3_code 21 = .ok (.iload 4, 2) := by decide +kernel
theorem d2_23 : decode method_3_code 23 = .ok (.goto 4, 3) := by decide +kernel
theorem d2_26 : decode method_3_code 26 = .ok (.iconst 0, 1) := by decide +kernel
theorem d2_27 : decode method_3_code 27 = .ok (.iadd, 1) := by decide +kernel
theorem d2_28 : decode method_3_code 28 = .ok (.iload 5, 2) := by decide +kernel
theorem d2_30 : decode method_3_code 30 = .ok (.iconst 2, 1) := by decide +kernel
theorem d2_31 : decode method_3_code 31 = .ok (.if_icmp .lt 7, 3) := by decide +kernel
theorem d2_34 : decode method_3_code 34 = .ok (.iconst 1, 1) := by decide +kernel
theorem d2_35 : decode method_3_code 35 = .ok (.goto 4, 3) := by decide +kernel
theorem d2_38 : decode method_3_code 38 = .ok (.iconst 0, 1) := by decide +kernel
theorem d2_39 : decode method_3_code 39 = .ok (.iadd, 1) := by decide +kernel
theorem d2_40 : decode method_3_code 40 = .ok (.ireturn, 1) := by decide +kernel
theorem pn_2 : plainName "com/example/othograph/othograph/AutomatonLabelPinLaw" = true := by first | (simp [plainName, overriddenIn]; done) | decide +kernel
theorem pd_2 : parseMethodDescriptor "(IIIII)I" = some ⟨[.int, .int, .int, .int, .int], some .int⟩ := by decide +kernel

theorem d5_0 : decode method_4_code 0 = .ok (.iload_n 0, 1) := by decide +kernel
theorem d5_1 : decode method_4_code 1 = .ok (.iload_n 1, 1) := by decide +kernel
theorem d5_2 : decode method_4_code 2 = .ok (.if_icmp .ge 7, 3) := by decide +kernel
theorem d5_5 : decode method_4_code 5 = .ok (.iconst 1, 1) := by decide +kernel
theorem d5_6 : decode method_4_code 6 = .ok (.goto 4, 3) := by decide +kernel
theorem d5_9 : decode method_4_code 9 = .ok (.iconst 2, 1) := by decide +kernel
theorem d5_10 : decode method_4_code 10 = .ok (.ireturn, 1) := by decide +kernel
theorem pn_5 : plainName "com/example/othograph/othograph/AutomatonLabelPinLaw" = true := by first | (simp [plainName, overriddenIn]; done) | decide +kernel
theorem pd_5 : parseMethodDescriptor "(II)I" = some ⟨[.int, .int], some .int⟩ := by decide +kernel

theorem d6_0 : decode method_5_code 0 = .ok (.iload_n 0, 1) := by decide +kernel
theorem d6_1 : decode method_5_code 1 = .ok (.iload_n 1, 1) := by decide +kernel
theorem d6_2 : decode method_5_code 2 = .ok (.if_icmp .ge 7, 3) := by decide +kernel
theorem d6_5 : decode method_5_code 5 = .ok (.iload_n 0, 1) := by decide +kernel
theorem d6_6 : decode method_5_code 6 = .ok (.goto 6, 3) := by decide +kernel
theorem d6_9 : decode method_5_code 9 = .ok (.iload_n 0, 1) := by decide +kernel
theorem d6_10 : decode method_5_code 10 = .ok (.iload_n 1, 1) := by decide +kernel
theorem d6_11 : decode method_5_code 11 = .ok (.isub, 1) := by decide +kernel
theorem d6_12 : decode method_5_code 12 = .ok (.ireturn, 1) := by decide +kernel
theorem pn_6 : plainName "com/example/othograph/othograph/AutomatonLabelPinLaw" = true := by first | (simp [plainName, overriddenIn]; done) | decide +kernel
theorem pd_6 : parseMethodDescriptor "(II)I" = some ⟨[.int, .int], some .int⟩ := by decide +kernel

theorem d3_0 : decode prog_8_method_1_code 0 = .ok (.aload_n 0, 1) := by decide +kernel
theorem d3_1 : decode prog_8_method_1_code 1 = .ok (.invokespecial 3, 3) := by decide +kernel
theorem d3_4 : decode prog_8_method_1_code 4 = .ok (.aload_n 0, 1) := by decide +kernel
theorem d3_5 : decode prog_8_method_1_code 5 = .ok (.aload_n 1, 1) := by decide +kernel
theorem d3_6 : decode prog_8_method_1_code 6 = .ok (.putfield 9, 3) := by decide +kernel
theorem d3_9 : decode prog_8_method_1_code 9 = .ok (.aload_n 0, 1) := by decide +kernel
theorem d3_10 : decode prog_8_method_1_code 10 = .ok (.aload_n 2, 1) := by decide +kernel
theorem d3_11 : decode prog_8_method_1_code 11 = .ok (.putfield 15, 3) := by decide +kernel
theorem d3_14 : decode prog_8_method_1_code 14 = .ok (.aload_n 0, 1) := by decide +kernel
theorem d3_15 : decode prog_8_method_1_code 15 = .ok (.aload_n 3, 1) := by decide +kernel
theorem d3_16 : decode prog_8_method_1_code 16 = .ok (.putfield 19, 3) := by decide +kernel
theorem d3_19 : decode prog_8_method_1_code 19 = .ok (.aload_n 0, 1) := by decide +kernel
theorem d3_20 : decode prog_8_method_1_code 20 = .ok (.aload 4, 2) := by decide +kernel
theorem d3_22 : decode prog_8_method_1_code 22 = .ok (.putfield 22, 3) := by decide +kernel
theorem d3_25 : decode prog_8_method_1_code 25 = .ok (.aload_n 0, 1) := by decide +kernel
theorem d3_26 : decode prog_8_method_1_code 26 = .ok (.aload 5, 2) := by decide +kernel
theorem d3_28 : decode prog_8_method_1_code 28 = .ok (.putfield 25, 3) := by decide +kernel
theorem d3_31 : decode prog_8_method_1_code 31 = .ok (.aload_n 0, 1) := by decide +kernel
theorem d3_32 : decode prog_8_method_1_code 32 = .ok (.iload 6, 2) := by decide +kernel
theorem d3_34 : decode prog_8_method_1_code 34 = .ok (.putfield 28, 3) := by decide +kernel
theorem d3_37 : decode prog_8_method_1_code 37 = .ok (.return_, 1) := by decide +kernel
theorem pn_3 : plainName "com/example/othograph/othograph/Automaton" = true := by first | (simp [plainName, overriddenIn]; done) | decide +kernel
theorem pd_3 : parseMethodDescriptor "([I[Z[I[I[II)V" = some ⟨[(.array .int), (.array .boolean), (.array .int), (.array .int), (.array .int), .int], none⟩ := by decide +kernel

theorem d7_0 : decode prog_8_method_7_code 0 = .ok (.aload_n 0, 1) := by decide +kernel
theorem d7_1 : decode prog_8_method_7_code 1 = .ok (.getfield 19, 3) := by decide +kernel
theorem d7_4 : decode prog_8_method_7_code 4 = .ok (.aload_n 0, 1) := by decide +kernel
theorem d7_5 : decode prog_8_method_7_code 5 = .ok (.getfield 9, 3) := by decide +kernel
theorem d7_8 : decode prog_8_method_7_code 8 = .ok (.iload_n 1, 1) := by decide +kernel
theorem d7_9 : decode prog_8_method_7_code 9 = .ok (.iaload, 1) := by decide +kernel
theorem d7_10 : decode prog_8_method_7_code 10 = .ok (.iload_n 2, 1) := by decide +kernel
theorem d7_11 : decode prog_8_method_7_code 11 = .ok (.iadd, 1) := by decide +kernel
theorem d7_12 : decode prog_8_method_7_code 12 = .ok (.iaload, 1) := by decide +kernel
theorem d7_13 : decode prog_8_method_7_code 13 = .ok (.ireturn, 1) := by decide +kernel
theorem pn_7 : plainName "com/example/othograph/othograph/Automaton" = true := by first | (simp [plainName, overriddenIn]; done) | decide +kernel
theorem pd_7 : parseMethodDescriptor "(II)I" = some ⟨[.int, .int], some .int⟩ := by decide +kernel

def own_st (j n : Int32) : Int32 := if j < n then 1 else 2
def own_ix (j n : Int32) : Int32 := if j < n then j else j - n
def own_x (j n : Int32) : Int32 := if j < n then 0 else n
theorem own_f (j n : Int32) : ([.int (0 : Int32), .int (0 : Int32), .int n, .int (3 : Int32)] : List Value)[(own_st j n).toNatClampNeg]? = some (.int (own_x j n)) := by
  unfold own_st own_x; split <;> rfl
theorem own_f0 (j n : Int32) : ¬ own_st j n < 0 := by
  unfold own_st; split <;> decide
theorem own_sum (j n : Int32) : own_x j n + own_ix j n = j := by
  unfold own_x own_ix
  split
  · apply Int32.toBitVec_inj.mp
    show 0#32 + j.toBitVec = _
    rw [BitVec.zero_add]
  · apply Int32.toBitVec_inj.mp
    show n.toBitVec + (j.toBitVec - n.toBitVec) = _
    rw [BitVec.add_comm, BitVec.sub_add_cancel]

theorem ef_rm1 (m : MethodId) (p1 : Int32) (p2 : Int32) : entryFrame m #[(.int p1), (.int p2)] 2 = mkF m 0 #[.val (.int p1), .val (.int p2)] [] := by first | (simp [entryFrame, mkF, argsToLocals, Value.category]; done) | rfl
def Q1 (Z : State)  (h0 : Heap) (n0 : Nat) (v : Option Value) (h : Heap) (L : List Loc) : Prop := (∃ z : Int32, v = some (.int z)) ∧ Fr n0 L ∧ h = h0
set_option maxRecDepth 65536 in
set_option maxHeartbeats 40000000 in
theorem rm1 (l : Launch) (Z : State) (a0 : Array Value) (hw : ∀ d ∈ tables_1, d.before a0 Z = true) (ws : List Jvm.Cond) (p1 : Int32) (p2 : Int32) (h0 : Heap) (n0 : Nat) (Z0 : n0 ≤ h0.size) :
    MetFree l (⟨"com/example/othograph/othograph/AutomatonLabelPinLaw", "tgt", "(II)I"⟩ : MethodName) (head1 (Jvm.Cond.code (⟨"com/example/othograph/othograph/AutomatonLabelPinLaw", "tgt", "(II)I"⟩ : MethodName) method_2_code 2 (some .int) :: ws) ({ frames := 0, cells := 0, slots := 0, locals := 0 } : Room)) (fun a U => a = #[(.int p1), (.int p2)] ∧ Z.Warmed39 U.vm ∧ U.heap = h0) (fun _ _ _ _ _ => True) (fun _ U o U' => ∃ v L, o = .returned v ∧ Q1 Z  h0 n0 v U'.heap L ∧ FrameEnd U o U' L ({ frames := 0, cells := 0, slots := 0, locals := 0 } : Room).cells ({ frames := 0, cells := 0, slots := 0, locals := 0 } : Room).slots) := by
  refine MetFree.of_bodySF (plainFor_of_name pn_1) hisR ?_
  intro p e s m args below meth c s₁ Bd hml0 hP hK
  obtain ⟨rfl, hZ, hh⟩ := hP
  have hx := Bd.exec
  have hby := Bd.bytes
  have hml : c.maxLocals = 2 := hml0
  have hown : s.vm.findClass "com/example/othograph/othograph/AutomatonLabelPinLaw" = some m.cls := findClass_of_methodNamed Bd.named
  have hnm := (name_of_methodNamed Bd.named Bd.method).1
  have X0 : Stand p l e ({ frames := 0, cells := 0, slots := 0, locals := 0 } : Room) s m #[(.int p1), (.int p2)] below meth c s₁ [] 0 0 := Stand.of_body Bd
  have e0 : s₁.heap = h0 := by rw [← hh, Bd.state]; rfl
  have N0 := Fr.nil n0
  have pre0 : ∀ t, Steps p.tables e below (s₁.setTop (mkF m 0 #[.val (.int p1), .val (.int p2)] [])) t → Steps p.tables e below (s₁.setTop (entryFrame m #[(.int p1), (.int p2)] 2)) t := fun t k => castTop (ef_rm1 m p1 p2) k

  by_cases h1 : p1 < p2
  · obtain ⟨fs, hr, hrun, hended, hW, hsame⟩ := X0.leave (v := some (.int (0 : Int32))) (fun h => by rw [Bd.returns] at h; cases h)
    refine ⟨_, _, pre0 _ ?_, hrun, hended, _, _, rfl, ?_, ⟨_, rfl⟩, hW, hsame.mono (by decide) (by decide)⟩
    · show Steps p.tables e below (s₁.setTop (mkF m 0 #[.val (.int p1), .val (.int p2)] [])) _
      refine XS.iloadN X0.here hx rfl (hb hby d1_0) rfl ?_
      show Steps p.tables e below (s₁.setTop (mkF m 1 #[.val (.int p1), .val (.int p2)] [(.int p1)])) _
      refine XS.iloadN X0.here hx rfl (hb hby d1_1) rfl ?_
      show Steps p.tables e below (s₁.setTop (mkF m 2 #[.val (.int p1), .val (.int p2)] [(.int p2), (.int p1)])) _
      refine XS.icmpNo X0.here hx rfl (hb hby d1_2) rfl (tlt (h1 : p1 < p2)).2.1 ?_
      show Steps p.tables e below (s₁.setTop (mkF m 5 #[.val (.int p1), .val (.int p2)] [])) _
      refine XS.iconst X0.here hx rfl (hb hby d1_5) ?_
      show Steps p.tables e below (s₁.setTop (mkF m 6 #[.val (.int p1), .val (.int p2)] [(.int (0 : Int32))])) _
      exact retI X0 hx Bd.returns (hb hby d1_6) hr
    · show Q1 Z  h0 n0 _ s₁.heap _
      rw [e0]
      exact ⟨⟨_, rfl⟩, N0, rfl⟩
  · by_cases h2 : p1 = p2
    · obtain ⟨fs, hr, hrun, hended, hW, hsame⟩ := X0.leave (v := some (.int (1 : Int32))) (fun h => by rw [Bd.returns] at h; cases h)
      refine ⟨_, _, pre0 _ ?_, hrun, hended, _, _, rfl, ?_, ⟨_, rfl⟩, hW, hsame.mono (by decide) (by decide)⟩
      · show Steps p.tables e below (s₁.setTop (mkF m 0 #[.val (.int p1), .val (.int p2)] [])) _
        refine XS.iloadN X0.here hx rfl (hb hby d1_0) rfl ?_
        show Steps p.tables e below (s₁.setTop (mkF m 1 #[.val (.int p1), .val (.int p2)] [(.int p1)])) _
        refine XS.iloadN X0.here hx rfl (hb hby d1_1) rfl ?_
        show Steps p.tables e below (s₁.setTop (mkF m 2 #[.val (.int p1), .val (.int p2)] [(.int p2), (.int p1)])) _
        refine XS.icmpYes X0.here hx rfl (pc0 := 2) (pc' := 7) rfl (hb hby d1_2) rfl (flt (h1 : ¬ (p1 < p2))).2.1 (by decide) (by decide) ?_
        show Steps p.tables e below (s₁.setTop (mkF m 7 #[.val (.int p1), .val (.int p2)] [])) _
        refine XS.iloadN X0.here hx rfl (hb hby d1_7) rfl ?_
        show Steps p.tables e below (s₁.setTop (mkF m 8 #[.val (.int p1), .val (.int p2)] [(.int p1)])) _
        refine XS.iloadN X0.here hx rfl (hb hby d1_8) rfl ?_
        show Steps p.tables e below (s₁.setTop (mkF m 9 #[.val (.int p1), .val (.int p2)] [(.int p2), (.int p1)])) _
        refine XS.icmpNo X0.here hx rfl (hb hby d1_9) rfl (teq (h2 : p1 = p2)).2 ?_
        show Steps p.tables e below (s₁.setTop (mkF m 12 #[.val (.int p1), .val (.int p2)] [])) _
        refine XS.iconst X0.here hx rfl (hb hby d1_12) ?_
        show Steps p.tables e below (s₁.setTop (mkF m 13 #[.val (.int p1), .val (.int p2)] [(.int (1 : Int32))])) _
        refine XS.goto X0.here hx rfl (pc0 := 13) (pc' := 17) rfl (hb hby d1_13) (by decide) (by decide) ?_
        show Steps p.tables e below (s₁.setTop (mkF m 17 #[.val (.int p1), .val (.int p2)] [(.int (1 : Int32))])) _
        exact retI X0 hx Bd.returns (hb hby d1_17) hr
      · show Q1 Z  h0 n0 _ s₁.heap _
        rw [e0]
        exact ⟨⟨_, rfl⟩, N0, rfl⟩
    · obtain ⟨fs, hr, hrun, hended, hW, hsame⟩ := X0.leave (v := some (.int (0 : Int32))) (fun h => by rw [Bd.returns] at h; cases h)
      refine ⟨_, _, pre0 _ ?_, hrun, hended, _, _, rfl, ?_, ⟨_, rfl⟩, hW, hsame.mono (by decide) (by decide)⟩
      · show Steps p.tables e below (s₁.setTop (mkF m 0 #[.val (.int p1), .val (.int p2)] [])) _
        refine XS.iloadN X0.here hx rfl (hb hby d1_0) rfl ?_
        show Steps p.tables e below (s₁.setTop (mkF m 1 #[.val (.int p1), .val (.int p2)] [(.int p1)])) _
        refine XS.iloadN X0.here hx rfl (hb hby d1_1) rfl ?_
        show Steps p.tables e below (s₁.setTop (mkF m 2 #[.val (.int p1), .val (.int p2)] [(.int p2), (.int p1)])) _
        refine XS.icmpYes X0.here hx rfl (pc0 := 2) (pc' := 7) rfl (hb hby d1_2) rfl (flt (h1 : ¬ (p1 < p2))).2.1 (by decide) (by decide) ?_
        show Steps p.tables e below (s₁.setTop (mkF m 7 #[.val (.int p1), .val (.int p2)] [])) _
        refine XS.iloadN X0.here hx rfl (hb hby d1_7) rfl ?_
        show Steps p.tables e below (s₁.setTop (mkF m 8 #[.val (.int p1), .val (.int p2)] [(.int p1)])) _
        refine XS.iloadN X0.here hx rfl (hb hby d1_8) rfl ?_
        show Steps p.tables e below (s₁.setTop (mkF m 9 #[.val (.int p1), .val (.int p2)] [(.int p2), (.int p1)])) _
        refine XS.icmpYes X0.here hx rfl (pc0 := 9) (pc' := 16) rfl (hb hby d1_9) rfl (feq (h2 : ¬ (p1 = p2))).2 (by decide) (by decide) ?_
        show Steps p.tables e below (s₁.setTop (mkF m 16 #[.val (.int p1), .val (.int p2)] [])) _
        refine XS.iconst X0.here hx rfl (hb hby d1_16) ?_
        show Steps p.tables e below (s₁.setTop (mkF m 17 #[.val (.int p1), .val (.int p2)] [(.int (0 : Int32))])) _
        exact retI X0 hx Bd.returns (hb hby d1_17) hr
      · show Q1 Z  h0 n0 _ s₁.heap _
        rw [e0]
        exact ⟨⟨_, rfl⟩, N0, rfl⟩

theorem ef_rm2 (m : MethodId) (p1 : Int32) (p2 : Int32) (p3 : Int32) (p4 : Int32) (p5 : Int32) : entryFrame m #[(.int p1), (.int p2), (.int p3), (.int p4), (.int p5)] 6 = mkF m 0 #[.val (.int p1), .val (.int p2), .val (.int p3), .val (.int p4), .val (.int p5), .unset] [] := by first | (simp [entryFrame, mkF, argsToLocals, Value.category]; done) | rfl
def Q2 (Z : State)  (h0 : Heap) (n0 : Nat) (v : Option Value) (h : Heap) (L : List Loc) : Prop := (∃ z : Int32, v = some (.int z)) ∧ Fr n0 L ∧ h = h0
set_option maxRecDepth 65536 in
set_option maxHeartbeats 40000000 in
theorem rm2 (l : Launch) (Z : State) (a0 : Array Value) (hw : ∀ d ∈ tables_1, d.before a0 Z = true) (ws : List Jvm.Cond) (p1 : Int32) (p2 : Int32) (p3 : Int32) (p4 : Int32) (p5 : Int32) (h0 : Heap) (n0 : Nat) (Z0 : n0 ≤ h0.size) :
    MetFree l (⟨"com/example/othograph/othograph/AutomatonLabelPinLaw", "off", "(IIIII)I"⟩ : MethodName) (head1 (Jvm.Cond.code (⟨"com/example/othograph/othograph/AutomatonLabelPinLaw", "off", "(IIIII)I"⟩ : MethodName) method_3_code 6 (some .int) :: ws) ({ frames := 0, cells := 0, slots := 0, locals := 0 } : Room)) (fun a U => a = #[(.int p1), (.int p2), (.int p3), (.int p4), (.int p5)] ∧ Z.Warmed39 U.vm ∧ U.heap = h0) (fun _ _ _ _ _ => True) (fun _ U o U' => ∃ v L, o = .returned v ∧ Q2 Z  h0 n0 v U'.heap L ∧ FrameEnd U o U' L ({ frames := 0, cells := 0, slots := 0, locals := 0 } : Room).cells ({ frames := 0, cells := 0, slots := 0, locals := 0 } : Room).slots) := by
  refine MetFree.of_bodySF (plainFor_of_name pn_2) hisR ?_
  intro p e s m args below meth c s₁ Bd hml0 hP hK
  obtain ⟨rfl, hZ, hh⟩ := hP
  have hx := Bd.exec
  have hby := Bd.bytes
  have hml : c.maxLocals = 6 := hml0
  have hown : s.vm.findClass "com/example/othograph/othograph/AutomatonLabelPinLaw" = some m.cls := findClass_of_methodNamed Bd.named
  have hnm := (name_of_methodNamed Bd.named Bd.method).1
  have X0 : Stand p l e ({ frames := 0, cells := 0, slots := 0, locals := 0 } : Room) s m #[(.int p1), (.int p2), (.int p3), (.int p4), (.int p5)] below meth c s₁ [] 0 0 := Stand.of_body Bd
  have e0 : s₁.heap = h0 := by rw [← hh, Bd.state]; rfl
  have N0 := Fr.nil n0
  have pre0 : ∀ t, Steps p.tables e below (s₁.setTop (mkF m 0 #[.val (.int p1), .val (.int p2), .val (.int p3), .val (.int p4), .val (.int p5), .unset] [])) t → Steps p.tables e below (s₁.setTop (entryFrame m #[(.int p1), (.int p2), (.int p3), (.int p4), (.int p5)] 6)) t := fun t k => castTop (ef_rm2 m p1 p2 p3 p4 p5) k

  by_cases h1 : p1 < p2
  · obtain ⟨fs, hr, hrun, hended, hW, hsame⟩ := X0.leave (v := some (.int (p3 + p1))) (fun h => by rw [Bd.returns] at h; cases h)
    refine ⟨_, _, pre0 _ ?_, hrun, hended, _, _, rfl, ?_, ⟨_, rfl⟩, hW, hsame.mono (by decide) (by decide)⟩
    · show Steps p.tables e below (s₁.setTop (mkF m 0 #[.val (.int p1), .val (.int p2), .val (.int p3), .val (.int p4), .val (.int p5), .unset] [])) _
      refine XS.iloadN X0.here hx rfl (hb hby d2_0) rfl ?_
      show Steps p.tables e below (s₁.setTop (mkF m 1 #[.val (.int p1), .val (.int p2), .val (.int p3), .val (.int p4), .val (.int p5), .unset] [(.int p1)])) _
      refine XS.iloadN X0.here hx rfl (hb hby d2_1) rfl ?_
      show Steps p.tables e below (s₁.setTop (mkF m 2 #[.val (.int p1), .val (.int p2), .val (.int p3), .val (.int p4), .val (.int p5), .unset] [(.int p2), (.int p1)])) _
      refine XS.icmpNo X0.here hx rfl (hb hby d2_2) rfl (tlt (h1 : p1 < p2)).2.1 ?_
      show Steps p.tables e below (s₁.setTop (mkF m 5 #[.val (.int p1), .val (.int p2), .val (.int p3), .val (.int p4), .val (.int p5), .unset] [])) _
      refine XS.iloadN X0.here hx rfl (hb hby d2_5) rfl ?_
      show Steps p.tables e below (s₁.setTop (mkF m 6 #[.val (.int p1), .val (.int p2), .val (.int p3), .val (.int p4), .val (.int p5), .unset] [(.int p3)])) _
      refine XS.iloadN X0.here hx rfl (hb hby d2_6) rfl ?_
      show Steps p.tables e below (s₁.setTop (mkF m 7 #[.val (.int p1), .val (.int p2), .val (.int p3), .val (.int p4), .val (.int p5), .unset] [(.int p1), (.int p3)])) _
      refine XS.iadd X0.here hx rfl (hb hby d2_7) rfl ?_
      show Steps p.tables e below (s₁.setTop (mkF m 8 #[.val (.int p1), .val (.int p2), .val (.int p3), .val (.int p4), .val (.int p5), .unset] [(.int (p3 + p1))])) _
      exact retI X0 hx Bd.returns (hb hby d2_8) hr
    · show Q2 Z  h0 n0 _ s₁.heap _
      rw [e0]
      exact ⟨⟨_, rfl⟩, N0, rfl⟩
  · by_cases h2 : p1 - p2 < (1 : Int32)
    · by_cases h3 : p1 - p2 < (2 : Int32)
      · obtain ⟨fs, hr, hrun, hended, hW, hsame⟩ := X0.leave (v := some (.int ((p4 + (0 : Int32)) + (0 : Int32)))) (fun h => by rw [Bd.returns] at h; cases h)
        refine ⟨_, _, pre0 _ ?_, hrun, hended, _, _, rfl, ?_, ⟨_, rfl⟩, hW, hsame.mono (by decide) (by decide)⟩
        · show Steps p.tables e below (s₁.setTop (mkF m 0 #[.val (.int p1), .val (.int p2), .val (.int p3), .val (.int p4), .val (.int p5), .unset] [])) _
          refine XS.iloadN X0.here hx rfl (hb hby d2_0) rfl ?_
          show Steps p.tables e below (s₁.setTop (mkF m 1 #[.val (.int p1), .val (.int p2), .val (.int p3), .val (.int p4), .val (.int p5), .unset] [(.int p1)])) _
          refine XS.iloadN X0.here hx rfl (hb hby d2_1) rfl ?_
          show Steps p.tables e below (s₁.setTop (mkF m 2 #[.val (.int p1), .val (.int p2), .val (.int p3), .val (.int p4), .val (.int p5), .unset] [(.int p2), (.int p1)])) _
          refine XS.icmpYes X0.here hx rfl (pc0 := 2) (pc' := 9) rfl (hb hby d2_2) rfl (flt (h1 : ¬ (p1 < p2))).2.1 (by decide) (by decide) ?_
          show Steps p.tables e below (s₁.setTop (mkF m 9 #[.val (.int p1), .val (.int p2), .val (.int p3), .val (.int p4), .val (.int p5), .unset] [])) _
          refine XS.iloadN X0.here hx rfl (hb hby d2_9) rfl ?_
          show Steps p.tables e below (s₁.setTop (mkF m 10 #[.val (.int p1), .val (.int p2), .val (.int p3), .val (.int p4), .val (.int p5), .unset] [(.int p1)])) _
          refine XS.iloadN X0.here hx rfl (hb hby d2_10) rfl ?_
          show Steps p.tables e below (s₁.setTop (mkF m 11 #[.val (.int p1), .val (.int p2), .val (.int p3), .val (.int p4), .val (.int p5), .unset] [(.int p2), (.int p1)])) _
          refine XS.isub X0.here hx rfl (hb hby d2_11) rfl ?_
          show Steps p.tables e below (s₁.setTop (mkF m 12 #[.val (.int p1), .val (.int p2), .val (.int p3), .val (.int p4), .val (.int p5), .unset] [(.int (p1 - p2))])) _
          refine XS.istore X0.here hx rfl (hb hby d2_12) rfl (l' := #[.val (.int p1), .val (.int p2), .val (.int p3), .val (.int p4), .val (.int p5), .val (.int (p1 - p2))]) rfl ?_
          show Steps p.tables e below (s₁.setTop (mkF m 14 #[.val (.int p1), .val (.int p2), .val (.int p3), .val (.int p4), .val (.int p5), .val (.int (p1 - p2))] [])) _
          refine XS.iloadN X0.here hx rfl (hb hby d2_14) rfl ?_
          show Steps p.tables e below (s₁.setTop (mkF m 15 #[.val (.int p1), .val (.int p2), .val (.int p3), .val (.int p4), .val (.int p5), .val (.int (p1 - p2))] [(.int p4)])) _
          refine XS.iload X0.here hx rfl (hb hby d2_15) rfl ?_
          show Steps p.tables e below (s₁.setTop (mkF m 17 #[.val (.int p1), .val (.int p2), .val (.int p3), .val (.int p4), .val (.int p5), .val (.int (p1 - p2))] [(.int (p1 - p2)), (.int p4)])) _
          refine XS.iconst X0.here hx rfl (hb hby d2_17) ?_
          show Steps p.tables e below (s₁.setTop (mkF m 18 #[.val (.int p1), .val (.int p2), .val (.int p3), .val (.int p4), .val (.int p5), .val (.int (p1 - p2))] [(.int (1 : Int32)), (.int (p1 - p2)), (.int p4)])) _
          refine XS.icmpYes X0.here hx rfl (pc0 := 18) (pc' := 26) rfl (hb hby d2_18) rfl (tlt (h2 : (p1 - p2) < (1 : Int32))).1 (by decide) (by decide) ?_
          show Steps p.tables e below (s₁.setTop (mkF m 26 #[.val (.int p1), .val (.int p2), .val (.int p3), .val (.int p4), .val (.int p5), .val (.int (p1 - p2))] [(.int p4)])) _
          refine XS.iconst X0.here hx rfl (hb hby d2_26) ?_
          show Steps p.tables e below (s₁.setTop (mkF m 27 #[.val (.int p1), .val (.int p2), .val (.int p3), .val (.int p4), .val (.int p5), .val (.int (p1 - p2))] [(.int (0 : Int32)), (.int p4)])) _
          refine XS.iadd X0.here hx rfl (hb hby d2_27) rfl ?_
          show Steps p.tables e below (s₁.setTop (mkF m 28 #[.val (.int p1), .val (.int p2), .val (.int p3), .val (.int p4), .val (.int p5), .val (.int (p1 - p2))] [(.int (p4 + (0 : Int32)))])) _
          refine XS.iload X0.here hx rfl (hb hby d2_28) rfl ?_
          show Steps p.tables e below (s₁.setTop (mkF m 30 #[.val (.int p1), .val (.int p2), .val (.int p3), .val (.int p4), .val (.int p5), .val (.int (p1 - p2))] [(.int (p1 - p2)), (.int (p4 + (0 : Int32)))])) _
          refine XS.iconst X0.here hx rfl (hb hby d2_30) ?_
          show Steps p.tables e below (s₁.setTop (mkF m 31 #[.val (.int p1), .val (.int p2), .val (.int p3), .val (.int p4), .val (.int p5), .val (.int (p1 - p2))] [(.int (2 : Int32)), (.int (p1 - p2)), (.int (p4 + (0 : Int32)))])) _
          refine XS.icmpYes X0.here hx rfl (pc0 := 31) (pc' := 38) rfl (hb hby d2_31) rfl (tlt (h3 : (p1 - p2) < (2 : Int32))).1 (by decide) (by decide) ?_
          show Steps p.tables e below (s₁.setTop (mkF m 38 #[.val (.int p1), .val (.int p2), .val (.int p3), .val (.int p4), .val (.int p5), .val (.int (p1 - p2))] [(.int (p4 + (0 : Int32)))])) _
          refine XS.iconst X0.here hx rfl (hb hby d2_38) ?_
          show Steps p.tables e below (s₁.setTop (mkF m 39 #[.val (.int p1), .val (.int p2), .val (.int p3), .val (.int p4), .val (.int p5), .val (.int (p1 - p2))] [(.int (0 : Int32)), (.int (p4 + (0 : Int32)))])) _
          refine XS.iadd X0.here hx rfl (hb hby d2_39) rfl ?_
          show Steps p.tables e below (s₁.setTop (mkF m 40 #[.val (.int p1), .val (.int p2), .val (.int p3), .val (.int p4), .val (.int p5), .val (.int (p1 - p2))] [(.int ((p4 + (0 : Int32)) + (0 : Int32)))])) _
          exact retI X0 hx Bd.returns (hb hby d2_40) hr
        · show Q2 Z  h0 n0 _ s₁.heap _
          rw [e0]
          exact ⟨⟨_, rfl⟩, N0, rfl⟩
      · obtain ⟨fs, hr, hrun, hended, hW, hsame⟩ := X0.leave (v := some (.int ((p4 + (0 : Int32)) + (1 : Int32)))) (fun h => by rw [Bd.returns] at h; cases h)
        refine ⟨_, _, pre0 _ ?_, hrun, hended, _, _, rfl, ?_, ⟨_, rfl⟩, hW, hsame.mono (by decide) (by decide)⟩
        · show Steps p.tables e below (s₁.setTop (mkF m 0 #[.val (.int p1), .val (.int p2), .val (.int p3), .val (.int p4), .val (.int p5), .unset] [])) _
          refine XS.iloadN X0.here hx rfl (hb hby d2_0) rfl ?_
          show Steps p.tables e below (s₁.setTop (mkF m 1 #[.val (.int p1), .val (.int p2), .val (.int p3), .val (.int p4), .val (.int p5), .unset] [(.int p1)])) _
          refine XS.iloadN X0.here hx rfl (hb hby d2_1) rfl ?_
          show Steps p.tables e below (s₁.setTop (mkF m 2 #[.val (.int p1), .val (.int p2), .val (.int p3), .val (.int p4), .val (.int p5), .unset] [(.int p2), (.int p1)])) _
          refine XS.icmpYes X0.here hx rfl (pc0 := 2) (pc' := 9) rfl (hb hby d2_2) rfl (flt (h1 : ¬ (p1 < p2))).2.1 (by decide) (by decide) ?_
          show Steps p.tables e below (s₁.setTop (mkF m 9 #[.val (.int p1), .val (.int p2), .val (.int p3), .val (.int p4), .val (.int p5), .unset] [])) _
          refine XS.iloadN X0.here hx rfl (hb hby d2_9) rfl ?_
          show Steps p.tables e below (s₁.setTop (mkF m 10 #[.val (.int p1), .val (.int p2), .val (.int p3), .val (.int p4), .val (.int p5), .unset] [(.int p1)])) _
          refine XS.iloadN X0.here hx rfl (hb hby d2_10) rfl ?_
          show Steps p.tables e below (s₁.setTop (mkF m 11 #[.val (.int p1), .val (.int p2), .val (.int p3), .val (.int p4), .val (.int p5), .unset] [(.int p2), (.int p1)])) _
          refine XS.isub X0.here hx rfl (hb hby d2_11) rfl ?_
          show Steps p.tables e below (s₁.setTop (mkF m 12 #[.val (.int p1), .val (.int p2), .val (.int p3), .val (.int p4), .val (.int p5), .unset] [(.int (p1 - p2))])) _
          refine XS.istore X0.here hx rfl (hb hby d2_12) rfl (l' := #[.val (.int p1), .val (.int p2), .val (.int p3), .val (.int p4), .val (.int p5), .val (.int (p1 - p2))]) rfl ?_
          show Steps p.tables e below (s₁.setTop (mkF m 14 #[.val (.int p1), .val (.int p2), .val (.int p3), .val (.int p4), .val (.int p5), .val (.int (p1 - p2))] [])) _
          refine XS.iloadN X0.here hx rfl (hb hby d2_14) rfl ?_
          show Steps p.tables e below (s₁.setTop (mkF m 15 #[.val (.int p1), .val (.int p2), .val (.int p3), .val (.int p4), .val (.int p5), .val (.int (p1 - p2))] [(.int p4)])) _
          refine XS.iload X0.here hx rfl (hb hby d2_15) rfl ?_
          show Steps p.tables e below (s₁.setTop (mkF m 17 #[.val (.int p1), .val (.int p2), .val (.int p3), .val (.int p4), .val (.int p5), .val (.int (p1 - p2))] [(.int (p1 - p2)), (.int p4)])) _
          refine XS.iconst X0.here hx rfl (hb hby d2_17) ?_
          show Steps p.tables e below (s₁.setTop (mkF m 18 #[.val (.int p1), .val (.int p2), .val (.int p3), .val (.int p4), .val (.int p5), .val (.int (p1 - p2))] [(.int (1 : Int32)), (.int (p1 - p2)), (.int p4)])) _
          refine XS.icmpYes X0.here hx rfl (pc0 := 18) (pc' := 26) rfl (hb hby d2_18) rfl (tlt (h2 : (p1 - p2) < (1 : Int32))).1 (by decide) (by decide) ?_
          show Steps p.tables e below (s₁.setTop (mkF m 26 #[.val (.int p1), .val (.int p2), .val (.int p3), .val (.int p4), .val (.int p5), .val (.int (p1 - p2))] [(.int p4)])) _
          refine XS.iconst X0.here hx rfl (hb hby d2_26) ?_
          show Steps p.tables e below (s₁.setTop (mkF m 27 #[.val (.int p1), .val (.int p2), .val (.int p3), .val (.int p4), .val (.int p5), .val (.int (p1 - p2))] [(.int (0 : Int32)), (.int p4)])) _
          refine XS.iadd X0.here hx rfl (hb hby d2_27) rfl ?_
          show Steps p.tables e below (s₁.setTop (mkF m 28 #[.val (.int p1), .val (.int p2), .val (.int p3), .val (.int p4), .val (.int p5), .val (.int (p1 - p2))] [(.int (p4 + (0 : Int32)))])) _
          refine XS.iload X0.here hx rfl (hb hby d2_28) rfl ?_
          show Steps p.tables e below (s₁.setTop (mkF m 30 #[.val (.int p1), .val (.int p2), .val (.int p3), .val (.int p4), .val (.int p5), .val (.int (p1 - p2))] [(.int (p1 - p2)), (.int (p4 + (0 : Int32)))])) _
          refine XS.iconst X0.here hx rfl (hb hby d2_30) ?_
          show Steps p.tables e below (s₁.setTop (mkF m 31 #[.val (.int p1), .val (.int p2), .val (.int p3), .val (.int p4), .val (.int p5), .val (.int (p1 - p2))] [(.int (2 : Int32)), (.int (p1 - p2)), (.int (p4 + (0 : Int32)))])) _
          refine XS.icmpNo X0.here hx rfl (hb hby d2_31) rfl (flt (h3 : ¬ ((p1 - p2) < (2 : Int32)))).1 ?_
          show Steps p.tables e below (s₁.setTop (mkF m 34 #[.val (.int p1), .val (.int p2), .val (.int p3), .val (.int p4), .val (.int p5), .val (.int (p1 - p2))] [(.int (p4 + (0 : Int32)))])) _
          refine XS.iconst X0.here hx rfl (hb hby d2_34) ?_
          show Steps p.tables e below (s₁.setTop (mkF m 35 #[.val (.int p1), .val (.int p2), .val (.int p3), .val (.int p4), .val (.int p5), .val (.int (p1 - p2))] [(.int (1 : Int32)), (.int (p4 + (0 : Int32)))])) _
          refine XS.goto X0.here hx rfl (pc0 := 35) (pc' := 39) rfl (hb hby d2_35) (by decide) (by decide) ?_
          show Steps p.tables e below (s₁.setTop (mkF m 39 #[.val (.int p1), .val (.int p2), .val (.int p3), .val (.int p4), .val (.int p5), .val (.int (p1 - p2))] [(.int (1 : Int32)), (.int (p4 + (0 : Int32)))])) _
          refine XS.iadd X0.here hx rfl (hb hby d2_39) rfl ?_
          show Steps p.tables e below (s₁.setTop (mkF m 40 #[.val (.int p1), .val (.int p2), .val (.int p3), .val (.int p4), .val (.int p5), .val (.int (p1 - p2))] [(.int ((p4 + (0 : Int32)) + (1 : Int32)))])) _
          exact retI X0 hx Bd.returns (hb hby d2_40) hr
        · show Q2 Z  h0 n0 _ s₁.heap _
          rw [e0]
          exact ⟨⟨_, rfl⟩, N0, rfl⟩
    · by_cases h3 : p1 - p2 < (2 : Int32)
      · obtain ⟨fs, hr, hrun, hended, hW, hsame⟩ := X0.leave (v := some (.int ((p4 + p5) + (0 : Int32)))) (fun h => by rw [Bd.returns] at h; cases h)
        refine ⟨_, _, pre0 _ ?_, hrun, hended, _, _, rfl, ?_, ⟨_, rfl⟩, hW, hsame.mono (by decide) (by decide)⟩
        · show Steps p.tables e below (s₁.setTop (mkF m 0 #[.val (.int p1), .val (.int p2), .val (.int p3), .val (.int p4), .val (.int p5), .unset] [])) _
          refine XS.iloadN X0.here hx rfl (hb hby d2_0) rfl ?_
          show Steps p.tables e below (s₁.setTop (mkF m 1 #[.val (.int p1), .val (.int p2), .val (.int p3), .val (.int p4), .val (.int p5), .unset] [(.int p1)])) _
          refine XS.iloadN X0.here hx rfl (hb hby d2_1) rfl ?_
          show Steps p.tables e below (s₁.setTop (mkF m 2 #[.val (.int p1), .val (.int p2), .val (.int p3), .val (.int p4), .val (.int p5), .unset] [(.int p2), (.int p1)])) _
          refine XS.icmpYes X0.here hx rfl (pc0 := 2) (pc' := 9) rfl (hb hby d2_2) rfl (flt (h1 : ¬ (p1 < p2))).2.1 (by decide) (by decide) ?_
          show Steps p.tables e below (s₁.setTop (mkF m 9 #[.val (.int p1), .val (.int p2), .val (.int p3), .val (.int p4), .val (.int p5), .unset] [])) _
          refine XS.iloadN X0.here hx rfl (hb hby d2_9) rfl ?_
          show Steps p.tables e below (s₁.setTop (mkF m 10 #[.val (.int p1), .val (.int p2), .val (.int p3), .val (.int p4), .val (.int p5), .unset] [(.int p1)])) _
          refine XS.iloadN X0.here hx rfl (hb hby d2_10) rfl ?_
          show Steps p.tables e below (s₁.setTop (mkF m 11 #[.val (.int p1), .val (.int p2), .val (.int p3), .val (.int p4), .val (.int p5), .unset] [(.int p2), (.int p1)])) _
          refine XS.isub X0.here hx rfl (hb hby d2_11) rfl ?_
          show Steps p.tables e below (s₁.setTop (mkF m 12 #[.val (.int p1), .val (.int p2), .val (.int p3), .val (.int p4), .val (.int p5), .unset] [(.int (p1 - p2))])) _
          refine XS.istore X0.here hx rfl (hb hby d2_12) rfl (l' := #[.val (.int p1), .val (.int p2), .val (.int p3), .val (.int p4), .val (.int p5), .val (.int (p1 - p2))]) rfl ?_
          show Steps p.tables e below (s₁.setTop (mkF m 14 #[.val (.int p1), .val (.int p2), .val (.int p3), .val (.int p4), .val (.int p5), .val (.int (p1 - p2))] [])) _
          refine XS.iloadN X0.here hx rfl (hb hby d2_14) rfl ?_
          show Steps p.tables e below (s₁.setTop (mkF m 15 #[.val (.int p1), .val (.int p2), .val (.int p3), .val (.int p4), .val (.int p5), .val (.int (p1 - p2))] [(.int p4)])) _
          refine XS.iload X0.here hx rfl (hb hby d2_15) rfl ?_
          show Steps p.tables e below (s₁.setTop (mkF m 17 #[.val (.int p1), .val (.int p2), .val (.int p3), .val (.int p4), .val (.int p5), .val (.int (p1 - p2))] [(.int (p1 - p2)), (.int p4)])) _
          refine XS.iconst X0.here hx rfl (hb hby d2_17) ?_
          show Steps p.tables e below (s₁.setTop (mkF m 18 #[.val (.int p1), .val (.int p2), .val (.int p3), .val (.int p4), .val (.int p5), .val (.int (p1 - p2))] [(.int (1 : Int32)), (.int (p1 - p2)), (.int p4)])) _
          refine XS.icmpNo X0.here hx rfl (hb hby d2_18) rfl (flt (h2 : ¬ ((p1 - p2) < (1 : Int32)))).1 ?_
          show Steps p.tables e below (s₁.setTop (mkF m 21 #[.val (.int p1), .val (.int p2), .val (.int p3), .val (.int p4), .val (.int p5), .val (.int (p1 - p2))] [(.int p4)])) _
          refine XS.iload X0.here hx rfl (hb hby d2_21) rfl ?_
          show Steps p.tables e below (s₁.setTop (mkF m 23 #[.val (.int p1), .val (.int p2), .val (.int p3), .val (.int p4), .val (.int p5), .val (.int (p1 - p2))] [(.int p5), (.int p4)])) _
          refine XS.goto X0.here hx rfl (pc0 := 23) (pc' := 27) rfl (hb hby d2_23) (by decide) (by decide) ?_
          show Steps p.tables e below (s₁.setTop (mkF m 27 #[.val (.int p1), .val (.int p2), .val (.int p3), .val (.int p4), .val (.int p5), .val (.int (p1 - p2))] [(.int p5), (.int p4)])) _
          refine XS.iadd X0.here hx rfl (hb hby d2_27) rfl ?_
          show Steps p.tables e below (s₁.setTop (mkF m 28 #[.val (.int p1), .val (.int p2), .val (.int p3), .val (.int p4), .val (.int p5), .val (.int (p1 - p2))] [(.int (p4 + p5))])) _
          refine XS.iload X0.here hx rfl (hb hby d2_28) rfl ?_
          show Steps p.tables e below (s₁.setTop (mkF m 30 #[.val (.int p1), .val (.int p2), .val (.int p3), .val (.int p4), .val (.int p5), .val (.int (p1 - p2))] [(.int (p1 - p2)), (.int (p4 + p5))])) _
          refine XS.iconst X0.here hx rfl (hb hby d2_30) ?_
          show Steps p.tables e below (s₁.setTop (mkF m 31 #[.val (.int p1), .val (.int p2), .val (.int p3), .val (.int p4), .val (.int p5), .val (.int (p1 - p2))] [(.int (2 : Int32)), (.int (p1 - p2)), (.int (p4 + p5))])) _
          refine XS.icmpYes X0.here hx rfl (pc0 := 31) (pc' := 38) rfl (hb hby d2_31) rfl (tlt (h3 : (p1 - p2) < (2 : Int32))).1 (by decide) (by decide) ?_
          show Steps p.tables e below (s₁.setTop (mkF m 38 #[.val (.int p1), .val (.int p2), .val (.int p3), .val (.int p4), .val (.int p5), .val (.int (p1 - p2))] [(.int (p4 + p5))])) _
          refine XS.iconst X0.here hx rfl (hb hby d2_38) ?_
          show Steps p.tables e below (s₁.setTop (mkF m 39 #[.val (.int p1), .val (.int p2), .val (.int p3), .val (.int p4), .val (.int p5), .val (.int (p1 - p2))] [(.int (0 : Int32)), (.int (p4 + p5))])) _
          refine XS.iadd X0.here hx rfl (hb hby d2_39) rfl ?_
          show Steps p.tables e below (s₁.setTop (mkF m 40 #[.val (.int p1), .val (.int p2), .val (.int p3), .val (.int p4), .val (.int p5), .val (.int (p1 - p2))] [(.int ((p4 + p5) + (0 : Int32)))])) _
          exact retI X0 hx Bd.returns (hb hby d2_40) hr
        · show Q2 Z  h0 n0 _ s₁.heap _
          rw [e0]
          exact ⟨⟨_, rfl⟩, N0, rfl⟩
      · obtain ⟨fs, hr, hrun, hended, hW, hsame⟩ := X0.leave (v := some (.int ((p4 + p5) + (1 : Int32)))) (fun h => by rw [Bd.returns] at h; cases h)
        refine ⟨_, _, pre0 _ ?_, hrun, hended, _, _, rfl, ?_, ⟨_, rfl⟩, hW, hsame.mono (by decide) (by decide)⟩
        · show Steps p.tables e below (s₁.setTop (mkF m 0 #[.val (.int p1), .val (.int p2), .val (.int p3), .val (.int p4), .val (.int p5), .unset] [])) _
          refine XS.iloadN X0.here hx rfl (hb hby d2_0) rfl ?_
          show Steps p.tables e below (s₁.setTop (mkF m 1 #[.val (.int p1), .val (.int p2), .val (.int p3), .val (.int p4), .val (.int p5), .unset] [(.int p1)])) _
          refine XS.iloadN X0.here hx rfl (hb hby d2_1) rfl ?_
          show Steps p.tables e below (s₁.setTop (mkF m 2 #[.val (.int p1), .val (.int p2), .val (.int p3), .val (.int p4), .val (.int p5), .unset] [(.int p2), (.int p1)])) _
          refine XS.icmpYes X0.here hx rfl (pc0 := 2) (pc' := 9) rfl (hb hby d2_2) rfl (flt (h1 : ¬ (p1 < p2))).2.1 (by decide) (by decide) ?_
          show Steps p.tables e below (s₁.setTop (mkF m 9 #[.val (.int p1), .val (.int p2), .val (.int p3), .val (.int p4), .val (.int p5), .unset] [])) _
          refine XS.iloadN X0.here hx rfl (hb hby d2_9) rfl ?_
          show Steps p.tables e below (s₁.setTop (mkF m 10 #[.val (.int p1), .val (.int p2), .val (.int p3), .val (.int p4), .val (.int p5), .unset] [(.int p1)])) _
          refine XS.iloadN X0.here hx rfl (hb hby d2_10) rfl ?_
          show Steps p.tables e below (s₁.setTop (mkF m 11 #[.val (.int p1), .val (.int p2), .val (.int p3), .val (.int p4), .val (.int p5), .unset] [(.int p2), (.int p1)])) _
          refine XS.isub X0.here hx rfl (hb hby d2_11) rfl ?_
          show Steps p.tables e below (s₁.setTop (mkF m 12 #[.val (.int p1), .val (.int p2), .val (.int p3), .val (.int p4), .val (.int p5), .unset] [(.int (p1 - p2))])) _
          refine XS.istore X0.here hx rfl (hb hby d2_12) rfl (l' := #[.val (.int p1), .val (.int p2), .val (.int p3), .val (.int p4), .val (.int p5), .val (.int (p1 - p2))]) rfl ?_
          show Steps p.tables e below (s₁.setTop (mkF m 14 #[.val (.int p1), .val (.int p2), .val (.int p3), .val (.int p4), .val (.int p5), .val (.int (p1 - p2))] [])) _
          refine XS.iloadN X0.here hx rfl (hb hby d2_14) rfl ?_
          show Steps p.tables e below (s₁.setTop (mkF m 15 #[.val (.int p1), .val (.int p2), .val (.int p3), .val (.int p4), .val (.int p5), .val (.int (p1 - p2))] [(.int p4)])) _
          refine XS.iload X0.here hx rfl (hb hby d2_15) rfl ?_
          show Steps p.tables e below (s₁.setTop (mkF m 17 #[.val (.int p1), .val (.int p2), .val (.int p3), .val (.int p4), .val (.int p5), .val (.int (p1 - p2))] [(.int (p1 - p2)), (.int p4)])) _
          refine XS.iconst X0.here hx rfl (hb hby d2_17) ?_
          show Steps p.tables e below (s₁.setTop (mkF m 18 #[.val (.int p1), .val (.int p2), .val (.int p3), .val (.int p4), .val (.int p5), .val (.int (p1 - p2))] [(.int (1 : Int32)), (.int (p1 - p2)), (.int p4)])) _
          refine XS.icmpNo X0.here hx rfl (hb hby d2_18) rfl (flt (h2 : ¬ ((p1 - p2) < (1 : Int32)))).1 ?_
          show Steps p.tables e below (s₁.setTop (mkF m 21 #[.val (.int p1), .val (.int p2), .val (.int p3), .val (.int p4), .val (.int p5), .val (.int (p1 - p2))] [(.int p4)])) _
          refine XS.iload X0.here hx rfl (hb hby d2_21) rfl ?_
          show Steps p.tables e below (s₁.setTop (mkF m 23 #[.val (.int p1), .val (.int p2), .val (.int p3), .val (.int p4), .val (.int p5), .val (.int (p1 - p2))] [(.int p5), (.int p4)])) _
          refine XS.goto X0.here hx rfl (pc0 := 23) (pc' := 27) rfl (hb hby d2_23) (by decide) (by decide) ?_
          show Steps p.tables e below (s₁.setTop (mkF m 27 #[.val (.int p1), .val (.int p2), .val (.int p3), .val (.int p4), .val (.int p5), .val (.int (p1 - p2))] [(.int p5), (.int p4)])) _
          refine XS.iadd X0.here hx rfl (hb hby d2_27) rfl ?_
          show Steps p.tables e below (s₁.setTop (mkF m 28 #[.val (.int p1), .val (.int p2), .val (.int p3), .val (.int p4), .val (.int p5), .val (.int (p1 - p2))] [(.int (p4 + p5))])) _
          refine XS.iload X0.here hx rfl (hb hby d2_28) rfl ?_
          show Steps p.tables e below (s₁.setTop (mkF m 30 #[.val (.int p1), .val (.int p2), .val (.int p3), .val (.int p4), .val (.int p5), .val (.int (p1 - p2))] [(.int (p1 - p2)), (.int (p4 + p5))])) _
          refine XS.iconst X0.here hx rfl (hb hby d2_30) ?_
          show Steps p.tables e below (s₁.setTop (mkF m 31 #[.val (.int p1), .val (.int p2), .val (.int p3), .val (.int p4), .val (.int p5), .val (.int (p1 - p2))] [(.int (2 : Int32)), (.int (p1 - p2)), (.int (p4 + p5))])) _
          refine XS.icmpNo X0.here hx rfl (hb hby d2_31) rfl (flt (h3 : ¬ ((p1 - p2) < (2 : Int32)))).1 ?_
          show Steps p.tables e below (s₁.setTop (mkF m 34 #[.val (.int p1), .val (.int p2), .val (.int p3), .val (.int p4), .val (.int p5), .val (.int (p1 - p2))] [(.int (p4 + p5))])) _
          refine XS.iconst X0.here hx rfl (hb hby d2_34) ?_
          show Steps p.tables e below (s₁.setTop (mkF m 35 #[.val (.int p1), .val (.int p2), .val (.int p3), .val (.int p4), .val (.int p5), .val (.int (p1 - p2))] [(.int (1 : Int32)), (.int (p4 + p5))])) _
          refine XS.goto X0.here hx rfl (pc0 := 35) (pc' := 39) rfl (hb hby d2_35) (by decide) (by decide) ?_
          show Steps p.tables e below (s₁.setTop (mkF m 39 #[.val (.int p1), .val (.int p2), .val (.int p3), .val (.int p4), .val (.int p5), .val (.int (p1 - p2))] [(.int (1 : Int32)), (.int (p4 + p5))])) _
          refine XS.iadd X0.here hx rfl (hb hby d2_39) rfl ?_
          show Steps p.tables e below (s₁.setTop (mkF m 40 #[.val (.int p1), .val (.int p2), .val (.int p3), .val (.int p4), .val (.int p5), .val (.int (p1 - p2))] [(.int ((p4 + p5) + (1 : Int32)))])) _
          exact retI X0 hx Bd.returns (hb hby d2_40) hr
        · show Q2 Z  h0 n0 _ s₁.heap _
          rw [e0]
          exact ⟨⟨_, rfl⟩, N0, rfl⟩

theorem ef_rm5 (m : MethodId) (p1 : Int32) (p2 : Int32) : entryFrame m #[(.int p1), (.int p2)] 2 = mkF m 0 #[.val (.int p1), .val (.int p2)] [] := by first | (simp [entryFrame, mkF, argsToLocals, Value.category]; done) | rfl
def Q5 (Z : State) (p1 : Int32) (p2 : Int32) (h0 : Heap) (n0 : Nat) (v : Option Value) (h : Heap) (L : List Loc) : Prop := v = some (.int (own_st p1 p2)) ∧ Fr n0 L ∧ h = h0
set_option maxRecDepth 65536 in
set_option maxHeartbeats 40000000 in
theorem rm5 (l : Launch) (Z : State) (a0 : Array Value) (hw : ∀ d ∈ tables_1, d.before a0 Z = true) (ws : List Jvm.Cond) (p1 : Int32) (p2 : Int32) (h0 : Heap) (n0 : Nat) (Z0 : n0 ≤ h0.size) :
    MetFree l (⟨"com/example/othograph/othograph/AutomatonLabelPinLaw", "st", "(II)I"⟩ : MethodName) (head1 (Jvm.Cond.code (⟨"com/example/othograph/othograph/AutomatonLabelPinLaw", "st", "(II)I"⟩ : MethodName) method_4_code 2 (some .int) :: ws) ({ frames := 0, cells := 0, slots := 0, locals := 0 } : Room)) (fun a U => a = #[(.int p1), (.int p2)] ∧ Z.Warmed39 U.vm ∧ U.heap = h0) (fun _ _ _ _ _ => True) (fun _ U o U' => ∃ v L, o = .returned v ∧ Q5 Z p1 p2 h0 n0 v U'.heap L ∧ FrameEnd U o U' L ({ frames := 0, cells := 0, slots := 0, locals := 0 } : Room).cells ({ frames := 0, cells := 0, slots := 0, locals := 0 } : Room).slots) := by
  refine MetFree.of_bodySF (plainFor_of_name pn_5) hisR ?_
  intro p e s m args below meth c s₁ Bd hml0 hP hK
  obtain ⟨rfl, hZ, hh⟩ := hP
  have hx := Bd.exec
  have hby := Bd.bytes
  have hml : c.maxLocals = 2 := hml0
  have hown : s.vm.findClass "com/example/othograph/othograph/AutomatonLabelPinLaw" = some m.cls := findClass_of_methodNamed Bd.named
  have hnm := (name_of_methodNamed Bd.named Bd.method).1
  have X0 : Stand p l e ({ frames := 0, cells := 0, slots := 0, locals := 0 } : Room) s m #[(.int p1), (.int p2)] below meth c s₁ [] 0 0 := Stand.of_body Bd
  have e0 : s₁.heap = h0 := by rw [← hh, Bd.state]; rfl
  have N0 := Fr.nil n0
  have pre0 : ∀ t, Steps p.tables e below (s₁.setTop (mkF m 0 #[.val (.int p1), .val (.int p2)] [])) t → Steps p.tables e below (s₁.setTop (entryFrame m #[(.int p1), (.int p2)] 2)) t := fun t k => castTop (ef_rm5 m p1 p2) k

  by_cases h1 : p1 < p2
  · obtain ⟨fs, hr, hrun, hended, hW, hsame⟩ := X0.leave (v := some (.int (1 : Int32))) (fun h => by rw [Bd.returns] at h; cases h)
    refine ⟨_, _, pre0 _ ?_, hrun, hended, _, _, rfl, ?_, ⟨_, rfl⟩, hW, hsame.mono (by decide) (by decide)⟩
    · show Steps p.tables e below (s₁.setTop (mkF m 0 #[.val (.int p1), .val (.int p2)] [])) _
      refine XS.iloadN X0.here hx rfl (hb hby d5_0) rfl ?_
      show Steps p.tables e below (s₁.setTop (mkF m 1 #[.val (.int p1), .val (.int p2)] [(.int p1)])) _
      refine XS.iloadN X0.here hx rfl (hb hby d5_1) rfl ?_
      show Steps p.tables e below (s₁.setTop (mkF m 2 #[.val (.int p1), .val (.int p2)] [(.int p2), (.int p1)])) _
      refine XS.icmpNo X0.here hx rfl (hb hby d5_2) rfl (tlt (h1 : p1 < p2)).2.1 ?_
      show Steps p.tables e below (s₁.setTop (mkF m 5 #[.val (.int p1), .val (.int p2)] [])) _
      refine XS.iconst X0.here hx rfl (hb hby d5_5) ?_
      show Steps p.tables e below (s₁.setTop (mkF m 6 #[.val (.int p1), .val (.int p2)] [(.int (1 : Int32))])) _
      refine XS.goto X0.here hx rfl (pc0 := 6) (pc' := 10) rfl (hb hby d5_6) (by decide) (by decide) ?_
      show Steps p.tables e below (s₁.setTop (mkF m 10 #[.val (.int p1), .val (.int p2)] [(.int (1 : Int32))])) _
      exact retI X0 hx Bd.returns (hb hby d5_10) hr
    · show Q5 Z p1 p2 h0 n0 _ s₁.heap _
      rw [e0]
      exact ⟨by rw [own_st, if_pos h1], N0, rfl⟩
  · obtain ⟨fs, hr, hrun, hended, hW, hsame⟩ := X0.leave (v := some (.int (2 : Int32))) (fun h => by rw [Bd.returns] at h; cases h)
    refine ⟨_, _, pre0 _ ?_, hrun, hended, _, _, rfl, ?_, ⟨_, rfl⟩, hW, hsame.mono (by decide) (by decide)⟩
    · show Steps p.tables e below (s₁.setTop (mkF m 0 #[.val (.int p1), .val (.int p2)] [])) _
      refine XS.iloadN X0.here hx rfl (hb hby d5_0) rfl ?_
      show Steps p.tables e below (s₁.setTop (mkF m 1 #[.val (.int p1), .val (.int p2)] [(.int p1)])) _
      refine XS.iloadN X0.here hx rfl (hb hby d5_1) rfl ?_
      show Steps p.tables e below (s₁.setTop (mkF m 2 #[.val (.int p1), .val (.int p2)] [(.int p2), (.int p1)])) _
      refine XS.icmpYes X0.here hx rfl (pc0 := 2) (pc' := 9) rfl (hb hby d5_2) rfl (flt (h1 : ¬ (p1 < p2))).2.1 (by decide) (by decide) ?_
      show Steps p.tables e below (s₁.setTop (mkF m 9 #[.val (.int p1), .val (.int p2)] [])) _
      refine XS.iconst X0.here hx rfl (hb hby d5_9) ?_
      show Steps p.tables e below (s₁.setTop (mkF m 10 #[.val (.int p1), .val (.int p2)] [(.int (2 : Int32))])) _
      exact retI X0 hx Bd.returns (hb hby d5_10) hr
    · show Q5 Z p1 p2 h0 n0 _ s₁.heap _
      rw [e0]
      exact ⟨by rw [own_st, if_neg h1], N0, rfl⟩

theorem ef_rm6 (m : MethodId) (p1 : Int32) (p2 : Int32) : entryFrame m #[(.int p1), (.int p2)] 2 = mkF m 0 #[.val (.int p1), .val (.int p2)] [] := by first | (simp [entryFrame, mkF, argsToLocals, Value.category]; done) | rfl
def Q6 (Z : State) (p1 : Int32) (p2 : Int32) (h0 : Heap) (n0 : Nat) (v : Option Value) (h : Heap) (L : List Loc) : Prop := v = some (.int (own_ix p1 p2)) ∧ Fr n0 L ∧ h = h0
set_option maxRecDepth 65536 in
set_option maxHeartbeats 40000000 in
theorem rm6 (l : Launch) (Z : State) (a0 : Array Value) (hw : ∀ d ∈ tables_1, d.before a0 Z = true) (ws : List Jvm.Cond) (p1 : Int32) (p2 : Int32) (h0 : Heap) (n0 : Nat) (Z0 : n0 ≤ h0.size) :
    MetFree l (⟨"com/example/othograph/othograph/AutomatonLabelPinLaw", "ix", "(II)I"⟩ : MethodName) (head1 (Jvm.Cond.code (⟨"com/example/othograph/othograph/AutomatonLabelPinLaw", "ix", "(II)I"⟩ : MethodName) method_5_code 2 (some .int) :: ws) ({ frames := 0, cells := 0, slots := 0, locals := 0 } : Room)) (fun a U => a = #[(.int p1), (.int p2)] ∧ Z.Warmed39 U.vm ∧ U.heap = h0) (fun _ _ _ _ _ => True) (fun _ U o U' => ∃ v L, o = .returned v ∧ Q6 Z p1 p2 h0 n0 v U'.heap L ∧ FrameEnd U o U' L ({ frames := 0, cells := 0, slots := 0, locals := 0 } : Room).cells ({ frames := 0, cells := 0, slots := 0, locals := 0 } : Room).slots) := by
  refine MetFree.of_bodySF (plainFor_of_name pn_6) hisR ?_
  intro p e s m args below meth c s₁ Bd hml0 hP hK
  obtain ⟨rfl, hZ, hh⟩ := hP
  have hx := Bd.exec
  have hby := Bd.bytes
  have hml : c.maxLocals = 2 := hml0
  have hown : s.vm.findClass "com/example/othograph/othograph/AutomatonLabelPinLaw" = some m.cls := findClass_of_methodNamed Bd.named
  have hnm := (name_of_methodNamed Bd.named Bd.method).1
  have X0 : Stand p l e ({ frames := 0, cells := 0, slots := 0, locals := 0 } : Room) s m #[(.int p1), (.int p2)] below meth c s₁ [] 0 0 := Stand.of_body Bd
  have e0 : s₁.heap = h0 := by rw [← hh, Bd.state]; rfl
  have N0 := Fr.nil n0
  have pre0 : ∀ t, Steps p.tables e below (s₁.setTop (mkF m 0 #[.val (.int p1), .val (.int p2)] [])) t → Steps p.tables e below (s₁.setTop (entryFrame m #[(.int p1), (.int p2)] 2)) t := fun t k => castTop (ef_rm6 m p1 p2) k

  by_cases h1 : p1 < p2
  · obtain ⟨fs, hr, hrun, hended, hW, hsame⟩ := X0.leave (v := some (.int p1)) (fun h => by rw [Bd.returns] at h; cases h)
    refine ⟨_, _, pre0 _ ?_, hrun, hended, _, _, rfl, ?_, ⟨_, rfl⟩, hW, hsame.mono (by decide) (by decide)⟩
    · show Steps p.tables e below (s₁.setTop (mkF m 0 #[.val (.int p1), .val (.int p2)] [])) _
      refine XS.iloadN X0.here hx rfl (hb hby d6_0) rfl ?_
      show Steps p.tables e below (s₁.setTop (mkF m 1 #[.val (.int p1), .val (.int p2)] [(.int p1)])) _
      refine XS.iloadN X0.here hx rfl (hb hby d6_1) rfl ?_
      show Steps p.tables e below (s₁.setTop (mkF m 2 #[.val (.int p1), .val (.int p2)] [(.int p2), (.int p1)])) _
      refine XS.icmpNo X0.here hx rfl (hb hby d6_2) rfl (tlt (h1 : p1 < p2)).2.1 ?_
      show Steps p.tables e below (s₁.setTop (mkF m 5 #[.val (.int p1), .val (.int p2)] [])) _
      refine XS.iloadN X0.here hx rfl (hb hby d6_5) rfl ?_
      show Steps p.tables e below (s₁.setTop (mkF m 6 #[.val (.int p1), .val (.int p2)] [(.int p1)])) _
      refine XS.goto X0.here hx rfl (pc0 := 6) (pc' := 12) rfl (hb hby d6_6) (by decide) (by decide) ?_
      show Steps p.tables e below (s₁.setTop (mkF m 12 #[.val (.int p1), .val (.int p2)] [(.int p1)])) _
      exact retI X0 hx Bd.returns (hb hby d6_12) hr
    · show Q6 Z p1 p2 h0 n0 _ s₁.heap _
      rw [e0]
      exact ⟨by rw [own_ix, if_pos h1], N0, rfl⟩
  · obtain ⟨fs, hr, hrun, hended, hW, hsame⟩ := X0.leave (v := some (.int (p1 - p2))) (fun h => by rw [Bd.returns] at h; cases h)
    refine ⟨_, _, pre0 _ ?_, hrun, hended, _, _, rfl, ?_, ⟨_, rfl⟩, hW, hsame.mono (by decide) (by decide)⟩
    · show Steps p.tables e below (s₁.setTop (mkF m 0 #[.val (.int p1), .val (.int p2)] [])) _
      refine XS.iloadN X0.here hx rfl (hb hby d6_0) rfl ?_
      show Steps p.tables e below (s₁.setTop (mkF m 1 #[.val (.int p1), .val (.int p2)] [(.int p1)])) _
      refine XS.iloadN X0.here hx rfl (hb hby d6_1) rfl ?_
      show Steps p.tables e below (s₁.setTop (mkF m 2 #[.val (.int p1), .val (.int p2)] [(.int p2), (.int p1)])) _
      refine XS.icmpYes X0.here hx rfl (pc0 := 2) (pc' := 9) rfl (hb hby d6_2) rfl (flt (h1 : ¬ (p1 < p2))).2.1 (by decide) (by decide) ?_
      show Steps p.tables e below (s₁.setTop (mkF m 9 #[.val (.int p1), .val (.int p2)] [])) _
      refine XS.iloadN X0.here hx rfl (hb hby d6_9) rfl ?_
      show Steps p.tables e below (s₁.setTop (mkF m 10 #[.val (.int p1), .val (.int p2)] [(.int p1)])) _
      refine XS.iloadN X0.here hx rfl (hb hby d6_10) rfl ?_
      show Steps p.tables e below (s₁.setTop (mkF m 11 #[.val (.int p1), .val (.int p2)] [(.int p2), (.int p1)])) _
      refine XS.isub X0.here hx rfl (hb hby d6_11) rfl ?_
      show Steps p.tables e below (s₁.setTop (mkF m 12 #[.val (.int p1), .val (.int p2)] [(.int (p1 - p2))])) _
      exact retI X0 hx Bd.returns (hb hby d6_12) hr
    · show Q6 Z p1 p2 h0 n0 _ s₁.heap _
      rw [e0]
      exact ⟨by rw [own_ix, if_neg h1], N0, rfl⟩

theorem ef_rm3 (m : MethodId) (a1 : Addr) (a2 : Addr) (a3 : Addr) (a4 : Addr) (a5 : Addr) (a6 : Addr) (p7 : Int32) : entryFrame m #[(.ref a1), (.ref a2), (.ref a3), (.ref a4), (.ref a5), (.ref a6), (.int p7)] 7 = mkF m 0 #[.val (.ref a1), .val (.ref a2), .val (.ref a3), .val (.ref a4), .val (.ref a5), .val (.ref a6), .val (.int p7)] [] := by first | (simp [entryFrame, mkF, argsToLocals, Value.category]; done) | rfl
def Q3 (Z : State) (a1 : Addr) (a2 : Addr) (a4 : Addr) (h0 : Heap) (n0 : Nat) (v : Option Value) (h : Heap) (L : List Loc) : Prop := v = none ∧ Fr n0 L ∧ Keep h0 h [a1] ∧ Exa Z h a1 "com/example/othograph/othograph/Automaton" ∧ Fld Z h a1 "com/example/othograph/othograph/Automaton" "first" "[I" (.ref a2) ∧ Fld Z h a1 "com/example/othograph/othograph/Automaton" "labels" "[I" (.ref a4)
set_option maxRecDepth 65536 in
set_option maxHeartbeats 40000000 in
theorem rm3 (l : Launch) (Z : State) (a0 : Array Value) (hw : ∀ d ∈ tables_1, d.before a0 Z = true) (ws : List Jvm.Cond) (a1 : Addr) (a2 : Addr) (a3 : Addr) (a4 : Addr) (a5 : Addr) (a6 : Addr) (p7 : Int32) (u_first : Value) (u_accepting : Value) (u_labels : Value) (u_targets : Value) (u_offsets : Value) (u_size : Value) (h0 : Heap) (n0 : Nat) (Z0 : n0 ≤ h0.size) (E1 : Exa Z h0 a1 "com/example/othograph/othograph/Automaton") (g_a1 : n0 ≤ a1) (F_first : Fld Z h0 a1 "com/example/othograph/othograph/Automaton" "first" "[I" u_first) (F_accepting : Fld Z h0 a1 "com/example/othograph/othograph/Automaton" "accepting" "[Z" u_accepting) (F_labels : Fld Z h0 a1 "com/example/othograph/othograph/Automaton" "labels" "[I" u_labels) (F_targets : Fld Z h0 a1 "com/example/othograph/othograph/Automaton" "targets" "[I" u_targets) (F_offsets : Fld Z h0 a1 "com/example/othograph/othograph/Automaton" "offsets" "[I" u_offsets) (F_size : Fld Z h0 a1 "com/example/othograph/othograph/Automaton" "size" "I" u_size) :
    MetFree l (⟨"com/example/othograph/othograph/Automaton", "<init>", "([I[Z[I[I[II)V"⟩ : MethodName) (head1 (Jvm.Cond.code (⟨"com/example/othograph/othograph/Automaton", "<init>", "([I[Z[I[I[II)V"⟩ : MethodName) prog_8_method_1_code 7 none :: ws) ({ frames := 1, cells := 0, slots := 0, locals := 12 } : Room)) (fun a U => a = #[(.ref a1), (.ref a2), (.ref a3), (.ref a4), (.ref a5), (.ref a6), (.int p7)] ∧ Z.Warmed39 U.vm ∧ U.heap = h0) (fun _ _ _ _ _ => True) (fun _ U o U' => ∃ v L, o = .returned v ∧ Q3 Z a1 a2 a4 h0 n0 v U'.heap L ∧ FrameEnd U o U' L ({ frames := 1, cells := 0, slots := 0, locals := 12 } : Room).cells ({ frames := 1, cells := 0, slots := 0, locals := 12 } : Room).slots) := by
  refine MetFree.of_bodySF (plainFor_of_name pn_3) hisR ?_
  intro p e s m args below meth c s₁ Bd hml0 hP hK
  obtain ⟨rfl, hZ, hh⟩ := hP
  have hx := Bd.exec
  have hby := Bd.bytes
  have hml : c.maxLocals = 7 := hml0
  have hown : s.vm.findClass "com/example/othograph/othograph/Automaton" = some m.cls := findClass_of_methodNamed Bd.named
  have hnm := (name_of_methodNamed Bd.named Bd.method).1
  have X0 : Stand p l e ({ frames := 1, cells := 0, slots := 0, locals := 12 } : Room) s m #[(.ref a1), (.ref a2), (.ref a3), (.ref a4), (.ref a5), (.ref a6), (.int p7)] below meth c s₁ [] 0 0 := Stand.of_body Bd
  have e0 : s₁.heap = h0 := by rw [← hh, Bd.state]; rfl
  have N0 := Fr.nil n0
  have pre0 : ∀ t, Steps p.tables e below (s₁.setTop (mkF m 0 #[.val (.ref a1), .val (.ref a2), .val (.ref a3), .val (.ref a4), .val (.ref a5), .val (.ref a6), .val (.int p7)] [])) t → Steps p.tables e below (s₁.setTop (entryFrame m #[(.ref a1), (.ref a2), (.ref a3), (.ref a4), (.ref a5), (.ref a6), (.int p7)] 7)) t := fun t k => castTop (ef_rm3 m a1 a2 a3 a4 a5 a6 p7) k
  have K0 : Keep h0 h0 [a1] := Keep.refl _ _

  obtain ⟨T1, X1, e1, st1⟩ := initO X0 hx hZ hown (hw _ (List.mem_of_getElem? (i := 18) rfl)) (hw _ (List.mem_of_getElem? (i := 19) rfl)) (hw _ (List.mem_of_getElem? (i := 20) rfl)) e0 (g := (mkF m 1 #[.val (.ref a1), .val (.ref a2), .val (.ref a3), .val (.ref a4), .val (.ref a5), .val (.ref a6), .val (.int p7)] [(.ref a1)])) rfl (by rw [hml]; rfl) rfl (hb hby d3_1) (by decide) (W := 0) (by show 2 * 0 + _ ≤ _; exact Nat.le_of_eq rfl) (by decide)
  obtain ⟨T2, h2, X2, e2, W2, st2⟩ := putF X1 hx hZ hown (host := "") (Or.inl (hw _ (List.mem_of_getElem? (i := 21) rfl))) Via.refl e1 F_first E1 (Or.inr ⟨(hw _ (List.mem_of_getElem? (i := 22) rfl)), rfl, hnm⟩) (hw _ (List.mem_of_getElem? (i := 13) rfl)) (ty := (.array .int)) (by decide) rfl rfl (g := (mkF m 6 #[.val (.ref a1), .val (.ref a2), .val (.ref a3), .val (.ref a4), .val (.ref a5), .val (.ref a6), .val (.int p7)] [(.ref a2), (.ref a1)])) rfl rfl (hb hby d3_6)
  have N2 := Fr.snoc X2 N0 g_a1
  have E1_e2 := E1.wr W2
  have F_first_e2 := F_first.same W2
  have F_accepting_e2 := F_accepting.other W2 (Or.inr (slot_ne (Or.inr (hw _ (List.mem_of_getElem? (i := 24) rfl))) (Or.inr (hw _ (List.mem_of_getElem? (i := 22) rfl))) (by decide) (t := (.array .boolean)) (t' := (.array .int)) (by decide) (by decide)))
  have F_labels_e2 := F_labels.other W2 (Or.inr (slot_ne (Or.inr (hw _ (List.mem_of_getElem? (i := 26) rfl))) (Or.inr (hw _ (List.mem_of_getElem? (i := 22) rfl))) (by decide) (t := (.array .int)) (t' := (.array .int)) (by decide) (by decide)))
  have F_targets_e2 := F_targets.other W2 (Or.inr (slot_ne (Or.inr (hw _ (List.mem_of_getElem? (i := 28) rfl))) (Or.inr (hw _ (List.mem_of_getElem? (i := 22) rfl))) (by decide) (t := (.array .int)) (t' := (.array .int)) (by decide) (by decide)))
  have F_offsets_e2 := F_offsets.other W2 (Or.inr (slot_ne (Or.inr (hw _ (List.mem_of_getElem? (i := 30) rfl))) (Or.inr (hw _ (List.mem_of_getElem? (i := 22) rfl))) (by decide) (t := (.array .int)) (t' := (.array .int)) (by decide) (by decide)))
  have F_size_e2 := F_size.other W2 (Or.inr (slot_ne (Or.inr (hw _ (List.mem_of_getElem? (i := 32) rfl))) (Or.inr (hw _ (List.mem_of_getElem? (i := 22) rfl))) (by decide) (t := .int) (t' := (.array .int)) (by decide) (by decide)))
  have Z2 : n0 ≤ h2.size := W2.size.symm ▸ Z0
  have K2 : Keep h0 h2 [a1] := K0.wr W2 (Or.inl (List.mem_of_getElem? (i := 0) rfl))
  obtain ⟨T3, h3, X3, e3, W3, st3⟩ := putF X2 hx hZ hown (host := "") (Or.inl (hw _ (List.mem_of_getElem? (i := 23) rfl))) Via.refl e2 F_accepting_e2 E1_e2 (Or.inr ⟨(hw _ (List.mem_of_getElem? (i := 24) rfl)), rfl, hnm⟩) (hw _ (List.mem_of_getElem? (i := 13) rfl)) (ty := (.array .boolean)) (by decide) rfl rfl (g := (mkF m 11 #[.val (.ref a1), .val (.ref a2), .val (.ref a3), .val (.ref a4), .val (.ref a5), .val (.ref a6), .val (.int p7)] [(.ref a3), (.ref a1)])) rfl rfl (hb hby d3_11)
  have N3 := Fr.snoc X3 N2 g_a1
  have E1_e3 := E1_e2.wr W3
  have F_first_e3 := F_first_e2.other W3 (Or.inr (slot_ne (Or.inr (hw _ (List.mem_of_getElem? (i := 22) rfl))) (Or.inr (hw _ (List.mem_of_getElem? (i := 24) rfl))) (by decide) (t := (.array .int)) (t' := (.array .boolean)) (by decide) (by decide)))
  have F_accepting_e3 := F_accepting_e2.same W3
  have F_labels_e3 := F_labels_e2.other W3 (Or.inr (slot_ne (Or.inr (hw _ (List.mem_of_getElem? (i := 26) rfl))) (Or.inr (hw _ (List.mem_of_getElem? (i := 24) rfl))) (by decide) (t := (.array .int)) (t' := (.array .boolean)) (by decide) (by decide)))
  have F_targets_e3 := F_targets_e2.other W3 (Or.inr (slot_ne (Or.inr (hw _ (List.mem_of_getElem? (i := 28) rfl))) (Or.inr (hw _ (List.mem_of_getElem? (i := 24) rfl))) (by decide) (t := (.array .int)) (t' := (.array .boolean)) (by decide) (by decide)))
  have F_offsets_e3 := F_offsets_e2.other W3 (Or.inr (slot_ne (Or.inr (hw _ (List.mem_of_getElem? (i := 30) rfl))) (Or.inr (hw _ (List.mem_of_getElem? (i := 24) rfl))) (by decide) (t := (.array .int)) (t' := (.array .boolean)) (by decide) (by decide)))
  have F_size_e3 := F_size_e2.other W3 (Or.inr (slot_ne (Or.inr (hw _ (List.mem_of_getElem? (i := 32) rfl))) (Or.inr (hw _ (List.mem_of_getElem? (i := 24) rfl))) (by decide) (t := .int) (t' := (.array .boolean)) (by decide) (by decide)))
  have Z3 : n0 ≤ h3.size := W3.size.symm ▸ Z2
  have K3 : Keep h0 h3 [a1] := K2.wr W3 (Or.inl (List.mem_of_getElem? (i := 0) rfl))
  obtain ⟨T4, h4, X4, e4, W4, st4⟩ := putF X3 hx hZ hown (host := "") (Or.inl (hw _ (List.mem_of_getElem? (i := 25) rfl))) Via.refl e3 F_labels_e3 E1_e3 (Or.inr ⟨(hw _ (List.mem_of_getElem? (i := 26) rfl)), rfl, hnm⟩) (hw _ (List.mem_of_getElem? (i := 13) rfl)) (ty := (.array .int)) (by decide) rfl rfl (g := (mkF m 16 #[.val (.ref a1), .val (.ref a2), .val (.ref a3), .val (.ref a4), .val (.ref a5), .val (.ref a6), .val (.int p7)] [(.ref a4), (.ref a1)])) rfl rfl (hb hby d3_16)
  have N4 := Fr.snoc X4 N3 g_a1
  have E1_e4 := E1_e3.wr W4
  have F_first_e4 := F_first_e3.other W4 (Or.inr (slot_ne (Or.inr (hw _ (List.mem_of_getElem? (i := 22) rfl))) (Or.inr (hw _ (List.mem_of_getElem? (i := 26) rfl))) (by decide) (t := (.array .int)) (t' := (.array .int)) (by decide) (by decide)))
  have F_accepting_e4 := F_accepting_e3.other W4 (Or.inr (slot_ne (Or.inr (hw _ (List.mem_of_getElem? (i := 24) rfl))) (Or.inr (hw _ (List.mem_of_getElem? (i := 26) rfl))) (by decide) (t := (.array .boolean)) (t' := (.array .int)) (by decide) (by decide)))
  have F_labels_e4 := F_labels_e3.same W4
  have F_targets_e4 := F_targets_e3.other W4 (Or.inr (slot_ne (Or.inr (hw _ (List.mem_of_getElem? (i := 28) rfl))) (Or.inr (hw _ (List.mem_of_getElem? (i := 26) rfl))) (by decide) (t := (.array .int)) (t' := (.array .int)) (by decide) (by decide)))
  have F_offsets_e4 := F_offsets_e3.other W4 (Or.inr (slot_ne (Or.inr (hw _ (List.mem_of_getElem? (i := 30) rfl))) (Or.inr (hw _ (List.mem_of_getElem? (i := 26) rfl))) (by decide) (t := (.array .int)) (t' := (.array .int)) (by decide) (by decide)))
  have F_size_e4 := F_size_e3.other W4 (Or.inr (slot_ne (Or.inr (hw _ (List.mem_of_getElem? (i := 32) rfl))) (Or.inr (hw _ (List.mem_of_getElem? (i := 26) rfl))) (by decide) (t := .int) (t' := (.array .int)) (by decide) (by decide)))
  have Z4 : n0 ≤ h4.size := W4.size.symm ▸ Z3
  have K4 : Keep h0 h4 [a1] := K3.wr W4 (Or.inl (List.mem_of_getElem? (i := 0) rfl))
  obtain ⟨T5, h5, X5, e5, W5, st5⟩ := putF X4 hx hZ hown (host := "") (Or.inl (hw _ (List.mem_of_getElem? (i := 27) rfl))) Via.refl e4 F_targets_e4 E1_e4 (Or.inr ⟨(hw _ (List.mem_of_getElem? (i := 28) rfl)), rfl, hnm⟩) (hw _ (List.mem_of_getElem? (i := 13) rfl)) (ty := (.array .int)) (by decide) rfl rfl (g := (mkF m 22 #[.val (.ref a1), .val (.ref a2), .val (.ref a3), .val (.ref a4), .val (.ref a5), .val (.ref a6), .val (.int p7)] [(.ref a5), (.ref a1)])) rfl rfl (hb hby d3_22)
  have N5 := Fr.snoc X5 N4 g_a1
  have E1_e5 := E1_e4.wr W5
  have F_first_e5 := F_first_e4.other W5 (Or.inr (slot_ne (Or.inr (hw _ (List.mem_of_getElem? (i := 22) rfl))) (Or.inr (hw _ (List.mem_of_getElem? (i := 28) rfl))) (by decide) (t := (.array .int)) (t' := (.array .int)) (by decide) (by decide)))
  have F_accepting_e5 := F_accepting_e4.other W5 (Or.inr (slot_ne (Or.inr (hw _ (List.mem_of_getElem? (i := 24) rfl))) (Or.inr (hw _ (List.mem_of_getElem? (i := 28) rfl))) (by decide) (t := (.array .boolean)) (t' := (.array .int)) (by decide) (by decide)))
  have F_labels_e5 := F_labels_e4.other W5 (Or.inr (slot_ne (Or.inr (hw _ (List.mem_of_getElem? (i := 26) rfl))) (Or.inr (hw _ (List.mem_of_getElem? (i := 28) rfl))) (by decide) (t := (.array .int)) (t' := (.array .int)) (by decide) (by decide)))
  have F_targets_e5 := F_targets_e4.same W5
  have F_offsets_e5 := F_offsets_e4.other W5 (Or.inr (slot_ne (Or.inr (hw _ (List.mem_of_getElem? (i := 30) rfl))) (Or.inr (hw _ (List.mem_of_getElem? (i := 28) rfl))) (by decide) (t := (.array .int)) (t' := (.array .int)) (by decide) (by decide)))
  have F_size_e5 := F_size_e4.other W5 (Or.inr (slot_ne (Or.inr (hw _ (List.mem_of_getElem? (i := 32) rfl))) (Or.inr (hw _ (List.mem_of_getElem? (i := 28) rfl))) (by decide) (t := .int) (t' := (.array .int)) (by decide) (by decide)))
  have Z5 : n0 ≤ h5.size := W5.size.symm ▸ Z4
  have K5 : Keep h0 h5 [a1] := K4.wr W5 (Or.inl (List.mem_of_getElem? (i := 0) rfl))
  obtain ⟨T6, h6, X6, e6, W6, st6⟩ := putF X5 hx hZ hown (host := "") (Or.inl (hw _ (List.mem_of_getElem? (i := 29) rfl))) Via.refl e5 F_offsets_e5 E1_e5 (Or.inr ⟨(hw _ (List.mem_of_getElem? (i := 30) rfl)), rfl, hnm⟩) (hw _ (List.mem_of_getElem? (i := 13) rfl)) (ty := (.array .int)) (by decide) rfl rfl (g := (mkF m 28 #[.val (.ref a1), .val (.ref a2), .val (.ref a3), .val (.ref a4), .val (.ref a5), .val (.ref a6), .val (.int p7)] [(.ref a6), (.ref a1)])) rfl rfl (hb hby d3_28)
  have N6 := Fr.snoc X6 N5 g_a1
  have E1_e6 := E1_e5.wr W6
  have F_first_e6 := F_first_e5.other W6 (Or.inr (slot_ne (Or.inr (hw _ (List.mem_of_getElem? (i := 22) rfl))) (Or.inr (hw _ (List.mem_of_getElem? (i := 30) rfl))) (by decide) (t := (.array .int)) (t' := (.array .int)) (by decide) (by decide)))
  have F_accepting_e6 := F_accepting_e5.other W6 (Or.inr (slot_ne (Or.inr (hw _ (List.mem_of_getElem? (i := 24) rfl))) (Or.inr (hw _ (List.mem_of_getElem? (i := 30) rfl))) (by decide) (t := (.array .boolean)) (t' := (.array .int)) (by decide) (by decide)))
  have F_labels_e6 := F_labels_e5.other W6 (Or.inr (slot_ne (Or.inr (hw _ (List.mem_of_getElem? (i := 26) rfl))) (Or.inr (hw _ (List.mem_of_getElem? (i := 30) rfl))) (by decide) (t := (.array .int)) (t' := (.array .int)) (by decide) (by decide)))
  have F_targets_e6 := F_targets_e5.other W6 (Or.inr (slot_ne (Or.inr (hw _ (List.mem_of_getElem? (i := 28) rfl))) (Or.inr (hw _ (List.mem_of_getElem? (i := 30) rfl))) (by decide) (t := (.array .int)) (t' := (.array .int)) (by decide) (by decide)))
  have F_offsets_e6 := F_offsets_e5.same W6
  have F_size_e6 := F_size_e5.other W6 (Or.inr (slot_ne (Or.inr (hw _ (List.mem_of_getElem? (i := 32) rfl))) (Or.inr (hw _ (List.mem_of_getElem? (i := 30) rfl))) (by decide) (t := .int) (t' := (.array .int)) (by decide) (by decide)))
  have Z6 : n0 ≤ h6.size := W6.size.symm ▸ Z5
  have K6 : Keep h0 h6 [a1] := K5.wr W6 (Or.inl (List.mem_of_getElem? (i := 0) rfl))
  obtain ⟨T7, h7, X7, e7, W7, st7⟩ := putF X6 hx hZ hown (host := "") (Or.inl (hw _ (List.mem_of_getElem? (i := 31) rfl))) Via.refl e6 F_size_e6 E1_e6 (Or.inr ⟨(hw _ (List.mem_of_getElem? (i := 32) rfl)), rfl, hnm⟩) (hw _ (List.mem_of_getElem? (i := 13) rfl)) (ty := .int) (by decide) rfl rfl (g := (mkF m 34 #[.val (.ref a1), .val (.ref a2), .val (.ref a3), .val (.ref a4), .val (.ref a5), .val (.ref a6), .val (.int p7)] [(.int p7), (.ref a1)])) rfl rfl (hb hby d3_34)
  have N7 := Fr.snoc X7 N6 g_a1
  have E1_e7 := E1_e6.wr W7
  have F_first_e7 := F_first_e6.other W7 (Or.inr (slot_ne (Or.inr (hw _ (List.mem_of_getElem? (i := 22) rfl))) (Or.inr (hw _ (List.mem_of_getElem? (i := 32) rfl))) (by decide) (t := (.array .int)) (t' := .int) (by decide) (by decide)))
  have F_accepting_e7 := F_accepting_e6.other W7 (Or.inr (slot_ne (Or.inr (hw _ (List.mem_of_getElem? (i := 24) rfl))) (Or.inr (hw _ (List.mem_of_getElem? (i := 32) rfl))) (by decide) (t := (.array .boolean)) (t' := .int) (by decide) (by decide)))
  have F_labels_e7 := F_labels_e6.other W7 (Or.inr (slot_ne (Or.inr (hw _ (List.mem_of_getElem? (i := 26) rfl))) (Or.inr (hw _ (List.mem_of_getElem? (i := 32) rfl))) (by decide) (t := (.array .int)) (t' := .int) (by decide) (by decide)))
  have F_targets_e7 := F_targets_e6.other W7 (Or.inr (slot_ne (Or.inr (hw _ (List.mem_of_getElem? (i := 28) rfl))) (Or.inr (hw _ (List.mem_of_getElem? (i := 32) rfl))) (by decide) (t := (.array .int)) (t' := .int) (by decide) (by decide)))
  have F_offsets_e7 := F_offsets_e6.other W7 (Or.inr (slot_ne (Or.inr (hw _ (List.mem_of_getElem? (i := 30) rfl))) (Or.inr (hw _ (List.mem_of_getElem? (i := 32) rfl))) (by decide) (t := (.array .int)) (t' := .int) (by decide) (by decide)))
  have F_size_e7 := F_size_e6.same W7
  have Z7 : n0 ≤ h7.size := W7.size.symm ▸ Z6
  have K7 : Keep h0 h7 [a1] := K6.wr W7 (Or.inl (List.mem_of_getElem? (i := 0) rfl))
  obtain ⟨fs, hr, hrun, hended, hW, hsame⟩ := X7.leave (v := none) (fun _ => rfl)
  refine ⟨_, _, pre0 _ ?_, hrun, hended, _, _, rfl, ?_, ⟨_, rfl⟩, hW, hsame.mono (by decide) (by decide)⟩
  · show Steps p.tables e below (s₁.setTop (mkF m 0 #[.val (.ref a1), .val (.ref a2), .val (.ref a3), .val (.ref a4), .val (.ref a5), .val (.ref a6), .val (.int p7)] [])) _
    refine XS.aloadN X0.here hx rfl (hb hby d3_0) rfl rfl ?_
    show Steps p.tables e below (s₁.setTop (mkF m 1 #[.val (.ref a1), .val (.ref a2), .val (.ref a3), .val (.ref a4), .val (.ref a5), .val (.ref a6), .val (.int p7)] [(.ref a1)])) _
    refine st1 _ ?_
    show Steps p.tables e below (T1.setTop (mkF m 4 #[.val (.ref a1), .val (.ref a2), .val (.ref a3), .val (.ref a4), .val (.ref a5), .val (.ref a6), .val (.int p7)] [])) _
    refine XS.aloadN X1.here hx rfl (hb hby d3_4) rfl rfl ?_
    show Steps p.tables e below (T1.setTop (mkF m 5 #[.val (.ref a1), .val (.ref a2), .val (.ref a3), .val (.ref a4), .val (.ref a5), .val (.ref a6), .val (.int p7)] [(.ref a1)])) _
    refine XS.aloadN X1.here hx rfl (hb hby d3_5) rfl rfl ?_
    show Steps p.tables e below (T1.setTop (mkF m 6 #[.val (.ref a1), .val (.ref a2), .val (.ref a3), .val (.ref a4), .val (.ref a5), .val (.ref a6), .val (.int p7)] [(.ref a2), (.ref a1)])) _
    refine st2 _ ?_
    show Steps p.tables e below (T2.setTop (mkF m 9 #[.val (.ref a1), .val (.ref a2), .val (.ref a3), .val (.ref a4), .val (.ref a5), .val (.ref a6), .val (.int p7)] [])) _
    refine XS.aloadN X2.here hx rfl (hb hby d3_9) rfl rfl ?_
    show Steps p.tables e below (T2.setTop (mkF m 10 #[.val (.ref a1), .val (.ref a2), .val (.ref a3), .val (.ref a4), .val (.ref a5), .val (.ref a6), .val (.int p7)] [(.ref a1)])) _
    refine XS.aloadN X2.here hx rfl (hb hby d3_10) rfl rfl ?_
    show Steps p.tables e below (T2.setTop (mkF m 11 #[.val (.ref a1), .val (.ref a2), .val (.ref a3), .val (.ref a4), .val (.ref a5), .val (.ref a6), .val (.int p7)] [(.ref a3), (.ref a1)])) _
    refine st3 _ ?_
    show Steps p.tables e below (T3.setTop (mkF m 14 #[.val (.ref a1), .val (.ref a2), .val (.ref a3), .val (.ref a4), .val (.ref a5), .val (.ref a6), .val (.int p7)] [])) _
    refine XS.aloadN X3.here hx rfl (hb hby d3_14) rfl rfl ?_
    show Steps p.tables e below (T3.setTop (mkF m 15 #[.val (.ref a1), .val (.ref a2), .val (.ref a3), .val (.ref a4), .val (.ref a5), .val (.ref a6), .val (.int p7)] [(.ref a1)])) _
    refine XS.aloadN X3.here hx rfl (hb hby d3_15) rfl rfl ?_
    show Steps p.tables e below (T3.setTop (mkF m 16 #[.val (.ref a1), .val (.ref a2), .val (.ref a3), .val (.ref a4), .val (.ref a5), .val (.ref a6), .val (.int p7)] [(.ref a4), (.ref a1)])) _
    refine st4 _ ?_
    show Steps p.tables e below (T4.setTop (mkF m 19 #[.val (.ref a1), .val (.ref a2), .val (.ref a3), .val (.ref a4), .val (.ref a5), .val (.ref a6), .val (.int p7)] [])) _
    refine XS.aloadN X4.here hx rfl (hb hby d3_19) rfl rfl ?_
    show Steps p.tables e below (T4.setTop (mkF m 20 #[.val (.ref a1), .val (.ref a2), .val (.ref a3), .val (.ref a4), .val (.ref a5), .val (.ref a6), .val (.int p7)] [(.ref a1)])) _
    refine XS.aload X4.here hx rfl (hb hby d3_20) rfl rfl ?_
    show Steps p.tables e below (T4.setTop (mkF m 22 #[.val (.ref a1), .val (.ref a2), .val (.ref a3), .val (.ref a4), .val (.ref a5), .val (.ref a6), .val (.int p7)] [(.ref a5), (.ref a1)])) _
    refine st5 _ ?_
    show Steps p.tables e below (T5.setTop (mkF m 25 #[.val (.ref a1), .val (.ref a2), .val (.ref a3), .val (.ref a4), .val (.ref a5), .val (.ref a6), .val (.int p7)] [])) _
    refine XS.aloadN X5.here hx rfl (hb hby d3_25) rfl rfl ?_
    show Steps p.tables e below (T5.setTop (mkF m 26 #[.val (.ref a1), .val (.ref a2), .val (.ref a3), .val (.ref a4), .val (.ref a5), .val (.ref a6), .val (.int p7)] [(.ref a1)])) _
    refine XS.aload X5.here hx rfl (hb hby d3_26) rfl rfl ?_
    show Steps p.tables e below (T5.setTop (mkF m 28 #[.val (.ref a1), .val (.ref a2), .val (.ref a3), .val (.ref a4), .val (.ref a5), .val (.ref a6), .val (.int p7)] [(.ref a6), (.ref a1)])) _
    refine st6 _ ?_
    show Steps p.tables e below (T6.setTop (mkF m 31 #[.val (.ref a1), .val (.ref a2), .val (.ref a3), .val (.ref a4), .val (.ref a5), .val (.ref a6), .val (.int p7)] [])) _
    refine XS.aloadN X6.here hx rfl (hb hby d3_31) rfl rfl ?_
    show Steps p.tables e below (T6.setTop (mkF m 32 #[.val (.ref a1), .val (.ref a2), .val (.ref a3), .val (.ref a4), .val (.ref a5), .val (.ref a6), .val (.int p7)] [(.ref a1)])) _
    refine XS.iload X6.here hx rfl (hb hby d3_32) rfl ?_
    show Steps p.tables e below (T6.setTop (mkF m 34 #[.val (.ref a1), .val (.ref a2), .val (.ref a3), .val (.ref a4), .val (.ref a5), .val (.ref a6), .val (.int p7)] [(.int p7), (.ref a1)])) _
    refine st7 _ ?_
    show Steps p.tables e below (T7.setTop (mkF m 37 #[.val (.ref a1), .val (.ref a2), .val (.ref a3), .val (.ref a4), .val (.ref a5), .val (.ref a6), .val (.int p7)] [])) _
    exact X7.returnOut hx Bd.returns (hb hby d3_37) hr
  · show Q3 Z a1 a2 a4 h0 n0 _ T7.heap _
    rw [e7]
    exact ⟨rfl, N7, K7, E1_e7, F_first_e7, F_labels_e7⟩

theorem ef_rm7 (m : MethodId) (a1 : Addr) (p2 : Int32) (p3 : Int32) : entryFrame m #[(.ref a1), (.int p2), (.int p3)] 3 = mkF m 0 #[.val (.ref a1), .val (.int p2), .val (.int p3)] [] := by first | (simp [entryFrame, mkF, argsToLocals, Value.category]; done) | rfl
def Q7 (Z : State) (y : Int32) (h0 : Heap) (n0 : Nat) (v : Option Value) (h : Heap) (L : List Loc) : Prop := v = some (.int y) ∧ Fr n0 L ∧ h = h0
set_option maxRecDepth 65536 in
set_option maxHeartbeats 40000000 in
theorem rm7 (l : Launch) (Z : State) (a0 : Array Value) (hw : ∀ d ∈ tables_1, d.before a0 Z = true) (ws : List Jvm.Cond) (a1 : Addr) (p2 : Int32) (p3 : Int32) (c1 : Addr) (c2 : Addr) (v1 : List Value) (v2 : List Value) (x : Int32) (y : Int32) (h0 : Heap) (n0 : Nat) (Z0 : n0 ≤ h0.size) (F1 : Fld Z h0 a1 "com/example/othograph/othograph/Automaton" "first" "[I" (.ref c1)) (F2 : Fld Z h0 a1 "com/example/othograph/othograph/Automaton" "labels" "[I" (.ref c2)) (V1 : AL Z h0 c1 .int v1) (V2 : AL Z h0 c2 .int v2) (m1 : ¬ p2 < 0) (i1 : v1[p2.toNatClampNeg]? = some (.int x)) (m2 : ¬ (x + p3) < 0) (i2 : v2[(x + p3).toNatClampNeg]? = some (.int y)) :
    MetFree l (⟨"com/example/othograph/othograph/Automaton", "label", "(II)I"⟩ : MethodName) (head1 (Jvm.Cond.code (⟨"com/example/othograph/othograph/Automaton", "label", "(II)I"⟩ : MethodName) prog_8_method_7_code 3 (some .int) :: ws) ({ frames := 0, cells := 0, slots := 0, locals := 0 } : Room)) (fun a U => a = #[(.ref a1), (.int p2), (.int p3)] ∧ Z.Warmed39 U.vm ∧ U.heap = h0) (fun _ _ _ _ _ => True) (fun _ U o U' => ∃ v L, o = .returned v ∧ Q7 Z y h0 n0 v U'.heap L ∧ FrameEnd U o U' L ({ frames := 0, cells := 0, slots := 0, locals := 0 } : Room).cells ({ frames := 0, cells := 0, slots := 0, locals := 0 } : Room).slots) := by
  refine MetFree.of_bodySF (plainFor_of_name pn_7) hisR ?_
  intro p e s m args below meth c s₁ Bd hml0 hP hK
  obtain ⟨rfl, hZ, hh⟩ := hP
  have hx := Bd.exec
  have hby := Bd.bytes
  have hml : c.maxLocals = 3 := hml0
  have hown : s.vm.findClass "com/example/othograph/othograph/Automaton" = some m.cls := findClass_of_methodNamed Bd.named
  have hnm := (name_of_methodNamed Bd.named Bd.method).1
  have X0 : Stand p l e ({ frames := 0, cells := 0, slots := 0, locals := 0 } : Room) s m #[(.ref a1), (.int p2), (.int p3)] below meth c s₁ [] 0 0 := Stand.of_body Bd
  have e0 : s₁.heap = h0 := by rw [← hh, Bd.state]; rfl
  have N0 := Fr.nil n0
  have pre0 : ∀ t, Steps p.tables e below (s₁.setTop (mkF m 0 #[.val (.ref a1), .val (.int p2), .val (.int p3)] [])) t → Steps p.tables e below (s₁.setTop (entryFrame m #[(.ref a1), (.int p2), (.int p3)] 3)) t := fun t k => castTop (ef_rm7 m a1 p2 p3) k

  obtain ⟨T1, X1, e1, st1⟩ := getF X0 hx hZ hown (host := "") (Or.inl (hw _ (List.mem_of_getElem? (i := 25) rfl))) Via.refl e0 F2 (g := (mkF m 1 #[.val (.ref a1), .val (.int p2), .val (.int p3)] [(.ref a1)])) rfl rfl (hb hby d7_1)
  obtain ⟨T2, X2, e2, st2⟩ := getF X1 hx hZ hown (host := "") (Or.inl (hw _ (List.mem_of_getElem? (i := 21) rfl))) Via.refl e1 F1 (g := (mkF m 5 #[.val (.ref a1), .val (.int p2), .val (.int p3)] [(.ref a1), (.ref c2)])) rfl rfl (hb hby d7_5)
  obtain ⟨fs, hr, hrun, hended, hW, hsame⟩ := X2.leave (v := some (.int y)) (fun h => by rw [Bd.returns] at h; cases h)
  refine ⟨_, _, pre0 _ ?_, hrun, hended, _, _, rfl, ?_, ⟨_, rfl⟩, hW, hsame.mono (by decide) (by decide)⟩
  · show Steps p.tables e below (s₁.setTop (mkF m 0 #[.val (.ref a1), .val (.int p2), .val (.int p3)] [])) _
    refine XS.aloadN X0.here hx rfl (hb hby d7_0) rfl rfl ?_
    show Steps p.tables e below (s₁.setTop (mkF m 1 #[.val (.ref a1), .val (.int p2), .val (.int p3)] [(.ref a1)])) _
    refine st1 _ ?_
    show Steps p.tables e below (T1.setTop (mkF m 4 #[.val (.ref a1), .val (.int p2), .val (.int p3)] [(.ref c2)])) _
    refine XS.aloadN X1.here hx rfl (hb hby d7_4) rfl rfl ?_
    show Steps p.tables e below (T1.setTop (mkF m 5 #[.val (.ref a1), .val (.int p2), .val (.int p3)] [(.ref a1), (.ref c2)])) _
    refine st2 _ ?_
    show Steps p.tables e below (T2.setTop (mkF m 8 #[.val (.ref a1), .val (.int p2), .val (.int p3)] [(.ref c1), (.ref c2)])) _
    refine XS.iloadN X2.here hx rfl (hb hby d7_8) rfl ?_
    show Steps p.tables e below (T2.setTop (mkF m 9 #[.val (.ref a1), .val (.int p2), .val (.int p3)] [(.int p2), (.ref c1), (.ref c2)])) _
    refine own_ldI X2 hx hZ e2 V1 (x := x) m1 i1 (g := (mkF m 9 #[.val (.ref a1), .val (.int p2), .val (.int p3)] [(.int p2), (.ref c1), (.ref c2)])) rfl rfl (hb hby d7_9) _ ?_
    show Steps p.tables e below (T2.setTop (mkF m 10 #[.val (.ref a1), .val (.int p2), .val (.int p3)] [(.int x), (.ref c2)])) _
    refine XS.iloadN X2.here hx rfl (hb hby d7_10) rfl ?_
    show Steps p.tables e below (T2.setTop (mkF m 11 #[.val (.ref a1), .val (.int p2), .val (.int p3)] [(.int p3), (.int x), (.ref c2)])) _
    refine XS.iadd X2.here hx rfl (hb hby d7_11) rfl ?_
    show Steps p.tables e below (T2.setTop (mkF m 12 #[.val (.ref a1), .val (.int p2), .val (.int p3)] [(.int (x + p3)), (.ref c2)])) _
    refine own_ldI X2 hx hZ e2 V2 (x := y) m2 i2 (g := (mkF m 12 #[.val (.ref a1), .val (.int p2), .val (.int p3)] [(.int (x + p3)), (.ref c2)])) rfl rfl (hb hby d7_12) _ ?_
    show Steps p.tables e below (T2.setTop (mkF m 13 #[.val (.ref a1), .val (.int p2), .val (.int p3)] [(.int y)])) _
    exact retI X2 hx Bd.returns (hb hby d7_13) hr
  · show Q7 Z y h0 n0 _ T2.heap _
    rw [e2]
    exact ⟨rfl, N0, rfl⟩

theorem ef_rm0 (m : MethodId) (p1 : Int32) (p2 : Int32) (p3 : Int32) (p4 : Int32) : entryFrame m #[(.int p1), (.int p2), (.int p3), (.int p4)] maxLocals = mkF m 0 #[.val (.int p1), .val (.int p2), .val (.int p3), .val (.int p4), .unset, .unset, .unset, .unset, .unset, .unset, .unset, .unset, .unset, .unset, .unset, .unset, .unset, .unset, .unset, .unset, .unset, .unset] [] := by first | (simp [entryFrame, mkF, argsToLocals, Value.category, maxLocals]; done) | rfl
def Q0 (Z : State)  (h0 : Heap) (n0 : Nat) (v : Option Value) (h : Heap) (L : List Loc) : Prop := v = some (.int (1 : Int32)) ∧ Fr n0 L
set_option maxRecDepth 65536 in
set_option maxHeartbeats 40000000 in
theorem rm0 (l : Launch) (Z : State) (a0 : Array Value) (hw : ∀ d ∈ tables_1, d.before a0 Z = true) (ws : List Jvm.Cond) (p1 : Int32) (p2 : Int32) (p3 : Int32) (p4 : Int32) (h0 : Heap) (n0 : Nat) (Z0 : n0 ≤ h0.size) :
    MetFree l x (head1 (Jvm.Cond.code x code maxLocals ret :: ws) room_1) (fun a U => a = #[(.int p1), (.int p2), (.int p3), (.int p4)] ∧ Z.Warmed39 U.vm ∧ U.heap = h0) (fun _ _ _ _ _ => True) (fun _ U o U' => ∃ v L, o = .returned v ∧ Q0 Z  h0 n0 v U'.heap L ∧ FrameEnd U o U' L room_1.cells room_1.slots) := by
  refine MetFree.of_bodySF (plainFor_of_name pn_0) hisR ?_
  intro p e s m args below meth c s₁ Bd hml0 hP hK
  obtain ⟨rfl, hZ, hh⟩ := hP
  have hx := Bd.exec
  have hby := Bd.bytes
  have hml : c.maxLocals = 22 := hml0
  have hown : s.vm.findClass "com/example/othograph/othograph/AutomatonLabelPinLaw" = some m.cls := findClass_of_methodNamed Bd.named
  have hnm := (name_of_methodNamed Bd.named Bd.method).1
  have X0 : Stand p l e room_1 s m #[(.int p1), (.int p2), (.int p3), (.int p4)] below meth c s₁ [] 0 0 := Stand.of_body Bd
  have e0 : s₁.heap = h0 := by rw [← hh, Bd.state]; rfl
  have N0 := Fr.nil n0
  have pre0 : ∀ t, Steps p.tables e below (s₁.setTop (mkF m 0 #[.val (.int p1), .val (.int p2), .val (.int p3), .val (.int p4), .unset, .unset, .unset, .unset, .unset, .unset, .unset, .unset, .unset, .unset, .unset, .unset, .unset, .unset, .unset, .unset, .unset, .unset] [])) t → Steps p.tables e below (s₁.setTop (entryFrame m #[(.int p1), (.int p2), (.int p3), (.int p4)] maxLocals)) t := fun t k => castTop (ef_rm0 m p1 p2 p3 p4) k

  obtain ⟨l0, h_l0⟩ : ∃ z : Int32, z = (p1 &&& (32767 : Int32)) := ⟨_, rfl⟩
  obtain ⟨l1, h_l1⟩ : ∃ z : Int32, z = ((32768 : Int32) + (p2 &&& (32767 : Int32))) := ⟨_, rfl⟩
  obtain ⟨l2, h_l2⟩ : ∃ z : Int32, z = ((65536 : Int32) + (p3 &&& (1048575 : Int32))) := ⟨_, rfl⟩
  obtain ⟨n1, h_n1⟩ : ∃ z : Int32, z = (p4 &&& (3 : Int32)) := ⟨_, rfl⟩
  obtain ⟨c1, h_c1⟩ : ∃ z : Int32, z = (((p4.toUInt32 >>> ((2 : Int32) &&& 31).toUInt32).toInt32) &&& (1 : Int32)) := ⟨_, rfl⟩
  obtain ⟨c2, h_c2⟩ : ∃ z : Int32, z = (((p4.toUInt32 >>> ((3 : Int32) &&& 31).toUInt32).toInt32) &&& (1 : Int32)) := ⟨_, rfl⟩
  obtain ⟨n2, h_n2⟩ : ∃ z : Int32, z = ((3 : Int32) - (p4 &&& (3 : Int32))) := ⟨_, rfl⟩
  obtain ⟨k1, h_k1⟩ : ∃ z : Int32, z = ((((p4.toUInt32 >>> ((2 : Int32) &&& 31).toUInt32).toInt32) &&& (1 : Int32)) + (p4 &&& (3 : Int32))) := ⟨_, rfl⟩
  have pre1 : ∀ t, Steps p.tables e below (s₁.setTop (mkF m 58 #[.val (.int p1), .val (.int p2), .val (.int p3), .val (.int p4), .val (.int l0), .val (.int l1), .val (.int l2), .val (.int n1), .val (.int c1), .val (.int c2), .val (.int n2), .val (.int k1), .unset, .unset, .unset, .unset, .unset, .unset, .unset, .unset, .unset, .unset] [])) t → Steps p.tables e below (s₁.setTop (entryFrame m #[(.int p1), (.int p2), (.int p3), (.int p4)] maxLocals)) t := fun t k => pre0 t (by
    rw [h_l0, h_l1, h_l2, h_n1, h_c1, h_c2, h_n2, h_k1] at k
    show Steps p.tables e below (s₁.setTop (mkF m 0 #[.val (.int p1), .val (.int p2), .val (.int p3), .val (.int p4), .unset, .unset, .unset, .unset, .unset, .unset, .unset, .unset, .unset, .unset, .unset, .unset, .unset, .unset, .unset, .unset, .unset, .unset] [])) _
    refine XS.iloadN X0.here hx rfl (hb hby at_0) rfl ?_
    show Steps p.tables e below (s₁.setTop (mkF m 1 #[.val (.int p1), .val (.int p2), .val (.int p3), .val (.int p4), .unset, .unset, .unset, .unset, .unset, .unset, .unset, .unset, .unset, .unset, .unset, .unset, .unset, .unset, .unset, .unset, .unset, .unset] [(.int p1)])) _
    refine XS.sipush X0.here hx rfl (hb hby at_1) ?_
    show Steps p.tables e below (s₁.setTop (mkF m 4 #[.val (.int p1), .val (.int p2), .val (.int p3), .val (.int p4), .unset, .unset, .unset, .unset, .unset, .unset, .unset, .unset, .unset, .unset, .unset, .unset, .unset, .unset, .unset, .unset, .unset, .unset] [(.int (32767 : Int32)), (.int p1)])) _
    refine XS.iand X0.here hx rfl (hb hby at_4) rfl ?_
    show Steps p.tables e below (s₁.setTop (mkF m 5 #[.val (.int p1), .val (.int p2), .val (.int p3), .val (.int p4), .unset, .unset, .unset, .unset, .unset, .unset, .unset, .unset, .unset, .unset, .unset, .unset, .unset, .unset, .unset, .unset, .unset, .unset] [(.int (p1 &&& (32767 : Int32)))])) _
    refine XS.istore X0.here hx rfl (hb hby at_5) rfl (l' := #[.val (.int p1), .val (.int p2), .val (.int p3), .val (.int p4), .val (.int (p1 &&& (32767 : Int32))), .unset, .unset, .unset, .unset, .unset, .unset, .unset, .unset, .unset, .unset, .unset, .unset, .unset, .unset, .unset, .unset, .unset]) rfl ?_
    show Steps p.tables e below (s₁.setTop (mkF m 7 #[.val (.int p1), .val (.int p2), .val (.int p3), .val (.int p4), .val (.int (p1 &&& (32767 : Int32))), .unset, .unset, .unset, .unset, .unset, .unset, .unset, .unset, .unset, .unset, .unset, .unset, .unset, .unset, .unset, .unset, .unset] [])) _
    refine X0.ldcInt hx hown (mvT hZ (hw _ (List.mem_of_getElem? (i := 0) rfl))) (g := (mkF m 7 #[.val (.int p1), .val (.int p2), .val (.int p3), .val (.int p4), .val (.int (p1 &&& (32767 : Int32))), .unset, .unset, .unset, .unset, .unset, .unset, .unset, .unset, .unset, .unset, .unset, .unset, .unset, .unset, .unset, .unset, .unset] [])) rfl (hb hby at_7) _ ?_
    show Steps p.tables e below (s₁.setTop (mkF m 9 #[.val (.int p1), .val (.int p2), .val (.int p3), .val (.int p4), .val (.int (p1 &&& (32767 : Int32))), .unset, .unset, .unset, .unset, .unset, .unset, .unset, .unset, .unset, .unset, .unset, .unset, .unset, .unset, .unset, .unset, .unset] [(.int (32768 : Int32))])) _
    refine XS.iloadN X0.here hx rfl (hb hby at_9) rfl ?_
    show Steps p.tables e below (s₁.setTop (mkF m 10 #[.val (.int p1), .val (.int p2), .val (.int p3), .val (.int p4), .val (.int (p1 &&& (32767 : Int32))), .unset, .unset, .unset, .unset, .unset, .unset, .unset, .unset, .unset, .unset, .unset, .unset, .unset, .unset, .unset, .unset, .unset] [(.int p2), (.int (32768 : Int32))])) _
    refine XS.sipush X0.here hx rfl (hb hby at_10) ?_
    show Steps p.tables e below (s₁.setTop (mkF m 13 #[.val (.int p1), .val (.int p2), .val (.int p3), .val (.int p4), .val (.int (p1 &&& (32767 : Int32))), .unset, .unset, .unset, .unset, .unset, .unset, .unset, .unset, .unset, .unset, .unset, .unset, .unset, .unset, .unset, .unset, .unset] [(.int (32767 : Int32)), (.int p2), (.int (32768 : Int32))])) _
    refine XS.iand X0.here hx rfl (hb hby at_13) rfl ?_
    show Steps p.tables e below (s₁.setTop (mkF m 14 #[.val (.int p1), .val (.int p2), .val (.int p3), .val (.int p4), .val (.int (p1 &&& (32767 : Int32))), .unset, .unset, .unset, .unset, .unset, .unset, .unset, .unset, .unset, .unset, .unset, .unset, .unset, .unset, .unset, .unset, .unset] [(.int (p2 &&& (32767 : Int32))), (.int (32768 : Int32))])) _
    refine XS.iadd X0.here hx rfl (hb hby at_14) rfl ?_
    show Steps p.tables e below (s₁.setTop (mkF m 15 #[.val (.int p1), .val (.int p2), .val (.int p3), .val (.int p4), .val (.int (p1 &&& (32767 : Int32))), .unset, .unset, .unset, .unset, .unset, .unset, .unset, .unset, .unset, .unset, .unset, .unset, .unset, .unset, .unset, .unset, .unset] [(.int ((32768 : Int32) + (p2 &&& (32767 : Int32))))])) _
    refine XS.istore X0.here hx rfl (hb hby at_15) rfl (l' := #[.val (.int p1), .val (.int p2), .val (.int p3), .val (.int p4), .val (.int (p1 &&& (32767 : Int32))), .val (.int ((32768 : Int32) + (p2 &&& (32767 : Int32)))), .unset, .unset, .unset, .unset, .unset, .unset, .unset, .unset, .unset, .unset, .unset, .unset, .unset, .unset, .unset, .unset]) rfl ?_
    show Steps p.tables e below (s₁.setTop (mkF m 17 #[.val (.int p1), .val (.int p2), .val (.int p3), .val (.int p4), .val (.int (p1 &&& (32767 : Int32))), .val (.int ((32768 : Int32) + (p2 &&& (32767 : Int32)))), .unset, .unset, .unset, .unset, .unset, .unset, .unset, .unset, .unset, .unset, .unset, .unset, .unset, .unset, .unset, .unset] [])) _
    refine X0.ldcInt hx hown (mvT hZ (hw _ (List.mem_of_getElem? (i := 1) rfl))) (g := (mkF m 17 #[.val (.int p1), .val (.int p2), .val (.int p3), .val (.int p4), .val (.int (p1 &&& (32767 : Int32))), .val (.int ((32768 : Int32) + (p2 &&& (32767 : Int32)))), .unset, .unset, .unset, .unset, .unset, .unset, .unset, .unset, .unset, .unset, .unset, .unset, .unset, .unset, .unset, .unset] [])) rfl (hb hby at_17) _ ?_
    show Steps p.tables e below (s₁.setTop (mkF m 19 #[.val (.int p1), .val (.int p2), .val (.int p3), .val (.int p4), .val (.int (p1 &&& (32767 : Int32))), .val (.int ((32768 : Int32) + (p2 &&& (32767 : Int32)))), .unset, .unset, .unset, .unset, .unset, .unset, .unset, .unset, .unset, .unset, .unset, .unset, .unset, .unset, .unset, .unset] [(.int (65536 : Int32))])) _
    refine XS.iloadN X0.here hx rfl (hb hby at_19) rfl ?_
    show Steps p.tables e below (s₁.setTop (mkF m 20 #[.val (.int p1), .val (.int p2), .val (.int p3), .val (.int p4), .val (.int (p1 &&& (32767 : Int32))), .val (.int ((32768 : Int32) + (p2 &&& (32767 : Int32)))), .unset, .unset, .unset, .unset, .unset, .unset, .unset, .unset, .unset, .unset, .unset, .unset, .unset, .unset, .unset, .unset] [(.int p3), (.int (65536 : Int32))])) _
    refine X0.ldcInt hx hown (mvT hZ (hw _ (List.mem_of_getElem? (i := 2) rfl))) (g := (mkF m 20 #[.val (.int p1), .val (.int p2), .val (.int p3), .val (.int p4), .val (.int (p1 &&& (32767 : Int32))), .val (.int ((32768 : Int32) + (p2 &&& (32767 : Int32)))), .unset, .unset, .unset, .unset, .unset, .unset, .unset, .unset, .unset, .unset, .unset, .unset, .unset, .unset, .unset, .unset] [(.int p3), (.int (65536 : Int32))])) rfl (hb hby at_20) _ ?_
    show Steps p.tables e below (s₁.setTop (mkF m 22 #[.val (.int p1), .val (.int p2), .val (.int p3), .val (.int p4), .val (.int (p1 &&& (32767 : Int32))), .val (.int ((32768 : Int32) + (p2 &&& (32767 : Int32)))), .unset, .unset, .unset, .unset, .unset, .unset, .unset, .unset, .unset, .unset, .unset, .unset, .unset, .unset, .unset, .unset] [(.int (1048575 : Int32)), (.int p3), (.int (65536 : Int32))])) _
    refine XS.iand X0.here hx rfl (hb hby at_22) rfl ?_
    show Steps p.tables e below (s₁.setTop (mkF m 23 #[.val (.int p1), .val (.int p2), .val (.int p3), .val (.int p4), .val (.int (p1 &&& (32767 : Int32))), .val (.int ((32768 : Int32) + (p2 &&& (32767 : Int32)))), .unset, .unset, .unset, .unset, .unset, .unset, .unset, .unset, .unset, .unset, .unset, .unset, .unset, .unset, .unset, .unset] [(.int (p3 &&& (1048575 : Int32))), (.int (65536 : Int32))])) _
    refine XS.iadd X0.here hx rfl (hb hby at_23) rfl ?_
    show Steps p.tables e below (s₁.setTop (mkF m 24 #[.val (.int p1), .val (.int p2), .val (.int p3), .val (.int p4), .val (.int (p1 &&& (32767 : Int32))), .val (.int ((32768 : Int32) + (p2 &&& (32767 : Int32)))), .unset, .unset, .unset, .unset, .unset, .unset, .unset, .unset, .unset, .unset, .unset, .unset, .unset, .unset, .unset, .unset] [(.int ((65536 : Int32) + (p3 &&& (1048575 : Int32))))])) _
    refine XS.istore X0.here hx rfl (hb hby at_24) rfl (l' := #[.val (.int p1), .val (.int p2), .val (.int p3), .val (.int p4), .val (.int (p1 &&& (32767 : Int32))), .val (.int ((32768 : Int32) + (p2 &&& (32767 : Int32)))), .val (.int ((65536 : Int32) + (p3 &&& (1048575 : Int32)))), .unset, .unset, .unset, .unset, .unset, .unset, .unset, .unset, .unset, .unset, .unset, .unset, .unset, .unset, .unset]) rfl ?_
    show Steps p.tables e below (s₁.setTop (mkF m 26 #[.val (.int p1), .val (.int p2), .val (.int p3), .val (.int p4), .val (.int (p1 &&& (32767 : Int32))), .val (.int ((32768 : Int32) + (p2 &&& (32767 : Int32)))), .val (.int ((65536 : Int32) + (p3 &&& (1048575 : Int32)))), .unset, .unset, .unset, .unset, .unset, .unset, .unset, .unset, .unset, .unset, .unset, .unset, .unset, .unset, .unset] [])) _
    refine XS.iloadN X0.here hx rfl (hb hby at_26) rfl ?_
    show Steps p.tables e below (s₁.setTop (mkF m 27 #[.val (.int p1), .val (.int p2), .val (.int p3), .val (.int p4), .val (.int (p1 &&& (32767 : Int32))), .val (.int ((32768 : Int32) + (p2 &&& (32767 : Int32)))), .val (.int ((65536 : Int32) + (p3 &&& (1048575 : Int32)))), .unset, .unset, .unset, .unset, .unset, .unset, .unset, .unset, .unset, .unset, .unset, .unset, .unset, .unset, .unset] [(.int p4)])) _
    refine XS.iconst X0.here hx rfl (hb hby at_27) ?_
    show Steps p.tables e below (s₁.setTop (mkF m 28 #[.val (.int p1), .val (.int p2), .val (.int p3), .val (.int p4), .val (.int (p1 &&& (32767 : Int32))), .val (.int ((32768 : Int32) + (p2 &&& (32767 : Int32)))), .val (.int ((65536 : Int32) + (p3 &&& (1048575 : Int32)))), .unset, .unset, .unset, .unset, .unset, .unset, .unset, .unset, .unset, .unset, .unset, .unset, .unset, .unset, .unset] [(.int (3 : Int32)), (.int p4)])) _
    refine XS.iand X0.here hx rfl (hb hby at_28) rfl ?_
    show Steps p.tables e below (s₁.setTop (mkF m 29 #[.val (.int p1), .val (.int p2), .val (.int p3), .val (.int p4), .val (.int (p1 &&& (32767 : Int32))), .val (.int ((32768 : Int32) + (p2 &&& (32767 : Int32)))), .val (.int ((65536 : Int32) + (p3 &&& (1048575 : Int32)))), .unset, .unset, .unset, .unset, .unset, .unset, .unset, .unset, .unset, .unset, .unset, .unset, .unset, .unset, .unset] [(.int (p4 &&& (3 : Int32)))])) _
    refine XS.istore X0.here hx rfl (hb hby at_29) rfl (l' := #[.val (.int p1), .val (.int p2), .val (.int p3), .val (.int p4), .val (.int (p1 &&& (32767 : Int32))), .val (.int ((32768 : Int32) + (p2 &&& (32767 : Int32)))), .val (.int ((65536 : Int32) + (p3 &&& (1048575 : Int32)))), .val (.int (p4 &&& (3 : Int32))), .unset, .unset, .unset, .unset, .unset, .unset, .unset, .unset, .unset, .unset, .unset, .unset, .unset, .unset]) rfl ?_
    show Steps p.tables e below (s₁.setTop (mkF m 31 #[.val (.int p1), .val (.int p2), .val (.int p3), .val (.int p4), .val (.int (p1 &&& (32767 : Int32))), .val (.int ((32768 : Int32) + (p2 &&& (32767 : Int32)))), .val (.int ((65536 : Int32) + (p3 &&& (1048575 : Int32)))), .val (.int (p4 &&& (3 : Int32))), .unset, .unset, .unset, .unset, .unset, .unset, .unset, .unset, .unset, .unset, .unset, .unset, .unset, .unset] [])) _
    refine XS.iloadN X0.here hx rfl (hb hby at_31) rfl ?_
    show Steps p.tables e below (s₁.setTop (mkF m 32 #[.val (.int p1), .val (.int p2), .val (.int p3), .val (.int p4), .val (.int (p1 &&& (32767 : Int32))), .val (.int ((32768 : Int32) + (p2 &&& (32767 : Int32)))), .val (.int ((65536 : Int32) + (p3 &&& (1048575 : Int32)))), .val (.int (p4 &&& (3 : Int32))), .unset, .unset, .unset, .unset, .unset, .unset, .unset, .unset, .unset, .unset, .unset, .unset, .unset, .unset] [(.int p4)])) _
    refine XS.iconst X0.here hx rfl (hb hby at_32) ?_
    show Steps p.tables e below (s₁.setTop (mkF m 33 #[.val (.int p1), .val (.int p2), .val (.int p3), .val (.int p4), .val (.int (p1 &&& (32767 : Int32))), .val (.int ((32768 : Int32) + (p2 &&& (32767 : Int32)))), .val (.int ((65536 : Int32) + (p3 &&& (1048575 : Int32)))), .val (.int (p4 &&& (3 : Int32))), .unset, .unset, .unset, .unset, .unset, .unset, .unset, .unset, .unset, .unset, .unset, .unset, .unset, .unset] [(.int (2 : Int32)), (.int p4)])) _
    refine XS.iushr X0.here hx rfl (hb hby at_33) rfl ?_
    show Steps p.tables e below (s₁.setTop (mkF m 34 #[.val (.int p1), .val (.int p2), .val (.int p3), .val (.int p4), .val (.int (p1 &&& (32767 : Int32))), .val (.int ((32768 : Int32) + (p2 &&& (32767 : Int32)))), .val (.int ((65536 : Int32) + (p3 &&& (1048575 : Int32)))), .val (.int (p4 &&& (3 : Int32))), .unset, .unset, .unset, .unset, .unset, .unset, .unset, .unset, .unset, .unset, .unset, .unset, .unset, .unset] [(.int ((p4.toUInt32 >>> ((2 : Int32) &&& 31).toUInt32).toInt32))])) _
    refine XS.iconst X0.here hx rfl (hb hby at_34) ?_
    show Steps p.tables e below (s₁.setTop (mkF m 35 #[.val (.int p1), .val (.int p2), .val (.int p3), .val (.int p4), .val (.int (p1 &&& (32767 : Int32))), .val (.int ((32768 : Int32) + (p2 &&& (32767 : Int32)))), .val (.int ((65536 : Int32) + (p3 &&& (1048575 : Int32)))), .val (.int (p4 &&& (3 : Int32))), .unset, .unset, .unset, .unset, .unset, .unset, .unset, .unset, .unset, .unset, .unset, .unset, .unset, .unset] [(.int (1 : Int32)), (.int ((p4.toUInt32 >>> ((2 : Int32) &&& 31).toUInt32).toInt32))])) _
    refine XS.iand X0.here hx rfl (hb hby at_35) rfl ?_
    show Steps p.tables e below (s₁.setTop (mkF m 36 #[.val (.int p1), .val (.int p2), .val (.int p3), .val (.int p4), .val (.int (p1 &&& (32767 : Int32))), .val (.int ((32768 : Int32) + (p2 &&& (32767 : Int32)))), .val (.int ((65536 : Int32) + (p3 &&& (1048575 : Int32)))), .val (.int (p4 &&& (3 : Int32))), .unset, .unset, .unset, .unset, .unset, .unset, .unset, .unset, .unset, .unset, .unset, .unset, .unset, .unset] [(.int (((p4.toUInt32 >>> ((2 : Int32) &&& 31).toUInt32).toInt32) &&& (1 : Int32)))])) _
    refine XS.istore X0.here hx rfl (hb hby at_36) rfl (l' := #[.val (.int p1), .val (.int p2), .val (.int p3), .val (.int p4), .val (.int (p1 &&& (32767 : Int32))), .val (.int ((32768 : Int32) + (p2 &&& (32767 : Int32)))), .val (.int ((65536 : Int32) + (p3 &&& (1048575 : Int32)))), .val (.int (p4 &&& (3 : Int32))), .val (.int (((p4.toUInt32 >>> ((2 : Int32) &&& 31).toUInt32).toInt32) &&& (1 : Int32))), .unset, .unset, .unset, .unset, .unset, .unset, .unset, .unset, .unset, .unset, .unset, .unset, .unset]) rfl ?_
    show Steps p.tables e below (s₁.setTop (mkF m 38 #[.val (.int p1), .val (.int p2), .val (.int p3), .val (.int p4), .val (.int (p1 &&& (32767 : Int32))), .val (.int ((32768 : Int32) + (p2 &&& (32767 : Int32)))), .val (.int ((65536 : Int32) + (p3 &&& (1048575 : Int32)))), .val (.int (p4 &&& (3 : Int32))), .val (.int (((p4.toUInt32 >>> ((2 : Int32) &&& 31).toUInt32).toInt32) &&& (1 : Int32))), .unset, .unset, .unset, .unset, .unset, .unset, .unset, .unset, .unset, .unset, .unset, .unset, .unset] [])) _
    refine XS.iloadN X0.here hx rfl (hb hby at_38) rfl ?_
    show Steps p.tables e below (s₁.setTop (mkF m 39 #[.val (.int p1), .val (.int p2), .val (.int p3), .val (.int p4), .val (.int (p1 &&& (32767 : Int32))), .val (.int ((32768 : Int32) + (p2 &&& (32767 : Int32)))), .val (.int ((65536 : Int32) + (p3 &&& (1048575 : Int32)))), .val (.int (p4 &&& (3 : Int32))), .val (.int (((p4.toUInt32 >>> ((2 : Int32) &&& 31).toUInt32).toInt32) &&& (1 : Int32))), .unset, .unset, .unset, .unset, .unset, .unset, .unset, .unset, .unset, .unset, .unset, .unset, .unset] [(.int p4)])) _
    refine XS.iconst X0.here hx rfl (hb hby at_39) ?_
    show Steps p.tables e below (s₁.setTop (mkF m 40 #[.val (.int p1), .val (.int p2), .val (.int p3), .val (.int p4), .val (.int (p1 &&& (32767 : Int32))), .val (.int ((32768 : Int32) + (p2 &&& (32767 : Int32)))), .val (.int ((65536 : Int32) + (p3 &&& (1048575 : Int32)))), .val (.int (p4 &&& (3 : Int32))), .val (.int (((p4.toUInt32 >>> ((2 : Int32) &&& 31).toUInt32).toInt32) &&& (1 : Int32))), .unset, .unset, .unset, .unset, .unset, .unset, .unset, .unset, .unset, .unset, .unset, .unset, .unset] [(.int (3 : Int32)), (.int p4)])) _
    refine XS.iushr X0.here hx rfl (hb hby at_40) rfl ?_
    show Steps p.tables e below (s₁.setTop (mkF m 41 #[.val (.int p1), .val (.int p2), .val (.int p3), .val (.int p4), .val (.int (p1 &&& (32767 : Int32))), .val (.int ((32768 : Int32) + (p2 &&& (32767 : Int32)))), .val (.int ((65536 : Int32) + (p3 &&& (1048575 : Int32)))), .val (.int (p4 &&& (3 : Int32))), .val (.int (((p4.toUInt32 >>> ((2 : Int32) &&& 31).toUInt32).toInt32) &&& (1 : Int32))), .unset, .unset, .unset, .unset, .unset, .unset, .unset, .unset, .unset, .unset, .unset, .unset, .unset] [(.int ((p4.toUInt32 >>> ((3 : Int32) &&& 31).toUInt32).toInt32))])) _
    refine XS.iconst X0.here hx rfl (hb hby at_41) ?_
    show Steps p.tables e below (s₁.setTop (mkF m 42 #[.val (.int p1), .val (.int p2), .val (.int p3), .val (.int p4), .val (.int (p1 &&& (32767 : Int32))), .val (.int ((32768 : Int32) + (p2 &&& (32767 : Int32)))), .val (.int ((65536 : Int32) + (p3 &&& (1048575 : Int32)))), .val (.int (p4 &&& (3 : Int32))), .val (.int (((p4.toUInt32 >>> ((2 : Int32) &&& 31).toUInt32).toInt32) &&& (1 : Int32))), .unset, .unset, .unset, .unset, .unset, .unset, .unset, .unset, .unset, .unset, .unset, .unset, .unset] [(.int (1 : Int32)), (.int ((p4.toUInt32 >>> ((3 : Int32) &&& 31).toUInt32).toInt32))])) _
    refine XS.iand X0.here hx rfl (hb hby at_42) rfl ?_
    show Steps p.tables e below (s₁.setTop (mkF m 43 #[.val (.int p1), .val (.int p2), .val (.int p3), .val (.int p4), .val (.int (p1 &&& (32767 : Int32))), .val (.int ((32768 : Int32) + (p2 &&& (32767 : Int32)))), .val (.int ((65536 : Int32) + (p3 &&& (1048575 : Int32)))), .val (.int (p4 &&& (3 : Int32))), .val (.int (((p4.toUInt32 >>> ((2 : Int32) &&& 31).toUInt32).toInt32) &&& (1 : Int32))), .unset, .unset, .unset, .unset, .unset, .unset, .unset, .unset, .unset, .unset, .unset, .unset, .unset] [(.int (((p4.toUInt32 >>> ((3 : Int32) &&& 31).toUInt32).toInt32) &&& (1 : Int32)))])) _
    refine XS.istore X0.here hx rfl (hb hby at_43) rfl (l' := #[.val (.int p1), .val (.int p2), .val (.int p3), .val (.int p4), .val (.int (p1 &&& (32767 : Int32))), .val (.int ((32768 : Int32) + (p2 &&& (32767 : Int32)))), .val (.int ((65536 : Int32) + (p3 &&& (1048575 : Int32)))), .val (.int (p4 &&& (3 : Int32))), .val (.int (((p4.toUInt32 >>> ((2 : Int32) &&& 31).toUInt32).toInt32) &&& (1 : Int32))), .val (.int (((p4.toUInt32 >>> ((3 : Int32) &&& 31).toUInt32).toInt32) &&& (1 : Int32))), .unset, .unset, .unset, .unset, .unset, .unset, .unset, .unset, .unset, .unset, .unset, .unset]) rfl ?_
    show Steps p.tables e below (s₁.setTop (mkF m 45 #[.val (.int p1), .val (.int p2), .val (.int p3), .val (.int p4), .val (.int (p1 &&& (32767 : Int32))), .val (.int ((32768 : Int32) + (p2 &&& (32767 : Int32)))), .val (.int ((65536 : Int32) + (p3 &&& (1048575 : Int32)))), .val (.int (p4 &&& (3 : Int32))), .val (.int (((p4.toUInt32 >>> ((2 : Int32) &&& 31).toUInt32).toInt32) &&& (1 : Int32))), .val (.int (((p4.toUInt32 >>> ((3 : Int32) &&& 31).toUInt32).toInt32) &&& (1 : Int32))), .unset, .unset, .unset, .unset, .unset, .unset, .unset, .unset, .unset, .unset, .unset, .unset] [])) _
    refine XS.iconst X0.here hx rfl (hb hby at_45) ?_
    show Steps p.tables e below (s₁.setTop (mkF m 46 #[.val (.int p1), .val (.int p2), .val (.int p3), .val (.int p4), .val (.int (p1 &&& (32767 : Int32))), .val (.int ((32768 : Int32) + (p2 &&& (32767 : Int32)))), .val (.int ((65536 : Int32) + (p3 &&& (1048575 : Int32)))), .val (.int (p4 &&& (3 : Int32))), .val (.int (((p4.toUInt32 >>> ((2 : Int32) &&& 31).toUInt32).toInt32) &&& (1 : Int32))), .val (.int (((p4.toUInt32 >>> ((3 : Int32) &&& 31).toUInt32).toInt32) &&& (1 : Int32))), .unset, .unset, .unset, .unset, .unset, .unset, .unset, .unset, .unset, .unset, .unset, .unset] [(.int (3 : Int32))])) _
    refine XS.iload X0.here hx rfl (hb hby at_46) rfl ?_
    show Steps p.tables e below (s₁.setTop (mkF m 48 #[.val (.int p1), .val (.int p2), .val (.int p3), .val (.int p4), .val (.int (p1 &&& (32767 : Int32))), .val (.int ((32768 : Int32) + (p2 &&& (32767 : Int32)))), .val (.int ((65536 : Int32) + (p3 &&& (1048575 : Int32)))), .val (.int (p4 &&& (3 : Int32))), .val (.int (((p4.toUInt32 >>> ((2 : Int32) &&& 31).toUInt32).toInt32) &&& (1 : Int32))), .val (.int (((p4.toUInt32 >>> ((3 : Int32) &&& 31).toUInt32).toInt32) &&& (1 : Int32))), .unset, .unset, .unset, .unset, .unset, .unset, .unset, .unset, .unset, .unset, .unset, .unset] [(.int (p4 &&& (3 : Int32))), (.int (3 : Int32))])) _
    refine XS.isub X0.here hx rfl (hb hby at_48) rfl ?_
    show Steps p.tables e below (s₁.setTop (mkF m 49 #[.val (.int p1), .val (.int p2), .val (.int p3), .val (.int p4), .val (.int (p1 &&& (32767 : Int32))), .val (.int ((32768 : Int32) + (p2 &&& (32767 : Int32)))), .val (.int ((65536 : Int32) + (p3 &&& (1048575 : Int32)))), .val (.int (p4 &&& (3 : Int32))), .val (.int (((p4.toUInt32 >>> ((2 : Int32) &&& 31).toUInt32).toInt32) &&& (1 : Int32))), .val (.int (((p4.toUInt32 >>> ((3 : Int32) &&& 31).toUInt32).toInt32) &&& (1 : Int32))), .unset, .unset, .unset, .unset, .unset, .unset, .unset, .unset, .unset, .unset, .unset, .unset] [(.int ((3 : Int32) - (p4 &&& (3 : Int32))))])) _
    refine XS.istore X0.here hx rfl (hb hby at_49) rfl (l' := #[.val (.int p1), .val (.int p2), .val (.int p3), .val (.int p4), .val (.int (p1 &&& (32767 : Int32))), .val (.int ((32768 : Int32) + (p2 &&& (32767 : Int32)))), .val (.int ((65536 : Int32) + (p3 &&& (1048575 : Int32)))), .val (.int (p4 &&& (3 : Int32))), .val (.int (((p4.toUInt32 >>> ((2 : Int32) &&& 31).toUInt32).toInt32) &&& (1 : Int32))), .val (.int (((p4.toUInt32 >>> ((3 : Int32) &&& 31).toUInt32).toInt32) &&& (1 : Int32))), .val (.int ((3 : Int32) - (p4 &&& (3 : Int32)))), .unset, .unset, .unset, .unset, .unset, .unset, .unset, .unset, .unset, .unset, .unset]) rfl ?_
    show Steps p.tables e below (s₁.setTop (mkF m 51 #[.val (.int p1), .val (.int p2), .val (.int p3), .val (.int p4), .val (.int (p1 &&& (32767 : Int32))), .val (.int ((32768 : Int32) + (p2 &&& (32767 : Int32)))), .val (.int ((65536 : Int32) + (p3 &&& (1048575 : Int32)))), .val (.int (p4 &&& (3 : Int32))), .val (.int (((p4.toUInt32 >>> ((2 : Int32) &&& 31).toUInt32).toInt32) &&& (1 : Int32))), .val (.int (((p4.toUInt32 >>> ((3 : Int32) &&& 31).toUInt32).toInt32) &&& (1 : Int32))), .val (.int ((3 : Int32) - (p4 &&& (3 : Int32)))), .unset, .unset, .unset, .unset, .unset, .unset, .unset, .unset, .unset, .unset, .unset] [])) _
    refine XS.iload X0.here hx rfl (hb hby at_51) rfl ?_
    show Steps p.tables e below (s₁.setTop (mkF m 53 #[.val (.int p1), .val (.int p2), .val (.int p3), .val (.int p4), .val (.int (p1 &&& (32767 : Int32))), .val (.int ((32768 : Int32) + (p2 &&& (32767 : Int32)))), .val (.int ((65536 : Int32) + (p3 &&& (1048575 : Int32)))), .val (.int (p4 &&& (3 : Int32))), .val (.int (((p4.toUInt32 >>> ((2 : Int32) &&& 31).toUInt32).toInt32) &&& (1 : Int32))), .val (.int (((p4.toUInt32 >>> ((3 : Int32) &&& 31).toUInt32).toInt32) &&& (1 : Int32))), .val (.int ((3 : Int32) - (p4 &&& (3 : Int32)))), .unset, .unset, .unset, .unset, .unset, .unset, .unset, .unset, .unset, .unset, .unset] [(.int (((p4.toUInt32 >>> ((2 : Int32) &&& 31).toUInt32).toInt32) &&& (1 : Int32)))])) _
    refine XS.iload X0.here hx rfl (hb hby at_53) rfl ?_
    show Steps p.tables e below (s₁.setTop (mkF m 55 #[.val (.int p1), .val (.int p2), .val (.int p3), .val (.int p4), .val (.int (p1 &&& (32767 : Int32))), .val (.int ((32768 : Int32) + (p2 &&& (32767 : Int32)))), .val (.int ((65536 : Int32) + (p3 &&& (1048575 : Int32)))), .val (.int (p4 &&& (3 : Int32))), .val (.int (((p4.toUInt32 >>> ((2 : Int32) &&& 31).toUInt32).toInt32) &&& (1 : Int32))), .val (.int (((p4.toUInt32 >>> ((3 : Int32) &&& 31).toUInt32).toInt32) &&& (1 : Int32))), .val (.int ((3 : Int32) - (p4 &&& (3 : Int32)))), .unset, .unset, .unset, .unset, .unset, .unset, .unset, .unset, .unset, .unset, .unset] [(.int (p4 &&& (3 : Int32))), (.int (((p4.toUInt32 >>> ((2 : Int32) &&& 31).toUInt32).toInt32) &&& (1 : Int32)))])) _
    refine XS.iadd X0.here hx rfl (hb hby at_55) rfl ?_
    show Steps p.tables e below (s₁.setTop (mkF m 56 #[.val (.int p1), .val (.int p2), .val (.int p3), .val (.int p4), .val (.int (p1 &&& (32767 : Int32))), .val (.int ((32768 : Int32) + (p2 &&& (32767 : Int32)))), .val (.int ((65536 : Int32) + (p3 &&& (1048575 : Int32)))), .val (.int (p4 &&& (3 : Int32))), .val (.int (((p4.toUInt32 >>> ((2 : Int32) &&& 31).toUInt32).toInt32) &&& (1 : Int32))), .val (.int (((p4.toUInt32 >>> ((3 : Int32) &&& 31).toUInt32).toInt32) &&& (1 : Int32))), .val (.int ((3 : Int32) - (p4 &&& (3 : Int32)))), .unset, .unset, .unset, .unset, .unset, .unset, .unset, .unset, .unset, .unset, .unset] [(.int ((((p4.toUInt32 >>> ((2 : Int32) &&& 31).toUInt32).toInt32) &&& (1 : Int32)) + (p4 &&& (3 : Int32))))])) _
    refine XS.istore X0.here hx rfl (hb hby at_56) rfl (l' := #[.val (.int p1), .val (.int p2), .val (.int p3), .val (.int p4), .val (.int (p1 &&& (32767 : Int32))), .val (.int ((32768 : Int32) + (p2 &&& (32767 : Int32)))), .val (.int ((65536 : Int32) + (p3 &&& (1048575 : Int32)))), .val (.int (p4 &&& (3 : Int32))), .val (.int (((p4.toUInt32 >>> ((2 : Int32) &&& 31).toUInt32).toInt32) &&& (1 : Int32))), .val (.int (((p4.toUInt32 >>> ((3 : Int32) &&& 31).toUInt32).toInt32) &&& (1 : Int32))), .val (.int ((3 : Int32) - (p4 &&& (3 : Int32)))), .val (.int ((((p4.toUInt32 >>> ((2 : Int32) &&& 31).toUInt32).toInt32) &&& (1 : Int32)) + (p4 &&& (3 : Int32)))), .unset, .unset, .unset, .unset, .unset, .unset, .unset, .unset, .unset, .unset]) rfl ?_
    exact k)
  obtain ⟨T2, h2, k2, X2, e2, E2, A2, st2⟩ := newP X0 hx hZ (hw _ (List.mem_of_getElem? (i := 3) rfl)) e0 (g := (mkF m 59 #[.val (.int p1), .val (.int p2), .val (.int p3), .val (.int p4), .val (.int l0), .val (.int l1), .val (.int l2), .val (.int n1), .val (.int c1), .val (.int c2), .val (.int n2), .val (.int k1), .unset, .unset, .unset, .unset, .unset, .unset, .unset, .unset, .unset, .unset] [(.int (4 : Int32))])) rfl (hb hby at_59) rfl (by decide) (cap := 4) (by decide) (by decide) (by decide) (by decide)
  obtain ⟨bF, g2⟩ : ∃ z, z = h0.size := ⟨_, rfl⟩
  rw [← g2] at A2 st2
  have g_bF : n0 ≤ bF := Nat.le_trans Z0 (Nat.le_of_eq g2.symm)
  have Z2 : n0 ≤ h2.size := Nat.le_trans Z0 E2.1
  have V_bF : AL Z h2 bF .int (List.replicate 4 (.int (0 : Int32))) := AL.new A2 (by decide) rfl rfl
  obtain ⟨T3, h3, L3, X3, N3, e3, W3, VbF_3, st3⟩ := own_stI X2 hx hZ e2 V_bF N0 g_bF (by decide) (Nat.le_of_ble_eq_true rfl) (g := (mkF m 64 #[.val (.int p1), .val (.int p2), .val (.int p3), .val (.int p4), .val (.int l0), .val (.int l1), .val (.int l2), .val (.int n1), .val (.int c1), .val (.int c2), .val (.int n2), .val (.int k1), .unset, .unset, .unset, .unset, .unset, .unset, .unset, .unset, .unset, .unset] [(.int (0 : Int32)), (.int (0 : Int32)), (.ref bF), (.ref bF)])) rfl rfl (hb hby at_64)
  have Z3 : n0 ≤ h3.size := W3.size.symm ▸ Z2
  obtain ⟨T4, h4, L4, X4, N4, e4, W4, VbF_4, st4⟩ := own_stI X3 hx hZ e3 VbF_3 N3 g_bF (by decide) (Nat.le_of_ble_eq_true rfl) (g := (mkF m 68 #[.val (.int p1), .val (.int p2), .val (.int p3), .val (.int p4), .val (.int l0), .val (.int l1), .val (.int l2), .val (.int n1), .val (.int c1), .val (.int c2), .val (.int n2), .val (.int k1), .unset, .unset, .unset, .unset, .unset, .unset, .unset, .unset, .unset, .unset] [(.int (0 : Int32)), (.int (1 : Int32)), (.ref bF), (.ref bF)])) rfl rfl (hb hby at_68)
  have Z4 : n0 ≤ h4.size := W4.size.symm ▸ Z3
  obtain ⟨T5, h5, L5, X5, N5, e5, W5, VbF_5, st5⟩ := own_stI X4 hx hZ e4 VbF_4 N4 g_bF (by decide) (Nat.le_of_ble_eq_true rfl) (g := (mkF m 73 #[.val (.int p1), .val (.int p2), .val (.int p3), .val (.int p4), .val (.int l0), .val (.int l1), .val (.int l2), .val (.int n1), .val (.int c1), .val (.int c2), .val (.int n2), .val (.int k1), .unset, .unset, .unset, .unset, .unset, .unset, .unset, .unset, .unset, .unset] [(.int n1), (.int (2 : Int32)), (.ref bF), (.ref bF)])) rfl rfl (hb hby at_73)
  have Z5 : n0 ≤ h5.size := W5.size.symm ▸ Z4
  obtain ⟨T6, h6, L6, X6, N6, e6, W6, VbF_6, st6⟩ := own_stI X5 hx hZ e5 VbF_5 N5 g_bF (by decide) (Nat.le_of_ble_eq_true rfl) (g := (mkF m 77 #[.val (.int p1), .val (.int p2), .val (.int p3), .val (.int p4), .val (.int l0), .val (.int l1), .val (.int l2), .val (.int n1), .val (.int c1), .val (.int c2), .val (.int n2), .val (.int k1), .unset, .unset, .unset, .unset, .unset, .unset, .unset, .unset, .unset, .unset] [(.int (3 : Int32)), (.int (3 : Int32)), (.ref bF), (.ref bF)])) rfl rfl (hb hby at_77)
  have Z6 : n0 ≤ h6.size := W6.size.symm ▸ Z5
  have V_bF' : AL Z h6 bF .int [.int (0 : Int32), .int (0 : Int32), .int n1, .int (3 : Int32)] := VbF_6
  obtain ⟨T7, h7, k7, X7, e7, E7, A7, st7⟩ := newP X6 hx hZ (hw _ (List.mem_of_getElem? (i := 4) rfl)) e6 (g := (mkF m 81 #[.val (.int p1), .val (.int p2), .val (.int p3), .val (.int p4), .val (.int l0), .val (.int l1), .val (.int l2), .val (.int n1), .val (.int c1), .val (.int c2), .val (.int n2), .val (.int k1), .val (.ref bF), .unset, .unset, .unset, .unset, .unset, .unset, .unset, .unset, .unset] [(.int (3 : Int32))])) rfl (hb hby at_81) rfl (by decide) (cap := 3) (by decide) (by decide) (by decide) (by decide)
  obtain ⟨bA, g7⟩ : ∃ z, z = h6.size := ⟨_, rfl⟩
  rw [← g7] at A7 st7
  have g_bA : n0 ≤ bA := Nat.le_trans Z6 (Nat.le_of_eq g7.symm)
  have ne_bF_bA : bF ≠ bA := Nat.ne_of_lt (Nat.lt_of_lt_of_le V_bF'.lt (Nat.le_of_eq g7.symm))
  have V_bF'_e7 := V_bF'.ext E7
  have Z7 : n0 ≤ h7.size := Nat.le_trans Z6 E7.1
  have V_bA : AL Z h7 bA .boolean (List.replicate 3 (.int (0 : Int32))) := AL.new A7 (by decide) rfl rfl
  obtain ⟨T8, h8, L8, X8, N8, e8, W8, VbA_8, st8⟩ := own_stZ X7 hx hZ e7 V_bA N6 g_bA (by decide) (Nat.le_of_ble_eq_true rfl) (g := (mkF m 86 #[.val (.int p1), .val (.int p2), .val (.int p3), .val (.int p4), .val (.int l0), .val (.int l1), .val (.int l2), .val (.int n1), .val (.int c1), .val (.int c2), .val (.int n2), .val (.int k1), .val (.ref bF), .unset, .unset, .unset, .unset, .unset, .unset, .unset, .unset, .unset] [(.int (1 : Int32)), (.int (0 : Int32)), (.ref bA), (.ref bA)])) rfl rfl (hb hby at_86)
  have V_bF'_e8 := V_bF'_e7.other W8 ne_bF_bA
  have Z8 : n0 ≤ h8.size := W8.size.symm ▸ Z7
  have pre9 : ∀ t, Steps p.tables e below (T8.setTop (mkF m 89 #[.val (.int p1), .val (.int p2), .val (.int p3), .val (.int p4), .val (.int l0), .val (.int l1), .val (.int l2), .val (.int n1), .val (.int c1), .val (.int c2), .val (.int n2), .val (.int k1), .val (.ref bF), .unset, .unset, .unset, .unset, .unset, .unset, .unset, .unset, .unset] [(.int (1 : Int32)), (.ref bA), (.ref bA)])) t → Steps p.tables e below (s₁.setTop (entryFrame m #[(.int p1), (.int p2), (.int p3), (.int p4)] maxLocals)) t := fun t k => pre1 t (by
    show Steps p.tables e below (s₁.setTop (mkF m 58 #[.val (.int p1), .val (.int p2), .val (.int p3), .val (.int p4), .val (.int l0), .val (.int l1), .val (.int l2), .val (.int n1), .val (.int c1), .val (.int c2), .val (.int n2), .val (.int k1), .unset, .unset, .unset, .unset, .unset, .unset, .unset, .unset, .unset, .unset] [])) _
    refine XS.iconst X0.here hx rfl (hb hby at_58) ?_
    show Steps p.tables e below (s₁.setTop (mkF m 59 #[.val (.int p1), .val (.int p2), .val (.int p3), .val (.int p4), .val (.int l0), .val (.int l1), .val (.int l2), .val (.int n1), .val (.int c1), .val (.int c2), .val (.int n2), .val (.int k1), .unset, .unset, .unset, .unset, .unset, .unset, .unset, .unset, .unset, .unset] [(.int (4 : Int32))])) _
    refine st2 _ ?_
    show Steps p.tables e below (T2.setTop (mkF m 61 #[.val (.int p1), .val (.int p2), .val (.int p3), .val (.int p4), .val (.int l0), .val (.int l1), .val (.int l2), .val (.int n1), .val (.int c1), .val (.int c2), .val (.int n2), .val (.int k1), .unset, .unset, .unset, .unset, .unset, .unset, .unset, .unset, .unset, .unset] [(.ref bF)])) _
    refine XS.dup X2.here hx rfl (hb hby at_61) rfl rfl ?_
    show Steps p.tables e below (T2.setTop (mkF m 62 #[.val (.int p1), .val (.int p2), .val (.int p3), .val (.int p4), .val (.int l0), .val (.int l1), .val (.int l2), .val (.int n1), .val (.int c1), .val (.int c2), .val (.int n2), .val (.int k1), .unset, .unset, .unset, .unset, .unset, .unset, .unset, .unset, .unset, .unset] [(.ref bF), (.ref bF)])) _
    refine XS.iconst X2.here hx rfl (hb hby at_62) ?_
    show Steps p.tables e below (T2.setTop (mkF m 63 #[.val (.int p1), .val (.int p2), .val (.int p3), .val (.int p4), .val (.int l0), .val (.int l1), .val (.int l2), .val (.int n1), .val (.int c1), .val (.int c2), .val (.int n2), .val (.int k1), .unset, .unset, .unset, .unset, .unset, .unset, .unset, .unset, .unset, .unset] [(.int (0 : Int32)), (.ref bF), (.ref bF)])) _
    refine XS.iconst X2.here hx rfl (hb hby at_63) ?_
    show Steps p.tables e below (T2.setTop (mkF m 64 #[.val (.int p1), .val (.int p2), .val (.int p3), .val (.int p4), .val (.int l0), .val (.int l1), .val (.int l2), .val (.int n1), .val (.int c1), .val (.int c2), .val (.int n2), .val (.int k1), .unset, .unset, .unset, .unset, .unset, .unset, .unset, .unset, .unset, .unset] [(.int (0 : Int32)), (.int (0 : Int32)), (.ref bF), (.ref bF)])) _
    refine st3 _ ?_
    show Steps p.tables e below (T3.setTop (mkF m 65 #[.val (.int p1), .val (.int p2), .val (.int p3), .val (.int p4), .val (.int l0), .val (.int l1), .val (.int l2), .val (.int n1), .val (.int c1), .val (.int c2), .val (.int n2), .val (.int k1), .unset, .unset, .unset, .unset, .unset, .unset, .unset, .unset, .unset, .unset] [(.ref bF)])) _
    refine XS.dup X3.here hx rfl (hb hby at_65) rfl rfl ?_
    show Steps p.tables e below (T3.setTop (mkF m 66 #[.val (.int p1), .val (.int p2), .val (.int p3), .val (.int p4), .val (.int l0), .val (.int l1), .val (.int l2), .val (.int n1), .val (.int c1), .val (.int c2), .val (.int n2), .val (.int k1), .unset, .unset, .unset, .unset, .unset, .unset, .unset, .unset, .unset, .unset] [(.ref bF), (.ref bF)])) _
    refine XS.iconst X3.here hx rfl (hb hby at_66) ?_
    show Steps p.tables e below (T3.setTop (mkF m 67 #[.val (.int p1), .val (.int p2), .val (.int p3), .val (.int p4), .val (.int l0), .val (.int l1), .val (.int l2), .val (.int n1), .val (.int c1), .val (.int c2), .val (.int n2), .val (.int k1), .unset, .unset, .unset, .unset, .unset, .unset, .unset, .unset, .unset, .unset] [(.int (1 : Int32)), (.ref bF), (.ref bF)])) _
    refine XS.iconst X3.here hx rfl (hb hby at_67) ?_
    show Steps p.tables e below (T3.setTop (mkF m 68 #[.val (.int p1), .val (.int p2), .val (.int p3), .val (.int p4), .val (.int l0), .val (.int l1), .val (.int l2), .val (.int n1), .val (.int c1), .val (.int c2), .val (.int n2), .val (.int k1), .unset, .unset, .unset, .unset, .unset, .unset, .unset, .unset, .unset, .unset] [(.int (0 : Int32)), (.int (1 : Int32)), (.ref bF), (.ref bF)])) _
    refine st4 _ ?_
    show Steps p.tables e below (T4.setTop (mkF m 69 #[.val (.int p1), .val (.int p2), .val (.int p3), .val (.int p4), .val (.int l0), .val (.int l1), .val (.int l2), .val (.int n1), .val (.int c1), .val (.int c2), .val (.int n2), .val (.int k1), .unset, .unset, .unset, .unset, .unset, .unset, .unset, .unset, .unset, .unset] [(.ref bF)])) _
    refine XS.dup X4.here hx rfl (hb hby at_69) rfl rfl ?_
    show Steps p.tables e below (T4.setTop (mkF m 70 #[.val (.int p1), .val (.int p2), .val (.int p3), .val (.int p4), .val (.int l0), .val (.int l1), .val (.int l2), .val (.int n1), .val (.int c1), .val (.int c2), .val (.int n2), .val (.int k1), .unset, .unset, .unset, .unset, .unset, .unset, .unset, .unset, .unset, .unset] [(.ref bF), (.ref bF)])) _
    refine XS.iconst X4.here hx rfl (hb hby at_70) ?_
    show Steps p.tables e below (T4.setTop (mkF m 71 #[.val (.int p1), .val (.int p2), .val (.int p3), .val (.int p4), .val (.int l0), .val (.int l1), .val (.int l2), .val (.int n1), .val (.int c1), .val (.int c2), .val (.int n2), .val (.int k1), .unset, .unset, .unset, .unset, .unset, .unset, .unset, .unset, .unset, .unset] [(.int (2 : Int32)), (.ref bF), (.ref bF)])) _
    refine XS.iload X4.here hx rfl (hb hby at_71) rfl ?_
    show Steps p.tables e below (T4.setTop (mkF m 73 #[.val (.int p1), .val (.int p2), .val (.int p3), .val (.int p4), .val (.int l0), .val (.int l1), .val (.int l2), .val (.int n1), .val (.int c1), .val (.int c2), .val (.int n2), .val (.int k1), .unset, .unset, .unset, .unset, .unset, .unset, .unset, .unset, .unset, .unset] [(.int n1), (.int (2 : Int32)), (.ref bF), (.ref bF)])) _
    refine st5 _ ?_
    show Steps p.tables e below (T5.setTop (mkF m 74 #[.val (.int p1), .val (.int p2), .val (.int p3), .val (.int p4), .val (.int l0), .val (.int l1), .val (.int l2), .val (.int n1), .val (.int c1), .val (.int c2), .val (.int n2), .val (.int k1), .unset, .unset, .unset, .unset, .unset, .unset, .unset, .unset, .unset, .unset] [(.ref bF)])) _
    refine XS.dup X5.here hx rfl (hb hby at_74) rfl rfl ?_
    show Steps p.tables e below (T5.setTop (mkF m 75 #[.val (.int p1), .val (.int p2), .val (.int p3), .val (.int p4), .val (.int l0), .val (.int l1), .val (.int l2), .val (.int n1), .val (.int c1), .val (.int c2), .val (.int n2), .val (.int k1), .unset, .unset, .unset, .unset, .unset, .unset, .unset, .unset, .unset, .unset] [(.ref bF), (.ref bF)])) _
    refine XS.iconst X5.here hx rfl (hb hby at_75) ?_
    show Steps p.tables e below (T5.setTop (mkF m 76 #[.val (.int p1), .val (.int p2), .val (.int p3), .val (.int p4), .val (.int l0), .val (.int l1), .val (.int l2), .val (.int n1), .val (.int c1), .val (.int c2), .val (.int n2), .val (.int k1), .unset, .unset, .unset, .unset, .unset, .unset, .unset, .unset, .unset, .unset] [(.int (3 : Int32)), (.ref bF), (.ref bF)])) _
    refine XS.iconst X5.here hx rfl (hb hby at_76) ?_
    show Steps p.tables e below (T5.setTop (mkF m 77 #[.val (.int p1), .val (.int p2), .val (.int p3), .val (.int p4), .val (.int l0), .val (.int l1), .val (.int l2), .val (.int n1), .val (.int c1), .val (.int c2), .val (.int n2), .val (.int k1), .unset, .unset, .unset, .unset, .unset, .unset, .unset, .unset, .unset, .unset] [(.int (3 : Int32)), (.int (3 : Int32)), (.ref bF), (.ref bF)])) _
    refine st6 _ ?_
    show Steps p.tables e below (T6.setTop (mkF m 78 #[.val (.int p1), .val (.int p2), .val (.int p3), .val (.int p4), .val (.int l0), .val (.int l1), .val (.int l2), .val (.int n1), .val (.int c1), .val (.int c2), .val (.int n2), .val (.int k1), .unset, .unset, .unset, .unset, .unset, .unset, .unset, .unset, .unset, .unset] [(.ref bF)])) _
    refine XS.astore X6.here hx rfl (hb hby at_78) rfl rfl (l' := #[.val (.int p1), .val (.int p2), .val (.int p3), .val (.int p4), .val (.int l0), .val (.int l1), .val (.int l2), .val (.int n1), .val (.int c1), .val (.int c2), .val (.int n2), .val (.int k1), .val (.ref bF), .unset, .unset, .unset, .unset, .unset, .unset, .unset, .unset, .unset]) rfl ?_
    show Steps p.tables e below (T6.setTop (mkF m 80 #[.val (.int p1), .val (.int p2), .val (.int p3), .val (.int p4), .val (.int l0), .val (.int l1), .val (.int l2), .val (.int n1), .val (.int c1), .val (.int c2), .val (.int n2), .val (.int k1), .val (.ref bF), .unset, .unset, .unset, .unset, .unset, .unset, .unset, .unset, .unset] [])) _
    refine XS.iconst X6.here hx rfl (hb hby at_80) ?_
    show Steps p.tables e below (T6.setTop (mkF m 81 #[.val (.int p1), .val (.int p2), .val (.int p3), .val (.int p4), .val (.int l0), .val (.int l1), .val (.int l2), .val (.int n1), .val (.int c1), .val (.int c2), .val (.int n2), .val (.int k1), .val (.ref bF), .unset, .unset, .unset, .unset, .unset, .unset, .unset, .unset, .unset] [(.int (3 : Int32))])) _
    refine st7 _ ?_
    show Steps p.tables e below (T7.setTop (mkF m 83 #[.val (.int p1), .val (.int p2), .val (.int p3), .val (.int p4), .val (.int l0), .val (.int l1), .val (.int l2), .val (.int n1), .val (.int c1), .val (.int c2), .val (.int n2), .val (.int k1), .val (.ref bF), .unset, .unset, .unset, .unset, .unset, .unset, .unset, .unset, .unset] [(.ref bA)])) _
    refine XS.dup X7.here hx rfl (hb hby at_83) rfl rfl ?_
    show Steps p.tables e below (T7.setTop (mkF m 84 #[.val (.int p1), .val (.int p2), .val (.int p3), .val (.int p4), .val (.int l0), .val (.int l1), .val (.int l2), .val (.int n1), .val (.int c1), .val (.int c2), .val (.int n2), .val (.int k1), .val (.ref bF), .unset, .unset, .unset, .unset, .unset, .unset, .unset, .unset, .unset] [(.ref bA), (.ref bA)])) _
    refine XS.iconst X7.here hx rfl (hb hby at_84) ?_
    show Steps p.tables e below (T7.setTop (mkF m 85 #[.val (.int p1), .val (.int p2), .val (.int p3), .val (.int p4), .val (.int l0), .val (.int l1), .val (.int l2), .val (.int n1), .val (.int c1), .val (.int c2), .val (.int n2), .val (.int k1), .val (.ref bF), .unset, .unset, .unset, .unset, .unset, .unset, .unset, .unset, .unset] [(.int (0 : Int32)), (.ref bA), (.ref bA)])) _
    refine XS.iconst X7.here hx rfl (hb hby at_85) ?_
    show Steps p.tables e below (T7.setTop (mkF m 86 #[.val (.int p1), .val (.int p2), .val (.int p3), .val (.int p4), .val (.int l0), .val (.int l1), .val (.int l2), .val (.int n1), .val (.int c1), .val (.int c2), .val (.int n2), .val (.int k1), .val (.ref bF), .unset, .unset, .unset, .unset, .unset, .unset, .unset, .unset, .unset] [(.int (1 : Int32)), (.int (0 : Int32)), (.ref bA), (.ref bA)])) _
    refine st8 _ ?_
    show Steps p.tables e below (T8.setTop (mkF m 87 #[.val (.int p1), .val (.int p2), .val (.int p3), .val (.int p4), .val (.int l0), .val (.int l1), .val (.int l2), .val (.int n1), .val (.int c1), .val (.int c2), .val (.int n2), .val (.int k1), .val (.ref bF), .unset, .unset, .unset, .unset, .unset, .unset, .unset, .unset, .unset] [(.ref bA)])) _
    refine XS.dup X8.here hx rfl (hb hby at_87) rfl rfl ?_
    show Steps p.tables e below (T8.setTop (mkF m 88 #[.val (.int p1), .val (.int p2), .val (.int p3), .val (.int p4), .val (.int l0), .val (.int l1), .val (.int l2), .val (.int n1), .val (.int c1), .val (.int c2), .val (.int n2), .val (.int k1), .val (.ref bF), .unset, .unset, .unset, .unset, .unset, .unset, .unset, .unset, .unset] [(.ref bA), (.ref bA)])) _
    refine XS.iconst X8.here hx rfl (hb hby at_88) ?_
    exact k)
  obtain ⟨z1, h_z1⟩ : ∃ z : Int32, z = if c1 = (1 : Int32) then (1 : Int32) else (0 : Int32) := ⟨_, rfl⟩
  have pre10 : ∀ t, Steps p.tables e below (T8.setTop (mkF m 100 #[.val (.int p1), .val (.int p2), .val (.int p3), .val (.int p4), .val (.int l0), .val (.int l1), .val (.int l2), .val (.int n1), .val (.int c1), .val (.int c2), .val (.int n2), .val (.int k1), .val (.ref bF), .unset, .unset, .unset, .unset, .unset, .unset, .unset, .unset, .unset] [(.int z1), (.int (1 : Int32)), (.ref bA), (.ref bA)])) t → Steps p.tables e below (s₁.setTop (entryFrame m #[(.int p1), (.int p2), (.int p3), (.int p4)] maxLocals)) t := fun t k => pre9 t (by
    by_cases h1 : c1 = (1 : Int32)
    · have ev_z1 : z1 = (1 : Int32) := h_z1.trans (if_pos h1)
      rw [ev_z1] at k
      show Steps p.tables e below (T8.setTop (mkF m 89 #[.val (.int p1), .val (.int p2), .val (.int p3), .val (.int p4), .val (.int l0), .val (.int l1), .val (.int l2), .val (.int n1), .val (.int c1), .val (.int c2), .val (.int n2), .val (.int k1), .val (.ref bF), .unset, .unset, .unset, .unset, .unset, .unset, .unset, .unset, .unset] [(.int (1 : Int32)), (.ref bA), (.ref bA)])) _
      refine XS.iload X8.here hx rfl (hb hby at_89) rfl ?_
      show Steps p.tables e below (T8.setTop (mkF m 91 #[.val (.int p1), .val (.int p2), .val (.int p3), .val (.int p4), .val (.int l0), .val (.int l1), .val (.int l2), .val (.int n1), .val (.int c1), .val (.int c2), .val (.int n2), .val (.int k1), .val (.ref bF), .unset, .unset, .unset, .unset, .unset, .unset, .unset, .unset, .unset] [(.int c1), (.int (1 : Int32)), (.ref bA), (.ref bA)])) _
      refine XS.iconst X8.here hx rfl (hb hby at_91) ?_
      show Steps p.tables e below (T8.setTop (mkF m 92 #[.val (.int p1), .val (.int p2), .val (.int p3), .val (.int p4), .val (.int l0), .val (.int l1), .val (.int l2), .val (.int n1), .val (.int c1), .val (.int c2), .val (.int n2), .val (.int k1), .val (.ref bF), .unset, .unset, .unset, .unset, .unset, .unset, .unset, .unset, .unset] [(.int (1 : Int32)), (.int c1), (.int (1 : Int32)), (.ref bA), (.ref bA)])) _
      refine XS.icmpNo X8.here hx rfl (hb hby at_92) rfl (teq (h1 : c1 = (1 : Int32))).2 ?_
      show Steps p.tables e below (T8.setTop (mkF m 95 #[.val (.int p1), .val (.int p2), .val (.int p3), .val (.int p4), .val (.int l0), .val (.int l1), .val (.int l2), .val (.int n1), .val (.int c1), .val (.int c2), .val (.int n2), .val (.int k1), .val (.ref bF), .unset, .unset, .unset, .unset, .unset, .unset, .unset, .unset, .unset] [(.int (1 : Int32)), (.ref bA), (.ref bA)])) _
      refine XS.iconst X8.here hx rfl (hb hby at_95) ?_
      show Steps p.tables e below (T8.setTop (mkF m 96 #[.val (.int p1), .val (.int p2), .val (.int p3), .val (.int p4), .val (.int l0), .val (.int l1), .val (.int l2), .val (.int n1), .val (.int c1), .val (.int c2), .val (.int n2), .val (.int k1), .val (.ref bF), .unset, .unset, .unset, .unset, .unset, .unset, .unset, .unset, .unset] [(.int (1 : Int32)), (.int (1 : Int32)), (.ref bA), (.ref bA)])) _
      refine XS.goto X8.here hx rfl (pc0 := 96) (pc' := 100) rfl (hb hby at_96) (by decide) (by decide) ?_
      exact k
    · have ev_z1 : z1 = (0 : Int32) := h_z1.trans (if_neg h1)
      rw [ev_z1] at k
      show Steps p.tables e below (T8.setTop (mkF m 89 #[.val (.int p1), .val (.int p2), .val (.int p3), .val (.int p4), .val (.int l0), .val (.int l1), .val (.int l2), .val (.int n1), .val (.int c1), .val (.int c2), .val (.int n2), .val (.int k1), .val (.ref bF), .unset, .unset, .unset, .unset, .unset, .unset, .unset, .unset, .unset] [(.int (1 : Int32)), (.ref bA), (.ref bA)])) _
      refine XS.iload X8.here hx rfl (hb hby at_89) rfl ?_
      show Steps p.tables e below (T8.setTop (mkF m 91 #[.val (.int p1), .val (.int p2), .val (.int p3), .val (.int p4), .val (.int l0), .val (.int l1), .val (.int l2), .val (.int n1), .val (.int c1), .val (.int c2), .val (.int n2), .val (.int k1), .val (.ref bF), .unset, .unset, .unset, .unset, .unset, .unset, .unset, .unset, .unset] [(.int c1), (.int (1 : Int32)), (.ref bA), (.ref bA)])) _
      refine XS.iconst X8.here hx rfl (hb hby at_91) ?_
      show Steps p.tables e below (T8.setTop (mkF m 92 #[.val (.int p1), .val (.int p2), .val (.int p3), .val (.int p4), .val (.int l0), .val (.int l1), .val (.int l2), .val (.int n1), .val (.int c1), .val (.int c2), .val (.int n2), .val (.int k1), .val (.ref bF), .unset, .unset, .unset, .unset, .unset, .unset, .unset, .unset, .unset] [(.int (1 : Int32)), (.int c1), (.int (1 : Int32)), (.ref bA), (.ref bA)])) _
      refine XS.icmpYes X8.here hx rfl (pc0 := 92) (pc' := 99) rfl (hb hby at_92) rfl (feq (h1 : ¬ (c1 = (1 : Int32)))).2 (by decide) (by decide) ?_
      show Steps p.tables e below (T8.setTop (mkF m 99 #[.val (.int p1), .val (.int p2), .val (.int p3), .val (.int p4), .val (.int l0), .val (.int l1), .val (.int l2), .val (.int n1), .val (.int c1), .val (.int c2), .val (.int n2), .val (.int k1), .val (.ref bF), .unset, .unset, .unset, .unset, .unset, .unset, .unset, .unset, .unset] [(.int (1 : Int32)), (.ref bA), (.ref bA)])) _
      refine XS.iconst X8.here hx rfl (hb hby at_99) ?_
      exact k)
  obtain ⟨T11, h11, L11, X11, N11, e11, W11, VbA_11, st11⟩ := own_stZ X8 hx hZ e8 VbA_8 N8 g_bA (by decide) (Nat.le_of_ble_eq_true rfl) (g := (mkF m 100 #[.val (.int p1), .val (.int p2), .val (.int p3), .val (.int p4), .val (.int l0), .val (.int l1), .val (.int l2), .val (.int n1), .val (.int c1), .val (.int c2), .val (.int n2), .val (.int k1), .val (.ref bF), .unset, .unset, .unset, .unset, .unset, .unset, .unset, .unset, .unset] [(.int z1), (.int (1 : Int32)), (.ref bA), (.ref bA)])) rfl rfl (hb hby at_100)
  have V_bF'_e11 := V_bF'_e8.other W11 ne_bF_bA
  have Z11 : n0 ≤ h11.size := W11.size.symm ▸ Z8
  have pre12 : ∀ t, Steps p.tables e below (T11.setTop (mkF m 103 #[.val (.int p1), .val (.int p2), .val (.int p3), .val (.int p4), .val (.int l0), .val (.int l1), .val (.int l2), .val (.int n1), .val (.int c1), .val (.int c2), .val (.int n2), .val (.int k1), .val (.ref bF), .unset, .unset, .unset, .unset, .unset, .unset, .unset, .unset, .unset] [(.int (2 : Int32)), (.ref bA), (.ref bA)])) t → Steps p.tables e below (s₁.setTop (entryFrame m #[(.int p1), (.int p2), (.int p3), (.int p4)] maxLocals)) t := fun t k => pre10 t (by
    show Steps p.tables e below (T8.setTop (mkF m 100 #[.val (.int p1), .val (.int p2), .val (.int p3), .val (.int p4), .val (.int l0), .val (.int l1), .val (.int l2), .val (.int n1), .val (.int c1), .val (.int c2), .val (.int n2), .val (.int k1), .val (.ref bF), .unset, .unset, .unset, .unset, .unset, .unset, .unset, .unset, .unset] [(.int z1), (.int (1 : Int32)), (.ref bA), (.ref bA)])) _
    refine st11 _ ?_
    show Steps p.tables e below (T11.setTop (mkF m 101 #[.val (.int p1), .val (.int p2), .val (.int p3), .val (.int p4), .val (.int l0), .val (.int l1), .val (.int l2), .val (.int n1), .val (.int c1), .val (.int c2), .val (.int n2), .val (.int k1), .val (.ref bF), .unset, .unset, .unset, .unset, .unset, .unset, .unset, .unset, .unset] [(.ref bA)])) _
    refine XS.dup X11.here hx rfl (hb hby at_101) rfl rfl ?_
    show Steps p.tables e below (T11.setTop (mkF m 102 #[.val (.int p1), .val (.int p2), .val (.int p3), .val (.int p4), .val (.int l0), .val (.int l1), .val (.int l2), .val (.int n1), .val (.int c1), .val (.int c2), .val (.int n2), .val (.int k1), .val (.ref bF), .unset, .unset, .unset, .unset, .unset, .unset, .unset, .unset, .unset] [(.ref bA), (.ref bA)])) _
    refine XS.iconst X11.here hx rfl (hb hby at_102) ?_
    exact k)
  obtain ⟨z2, h_z2⟩ : ∃ z : Int32, z = if c2 = (1 : Int32) then (1 : Int32) else (0 : Int32) := ⟨_, rfl⟩
  have pre13 : ∀ t, Steps p.tables e below (T11.setTop (mkF m 114 #[.val (.int p1), .val (.int p2), .val (.int p3), .val (.int p4), .val (.int l0), .val (.int l1), .val (.int l2), .val (.int n1), .val (.int c1), .val (.int c2), .val (.int n2), .val (.int k1), .val (.ref bF), .unset, .unset, .unset, .unset, .unset, .unset, .unset, .unset, .unset] [(.int z2), (.int (2 : Int32)), (.ref bA), (.ref bA)])) t → Steps p.tables e below (s₁.setTop (entryFrame m #[(.int p1), (.int p2), (.int p3), (.int p4)] maxLocals)) t := fun t k => pre12 t (by
    by_cases h1 : c2 = (1 : Int32)
    · have ev_z2 : z2 = (1 : Int32) := h_z2.trans (if_pos h1)
      rw [ev_z2] at k
      show Steps p.tables e below (T11.setTop (mkF m 103 #[.val (.int p1), .val (.int p2), .val (.int p3), .val (.int p4), .val (.int l0), .val (.int l1), .val (.int l2), .val (.int n1), .val (.int c1), .val (.int c2), .val (.int n2), .val (.int k1), .val (.ref bF), .unset, .unset, .unset, .unset, .unset, .unset, .unset, .unset, .unset] [(.int (2 : Int32)), (.ref bA), (.ref bA)])) _
      refine XS.iload X11.here hx rfl (hb hby at_103) rfl ?_
      show Steps p.tables e below (T11.setTop (mkF m 105 #[.val (.int p1), .val (.int p2), .val (.int p3), .val (.int p4), .val (.int l0), .val (.int l1), .val (.int l2), .val (.int n1), .val (.int c1), .val (.int c2), .val (.int n2), .val (.int k1), .val (.ref bF), .unset, .unset, .unset, .unset, .unset, .unset, .unset, .unset, .unset] [(.int c2), (.int (2 : Int32)), (.ref bA), (.ref bA)])) _
      refine XS.iconst X11.here hx rfl (hb hby at_105) ?_
      show Steps p.tables e below (T11.setTop (mkF m 106 #[.val (.int p1), .val (.int p2), .val (.int p3), .val (.int p4), .val (.int l0), .val (.int l1), .val (.int l2), .val (.int n1), .val (.int c1), .val (.int c2), .val (.int n2), .val (.int k1), .val (.ref bF), .unset, .unset, .unset, .unset, .unset, .unset, .unset, .unset, .unset] [(.int (1 : Int32)), (.int c2), (.int (2 : Int32)), (.ref bA), (.ref bA)])) _
      refine XS.icmpNo X11.here hx rfl (hb hby at_106) rfl (teq (h1 : c2 = (1 : Int32))).2 ?_
      show Steps p.tables e below (T11.setTop (mkF m 109 #[.val (.int p1), .val (.int p2), .val (.int p3), .val (.int p4), .val (.int l0), .val (.int l1), .val (.int l2), .val (.int n1), .val (.int c1), .val (.int c2), .val (.int n2), .val (.int k1), .val (.ref bF), .unset, .unset, .unset, .unset, .unset, .unset, .unset, .unset, .unset] [(.int (2 : Int32)), (.ref bA), (.ref bA)])) _
      refine XS.iconst X11.here hx rfl (hb hby at_109) ?_
      show Steps p.tables e below (T11.setTop (mkF m 110 #[.val (.int p1), .val (.int p2), .val (.int p3), .val (.int p4), .val (.int l0), .val (.int l1), .val (.int l2), .val (.int n1), .val (.int c1), .val (.int c2), .val (.int n2), .val (.int k1), .val (.ref bF), .unset, .unset, .unset, .unset, .unset, .unset, .unset, .unset, .unset] [(.int (1 : Int32)), (.int (2 : Int32)), (.ref bA), (.ref bA)])) _
      refine XS.goto X11.here hx rfl (pc0 := 110) (pc' := 114) rfl (hb hby at_110) (by decide) (by decide) ?_
      exact k
    · have ev_z2 : z2 = (0 : Int32) := h_z2.trans (if_neg h1)
      rw [ev_z2] at k
      show Steps p.tables e below (T11.setTop (mkF m 103 #[.val (.int p1), .val (.int p2), .val (.int p3), .val (.int p4), .val (.int l0), .val (.int l1), .val (.int l2), .val (.int n1), .val (.int c1), .val (.int c2), .val (.int n2), .val (.int k1), .val (.ref bF), .unset, .unset, .unset, .unset, .unset, .unset, .unset, .unset, .unset] [(.int (2 : Int32)), (.ref bA), (.ref bA)])) _
      refine XS.iload X11.here hx rfl (hb hby at_103) rfl ?_
      show Steps p.tables e below (T11.setTop (mkF m 105 #[.val (.int p1), .val (.int p2), .val (.int p3), .val (.int p4), .val (.int l0), .val (.int l1), .val (.int l2), .val (.int n1), .val (.int c1), .val (.int c2), .val (.int n2), .val (.int k1), .val (.ref bF), .unset, .unset, .unset, .unset, .unset, .unset, .unset, .unset, .unset] [(.int c2), (.int (2 : Int32)), (.ref bA), (.ref bA)])) _
      refine XS.iconst X11.here hx rfl (hb hby at_105) ?_
      show Steps p.tables e below (T11.setTop (mkF m 106 #[.val (.int p1), .val (.int p2), .val (.int p3), .val (.int p4), .val (.int l0), .val (.int l1), .val (.int l2), .val (.int n1), .val (.int c1), .val (.int c2), .val (.int n2), .val (.int k1), .val (.ref bF), .unset, .unset, .unset, .unset, .unset, .unset, .unset, .unset, .unset] [(.int (1 : Int32)), (.int c2), (.int (2 : Int32)), (.ref bA), (.ref bA)])) _
      refine XS.icmpYes X11.here hx rfl (pc0 := 106) (pc' := 113) rfl (hb hby at_106) rfl (feq (h1 : ¬ (c2 = (1 : Int32)))).2 (by decide) (by decide) ?_
      show Steps p.tables e below (T11.setTop (mkF m 113 #[.val (.int p1), .val (.int p2), .val (.int p3), .val (.int p4), .val (.int l0), .val (.int l1), .val (.int l2), .val (.int n1), .val (.int c1), .val (.int c2), .val (.int n2), .val (.int k1), .val (.ref bF), .unset, .unset, .unset, .unset, .unset, .unset, .unset, .unset, .unset] [(.int (2 : Int32)), (.ref bA), (.ref bA)])) _
      refine XS.iconst X11.here hx rfl (hb hby at_113) ?_
      exact k)
  obtain ⟨T14, h14, L14, X14, N14, e14, W14, VbA_14, st14⟩ := own_stZ X11 hx hZ e11 VbA_11 N11 g_bA (by decide) (Nat.le_of_ble_eq_true rfl) (g := (mkF m 114 #[.val (.int p1), .val (.int p2), .val (.int p3), .val (.int p4), .val (.int l0), .val (.int l1), .val (.int l2), .val (.int n1), .val (.int c1), .val (.int c2), .val (.int n2), .val (.int k1), .val (.ref bF), .unset, .unset, .unset, .unset, .unset, .unset, .unset, .unset, .unset] [(.int z2), (.int (2 : Int32)), (.ref bA), (.ref bA)])) rfl rfl (hb hby at_114)
  have V_bF'_e14 := V_bF'_e11.other W14 ne_bF_bA
  have Z14 : n0 ≤ h14.size := W14.size.symm ▸ Z11
  obtain ⟨T15, h15, k15, X15, e15, E15, A15, st15⟩ := newP X14 hx hZ (hw _ (List.mem_of_getElem? (i := 3) rfl)) e14 (g := (mkF m 118 #[.val (.int p1), .val (.int p2), .val (.int p3), .val (.int p4), .val (.int l0), .val (.int l1), .val (.int l2), .val (.int n1), .val (.int c1), .val (.int c2), .val (.int n2), .val (.int k1), .val (.ref bF), .val (.ref bA), .unset, .unset, .unset, .unset, .unset, .unset, .unset, .unset] [(.int (3 : Int32))])) rfl (hb hby at_118) rfl (by decide) (cap := 3) (by decide) (by decide) (by decide) (by decide)
  obtain ⟨bL, g15⟩ : ∃ z, z = h14.size := ⟨_, rfl⟩
  rw [← g15] at A15 st15
  have g_bL : n0 ≤ bL := Nat.le_trans Z14 (Nat.le_of_eq g15.symm)
  have ne_bF_bL : bF ≠ bL := Nat.ne_of_lt (Nat.lt_of_lt_of_le V_bF'_e14.lt (Nat.le_of_eq g15.symm))
  have ne_bA_bL : bA ≠ bL := Nat.ne_of_lt (Nat.lt_of_lt_of_le VbA_14.lt (Nat.le_of_eq g15.symm))
  have V_bF'_e15 := V_bF'_e14.ext E15
  have VbA_14_e15 := VbA_14.ext E15
  have Z15 : n0 ≤ h15.size := Nat.le_trans Z14 E15.1
  have V_bL : AL Z h15 bL .int (List.replicate 3 (.int (0 : Int32))) := AL.new A15 (by decide) rfl rfl
  obtain ⟨T16, h16, L16, X16, N16, e16, W16, VbL_16, st16⟩ := own_stI X15 hx hZ e15 V_bL N14 g_bL (by decide) (Nat.le_of_ble_eq_true rfl) (g := (mkF m 124 #[.val (.int p1), .val (.int p2), .val (.int p3), .val (.int p4), .val (.int l0), .val (.int l1), .val (.int l2), .val (.int n1), .val (.int c1), .val (.int c2), .val (.int n2), .val (.int k1), .val (.ref bF), .val (.ref bA), .unset, .unset, .unset, .unset, .unset, .unset, .unset, .unset] [(.int l0), (.int (0 : Int32)), (.ref bL), (.ref bL)])) rfl rfl (hb hby at_124)
  have V_bF'_e16 := V_bF'_e15.other W16 ne_bF_bL
  have VbA_14_e16 := VbA_14_e15.other W16 ne_bA_bL
  have Z16 : n0 ≤ h16.size := W16.size.symm ▸ Z15
  obtain ⟨T17, h17, L17, X17, N17, e17, W17, VbL_17, st17⟩ := own_stI X16 hx hZ e16 VbL_16 N16 g_bL (by decide) (Nat.le_of_ble_eq_true rfl) (g := (mkF m 129 #[.val (.int p1), .val (.int p2), .val (.int p3), .val (.int p4), .val (.int l0), .val (.int l1), .val (.int l2), .val (.int n1), .val (.int c1), .val (.int c2), .val (.int n2), .val (.int k1), .val (.ref bF), .val (.ref bA), .unset, .unset, .unset, .unset, .unset, .unset, .unset, .unset] [(.int l1), (.int (1 : Int32)), (.ref bL), (.ref bL)])) rfl rfl (hb hby at_129)
  have V_bF'_e17 := V_bF'_e16.other W17 ne_bF_bL
  have VbA_14_e17 := VbA_14_e16.other W17 ne_bA_bL
  have Z17 : n0 ≤ h17.size := W17.size.symm ▸ Z16
  obtain ⟨T18, h18, L18, X18, N18, e18, W18, VbL_18, st18⟩ := own_stI X17 hx hZ e17 VbL_17 N17 g_bL (by decide) (Nat.le_of_ble_eq_true rfl) (g := (mkF m 134 #[.val (.int p1), .val (.int p2), .val (.int p3), .val (.int p4), .val (.int l0), .val (.int l1), .val (.int l2), .val (.int n1), .val (.int c1), .val (.int c2), .val (.int n2), .val (.int k1), .val (.ref bF), .val (.ref bA), .unset, .unset, .unset, .unset, .unset, .unset, .unset, .unset] [(.int l2), (.int (2 : Int32)), (.ref bL), (.ref bL)])) rfl rfl (hb hby at_134)
  have V_bF'_e18 := V_bF'_e17.other W18 ne_bF_bL
  have VbA_14_e18 := VbA_14_e17.other W18 ne_bA_bL
  have Z18 : n0 ≤ h18.size := W18.size.symm ▸ Z17
  have V_bL' : AL Z h18 bL .int [.int l0, .int l1, .int l2] := VbL_18
  obtain ⟨T19, h19, k19, X19, e19, E19, A19, st19⟩ := newP X18 hx hZ (hw _ (List.mem_of_getElem? (i := 3) rfl)) e18 (g := (mkF m 138 #[.val (.int p1), .val (.int p2), .val (.int p3), .val (.int p4), .val (.int l0), .val (.int l1), .val (.int l2), .val (.int n1), .val (.int c1), .val (.int c2), .val (.int n2), .val (.int k1), .val (.ref bF), .val (.ref bA), .val (.ref bL), .unset, .unset, .unset, .unset, .unset, .unset, .unset] [(.int (3 : Int32))])) rfl (hb hby at_138) rfl (by decide) (cap := 3) (by decide) (by decide) (by decide) (by decide)
  obtain ⟨bT, g19⟩ : ∃ z, z = h18.size := ⟨_, rfl⟩
  rw [← g19] at A19 st19
  have g_bT : n0 ≤ bT := Nat.le_trans Z18 (Nat.le_of_eq g19.symm)
  have ne_bF_bT : bF ≠ bT := Nat.ne_of_lt (Nat.lt_of_lt_of_le V_bF'_e18.lt (Nat.le_of_eq g19.symm))
  have ne_bA_bT : bA ≠ bT := Nat.ne_of_lt (Nat.lt_of_lt_of_le VbA_14_e18.lt (Nat.le_of_eq g19.symm))
  have ne_bL_bT : bL ≠ bT := Nat.ne_of_lt (Nat.lt_of_lt_of_le V_bL'.lt (Nat.le_of_eq g19.symm))
  have V_bF'_e19 := V_bF'_e18.ext E19
  have VbA_14_e19 := VbA_14_e18.ext E19
  have V_bL'_e19 := V_bL'.ext E19
  have Z19 : n0 ≤ h19.size := Nat.le_trans Z18 E19.1
  have V_bT : AL Z h19 bT .int (List.replicate 3 (.int (0 : Int32))) := AL.new A19 (by decide) rfl rfl
  obtain ⟨_, _, ⟨T20, L20, k20, n20⟩, -, X20, ⟨Lc20, hQ20, l20, y20, z20⟩, st20⟩ := Jvm.LawKit.callS X19 hx (y := (⟨"com/example/othograph/othograph/AutomatonLabelPinLaw", "tgt", "(II)I"⟩ : MethodName)) hown (mvT hZ (hw _ (List.mem_of_getElem? (i := 5) rfl))) (mvT hZ (hw _ (List.mem_of_getElem? (i := 6) rfl))) (mvT hZ (hw _ (List.mem_of_getElem? (i := 7) rfl))) (mvT hZ (hw _ (List.mem_of_getElem? (i := 8) rfl))) (by decide) (backOf (W := 3) (rm1 l Z a0 hw [] (0 : Int32) n1 h19 n0 Z19) hZ (hw _ (List.mem_of_getElem? (i := 8) rfl)) (hw _ (List.mem_of_getElem? (i := 7) rfl)) (by decide) (by decide)) (g := (mkF m 145 #[.val (.int p1), .val (.int p2), .val (.int p3), .val (.int p4), .val (.int l0), .val (.int l1), .val (.int l2), .val (.int n1), .val (.int c1), .val (.int c2), .val (.int n2), .val (.int k1), .val (.ref bF), .val (.ref bA), .val (.ref bL), .unset, .unset, .unset, .unset, .unset, .unset, .unset] [(.int n1), (.int (0 : Int32)), (.int (0 : Int32)), (.ref bT), (.ref bT)])) rfl (by rw [hml]; rfl) (argsL := [(.int (0 : Int32)), (.int n1)]) (rest := [(.int (0 : Int32)), (.ref bT), (.ref bT)]) (lenOf pd_1 rfl) rfl (by show 2 * 0 + _ ≤ _; exact Nat.le_of_eq rfl) (hb hby at_145) (fun _ _ => ⟨rfl, e19, (by decide : 4 + 0 ≤ _), (by decide : 13 + 0 ≤ _)⟩)
  dsimp only [Pt.U, Pt.locs, Pt.cells, Pt.slots] at X20 l20 y20 z20 st20 hQ20
  subst l20 y20 z20
  obtain ⟨⟨t0, rfl⟩, N20q, q20⟩ := hQ20
  have N20 := Fr.app N18 N20q
  have K20 : Keep h19 T20.heap [] := own_kr q20
  have V_bF'_e20 := V_bF'_e19.keep K20 nin0
  have VbA_14_e20 := VbA_14_e19.keep K20 nin0
  have V_bL'_e20 := V_bL'_e19.keep K20 nin0
  have V_bT_e20 := V_bT.keep K20 nin0
  have Z20 : n0 ≤ T20.heap.size := Nat.le_trans Z19 K20.1
  obtain ⟨T21, h21, L21, X21, N21, e21, W21, VbT_21, st21⟩ := own_stI X20 hx hZ rfl V_bT_e20 N20 g_bT (by decide) (Nat.le_of_ble_eq_true rfl) (g := (mkF m 148 #[.val (.int p1), .val (.int p2), .val (.int p3), .val (.int p4), .val (.int l0), .val (.int l1), .val (.int l2), .val (.int n1), .val (.int c1), .val (.int c2), .val (.int n2), .val (.int k1), .val (.ref bF), .val (.ref bA), .val (.ref bL), .unset, .unset, .unset, .unset, .unset, .unset, .unset] [(.int t0), (.int (0 : Int32)), (.ref bT), (.ref bT)])) rfl rfl (hb hby at_148)
  have V_bF'_e21 := V_bF'_e20.other W21 ne_bF_bT
  have VbA_14_e21 := VbA_14_e20.other W21 ne_bA_bT
  have V_bL'_e21 := V_bL'_e20.other W21 ne_bL_bT
  have Z21 : n0 ≤ h21.size := W21.size.symm ▸ Z20
  obtain ⟨_, _, ⟨T22, L22, k22, n22⟩, -, X22, ⟨Lc22, hQ22, l22, y22, z22⟩, st22⟩ := Jvm.LawKit.callS X21 hx (y := (⟨"com/example/othograph/othograph/AutomatonLabelPinLaw", "tgt", "(II)I"⟩ : MethodName)) hown (mvT hZ (hw _ (List.mem_of_getElem? (i := 5) rfl))) (mvT hZ (hw _ (List.mem_of_getElem? (i := 6) rfl))) (mvT hZ (hw _ (List.mem_of_getElem? (i := 7) rfl))) (mvT hZ (hw _ (List.mem_of_getElem? (i := 8) rfl))) (by decide) (backOf (W := 3) (rm1 l Z a0 hw [] (1 : Int32) n1 h21 n0 Z21) hZ (hw _ (List.mem_of_getElem? (i := 8) rfl)) (hw _ (List.mem_of_getElem? (i := 7) rfl)) (by decide) (by decide)) (g := (mkF m 154 #[.val (.int p1), .val (.int p2), .val (.int p3), .val (.int p4), .val (.int l0), .val (.int l1), .val (.int l2), .val (.int n1), .val (.int c1), .val (.int c2), .val (.int n2), .val (.int k1), .val (.ref bF), .val (.ref bA), .val (.ref bL), .unset, .unset, .unset, .unset, .unset, .unset, .unset] [(.int n1), (.int (1 : Int32)), (.int (1 : Int32)), (.ref bT), (.ref bT)])) rfl (by rw [hml]; rfl) (argsL := [(.int (1 : Int32)), (.int n1)]) (rest := [(.int (1 : Int32)), (.ref bT), (.ref bT)]) (lenOf pd_1 rfl) rfl (by show 2 * 0 + _ ≤ _; exact Nat.le_of_eq rfl) (hb hby at_154) (fun _ _ => ⟨rfl, e21, (by decide : 4 + 0 ≤ _), (by decide : 13 + 0 ≤ _)⟩)
  dsimp only [Pt.U, Pt.locs, Pt.cells, Pt.slots] at X22 l22 y22 z22 st22 hQ22
  subst l22 y22 z22
  obtain ⟨⟨t1, rfl⟩, N22q, q22⟩ := hQ22
  have N22 := Fr.app N21 N22q
  have K22 : Keep h21 T22.heap [] := own_kr q22
  have V_bF'_e22 := V_bF'_e21.keep K22 nin0
  have VbA_14_e22 := VbA_14_e21.keep K22 nin0
  have V_bL'_e22 := V_bL'_e21.keep K22 nin0
  have VbT_21_e22 := VbT_21.keep K22 nin0
  have Z22 : n0 ≤ T22.heap.size := Nat.le_trans Z21 K22.1
  obtain ⟨T23, h23, L23, X23, N23, e23, W23, VbT_23, st23⟩ := own_stI X22 hx hZ rfl VbT_21_e22 N22 g_bT (by decide) (Nat.le_of_ble_eq_true rfl) (g := (mkF m 157 #[.val (.int p1), .val (.int p2), .val (.int p3), .val (.int p4), .val (.int l0), .val (.int l1), .val (.int l2), .val (.int n1), .val (.int c1), .val (.int c2), .val (.int n2), .val (.int k1), .val (.ref bF), .val (.ref bA), .val (.ref bL), .unset, .unset, .unset, .unset, .unset, .unset, .unset] [(.int t1), (.int (1 : Int32)), (.ref bT), (.ref bT)])) rfl rfl (hb hby at_157)
  have V_bF'_e23 := V_bF'_e22.other W23 ne_bF_bT
  have VbA_14_e23 := VbA_14_e22.other W23 ne_bA_bT
  have V_bL'_e23 := V_bL'_e22.other W23 ne_bL_bT
  have Z23 : n0 ≤ h23.size := W23.size.symm ▸ Z22
  obtain ⟨_, _, ⟨T24, L24, k24, n24⟩, -, X24, ⟨Lc24, hQ24, l24, y24, z24⟩, st24⟩ := Jvm.LawKit.callS X23 hx (y := (⟨"com/example/othograph/othograph/AutomatonLabelPinLaw", "tgt", "(II)I"⟩ : MethodName)) hown (mvT hZ (hw _ (List.mem_of_getElem? (i := 5) rfl))) (mvT hZ (hw _ (List.mem_of_getElem? (i := 6) rfl))) (mvT hZ (hw _ (List.mem_of_getElem? (i := 7) rfl))) (mvT hZ (hw _ (List.mem_of_getElem? (i := 8) rfl))) (by decide) (backOf (W := 3) (rm1 l Z a0 hw [] (2 : Int32) n1 h23 n0 Z23) hZ (hw _ (List.mem_of_getElem? (i := 8) rfl)) (hw _ (List.mem_of_getElem? (i := 7) rfl)) (by decide) (by decide)) (g := (mkF m 163 #[.val (.int p1), .val (.int p2), .val (.int p3), .val (.int p4), .val (.int l0), .val (.int l1), .val (.int l2), .val (.int n1), .val (.int c1), .val (.int c2), .val (.int n2), .val (.int k1), .val (.ref bF), .val (.ref bA), .val (.ref bL), .unset, .unset, .unset, .unset, .unset, .unset, .unset] [(.int n1), (.int (2 : Int32)), (.int (2 : Int32)), (.ref bT), (.ref bT)])) rfl (by rw [hml]; rfl) (argsL := [(.int (2 : Int32)), (.int n1)]) (rest := [(.int (2 : Int32)), (.ref bT), (.ref bT)]) (lenOf pd_1 rfl) rfl (by show 2 * 0 + _ ≤ _; exact Nat.le_of_eq rfl) (hb hby at_163) (fun _ _ => ⟨rfl, e23, (by decide : 4 + 0 ≤ _), (by decide : 13 + 0 ≤ _)⟩)
  dsimp only [Pt.U, Pt.locs, Pt.cells, Pt.slots] at X24 l24 y24 z24 st24 hQ24
  subst l24 y24 z24
  obtain ⟨⟨t2, rfl⟩, N24q, q24⟩ := hQ24
  have N24 := Fr.app N23 N24q
  have K24 : Keep h23 T24.heap [] := own_kr q24
  have V_bF'_e24 := V_bF'_e23.keep K24 nin0
  have VbA_14_e24 := VbA_14_e23.keep K24 nin0
  have V_bL'_e24 := V_bL'_e23.keep K24 nin0
  have VbT_23_e24 := VbT_23.keep K24 nin0
  have Z24 : n0 ≤ T24.heap.size := Nat.le_trans Z23 K24.1
  obtain ⟨T25, h25, L25, X25, N25, e25, W25, VbT_25, st25⟩ := own_stI X24 hx hZ rfl VbT_23_e24 N24 g_bT (by decide) (Nat.le_of_ble_eq_true rfl) (g := (mkF m 166 #[.val (.int p1), .val (.int p2), .val (.int p3), .val (.int p4), .val (.int l0), .val (.int l1), .val (.int l2), .val (.int n1), .val (.int c1), .val (.int c2), .val (.int n2), .val (.int k1), .val (.ref bF), .val (.ref bA), .val (.ref bL), .unset, .unset, .unset, .unset, .unset, .unset, .unset] [(.int t2), (.int (2 : Int32)), (.ref bT), (.ref bT)])) rfl rfl (hb hby at_166)
  have V_bF'_e25 := V_bF'_e24.other W25 ne_bF_bT
  have VbA_14_e25 := VbA_14_e24.other W25 ne_bA_bT
  have V_bL'_e25 := V_bL'_e24.other W25 ne_bL_bT
  have Z25 : n0 ≤ h25.size := W25.size.symm ▸ Z24
  obtain ⟨T26, h26, k26, X26, e26, E26, A26, st26⟩ := newP X25 hx hZ (hw _ (List.mem_of_getElem? (i := 3) rfl)) e25 (g := (mkF m 170 #[.val (.int p1), .val (.int p2), .val (.int p3), .val (.int p4), .val (.int l0), .val (.int l1), .val (.int l2), .val (.int n1), .val (.int c1), .val (.int c2), .val (.int n2), .val (.int k1), .val (.ref bF), .val (.ref bA), .val (.ref bL), .val (.ref bT), .unset, .unset, .unset, .unset, .unset, .unset] [(.int (3 : Int32))])) rfl (hb hby at_170) rfl (by decide) (cap := 3) (by decide) (by decide) (by decide) (by decide)
  obtain ⟨bO, g26⟩ : ∃ z, z = h25.size := ⟨_, rfl⟩
  rw [← g26] at A26 st26
  have g_bO : n0 ≤ bO := Nat.le_trans Z25 (Nat.le_of_eq g26.symm)
  have ne_bF_bO : bF ≠ bO := Nat.ne_of_lt (Nat.lt_of_lt_of_le V_bF'_e25.lt (Nat.le_of_eq g26.symm))
  have ne_bA_bO : bA ≠ bO := Nat.ne_of_lt (Nat.lt_of_lt_of_le VbA_14_e25.lt (Nat.le_of_eq g26.symm))
  have ne_bL_bO : bL ≠ bO := Nat.ne_of_lt (Nat.lt_of_lt_of_le V_bL'_e25.lt (Nat.le_of_eq g26.symm))
  have ne_bT_bO : bT ≠ bO := Nat.ne_of_lt (Nat.lt_of_lt_of_le VbT_25.lt (Nat.le_of_eq g26.symm))
  have V_bF'_e26 := V_bF'_e25.ext E26
  have VbA_14_e26 := VbA_14_e25.ext E26
  have V_bL'_e26 := V_bL'_e25.ext E26
  have VbT_25_e26 := VbT_25.ext E26
  have Z26 : n0 ≤ h26.size := Nat.le_trans Z25 E26.1
  have V_bO : AL Z h26 bO .int (List.replicate 3 (.int (0 : Int32))) := AL.new A26 (by decide) rfl rfl
  obtain ⟨_, _, ⟨T27, L27, k27, n27⟩, -, X27, ⟨Lc27, hQ27, l27, y27, z27⟩, st27⟩ := Jvm.LawKit.callS X26 hx (y := (⟨"com/example/othograph/othograph/AutomatonLabelPinLaw", "off", "(IIIII)I"⟩ : MethodName)) hown (mvT hZ (hw _ (List.mem_of_getElem? (i := 9) rfl))) (mvT hZ (hw _ (List.mem_of_getElem? (i := 10) rfl))) (mvT hZ (hw _ (List.mem_of_getElem? (i := 7) rfl))) (mvT hZ (hw _ (List.mem_of_getElem? (i := 11) rfl))) (by decide) (backOf (W := 3) (rm2 l Z a0 hw [] (0 : Int32) n1 c1 c2 k1 h26 n0 Z26) hZ (hw _ (List.mem_of_getElem? (i := 11) rfl)) (hw _ (List.mem_of_getElem? (i := 7) rfl)) (by decide) (by decide)) (g := (mkF m 183 #[.val (.int p1), .val (.int p2), .val (.int p3), .val (.int p4), .val (.int l0), .val (.int l1), .val (.int l2), .val (.int n1), .val (.int c1), .val (.int c2), .val (.int n2), .val (.int k1), .val (.ref bF), .val (.ref bA), .val (.ref bL), .val (.ref bT), .unset, .unset, .unset, .unset, .unset, .unset] [(.int k1), (.int c2), (.int c1), (.int n1), (.int (0 : Int32)), (.int (0 : Int32)), (.ref bO), (.ref bO)])) rfl (by rw [hml]; rfl) (argsL := [(.int (0 : Int32)), (.int n1), (.int c1), (.int c2), (.int k1)]) (rest := [(.int (0 : Int32)), (.ref bO), (.ref bO)]) (lenOf pd_2 rfl) rfl (by show 2 * 0 + _ ≤ _; exact Nat.le_of_eq rfl) (hb hby at_183) (fun _ _ => ⟨rfl, e26, (by decide : 5 + 0 ≤ _), (by decide : 16 + 0 ≤ _)⟩)
  dsimp only [Pt.U, Pt.locs, Pt.cells, Pt.slots] at X27 l27 y27 z27 st27 hQ27
  subst l27 y27 z27
  obtain ⟨⟨o0, rfl⟩, N27q, q27⟩ := hQ27
  have N27 := Fr.app N25 N27q
  have K27 : Keep h26 T27.heap [] := own_kr q27
  have V_bF'_e27 := V_bF'_e26.keep K27 nin0
  have VbA_14_e27 := VbA_14_e26.keep K27 nin0
  have V_bL'_e27 := V_bL'_e26.keep K27 nin0
  have VbT_25_e27 := VbT_25_e26.keep K27 nin0
  have V_bO_e27 := V_bO.keep K27 nin0
  have Z27 : n0 ≤ T27.heap.size := Nat.le_trans Z26 K27.1
  obtain ⟨T28, h28, L28, X28, N28, e28, W28, VbO_28, st28⟩ := own_stI X27 hx hZ rfl V_bO_e27 N27 g_bO (by decide) (Nat.le_of_ble_eq_true rfl) (g := (mkF m 186 #[.val (.int p1), .val (.int p2), .val (.int p3), .val (.int p4), .val (.int l0), .val (.int l1), .val (.int l2), .val (.int n1), .val (.int c1), .val (.int c2), .val (.int n2), .val (.int k1), .val (.ref bF), .val (.ref bA), .val (.ref bL), .val (.ref bT), .unset, .unset, .unset, .unset, .unset, .unset] [(.int o0), (.int (0 : Int32)), (.ref bO), (.ref bO)])) rfl rfl (hb hby at_186)
  have V_bF'_e28 := V_bF'_e27.other W28 ne_bF_bO
  have VbA_14_e28 := VbA_14_e27.other W28 ne_bA_bO
  have V_bL'_e28 := V_bL'_e27.other W28 ne_bL_bO
  have VbT_25_e28 := VbT_25_e27.other W28 ne_bT_bO
  have Z28 : n0 ≤ h28.size := W28.size.symm ▸ Z27
  obtain ⟨_, _, ⟨T29, L29, k29, n29⟩, -, X29, ⟨Lc29, hQ29, l29, y29, z29⟩, st29⟩ := Jvm.LawKit.callS X28 hx (y := (⟨"com/example/othograph/othograph/AutomatonLabelPinLaw", "off", "(IIIII)I"⟩ : MethodName)) hown (mvT hZ (hw _ (List.mem_of_getElem? (i := 9) rfl))) (mvT hZ (hw _ (List.mem_of_getElem? (i := 10) rfl))) (mvT hZ (hw _ (List.mem_of_getElem? (i := 7) rfl))) (mvT hZ (hw _ (List.mem_of_getElem? (i := 11) rfl))) (by decide) (backOf (W := 3) (rm2 l Z a0 hw [] (1 : Int32) n1 c1 c2 k1 h28 n0 Z28) hZ (hw _ (List.mem_of_getElem? (i := 11) rfl)) (hw _ (List.mem_of_getElem? (i := 7) rfl)) (by decide) (by decide)) (g := (mkF m 198 #[.val (.int p1), .val (.int p2), .val (.int p3), .val (.int p4), .val (.int l0), .val (.int l1), .val (.int l2), .val (.int n1), .val (.int c1), .val (.int c2), .val (.int n2), .val (.int k1), .val (.ref bF), .val (.ref bA), .val (.ref bL), .val (.ref bT), .unset, .unset, .unset, .unset, .unset, .unset] [(.int k1), (.int c2), (.int c1), (.int n1), (.int (1 : Int32)), (.int (1 : Int32)), (.ref bO), (.ref bO)])) rfl (by rw [hml]; rfl) (argsL := [(.int (1 : Int32)), (.int n1), (.int c1), (.int c2), (.int k1)]) (rest := [(.int (1 : Int32)), (.ref bO), (.ref bO)]) (lenOf pd_2 rfl) rfl (by show 2 * 0 + _ ≤ _; exact Nat.le_of_eq rfl) (hb hby at_198) (fun _ _ => ⟨rfl, e28, (by decide : 5 + 0 ≤ _), (by decide : 16 + 0 ≤ _)⟩)
  dsimp only [Pt.U, Pt.locs, Pt.cells, Pt.slots] at X29 l29 y29 z29 st29 hQ29
  subst l29 y29 z29
  obtain ⟨⟨o1, rfl⟩, N29q, q29⟩ := hQ29
  have N29 := Fr.app N28 N29q
  have K29 : Keep h28 T29.heap [] := own_kr q29
  have V_bF'_e29 := V_bF'_e28.keep K29 nin0
  have VbA_14_e29 := VbA_14_e28.keep K29 nin0
  have V_bL'_e29 := V_bL'_e28.keep K29 nin0
  have VbT_25_e29 := VbT_25_e28.keep K29 nin0
  have VbO_28_e29 := VbO_28.keep K29 nin0
  have Z29 : n0 ≤ T29.heap.size := Nat.le_trans Z28 K29.1
  obtain ⟨T30, h30, L30, X30, N30, e30, W30, VbO_30, st30⟩ := own_stI X29 hx hZ rfl VbO_28_e29 N29 g_bO (by decide) (Nat.le_of_ble_eq_true rfl) (g := (mkF m 201 #[.val (.int p1), .val (.int p2), .val (.int p3), .val (.int p4), .val (.int l0), .val (.int l1), .val (.int l2), .val (.int n1), .val (.int c1), .val (.int c2), .val (.int n2), .val (.int k1), .val (.ref bF), .val (.ref bA), .val (.ref bL), .val (.ref bT), .unset, .unset, .unset, .unset, .unset, .unset] [(.int o1), (.int (1 : Int32)), (.ref bO), (.ref bO)])) rfl rfl (hb hby at_201)
  have V_bF'_e30 := V_bF'_e29.other W30 ne_bF_bO
  have VbA_14_e30 := VbA_14_e29.other W30 ne_bA_bO
  have V_bL'_e30 := V_bL'_e29.other W30 ne_bL_bO
  have VbT_25_e30 := VbT_25_e29.other W30 ne_bT_bO
  have Z30 : n0 ≤ h30.size := W30.size.symm ▸ Z29
  obtain ⟨_, _, ⟨T31, L31, k31, n31⟩, -, X31, ⟨Lc31, hQ31, l31, y31, z31⟩, st31⟩ := Jvm.LawKit.callS X30 hx (y := (⟨"com/example/othograph/othograph/AutomatonLabelPinLaw", "off", "(IIIII)I"⟩ : MethodName)) hown (mvT hZ (hw _ (List.mem_of_getElem? (i := 9) rfl))) (mvT hZ (hw _ (List.mem_of_getElem? (i := 10) rfl))) (mvT hZ (hw _ (List.mem_of_getElem? (i := 7) rfl))) (mvT hZ (hw _ (List.mem_of_getElem? (i := 11) rfl))) (by decide) (backOf (W := 3) (rm2 l Z a0 hw [] (2 : Int32) n1 c1 c2 k1 h30 n0 Z30) hZ (hw _ (List.mem_of_getElem? (i := 11) rfl)) (hw _ (List.mem_of_getElem? (i := 7) rfl)) (by decide) (by decide)) (g := (mkF m 213 #[.val (.int p1), .val (.int p2), .val (.int p3), .val (.int p4), .val (.int l0), .val (.int l1), .val (.int l2), .val (.int n1), .val (.int c1), .val (.int c2), .val (.int n2), .val (.int k1), .val (.ref bF), .val (.ref bA), .val (.ref bL), .val (.ref bT), .unset, .unset, .unset, .unset, .unset, .unset] [(.int k1), (.int c2), (.int c1), (.int n1), (.int (2 : Int32)), (.int (2 : Int32)), (.ref bO), (.ref bO)])) rfl (by rw [hml]; rfl) (argsL := [(.int (2 : Int32)), (.int n1), (.int c1), (.int c2), (.int k1)]) (rest := [(.int (2 : Int32)), (.ref bO), (.ref bO)]) (lenOf pd_2 rfl) rfl (by show 2 * 0 + _ ≤ _; exact Nat.le_of_eq rfl) (hb hby at_213) (fun _ _ => ⟨rfl, e30, (by decide : 5 + 0 ≤ _), (by decide : 16 + 0 ≤ _)⟩)
  dsimp only [Pt.U, Pt.locs, Pt.cells, Pt.slots] at X31 l31 y31 z31 st31 hQ31
  subst l31 y31 z31
  obtain ⟨⟨o2, rfl⟩, N31q, q31⟩ := hQ31
  have N31 := Fr.app N30 N31q
  have K31 : Keep h30 T31.heap [] := own_kr q31
  have V_bF'_e31 := V_bF'_e30.keep K31 nin0
  have VbA_14_e31 := VbA_14_e30.keep K31 nin0
  have V_bL'_e31 := V_bL'_e30.keep K31 nin0
  have VbT_25_e31 := VbT_25_e30.keep K31 nin0
  have VbO_30_e31 := VbO_30.keep K31 nin0
  have Z31 : n0 ≤ T31.heap.size := Nat.le_trans Z30 K31.1
  obtain ⟨T32, h32, L32, X32, N32, e32, W32, VbO_32, st32⟩ := own_stI X31 hx hZ rfl VbO_30_e31 N31 g_bO (by decide) (Nat.le_of_ble_eq_true rfl) (g := (mkF m 216 #[.val (.int p1), .val (.int p2), .val (.int p3), .val (.int p4), .val (.int l0), .val (.int l1), .val (.int l2), .val (.int n1), .val (.int c1), .val (.int c2), .val (.int n2), .val (.int k1), .val (.ref bF), .val (.ref bA), .val (.ref bL), .val (.ref bT), .unset, .unset, .unset, .unset, .unset, .unset] [(.int o2), (.int (2 : Int32)), (.ref bO), (.ref bO)])) rfl rfl (hb hby at_216)
  have V_bF'_e32 := V_bF'_e31.other W32 ne_bF_bO
  have VbA_14_e32 := VbA_14_e31.other W32 ne_bA_bO
  have V_bL'_e32 := V_bL'_e31.other W32 ne_bL_bO
  have VbT_25_e32 := VbT_25_e31.other W32 ne_bT_bO
  have Z32 : n0 ≤ h32.size := W32.size.symm ▸ Z31
  have pre33 : ∀ t, Steps p.tables e below (T32.setTop (mkF m 219 #[.val (.int p1), .val (.int p2), .val (.int p3), .val (.int p4), .val (.int l0), .val (.int l1), .val (.int l2), .val (.int n1), .val (.int c1), .val (.int c2), .val (.int n2), .val (.int k1), .val (.ref bF), .val (.ref bA), .val (.ref bL), .val (.ref bT), .val (.ref bO), .unset, .unset, .unset, .unset, .unset] [])) t → Steps p.tables e below (s₁.setTop (entryFrame m #[(.int p1), (.int p2), (.int p3), (.int p4)] maxLocals)) t := fun t k => pre13 t (by
    show Steps p.tables e below (T11.setTop (mkF m 114 #[.val (.int p1), .val (.int p2), .val (.int p3), .val (.int p4), .val (.int l0), .val (.int l1), .val (.int l2), .val (.int n1), .val (.int c1), .val (.int c2), .val (.int n2), .val (.int k1), .val (.ref bF), .unset, .unset, .unset, .unset, .unset, .unset, .unset, .unset, .unset] [(.int z2), (.int (2 : Int32)), (.ref bA), (.ref bA)])) _
    refine st14 _ ?_
    show Steps p.tables e below (T14.setTop (mkF m 115 #[.val (.int p1), .val (.int p2), .val (.int p3), .val (.int p4), .val (.int l0), .val (.int l1), .val (.int l2), .val (.int n1), .val (.int c1), .val (.int c2), .val (.int n2), .val (.int k1), .val (.ref bF), .unset, .unset, .unset, .unset, .unset, .unset, .unset, .unset, .unset] [(.ref bA)])) _
    refine XS.astore X14.here hx rfl (hb hby at_115) rfl rfl (l' := #[.val (.int p1), .val (.int p2), .val (.int p3), .val (.int p4), .val (.int l0), .val (.int l1), .val (.int l2), .val (.int n1), .val (.int c1), .val (.int c2), .val (.int n2), .val (.int k1), .val (.ref bF), .val (.ref bA), .unset, .unset, .unset, .unset, .unset, .unset, .unset, .unset]) rfl ?_
    show Steps p.tables e below (T14.setTop (mkF m 117 #[.val (.int p1), .val (.int p2), .val (.int p3), .val (.int p4), .val (.int l0), .val (.int l1), .val (.int l2), .val (.int n1), .val (.int c1), .val (.int c2), .val (.int n2), .val (.int k1), .val (.ref bF), .val (.ref bA), .unset, .unset, .unset, .unset, .unset, .unset, .unset, .unset] [])) _
    refine XS.iconst X14.here hx rfl (hb hby at_117) ?_
    show Steps p.tables e below (T14.setTop (mkF m 118 #[.val (.int p1), .val (.int p2), .val (.int p3), .val (.int p4), .val (.int l0), .val (.int l1), .val (.int l2), .val (.int n1), .val (.int c1), .val (.int c2), .val (.int n2), .val (.int k1), .val (.ref bF), .val (.ref bA), .unset, .unset, .unset, .unset, .unset, .unset, .unset, .unset] [(.int (3 : Int32))])) _
    refine st15 _ ?_
    show Steps p.tables e below (T15.setTop (mkF m 120 #[.val (.int p1), .val (.int p2), .val (.int p3), .val (.int p4), .val (.int l0), .val (.int l1), .val (.int l2), .val (.int n1), .val (.int c1), .val (.int c2), .val (.int n2), .val (.int k1), .val (.ref bF), .val (.ref bA), .unset, .unset, .unset, .unset, .unset, .unset, .unset, .unset] [(.ref bL)])) _
    refine XS.dup X15.here hx rfl (hb hby at_120) rfl rfl ?_
    show Steps p.tables e below (T15.setTop (mkF m 121 #[.val (.int p1), .val (.int p2), .val (.int p3), .val (.int p4), .val (.int l0), .val (.int l1), .val (.int l2), .val (.int n1), .val (.int c1), .val (.int c2), .val (.int n2), .val (.int k1), .val (.ref bF), .val (.ref bA), .unset, .unset, .unset, .unset, .unset, .unset, .unset, .unset] [(.ref bL), (.ref bL)])) _
    refine XS.iconst X15.here hx rfl (hb hby at_121) ?_
    show Steps p.tables e below (T15.setTop (mkF m 122 #[.val (.int p1), .val (.int p2), .val (.int p3), .val (.int p4), .val (.int l0), .val (.int l1), .val (.int l2), .val (.int n1), .val (.int c1), .val (.int c2), .val (.int n2), .val (.int k1), .val (.ref bF), .val (.ref bA), .unset, .unset, .unset, .unset, .unset, .unset, .unset, .unset] [(.int (0 : Int32)), (.ref bL), (.ref bL)])) _
    refine XS.iload X15.here hx rfl (hb hby at_122) rfl ?_
    show Steps p.tables e below (T15.setTop (mkF m 124 #[.val (.int p1), .val (.int p2), .val (.int p3), .val (.int p4), .val (.int l0), .val (.int l1), .val (.int l2), .val (.int n1), .val (.int c1), .val (.int c2), .val (.int n2), .val (.int k1), .val (.ref bF), .val (.ref bA), .unset, .unset, .unset, .unset, .unset, .unset, .unset, .unset] [(.int l0), (.int (0 : Int32)), (.ref bL), (.ref bL)])) _
    refine st16 _ ?_
    show Steps p.tables e below (T16.setTop (mkF m 125 #[.val (.int p1), .val (.int p2), .val (.int p3), .val (.int p4), .val (.int l0), .val (.int l1), .val (.int l2), .val (.int n1), .val (.int c1), .val (.int c2), .val (.int n2), .val (.int k1), .val (.ref bF), .val (.ref bA), .unset, .unset, .unset, .unset, .unset, .unset, .unset, .unset] [(.ref bL)])) _
    refine XS.dup X16.here hx rfl (hb hby at_125) rfl rfl ?_
    show Steps p.tables e below (T16.setTop (mkF m 126 #[.val (.int p1), .val (.int p2), .val (.int p3), .val (.int p4), .val (.int l0), .val (.int l1), .val (.int l2), .val (.int n1), .val (.int c1), .val (.int c2), .val (.int n2), .val (.int k1), .val (.ref bF), .val (.ref bA), .unset, .unset, .unset, .unset, .unset, .unset, .unset, .unset] [(.ref bL), (.ref bL)])) _
    refine XS.iconst X16.here hx rfl (hb hby at_126) ?_
    show Steps p.tables e below (T16.setTop (mkF m 127 #[.val (.int p1), .val (.int p2), .val (.int p3), .val (.int p4), .val (.int l0), .val (.int l1), .val (.int l2), .val (.int n1), .val (.int c1), .val (.int c2), .val (.int n2), .val (.int k1), .val (.ref bF), .val (.ref bA), .unset, .unset, .unset, .unset, .unset, .unset, .unset, .unset] [(.int (1 : Int32)), (.ref bL), (.ref bL)])) _
    refine XS.iload X16.here hx rfl (hb hby at_127) rfl ?_
    show Steps p.tables e below (T16.setTop (mkF m 129 #[.val (.int p1), .val (.int p2), .val (.int p3), .val (.int p4), .val (.int l0), .val (.int l1), .val (.int l2), .val (.int n1), .val (.int c1), .val (.int c2), .val (.int n2), .val (.int k1), .val (.ref bF), .val (.ref bA), .unset, .unset, .unset, .unset, .unset, .unset, .unset, .unset] [(.int l1), (.int (1 : Int32)), (.ref bL), (.ref bL)])) _
    refine st17 _ ?_
    show Steps p.tables e below (T17.setTop (mkF m 130 #[.val (.int p1), .val (.int p2), .val (.int p3), .val (.int p4), .val (.int l0), .val (.int l1), .val (.int l2), .val (.int n1), .val (.int c1), .val (.int c2), .val (.int n2), .val (.int k1), .val (.ref bF), .val (.ref bA), .unset, .unset, .unset, .unset, .unset, .unset, .unset, .unset] [(.ref bL)])) _
    refine XS.dup X17.here hx rfl (hb hby at_130) rfl rfl ?_
    show Steps p.tables e below (T17.setTop (mkF m 131 #[.val (.int p1), .val (.int p2), .val (.int p3), .val (.int p4), .val (.int l0), .val (.int l1), .val (.int l2), .val (.int n1), .val (.int c1), .val (.int c2), .val (.int n2), .val (.int k1), .val (.ref bF), .val (.ref bA), .unset, .unset, .unset, .unset, .unset, .unset, .unset, .unset] [(.ref bL), (.ref bL)])) _
    refine XS.iconst X17.here hx rfl (hb hby at_131) ?_
    show Steps p.tables e below (T17.setTop (mkF m 132 #[.val (.int p1), .val (.int p2), .val (.int p3), .val (.int p4), .val (.int l0), .val (.int l1), .val (.int l2), .val (.int n1), .val (.int c1), .val (.int c2), .val (.int n2), .val (.int k1), .val (.ref bF), .val (.ref bA), .unset, .unset, .unset, .unset, .unset, .unset, .unset, .unset] [(.int (2 : Int32)), (.ref bL), (.ref bL)])) _
    refine XS.iload X17.here hx rfl (hb hby at_132) rfl ?_
    show Steps p.tables e below (T17.setTop (mkF m 134 #[.val (.int p1), .val (.int p2), .val (.int p3), .val (.int p4), .val (.int l0), .val (.int l1), .val (.int l2), .val (.int n1), .val (.int c1), .val (.int c2), .val (.int n2), .val (.int k1), .val (.ref bF), .val (.ref bA), .unset, .unset, .unset, .unset, .unset, .unset, .unset, .unset] [(.int l2), (.int (2 : Int32)), (.ref bL), (.ref bL)])) _
    refine st18 _ ?_
    show Steps p.tables e below (T18.setTop (mkF m 135 #[.val (.int p1), .val (.int p2), .val (.int p3), .val (.int p4), .val (.int l0), .val (.int l1), .val (.int l2), .val (.int n1), .val (.int c1), .val (.int c2), .val (.int n2), .val (.int k1), .val (.ref bF), .val (.ref bA), .unset, .unset, .unset, .unset, .unset, .unset, .unset, .unset] [(.ref bL)])) _
    refine XS.astore X18.here hx rfl (hb hby at_135) rfl rfl (l' := #[.val (.int p1), .val (.int p2), .val (.int p3), .val (.int p4), .val (.int l0), .val (.int l1), .val (.int l2), .val (.int n1), .val (.int c1), .val (.int c2), .val (.int n2), .val (.int k1), .val (.ref bF), .val (.ref bA), .val (.ref bL), .unset, .unset, .unset, .unset, .unset, .unset, .unset]) rfl ?_
    show Steps p.tables e below (T18.setTop (mkF m 137 #[.val (.int p1), .val (.int p2), .val (.int p3), .val (.int p4), .val (.int l0), .val (.int l1), .val (.int l2), .val (.int n1), .val (.int c1), .val (.int c2), .val (.int n2), .val (.int k1), .val (.ref bF), .val (.ref bA), .val (.ref bL), .unset, .unset, .unset, .unset, .unset, .unset, .unset] [])) _
    refine XS.iconst X18.here hx rfl (hb hby at_137) ?_
    show Steps p.tables e below (T18.setTop (mkF m 138 #[.val (.int p1), .val (.int p2), .val (.int p3), .val (.int p4), .val (.int l0), .val (.int l1), .val (.int l2), .val (.int n1), .val (.int c1), .val (.int c2), .val (.int n2), .val (.int k1), .val (.ref bF), .val (.ref bA), .val (.ref bL), .unset, .unset, .unset, .unset, .unset, .unset, .unset] [(.int (3 : Int32))])) _
    refine st19 _ ?_
    show Steps p.tables e below (T19.setTop (mkF m 140 #[.val (.int p1), .val (.int p2), .val (.int p3), .val (.int p4), .val (.int l0), .val (.int l1), .val (.int l2), .val (.int n1), .val (.int c1), .val (.int c2), .val (.int n2), .val (.int k1), .val (.ref bF), .val (.ref bA), .val (.ref bL), .unset, .unset, .unset, .unset, .unset, .unset, .unset] [(.ref bT)])) _
    refine XS.dup X19.here hx rfl (hb hby at_140) rfl rfl ?_
    show Steps p.tables e below (T19.setTop (mkF m 141 #[.val (.int p1), .val (.int p2), .val (.int p3), .val (.int p4), .val (.int l0), .val (.int l1), .val (.int l2), .val (.int n1), .val (.int c1), .val (.int c2), .val (.int n2), .val (.int k1), .val (.ref bF), .val (.ref bA), .val (.ref bL), .unset, .unset, .unset, .unset, .unset, .unset, .unset] [(.ref bT), (.ref bT)])) _
    refine XS.iconst X19.here hx rfl (hb hby at_141) ?_
    show Steps p.tables e below (T19.setTop (mkF m 142 #[.val (.int p1), .val (.int p2), .val (.int p3), .val (.int p4), .val (.int l0), .val (.int l1), .val (.int l2), .val (.int n1), .val (.int c1), .val (.int c2), .val (.int n2), .val (.int k1), .val (.ref bF), .val (.ref bA), .val (.ref bL), .unset, .unset, .unset, .unset, .unset, .unset, .unset] [(.int (0 : Int32)), (.ref bT), (.ref bT)])) _
    refine XS.iconst X19.here hx rfl (hb hby at_142) ?_
    show Steps p.tables e below (T19.setTop (mkF m 143 #[.val (.int p1), .val (.int p2), .val (.int p3), .val (.int p4), .val (.int l0), .val (.int l1), .val (.int l2), .val (.int n1), .val (.int c1), .val (.int c2), .val (.int n2), .val (.int k1), .val (.ref bF), .val (.ref bA), .val (.ref bL), .unset, .unset, .unset, .unset, .unset, .unset, .unset] [(.int (0 : Int32)), (.int (0 : Int32)), (.ref bT), (.ref bT)])) _
    refine XS.iload X19.here hx rfl (hb hby at_143) rfl ?_
    show Steps p.tables e below (T19.setTop (mkF m 145 #[.val (.int p1), .val (.int p2), .val (.int p3), .val (.int p4), .val (.int l0), .val (.int l1), .val (.int l2), .val (.int n1), .val (.int c1), .val (.int c2), .val (.int n2), .val (.int k1), .val (.ref bF), .val (.ref bA), .val (.ref bL), .unset, .unset, .unset, .unset, .unset, .unset, .unset] [(.int n1), (.int (0 : Int32)), (.int (0 : Int32)), (.ref bT), (.ref bT)])) _
    refine st20 _ ?_
    show Steps p.tables e below (T20.setTop (mkF m 148 #[.val (.int p1), .val (.int p2), .val (.int p3), .val (.int p4), .val (.int l0), .val (.int l1), .val (.int l2), .val (.int n1), .val (.int c1), .val (.int c2), .val (.int n2), .val (.int k1), .val (.ref bF), .val (.ref bA), .val (.ref bL), .unset, .unset, .unset, .unset, .unset, .unset, .unset] [(.int t0), (.int (0 : Int32)), (.ref bT), (.ref bT)])) _
    refine st21 _ ?_
    show Steps p.tables e below (T21.setTop (mkF m 149 #[.val (.int p1), .val (.int p2), .val (.int p3), .val (.int p4), .val (.int l0), .val (.int l1), .val (.int l2), .val (.int n1), .val (.int c1), .val (.int c2), .val (.int n2), .val (.int k1), .val (.ref bF), .val (.ref bA), .val (.ref bL), .unset, .unset, .unset, .unset, .unset, .unset, .unset] [(.ref bT)])) _
    refine XS.dup X21.here hx rfl (hb hby at_149) rfl rfl ?_
    show Steps p.tables e below (T21.setTop (mkF m 150 #[.val (.int p1), .val (.int p2), .val (.int p3), .val (.int p4), .val (.int l0), .val (.int l1), .val (.int l2), .val (.int n1), .val (.int c1), .val (.int c2), .val (.int n2), .val (.int k1), .val (.ref bF), .val (.ref bA), .val (.ref bL), .unset, .unset, .unset, .unset, .unset, .unset, .unset] [(.ref bT), (.ref bT)])) _
    refine XS.iconst X21.here hx rfl (hb hby at_150) ?_
    show Steps p.tables e below (T21.setTop (mkF m 151 #[.val (.int p1), .val (.int p2), .val (.int p3), .val (.int p4), .val (.int l0), .val (.int l1), .val (.int l2), .val (.int n1), .val (.int c1), .val (.int c2), .val (.int n2), .val (.int k1), .val (.ref bF), .val (.ref bA), .val (.ref bL), .unset, .unset, .unset, .unset, .unset, .unset, .unset] [(.int (1 : Int32)), (.ref bT), (.ref bT)])) _
    refine XS.iconst X21.here hx rfl (hb hby at_151) ?_
    show Steps p.tables e below (T21.setTop (mkF m 152 #[.val (.int p1), .val (.int p2), .val (.int p3), .val (.int p4), .val (.int l0), .val (.int l1), .val (.int l2), .val (.int n1), .val (.int c1), .val (.int c2), .val (.int n2), .val (.int k1), .val (.ref bF), .val (.ref bA), .val (.ref bL), .unset, .unset, .unset, .unset, .unset, .unset, .unset] [(.int (1 : Int32)), (.int (1 : Int32)), (.ref bT), (.ref bT)])) _
    refine XS.iload X21.here hx rfl (hb hby at_152) rfl ?_
    show Steps p.tables e below (T21.setTop (mkF m 154 #[.val (.int p1), .val (.int p2), .val (.int p3), .val (.int p4), .val (.int l0), .val (.int l1), .val (.int l2), .val (.int n1), .val (.int c1), .val (.int c2), .val (.int n2), .val (.int k1), .val (.ref bF), .val (.ref bA), .val (.ref bL), .unset, .unset, .unset, .unset, .unset, .unset, .unset] [(.int n1), (.int (1 : Int32)), (.int (1 : Int32)), (.ref bT), (.ref bT)])) _
    refine st22 _ ?_
    show Steps p.tables e below (T22.setTop (mkF m 157 #[.val (.int p1), .val (.int p2), .val (.int p3), .val (.int p4), .val (.int l0), .val (.int l1), .val (.int l2), .val (.int n1), .val (.int c1), .val (.int c2), .val (.int n2), .val (.int k1), .val (.ref bF), .val (.ref bA), .val (.ref bL), .unset, .unset, .unset, .unset, .unset, .unset, .unset] [(.int t1), (.int (1 : Int32)), (.ref bT), (.ref bT)])) _
    refine st23 _ ?_
    show Steps p.tables e below (T23.setTop (mkF m 158 #[.val (.int p1), .val (.int p2), .val (.int p3), .val (.int p4), .val (.int l0), .val (.int l1), .val (.int l2), .val (.int n1), .val (.int c1), .val (.int c2), .val (.int n2), .val (.int k1), .val (.ref bF), .val (.ref bA), .val (.ref bL), .unset, .unset, .unset, .unset, .unset, .unset, .unset] [(.ref bT)])) _
    refine XS.dup X23.here hx rfl (hb hby at_158) rfl rfl ?_
    show Steps p.tables e below (T23.setTop (mkF m 159 #[.val (.int p1), .val (.int p2), .val (.int p3), .val (.int p4), .val (.int l0), .val (.int l1), .val (.int l2), .val (.int n1), .val (.int c1), .val (.int c2), .val (.int n2), .val (.int k1), .val (.ref bF), .val (.ref bA), .val (.ref bL), .unset, .unset, .unset, .unset, .unset, .unset, .unset] [(.ref bT), (.ref bT)])) _
    refine XS.iconst X23.here hx rfl (hb hby at_159) ?_
    show Steps p.tables e below (T23.setTop (mkF m 160 #[.val (.int p1), .val (.int p2), .val (.int p3), .val (.int p4), .val (.int l0), .val (.int l1), .val (.int l2), .val (.int n1), .val (.int c1), .val (.int c2), .val (.int n2), .val (.int k1), .val (.ref bF), .val (.ref bA), .val (.ref bL), .unset, .unset, .unset, .unset, .unset, .unset, .unset] [(.int (2 : Int32)), (.ref bT), (.ref bT)])) _
    refine XS.iconst X23.here hx rfl (hb hby at_160) ?_
    show Steps p.tables e below (T23.setTop (mkF m 161 #[.val (.int p1), .val (.int p2), .val (.int p3), .val (.int p4), .val (.int l0), .val (.int l1), .val (.int l2), .val (.int n1), .val (.int c1), .val (.int c2), .val (.int n2), .val (.int k1), .val (.ref bF), .val (.ref bA), .val (.ref bL), .unset, .unset, .unset, .unset, .unset, .unset, .unset] [(.int (2 : Int32)), (.int (2 : Int32)), (.ref bT), (.ref bT)])) _
    refine XS.iload X23.here hx rfl (hb hby at_161) rfl ?_
    show Steps p.tables e below (T23.setTop (mkF m 163 #[.val (.int p1), .val (.int p2), .val (.int p3), .val (.int p4), .val (.int l0), .val (.int l1), .val (.int l2), .val (.int n1), .val (.int c1), .val (.int c2), .val (.int n2), .val (.int k1), .val (.ref bF), .val (.ref bA), .val (.ref bL), .unset, .unset, .unset, .unset, .unset, .unset, .unset] [(.int n1), (.int (2 : Int32)), (.int (2 : Int32)), (.ref bT), (.ref bT)])) _
    refine st24 _ ?_
    show Steps p.tables e below (T24.setTop (mkF m 166 #[.val (.int p1), .val (.int p2), .val (.int p3), .val (.int p4), .val (.int l0), .val (.int l1), .val (.int l2), .val (.int n1), .val (.int c1), .val (.int c2), .val (.int n2), .val (.int k1), .val (.ref bF), .val (.ref bA), .val (.ref bL), .unset, .unset, .unset, .unset, .unset, .unset, .unset] [(.int t2), (.int (2 : Int32)), (.ref bT), (.ref bT)])) _
    refine st25 _ ?_
    show Steps p.tables e below (T25.setTop (mkF m 167 #[.val (.int p1), .val (.int p2), .val (.int p3), .val (.int p4), .val (.int l0), .val (.int l1), .val (.int l2), .val (.int n1), .val (.int c1), .val (.int c2), .val (.int n2), .val (.int k1), .val (.ref bF), .val (.ref bA), .val (.ref bL), .unset, .unset, .unset, .unset, .unset, .unset, .unset] [(.ref bT)])) _
    refine XS.astore X25.here hx rfl (hb hby at_167) rfl rfl (l' := #[.val (.int p1), .val (.int p2), .val (.int p3), .val (.int p4), .val (.int l0), .val (.int l1), .val (.int l2), .val (.int n1), .val (.int c1), .val (.int c2), .val (.int n2), .val (.int k1), .val (.ref bF), .val (.ref bA), .val (.ref bL), .val (.ref bT), .unset, .unset, .unset, .unset, .unset, .unset]) rfl ?_
    show Steps p.tables e below (T25.setTop (mkF m 169 #[.val (.int p1), .val (.int p2), .val (.int p3), .val (.int p4), .val (.int l0), .val (.int l1), .val (.int l2), .val (.int n1), .val (.int c1), .val (.int c2), .val (.int n2), .val (.int k1), .val (.ref bF), .val (.ref bA), .val (.ref bL), .val (.ref bT), .unset, .unset, .unset, .unset, .unset, .unset] [])) _
    refine XS.iconst X25.here hx rfl (hb hby at_169) ?_
    show Steps p.tables e below (T25.setTop (mkF m 170 #[.val (.int p1), .val (.int p2), .val (.int p3), .val (.int p4), .val (.int l0), .val (.int l1), .val (.int l2), .val (.int n1), .val (.int c1), .val (.int c2), .val (.int n2), .val (.int k1), .val (.ref bF), .val (.ref bA), .val (.ref bL), .val (.ref bT), .unset, .unset, .unset, .unset, .unset, .unset] [(.int (3 : Int32))])) _
    refine st26 _ ?_
    show Steps p.tables e below (T26.setTop (mkF m 172 #[.val (.int p1), .val (.int p2), .val (.int p3), .val (.int p4), .val (.int l0), .val (.int l1), .val (.int l2), .val (.int n1), .val (.int c1), .val (.int c2), .val (.int n2), .val (.int k1), .val (.ref bF), .val (.ref bA), .val (.ref bL), .val (.ref bT), .unset, .unset, .unset, .unset, .unset, .unset] [(.ref bO)])) _
    refine XS.dup X26.here hx rfl (hb hby at_172) rfl rfl ?_
    show Steps p.tables e below (T26.setTop (mkF m 173 #[.val (.int p1), .val (.int p2), .val (.int p3), .val (.int p4), .val (.int l0), .val (.int l1), .val (.int l2), .val (.int n1), .val (.int c1), .val (.int c2), .val (.int n2), .val (.int k1), .val (.ref bF), .val (.ref bA), .val (.ref bL), .val (.ref bT), .unset, .unset, .unset, .unset, .unset, .unset] [(.ref bO), (.ref bO)])) _
    refine XS.iconst X26.here hx rfl (hb hby at_173) ?_
    show Steps p.tables e below (T26.setTop (mkF m 174 #[.val (.int p1), .val (.int p2), .val (.int p3), .val (.int p4), .val (.int l0), .val (.int l1), .val (.int l2), .val (.int n1), .val (.int c1), .val (.int c2), .val (.int n2), .val (.int k1), .val (.ref bF), .val (.ref bA), .val (.ref bL), .val (.ref bT), .unset, .unset, .unset, .unset, .unset, .unset] [(.int (0 : Int32)), (.ref bO), (.ref bO)])) _
    refine XS.iconst X26.here hx rfl (hb hby at_174) ?_
    show Steps p.tables e below (T26.setTop (mkF m 175 #[.val (.int p1), .val (.int p2), .val (.int p3), .val (.int p4), .val (.int l0), .val (.int l1), .val (.int l2), .val (.int n1), .val (.int c1), .val (.int c2), .val (.int n2), .val (.int k1), .val (.ref bF), .val (.ref bA), .val (.ref bL), .val (.ref bT), .unset, .unset, .unset, .unset, .unset, .unset] [(.int (0 : Int32)), (.int (0 : Int32)), (.ref bO), (.ref bO)])) _
    refine XS.iload X26.here hx rfl (hb hby at_175) rfl ?_
    show Steps p.tables e below (T26.setTop (mkF m 177 #[.val (.int p1), .val (.int p2), .val (.int p3), .val (.int p4), .val (.int l0), .val (.int l1), .val (.int l2), .val (.int n1), .val (.int c1), .val (.int c2), .val (.int n2), .val (.int k1), .val (.ref bF), .val (.ref bA), .val (.ref bL), .val (.ref bT), .unset, .unset, .unset, .unset, .unset, .unset] [(.int n1), (.int (0 : Int32)), (.int (0 : Int32)), (.ref bO), (.ref bO)])) _
    refine XS.iload X26.here hx rfl (hb hby at_177) rfl ?_
    show Steps p.tables e below (T26.setTop (mkF m 179 #[.val (.int p1), .val (.int p2), .val (.int p3), .val (.int p4), .val (.int l0), .val (.int l1), .val (.int l2), .val (.int n1), .val (.int c1), .val (.int c2), .val (.int n2), .val (.int k1), .val (.ref bF), .val (.ref bA), .val (.ref bL), .val (.ref bT), .unset, .unset, .unset, .unset, .unset, .unset] [(.int c1), (.int n1), (.int (0 : Int32)), (.int (0 : Int32)), (.ref bO), (.ref bO)])) _
    refine XS.iload X26.here hx rfl (hb hby at_179) rfl ?_
    show Steps p.tables e below (T26.setTop (mkF m 181 #[.val (.int p1), .val (.int p2), .val (.int p3), .val (.int p4), .val (.int l0), .val (.int l1), .val (.int l2), .val (.int n1), .val (.int c1), .val (.int c2), .val (.int n2), .val (.int k1), .val (.ref bF), .val (.ref bA), .val (.ref bL), .val (.ref bT), .unset, .unset, .unset, .unset, .unset, .unset] [(.int c2), (.int c1), (.int n1), (.int (0 : Int32)), (.int (0 : Int32)), (.ref bO), (.ref bO)])) _
    refine XS.iload X26.here hx rfl (hb hby at_181) rfl ?_
    show Steps p.tables e below (T26.setTop (mkF m 183 #[.val (.int p1), .val (.int p2), .val (.int p3), .val (.int p4), .val (.int l0), .val (.int l1), .val (.int l2), .val (.int n1), .val (.int c1), .val (.int c2), .val (.int n2), .val (.int k1), .val (.ref bF), .val (.ref bA), .val (.ref bL), .val (.ref bT), .unset, .unset, .unset, .unset, .unset, .unset] [(.int k1), (.int c2), (.int c1), (.int n1), (.int (0 : Int32)), (.int (0 : Int32)), (.ref bO), (.ref bO)])) _
    refine st27 _ ?_
    show Steps p.tables e below (T27.setTop (mkF m 186 #[.val (.int p1), .val (.int p2), .val (.int p3), .val (.int p4), .val (.int l0), .val (.int l1), .val (.int l2), .val (.int n1), .val (.int c1), .val (.int c2), .val (.int n2), .val (.int k1), .val (.ref bF), .val (.ref bA), .val (.ref bL), .val (.ref bT), .unset, .unset, .unset, .unset, .unset, .unset] [(.int o0), (.int (0 : Int32)), (.ref bO), (.ref bO)])) _
    refine st28 _ ?_
    show Steps p.tables e below (T28.setTop (mkF m 187 #[.val (.int p1), .val (.int p2), .val (.int p3), .val (.int p4), .val (.int l0), .val (.int l1), .val (.int l2), .val (.int n1), .val (.int c1), .val (.int c2), .val (.int n2), .val (.int k1), .val (.ref bF), .val (.ref bA), .val (.ref bL), .val (.ref bT), .unset, .unset, .unset, .unset, .unset, .unset] [(.ref bO)])) _
    refine XS.dup X28.here hx rfl (hb hby at_187) rfl rfl ?_
    show Steps p.tables e below (T28.setTop (mkF m 188 #[.val (.int p1), .val (.int p2), .val (.int p3), .val (.int p4), .val (.int l0), .val (.int l1), .val (.int l2), .val (.int n1), .val (.int c1), .val (.int c2), .val (.int n2), .val (.int k1), .val (.ref bF), .val (.ref bA), .val (.ref bL), .val (.ref bT), .unset, .unset, .unset, .unset, .unset, .unset] [(.ref bO), (.ref bO)])) _
    refine XS.iconst X28.here hx rfl (hb hby at_188) ?_
    show Steps p.tables e below (T28.setTop (mkF m 189 #[.val (.int p1), .val (.int p2), .val (.int p3), .val (.int p4), .val (.int l0), .val (.int l1), .val (.int l2), .val (.int n1), .val (.int c1), .val (.int c2), .val (.int n2), .val (.int k1), .val (.ref bF), .val (.ref bA), .val (.ref bL), .val (.ref bT), .unset, .unset, .unset, .unset, .unset, .unset] [(.int (1 : Int32)), (.ref bO), (.ref bO)])) _
    refine XS.iconst X28.here hx rfl (hb hby at_189) ?_
    show Steps p.tables e below (T28.setTop (mkF m 190 #[.val (.int p1), .val (.int p2), .val (.int p3), .val (.int p4), .val (.int l0), .val (.int l1), .val (.int l2), .val (.int n1), .val (.int c1), .val (.int c2), .val (.int n2), .val (.int k1), .val (.ref bF), .val (.ref bA), .val (.ref bL), .val (.ref bT), .unset, .unset, .unset, .unset, .unset, .unset] [(.int (1 : Int32)), (.int (1 : Int32)), (.ref bO), (.ref bO)])) _
    refine XS.iload X28.here hx rfl (hb hby at_190) rfl ?_
    show Steps p.tables e below (T28.setTop (mkF m 192 #[.val (.int p1), .val (.int p2), .val (.int p3), .val (.int p4), .val (.int l0), .val (.int l1), .val (.int l2), .val (.int n1), .val (.int c1), .val (.int c2), .val (.int n2), .val (.int k1), .val (.ref bF), .val (.ref bA), .val (.ref bL), .val (.ref bT), .unset, .unset, .unset, .unset, .unset, .unset] [(.int n1), (.int (1 : Int32)), (.int (1 : Int32)), (.ref bO), (.ref bO)])) _
    refine XS.iload X28.here hx rfl (hb hby at_192) rfl ?_
    show Steps p.tables e below (T28.setTop (mkF m 194 #[.val (.int p1), .val (.int p2), .val (.int p3), .val (.int p4), .val (.int l0), .val (.int l1), .val (.int l2), .val (.int n1), .val (.int c1), .val (.int c2), .val (.int n2), .val (.int k1), .val (.ref bF), .val (.ref bA), .val (.ref bL), .val (.ref bT), .unset, .unset, .unset, .unset, .unset, .unset] [(.int c1), (.int n1), (.int (1 : Int32)), (.int (1 : Int32)), (.ref bO), (.ref bO)])) _
    refine XS.iload X28.here hx rfl (hb hby at_194) rfl ?_
    show Steps p.tables e below (T28.setTop (mkF m 196 #[.val (.int p1), .val (.int p2), .val (.int p3), .val (.int p4), .val (.int l0), .val (.int l1), .val (.int l2), .val (.int n1), .val (.int c1), .val (.int c2), .val (.int n2), .val (.int k1), .val (.ref bF), .val (.ref bA), .val (.ref bL), .val (.ref bT), .unset, .unset, .unset, .unset, .unset, .unset] [(.int c2), (.int c1), (.int n1), (.int (1 : Int32)), (.int (1 : Int32)), (.ref bO), (.ref bO)])) _
    refine XS.iload X28.here hx rfl (hb hby at_196) rfl ?_
    show Steps p.tables e below (T28.setTop (mkF m 198 #[.val (.int p1), .val (.int p2), .val (.int p3), .val (.int p4), .val (.int l0), .val (.int l1), .val (.int l2), .val (.int n1), .val (.int c1), .val (.int c2), .val (.int n2), .val (.int k1), .val (.ref bF), .val (.ref bA), .val (.ref bL), .val (.ref bT), .unset, .unset, .unset, .unset, .unset, .unset] [(.int k1), (.int c2), (.int c1), (.int n1), (.int (1 : Int32)), (.int (1 : Int32)), (.ref bO), (.ref bO)])) _
    refine st29 _ ?_
    show Steps p.tables e below (T29.setTop (mkF m 201 #[.val (.int p1), .val (.int p2), .val (.int p3), .val (.int p4), .val (.int l0), .val (.int l1), .val (.int l2), .val (.int n1), .val (.int c1), .val (.int c2), .val (.int n2), .val (.int k1), .val (.ref bF), .val (.ref bA), .val (.ref bL), .val (.ref bT), .unset, .unset, .unset, .unset, .unset, .unset] [(.int o1), (.int (1 : Int32)), (.ref bO), (.ref bO)])) _
    refine st30 _ ?_
    show Steps p.tables e below (T30.setTop (mkF m 202 #[.val (.int p1), .val (.int p2), .val (.int p3), .val (.int p4), .val (.int l0), .val (.int l1), .val (.int l2), .val (.int n1), .val (.int c1), .val (.int c2), .val (.int n2), .val (.int k1), .val (.ref bF), .val (.ref bA), .val (.ref bL), .val (.ref bT), .unset, .unset, .unset, .unset, .unset, .unset] [(.ref bO)])) _
    refine XS.dup X30.here hx rfl (hb hby at_202) rfl rfl ?_
    show Steps p.tables e below (T30.setTop (mkF m 203 #[.val (.int p1), .val (.int p2), .val (.int p3), .val (.int p4), .val (.int l0), .val (.int l1), .val (.int l2), .val (.int n1), .val (.int c1), .val (.int c2), .val (.int n2), .val (.int k1), .val (.ref bF), .val (.ref bA), .val (.ref bL), .val (.ref bT), .unset, .unset, .unset, .unset, .unset, .unset] [(.ref bO), (.ref bO)])) _
    refine XS.iconst X30.here hx rfl (hb hby at_203) ?_
    show Steps p.tables e below (T30.setTop (mkF m 204 #[.val (.int p1), .val (.int p2), .val (.int p3), .val (.int p4), .val (.int l0), .val (.int l1), .val (.int l2), .val (.int n1), .val (.int c1), .val (.int c2), .val (.int n2), .val (.int k1), .val (.ref bF), .val (.ref bA), .val (.ref bL), .val (.ref bT), .unset, .unset, .unset, .unset, .unset, .unset] [(.int (2 : Int32)), (.ref bO), (.ref bO)])) _
    refine XS.iconst X30.here hx rfl (hb hby at_204) ?_
    show Steps p.tables e below (T30.setTop (mkF m 205 #[.val (.int p1), .val (.int p2), .val (.int p3), .val (.int p4), .val (.int l0), .val (.int l1), .val (.int l2), .val (.int n1), .val (.int c1), .val (.int c2), .val (.int n2), .val (.int k1), .val (.ref bF), .val (.ref bA), .val (.ref bL), .val (.ref bT), .unset, .unset, .unset, .unset, .unset, .unset] [(.int (2 : Int32)), (.int (2 : Int32)), (.ref bO), (.ref bO)])) _
    refine XS.iload X30.here hx rfl (hb hby at_205) rfl ?_
    show Steps p.tables e below (T30.setTop (mkF m 207 #[.val (.int p1), .val (.int p2), .val (.int p3), .val (.int p4), .val (.int l0), .val (.int l1), .val (.int l2), .val (.int n1), .val (.int c1), .val (.int c2), .val (.int n2), .val (.int k1), .val (.ref bF), .val (.ref bA), .val (.ref bL), .val (.ref bT), .unset, .unset, .unset, .unset, .unset, .unset] [(.int n1), (.int (2 : Int32)), (.int (2 : Int32)), (.ref bO), (.ref bO)])) _
    refine XS.iload X30.here hx rfl (hb hby at_207) rfl ?_
    show Steps p.tables e below (T30.setTop (mkF m 209 #[.val (.int p1), .val (.int p2), .val (.int p3), .val (.int p4), .val (.int l0), .val (.int l1), .val (.int l2), .val (.int n1), .val (.int c1), .val (.int c2), .val (.int n2), .val (.int k1), .val (.ref bF), .val (.ref bA), .val (.ref bL), .val (.ref bT), .unset, .unset, .unset, .unset, .unset, .unset] [(.int c1), (.int n1), (.int (2 : Int32)), (.int (2 : Int32)), (.ref bO), (.ref bO)])) _
    refine XS.iload X30.here hx rfl (hb hby at_209) rfl ?_
    show Steps p.tables e below (T30.setTop (mkF m 211 #[.val (.int p1), .val (.int p2), .val (.int p3), .val (.int p4), .val (.int l0), .val (.int l1), .val (.int l2), .val (.int n1), .val (.int c1), .val (.int c2), .val (.int n2), .val (.int k1), .val (.ref bF), .val (.ref bA), .val (.ref bL), .val (.ref bT), .unset, .unset, .unset, .unset, .unset, .unset] [(.int c2), (.int c1), (.int n1), (.int (2 : Int32)), (.int (2 : Int32)), (.ref bO), (.ref bO)])) _
    refine XS.iload X30.here hx rfl (hb hby at_211) rfl ?_
    show Steps p.tables e below (T30.setTop (mkF m 213 #[.val (.int p1), .val (.int p2), .val (.int p3), .val (.int p4), .val (.int l0), .val (.int l1), .val (.int l2), .val (.int n1), .val (.int c1), .val (.int c2), .val (.int n2), .val (.int k1), .val (.ref bF), .val (.ref bA), .val (.ref bL), .val (.ref bT), .unset, .unset, .unset, .unset, .unset, .unset] [(.int k1), (.int c2), (.int c1), (.int n1), (.int (2 : Int32)), (.int (2 : Int32)), (.ref bO), (.ref bO)])) _
    refine st31 _ ?_
    show Steps p.tables e below (T31.setTop (mkF m 216 #[.val (.int p1), .val (.int p2), .val (.int p3), .val (.int p4), .val (.int l0), .val (.int l1), .val (.int l2), .val (.int n1), .val (.int c1), .val (.int c2), .val (.int n2), .val (.int k1), .val (.ref bF), .val (.ref bA), .val (.ref bL), .val (.ref bT), .unset, .unset, .unset, .unset, .unset, .unset] [(.int o2), (.int (2 : Int32)), (.ref bO), (.ref bO)])) _
    refine st32 _ ?_
    show Steps p.tables e below (T32.setTop (mkF m 217 #[.val (.int p1), .val (.int p2), .val (.int p3), .val (.int p4), .val (.int l0), .val (.int l1), .val (.int l2), .val (.int n1), .val (.int c1), .val (.int c2), .val (.int n2), .val (.int k1), .val (.ref bF), .val (.ref bA), .val (.ref bL), .val (.ref bT), .unset, .unset, .unset, .unset, .unset, .unset] [(.ref bO)])) _
    refine XS.astore X32.here hx rfl (hb hby at_217) rfl rfl (l' := #[.val (.int p1), .val (.int p2), .val (.int p3), .val (.int p4), .val (.int l0), .val (.int l1), .val (.int l2), .val (.int n1), .val (.int c1), .val (.int c2), .val (.int n2), .val (.int k1), .val (.ref bF), .val (.ref bA), .val (.ref bL), .val (.ref bT), .val (.ref bO), .unset, .unset, .unset, .unset, .unset]) rfl ?_
    exact k)
  obtain ⟨sz, h_sz⟩ : ∃ z : Int32, z = if n2 = (0 : Int32) then c2 else (((c2 + k1) + n2) - (1 : Int32)) := ⟨_, rfl⟩
  have pre34 : ∀ t, Steps p.tables e below (T32.setTop (mkF m 239 #[.val (.int p1), .val (.int p2), .val (.int p3), .val (.int p4), .val (.int l0), .val (.int l1), .val (.int l2), .val (.int n1), .val (.int c1), .val (.int c2), .val (.int n2), .val (.int k1), .val (.ref bF), .val (.ref bA), .val (.ref bL), .val (.ref bT), .val (.ref bO), .unset, .unset, .unset, .unset, .unset] [(.int sz)])) t → Steps p.tables e below (s₁.setTop (entryFrame m #[(.int p1), (.int p2), (.int p3), (.int p4)] maxLocals)) t := fun t k => pre33 t (by
    by_cases h1 : n2 = (0 : Int32)
    · have ev_sz : sz = c2 := h_sz.trans (if_pos h1)
      rw [ev_sz] at k
      show Steps p.tables e below (T32.setTop (mkF m 219 #[.val (.int p1), .val (.int p2), .val (.int p3), .val (.int p4), .val (.int l0), .val (.int l1), .val (.int l2), .val (.int n1), .val (.int c1), .val (.int c2), .val (.int n2), .val (.int k1), .val (.ref bF), .val (.ref bA), .val (.ref bL), .val (.ref bT), .val (.ref bO), .unset, .unset, .unset, .unset, .unset] [])) _
      refine XS.iload X32.here hx rfl (hb hby at_219) rfl ?_
      show Steps p.tables e below (T32.setTop (mkF m 221 #[.val (.int p1), .val (.int p2), .val (.int p3), .val (.int p4), .val (.int l0), .val (.int l1), .val (.int l2), .val (.int n1), .val (.int c1), .val (.int c2), .val (.int n2), .val (.int k1), .val (.ref bF), .val (.ref bA), .val (.ref bL), .val (.ref bT), .val (.ref bO), .unset, .unset, .unset, .unset, .unset] [(.int n2)])) _
      refine XS.ifNo X32.here hx rfl (hb hby at_221) rfl ((if0 _ _).trans (teq (h1 : n2 = (0 : Int32))).2) ?_
      show Steps p.tables e below (T32.setTop (mkF m 224 #[.val (.int p1), .val (.int p2), .val (.int p3), .val (.int p4), .val (.int l0), .val (.int l1), .val (.int l2), .val (.int n1), .val (.int c1), .val (.int c2), .val (.int n2), .val (.int k1), .val (.ref bF), .val (.ref bA), .val (.ref bL), .val (.ref bT), .val (.ref bO), .unset, .unset, .unset, .unset, .unset] [])) _
      refine XS.iload X32.here hx rfl (hb hby at_224) rfl ?_
      show Steps p.tables e below (T32.setTop (mkF m 226 #[.val (.int p1), .val (.int p2), .val (.int p3), .val (.int p4), .val (.int l0), .val (.int l1), .val (.int l2), .val (.int n1), .val (.int c1), .val (.int c2), .val (.int n2), .val (.int k1), .val (.ref bF), .val (.ref bA), .val (.ref bL), .val (.ref bT), .val (.ref bO), .unset, .unset, .unset, .unset, .unset] [(.int c2)])) _
      refine XS.goto X32.here hx rfl (pc0 := 226) (pc' := 239) rfl (hb hby at_226) (by decide) (by decide) ?_
      exact k
    · have ev_sz : sz = (((c2 + k1) + n2) - (1 : Int32)) := h_sz.trans (if_neg h1)
      rw [ev_sz] at k
      show Steps p.tables e below (T32.setTop (mkF m 219 #[.val (.int p1), .val (.int p2), .val (.int p3), .val (.int p4), .val (.int l0), .val (.int l1), .val (.int l2), .val (.int n1), .val (.int c1), .val (.int c2), .val (.int n2), .val (.int k1), .val (.ref bF), .val (.ref bA), .val (.ref bL), .val (.ref bT), .val (.ref bO), .unset, .unset, .unset, .unset, .unset] [])) _
      refine XS.iload X32.here hx rfl (hb hby at_219) rfl ?_
      show Steps p.tables e below (T32.setTop (mkF m 221 #[.val (.int p1), .val (.int p2), .val (.int p3), .val (.int p4), .val (.int l0), .val (.int l1), .val (.int l2), .val (.int n1), .val (.int c1), .val (.int c2), .val (.int n2), .val (.int k1), .val (.ref bF), .val (.ref bA), .val (.ref bL), .val (.ref bT), .val (.ref bO), .unset, .unset, .unset, .unset, .unset] [(.int n2)])) _
      refine XS.ifYes X32.here hx rfl (pc0 := 221) (pc' := 229) rfl (hb hby at_221) rfl ((if0 _ _).trans (feq (h1 : ¬ (n2 = (0 : Int32)))).2) (by decide) (by decide) ?_
      show Steps p.tables e below (T32.setTop (mkF m 229 #[.val (.int p1), .val (.int p2), .val (.int p3), .val (.int p4), .val (.int l0), .val (.int l1), .val (.int l2), .val (.int n1), .val (.int c1), .val (.int c2), .val (.int n2), .val (.int k1), .val (.ref bF), .val (.ref bA), .val (.ref bL), .val (.ref bT), .val (.ref bO), .unset, .unset, .unset, .unset, .unset] [])) _
      refine XS.iload X32.here hx rfl (hb hby at_229) rfl ?_
      show Steps p.tables e below (T32.setTop (mkF m 231 #[.val (.int p1), .val (.int p2), .val (.int p3), .val (.int p4), .val (.int l0), .val (.int l1), .val (.int l2), .val (.int n1), .val (.int c1), .val (.int c2), .val (.int n2), .val (.int k1), .val (.ref bF), .val (.ref bA), .val (.ref bL), .val (.ref bT), .val (.ref bO), .unset, .unset, .unset, .unset, .unset] [(.int c2)])) _
      refine XS.iload X32.here hx rfl (hb hby at_231) rfl ?_
      show Steps p.tables e below (T32.setTop (mkF m 233 #[.val (.int p1), .val (.int p2), .val (.int p3), .val (.int p4), .val (.int l0), .val (.int l1), .val (.int l2), .val (.int n1), .val (.int c1), .val (.int c2), .val (.int n2), .val (.int k1), .val (.ref bF), .val (.ref bA), .val (.ref bL), .val (.ref bT), .val (.ref bO), .unset, .unset, .unset, .unset, .unset] [(.int k1), (.int c2)])) _
      refine XS.iadd X32.here hx rfl (hb hby at_233) rfl ?_
      show Steps p.tables e below (T32.setTop (mkF m 234 #[.val (.int p1), .val (.int p2), .val (.int p3), .val (.int p4), .val (.int l0), .val (.int l1), .val (.int l2), .val (.int n1), .val (.int c1), .val (.int c2), .val (.int n2), .val (.int k1), .val (.ref bF), .val (.ref bA), .val (.ref bL), .val (.ref bT), .val (.ref bO), .unset, .unset, .unset, .unset, .unset] [(.int (c2 + k1))])) _
      refine XS.iload X32.here hx rfl (hb hby at_234) rfl ?_
      show Steps p.tables e below (T32.setTop (mkF m 236 #[.val (.int p1), .val (.int p2), .val (.int p3), .val (.int p4), .val (.int l0), .val (.int l1), .val (.int l2), .val (.int n1), .val (.int c1), .val (.int c2), .val (.int n2), .val (.int k1), .val (.ref bF), .val (.ref bA), .val (.ref bL), .val (.ref bT), .val (.ref bO), .unset, .unset, .unset, .unset, .unset] [(.int n2), (.int (c2 + k1))])) _
      refine XS.iadd X32.here hx rfl (hb hby at_236) rfl ?_
      show Steps p.tables e below (T32.setTop (mkF m 237 #[.val (.int p1), .val (.int p2), .val (.int p3), .val (.int p4), .val (.int l0), .val (.int l1), .val (.int l2), .val (.int n1), .val (.int c1), .val (.int c2), .val (.int n2), .val (.int k1), .val (.ref bF), .val (.ref bA), .val (.ref bL), .val (.ref bT), .val (.ref bO), .unset, .unset, .unset, .unset, .unset] [(.int ((c2 + k1) + n2))])) _
      refine XS.iconst X32.here hx rfl (hb hby at_237) ?_
      show Steps p.tables e below (T32.setTop (mkF m 238 #[.val (.int p1), .val (.int p2), .val (.int p3), .val (.int p4), .val (.int l0), .val (.int l1), .val (.int l2), .val (.int n1), .val (.int c1), .val (.int c2), .val (.int n2), .val (.int k1), .val (.ref bF), .val (.ref bA), .val (.ref bL), .val (.ref bT), .val (.ref bO), .unset, .unset, .unset, .unset, .unset] [(.int (1 : Int32)), (.int ((c2 + k1) + n2))])) _
      refine XS.isub X32.here hx rfl (hb hby at_238) rfl ?_
      exact k)
  obtain ⟨T35, h35, X35, e35, E35, A35, D35, -, st35⟩ := newO X32 hx hZ hown (hw _ (List.mem_of_getElem? (i := 12) rfl)) (hw _ (List.mem_of_getElem? (i := 13) rfl)) (hw _ (List.mem_of_getElem? (i := 14) rfl)) e32 (g := (mkF m 241 #[.val (.int p1), .val (.int p2), .val (.int p3), .val (.int p4), .val (.int l0), .val (.int l1), .val (.int l2), .val (.int n1), .val (.int c1), .val (.int c2), .val (.int n2), .val (.int k1), .val (.ref bF), .val (.ref bA), .val (.ref bL), .val (.ref bT), .val (.ref bO), .val (.int sz), .unset, .unset, .unset, .unset] [])) rfl (hb hby at_241) (by decide) (by decide)
  obtain ⟨bU, g35⟩ : ∃ z, z = h32.size := ⟨_, rfl⟩
  rw [← g35] at A35 D35 st35
  have g_bU : n0 ≤ bU := Nat.le_trans Z32 (Nat.le_of_eq g35.symm)
  have ne_bF_bU : bF ≠ bU := Nat.ne_of_lt (Nat.lt_of_lt_of_le V_bF'_e32.lt (Nat.le_of_eq g35.symm))
  have ne_bA_bU : bA ≠ bU := Nat.ne_of_lt (Nat.lt_of_lt_of_le VbA_14_e32.lt (Nat.le_of_eq g35.symm))
  have ne_bL_bU : bL ≠ bU := Nat.ne_of_lt (Nat.lt_of_lt_of_le V_bL'_e32.lt (Nat.le_of_eq g35.symm))
  have ne_bT_bU : bT ≠ bU := Nat.ne_of_lt (Nat.lt_of_lt_of_le VbT_25_e32.lt (Nat.le_of_eq g35.symm))
  have ne_bO_bU : bO ≠ bU := Nat.ne_of_lt (Nat.lt_of_lt_of_le VbO_32.lt (Nat.le_of_eq g35.symm))
  have V_bF'_e35 := V_bF'_e32.ext E35
  have VbA_14_e35 := VbA_14_e32.ext E35
  have V_bL'_e35 := V_bL'_e32.ext E35
  have VbT_25_e35 := VbT_25_e32.ext E35
  have VbO_32_e35 := VbO_32.ext E35
  have Z35 : n0 ≤ h35.size := Nat.le_trans Z32 E35.1
  have F_first_bU : Fld Z h35 bU "com/example/othograph/othograph/Automaton" "first" "[I" .null := D35 (Or.inr (hw _ (List.mem_of_getElem? (i := 22) rfl))) (ty := (.array .int)) (by decide)
  have F_accepting_bU : Fld Z h35 bU "com/example/othograph/othograph/Automaton" "accepting" "[Z" .null := D35 (Or.inr (hw _ (List.mem_of_getElem? (i := 24) rfl))) (ty := (.array .boolean)) (by decide)
  have F_labels_bU : Fld Z h35 bU "com/example/othograph/othograph/Automaton" "labels" "[I" .null := D35 (Or.inr (hw _ (List.mem_of_getElem? (i := 26) rfl))) (ty := (.array .int)) (by decide)
  have F_targets_bU : Fld Z h35 bU "com/example/othograph/othograph/Automaton" "targets" "[I" .null := D35 (Or.inr (hw _ (List.mem_of_getElem? (i := 28) rfl))) (ty := (.array .int)) (by decide)
  have F_offsets_bU : Fld Z h35 bU "com/example/othograph/othograph/Automaton" "offsets" "[I" .null := D35 (Or.inr (hw _ (List.mem_of_getElem? (i := 30) rfl))) (ty := (.array .int)) (by decide)
  have F_size_bU : Fld Z h35 bU "com/example/othograph/othograph/Automaton" "size" "I" (.int (0 : Int32)) := D35 (Or.inr (hw _ (List.mem_of_getElem? (i := 32) rfl))) (ty := .int) (by decide)
  obtain ⟨_, _, ⟨T36, L36, k36, n36⟩, -, X36, ⟨Lc36, hQ36, l36, y36, z36⟩, st36⟩ := X35.specialBack hx (y := (⟨"com/example/othograph/othograph/Automaton", "<init>", "([I[Z[I[I[II)V"⟩ : MethodName)) rfl hown (mvT hZ (hw _ (List.mem_of_getElem? (i := 15) rfl))) (mvT hZ (hw _ (List.mem_of_getElem? (i := 16) rfl))) (mvT hZ (hw _ (List.mem_of_getElem? (i := 17) rfl))) (by decide) (backOf (W := 1) (rm3 l Z a0 hw [] bU bF bA bL bT bO sz _ _ _ _ _ _ h35 n0 Z35 A35 g_bU F_first_bU F_accepting_bU F_labels_bU F_targets_bU F_offsets_bU F_size_bU) hZ (hw _ (List.mem_of_getElem? (i := 17) rfl)) (hw _ (List.mem_of_getElem? (i := 14) rfl)) (by decide) (by decide)) (g := (mkF m 257 #[.val (.int p1), .val (.int p2), .val (.int p3), .val (.int p4), .val (.int l0), .val (.int l1), .val (.int l2), .val (.int n1), .val (.int c1), .val (.int c2), .val (.int n2), .val (.int k1), .val (.ref bF), .val (.ref bA), .val (.ref bL), .val (.ref bT), .val (.ref bO), .val (.int sz), .unset, .unset, .unset, .unset] [(.int sz), (.ref bO), (.ref bT), (.ref bL), (.ref bA), (.ref bF), (.ref bU), (.ref bU)])) rfl (by rw [hml]; rfl) (Steps.refl _) (a := bU) (argsL := [(.ref bF), (.ref bA), (.ref bL), (.ref bT), (.ref bO), (.int sz)]) (rest := [(.ref bU)]) (lenOf pd_3 rfl) rfl (by show 2 * 0 + _ ≤ _; exact Nat.le_of_eq rfl) (hb hby at_257) (fun _ _ => ⟨rfl, e35, (by decide : 6 + 0 ≤ _), (by decide : 23 + 0 ≤ _)⟩)
  dsimp only [Pt.U, Pt.locs, Pt.cells, Pt.slots] at X36 l36 y36 z36 st36 hQ36
  subst l36 y36 z36
  obtain ⟨rfl, N36q, Kc36, Ec36, G136, G236⟩ := hQ36
  have N36 := Fr.app N32 N36q
  have V_bF'_e36 := V_bF'_e35.keep Kc36 (ninS ne_bF_bU nin0)
  have VbA_14_e36 := VbA_14_e35.keep Kc36 (ninS ne_bA_bU nin0)
  have V_bL'_e36 := V_bL'_e35.keep Kc36 (ninS ne_bL_bU nin0)
  have VbT_25_e36 := VbT_25_e35.keep Kc36 (ninS ne_bT_bU nin0)
  have VbO_32_e36 := VbO_32_e35.keep Kc36 (ninS ne_bO_bU nin0)
  have Z36 : n0 ≤ T36.heap.size := Nat.le_trans Z35 Kc36.1
  have pre37 : ∀ t, Steps p.tables e below (T36.setTop (mkF m 262 #[.val (.int p1), .val (.int p2), .val (.int p3), .val (.int p4), .val (.int l0), .val (.int l1), .val (.int l2), .val (.int n1), .val (.int c1), .val (.int c2), .val (.int n2), .val (.int k1), .val (.ref bF), .val (.ref bA), .val (.ref bL), .val (.ref bT), .val (.ref bO), .val (.int sz), .val (.ref bU), .unset, .unset, .unset] [])) t → Steps p.tables e below (s₁.setTop (entryFrame m #[(.int p1), (.int p2), (.int p3), (.int p4)] maxLocals)) t := fun t k => pre34 t (by
    show Steps p.tables e below (T32.setTop (mkF m 239 #[.val (.int p1), .val (.int p2), .val (.int p3), .val (.int p4), .val (.int l0), .val (.int l1), .val (.int l2), .val (.int n1), .val (.int c1), .val (.int c2), .val (.int n2), .val (.int k1), .val (.ref bF), .val (.ref bA), .val (.ref bL), .val (.ref bT), .val (.ref bO), .unset, .unset, .unset, .unset, .unset] [(.int sz)])) _
    refine XS.istore X32.here hx rfl (hb hby at_239) rfl (l' := #[.val (.int p1), .val (.int p2), .val (.int p3), .val (.int p4), .val (.int l0), .val (.int l1), .val (.int l2), .val (.int n1), .val (.int c1), .val (.int c2), .val (.int n2), .val (.int k1), .val (.ref bF), .val (.ref bA), .val (.ref bL), .val (.ref bT), .val (.ref bO), .val (.int sz), .unset, .unset, .unset, .unset]) rfl ?_
    show Steps p.tables e below (T32.setTop (mkF m 241 #[.val (.int p1), .val (.int p2), .val (.int p3), .val (.int p4), .val (.int l0), .val (.int l1), .val (.int l2), .val (.int n1), .val (.int c1), .val (.int c2), .val (.int n2), .val (.int k1), .val (.ref bF), .val (.ref bA), .val (.ref bL), .val (.ref bT), .val (.ref bO), .val (.int sz), .unset, .unset, .unset, .unset] [])) _
    refine st35 _ ?_
    show Steps p.tables e below (T35.setTop (mkF m 244 #[.val (.int p1), .val (.int p2), .val (.int p3), .val (.int p4), .val (.int l0), .val (.int l1), .val (.int l2), .val (.int n1), .val (.int c1), .val (.int c2), .val (.int n2), .val (.int k1), .val (.ref bF), .val (.ref bA), .val (.ref bL), .val (.ref bT), .val (.ref bO), .val (.int sz), .unset, .unset, .unset, .unset] [(.ref bU)])) _
    refine XS.dup X35.here hx rfl (hb hby at_244) rfl rfl ?_
    show Steps p.tables e below (T35.setTop (mkF m 245 #[.val (.int p1), .val (.int p2), .val (.int p3), .val (.int p4), .val (.int l0), .val (.int l1), .val (.int l2), .val (.int n1), .val (.int c1), .val (.int c2), .val (.int n2), .val (.int k1), .val (.ref bF), .val (.ref bA), .val (.ref bL), .val (.ref bT), .val (.ref bO), .val (.int sz), .unset, .unset, .unset, .unset] [(.ref bU), (.ref bU)])) _
    refine XS.aload X35.here hx rfl (hb hby at_245) rfl rfl ?_
    show Steps p.tables e below (T35.setTop (mkF m 247 #[.val (.int p1), .val (.int p2), .val (.int p3), .val (.int p4), .val (.int l0), .val (.int l1), .val (.int l2), .val (.int n1), .val (.int c1), .val (.int c2), .val (.int n2), .val (.int k1), .val (.ref bF), .val (.ref bA), .val (.ref bL), .val (.ref bT), .val (.ref bO), .val (.int sz), .unset, .unset, .unset, .unset] [(.ref bF), (.ref bU), (.ref bU)])) _
    refine XS.aload X35.here hx rfl (hb hby at_247) rfl rfl ?_
    show Steps p.tables e below (T35.setTop (mkF m 249 #[.val (.int p1), .val (.int p2), .val (.int p3), .val (.int p4), .val (.int l0), .val (.int l1), .val (.int l2), .val (.int n1), .val (.int c1), .val (.int c2), .val (.int n2), .val (.int k1), .val (.ref bF), .val (.ref bA), .val (.ref bL), .val (.ref bT), .val (.ref bO), .val (.int sz), .unset, .unset, .unset, .unset] [(.ref bA), (.ref bF), (.ref bU), (.ref bU)])) _
    refine XS.aload X35.here hx rfl (hb hby at_249) rfl rfl ?_
    show Steps p.tables e below (T35.setTop (mkF m 251 #[.val (.int p1), .val (.int p2), .val (.int p3), .val (.int p4), .val (.int l0), .val (.int l1), .val (.int l2), .val (.int n1), .val (.int c1), .val (.int c2), .val (.int n2), .val (.int k1), .val (.ref bF), .val (.ref bA), .val (.ref bL), .val (.ref bT), .val (.ref bO), .val (.int sz), .unset, .unset, .unset, .unset] [(.ref bL), (.ref bA), (.ref bF), (.ref bU), (.ref bU)])) _
    refine XS.aload X35.here hx rfl (hb hby at_251) rfl rfl ?_
    show Steps p.tables e below (T35.setTop (mkF m 253 #[.val (.int p1), .val (.int p2), .val (.int p3), .val (.int p4), .val (.int l0), .val (.int l1), .val (.int l2), .val (.int n1), .val (.int c1), .val (.int c2), .val (.int n2), .val (.int k1), .val (.ref bF), .val (.ref bA), .val (.ref bL), .val (.ref bT), .val (.ref bO), .val (.int sz), .unset, .unset, .unset, .unset] [(.ref bT), (.ref bL), (.ref bA), (.ref bF), (.ref bU), (.ref bU)])) _
    refine XS.aload X35.here hx rfl (hb hby at_253) rfl rfl ?_
    show Steps p.tables e below (T35.setTop (mkF m 255 #[.val (.int p1), .val (.int p2), .val (.int p3), .val (.int p4), .val (.int l0), .val (.int l1), .val (.int l2), .val (.int n1), .val (.int c1), .val (.int c2), .val (.int n2), .val (.int k1), .val (.ref bF), .val (.ref bA), .val (.ref bL), .val (.ref bT), .val (.ref bO), .val (.int sz), .unset, .unset, .unset, .unset] [(.ref bO), (.ref bT), (.ref bL), (.ref bA), (.ref bF), (.ref bU), (.ref bU)])) _
    refine XS.iload X35.here hx rfl (hb hby at_255) rfl ?_
    show Steps p.tables e below (T35.setTop (mkF m 257 #[.val (.int p1), .val (.int p2), .val (.int p3), .val (.int p4), .val (.int l0), .val (.int l1), .val (.int l2), .val (.int n1), .val (.int c1), .val (.int c2), .val (.int n2), .val (.int k1), .val (.ref bF), .val (.ref bA), .val (.ref bL), .val (.ref bT), .val (.ref bO), .val (.int sz), .unset, .unset, .unset, .unset] [(.int sz), (.ref bO), (.ref bT), (.ref bL), (.ref bA), (.ref bF), (.ref bU), (.ref bU)])) _
    refine st36.trans ?_
    show Steps p.tables e below (T36.setTop (mkF m 260 #[.val (.int p1), .val (.int p2), .val (.int p3), .val (.int p4), .val (.int l0), .val (.int l1), .val (.int l2), .val (.int n1), .val (.int c1), .val (.int c2), .val (.int n2), .val (.int k1), .val (.ref bF), .val (.ref bA), .val (.ref bL), .val (.ref bT), .val (.ref bO), .val (.int sz), .unset, .unset, .unset, .unset] [(.ref bU)])) _
    refine XS.astore X36.here hx rfl (hb hby at_260) rfl rfl (l' := #[.val (.int p1), .val (.int p2), .val (.int p3), .val (.int p4), .val (.int l0), .val (.int l1), .val (.int l2), .val (.int n1), .val (.int c1), .val (.int c2), .val (.int n2), .val (.int k1), .val (.ref bF), .val (.ref bA), .val (.ref bL), .val (.ref bT), .val (.ref bO), .val (.int sz), .val (.ref bU), .unset, .unset, .unset]) rfl ?_
    exact k)
  obtain ⟨_, _, ⟨T38, L38, k38, n38⟩, -, X38, ⟨Lc38, hQ38, l38, y38, z38⟩, st38⟩ := Jvm.LawKit.callS X36 hx (y := (⟨"com/example/othograph/othograph/AutomatonLabelPinLaw", "st", "(II)I"⟩ : MethodName)) hown (mvT hZ (hw _ (List.mem_of_getElem? (i := 33) rfl))) (mvT hZ (hw _ (List.mem_of_getElem? (i := 34) rfl))) (mvT hZ (hw _ (List.mem_of_getElem? (i := 7) rfl))) (mvT hZ (hw _ (List.mem_of_getElem? (i := 35) rfl))) (by decide) (backOf (W := 1) (rm5 l Z a0 hw [] (0 : Int32) n1 T36.heap n0 Z36) hZ (hw _ (List.mem_of_getElem? (i := 35) rfl)) (hw _ (List.mem_of_getElem? (i := 7) rfl)) (by decide) (by decide)) (g := (mkF m 267 #[.val (.int p1), .val (.int p2), .val (.int p3), .val (.int p4), .val (.int l0), .val (.int l1), .val (.int l2), .val (.int n1), .val (.int c1), .val (.int c2), .val (.int n2), .val (.int k1), .val (.ref bF), .val (.ref bA), .val (.ref bL), .val (.ref bT), .val (.ref bO), .val (.int sz), .val (.ref bU), .unset, .unset, .unset] [(.int n1), (.int (0 : Int32)), (.ref bU)])) rfl (by rw [hml]; rfl) (argsL := [(.int (0 : Int32)), (.int n1)]) (rest := [(.ref bU)]) (lenOf pd_5 rfl) rfl (by show 2 * 0 + _ ≤ _; exact Nat.le_of_eq rfl) (hb hby at_267) (fun _ _ => ⟨rfl, rfl, (by decide : 6 + 0 ≤ _), (by decide : 23 + 0 ≤ _)⟩)
  dsimp only [Pt.U, Pt.locs, Pt.cells, Pt.slots] at X38 l38 y38 z38 st38 hQ38
  subst l38 y38 z38
  obtain ⟨rfl, N38q, q38⟩ := hQ38
  have N38 := Fr.app N36 N38q
  have K38 : Keep T36.heap T38.heap [] := own_kr q38
  have V_bF'_e38 := V_bF'_e36.keep K38 nin0
  have VbA_14_e38 := VbA_14_e36.keep K38 nin0
  have V_bL'_e38 := V_bL'_e36.keep K38 nin0
  have VbT_25_e38 := VbT_25_e36.keep K38 nin0
  have VbO_32_e38 := VbO_32_e36.keep K38 nin0
  have Ec36_e38 := Ec36.keep K38
  have G136_e38 := G136.keep K38 nin0
  have G236_e38 := G236.keep K38 nin0
  have Z38 : n0 ≤ T38.heap.size := Nat.le_trans Z36 K38.1
  obtain ⟨_, _, ⟨T39, L39, k39, n39⟩, -, X39, ⟨Lc39, hQ39, l39, y39, z39⟩, st39⟩ := Jvm.LawKit.callS X38 hx (y := (⟨"com/example/othograph/othograph/AutomatonLabelPinLaw", "ix", "(II)I"⟩ : MethodName)) hown (mvT hZ (hw _ (List.mem_of_getElem? (i := 36) rfl))) (mvT hZ (hw _ (List.mem_of_getElem? (i := 37) rfl))) (mvT hZ (hw _ (List.mem_of_getElem? (i := 7) rfl))) (mvT hZ (hw _ (List.mem_of_getElem? (i := 38) rfl))) (by decide) (backOf (W := 2) (rm6 l Z a0 hw [] (0 : Int32) n1 T38.heap n0 Z38) hZ (hw _ (List.mem_of_getElem? (i := 38) rfl)) (hw _ (List.mem_of_getElem? (i := 7) rfl)) (by decide) (by decide)) (g := (mkF m 273 #[.val (.int p1), .val (.int p2), .val (.int p3), .val (.int p4), .val (.int l0), .val (.int l1), .val (.int l2), .val (.int n1), .val (.int c1), .val (.int c2), .val (.int n2), .val (.int k1), .val (.ref bF), .val (.ref bA), .val (.ref bL), .val (.ref bT), .val (.ref bO), .val (.int sz), .val (.ref bU), .unset, .unset, .unset] [(.int n1), (.int (0 : Int32)), (.int (own_st (0 : Int32) n1)), (.ref bU)])) rfl (by rw [hml]; rfl) (argsL := [(.int (0 : Int32)), (.int n1)]) (rest := [(.int (own_st (0 : Int32) n1)), (.ref bU)]) (lenOf pd_6 rfl) rfl (by show 2 * 0 + _ ≤ _; exact Nat.le_of_eq rfl) (hb hby at_273) (fun _ _ => ⟨rfl, rfl, (by decide : 6 + 0 ≤ _), (by decide : 23 + 0 ≤ _)⟩)
  dsimp only [Pt.U, Pt.locs, Pt.cells, Pt.slots] at X39 l39 y39 z39 st39 hQ39
  subst l39 y39 z39
  obtain ⟨rfl, N39q, q39⟩ := hQ39
  have N39 := Fr.app N38 N39q
  have K39 : Keep T38.heap T39.heap [] := own_kr q39
  have V_bF'_e39 := V_bF'_e38.keep K39 nin0
  have VbA_14_e39 := VbA_14_e38.keep K39 nin0
  have V_bL'_e39 := V_bL'_e38.keep K39 nin0
  have VbT_25_e39 := VbT_25_e38.keep K39 nin0
  have VbO_32_e39 := VbO_32_e38.keep K39 nin0
  have Ec36_e39 := Ec36_e38.keep K39
  have G136_e39 := G136_e38.keep K39 nin0
  have G236_e39 := G236_e38.keep K39 nin0
  have Z39 : n0 ≤ T39.heap.size := Nat.le_trans Z38 K39.1
  obtain ⟨cq40, kq40, q40a, q40b, q40c⟩ := isOf hZ rfl Ec36_e39
  obtain ⟨_, _, ⟨T40, L40, k40, n40⟩, -, X40, ⟨Lc40, hQ40, l40, y40, z40⟩, st40⟩ := X39.virtualBack hx (y := (⟨"com/example/othograph/othograph/Automaton", "label", "(II)I"⟩ : MethodName)) (z := (⟨"com/example/othograph/othograph/Automaton", "label", "(II)I"⟩ : MethodName)) hown (mvT hZ (hw _ (List.mem_of_getElem? (i := 39) rfl))) (mvT hZ (hw _ (List.mem_of_getElem? (i := 40) rfl))) (notFace_of_selects (args := #[]) (mvT hZ (hw _ (List.mem_of_getElem? (i := 42) rfl)))) (mvT hZ (hw _ (List.mem_of_getElem? (i := 42) rfl))) (mvT hZ (hw _ (List.mem_of_getElem? (i := 41) rfl))) (by decide) (backOf (W := 0) (rm7 l Z a0 hw [] bU (own_st (0 : Int32) n1) (own_ix (0 : Int32) n1) bF bL _ _ (own_x (0 : Int32) n1) l0 T39.heap n0 Z39 G136_e39 G236_e39 V_bF'_e39 V_bL'_e39 (own_f0 (0 : Int32) n1) (own_f (0 : Int32) n1) (by rw [own_sum]; decide) (by rw [own_sum]; rfl)) hZ (hw _ (List.mem_of_getElem? (i := 43) rfl)) (hw _ (List.mem_of_getElem? (i := 14) rfl)) (by decide) (by decide)) q40a q40c (g := (mkF m 276 #[.val (.int p1), .val (.int p2), .val (.int p3), .val (.int p4), .val (.int l0), .val (.int l1), .val (.int l2), .val (.int n1), .val (.int c1), .val (.int c2), .val (.int n2), .val (.int k1), .val (.ref bF), .val (.ref bA), .val (.ref bL), .val (.ref bT), .val (.ref bO), .val (.int sz), .val (.ref bU), .unset, .unset, .unset] [(.int (own_ix (0 : Int32) n1)), (.int (own_st (0 : Int32) n1)), (.ref bU)])) rfl (by rw [hml]; rfl) (Steps.refl _) (argsL := [(.int (own_st (0 : Int32) n1)), (.int (own_ix (0 : Int32) n1))]) (rest := []) (lenOf pd_7 rfl) rfl (by show 2 * 0 + _ ≤ _; exact Nat.le_of_eq rfl) (hb hby at_276) (fun _ _ => ⟨rfl, rfl, (by decide : 6 + 0 ≤ _), (by decide : 23 + 0 ≤ _)⟩)
  dsimp only [Pt.U, Pt.locs, Pt.cells, Pt.slots] at X40 l40 y40 z40 st40 hQ40
  subst l40 y40 z40
  obtain ⟨rfl, N40q, q40⟩ := hQ40
  have N40 := Fr.app N39 N40q
  have K40 : Keep T39.heap T40.heap [] := own_kr q40
  have V_bF'_e40 := V_bF'_e39.keep K40 nin0
  have VbA_14_e40 := VbA_14_e39.keep K40 nin0
  have V_bL'_e40 := V_bL'_e39.keep K40 nin0
  have VbT_25_e40 := VbT_25_e39.keep K40 nin0
  have VbO_32_e40 := VbO_32_e39.keep K40 nin0
  have Ec36_e40 := Ec36_e39.keep K40
  have G136_e40 := G136_e39.keep K40 nin0
  have G236_e40 := G236_e39.keep K40 nin0
  have Z40 : n0 ≤ T40.heap.size := Nat.le_trans Z39 K40.1
  obtain ⟨_, _, ⟨T41, L41, k41, n41⟩, -, X41, ⟨Lc41, hQ41, l41, y41, z41⟩, st41⟩ := Jvm.LawKit.callS X40 hx (y := (⟨"com/example/othograph/othograph/AutomatonLabelPinLaw", "st", "(II)I"⟩ : MethodName)) hown (mvT hZ (hw _ (List.mem_of_getElem? (i := 33) rfl))) (mvT hZ (hw _ (List.mem_of_getElem? (i := 34) rfl))) (mvT hZ (hw _ (List.mem_of_getElem? (i := 7) rfl))) (mvT hZ (hw _ (List.mem_of_getElem? (i := 35) rfl))) (by decide) (backOf (W := 1) (rm5 l Z a0 hw [] (1 : Int32) n1 T40.heap n0 Z40) hZ (hw _ (List.mem_of_getElem? (i := 35) rfl)) (hw _ (List.mem_of_getElem? (i := 7) rfl)) (by decide) (by decide)) (g := (mkF m 286 #[.val (.int p1), .val (.int p2), .val (.int p3), .val (.int p4), .val (.int l0), .val (.int l1), .val (.int l2), .val (.int n1), .val (.int c1), .val (.int c2), .val (.int n2), .val (.int k1), .val (.ref bF), .val (.ref bA), .val (.ref bL), .val (.ref bT), .val (.ref bO), .val (.int sz), .val (.ref bU), .val (.int l0), .unset, .unset] [(.int n1), (.int (1 : Int32)), (.ref bU)])) rfl (by rw [hml]; rfl) (argsL := [(.int (1 : Int32)), (.int n1)]) (rest := [(.ref bU)]) (lenOf pd_5 rfl) rfl (by show 2 * 0 + _ ≤ _; exact Nat.le_of_eq rfl) (hb hby at_286) (fun _ _ => ⟨rfl, rfl, (by decide : 6 + 0 ≤ _), (by decide : 23 + 0 ≤ _)⟩)
  dsimp only [Pt.U, Pt.locs, Pt.cells, Pt.slots] at X41 l41 y41 z41 st41 hQ41
  subst l41 y41 z41
  obtain ⟨rfl, N41q, q41⟩ := hQ41
  have N41 := Fr.app N40 N41q
  have K41 : Keep T40.heap T41.heap [] := own_kr q41
  have V_bF'_e41 := V_bF'_e40.keep K41 nin0
  have VbA_14_e41 := VbA_14_e40.keep K41 nin0
  have V_bL'_e41 := V_bL'_e40.keep K41 nin0
  have VbT_25_e41 := VbT_25_e40.keep K41 nin0
  have VbO_32_e41 := VbO_32_e40.keep K41 nin0
  have Ec36_e41 := Ec36_e40.keep K41
  have G136_e41 := G136_e40.keep K41 nin0
  have G236_e41 := G236_e40.keep K41 nin0
  have Z41 : n0 ≤ T41.heap.size := Nat.le_trans Z40 K41.1
  obtain ⟨_, _, ⟨T42, L42, k42, n42⟩, -, X42, ⟨Lc42, hQ42, l42, y42, z42⟩, st42⟩ := Jvm.LawKit.callS X41 hx (y := (⟨"com/example/othograph/othograph/AutomatonLabelPinLaw", "ix", "(II)I"⟩ : MethodName)) hown (mvT hZ (hw _ (List.mem_of_getElem? (i := 36) rfl))) (mvT hZ (hw _ (List.mem_of_getElem? (i := 37) rfl))) (mvT hZ (hw _ (List.mem_of_getElem? (i := 7) rfl))) (mvT hZ (hw _ (List.mem_of_getElem? (i := 38) rfl))) (by decide) (backOf (W := 2) (rm6 l Z a0 hw [] (1 : Int32) n1 T41.heap n0 Z41) hZ (hw _ (List.mem_of_getElem? (i := 38) rfl)) (hw _ (List.mem_of_getElem? (i := 7) rfl)) (by decide) (by decide)) (g := (mkF m 292 #[.val (.int p1), .val (.int p2), .val (.int p3), .val (.int p4), .val (.int l0), .val (.int l1), .val (.int l2), .val (.int n1), .val (.int c1), .val (.int c2), .val (.int n2), .val (.int k1), .val (.ref bF), .val (.ref bA), .val (.ref bL), .val (.ref bT), .val (.ref bO), .val (.int sz), .val (.ref bU), .val (.int l0), .unset, .unset] [(.int n1), (.int (1 : Int32)), (.int (own_st (1 : Int32) n1)), (.ref bU)])) rfl (by rw [hml]; rfl) (argsL := [(.int (1 : Int32)), (.int n1)]) (rest := [(.int (own_st (1 : Int32) n1)), (.ref bU)]) (lenOf pd_6 rfl) rfl (by show 2 * 0 + _ ≤ _; exact Nat.le_of_eq rfl) (hb hby at_292) (fun _ _ => ⟨rfl, rfl, (by decide : 6 + 0 ≤ _), (by decide : 23 + 0 ≤ _)⟩)
  dsimp only [Pt.U, Pt.locs, Pt.cells, Pt.slots] at X42 l42 y42 z42 st42 hQ42
  subst l42 y42 z42
  obtain ⟨rfl, N42q, q42⟩ := hQ42
  have N42 := Fr.app N41 N42q
  have K42 : Keep T41.heap T42.heap [] := own_kr q42
  have V_bF'_e42 := V_bF'_e41.keep K42 nin0
  have VbA_14_e42 := VbA_14_e41.keep K42 nin0
  have V_bL'_e42 := V_bL'_e41.keep K42 nin0
  have VbT_25_e42 := VbT_25_e41.keep K42 nin0
  have VbO_32_e42 := VbO_32_e41.keep K42 nin0
  have Ec36_e42 := Ec36_e41.keep K42
  have G136_e42 := G136_e41.keep K42 nin0
  have G236_e42 := G236_e41.keep K42 nin0
  have Z42 : n0 ≤ T42.heap.size := Nat.le_trans Z41 K42.1
  obtain ⟨cq43, kq43, q43a, q43b, q43c⟩ := isOf hZ rfl Ec36_e42
  obtain ⟨_, _, ⟨T43, L43, k43, n43⟩, -, X43, ⟨Lc43, hQ43, l43, y43, z43⟩, st43⟩ := X42.virtualBack hx (y := (⟨"com/example/othograph/othograph/Automaton", "label", "(II)I"⟩ : MethodName)) (z := (⟨"com/example/othograph/othograph/Automaton", "label", "(II)I"⟩ : MethodName)) hown (mvT hZ (hw _ (List.mem_of_getElem? (i := 39) rfl))) (mvT hZ (hw _ (List.mem_of_getElem? (i := 40) rfl))) (notFace_of_selects (args := #[]) (mvT hZ (hw _ (List.mem_of_getElem? (i := 42) rfl)))) (mvT hZ (hw _ (List.mem_of_getElem? (i := 42) rfl))) (mvT hZ (hw _ (List.mem_of_getElem? (i := 41) rfl))) (by decide) (backOf (W := 0) (rm7 l Z a0 hw [] bU (own_st (1 : Int32) n1) (own_ix (1 : Int32) n1) bF bL _ _ (own_x (1 : Int32) n1) l1 T42.heap n0 Z42 G136_e42 G236_e42 V_bF'_e42 V_bL'_e42 (own_f0 (1 : Int32) n1) (own_f (1 : Int32) n1) (by rw [own_sum]; decide) (by rw [own_sum]; rfl)) hZ (hw _ (List.mem_of_getElem? (i := 43) rfl)) (hw _ (List.mem_of_getElem? (i := 14) rfl)) (by decide) (by decide)) q43a q43c (g := (mkF m 295 #[.val (.int p1), .val (.int p2), .val (.int p3), .val (.int p4), .val (.int l0), .val (.int l1), .val (.int l2), .val (.int n1), .val (.int c1), .val (.int c2), .val (.int n2), .val (.int k1), .val (.ref bF), .val (.ref bA), .val (.ref bL), .val (.ref bT), .val (.ref bO), .val (.int sz), .val (.ref bU), .val (.int l0), .unset, .unset] [(.int (own_ix (1 : Int32) n1)), (.int (own_st (1 : Int32) n1)), (.ref bU)])) rfl (by rw [hml]; rfl) (Steps.refl _) (argsL := [(.int (own_st (1 : Int32) n1)), (.int (own_ix (1 : Int32) n1))]) (rest := []) (lenOf pd_7 rfl) rfl (by show 2 * 0 + _ ≤ _; exact Nat.le_of_eq rfl) (hb hby at_295) (fun _ _ => ⟨rfl, rfl, (by decide : 6 + 0 ≤ _), (by decide : 23 + 0 ≤ _)⟩)
  dsimp only [Pt.U, Pt.locs, Pt.cells, Pt.slots] at X43 l43 y43 z43 st43 hQ43
  subst l43 y43 z43
  obtain ⟨rfl, N43q, q43⟩ := hQ43
  have N43 := Fr.app N42 N43q
  have K43 : Keep T42.heap T43.heap [] := own_kr q43
  have V_bF'_e43 := V_bF'_e42.keep K43 nin0
  have VbA_14_e43 := VbA_14_e42.keep K43 nin0
  have V_bL'_e43 := V_bL'_e42.keep K43 nin0
  have VbT_25_e43 := VbT_25_e42.keep K43 nin0
  have VbO_32_e43 := VbO_32_e42.keep K43 nin0
  have Ec36_e43 := Ec36_e42.keep K43
  have G136_e43 := G136_e42.keep K43 nin0
  have G236_e43 := G236_e42.keep K43 nin0
  have Z43 : n0 ≤ T43.heap.size := Nat.le_trans Z42 K43.1
  obtain ⟨_, _, ⟨T44, L44, k44, n44⟩, -, X44, ⟨Lc44, hQ44, l44, y44, z44⟩, st44⟩ := Jvm.LawKit.callS X43 hx (y := (⟨"com/example/othograph/othograph/AutomatonLabelPinLaw", "st", "(II)I"⟩ : MethodName)) hown (mvT hZ (hw _ (List.mem_of_getElem? (i := 33) rfl))) (mvT hZ (hw _ (List.mem_of_getElem? (i := 34) rfl))) (mvT hZ (hw _ (List.mem_of_getElem? (i := 7) rfl))) (mvT hZ (hw _ (List.mem_of_getElem? (i := 35) rfl))) (by decide) (backOf (W := 1) (rm5 l Z a0 hw [] (2 : Int32) n1 T43.heap n0 Z43) hZ (hw _ (List.mem_of_getElem? (i := 35) rfl)) (hw _ (List.mem_of_getElem? (i := 7) rfl)) (by decide) (by decide)) (g := (mkF m 305 #[.val (.int p1), .val (.int p2), .val (.int p3), .val (.int p4), .val (.int l0), .val (.int l1), .val (.int l2), .val (.int n1), .val (.int c1), .val (.int c2), .val (.int n2), .val (.int k1), .val (.ref bF), .val (.ref bA), .val (.ref bL), .val (.ref bT), .val (.ref bO), .val (.int sz), .val (.ref bU), .val (.int l0), .val (.int l1), .unset] [(.int n1), (.int (2 : Int32)), (.ref bU)])) rfl (by rw [hml]; rfl) (argsL := [(.int (2 : Int32)), (.int n1)]) (rest := [(.ref bU)]) (lenOf pd_5 rfl) rfl (by show 2 * 0 + _ ≤ _; exact Nat.le_of_eq rfl) (hb hby at_305) (fun _ _ => ⟨rfl, rfl, (by decide : 6 + 0 ≤ _), (by decide : 23 + 0 ≤ _)⟩)
  dsimp only [Pt.U, Pt.locs, Pt.cells, Pt.slots] at X44 l44 y44 z44 st44 hQ44
  subst l44 y44 z44
  obtain ⟨rfl, N44q, q44⟩ := hQ44
  have N44 := Fr.app N43 N44q
  have K44 : Keep T43.heap T44.heap [] := own_kr q44
  have V_bF'_e44 := V_bF'_e43.keep K44 nin0
  have VbA_14_e44 := VbA_14_e43.keep K44 nin0
  have V_bL'_e44 := V_bL'_e43.keep K44 nin0
  have VbT_25_e44 := VbT_25_e43.keep K44 nin0
  have VbO_32_e44 := VbO_32_e43.keep K44 nin0
  have Ec36_e44 := Ec36_e43.keep K44
  have G136_e44 := G136_e43.keep K44 nin0
  have G236_e44 := G236_e43.keep K44 nin0
  have Z44 : n0 ≤ T44.heap.size := Nat.le_trans Z43 K44.1
  obtain ⟨_, _, ⟨T45, L45, k45, n45⟩, -, X45, ⟨Lc45, hQ45, l45, y45, z45⟩, st45⟩ := Jvm.LawKit.callS X44 hx (y := (⟨"com/example/othograph/othograph/AutomatonLabelPinLaw", "ix", "(II)I"⟩ : MethodName)) hown (mvT hZ (hw _ (List.mem_of_getElem? (i := 36) rfl))) (mvT hZ (hw _ (List.mem_of_getElem? (i := 37) rfl))) (mvT hZ (hw _ (List.mem_of_getElem? (i := 7) rfl))) (mvT hZ (hw _ (List.mem_of_getElem? (i := 38) rfl))) (by decide) (backOf (W := 2) (rm6 l Z a0 hw [] (2 : Int32) n1 T44.heap n0 Z44) hZ (hw _ (List.mem_of_getElem? (i := 38) rfl)) (hw _ (List.mem_of_getElem? (i := 7) rfl)) (by decide) (by decide)) (g := (mkF m 311 #[.val (.int p1), .val (.int p2), .val (.int p3), .val (.int p4), .val (.int l0), .val (.int l1), .val (.int l2), .val (.int n1), .val (.int c1), .val (.int c2), .val (.int n2), .val (.int k1), .val (.ref bF), .val (.ref bA), .val (.ref bL), .val (.ref bT), .val (.ref bO), .val (.int sz), .val (.ref bU), .val (.int l0), .val (.int l1), .unset] [(.int n1), (.int (2 : Int32)), (.int (own_st (2 : Int32) n1)), (.ref bU)])) rfl (by rw [hml]; rfl) (argsL := [(.int (2 : Int32)), (.int n1)]) (rest := [(.int (own_st (2 : Int32) n1)), (.ref bU)]) (lenOf pd_6 rfl) rfl (by show 2 * 0 + _ ≤ _; exact Nat.le_of_eq rfl) (hb hby at_311) (fun _ _ => ⟨rfl, rfl, (by decide : 6 + 0 ≤ _), (by decide : 23 + 0 ≤ _)⟩)
  dsimp only [Pt.U, Pt.locs, Pt.cells, Pt.slots] at X45 l45 y45 z45 st45 hQ45
  subst l45 y45 z45
  obtain ⟨rfl, N45q, q45⟩ := hQ45
  have N45 := Fr.app N44 N45q
  have K45 : Keep T44.heap T45.heap [] := own_kr q45
  have V_bF'_e45 := V_bF'_e44.keep K45 nin0
  have VbA_14_e45 := VbA_14_e44.keep K45 nin0
  have V_bL'_e45 := V_bL'_e44.keep K45 nin0
  have VbT_25_e45 := VbT_25_e44.keep K45 nin0
  have VbO_32_e45 := VbO_32_e44.keep K45 nin0
  have Ec36_e45 := Ec36_e44.keep K45
  have G136_e45 := G136_e44.keep K45 nin0
  have G236_e45 := G236_e44.keep K45 nin0
  have Z45 : n0 ≤ T45.heap.size := Nat.le_trans Z44 K45.1
  obtain ⟨cq46, kq46, q46a, q46b, q46c⟩ := isOf hZ rfl Ec36_e45
  obtain ⟨_, _, ⟨T46, L46, k46, n46⟩, -, X46, ⟨Lc46, hQ46, l46, y46, z46⟩, st46⟩ := X45.virtualBack hx (y := (⟨"com/example/othograph/othograph/Automaton", "label", "(II)I"⟩ : MethodName)) (z := (⟨"com/example/othograph/othograph/Automaton", "label", "(II)I"⟩ : MethodName)) hown (mvT hZ (hw _ (List.mem_of_getElem? (i := 39) rfl))) (mvT hZ (hw _ (List.mem_of_getElem? (i := 40) rfl))) (notFace_of_selects (args := #[]) (mvT hZ (hw _ (List.mem_of_getElem? (i := 42) rfl)))) (mvT hZ (hw _ (List.mem_of_getElem? (i := 42) rfl))) (mvT hZ (hw _ (List.mem_of_getElem? (i := 41) rfl))) (by decide) (backOf (W := 0) (rm7 l Z a0 hw [] bU (own_st (2 : Int32) n1) (own_ix (2 : Int32) n1) bF bL _ _ (own_x (2 : Int32) n1) l2 T45.heap n0 Z45 G136_e45 G236_e45 V_bF'_e45 V_bL'_e45 (own_f0 (2 : Int32) n1) (own_f (2 : Int32) n1) (by rw [own_sum]; decide) (by rw [own_sum]; rfl)) hZ (hw _ (List.mem_of_getElem? (i := 43) rfl)) (hw _ (List.mem_of_getElem? (i := 14) rfl)) (by decide) (by decide)) q46a q46c (g := (mkF m 314 #[.val (.int p1), .val (.int p2), .val (.int p3), .val (.int p4), .val (.int l0), .val (.int l1), .val (.int l2), .val (.int n1), .val (.int c1), .val (.int c2), .val (.int n2), .val (.int k1), .val (.ref bF), .val (.ref bA), .val (.ref bL), .val (.ref bT), .val (.ref bO), .val (.int sz), .val (.ref bU), .val (.int l0), .val (.int l1), .unset] [(.int (own_ix (2 : Int32) n1)), (.int (own_st (2 : Int32) n1)), (.ref bU)])) rfl (by rw [hml]; rfl) (Steps.refl _) (argsL := [(.int (own_st (2 : Int32) n1)), (.int (own_ix (2 : Int32) n1))]) (rest := []) (lenOf pd_7 rfl) rfl (by show 2 * 0 + _ ≤ _; exact Nat.le_of_eq rfl) (hb hby at_314) (fun _ _ => ⟨rfl, rfl, (by decide : 6 + 0 ≤ _), (by decide : 23 + 0 ≤ _)⟩)
  dsimp only [Pt.U, Pt.locs, Pt.cells, Pt.slots] at X46 l46 y46 z46 st46 hQ46
  subst l46 y46 z46
  obtain ⟨rfl, N46q, q46⟩ := hQ46
  have N46 := Fr.app N45 N46q
  have K46 : Keep T45.heap T46.heap [] := own_kr q46
  have V_bF'_e46 := V_bF'_e45.keep K46 nin0
  have VbA_14_e46 := VbA_14_e45.keep K46 nin0
  have V_bL'_e46 := V_bL'_e45.keep K46 nin0
  have VbT_25_e46 := VbT_25_e45.keep K46 nin0
  have VbO_32_e46 := VbO_32_e45.keep K46 nin0
  have Ec36_e46 := Ec36_e45.keep K46
  have G136_e46 := G136_e45.keep K46 nin0
  have G236_e46 := G236_e45.keep K46 nin0
  have Z46 : n0 ≤ T46.heap.size := Nat.le_trans Z45 K46.1
  obtain ⟨fs, hr, hrun, hended, hW, hsame⟩ := X46.leave (v := some (.int (1 : Int32))) (fun h => by rw [Bd.returns] at h; cases h)
  refine ⟨_, _, pre37 _ ?_, hrun, hended, _, _, rfl, ?_, ⟨_, rfl⟩, hW, hsame.mono (by decide) (by decide)⟩
  · show Steps p.tables e below (T36.setTop (mkF m 262 #[.val (.int p1), .val (.int p2), .val (.int p3), .val (.int p4), .val (.int l0), .val (.int l1), .val (.int l2), .val (.int n1), .val (.int c1), .val (.int c2), .val (.int n2), .val (.int k1), .val (.ref bF), .val (.ref bA), .val (.ref bL), .val (.ref bT), .val (.ref bO), .val (.int sz), .val (.ref bU), .unset, .unset, .unset] [])) _
    refine XS.aload X36.here hx rfl (hb hby at_262) rfl rfl ?_
    show Steps p.tables e below (T36.setTop (mkF m 264 #[.val (.int p1), .val (.int p2), .val (.int p3), .val (.int p4), .val (.int l0), .val (.int l1), .val (.int l2), .val (.int n1), .val (.int c1), .val (.int c2), .val (.int n2), .val (.int k1), .val (.ref bF), .val (.ref bA), .val (.ref bL), .val (.ref bT), .val (.ref bO), .val (.int sz), .val (.ref bU), .unset, .unset, .unset] [(.ref bU)])) _
    refine XS.iconst X36.here hx rfl (hb hby at_264) ?_
    show Steps p.tables e below (T36.setTop (mkF m 265 #[.val (.int p1), .val (.int p2), .val (.int p3), .val (.int p4), .val (.int l0), .val (.int l1), .val (.int l2), .val (.int n1), .val (.int c1), .val (.int c2), .val (.int n2), .val (.int k1), .val (.ref bF), .val (.ref bA), .val (.ref bL), .val (.ref bT), .val (.ref bO), .val (.int sz), .val (.ref bU), .unset, .unset, .unset] [(.int (0 : Int32)), (.ref bU)])) _
    refine XS.iload X36.here hx rfl (hb hby at_265) rfl ?_
    show Steps p.tables e below (T36.setTop (mkF m 267 #[.val (.int p1), .val (.int p2), .val (.int p3), .val (.int p4), .val (.int l0), .val (.int l1), .val (.int l2), .val (.int n1), .val (.int c1), .val (.int c2), .val (.int n2), .val (.int k1), .val (.ref bF), .val (.ref bA), .val (.ref bL), .val (.ref bT), .val (.ref bO), .val (.int sz), .val (.ref bU), .unset, .unset, .unset] [(.int n1), (.int (0 : Int32)), (.ref bU)])) _
    refine st38 _ ?_
    show Steps p.tables e below (T38.setTop (mkF m 270 #[.val (.int p1), .val (.int p2), .val (.int p3), .val (.int p4), .val (.int l0), .val (.int l1), .val (.int l2), .val (.int n1), .val (.int c1), .val (.int c2), .val (.int n2), .val (.int k1), .val (.ref bF), .val (.ref bA), .val (.ref bL), .val (.ref bT), .val (.ref bO), .val (.int sz), .val (.ref bU), .unset, .unset, .unset] [(.int (own_st (0 : Int32) n1)), (.ref bU)])) _
    refine XS.iconst X38.here hx rfl (hb hby at_270) ?_
    show Steps p.tables e below (T38.setTop (mkF m 271 #[.val (.int p1), .val (.int p2), .val (.int p3), .val (.int p4), .val (.int l0), .val (.int l1), .val (.int l2), .val (.int n1), .val (.int c1), .val (.int c2), .val (.int n2), .val (.int k1), .val (.ref bF), .val (.ref bA), .val (.ref bL), .val (.ref bT), .val (.ref bO), .val (.int sz), .val (.ref bU), .unset, .unset, .unset] [(.int (0 : Int32)), (.int (own_st (0 : Int32) n1)), (.ref bU)])) _
    refine XS.iload X38.here hx rfl (hb hby at_271) rfl ?_
    show Steps p.tables e below (T38.setTop (mkF m 273 #[.val (.int p1), .val (.int p2), .val (.int p3), .val (.int p4), .val (.int l0), .val (.int l1), .val (.int l2), .val (.int n1), .val (.int c1), .val (.int c2), .val (.int n2), .val (.int k1), .val (.ref bF), .val (.ref bA), .val (.ref bL), .val (.ref bT), .val (.ref bO), .val (.int sz), .val (.ref bU), .unset, .unset, .unset] [(.int n1), (.int (0 : Int32)), (.int (own_st (0 : Int32) n1)), (.ref bU)])) _
    refine st39 _ ?_
    show Steps p.tables e below (T39.setTop (mkF m 276 #[.val (.int p1), .val (.int p2), .val (.int p3), .val (.int p4), .val (.int l0), .val (.int l1), .val (.int l2), .val (.int n1), .val (.int c1), .val (.int c2), .val (.int n2), .val (.int k1), .val (.ref bF), .val (.ref bA), .val (.ref bL), .val (.ref bT), .val (.ref bO), .val (.int sz), .val (.ref bU), .unset, .unset, .unset] [(.int (own_ix (0 : Int32) n1)), (.int (own_st (0 : Int32) n1)), (.ref bU)])) _
    refine st40.trans ?_
    show Steps p.tables e below (T40.setTop (mkF m 279 #[.val (.int p1), .val (.int p2), .val (.int p3), .val (.int p4), .val (.int l0), .val (.int l1), .val (.int l2), .val (.int n1), .val (.int c1), .val (.int c2), .val (.int n2), .val (.int k1), .val (.ref bF), .val (.ref bA), .val (.ref bL), .val (.ref bT), .val (.ref bO), .val (.int sz), .val (.ref bU), .unset, .unset, .unset] [(.int l0)])) _
    refine XS.istore X40.here hx rfl (hb hby at_279) rfl (l' := #[.val (.int p1), .val (.int p2), .val (.int p3), .val (.int p4), .val (.int l0), .val (.int l1), .val (.int l2), .val (.int n1), .val (.int c1), .val (.int c2), .val (.int n2), .val (.int k1), .val (.ref bF), .val (.ref bA), .val (.ref bL), .val (.ref bT), .val (.ref bO), .val (.int sz), .val (.ref bU), .val (.int l0), .unset, .unset]) rfl ?_
    show Steps p.tables e below (T40.setTop (mkF m 281 #[.val (.int p1), .val (.int p2), .val (.int p3), .val (.int p4), .val (.int l0), .val (.int l1), .val (.int l2), .val (.int n1), .val (.int c1), .val (.int c2), .val (.int n2), .val (.int k1), .val (.ref bF), .val (.ref bA), .val (.ref bL), .val (.ref bT), .val (.ref bO), .val (.int sz), .val (.ref bU), .val (.int l0), .unset, .unset] [])) _
    refine XS.aload X40.here hx rfl (hb hby at_281) rfl rfl ?_
    show Steps p.tables e below (T40.setTop (mkF m 283 #[.val (.int p1), .val (.int p2), .val (.int p3), .val (.int p4), .val (.int l0), .val (.int l1), .val (.int l2), .val (.int n1), .val (.int c1), .val (.int c2), .val (.int n2), .val (.int k1), .val (.ref bF), .val (.ref bA), .val (.ref bL), .val (.ref bT), .val (.ref bO), .val (.int sz), .val (.ref bU), .val (.int l0), .unset, .unset] [(.ref bU)])) _
    refine XS.iconst X40.here hx rfl (hb hby at_283) ?_
    show Steps p.tables e below (T40.setTop (mkF m 284 #[.val (.int p1), .val (.int p2), .val (.int p3), .val (.int p4), .val (.int l0), .val (.int l1), .val (.int l2), .val (.int n1), .val (.int c1), .val (.int c2), .val (.int n2), .val (.int k1), .val (.ref bF), .val (.ref bA), .val (.ref bL), .val (.ref bT), .val (.ref bO), .val (.int sz), .val (.ref bU), .val (.int l0), .unset, .unset] [(.int (1 : Int32)), (.ref bU)])) _
    refine XS.iload X40.here hx rfl (hb hby at_284) rfl ?_
    show Steps p.tables e below (T40.setTop (mkF m 286 #[.val (.int p1), .val (.int p2), .val (.int p3), .val (.int p4), .val (.int l0), .val (.int l1), .val (.int l2), .val (.int n1), .val (.int c1), .val (.int c2), .val (.int n2), .val (.int k1), .val (.ref bF), .val (.ref bA), .val (.ref bL), .val (.ref bT), .val (.ref bO), .val (.int sz), .val (.ref bU), .val (.int l0), .unset, .unset] [(.int n1), (.int (1 : Int32)), (.ref bU)])) _
    refine st41 _ ?_
    show Steps p.tables e below (T41.setTop (mkF m 289 #[.val (.int p1), .val (.int p2), .val (.int p3), .val (.int p4), .val (.int l0), .val (.int l1), .val (.int l2), .val (.int n1), .val (.int c1), .val (.int c2), .val (.int n2), .val (.int k1), .val (.ref bF), .val (.ref bA), .val (.ref bL), .val (.ref bT), .val (.ref bO), .val (.int sz), .val (.ref bU), .val (.int l0), .unset, .unset] [(.int (own_st (1 : Int32) n1)), (.ref bU)])) _
    refine XS.iconst X41.here hx rfl (hb hby at_289) ?_
    show Steps p.tables e below (T41.setTop (mkF m 290 #[.val (.int p1), .val (.int p2), .val (.int p3), .val (.int p4), .val (.int l0), .val (.int l1), .val (.int l2), .val (.int n1), .val (.int c1), .val (.int c2), .val (.int n2), .val (.int k1), .val (.ref bF), .val (.ref bA), .val (.ref bL), .val (.ref bT), .val (.ref bO), .val (.int sz), .val (.ref bU), .val (.int l0), .unset, .unset] [(.int (1 : Int32)), (.int (own_st (1 : Int32) n1)), (.ref bU)])) _
    refine XS.iload X41.here hx rfl (hb hby at_290) rfl ?_
    show Steps p.tables e below (T41.setTop (mkF m 292 #[.val (.int p1), .val (.int p2), .val (.int p3), .val (.int p4), .val (.int l0), .val (.int l1), .val (.int l2), .val (.int n1), .val (.int c1), .val (.int c2), .val (.int n2), .val (.int k1), .val (.ref bF), .val (.ref bA), .val (.ref bL), .val (.ref bT), .val (.ref bO), .val (.int sz), .val (.ref bU), .val (.int l0), .unset, .unset] [(.int n1), (.int (1 : Int32)), (.int (own_st (1 : Int32) n1)), (.ref bU)])) _
    refine st42 _ ?_
    show Steps p.tables e below (T42.setTop (mkF m 295 #[.val (.int p1), .val (.int p2), .val (.int p3), .val (.int p4), .val (.int l0), .val (.int l1), .val (.int l2), .val (.int n1), .val (.int c1), .val (.int c2), .val (.int n2), .val (.int k1), .val (.ref bF), .val (.ref bA), .val (.ref bL), .val (.ref bT), .val (.ref bO), .val (.int sz), .val (.ref bU), .val (.int l0), .unset, .unset] [(.int (own_ix (1 : Int32) n1)), (.int (own_st (1 : Int32) n1)), (.ref bU)])) _
    refine st43.trans ?_
    show Steps p.tables e below (T43.setTop (mkF m 298 #[.val (.int p1), .val (.int p2), .val (.int p3), .val (.int p4), .val (.int l0), .val (.int l1), .val (.int l2), .val (.int n1), .val (.int c1), .val (.int c2), .val (.int n2), .val (.int k1), .val (.ref bF), .val (.ref bA), .val (.ref bL), .val (.ref bT), .val (.ref bO), .val (.int sz), .val (.ref bU), .val (.int l0), .unset, .unset] [(.int l1)])) _
    refine XS.istore X43.here hx rfl (hb hby at_298) rfl (l' := #[.val (.int p1), .val (.int p2), .val (.int p3), .val (.int p4), .val (.int l0), .val (.int l1), .val (.int l2), .val (.int n1), .val (.int c1), .val (.int c2), .val (.int n2), .val (.int k1), .val (.ref bF), .val (.ref bA), .val (.ref bL), .val (.ref bT), .val (.ref bO), .val (.int sz), .val (.ref bU), .val (.int l0), .val (.int l1), .unset]) rfl ?_
    show Steps p.tables e below (T43.setTop (mkF m 300 #[.val (.int p1), .val (.int p2), .val (.int p3), .val (.int p4), .val (.int l0), .val (.int l1), .val (.int l2), .val (.int n1), .val (.int c1), .val (.int c2), .val (.int n2), .val (.int k1), .val (.ref bF), .val (.ref bA), .val (.ref bL), .val (.ref bT), .val (.ref bO), .val (.int sz), .val (.ref bU), .val (.int l0), .val (.int l1), .unset] [])) _
    refine XS.aload X43.here hx rfl (hb hby at_300) rfl rfl ?_
    show Steps p.tables e below (T43.setTop (mkF m 302 #[.val (.int p1), .val (.int p2), .val (.int p3), .val (.int p4), .val (.int l0), .val (.int l1), .val (.int l2), .val (.int n1), .val (.int c1), .val (.int c2), .val (.int n2), .val (.int k1), .val (.ref bF), .val (.ref bA), .val (.ref bL), .val (.ref bT), .val (.ref bO), .val (.int sz), .val (.ref bU), .val (.int l0), .val (.int l1), .unset] [(.ref bU)])) _
    refine XS.iconst X43.here hx rfl (hb hby at_302) ?_
    show Steps p.tables e below (T43.setTop (mkF m 303 #[.val (.int p1), .val (.int p2), .val (.int p3), .val (.int p4), .val (.int l0), .val (.int l1), .val (.int l2), .val (.int n1), .val (.int c1), .val (.int c2), .val (.int n2), .val (.int k1), .val (.ref bF), .val (.ref bA), .val (.ref bL), .val (.ref bT), .val (.ref bO), .val (.int sz), .val (.ref bU), .val (.int l0), .val (.int l1), .unset] [(.int (2 : Int32)), (.ref bU)])) _
    refine XS.iload X43.here hx rfl (hb hby at_303) rfl ?_
    show Steps p.tables e below (T43.setTop (mkF m 305 #[.val (.int p1), .val (.int p2), .val (.int p3), .val (.int p4), .val (.int l0), .val (.int l1), .val (.int l2), .val (.int n1), .val (.int c1), .val (.int c2), .val (.int n2), .val (.int k1), .val (.ref bF), .val (.ref bA), .val (.ref bL), .val (.ref bT), .val (.ref bO), .val (.int sz), .val (.ref bU), .val (.int l0), .val (.int l1), .unset] [(.int n1), (.int (2 : Int32)), (.ref bU)])) _
    refine st44 _ ?_
    show Steps p.tables e below (T44.setTop (mkF m 308 #[.val (.int p1), .val (.int p2), .val (.int p3), .val (.int p4), .val (.int l0), .val (.int l1), .val (.int l2), .val (.int n1), .val (.int c1), .val (.int c2), .val (.int n2), .val (.int k1), .val (.ref bF), .val (.ref bA), .val (.ref bL), .val (.ref bT), .val (.ref bO), .val (.int sz), .val (.ref bU), .val (.int l0), .val (.int l1), .unset] [(.int (own_st (2 : Int32) n1)), (.ref bU)])) _
    refine XS.iconst X44.here hx rfl (hb hby at_308) ?_
    show Steps p.tables e below (T44.setTop (mkF m 309 #[.val (.int p1), .val (.int p2), .val (.int p3), .val (.int p4), .val (.int l0), .val (.int l1), .val (.int l2), .val (.int n1), .val (.int c1), .val (.int c2), .val (.int n2), .val (.int k1), .val (.ref bF), .val (.ref bA), .val (.ref bL), .val (.ref bT), .val (.ref bO), .val (.int sz), .val (.ref bU), .val (.int l0), .val (.int l1), .unset] [(.int (2 : Int32)), (.int (own_st (2 : Int32) n1)), (.ref bU)])) _
    refine XS.iload X44.here hx rfl (hb hby at_309) rfl ?_
    show Steps p.tables e below (T44.setTop (mkF m 311 #[.val (.int p1), .val (.int p2), .val (.int p3), .val (.int p4), .val (.int l0), .val (.int l1), .val (.int l2), .val (.int n1), .val (.int c1), .val (.int c2), .val (.int n2), .val (.int k1), .val (.ref bF), .val (.ref bA), .val (.ref bL), .val (.ref bT), .val (.ref bO), .val (.int sz), .val (.ref bU), .val (.int l0), .val (.int l1), .unset] [(.int n1), (.int (2 : Int32)), (.int (own_st (2 : Int32) n1)), (.ref bU)])) _
    refine st45 _ ?_
    show Steps p.tables e below (T45.setTop (mkF m 314 #[.val (.int p1), .val (.int p2), .val (.int p3), .val (.int p4), .val (.int l0), .val (.int l1), .val (.int l2), .val (.int n1), .val (.int c1), .val (.int c2), .val (.int n2), .val (.int k1), .val (.ref bF), .val (.ref bA), .val (.ref bL), .val (.ref bT), .val (.ref bO), .val (.int sz), .val (.ref bU), .val (.int l0), .val (.int l1), .unset] [(.int (own_ix (2 : Int32) n1)), (.int (own_st (2 : Int32) n1)), (.ref bU)])) _
    refine st46.trans ?_
    show Steps p.tables e below (T46.setTop (mkF m 317 #[.val (.int p1), .val (.int p2), .val (.int p3), .val (.int p4), .val (.int l0), .val (.int l1), .val (.int l2), .val (.int n1), .val (.int c1), .val (.int c2), .val (.int n2), .val (.int k1), .val (.ref bF), .val (.ref bA), .val (.ref bL), .val (.ref bT), .val (.ref bO), .val (.int sz), .val (.ref bU), .val (.int l0), .val (.int l1), .unset] [(.int l2)])) _
    refine XS.istore X46.here hx rfl (hb hby at_317) rfl (l' := #[.val (.int p1), .val (.int p2), .val (.int p3), .val (.int p4), .val (.int l0), .val (.int l1), .val (.int l2), .val (.int n1), .val (.int c1), .val (.int c2), .val (.int n2), .val (.int k1), .val (.ref bF), .val (.ref bA), .val (.ref bL), .val (.ref bT), .val (.ref bO), .val (.int sz), .val (.ref bU), .val (.int l0), .val (.int l1), .val (.int l2)]) rfl ?_
    show Steps p.tables e below (T46.setTop (mkF m 319 #[.val (.int p1), .val (.int p2), .val (.int p3), .val (.int p4), .val (.int l0), .val (.int l1), .val (.int l2), .val (.int n1), .val (.int c1), .val (.int c2), .val (.int n2), .val (.int k1), .val (.ref bF), .val (.ref bA), .val (.ref bL), .val (.ref bT), .val (.ref bO), .val (.int sz), .val (.ref bU), .val (.int l0), .val (.int l1), .val (.int l2)] [])) _
    refine XS.iload X46.here hx rfl (hb hby at_319) rfl ?_
    show Steps p.tables e below (T46.setTop (mkF m 321 #[.val (.int p1), .val (.int p2), .val (.int p3), .val (.int p4), .val (.int l0), .val (.int l1), .val (.int l2), .val (.int n1), .val (.int c1), .val (.int c2), .val (.int n2), .val (.int k1), .val (.ref bF), .val (.ref bA), .val (.ref bL), .val (.ref bT), .val (.ref bO), .val (.int sz), .val (.ref bU), .val (.int l0), .val (.int l1), .val (.int l2)] [(.int l0)])) _
    refine XS.iload X46.here hx rfl (hb hby at_321) rfl ?_
    show Steps p.tables e below (T46.setTop (mkF m 323 #[.val (.int p1), .val (.int p2), .val (.int p3), .val (.int p4), .val (.int l0), .val (.int l1), .val (.int l2), .val (.int n1), .val (.int c1), .val (.int c2), .val (.int n2), .val (.int k1), .val (.ref bF), .val (.ref bA), .val (.ref bL), .val (.ref bT), .val (.ref bO), .val (.int sz), .val (.ref bU), .val (.int l0), .val (.int l1), .val (.int l2)] [(.int l0), (.int l0)])) _
    refine XS.icmpNo X46.here hx rfl (hb hby at_323) rfl (teq (rfl : l0 = l0)).2 ?_
    show Steps p.tables e below (T46.setTop (mkF m 326 #[.val (.int p1), .val (.int p2), .val (.int p3), .val (.int p4), .val (.int l0), .val (.int l1), .val (.int l2), .val (.int n1), .val (.int c1), .val (.int c2), .val (.int n2), .val (.int k1), .val (.ref bF), .val (.ref bA), .val (.ref bL), .val (.ref bT), .val (.ref bO), .val (.int sz), .val (.ref bU), .val (.int l0), .val (.int l1), .val (.int l2)] [])) _
    refine XS.iload X46.here hx rfl (hb hby at_326) rfl ?_
    show Steps p.tables e below (T46.setTop (mkF m 328 #[.val (.int p1), .val (.int p2), .val (.int p3), .val (.int p4), .val (.int l0), .val (.int l1), .val (.int l2), .val (.int n1), .val (.int c1), .val (.int c2), .val (.int n2), .val (.int k1), .val (.ref bF), .val (.ref bA), .val (.ref bL), .val (.ref bT), .val (.ref bO), .val (.int sz), .val (.ref bU), .val (.int l0), .val (.int l1), .val (.int l2)] [(.int l1)])) _
    refine XS.iload X46.here hx rfl (hb hby at_328) rfl ?_
    show Steps p.tables e below (T46.setTop (mkF m 330 #[.val (.int p1), .val (.int p2), .val (.int p3), .val (.int p4), .val (.int l0), .val (.int l1), .val (.int l2), .val (.int n1), .val (.int c1), .val (.int c2), .val (.int n2), .val (.int k1), .val (.ref bF), .val (.ref bA), .val (.ref bL), .val (.ref bT), .val (.ref bO), .val (.int sz), .val (.ref bU), .val (.int l0), .val (.int l1), .val (.int l2)] [(.int l1), (.int l1)])) _
    refine XS.icmpNo X46.here hx rfl (hb hby at_330) rfl (teq (rfl : l1 = l1)).2 ?_
    show Steps p.tables e below (T46.setTop (mkF m 333 #[.val (.int p1), .val (.int p2), .val (.int p3), .val (.int p4), .val (.int l0), .val (.int l1), .val (.int l2), .val (.int n1), .val (.int c1), .val (.int c2), .val (.int n2), .val (.int k1), .val (.ref bF), .val (.ref bA), .val (.ref bL), .val (.ref bT), .val (.ref bO), .val (.int sz), .val (.ref bU), .val (.int l0), .val (.int l1), .val (.int l2)] [])) _
    refine XS.iload X46.here hx rfl (hb hby at_333) rfl ?_
    show Steps p.tables e below (T46.setTop (mkF m 335 #[.val (.int p1), .val (.int p2), .val (.int p3), .val (.int p4), .val (.int l0), .val (.int l1), .val (.int l2), .val (.int n1), .val (.int c1), .val (.int c2), .val (.int n2), .val (.int k1), .val (.ref bF), .val (.ref bA), .val (.ref bL), .val (.ref bT), .val (.ref bO), .val (.int sz), .val (.ref bU), .val (.int l0), .val (.int l1), .val (.int l2)] [(.int l2)])) _
    refine XS.iload X46.here hx rfl (hb hby at_335) rfl ?_
    show Steps p.tables e below (T46.setTop (mkF m 337 #[.val (.int p1), .val (.int p2), .val (.int p3), .val (.int p4), .val (.int l0), .val (.int l1), .val (.int l2), .val (.int n1), .val (.int c1), .val (.int c2), .val (.int n2), .val (.int k1), .val (.ref bF), .val (.ref bA), .val (.ref bL), .val (.ref bT), .val (.ref bO), .val (.int sz), .val (.ref bU), .val (.int l0), .val (.int l1), .val (.int l2)] [(.int l2), (.int l2)])) _
    refine XS.icmpNo X46.here hx rfl (hb hby at_337) rfl (teq (rfl : l2 = l2)).2 ?_
    show Steps p.tables e below (T46.setTop (mkF m 340 #[.val (.int p1), .val (.int p2), .val (.int p3), .val (.int p4), .val (.int l0), .val (.int l1), .val (.int l2), .val (.int n1), .val (.int c1), .val (.int c2), .val (.int n2), .val (.int k1), .val (.ref bF), .val (.ref bA), .val (.ref bL), .val (.ref bT), .val (.ref bO), .val (.int sz), .val (.ref bU), .val (.int l0), .val (.int l1), .val (.int l2)] [])) _
    refine XS.iconst X46.here hx rfl (hb hby at_340) ?_
    show Steps p.tables e below (T46.setTop (mkF m 341 #[.val (.int p1), .val (.int p2), .val (.int p3), .val (.int p4), .val (.int l0), .val (.int l1), .val (.int l2), .val (.int n1), .val (.int c1), .val (.int c2), .val (.int n2), .val (.int k1), .val (.ref bF), .val (.ref bA), .val (.ref bL), .val (.ref bT), .val (.ref bO), .val (.int sz), .val (.ref bU), .val (.int l0), .val (.int l1), .val (.int l2)] [(.int (1 : Int32))])) _
    refine XS.goto X46.here hx rfl (pc0 := 341) (pc' := 345) rfl (hb hby at_341) (by decide) (by decide) ?_
    show Steps p.tables e below (T46.setTop (mkF m 345 #[.val (.int p1), .val (.int p2), .val (.int p3), .val (.int p4), .val (.int l0), .val (.int l1), .val (.int l2), .val (.int n1), .val (.int c1), .val (.int c2), .val (.int n2), .val (.int k1), .val (.ref bF), .val (.ref bA), .val (.ref bL), .val (.ref bT), .val (.ref bO), .val (.int sz), .val (.ref bU), .val (.int l0), .val (.int l1), .val (.int l2)] [(.int (1 : Int32))])) _
    exact retN X46 hx (t := .boolean) Bd.returns (by simp) (hb hby at_345) hr
  · show Q0 Z  h0 n0 _ T46.heap _
    exact ⟨rfl, N46⟩

set_option maxRecDepth 65536 in
set_option maxHeartbeats 40000000 in
theorem comes_1 {Post : Tables → Env → Array Value → State → Outcome → State → Prop} (hpost : ∀ tb e args s v u, (limb_1_1.after args s (.returned v) u = true ∧ limb_1_2.after args s (.returned v) u = true ∧ True) → FrameEnd s (.returned v) u (Jvm.fieldLocs frame_1_writes args s ++ Jvm.arrayLocs frame_1_arrays args s ++ Jvm.staticLocs frame_1_statics s) 24 128 → Post tb e args s (.returned v) u) :
    ArmFor flags0 classFile x code maxLocals ret World_1 tables_1 room_1 Calls_1 rest_1 Pre_1 Post := by
  intro l hfl _ _ p e ha hc hk s m args below hf hA hF happ hP
  obtain ⟨hcalls, hrest, hpre⟩ := hP
  obtain ⟨-, -, -, hnamed, -, -, -, hat⟩ := (Spec.applies_iff hf).mp happ
  obtain ⟨hg, hn⟩ := and_e (Cond.before_iff.mp (show (Jvm.Cond.and given_1 narrow_1).before args s = true from hpre))
  obtain ⟨gc, r0⟩ := and_e hg
  obtain ⟨k0, r1⟩ := and_e r0
  obtain ⟨k1, r2⟩ := and_e r1
  obtain ⟨k2, r3⟩ := and_e r2
  have k3 := r3
  obtain ⟨w0, w1, w2, w3, rfl⟩ : ∃ w0 w1 w2 w3 : Value, args = #[w0, w1, w2, w3] := by
    have hs : args.size = 4 := by simpa [Cond.value, given_1] using gc
    obtain ⟨L⟩ := args
    match L, hs with
    | [w0, w1, w2, w3], _ => exact ⟨w0, w1, w2, w3, rfl⟩
  have hw := fun d (hd : d ∈ tables_1) => atoms_spec (ws := Jvm.Cond.code x code maxLocals ret :: tables_1) hat d (List.mem_cons_of_mem _ hd)
  obtain ⟨i0, ei0⟩ := is_v k0
  obtain rfl : w0 = (.int i0) := Option.some.inj ei0
  obtain ⟨i1, ei1⟩ := is_v k1
  obtain rfl : w1 = (.int i1) := Option.some.inj ei1
  obtain ⟨i2, ei2⟩ := is_v k2
  obtain rfl : w2 = (.int i2) := Option.some.inj ei2
  obtain ⟨i3, ei3⟩ := is_v k3
  obtain rfl : w3 = (.int i3) := Option.some.inj ei3
  obtain ⟨n, o, h1, h2, h3, _, L, rfl, ⟨rfl, N⟩, hq⟩ := rm0 l s _ hw tables_1 i0 i1 i2 i3 s.heap s.heap.size (Nat.le_refl _) p e ha hc hk s m _ below hf ((Spec.applies_iff_loose hf).mp happ).1 ⟨rfl, State.Warmed39.refl s, rfl⟩ trivial
  refine ⟨n, _, h1, h2, h3, hpost _ _ _ _ _ _ ⟨Cond.after_iff.mpr rfl, Cond.after_iff.mpr (eq_i res_at (Term.int_eval (1)) rfl), trivial⟩ ⟨hq.1, hq.2.1, (hq.2.2.sift fun y hy => Or.inr (N y hy)).mono (by decide) (by decide)⟩⟩
theorem main_1_1 : Claimed_1_1 := comes_1 fun _ _ _ _ _ _ h hF => ⟨h.1, hF⟩
theorem main_1_2 : Claimed_1_2 := comes_1 fun _ _ _ _ _ _ h hF => ⟨h.2.1, hF⟩

end Jvm.Pilot.@@N@@
namespace Jvm.Pilot.@@N@@
open Jvm Jvm.ClassFile Sem Op Lib Jvm.Free Jvm.Stand Jvm.Pilot.@@N@@.Jvm.D
/-! MADE BY PROGRAM (witnessworld.py) out of the Statement's table words and the real class files: 11 classes; the members and pool entries that the words name. The judged class is class 1, her method 5. -/
namespace start1
open Jvm.ClassFile
def u (s : String) : CpInfo := .utf8 (stringToUtf16 s)
/-- a pool by its gaps: so many unusable entries, then the entry; so many at the end -/
def gap : Nat → List CpInfo → List CpInfo
  | 0, r => r
  | n + 1, r => .unusable :: gap n r
def poolList (es : List (Nat × CpInfo)) (last : Nat) : List CpInfo := es.foldr (fun e r => gap e.1 (e.2 :: r)) (gap last [])
def pool (es : List (Nat × CpInfo)) (last : Nat) : Array CpInfo := ⟨poolList es last⟩
def fileOf (pool : Array CpInfo) (this : Nat) (attrs : Array Attribute := #[]) (ms : Array MethodInfo := #[]) (fl : Nat := 33) (sup : Nat := 0) (ifs : Array Nat := #[]) (fds : Array FieldInfo := #[]) : ClassFile where
  minorVersion := 0
  majorVersion := 65
  constantPool := pool
  accessFlags := fl
  thisClass := this
  superClass := sup
  interfaces := ifs
  fields := fds
  methods := ms
  attributes := attrs
def plain (name : String) (sup : Option ClassId) : Class where
  name := name
  kind := .ordinary
  loader := none
  accessFlags := 33
  super := sup
  interfaces := #[]
  cf := none
  fields := #[]
  methods := #[]
  instanceTypes := #[]
  staticTypes := #[]
  resolved := #[]
  callSites := []
  init := .initialized
  statics := none
  mirror := none

def pool0 : Array CpInfo := pool [(5, u "<init>"), (0, u "()V"), (1, .class_ 10), (1, u "java/lang/Object")] 113

def k0c0 : Code := { maxStack := 0, maxLocals := 1, code := object_method_1_code, exceptionTable := #[], attributes := #[] }
def k0m0 : Method := { name := "<init>", desc := "()V", sig := { parameters := [], returnType := none }, accessFlags := 1, code := some k0c0 }
/-- java/lang/Object -/
def k0 : Class := { plain "java/lang/Object" none with
  accessFlags := 33
  interfaces := #[]
  cf := some (fileOf pool0 8 #[] #[{ accessFlags := 1, nameIndex := 5, descriptorIndex := 6, attributes := #[] }] 33 0 #[] #[])
  fields := #[]
  methods := #[k0m0]
  instanceTypes := #[]
  staticTypes := #[]
  resolved := Array.replicate 124 none
  statics := none }

def pool1 : Array CpInfo := pool [(2, .class_ 4), (1, u "java/lang/Object"), (0, u "<init>"), (0, u "()V"), (0, .integer 32768), (0, .integer 65536), (0, .integer 1048575), (0, .methodref 11 12), (0, .class_ 13), (0, .nameAndType 14 15), (0, u "com/example/othograph/othograph/AutomatonLabelPinLaw"), (0, u "tgt"), (0, u "(II)I"), (0, .methodref 11 17), (0, .nameAndType 18 19), (0, u "off"), (0, u "(IIIII)I"), (0, .class_ 21), (0, u "com/example/othograph/othograph/Automaton"), (0, .methodref 20 23), (0, .nameAndType 5 24), (0, u "([I[Z[I[I[II)V"), (0, .methodref 11 26), (0, .nameAndType 27 15), (0, u "st"), (0, .methodref 11 29), (0, .nameAndType 30 15), (0, u "ix"), (0, .methodref 20 32), (0, .nameAndType 33 15), (0, u "label"), (3, u "law"), (0, u "(IIII)Z")] 6

def k1m0 : Method := { name := "<init>", desc := "()V", sig := { parameters := [], returnType := none }, accessFlags := 1, code := none }
def k1c1 : Code := { maxStack := 2, maxLocals := 2, code := method_2_code, exceptionTable := #[], attributes := #[] }
def k1m1 : Method := { name := "tgt", desc := "(II)I", sig := { parameters := [.int, .int], returnType := some .int }, accessFlags := 10, code := some k1c1 }
def k1c2 : Code := { maxStack := 3, maxLocals := 6, code := method_3_code, exceptionTable := #[], attributes := #[] }
def k1m2 : Method := { name := "off", desc := "(IIIII)I", sig := { parameters := [.int, .int, .int, .int, .int], returnType := some .int }, accessFlags := 10, code := some k1c2 }
def k1c3 : Code := { maxStack := 2, maxLocals := 2, code := method_4_code, exceptionTable := #[], attributes := #[] }
def k1m3 : Method := { name := "st", desc := "(II)I", sig := { parameters := [.int, .int], returnType := some .int }, accessFlags := 10, code := some k1c3 }
def k1c4 : Code := { maxStack := 2, maxLocals := 2, code := method_5_code, exceptionTable := #[], attributes := #[] }
def k1m4 : Method := { name := "ix", desc := "(II)I", sig := { parameters := [.int, .int], returnType := some .int }, accessFlags := 10, code := some k1c4 }
def k1c5 : Code := { maxStack := 8, maxLocals := 22, code := code, exceptionTable := #[], attributes := #[] }
def k1m5 : Method := { name := "law", desc := "(IIII)Z", sig := { parameters := [.int, .int, .int, .int], returnType := some .boolean }, accessFlags := 9, code := some k1c5 }
/-- com/example/othograph/othograph/AutomatonLabelPinLaw -/
def k1 : Class := { plain "com/example/othograph/othograph/AutomatonLabelPinLaw" (some 0) with
  accessFlags := 49
  interfaces := #[]
  cf := some (fileOf pool1 11 #[] #[{ accessFlags := 1, nameIndex := 5, descriptorIndex := 6, attributes := #[] }, { accessFlags := 10, nameIndex := 14, descriptorIndex := 15, attributes := #[] }, { accessFlags := 10, nameIndex := 18, descriptorIndex := 19, attributes := #[] }, { accessFlags := 10, nameIndex := 27, descriptorIndex := 15, attributes := #[] }, { accessFlags := 10, nameIndex := 30, descriptorIndex := 15, attributes := #[] }, { accessFlags := 9, nameIndex := 37, descriptorIndex := 38, attributes := #[] }] 49 2 #[] #[])
  fields := #[]
  methods := #[k1m0, k1m1, k1m2, k1m3, k1m4, k1m5]
  instanceTypes := #[]
  staticTypes := #[]
  resolved := Array.replicate 45 none
  statics := none }

def pool2 : Array CpInfo := pool [(3, .methodref 4 5), (0, .class_ 6), (0, .nameAndType 7 8), (0, u "java/lang/Object"), (0, u "<init>"), (0, u "()V"), (0, .fieldref 10 11), (0, .class_ 12), (0, .nameAndType 13 14), (0, u "com/example/othograph/othograph/Automaton"), (0, u "first"), (0, u "[I"), (0, .fieldref 10 16), (0, .nameAndType 17 18), (0, u "accepting"), (0, u "[Z"), (0, .fieldref 10 20), (0, .nameAndType 21 14), (0, u "labels"), (0, .fieldref 10 23), (0, .nameAndType 24 14), (0, u "targets"), (0, .fieldref 10 26), (0, .nameAndType 27 14), (0, u "offsets"), (0, .fieldref 10 29), (0, .nameAndType 30 31), (0, u "size"), (0, u "I"), (3, u "(II)I"), (20, u "lengths"), (0, u "Lcom/example/othograph/othograph/Automaton$Lengths;"), (0, .class_ 59), (0, u "com/example/othograph/othograph/Automaton$Lengths"), (23, .class_ 85), (1, u "com/example/othograph/othograph/Automaton$PathVisitor"), (57, u "([I[Z[I[I[II)V"), (25, u "ENDS_EARLY"), (0, u "Ljava/lang/String;"), (1, u "DAMAGED"), (0, u "NO_LENGTH"), (1, u "HEADER_BYTES"), (7, u "label")] 50

def k2c0 : Code := { maxStack := 2, maxLocals := 7, code := prog_8_method_1_code, exceptionTable := #[], attributes := #[] }
def k2m0 : Method := { name := "<init>", desc := "([I[Z[I[I[II)V", sig := { parameters := [(.array .int), (.array .boolean), (.array .int), (.array .int), (.array .int), .int], returnType := none }, accessFlags := 0, code := some k2c0 }
def k2c1 : Code := { maxStack := 3, maxLocals := 3, code := prog_8_method_7_code, exceptionTable := #[], attributes := #[] }
def k2m1 : Method := { name := "label", desc := "(II)I", sig := { parameters := [.int, .int], returnType := some .int }, accessFlags := 0, code := some k2c1 }
/-- com/example/othograph/othograph/Automaton -/
def k2 : Class := { plain "com/example/othograph/othograph/Automaton" (some 0) with
  accessFlags := 48
  interfaces := #[]
  cf := some (fileOf pool2 10 #[.nestMembers #[83, 58]] #[{ accessFlags := 0, nameIndex := 7, descriptorIndex := 143, attributes := #[] }, { accessFlags := 0, nameIndex := 183, descriptorIndex := 35, attributes := #[] }] 48 4 #[] #[{ accessFlags := 24, nameIndex := 169, descriptorIndex := 170, attributes := #[] }, { accessFlags := 24, nameIndex := 172, descriptorIndex := 170, attributes := #[] }, { accessFlags := 24, nameIndex := 173, descriptorIndex := 31, attributes := #[] }, { accessFlags := 26, nameIndex := 175, descriptorIndex := 31, attributes := #[] }, { accessFlags := 18, nameIndex := 13, descriptorIndex := 14, attributes := #[] }, { accessFlags := 18, nameIndex := 17, descriptorIndex := 18, attributes := #[] }, { accessFlags := 18, nameIndex := 21, descriptorIndex := 14, attributes := #[] }, { accessFlags := 18, nameIndex := 24, descriptorIndex := 14, attributes := #[] }, { accessFlags := 18, nameIndex := 27, descriptorIndex := 14, attributes := #[] }, { accessFlags := 18, nameIndex := 30, descriptorIndex := 31, attributes := #[] }, { accessFlags := 66, nameIndex := 56, descriptorIndex := 57, attributes := #[] }])
  fields := #[{ name := "ENDS_EARLY", type := (.object "java/lang/String"), accessFlags := 24, slot := 0, constantValue := 0 }, { name := "DAMAGED", type := (.object "java/lang/String"), accessFlags := 24, slot := 1, constantValue := 0 }, { name := "NO_LENGTH", type := .int, accessFlags := 24, slot := 2, constantValue := 0 }, { name := "HEADER_BYTES", type := .int, accessFlags := 26, slot := 3, constantValue := 0 }, { name := "first", type := (.array .int), accessFlags := 18, slot := 0, constantValue := 0 }, { name := "accepting", type := (.array .boolean), accessFlags := 18, slot := 1, constantValue := 0 }, { name := "labels", type := (.array .int), accessFlags := 18, slot := 2, constantValue := 0 }, { name := "targets", type := (.array .int), accessFlags := 18, slot := 3, constantValue := 0 }, { name := "offsets", type := (.array .int), accessFlags := 18, slot := 4, constantValue := 0 }, { name := "size", type := .int, accessFlags := 18, slot := 5, constantValue := 0 }, { name := "lengths", type := (.object "com/example/othograph/othograph/Automaton$Lengths"), accessFlags := 66, slot := 6, constantValue := 0 }]
  methods := #[k2m0, k2m1]
  instanceTypes := #[(.array .int), (.array .boolean), (.array .int), (.array .int), (.array .int), .int, (.object "com/example/othograph/othograph/Automaton$Lengths")]
  staticTypes := #[(.object "java/lang/String"), (.object "java/lang/String"), .int, .int]
  resolved := Array.replicate 234 none
  statics := none }

def pool3 : Array CpInfo := pool [(1, u "java/lang/Cloneable"), (0, .class_ 1), (0, u "java/lang/Object"), (0, .class_ 3)] 3

/-- java/lang/Cloneable -/
def k3 : Class := { plain "java/lang/Cloneable" (some 0) with
  accessFlags := 1537
  interfaces := #[]
  cf := some (fileOf pool3 2 #[] #[] 1537 4 #[] #[])
  fields := #[]
  methods := #[]
  instanceTypes := #[]
  staticTypes := #[]
  resolved := Array.replicate 8 none
  statics := none }

def pool4 : Array CpInfo := pool [(1, u "java/io/Serializable"), (0, .class_ 1), (0, u "java/lang/Object"), (0, .class_ 3)] 3

/-- java/io/Serializable -/
def k4 : Class := { plain "java/io/Serializable" (some 0) with
  accessFlags := 1537
  interfaces := #[]
  cf := some (fileOf pool4 2 #[] #[] 1537 4 #[] #[])
  fields := #[]
  methods := #[]
  instanceTypes := #[]
  staticTypes := #[]
  resolved := Array.replicate 8 none
  statics := none }

/-- the primitive boolean -/
def k5 : Class := { plain "boolean" none with kind := .primitive 'Z', accessFlags := 0x411 }
/-- [Z -/
def k6 : Class := { plain "[Z" (some 0) with kind := .array 5 .boolean, interfaces := #[3, 4], accessFlags := 1041 }

/-- the primitive byte -/
def k7 : Class := { plain "byte" none with kind := .primitive 'B', accessFlags := 0x411 }
/-- [B -/
def k8 : Class := { plain "[B" (some 0) with kind := .array 7 .byte, interfaces := #[3, 4], accessFlags := 1041 }

/-- the primitive int -/
def k9 : Class := { plain "int" none with kind := .primitive 'I', accessFlags := 0x411 }
/-- [I -/
def k10 : Class := { plain "[I" (some 0) with kind := .array 9 .int, interfaces := #[3, 4], accessFlags := 1041 }

def heap : Heap := #[]
def classes : Array Class := #[k0, k1, k2, k3, k4, k5, k6, k7, k8, k9, k10]
def interned : List (Array UInt16 × Addr) := []
def slotsUsed : Nat := 0
def theMethod : MethodId := ⟨1, 5⟩
def args0 : Array Value := #[.int 5, .int 300, .int 7, .int 9]
def aboutOver (below : List Frame) : State where
  vm := { classes := classes, interned := interned.toArray }
  heap := heap
  slotsUsed := slotsUsed
  threads := #[{ frames := .invoking theMethod args0 :: below }]
def below0 : List Frame := [.native { method := ⟨0, 0⟩, args := #[] }]
def about1 : State := aboutOver below0
def p0 : Program := .bare "" "" ""
def e0 : Env := launch0.env 0 0 0
theorem w_frames : about1.frames = Frame.invoking theMethod args0 :: below0 := rfl
set_option maxRecDepth 65536 in
theorem w_args : argsFit about1.vm theMethod args0 = true := by decide +kernel
set_option maxRecDepth 65536 in
theorem w_heap : heapFits about1 = true := by decide +kernel
set_option maxRecDepth 65536 in
theorem w_runnable : about1.curStatus? = some .runnable := by decide +kernel
set_option maxRecDepth 65536 in
theorem w_alone : about1.alone = true := by decide +kernel
set_option maxRecDepth 65536 in
theorem w_named : about1.methodNamed? x = some theMethod := by decide +kernel
set_option maxRecDepth 65536 in
theorem w_hears : about1.hears theMethod below0 = true := by decide +kernel
set_option maxRecDepth 65536 in
theorem w_ripe : about1.ripe theMethod args0 below0 = true := by decide +kernel
theorem w_running : about1.status = .running := rfl
set_option maxRecDepth 65536 in
theorem w_room : about1.hasRoom e0.platform room_1 = true :=
  launch0.hasRoom_least _ room_1 (by decide +kernel) (by decide +kernel) (by decide +kernel) (by decide +kernel) (by decide +kernel) (by decide +kernel)
theorem allAtoms_all (ts : List Jvm.Cond) (a : Array Jvm.Value) (st : Jvm.State) : (allAtoms ts).before a st = ts.all (fun c => c.before a st) := by
  induction ts with
  | nil => rfl
  | cons c t ih =>
    show (Jvm.Cond.and c (allAtoms t)).before a st = _
    rw [Jvm.Cond.before_and, ih, List.all_cons]
def words1 : List Jvm.Cond := Jvm.Cond.code x code maxLocals ret :: tables_1
/-- a 'code' word, met by the world's own term for the bytes: nothing is compared byte by byte -/
theorem code_word {y : MethodName} {bytes : ByteArray} {mx : Nat} {rt : Option FieldType} {a : Array Value} {s : State} {m : MethodId} {meth : Method} {c : Code} (h1 : s.methodNamed? y = some m) (h2 : s.vm.method? m = some meth) (h3 : meth.code = some c) (h4 : c.code = bytes)
    (h5 : (c.maxLocals == mx && c.exceptionTable.isEmpty && decide (c.maxStack ≤ mostOperands) && decide (meth.sig.returnType = rt) && !meth.locks && decide (parseMethodDescriptor y.desc = some meth.sig)) = true) : (Jvm.Cond.code y bytes mx rt).before a s = true := by
  simp only [Bool.and_eq_true, beq_iff_eq, Bool.not_eq_true', decide_eq_true_eq] at h5
  obtain ⟨⟨⟨⟨⟨g1, g2⟩, g3⟩, g4⟩, g5⟩, g6⟩ := h5
  simp [Cond.before, Cond.holds, Cond.value, h1, h2, h3, h4, g1, g2, g3, g4, g5, g6]
def isCode : Jvm.Cond → Bool
  | .code _ _ _ _ => true
  | _ => false
theorem all_split {L : List Jvm.Cond} {P : Jvm.Cond → Bool} (h1 : L.all (fun c => isCode c || P c) = true) (h2 : ∀ c ∈ L.filter isCode, P c = true) : L.all P = true := by
  refine List.all_eq_true.mpr fun c hc => ?_
  have h := List.all_eq_true.mp h1 c hc
  rcases Bool.eq_false_or_eq_true (isCode c) with hi | hi
  · exact h2 c (List.mem_filter.mpr ⟨hc, hi⟩)
  · simpa [hi] using h
set_option maxRecDepth 65536 in
theorem w_c0 : (Jvm.Cond.code x code maxLocals ret).before args0 about1 = true := code_word (m := ⟨1, 5⟩) (meth := k1m5) (c := k1c5) (by decide +kernel) rfl rfl rfl (by decide +kernel)
set_option maxRecDepth 65536 in
theorem w_c1 : (Jvm.Cond.code ({ cls := "com/example/othograph/othograph/AutomatonLabelPinLaw", name := "tgt", desc := "(II)I" } : Jvm.MethodName) method_2_code (2 : Nat) (Option.some Jvm.ClassFile.FieldType.int)).before args0 about1 = true := code_word (m := ⟨1, 1⟩) (meth := k1m1) (c := k1c1) (by decide +kernel) rfl rfl rfl (by decide +kernel)
set_option maxRecDepth 65536 in
theorem w_c2 : (Jvm.Cond.code ({ cls := "com/example/othograph/othograph/AutomatonLabelPinLaw", name := "off", desc := "(IIIII)I" } : Jvm.MethodName) method_3_code (6 : Nat) (Option.some Jvm.ClassFile.FieldType.int)).before args0 about1 = true := code_word (m := ⟨1, 2⟩) (meth := k1m2) (c := k1c2) (by decide +kernel) rfl rfl rfl (by decide +kernel)
set_option maxRecDepth 65536 in
theorem w_c3 : (Jvm.Cond.code ({ cls := "com/example/othograph/othograph/Automaton", name := "<init>", desc := "([I[Z[I[I[II)V" } : Jvm.MethodName) prog_8_method_1_code (7 : Nat) (Option.none : Option Jvm.ClassFile.FieldType)).before args0 about1 = true := code_word (m := ⟨2, 0⟩) (meth := k2m0) (c := k2c0) (by decide +kernel) rfl rfl rfl (by decide +kernel)
set_option maxRecDepth 65536 in
theorem w_c4 : (Jvm.Cond.code ({ cls := "java/lang/Object", name := "<init>", desc := "()V" } : Jvm.MethodName) object_method_1_code (1 : Nat) (Option.none : Option Jvm.ClassFile.FieldType)).before args0 about1 = true := code_word (m := ⟨0, 0⟩) (meth := k0m0) (c := k0c0) (by decide +kernel) rfl rfl rfl (by decide +kernel)
set_option maxRecDepth 65536 in
theorem w_c5 : (Jvm.Cond.code ({ cls := "com/example/othograph/othograph/AutomatonLabelPinLaw", name := "st", desc := "(II)I" } : Jvm.MethodName) method_4_code (2 : Nat) (Option.some Jvm.ClassFile.FieldType.int)).before args0 about1 = true := code_word (m := ⟨1, 3⟩) (meth := k1m3) (c := k1c3) (by decide +kernel) rfl rfl rfl (by decide +kernel)
set_option maxRecDepth 65536 in
theorem w_c6 : (Jvm.Cond.code ({ cls := "com/example/othograph/othograph/AutomatonLabelPinLaw", name := "ix", desc := "(II)I" } : Jvm.MethodName) method_5_code (2 : Nat) (Option.some Jvm.ClassFile.FieldType.int)).before args0 about1 = true := code_word (m := ⟨1, 4⟩) (meth := k1m4) (c := k1c4) (by decide +kernel) rfl rfl rfl (by decide +kernel)
set_option maxRecDepth 65536 in
theorem w_c7 : (Jvm.Cond.code ({ cls := "com/example/othograph/othograph/Automaton", name := "label", desc := "(II)I" } : Jvm.MethodName) prog_8_method_7_code (3 : Nat) (Option.some Jvm.ClassFile.FieldType.int)).before args0 about1 = true := code_word (m := ⟨2, 1⟩) (meth := k2m1) (c := k2c1) (by decide +kernel) rfl rfl rfl (by decide +kernel)
def codes1 : List Jvm.Cond := [Jvm.Cond.code x code maxLocals ret, Jvm.Cond.code ({ cls := "com/example/othograph/othograph/AutomatonLabelPinLaw", name := "tgt", desc := "(II)I" } : Jvm.MethodName) method_2_code (2 : Nat) (Option.some Jvm.ClassFile.FieldType.int), Jvm.Cond.code ({ cls := "com/example/othograph/othograph/AutomatonLabelPinLaw", name := "off", desc := "(IIIII)I" } : Jvm.MethodName) method_3_code (6 : Nat) (Option.some Jvm.ClassFile.FieldType.int), Jvm.Cond.code ({ cls := "com/example/othograph/othograph/Automaton", name := "<init>", desc := "([I[Z[I[I[II)V" } : Jvm.MethodName) prog_8_method_1_code (7 : Nat) (Option.none : Option Jvm.ClassFile.FieldType), Jvm.Cond.code ({ cls := "java/lang/Object", name := "<init>", desc := "()V" } : Jvm.MethodName) object_method_1_code (1 : Nat) (Option.none : Option Jvm.ClassFile.FieldType), Jvm.Cond.code ({ cls := "com/example/othograph/othograph/AutomatonLabelPinLaw", name := "st", desc := "(II)I" } : Jvm.MethodName) method_4_code (2 : Nat) (Option.some Jvm.ClassFile.FieldType.int), Jvm.Cond.code ({ cls := "com/example/othograph/othograph/AutomatonLabelPinLaw", name := "ix", desc := "(II)I" } : Jvm.MethodName) method_5_code (2 : Nat) (Option.some Jvm.ClassFile.FieldType.int), Jvm.Cond.code ({ cls := "com/example/othograph/othograph/Automaton", name := "label", desc := "(II)I" } : Jvm.MethodName) prog_8_method_7_code (3 : Nat) (Option.some Jvm.ClassFile.FieldType.int)]
set_option maxRecDepth 65536 in
theorem codes_eq : words1.filter isCode = codes1 := rfl
theorem w_codes : ∀ c ∈ words1.filter isCode, c.before args0 about1 = true := by
  rw [codes_eq]
  intro c hc
  simp only [codes1, List.mem_cons, List.not_mem_nil, or_false] at hc
  rcases hc with rfl | rfl | rfl | rfl | rfl | rfl | rfl | rfl
  · exact w_c0
  · exact w_c1
  · exact w_c2
  · exact w_c3
  · exact w_c4
  · exact w_c5
  · exact w_c6
  · exact w_c7
set_option maxRecDepth 65536 in
theorem w_t1 : (words1.take 24).all (fun c => isCode c || c.before args0 about1) = true := by decide +kernel
set_option maxRecDepth 65536 in
theorem w_t2 : (words1.drop 24).all (fun c => isCode c || c.before args0 about1) = true := by decide +kernel
theorem w_tables : (allAtoms (Jvm.Cond.code x code maxLocals ret :: tables_1)).before args0 about1 = true := by
  rw [allAtoms_all]
  show words1.all (fun c => c.before args0 about1) = true
  refine all_split ?_ w_codes
  rw [← List.take_append_drop 24 words1, List.all_append, w_t1, w_t2]
  rfl
set_option maxRecDepth 65536 in
theorem w_case : (Jvm.Cond.and given_1 narrow_1).before args0 about1 = true := by decide +kernel
theorem w_applies : (headSpec (Jvm.Cond.code x code maxLocals ret :: tables_1) room_1).applies x e0.platform about1 = true :=
  (Spec.applies_iff w_frames).mpr ⟨w_running, w_runnable, w_alone, w_named, w_hears, w_ripe, w_room, w_tables⟩
theorem atStart : AtStart classFile x code maxLocals ret World_1 tables_1 room_1 Calls_1 rest_1 Pre_1 launch0 p0 e0 about1 theMethod args0 below0 :=
  ⟨lists_1, trivial, launch0.admits_env _ _ _, launch0.least_env, fairChoices_fair.cas, fairChoices_fair.clock, w_frames, w_args, w_heap, w_applies, trivial, trivial, w_case⟩
end start1
theorem witness_1 : WitnessClaimed_1 := ⟨start1.p0, start1.e0, start1.about1, start1.theMethod, start1.args0, start1.below0, start1.atStart⟩
end Jvm.Pilot.@@N@@
