import JvmDerived
import JvmDerived.Pilot.@@N@@Statement
import JvmDerived.Pilot.@@N@@Code
set_option linter.unusedVariables false
set_option linter.unusedSimpArgs false
namespace Jvm.RoadKit
open Sem ClassFile Op Lib Jvm.Stand Jvm.Free Jvm.LawKit
section New
variable {p : Program} {l : Launch} {e : Env} {R : Room} {s : State} {m : MethodId} {args : Array Value} {below : List Frame} {meth : Method} {c : Code} {T : State} {locs : List Loc} {cells slots : Nat}
theorem retI (X : Stand p l e R s m args below meth c T locs cells slots) (hx : p.tables.exec = Jvm.exec) {pc : Nat} {Ls : Array Slot} {z : Int32} {rest : List Value} (hret : meth.sig.returnType = some .int) (hd : decode c.code pc = .ok (.ireturn, 1)) {fs : List Frame}
    (hl : ∀ (f : JFrame) (acts : List Action), f.method = m → f.locked = none → f.entered = [] → (doReturn e (T.setTop f) acts (some (.int z))).1 = T.setFrames fs) : Steps p.tables e below (T.setTop (mkF m pc Ls (.int z :: rest))) (T.setFrames fs) := by
  have hm' : T.vm.method? m = some meth := X.method'
  have hn : narrow .int (.int z) = .int z := rfl
  show Steps p.tables e below (T.setTop { method := m, pc := pc, locals := Ls, stack := _ :: rest, locked := none }) _
  jvm_step X.here [X.here.top, hx, hd, hm', hret, hn]
  first | (intro acts; rw [hl _ acts rfl rfl rfl]) | rw [hl _ _ rfl rfl rfl]
  exact Steps.refl _
end New
end Jvm.RoadKit
namespace Jvm.Pilot.@@N@@
open Jvm Jvm.ClassFile Sem Op Lib Jvm.Free Jvm.Stand Jvm.LawKit Jvm.RoadKit Bundle Jvm.Pilot.@@N@@.Jvm.D

section OwnLib
variable {p : Program} {l : Launch} {e : Env} {R : Room} {s : State} {m : MethodId} {args : Array Value} {below : List Frame} {meth : Method} {c : Code} {T : State} {locs : List Loc} {cells slots : Nat} {Z : State} {h h' : Heap} {a b : Addr} {ty : FieldType} {vs : List Value} {n0 : Nat}
theorem own_kr {h h' : Heap} {ws : List Addr} (q : h' = h) : Keep h h' ws := q ▸ Keep.refl _ _
/-- an array by the list of what it holds -/
def AL (Z : State) (h : Heap) (a : Addr) (ty : FieldType) (vs : List Value) : Prop := ∃ c : Cell, Arr Z h a c ty ∧ c.slots.toList = vs ∧ vs.length < 2147483648
theorem AL.lt (F : AL Z h a ty vs) : a < h.size := by obtain ⟨c, A, -⟩ := F; exact A.lt
theorem AL.ext (F : AL Z h a ty vs) (E : Ext h h') : AL Z h' a ty vs := by obtain ⟨c, A, r⟩ := F; exact ⟨c, A.ext E, r⟩
theorem AL.other {sl : Nat} {v : Value} (F : AL Z h b ty vs) (W : Wr h h' a sl v) (q : b ≠ a) : AL Z h' b ty vs := by obtain ⟨c, A, r⟩ := F; exact ⟨c, A.other W q, r⟩
theorem AL.keep {ws : List Addr} (F : AL Z h a ty vs) (K : Keep h h' ws) (q : a ∉ ws) : AL Z h' a ty vs := by obtain ⟨c, A, r⟩ := F; exact ⟨c, ⟨K.2.1 a c A.1 q, A.2⟩, r⟩
theorem AL.new {k : ClassId} {z : Int32} {n : Nat} {d : Value} (A : Arr Z h a (newA k ty z) ty) (q : ¬ z < 0) (hn : z.toNatClampNeg = n) (hd : defaultValue ty = d) : AL Z h a ty (List.replicate n d) := by
  subst hn hd
  refine ⟨_, A, by simp [newA], ?_⟩
  have := (back32 q).2
  simpa using this
theorem own_sz {cl : Cell} (e : cl.slots.toList = vs) : cl.slots.size = vs.length := by rw [← e]; simp
theorem own_inb {cl : Cell} {j : Int32} (e : cl.slots.toList = vs) (h0 : ¬ j < 0) (hl : j.toNatClampNeg < vs.length) : ¬ (j < 0 ∨ cl.slots.size ≤ j.toNatClampNeg) := by
  rw [own_sz e]; intro q; rcases q with q | q
  · exact h0 q
  · omega
theorem own_at {cl : Cell} {i : Nat} {v : Value} (e : cl.slots.toList = vs) (hv : vs[i]? = some v) : cl.slots[i]? = some v := by
  rw [← e] at hv; simpa using hv
theorem AL.same {sl : Nat} {v : Value} (W : Wr h h' a sl v) {cl : Cell} (A : Arr Z h a cl ty) (e : cl.slots.toList = vs) (hl : vs.length < 2147483648) : AL Z h' a ty (vs.set sl v) :=
  ⟨_, A.same W, by rw [← e]; simp [Cell.setSlot], by simpa using hl⟩
theorem own_stI (X : Stand p l e R s m args below meth c T locs cells slots) (hx : p.tables.exec = Jvm.exec) (hZ : Z.Warmed39 s.vm) (eT : T.heap = h) (A : AL Z h a .int vs) (N : Fr n0 locs) (ga : n0 ≤ a) {j x : Int32} (h0 : ¬ j < 0) (hl : j.toNatClampNeg < vs.length) {g : JFrame} (hg : g.method = m) {rest : List Value} (hs : g.stack = .int x :: .int j :: .ref a :: rest) (hd : decode c.code g.pc = .ok (.iastore, 1)) :
    ∃ T' h' L', Stand p l e R s m args below meth c T' L' cells slots ∧ Fr n0 L' ∧ T'.heap = h' ∧ Wr h h' a j.toNatClampNeg (.int x) ∧ AL Z h' a .int (vs.set j.toNatClampNeg (.int x)) ∧ ∀ target, Steps p.tables e below (T'.setTop { g with pc := g.pc + 1, stack := rest }) target → Steps p.tables e below (T.setTop g) target := by
  obtain ⟨cl, A, e1, e2⟩ := A
  obtain ⟨T', h', X', e', W, st⟩ := stI X hx hZ eT A (own_inb e1 h0 hl) hg hs hd
  exact ⟨T', h', _, X', Fr.snoc X' N ga, e', W, AL.same W A e1 e2, st⟩
theorem own_stJ (X : Stand p l e R s m args below meth c T locs cells slots) (hx : p.tables.exec = Jvm.exec) (hZ : Z.Warmed39 s.vm) (eT : T.heap = h) (A : AL Z h a .long vs) (N : Fr n0 locs) (ga : n0 ≤ a) {j : Int32} {x : Int64} (h0 : ¬ j < 0) (hl : j.toNatClampNeg < vs.length) {g : JFrame} (hg : g.method = m) {rest : List Value} (hs : g.stack = .long x :: .int j :: .ref a :: rest) (hd : decode c.code g.pc = .ok (.lastore, 1)) :
    ∃ T' h' L', Stand p l e R s m args below meth c T' L' cells slots ∧ Fr n0 L' ∧ T'.heap = h' ∧ Wr h h' a j.toNatClampNeg (.long x) ∧ AL Z h' a .long (vs.set j.toNatClampNeg (.long x)) ∧ ∀ target, Steps p.tables e below (T'.setTop { g with pc := g.pc + 1, stack := rest }) target → Steps p.tables e below (T.setTop g) target := by
  obtain ⟨cl, A, e1, e2⟩ := A
  obtain ⟨T', h', X', e', W, st⟩ := stJ X hx hZ eT A (own_inb e1 h0 hl) hg hs hd
  exact ⟨T', h', _, X', Fr.snoc X' N ga, e', W, AL.same W A e1 e2, st⟩
theorem own_stB (X : Stand p l e R s m args below meth c T locs cells slots) (hx : p.tables.exec = Jvm.exec) (hZ : Z.Warmed39 s.vm) (eT : T.heap = h) (A : AL Z h a .byte vs) (N : Fr n0 locs) (ga : n0 ≤ a) {j x : Int32} (h0 : ¬ j < 0) (hl : j.toNatClampNeg < vs.length) {g : JFrame} (hg : g.method = m) {rest : List Value} (hs : g.stack = .int x :: .int j :: .ref a :: rest) (hd : decode c.code g.pc = .ok (.bastore, 1)) :
    ∃ T' h' L', Stand p l e R s m args below meth c T' L' cells slots ∧ Fr n0 L' ∧ T'.heap = h' ∧ Wr h h' a j.toNatClampNeg (.int x.toInt8.toInt32) ∧ AL Z h' a .byte (vs.set j.toNatClampNeg (.int x.toInt8.toInt32)) ∧ ∀ target, Steps p.tables e below (T'.setTop { g with pc := g.pc + 1, stack := rest }) target → Steps p.tables e below (T.setTop g) target := by
  obtain ⟨cl, A, e1, e2⟩ := A
  obtain ⟨T', h', X', e', W, st⟩ := stB X hx hZ eT A (own_inb e1 h0 hl) hg hs hd
  exact ⟨T', h', _, X', Fr.snoc X' N ga, e', W, AL.same W A e1 e2, st⟩
theorem own_stZ (X : Stand p l e R s m args below meth c T locs cells slots) (hx : p.tables.exec = Jvm.exec) (hZ : Z.Warmed39 s.vm) (eT : T.heap = h) (A : AL Z h a .boolean vs) (N : Fr n0 locs) (ga : n0 ≤ a) {j x : Int32} (h0 : ¬ j < 0) (hl : j.toNatClampNeg < vs.length) {g : JFrame} (hg : g.method = m) {rest : List Value} (hs : g.stack = .int x :: .int j :: .ref a :: rest) (hd : decode c.code g.pc = .ok (.bastore, 1)) :
    ∃ T' h' L', Stand p l e R s m args below meth c T' L' cells slots ∧ Fr n0 L' ∧ T'.heap = h' ∧ Wr h h' a j.toNatClampNeg (.int (nar .boolean x)) ∧ AL Z h' a .boolean (vs.set j.toNatClampNeg (.int (nar .boolean x))) ∧ ∀ target, Steps p.tables e below (T'.setTop { g with pc := g.pc + 1, stack := rest }) target → Steps p.tables e below (T.setTop g) target := by
  obtain ⟨cl, A, e1, e2⟩ := A
  obtain ⟨T', h', X', e', W, st⟩ := stZ X hx hZ eT A (own_inb e1 h0 hl) hg hs hd
  exact ⟨T', h', _, X', Fr.snoc X' N ga, e', W, AL.same W A e1 e2, st⟩
theorem own_stR (X : Stand p l e R s m args below meth c T locs cells slots) (hx : p.tables.exec = Jvm.exec) (hZ : Z.Warmed39 s.vm) (eT : T.heap = h) (A : AL Z h a ty vs) (N : Fr n0 locs) (ga : n0 ≤ a) (hty : ty.isReference = true) {j : Int32} (h0 : ¬ j < 0) (hl : j.toNatClampNeg < vs.length) {g : JFrame} (hg : g.method = m) {rest : List Value} (hs : g.stack = .null :: .int j :: .ref a :: rest) (hd : decode c.code g.pc = .ok (.aastore, 1)) :
    ∃ T' h' L', Stand p l e R s m args below meth c T' L' cells slots ∧ Fr n0 L' ∧ T'.heap = h' ∧ Wr h h' a j.toNatClampNeg .null ∧ AL Z h' a ty (vs.set j.toNatClampNeg .null) ∧ ∀ target, Steps p.tables e below (T'.setTop { g with pc := g.pc + 1, stack := rest }) target → Steps p.tables e below (T.setTop g) target := by
  obtain ⟨cl, A, e1, e2⟩ := A
  obtain ⟨T', h', X', e', W, st⟩ := stR X hx hZ eT A (own_inb e1 h0 hl) hty (Or.inl rfl) hg hs hd
  exact ⟨T', h', _, X', Fr.snoc X' N ga, e', W, AL.same W A e1 e2, st⟩
theorem own_lt_of {i : Nat} {v : Value} (hv : vs[i]? = some v) : i < vs.length := (List.getElem?_eq_some_iff.mp hv).1
theorem own_ldI (X : Stand p l e R s m args below meth c T locs cells slots) (hx : p.tables.exec = Jvm.exec) (hZ : Z.Warmed39 s.vm) (eT : T.heap = h) (A : AL Z h a .int vs) {j x : Int32} (h0 : ¬ j < 0) (hv : vs[j.toNatClampNeg]? = some (.int x)) {g : JFrame} (hg : g.method = m) {rest : List Value} (hs : g.stack = .int j :: .ref a :: rest) (hd : decode c.code g.pc = .ok (.iaload, 1)) :
    ∀ target, Steps p.tables e below (T.setTop { g with pc := g.pc + 1, stack := .int x :: rest }) target → Steps p.tables e below (T.setTop g) target := by
  obtain ⟨cl, A, e1, e2⟩ := A
  exact X.iaload hx (j := j) (v := .int x) (by rw [eT]; exact A.1) (State.isArrayOf_alike hZ.alike A.2.1) A.2.2 (own_inb e1 h0 (own_lt_of hv)) (own_at e1 hv) hg hs hd
theorem own_ldJ (X : Stand p l e R s m args below meth c T locs cells slots) (hx : p.tables.exec = Jvm.exec) (hZ : Z.Warmed39 s.vm) (eT : T.heap = h) (A : AL Z h a .long vs) {j : Int32} {x : Int64} (h0 : ¬ j < 0) (hv : vs[j.toNatClampNeg]? = some (.long x)) {g : JFrame} (hg : g.method = m) {rest : List Value} (hs : g.stack = .int j :: .ref a :: rest) (hd : decode c.code g.pc = .ok (.laload, 1)) :
    ∀ target, Steps p.tables e below (T.setTop { g with pc := g.pc + 1, stack := .long x :: rest }) target → Steps p.tables e below (T.setTop g) target := by
  obtain ⟨cl, A, e1, e2⟩ := A
  exact X.laload hx (j := j) (v := .long x) (by rw [eT]; exact A.1) (State.isArrayOf_alike hZ.alike A.2.1) A.2.2 (own_inb e1 h0 (own_lt_of hv)) (own_at e1 hv) hg hs hd
theorem own_ldB (X : Stand p l e R s m args below meth c T locs cells slots) (hx : p.tables.exec = Jvm.exec) (hZ : Z.Warmed39 s.vm) (eT : T.heap = h) (A : AL Z h a .byte vs) {j x : Int32} (h0 : ¬ j < 0) (hv : vs[j.toNatClampNeg]? = some (.int x)) {g : JFrame} (hg : g.method = m) {rest : List Value} (hs : g.stack = .int j :: .ref a :: rest) (hd : decode c.code g.pc = .ok (.baload, 1)) :
    ∀ target, Steps p.tables e below (T.setTop { g with pc := g.pc + 1, stack := .int x :: rest }) target → Steps p.tables e below (T.setTop g) target := by
  obtain ⟨cl, A, e1, e2⟩ := A
  exact X.baloadBytes hx (j := j) (v := .int x) (by rw [eT]; exact A.1) (State.isArrayOf_alike hZ.alike A.2.1) A.2.2 (own_inb e1 h0 (own_lt_of hv)) (own_at e1 hv) hg hs hd
theorem own_len (X : Stand p l e R s m args below meth c T locs cells slots) (hx : p.tables.exec = Jvm.exec) (hZ : Z.Warmed39 s.vm) (eT : T.heap = h) (A : AL Z h a ty vs) {z : Int32} (hz : vs.length.toInt32 = z) {g : JFrame} (hg : g.method = m) {rest : List Value} (hs : g.stack = .ref a :: rest) (hd : decode c.code g.pc = .ok (.arraylength, 1)) :
    ∀ target, Steps p.tables e below (T.setTop { g with pc := g.pc + 1, stack := .int z :: rest }) target → Steps p.tables e below (T.setTop g) target := by
  obtain ⟨cl, A, e1, e2⟩ := A
  intro target k
  refine X.arraylength hx (by rw [eT]; exact A.1) (State.isArrayOf_alike hZ.alike A.2.1) hg hs hd _ ?_
  rw [own_sz e1, hz]; exact k
theorem own_selp {s : State} {args args' : Array Value} {C : String} {x y' y : MethodName} (hs : (Jvm.Cond.selects C x y').before args s = true) (hp : s.PrivateAt y) (hi : (Jvm.Cond.instanceMethod y).before args' s = true) (he : y.cls = y'.cls ∧ y.cls ≠ "java/lang/invoke/MethodHandle" ∧ y.cls ≠ "java/lang/invoke/VarHandle") : (Jvm.Cond.selects y.cls y y).before args' s = true := by
  obtain ⟨c, r, m, -, -, h3, -, mk, h5, h6⟩ := Cond.selects_spec hs
  have hc := findClass_of_methodNamed h3
  rw [← he.1] at hc
  exact selects_self_of_private hc h5 h6 hp hi he.2
end OwnLib

theorem pn_0 : plainName "com/example/quillon/quillon/tlv/TlvReaderHasRemainingPinLaw" = true := by first | (simp [plainName, overriddenIn]; done) | decide +kernel
theorem pd_0 : parseMethodDescriptor "(III)Z" = some ⟨[.int, .int, .int], some .boolean⟩ := by decide +kernel

theorem d1_0 : decode method_2_code 0 = .ok (.iload_n 0, 1) := by decide +kernel
theorem d1_1 : decode method_2_code 1 = .ok (.ifCond .ne 7, 3) := by decide +kernel
theorem d1_4 : decode method_2_code 4 = .ok (.iconst 0, 1) := by decide +kernel
theorem d1_5 : decode method_2_code 5 = .ok (.newarray .byte, 2) := by decide +kernel
theorem d1_7 : decode method_2_code 7 = .ok (.areturn, 1) := by decide +kernel
theorem d1_8 : decode method_2_code 8 = .ok (.iload_n 0, 1) := by decide +kernel
theorem d1_9 : decode method_2_code 9 = .ok (.iconst 1, 1) := by decide +kernel
theorem d1_10 : decode method_2_code 10 = .ok (.if_icmp .ne 7, 3) := by decide +kernel
theorem d1_13 : decode method_2_code 13 = .ok (.iconst 1, 1) := by decide +kernel
theorem d1_14 : decode method_2_code 14 = .ok (.newarray .byte, 2) := by decide +kernel
theorem d1_16 : decode method_2_code 16 = .ok (.areturn, 1) := by decide +kernel
theorem d1_17 : decode method_2_code 17 = .ok (.iload_n 0, 1) := by decide +kernel
theorem d1_18 : decode method_2_code 18 = .ok (.iconst 2, 1) := by decide +kernel
theorem d1_19 : decode method_2_code 19 = .ok (.if_icmp .ne 7, 3) := by decide +kernel
theorem d1_22 : decode method_2_code 22 = .ok (.iconst 2, 1) := by decide +kernel
theorem d1_23 : decode method_2_code 23 = .ok (.newarray .byte, 2) := by decide +kernel
theorem d1_25 : decode method_2_code 25 = .ok (.areturn, 1) := by decide +kernel
theorem d1_26 : decode method_2_code 26 = .ok (.iload_n 0, 1) := by decide +kernel
theorem d1_27 : decode method_2_code 27 = .ok (.iconst 3, 1) := by decide +kernel
theorem d1_28 : decode method_2_code 28 = .ok (.if_icmp .ne 7, 3) := by decide +kernel
theorem d1_31 : decode method_2_code 31 = .ok (.iconst 3, 1) := by decide +kernel
theorem d1_32 : decode method_2_code 32 = .ok (.newarray .byte, 2) := by decide +kernel
theorem d1_34 : decode method_2_code 34 = .ok (.areturn, 1) := by decide +kernel
theorem d1_35 : decode method_2_code 35 = .ok (.iconst 4, 1) := by decide +kernel
theorem d1_36 : decode method_2_code 36 = .ok (.newarray .byte, 2) := by decide +kernel
theorem d1_38 : decode method_2_code 38 = .ok (.areturn, 1) := by decide +kernel
theorem pn_1 : plainName "com/example/quillon/quillon/tlv/TlvReaderHasRemainingPinLaw" = true := by first | (simp [plainName, overriddenIn]; done) | decide +kernel
theorem pd_1 : parseMethodDescriptor "(I)[B" = some ⟨[.int], some (.array .byte)⟩ := by decide +kernel

theorem d2_0 : decode prog_36_method_1_code 0 = .ok (.aload_n 0, 1) := by decide +kernel
theorem d2_1 : decode prog_36_method_1_code 1 = .ok (.invokespecial 1, 3) := by decide +kernel
theorem d2_4 : decode prog_36_method_1_code 4 = .ok (.aload_n 0, 1) := by decide +kernel
theorem d2_5 : decode prog_36_method_1_code 5 = .ok (.aload_n 1, 1) := by decide +kernel
theorem d2_6 : decode prog_36_method_1_code 6 = .ok (.putfield 7, 3) := by decide +kernel
theorem d2_9 : decode prog_36_method_1_code 9 = .ok (.return_, 1) := by decide +kernel
theorem pn_2 : plainName "com/example/quillon/quillon/tlv/TlvReader" = true := by first | (simp [plainName, overriddenIn]; done) | decide +kernel
theorem pd_2 : parseMethodDescriptor "([B)V" = some ⟨[(.array .byte)], none⟩ := by decide +kernel

theorem d4_0 : decode prog_36_method_2_code 0 = .ok (.aload_n 0, 1) := by decide +kernel
theorem d4_1 : decode prog_36_method_2_code 1 = .ok (.getfield 13, 3) := by decide +kernel
theorem d4_4 : decode prog_36_method_2_code 4 = .ok (.aload_n 0, 1) := by decide +kernel
theorem d4_5 : decode prog_36_method_2_code 5 = .ok (.getfield 7, 3) := by decide +kernel
theorem d4_8 : decode prog_36_method_2_code 8 = .ok (.arraylength, 1) := by decide +kernel
theorem d4_9 : decode prog_36_method_2_code 9 = .ok (.if_icmp .ge 7, 3) := by decide +kernel
theorem d4_12 : decode prog_36_method_2_code 12 = .ok (.iconst 1, 1) := by decide +kernel
theorem d4_13 : decode prog_36_method_2_code 13 = .ok (.goto 4, 3) := by decide +kernel
theorem d4_16 : decode prog_36_method_2_code 16 = .ok (.iconst 0, 1) := by decide +kernel
theorem d4_17 : decode prog_36_method_2_code 17 = .ok (.ireturn, 1) := by decide +kernel
theorem pn_4 : plainName "com/example/quillon/quillon/tlv/TlvReader" = true := by first | (simp [plainName, overriddenIn]; done) | decide +kernel
theorem pd_4 : parseMethodDescriptor "()Z" = some ⟨[], some .boolean⟩ := by decide +kernel

theorem d5_0 : decode prog_36_method_6_code 0 = .ok (.aload_n 0, 1) := by decide +kernel
theorem d5_1 : decode prog_36_method_6_code 1 = .ok (.iload_n 1, 1) := by decide +kernel
theorem d5_2 : decode prog_36_method_6_code 2 = .ok (.invokevirtual 17, 3) := by decide +kernel
theorem d5_5 : decode prog_36_method_6_code 5 = .ok (.areturn, 1) := by decide +kernel
theorem pn_5 : plainName "com/example/quillon/quillon/tlv/TlvReader" = true := by first | (simp [plainName, overriddenIn]; done) | decide +kernel
theorem pd_5 : parseMethodDescriptor "(I)[B" = some ⟨[.int], some (.array .byte)⟩ := by decide +kernel

theorem d6_0 : decode prog_36_method_12_code 0 = .ok (.iload_n 1, 1) := by decide +kernel
theorem d6_1 : decode prog_36_method_12_code 1 = .ok (.aload_n 0, 1) := by decide +kernel
theorem d6_2 : decode prog_36_method_12_code 2 = .ok (.getfield 7, 3) := by decide +kernel
theorem d6_5 : decode prog_36_method_12_code 5 = .ok (.arraylength, 1) := by decide +kernel
theorem d6_6 : decode prog_36_method_12_code 6 = .ok (.aload_n 0, 1) := by decide +kernel
theorem d6_7 : decode prog_36_method_12_code 7 = .ok (.getfield 13, 3) := by decide +kernel
theorem d6_10 : decode prog_36_method_12_code 10 = .ok (.isub, 1) := by decide +kernel
theorem d6_11 : decode prog_36_method_12_code 11 = .ok (.if_icmp .le 31, 3) := by decide +kernel
theorem d6_42 : decode prog_36_method_12_code 42 = .ok (.aload_n 0, 1) := by decide +kernel
theorem d6_43 : decode prog_36_method_12_code 43 = .ok (.getfield 7, 3) := by decide +kernel
theorem d6_46 : decode prog_36_method_12_code 46 = .ok (.aload_n 0, 1) := by decide +kernel
theorem d6_47 : decode prog_36_method_12_code 47 = .ok (.getfield 13, 3) := by decide +kernel
theorem d6_50 : decode prog_36_method_12_code 50 = .ok (.aload_n 0, 1) := by decide +kernel
theorem d6_51 : decode prog_36_method_12_code 51 = .ok (.getfield 13, 3) := by decide +kernel
theorem d6_54 : decode prog_36_method_12_code 54 = .ok (.iload_n 1, 1) := by decide +kernel
theorem d6_55 : decode prog_36_method_12_code 55 = .ok (.iadd, 1) := by decide +kernel
theorem d6_56 : decode prog_36_method_12_code 56 = .ok (.invokestatic 25, 3) := by decide +kernel
theorem d6_59 : decode prog_36_method_12_code 59 = .ok (.astore_n 2, 1) := by decide +kernel
theorem d6_60 : decode prog_36_method_12_code 60 = .ok (.aload_n 0, 1) := by decide +kernel
theorem d6_61 : decode prog_36_method_12_code 61 = .ok (.dup, 1) := by decide +kernel
theorem d6_62 : decode prog_36_method_12_code 62 = .ok (.getfield 13, 3) := by decide +kernel
theorem d6_65 : decode prog_36_method_12_code 65 = .ok (.iload_n 1, 1) := by decide +kernel
theorem d6_66 : decode prog_36_method_12_code 66 = .ok (.iadd, 1) := by decide +kernel
theorem d6_67 : decode prog_36_method_12_code 67 = .ok (.putfield 13, 3) := by decide +kernel
theorem d6_70 : decode prog_36_method_12_code 70 = .ok (.aload_n 2, 1) := by decide +kernel
theorem d6_71 : decode prog_36_method_12_code 71 = .ok (.areturn, 1) := by decide +kernel
theorem pn_6 : plainName "com/example/quillon/quillon/tlv/TlvReader" = true := by first | (simp [plainName, overriddenIn]; done) | decide +kernel
theorem pd_6 : parseMethodDescriptor "(I)[B" = some ⟨[.int], some (.array .byte)⟩ := by decide +kernel

theorem d8_0 : decode prog_36_method_7_code 0 = .ok (.aload_n 0, 1) := by decide +kernel
theorem d8_1 : decode prog_36_method_7_code 1 = .ok (.getfield 7, 3) := by decide +kernel
theorem d8_4 : decode prog_36_method_7_code 4 = .ok (.aload_n 0, 1) := by decide +kernel
theorem d8_5 : decode prog_36_method_7_code 5 = .ok (.getfield 13, 3) := by decide +kernel
theorem d8_8 : decode prog_36_method_7_code 8 = .ok (.aload_n 0, 1) := by decide +kernel
theorem d8_9 : decode prog_36_method_7_code 9 = .ok (.getfield 7, 3) := by decide +kernel
theorem d8_12 : decode prog_36_method_7_code 12 = .ok (.arraylength, 1) := by decide +kernel
theorem d8_13 : decode prog_36_method_7_code 13 = .ok (.invokestatic 25, 3) := by decide +kernel
theorem d8_16 : decode prog_36_method_7_code 16 = .ok (.astore_n 1, 1) := by decide +kernel
theorem d8_17 : decode prog_36_method_7_code 17 = .ok (.aload_n 0, 1) := by decide +kernel
theorem d8_18 : decode prog_36_method_7_code 18 = .ok (.aload_n 0, 1) := by decide +kernel
theorem d8_19 : decode prog_36_method_7_code 19 = .ok (.getfield 7, 3) := by decide +kernel
theorem d8_22 : decode prog_36_method_7_code 22 = .ok (.arraylength, 1) := by decide +kernel
theorem d8_23 : decode prog_36_method_7_code 23 = .ok (.putfield 13, 3) := by decide +kernel
theorem d8_26 : decode prog_36_method_7_code 26 = .ok (.aload_n 1, 1) := by decide +kernel
theorem d8_27 : decode prog_36_method_7_code 27 = .ok (.areturn, 1) := by decide +kernel
theorem pn_8 : plainName "com/example/quillon/quillon/tlv/TlvReader" = true := by first | (simp [plainName, overriddenIn]; done) | decide +kernel
theorem pd_8 : parseMethodDescriptor "()[B" = some ⟨[], some (.array .byte)⟩ := by decide +kernel

theorem d7_0 : decode jdk_65_method_132_code 0 = .ok (.iload_n 1, 1) := by decide +kernel
theorem d7_1 : decode jdk_65_method_132_code 1 = .ok (.ifCond .ne 9, 3) := by decide +kernel
theorem d7_4 : decode jdk_65_method_132_code 4 = .ok (.iload_n 2, 1) := by decide +kernel
theorem d7_5 : decode jdk_65_method_132_code 5 = .ok (.aload_n 0, 1) := by decide +kernel
theorem d7_6 : decode jdk_65_method_132_code 6 = .ok (.arraylength, 1) := by decide +kernel
theorem d7_7 : decode jdk_65_method_132_code 7 = .ok (.if_icmp .eq 10, 3) := by decide +kernel
theorem d7_10 : decode jdk_65_method_132_code 10 = .ok (.aload_n 0, 1) := by decide +kernel
theorem d7_11 : decode jdk_65_method_132_code 11 = .ok (.iload_n 1, 1) := by decide +kernel
theorem d7_12 : decode jdk_65_method_132_code 12 = .ok (.iload_n 2, 1) := by decide +kernel
theorem d7_13 : decode jdk_65_method_132_code 13 = .ok (.invokestatic 339, 3) := by decide +kernel
theorem d7_16 : decode jdk_65_method_132_code 16 = .ok (.areturn, 1) := by decide +kernel
theorem d7_17 : decode jdk_65_method_132_code 17 = .ok (.aload_n 0, 1) := by decide +kernel
theorem d7_18 : decode jdk_65_method_132_code 18 = .ok (.invokevirtual 310, 3) := by decide +kernel
theorem d7_21 : decode jdk_65_method_132_code 21 = .ok (.checkcast 311, 3) := by decide +kernel
theorem d7_24 : decode jdk_65_method_132_code 24 = .ok (.areturn, 1) := by decide +kernel
theorem pn_7 : plainName "java/util/Arrays" = true := by first | (simp [plainName, overriddenIn]; done) | decide +kernel
theorem pd_7 : parseMethodDescriptor "([BII)[B" = some ⟨[(.array .byte), .int, .int], some (.array .byte)⟩ := by decide +kernel

theorem d9_0 : decode jdk_65_method_133_code 0 = .ok (.iload_n 1, 1) := by decide +kernel
theorem d9_1 : decode jdk_65_method_133_code 1 = .ok (.iload_n 2, 1) := by decide +kernel
theorem d9_2 : decode jdk_65_method_133_code 2 = .ok (.invokestatic 343, 3) := by decide +kernel
theorem d9_5 : decode jdk_65_method_133_code 5 = .ok (.iload_n 2, 1) := by decide +kernel
theorem d9_6 : decode jdk_65_method_133_code 6 = .ok (.iload_n 1, 1) := by decide +kernel
theorem d9_7 : decode jdk_65_method_133_code 7 = .ok (.isub, 1) := by decide +kernel
theorem d9_8 : decode jdk_65_method_133_code 8 = .ok (.istore_n 3, 1) := by decide +kernel
theorem d9_9 : decode jdk_65_method_133_code 9 = .ok (.iload_n 3, 1) := by decide +kernel
theorem d9_10 : decode jdk_65_method_133_code 10 = .ok (.newarray .byte, 2) := by decide +kernel
theorem d9_12 : decode jdk_65_method_133_code 12 = .ok (.astore 4, 2) := by decide +kernel
theorem d9_14 : decode jdk_65_method_133_code 14 = .ok (.aload_n 0, 1) := by decide +kernel
theorem d9_15 : decode jdk_65_method_133_code 15 = .ok (.iload_n 1, 1) := by decide +kernel
theorem d9_16 : decode jdk_65_method_133_code 16 = .ok (.aload 4, 2) := by decide +kernel
theorem d9_18 : decode jdk_65_method_133_code 18 = .ok (.iconst 0, 1) := by decide +kernel
theorem d9_19 : decode jdk_65_method_133_code 19 = .ok (.aload_n 0, 1) := by decide +kernel
theorem d9_20 : decode jdk_65_method_133_code 20 = .ok (.arraylength, 1) := by decide +kernel
theorem d9_21 : decode jdk_65_method_133_code 21 = .ok (.iload_n 1, 1) := by decide +kernel
theorem d9_22 : decode jdk_65_method_133_code 22 = .ok (.isub, 1) := by decide +kernel
theorem d9_23 : decode jdk_65_method_133_code 23 = .ok (.iload_n 3, 1) := by decide +kernel
theorem d9_24 : decode jdk_65_method_133_code 24 = .ok (.invokestatic 304, 3) := by decide +kernel
theorem d9_27 : decode jdk_65_method_133_code 27 = .ok (.invokestatic 150, 3) := by decide +kernel
theorem d9_30 : decode jdk_65_method_133_code 30 = .ok (.aload 4, 2) := by decide +kernel
theorem d9_32 : decode jdk_65_method_133_code 32 = .ok (.areturn, 1) := by decide +kernel
theorem pn_9 : plainName "java/util/Arrays" = true := by first | (simp [plainName, overriddenIn]; done) | decide +kernel
theorem pd_9 : parseMethodDescriptor "([BII)[B" = some ⟨[(.array .byte), .int, .int], some (.array .byte)⟩ := by decide +kernel

theorem d10_0 : decode jdk_65_method_131_code 0 = .ok (.iload_n 1, 1) := by decide +kernel
theorem d10_1 : decode jdk_65_method_131_code 1 = .ok (.iload_n 0, 1) := by decide +kernel
theorem d10_2 : decode jdk_65_method_131_code 2 = .ok (.if_icmp .ge 35, 3) := by decide +kernel
theorem d10_37 : decode jdk_65_method_131_code 37 = .ok (.return_, 1) := by decide +kernel
theorem pn_10 : plainName "java/util/Arrays" = true := by first | (simp [plainName, overriddenIn]; done) | decide +kernel
theorem pd_10 : parseMethodDescriptor "(II)V" = some ⟨[.int, .int], none⟩ := by decide +kernel

theorem d11_0 : decode jdk_29_method_69_code 0 = .ok (.iload_n 0, 1) := by decide +kernel
theorem d11_1 : decode jdk_29_method_69_code 1 = .ok (.iload_n 1, 1) := by decide +kernel
theorem d11_2 : decode jdk_29_method_69_code 2 = .ok (.if_icmp .gt 7, 3) := by decide +kernel
theorem d11_5 : decode jdk_29_method_69_code 5 = .ok (.iload_n 0, 1) := by decide +kernel
theorem d11_6 : decode jdk_29_method_69_code 6 = .ok (.goto 4, 3) := by decide +kernel
theorem d11_9 : decode jdk_29_method_69_code 9 = .ok (.iload_n 1, 1) := by decide +kernel
theorem d11_10 : decode jdk_29_method_69_code 10 = .ok (.ireturn, 1) := by decide +kernel
theorem pd_11 : parseMethodDescriptor "(II)I" = some ⟨[.int, .int], some .int⟩ := by decide +kernel

section OwnB
variable {p : Program} {l : Launch} {e : Env} {R : Room} {s : State} {m : MethodId} {args : Array Value} {below : List Frame} {meth : Method} {c : Code} {T : State} {locs : List Loc} {cells slots : Nat} {Z : State} {h h' : Heap} {a b : Addr} {z : Int32} {n0 : Nat}
/-- a byte array of the length z -/
def BA (Z : State) (h : Heap) (a : Addr) (z : Int32) : Prop := (∃ k vs, Arv Z h a k .byte z vs (.int (0 : Int32))) ∧ Exa Z h a "[B"
theorem BA.lt (F : BA Z h a z) : a < h.size := F.2.lt
theorem BA.ext (F : BA Z h a z) (E : Ext h h') : BA Z h' a z := ⟨by obtain ⟨⟨k, vs, V⟩, -⟩ := F; exact ⟨k, vs, V.ext E⟩, F.2.ext E⟩
theorem BA.keep {ws : List Addr} (F : BA Z h a z) (K : Keep h h' ws) (q : a ∉ ws) : BA Z h' a z := ⟨by obtain ⟨⟨k, vs, V⟩, -⟩ := F; exact ⟨k, vs, V.keep K q⟩, F.2.keep K⟩
theorem BA.other {sl : Nat} {v : Value} (F : BA Z h b z) (W : Wr h h' a sl v) (q : b ≠ a) : BA Z h' b z := ⟨by obtain ⟨⟨k, vs, V⟩, -⟩ := F; exact ⟨k, vs, V.other W q⟩, F.2.wr W⟩
theorem own_lenB (X : Stand p l e R s m args below meth c T locs cells slots) (hx : p.tables.exec = Jvm.exec) (hZ : Z.Warmed39 s.vm) (eT : T.heap = h) (A : BA Z h a z) {g : JFrame} (hg : g.method = m) {rest : List Value} (hs : g.stack = .ref a :: rest) (hd : decode c.code g.pc = .ok (.arraylength, 1)) :
    ∀ target, Steps p.tables e below (T.setTop { g with pc := g.pc + 1, stack := .int z :: rest }) target → Steps p.tables e below (T.setTop g) target := by
  obtain ⟨⟨k, vs, cl, A, -, S, q, -⟩, -⟩ := A
  intro target kk
  refine X.arraylength hx (by rw [eT]; exact A.1) (State.isArrayOf_alike hZ.alike A.2.1) hg hs hd _ ?_
  rw [len_of S q]; exact kk
theorem own_nat {z : Int32} {n : Nat} (h0 : 0 ≤ z.toInt) (h1 : z.toInt ≤ n) : z.toNatClampNeg ≤ n := by simp only [Int32.toNatClampNeg]; omega
theorem own_nneg {z : Int32} (h0 : 0 ≤ z.toInt) : ¬ z < 0 := by rw [Int32.lt_iff_toInt_lt]; show ¬ z.toInt < 0; omega
theorem own_add {x y : Int32} (h0 : 0 ≤ x.toInt) (h1 : 0 ≤ y.toInt) (h2 : x.toInt + y.toInt < 2147483648) : (x + y).toInt = x.toInt + y.toInt := by
  have := c_iadd x y; have := rng32 (x + y); omega
theorem own_sub {x y : Int32} (h0 : 0 ≤ x.toInt) (h1 : 0 ≤ y.toInt) : (x - y).toInt = x.toInt - y.toInt := by
  have := c_isub x y; have := rng32 (x - y); have := rng32 x; have := rng32 y; omega
theorem own_rem {x y : Int32} (hy : 0 < y.toInt) : ¬ y = 0 ∧ 0 ≤ ((x &&& (2147483647 : Int32)) % y).toInt ∧ ((x &&& (2147483647 : Int32)) % y).toInt < y.toInt := by
  have h0 := (c_and x (2147483647 : Int32) (by decide)).1
  have := (c_iremV (x &&& (2147483647 : Int32)) y).1 h0 hy
  refine ⟨fun q => ?_, this.1, this.2.1⟩
  rw [q] at hy; exact absurd hy (by decide)
theorem own_z (x : Int32) : (0 : Int32) + x = x := by
  apply Int32.toBitVec_inj.mp; show 0#32 + x.toBitVec = _; rw [BitVec.zero_add]
end OwnB

theorem ef_rm10 (m : MethodId) (p1 : Int32) (p2 : Int32) : entryFrame m #[(.int p1), (.int p2)] 2 = mkF m 0 #[.val (.int p1), .val (.int p2)] [] := by first | (simp [entryFrame, mkF, argsToLocals, Value.category]; done) | rfl
def Q10 (Z : State)  (h0 : Heap) (n0 : Nat) (v : Option Value) (h : Heap) (L : List Loc) : Prop := v = none ∧ Fr n0 L ∧ h = h0
set_option maxRecDepth 65536 in
set_option maxHeartbeats 40000000 in
theorem rm10 (l : Launch) (Z : State) (a0 : Array Value) (hw : ∀ d ∈ tables_1, d.before a0 Z = true) (ws : List Jvm.Cond) (p1 : Int32) (p2 : Int32) (h0 : Heap) (n0 : Nat) (Z0 : n0 ≤ h0.size) (hle : ¬ p2 < p1) :
    MetFree l (⟨"java/util/Arrays", "checkLength", "(II)V"⟩ : MethodName) (head1 (Jvm.Cond.code (⟨"java/util/Arrays", "checkLength", "(II)V"⟩ : MethodName) jdk_65_method_131_code 2 none :: ws) ({ frames := 0, cells := 0, slots := 0, locals := 0 } : Room)) (fun a U => a = #[(.int p1), (.int p2)] ∧ Z.Warmed39 U.vm ∧ U.heap = h0) (fun _ _ _ _ _ => True) (fun _ U o U' => ∃ v L, o = .returned v ∧ Q10 Z  h0 n0 v U'.heap L ∧ FrameEnd U o U' L ({ frames := 0, cells := 0, slots := 0, locals := 0 } : Room).cells ({ frames := 0, cells := 0, slots := 0, locals := 0 } : Room).slots) := by
  refine MetFree.of_bodySF (plainFor_of_name pn_10) hisR ?_
  intro p e s m args below meth c s₁ Bd hml0 hP hK
  obtain ⟨rfl, hZ, hh⟩ := hP
  have hx := Bd.exec
  have hby := Bd.bytes
  have hml : c.maxLocals = 2 := hml0
  have hown : s.vm.findClass "java/util/Arrays" = some m.cls := findClass_of_methodNamed Bd.named
  have hnm := (name_of_methodNamed Bd.named Bd.method).1
  have X0 : Stand p l e ({ frames := 0, cells := 0, slots := 0, locals := 0 } : Room) s m #[(.int p1), (.int p2)] below meth c s₁ [] 0 0 := Stand.of_body Bd
  have e0 : s₁.heap = h0 := by rw [← hh, Bd.state]; rfl
  have N0 := Fr.nil n0
  have pre0 : ∀ t, Steps p.tables e below (s₁.setTop (mkF m 0 #[.val (.int p1), .val (.int p2)] [])) t → Steps p.tables e below (s₁.setTop (entryFrame m #[(.int p1), (.int p2)] 2)) t := fun t k => castTop (ef_rm10 m p1 p2) k

  obtain ⟨fs, hr, hrun, hended, hW, hsame⟩ := X0.leave (v := none) (fun _ => rfl)
  refine ⟨_, _, pre0 _ ?_, hrun, hended, _, _, rfl, ?_, ⟨_, rfl⟩, hW, hsame.mono (by decide) (by decide)⟩
  · show Steps p.tables e below (s₁.setTop (mkF m 0 #[.val (.int p1), .val (.int p2)] [])) _
    refine XS.iloadN X0.here hx rfl (hb hby d10_0) rfl ?_
    show Steps p.tables e below (s₁.setTop (mkF m 1 #[.val (.int p1), .val (.int p2)] [(.int p2)])) _
    refine XS.iloadN X0.here hx rfl (hb hby d10_1) rfl ?_
    show Steps p.tables e below (s₁.setTop (mkF m 2 #[.val (.int p1), .val (.int p2)] [(.int p1), (.int p2)])) _
    refine XS.icmpYes X0.here hx rfl (pc0 := 2) (pc' := 37) rfl (hb hby d10_2) rfl (flt (hle : ¬ (p2 < p1))).2.1 (by decide) (by decide) ?_
    show Steps p.tables e below (s₁.setTop (mkF m 37 #[.val (.int p1), .val (.int p2)] [])) _
    exact X0.returnOut hx Bd.returns (hb hby d10_37) hr
  · show Q10 Z  h0 n0 _ s₁.heap _
    rw [e0]
    exact ⟨rfl, N0, rfl⟩

theorem ef_rm11 (m : MethodId) (p1 : Int32) (p2 : Int32) : entryFrame m #[(.int p1), (.int p2)] 2 = mkF m 0 #[.val (.int p1), .val (.int p2)] [] := by first | (simp [entryFrame, mkF, argsToLocals, Value.category]; done) | rfl
def Q11 (Z : State) (p1 : Int32) (p2 : Int32) (h0 : Heap) (n0 : Nat) (v : Option Value) (h : Heap) (L : List Loc) : Prop := v = some (.int p2) ∧ Fr n0 L ∧ h = h0
set_option maxRecDepth 65536 in
set_option maxHeartbeats 40000000 in
theorem rm11 (l : Launch) (Z : State) (a0 : Array Value) (hw : ∀ d ∈ tables_1, d.before a0 Z = true) (ws : List Jvm.Cond) (p1 : Int32) (p2 : Int32) (h0 : Heap) (n0 : Nat) (Z0 : n0 ≤ h0.size) (hle : ¬ p1 < p2) :
    MetFree l (⟨"java/lang/Math", "min", "(II)I"⟩ : MethodName) (head1 (Jvm.Cond.code (⟨"java/lang/Math", "min", "(II)I"⟩ : MethodName) jdk_29_method_69_code 2 (some .int) :: ws) ({ frames := 0, cells := 0, slots := 0, locals := 0 } : Room)) (fun a U => a = #[(.int p1), (.int p2)] ∧ Z.Warmed39 U.vm ∧ U.heap = h0) (fun _ _ _ _ _ => True) (fun _ U o U' => ∃ v L, o = .returned v ∧ Q11 Z p1 p2 h0 n0 v U'.heap L ∧ FrameEnd U o U' L ({ frames := 0, cells := 0, slots := 0, locals := 0 } : Room).cells ({ frames := 0, cells := 0, slots := 0, locals := 0 } : Room).slots) := by
  refine MetFree.of_bodySF (Jvm.Free.JP.mathPlain rfl (by decide +kernel)) hisR ?_
  intro p e s m args below meth c s₁ Bd hml0 hP hK
  obtain ⟨rfl, hZ, hh⟩ := hP
  have hx := Bd.exec
  have hby := Bd.bytes
  have hml : c.maxLocals = 2 := hml0
  have hown : s.vm.findClass "java/lang/Math" = some m.cls := findClass_of_methodNamed Bd.named
  have hnm := (name_of_methodNamed Bd.named Bd.method).1
  have X0 : Stand p l e ({ frames := 0, cells := 0, slots := 0, locals := 0 } : Room) s m #[(.int p1), (.int p2)] below meth c s₁ [] 0 0 := Stand.of_body Bd
  have e0 : s₁.heap = h0 := by rw [← hh, Bd.state]; rfl
  have N0 := Fr.nil n0
  have pre0 : ∀ t, Steps p.tables e below (s₁.setTop (mkF m 0 #[.val (.int p1), .val (.int p2)] [])) t → Steps p.tables e below (s₁.setTop (entryFrame m #[(.int p1), (.int p2)] 2)) t := fun t k => castTop (ef_rm11 m p1 p2) k

  by_cases h1 : p2 < p1
  · obtain ⟨fs, hr, hrun, hended, hW, hsame⟩ := X0.leave (v := some (.int p2)) (fun h => by rw [Bd.returns] at h; cases h)
    refine ⟨_, _, pre0 _ ?_, hrun, hended, _, _, rfl, ?_, ⟨_, rfl⟩, hW, hsame.mono (by decide) (by decide)⟩
    · show Steps p.tables e below (s₁.setTop (mkF m 0 #[.val (.int p1), .val (.int p2)] [])) _
      refine XS.iloadN X0.here hx rfl (hb hby d11_0) rfl ?_
      show Steps p.tables e below (s₁.setTop (mkF m 1 #[.val (.int p1), .val (.int p2)] [(.int p1)])) _
      refine XS.iloadN X0.here hx rfl (hb hby d11_1) rfl ?_
      show Steps p.tables e below (s₁.setTop (mkF m 2 #[.val (.int p1), .val (.int p2)] [(.int p2), (.int p1)])) _
      refine XS.icmpYes X0.here hx rfl (pc0 := 2) (pc' := 9) rfl (hb hby d11_2) rfl (tlt (h1 : p2 < p1)).2.2.1 (by decide) (by decide) ?_
      show Steps p.tables e below (s₁.setTop (mkF m 9 #[.val (.int p1), .val (.int p2)] [])) _
      refine XS.iloadN X0.here hx rfl (hb hby d11_9) rfl ?_
      show Steps p.tables e below (s₁.setTop (mkF m 10 #[.val (.int p1), .val (.int p2)] [(.int p2)])) _
      exact retI X0 hx Bd.returns (hb hby d11_10) hr
    · show Q11 Z p1 p2 h0 n0 _ s₁.heap _
      rw [e0]
      exact ⟨rfl, N0, rfl⟩
  · obtain ⟨fs, hr, hrun, hended, hW, hsame⟩ := X0.leave (v := some (.int p1)) (fun h => by rw [Bd.returns] at h; cases h)
    refine ⟨_, _, pre0 _ ?_, hrun, hended, _, _, rfl, ?_, ⟨_, rfl⟩, hW, hsame.mono (by decide) (by decide)⟩
    · show Steps p.tables e below (s₁.setTop (mkF m 0 #[.val (.int p1), .val (.int p2)] [])) _
      refine XS.iloadN X0.here hx rfl (hb hby d11_0) rfl ?_
      show Steps p.tables e below (s₁.setTop (mkF m 1 #[.val (.int p1), .val (.int p2)] [(.int p1)])) _
      refine XS.iloadN X0.here hx rfl (hb hby d11_1) rfl ?_
      show Steps p.tables e below (s₁.setTop (mkF m 2 #[.val (.int p1), .val (.int p2)] [(.int p2), (.int p1)])) _
      refine XS.icmpNo X0.here hx rfl (hb hby d11_2) rfl (flt (h1 : ¬ (p2 < p1))).2.2.1 ?_
      show Steps p.tables e below (s₁.setTop (mkF m 5 #[.val (.int p1), .val (.int p2)] [])) _
      refine XS.iloadN X0.here hx rfl (hb hby d11_5) rfl ?_
      show Steps p.tables e below (s₁.setTop (mkF m 6 #[.val (.int p1), .val (.int p2)] [(.int p1)])) _
      refine XS.goto X0.here hx rfl (pc0 := 6) (pc' := 10) rfl (hb hby d11_6) (by decide) (by decide) ?_
      show Steps p.tables e below (s₁.setTop (mkF m 10 #[.val (.int p1), .val (.int p2)] [(.int p1)])) _
      exact retI X0 hx Bd.returns (hb hby d11_10) hr
    · show Q11 Z p1 p2 h0 n0 _ s₁.heap _
      rw [e0]
      exact ⟨by rw [(Int32.toInt_inj.mp (by rw [Int32.lt_iff_toInt_lt] at h1 hle; omega) : p1 = p2)], N0, rfl⟩

theorem ef_rm9 (m : MethodId) (a1 : Addr) (p2 : Int32) (p3 : Int32) : entryFrame m #[(.ref a1), (.int p2), (.int p3)] 5 = mkF m 0 #[.val (.ref a1), .val (.int p2), .val (.int p3), .unset, .unset] [] := by first | (simp [entryFrame, mkF, argsToLocals, Value.category]; done) | rfl
def Q9 (Z : State)  (h0 : Heap) (n0 : Nat) (v : Option Value) (h : Heap) (L : List Loc) : Prop := Fr n0 L ∧ ∃ b : Addr, v = some (.ref b) ∧ Keep h0 h []
set_option maxRecDepth 65536 in
set_option maxHeartbeats 40000000 in
theorem rm9 (l : Launch) (Z : State) (a0 : Array Value) (hw : ∀ d ∈ tables_1, d.before a0 Z = true) (ws : List Jvm.Cond) (a1 : Addr) (p2 : Int32) (p3 : Int32) (z : Int32) (h0 : Heap) (n0 : Nat) (Z0 : n0 ≤ h0.size) (h1 : 0 ≤ p2.toInt) (h2 : p2.toInt ≤ p3.toInt) (h3 : p3.toInt ≤ z.toInt) (h4 : z.toInt ≤ 4) (B1 : BA Z h0 a1 z) :
    MetFree l (⟨"java/util/Arrays", "copyOfRangeByte", "([BII)[B"⟩ : MethodName) (head1 (Jvm.Cond.code (⟨"java/util/Arrays", "copyOfRangeByte", "([BII)[B"⟩ : MethodName) jdk_65_method_133_code 5 (some (.array .byte)) :: ws) ({ frames := 1, cells := 1, slots := 4, locals := 18 } : Room)) (fun a U => a = #[(.ref a1), (.int p2), (.int p3)] ∧ Z.Warmed39 U.vm ∧ U.heap = h0) (fun _ _ _ _ _ => True) (fun _ U o U' => ∃ v L, o = .returned v ∧ Q9 Z  h0 n0 v U'.heap L ∧ FrameEnd U o U' L ({ frames := 1, cells := 1, slots := 4, locals := 18 } : Room).cells ({ frames := 1, cells := 1, slots := 4, locals := 18 } : Room).slots) := by
  refine MetFree.of_bodySF (plainFor_of_name pn_9) hisR ?_
  intro p e s m args below meth c s₁ Bd hml0 hP hK
  obtain ⟨rfl, hZ, hh⟩ := hP
  have hx := Bd.exec
  have hby := Bd.bytes
  have hml : c.maxLocals = 5 := hml0
  have hown : s.vm.findClass "java/util/Arrays" = some m.cls := findClass_of_methodNamed Bd.named
  have hnm := (name_of_methodNamed Bd.named Bd.method).1
  have X0 : Stand p l e ({ frames := 1, cells := 1, slots := 4, locals := 18 } : Room) s m #[(.ref a1), (.int p2), (.int p3)] below meth c s₁ [] 0 0 := Stand.of_body Bd
  have e0 : s₁.heap = h0 := by rw [← hh, Bd.state]; rfl
  have N0 := Fr.nil n0
  have pre0 : ∀ t, Steps p.tables e below (s₁.setTop (mkF m 0 #[.val (.ref a1), .val (.int p2), .val (.int p3), .unset, .unset] [])) t → Steps p.tables e below (s₁.setTop (entryFrame m #[(.ref a1), (.int p2), (.int p3)] 5)) t := fun t k => castTop (ef_rm9 m a1 p2 p3) k
  have K0 : Keep h0 h0 [] := Keep.refl _ _

  have hs : (p3 - p2).toInt = p3.toInt - p2.toInt := own_sub (by omega) h1
  have hz : (z - p2).toInt = z.toInt - p2.toInt := own_sub (by omega) h1
  obtain ⟨_, _, ⟨T1, L1, k1, n1⟩, -, X1, ⟨Lc1, hQ1, l1, y1, z1⟩, st1⟩ := Jvm.LawKit.callS X0 hx (y := (⟨"java/util/Arrays", "checkLength", "(II)V"⟩ : MethodName)) hown (mvT hZ (hw _ (List.mem_of_getElem? (i := 54) rfl))) (mvT hZ (hw _ (List.mem_of_getElem? (i := 55) rfl))) (mvT hZ (hw _ (List.mem_of_getElem? (i := 35) rfl))) (mvT hZ (hw _ (List.mem_of_getElem? (i := 56) rfl))) (by decide) (backOf (W := 0) (rm10 l Z a0 hw [] p2 p3 h0 n0 Z0 (by rw [Int32.lt_iff_toInt_lt]; omega)) hZ (hw _ (List.mem_of_getElem? (i := 56) rfl)) (hw _ (List.mem_of_getElem? (i := 35) rfl)) (by decide) (by decide)) (g := (mkF m 2 #[.val (.ref a1), .val (.int p2), .val (.int p3), .unset, .unset] [(.int p3), (.int p2)])) rfl (by rw [hml]; rfl) (argsL := [(.int p2), (.int p3)]) (rest := []) (lenOf pd_10 rfl) rfl (by show 2 * 0 + _ ≤ _; exact Nat.le_of_eq rfl) (hb hby d9_2) (fun _ _ => ⟨rfl, e0, (by decide : 0 + 0 ≤ _), (by decide : 0 + 0 ≤ _)⟩)
  dsimp only [Pt.U, Pt.locs, Pt.cells, Pt.slots] at X1 l1 y1 z1 st1 hQ1
  subst l1 y1 z1
  obtain ⟨rfl, N1q, q1⟩ := hQ1
  have N1 := Fr.app N0 N1q
  have K1 : Keep h0 T1.heap [] := own_kr q1
  have B1_e1 := B1.keep K1 nin0
  have Z1 : n0 ≤ T1.heap.size := Nat.le_trans Z0 K1.1
  have K1' : Keep h0 T1.heap [] := K0.trans K1 all0
  obtain ⟨T2, h2, k2, X2, e2, E2, A2, st2⟩ := newP X1 hx hZ (hw _ (List.mem_of_getElem? (i := 5) rfl)) rfl (g := (mkF m 10 #[.val (.ref a1), .val (.int p2), .val (.int p3), .val (.int (p3 - p2)), .unset] [(.int (p3 - p2))])) rfl (hb hby d9_10) rfl (own_nneg (by omega)) (cap := 4) (own_nat (by omega) (by omega)) (by decide) (by decide) (by decide)
  obtain ⟨b1, g2⟩ : ∃ z, z = T1.heap.size := ⟨_, rfl⟩
  rw [← g2] at A2 st2
  have g_b1 : n0 ≤ b1 := Nat.le_trans Z1 (Nat.le_of_eq g2.symm)
  have sz_b1 : h0.size ≤ b1 := Nat.le_trans K1'.1 (Nat.le_of_eq g2.symm)
  have ne_a1_b1 : a1 ≠ b1 := Nat.ne_of_lt (Nat.lt_of_lt_of_le B1_e1.lt (Nat.le_of_eq g2.symm))
  have B1_e2 := B1_e1.ext E2
  have Z2 : n0 ≤ h2.size := Nat.le_trans Z1 E2.1
  have K2 : Keep h0 h2 [] := K1'.ext E2
  have V1 := (Arv.new A2 (own_nneg (by omega))).pad (pad_rep [] _ (p3 - p2).toNatClampNeg)
  obtain ⟨_, _, ⟨T3, L3, k3, n3⟩, -, X3, ⟨Lc3, hQ3, l3, y3, z3⟩, st3⟩ := Jvm.LawKit.callS X2 hx (y := (⟨"java/lang/Math", "min", "(II)I"⟩ : MethodName)) hown (mvT hZ (hw _ (List.mem_of_getElem? (i := 57) rfl))) (mvT hZ (hw _ (List.mem_of_getElem? (i := 58) rfl))) (mvT hZ (hw _ (List.mem_of_getElem? (i := 59) rfl))) (mvT hZ (hw _ (List.mem_of_getElem? (i := 60) rfl))) (by decide) (backOf (W := 4) (rm11 l Z a0 hw [] (z - p2) (p3 - p2) h2 n0 Z2 (by rw [Int32.lt_iff_toInt_lt]; omega)) hZ (hw _ (List.mem_of_getElem? (i := 60) rfl)) (hw _ (List.mem_of_getElem? (i := 59) rfl)) (by decide) (by decide)) (g := (mkF m 24 #[.val (.ref a1), .val (.int p2), .val (.int p3), .val (.int (p3 - p2)), .val (.ref b1)] [(.int (p3 - p2)), (.int (z - p2)), (.int (0 : Int32)), (.ref b1), (.int p2), (.ref a1)])) rfl (by rw [hml]; rfl) (argsL := [(.int (z - p2)), (.int (p3 - p2))]) (rest := [(.int (0 : Int32)), (.ref b1), (.int p2), (.ref a1)]) (lenOf pd_11 rfl) rfl (by show 2 * 0 + _ ≤ _; exact Nat.le_of_eq rfl) (hb hby d9_24) (fun _ _ => ⟨rfl, e2, (by decide : 1 + 0 ≤ _), (by decide : 4 + 0 ≤ _)⟩)
  dsimp only [Pt.U, Pt.locs, Pt.cells, Pt.slots] at X3 l3 y3 z3 st3 hQ3
  subst l3 y3 z3
  obtain ⟨rfl, N3q, q3⟩ := hQ3
  have N3 := Fr.app N1 N3q
  have K3 : Keep h2 T3.heap [] := own_kr q3
  have B1_e3 := B1_e2.keep K3 nin0
  have Z3 : n0 ≤ T3.heap.size := Nat.le_trans Z2 K3.1
  have K3' : Keep h0 T3.heap [] := K2.trans K3 all0
  have V2 := V1.keep K3 nin0
  have B1c := B1_e3
  obtain ⟨⟨kA, vA, VA⟩, -⟩ := B1c
  obtain ⟨T4, h4, L4, X4, e4, N4, Kc4, -, st4⟩ := cpA X3 hx hZ hown (hw _ (List.mem_of_getElem? (i := 61) rfl)) (hw _ (List.mem_of_getElem? (i := 64) rfl)) (hw _ (List.mem_of_getElem? (i := 62) rfl)) (hw _ (List.mem_of_getElem? (i := 63) rfl)) rfl VA V2 (Or.inl ⟨rfl, rfl⟩) (own_nneg h1) (by decide) (own_nneg (by omega)) (by simp only [Int32.toNatClampNeg]; omega) (by show 0 + _ ≤ _; omega) rfl (by show 0 + _ ≤ _; simp) N3 g_b1 (g := (mkF m 27 #[.val (.ref a1), .val (.int p2), .val (.int p3), .val (.int (p3 - p2)), .val (.ref b1)] [(.int (p3 - p2)), (.int (0 : Int32)), (.ref b1), (.int p2), (.ref a1)])) rfl (by rw [hml]; rfl) (rest := []) rfl (hb hby d9_27) (by decide) (W := 0) (by show 2 * 0 + _ ≤ _; exact Nat.le_of_eq rfl) (by decide)
  have K4 : Keep h0 h4 [] := K3'.trans Kc4 (allS (Or.inr sz_b1) all0)
  obtain ⟨fs, hr, hrun, hended, hW, hsame⟩ := X4.leave (v := some (.ref b1)) (fun h => by rw [Bd.returns] at h; cases h)
  refine ⟨_, _, pre0 _ ?_, hrun, hended, _, _, rfl, ?_, ⟨_, rfl⟩, hW, hsame.mono (by decide) (by decide)⟩
  · show Steps p.tables e below (s₁.setTop (mkF m 0 #[.val (.ref a1), .val (.int p2), .val (.int p3), .unset, .unset] [])) _
    refine XS.iloadN X0.here hx rfl (hb hby d9_0) rfl ?_
    show Steps p.tables e below (s₁.setTop (mkF m 1 #[.val (.ref a1), .val (.int p2), .val (.int p3), .unset, .unset] [(.int p2)])) _
    refine XS.iloadN X0.here hx rfl (hb hby d9_1) rfl ?_
    show Steps p.tables e below (s₁.setTop (mkF m 2 #[.val (.ref a1), .val (.int p2), .val (.int p3), .unset, .unset] [(.int p3), (.int p2)])) _
    refine st1 _ ?_
    show Steps p.tables e below (T1.setTop (mkF m 5 #[.val (.ref a1), .val (.int p2), .val (.int p3), .unset, .unset] [])) _
    refine XS.iloadN X1.here hx rfl (hb hby d9_5) rfl ?_
    show Steps p.tables e below (T1.setTop (mkF m 6 #[.val (.ref a1), .val (.int p2), .val (.int p3), .unset, .unset] [(.int p3)])) _
    refine XS.iloadN X1.here hx rfl (hb hby d9_6) rfl ?_
    show Steps p.tables e below (T1.setTop (mkF m 7 #[.val (.ref a1), .val (.int p2), .val (.int p3), .unset, .unset] [(.int p2), (.int p3)])) _
    refine XS.isub X1.here hx rfl (hb hby d9_7) rfl ?_
    show Steps p.tables e below (T1.setTop (mkF m 8 #[.val (.ref a1), .val (.int p2), .val (.int p3), .unset, .unset] [(.int (p3 - p2))])) _
    refine XS.istoreN X1.here hx rfl (hb hby d9_8) rfl (l' := #[.val (.ref a1), .val (.int p2), .val (.int p3), .val (.int (p3 - p2)), .unset]) rfl ?_
    show Steps p.tables e below (T1.setTop (mkF m 9 #[.val (.ref a1), .val (.int p2), .val (.int p3), .val (.int (p3 - p2)), .unset] [])) _
    refine XS.iloadN X1.here hx rfl (hb hby d9_9) rfl ?_
    show Steps p.tables e below (T1.setTop (mkF m 10 #[.val (.ref a1), .val (.int p2), .val (.int p3), .val (.int (p3 - p2)), .unset] [(.int (p3 - p2))])) _
    refine st2 _ ?_
    show Steps p.tables e below (T2.setTop (mkF m 12 #[.val (.ref a1), .val (.int p2), .val (.int p3), .val (.int (p3 - p2)), .unset] [(.ref b1)])) _
    refine XS.astore X2.here hx rfl (hb hby d9_12) rfl rfl (l' := #[.val (.ref a1), .val (.int p2), .val (.int p3), .val (.int (p3 - p2)), .val (.ref b1)]) rfl ?_
    show Steps p.tables e below (T2.setTop (mkF m 14 #[.val (.ref a1), .val (.int p2), .val (.int p3), .val (.int (p3 - p2)), .val (.ref b1)] [])) _
    refine XS.aloadN X2.here hx rfl (hb hby d9_14) rfl rfl ?_
    show Steps p.tables e below (T2.setTop (mkF m 15 #[.val (.ref a1), .val (.int p2), .val (.int p3), .val (.int (p3 - p2)), .val (.ref b1)] [(.ref a1)])) _
    refine XS.iloadN X2.here hx rfl (hb hby d9_15) rfl ?_
    show Steps p.tables e below (T2.setTop (mkF m 16 #[.val (.ref a1), .val (.int p2), .val (.int p3), .val (.int (p3 - p2)), .val (.ref b1)] [(.int p2), (.ref a1)])) _
    refine XS.aload X2.here hx rfl (hb hby d9_16) rfl rfl ?_
    show Steps p.tables e below (T2.setTop (mkF m 18 #[.val (.ref a1), .val (.int p2), .val (.int p3), .val (.int (p3 - p2)), .val (.ref b1)] [(.ref b1), (.int p2), (.ref a1)])) _
    refine XS.iconst X2.here hx rfl (hb hby d9_18) ?_
    show Steps p.tables e below (T2.setTop (mkF m 19 #[.val (.ref a1), .val (.int p2), .val (.int p3), .val (.int (p3 - p2)), .val (.ref b1)] [(.int (0 : Int32)), (.ref b1), (.int p2), (.ref a1)])) _
    refine XS.aloadN X2.here hx rfl (hb hby d9_19) rfl rfl ?_
    show Steps p.tables e below (T2.setTop (mkF m 20 #[.val (.ref a1), .val (.int p2), .val (.int p3), .val (.int (p3 - p2)), .val (.ref b1)] [(.ref a1), (.int (0 : Int32)), (.ref b1), (.int p2), (.ref a1)])) _
    refine own_lenB X2 hx hZ e2 B1_e2 (g := (mkF m 20 #[.val (.ref a1), .val (.int p2), .val (.int p3), .val (.int (p3 - p2)), .val (.ref b1)] [(.ref a1), (.int (0 : Int32)), (.ref b1), (.int p2), (.ref a1)])) rfl rfl (hb hby d9_20) _ ?_
    show Steps p.tables e below (T2.setTop (mkF m 21 #[.val (.ref a1), .val (.int p2), .val (.int p3), .val (.int (p3 - p2)), .val (.ref b1)] [(.int z), (.int (0 : Int32)), (.ref b1), (.int p2), (.ref a1)])) _
    refine XS.iloadN X2.here hx rfl (hb hby d9_21) rfl ?_
    show Steps p.tables e below (T2.setTop (mkF m 22 #[.val (.ref a1), .val (.int p2), .val (.int p3), .val (.int (p3 - p2)), .val (.ref b1)] [(.int p2), (.int z), (.int (0 : Int32)), (.ref b1), (.int p2), (.ref a1)])) _
    refine XS.isub X2.here hx rfl (hb hby d9_22) rfl ?_
    show Steps p.tables e below (T2.setTop (mkF m 23 #[.val (.ref a1), .val (.int p2), .val (.int p3), .val (.int (p3 - p2)), .val (.ref b1)] [(.int (z - p2)), (.int (0 : Int32)), (.ref b1), (.int p2), (.ref a1)])) _
    refine XS.iloadN X2.here hx rfl (hb hby d9_23) rfl ?_
    show Steps p.tables e below (T2.setTop (mkF m 24 #[.val (.ref a1), .val (.int p2), .val (.int p3), .val (.int (p3 - p2)), .val (.ref b1)] [(.int (p3 - p2)), (.int (z - p2)), (.int (0 : Int32)), (.ref b1), (.int p2), (.ref a1)])) _
    refine st3 _ ?_
    show Steps p.tables e below (T3.setTop (mkF m 27 #[.val (.ref a1), .val (.int p2), .val (.int p3), .val (.int (p3 - p2)), .val (.ref b1)] [(.int (p3 - p2)), (.int (0 : Int32)), (.ref b1), (.int p2), (.ref a1)])) _
    refine st4 _ ?_
    show Steps p.tables e below (T4.setTop (mkF m 30 #[.val (.ref a1), .val (.int p2), .val (.int p3), .val (.int (p3 - p2)), .val (.ref b1)] [])) _
    refine XS.aload X4.here hx rfl (hb hby d9_30) rfl rfl ?_
    show Steps p.tables e below (T4.setTop (mkF m 32 #[.val (.ref a1), .val (.int p2), .val (.int p3), .val (.int (p3 - p2)), .val (.ref b1)] [(.ref b1)])) _
    jvm_step X4.here [X4.here.top, hx, (hb hby d9_32), X4.method', Bd.returns, Value.isRef, FieldType.isReference]
    first | (intro acts; rw [hr _ acts rfl rfl rfl]) | rw [hr _ _ rfl rfl rfl]
    exact Steps.refl _
  · show Q9 Z  h0 n0 _ T4.heap _
    rw [e4]
    exact ⟨N4, b1, rfl, K4⟩

theorem ef_rm7 (m : MethodId) (a1 : Addr) (p2 : Int32) (p3 : Int32) : entryFrame m #[(.ref a1), (.int p2), (.int p3)] 3 = mkF m 0 #[.val (.ref a1), .val (.int p2), .val (.int p3)] [] := by first | (simp [entryFrame, mkF, argsToLocals, Value.category]; done) | rfl
def Q7 (Z : State)  (h0 : Heap) (n0 : Nat) (v : Option Value) (h : Heap) (L : List Loc) : Prop := Fr n0 L ∧ ∃ b : Addr, v = some (.ref b) ∧ Keep h0 h []
set_option maxRecDepth 65536 in
set_option maxHeartbeats 40000000 in
theorem rm7 (l : Launch) (Z : State) (a0 : Array Value) (hw : ∀ d ∈ tables_1, d.before a0 Z = true) (ws : List Jvm.Cond) (a1 : Addr) (p2 : Int32) (p3 : Int32) (z : Int32) (h0 : Heap) (n0 : Nat) (Z0 : n0 ≤ h0.size) (h1 : 0 ≤ p2.toInt) (h2 : p2.toInt ≤ p3.toInt) (h3 : p3.toInt ≤ z.toInt) (h4 : z.toInt ≤ 4) (B1 : BA Z h0 a1 z) :
    MetFree l (⟨"java/util/Arrays", "copyOfRange", "([BII)[B"⟩ : MethodName) (head1 (Jvm.Cond.code (⟨"java/util/Arrays", "copyOfRange", "([BII)[B"⟩ : MethodName) jdk_65_method_132_code 3 (some (.array .byte)) :: ws) ({ frames := 2, cells := 1, slots := 4, locals := 34 } : Room)) (fun a U => a = #[(.ref a1), (.int p2), (.int p3)] ∧ Z.Warmed39 U.vm ∧ U.heap = h0) (fun _ _ _ _ _ => True) (fun _ U o U' => ∃ v L, o = .returned v ∧ Q7 Z  h0 n0 v U'.heap L ∧ FrameEnd U o U' L ({ frames := 2, cells := 1, slots := 4, locals := 34 } : Room).cells ({ frames := 2, cells := 1, slots := 4, locals := 34 } : Room).slots) := by
  refine MetFree.of_bodySF (plainFor_of_name pn_7) hisR ?_
  intro p e s m args below meth c s₁ Bd hml0 hP hK
  obtain ⟨rfl, hZ, hh⟩ := hP
  have hx := Bd.exec
  have hby := Bd.bytes
  have hml : c.maxLocals = 3 := hml0
  have hown : s.vm.findClass "java/util/Arrays" = some m.cls := findClass_of_methodNamed Bd.named
  have hnm := (name_of_methodNamed Bd.named Bd.method).1
  have X0 : Stand p l e ({ frames := 2, cells := 1, slots := 4, locals := 34 } : Room) s m #[(.ref a1), (.int p2), (.int p3)] below meth c s₁ [] 0 0 := Stand.of_body Bd
  have e0 : s₁.heap = h0 := by rw [← hh, Bd.state]; rfl
  have N0 := Fr.nil n0
  have pre0 : ∀ t, Steps p.tables e below (s₁.setTop (mkF m 0 #[.val (.ref a1), .val (.int p2), .val (.int p3)] [])) t → Steps p.tables e below (s₁.setTop (entryFrame m #[(.ref a1), (.int p2), (.int p3)] 3)) t := fun t k => castTop (ef_rm7 m a1 p2 p3) k
  have K0 : Keep h0 h0 [] := Keep.refl _ _

  by_cases q1' : ¬ p2 = (0 : Int32)
  · have q1 := q1'
    obtain ⟨_, _, ⟨T1, L1, k1, n1⟩, -, X1, ⟨Lc1, hQ1, l1, y1, z1⟩, st1⟩ := Jvm.LawKit.callS X0 hx (y := (⟨"java/util/Arrays", "copyOfRangeByte", "([BII)[B"⟩ : MethodName)) hown (mvT hZ (hw _ (List.mem_of_getElem? (i := 51) rfl))) (mvT hZ (hw _ (List.mem_of_getElem? (i := 52) rfl))) (mvT hZ (hw _ (List.mem_of_getElem? (i := 35) rfl))) (mvT hZ (hw _ (List.mem_of_getElem? (i := 53) rfl))) (by decide) (backOf (W := 0) (rm9 l Z a0 hw [] a1 p2 p3 z h0 n0 Z0 h1 h2 h3 h4 B1) hZ (hw _ (List.mem_of_getElem? (i := 53) rfl)) (hw _ (List.mem_of_getElem? (i := 35) rfl)) (by decide) (by decide)) (g := (mkF m 13 #[.val (.ref a1), .val (.int p2), .val (.int p3)] [(.int p3), (.int p2), (.ref a1)])) rfl (by rw [hml]; rfl) (argsL := [(.ref a1), (.int p2), (.int p3)]) (rest := []) (lenOf pd_9 rfl) rfl (by show 2 * 0 + _ ≤ _; exact Nat.le_of_eq rfl) (hb hby d7_13) (fun _ _ => ⟨rfl, e0, (by decide : 0 + 1 ≤ _), (by decide : 0 + 4 ≤ _)⟩)
    dsimp only [Pt.U, Pt.locs, Pt.cells, Pt.slots] at X1 l1 y1 z1 st1 hQ1
    subst l1 y1 z1
    obtain ⟨N1q, bq, rfl, Kc1⟩ := hQ1
    have N1 := Fr.app N0 N1q
    have B1_e1 := B1.keep Kc1 nin0
    have Z1 : n0 ≤ T1.heap.size := Nat.le_trans Z0 Kc1.1
    have K1' : Keep h0 T1.heap [] := K0.trans Kc1 all0
    obtain ⟨fs, hr, hrun, hended, hW, hsame⟩ := X1.leave (v := some (.ref bq)) (fun h => by rw [Bd.returns] at h; cases h)
    refine ⟨_, _, pre0 _ ?_, hrun, hended, _, _, rfl, ?_, ⟨_, rfl⟩, hW, hsame.mono (by decide) (by decide)⟩
    · show Steps p.tables e below (s₁.setTop (mkF m 0 #[.val (.ref a1), .val (.int p2), .val (.int p3)] [])) _
      refine XS.iloadN X0.here hx rfl (hb hby d7_0) rfl ?_
      show Steps p.tables e below (s₁.setTop (mkF m 1 #[.val (.ref a1), .val (.int p2), .val (.int p3)] [(.int p2)])) _
      refine XS.ifYes X0.here hx rfl (pc0 := 1) (pc' := 10) rfl (hb hby d7_1) rfl ((if0 _ _).trans (feq (q1 : ¬ (p2 = (0 : Int32)))).2) (by decide) (by decide) ?_
      show Steps p.tables e below (s₁.setTop (mkF m 10 #[.val (.ref a1), .val (.int p2), .val (.int p3)] [])) _
      refine XS.aloadN X0.here hx rfl (hb hby d7_10) rfl rfl ?_
      show Steps p.tables e below (s₁.setTop (mkF m 11 #[.val (.ref a1), .val (.int p2), .val (.int p3)] [(.ref a1)])) _
      refine XS.iloadN X0.here hx rfl (hb hby d7_11) rfl ?_
      show Steps p.tables e below (s₁.setTop (mkF m 12 #[.val (.ref a1), .val (.int p2), .val (.int p3)] [(.int p2), (.ref a1)])) _
      refine XS.iloadN X0.here hx rfl (hb hby d7_12) rfl ?_
      show Steps p.tables e below (s₁.setTop (mkF m 13 #[.val (.ref a1), .val (.int p2), .val (.int p3)] [(.int p3), (.int p2), (.ref a1)])) _
      refine st1 _ ?_
      show Steps p.tables e below (T1.setTop (mkF m 16 #[.val (.ref a1), .val (.int p2), .val (.int p3)] [(.ref bq)])) _
      jvm_step X1.here [X1.here.top, hx, (hb hby d7_16), X1.method', Bd.returns, Value.isRef, FieldType.isReference]
      first | (intro acts; rw [hr _ acts rfl rfl rfl]) | rw [hr _ _ rfl rfl rfl]
      exact Steps.refl _
    · show Q7 Z  h0 n0 _ T1.heap _
      exact ⟨N1, _, rfl, K1'⟩
  · have q1 : p2 = (0 : Int32) := Classical.not_not.mp q1'
    by_cases q2 : p3 = z
    · have B1c := B1
      obtain ⟨⟨kA, vA, VA⟩, EA⟩ := B1c
      obtain ⟨T1, h1, X1, e1, E1, -, A1, st1⟩ := cloneH X0 hx hZ hown (hw _ (List.mem_of_getElem? (i := 37) rfl)) (hw _ (List.mem_of_getElem? (i := 38) rfl)) (hw _ (List.mem_of_getElem? (i := 42) rfl)) (hw _ (List.mem_of_getElem? (i := 40) rfl)) (hw _ (List.mem_of_getElem? (i := 41) rfl)) (hw _ (List.mem_of_getElem? (i := 43) rfl)) e0 VA.arh EA (g := (mkF m 18 #[.val (.ref a1), .val (.int p2), .val (.int p3)] [(.ref a1)])) rfl (by rw [hml]; rfl) (rest := []) rfl (hb hby d7_18) (by decide) (W := 0) (cap := 4) (by show 2 * 0 + _ ≤ _; exact Nat.le_of_eq rfl) (by decide) (own_nat (by omega) h4) (by decide) (by decide)
      obtain ⟨b1, g1⟩ : ∃ z, z = h0.size := ⟨_, rfl⟩
      rw [← g1] at A1 st1
      have g_b1 : n0 ≤ b1 := Nat.le_trans Z0 (Nat.le_of_eq g1.symm)
      have sz_b1 : h0.size ≤ b1 := Nat.le_trans K0.1 (Nat.le_of_eq g1.symm)
      have ne_a1_b1 : a1 ≠ b1 := Nat.ne_of_lt (Nat.lt_of_lt_of_le B1.lt (Nat.le_of_eq g1.symm))
      have B1_e1 := B1.ext E1
      have Z1 : n0 ≤ h1.size := Nat.le_trans Z0 E1.1
      have K1 : Keep h0 h1 [] := K0.ext E1
      obtain ⟨T2, X2, e2, st2⟩ := castY X1 hx hZ hown (hw _ (List.mem_of_getElem? (i := 44) rfl)) e1 (Ins.self A1) (g := (mkF m 21 #[.val (.ref a1), .val (.int p2), .val (.int p3)] [(.ref b1)])) rfl rfl (hb hby d7_21)
      obtain ⟨fs, hr, hrun, hended, hW, hsame⟩ := X2.leave (v := some (.ref b1)) (fun h => by rw [Bd.returns] at h; cases h)
      refine ⟨_, _, pre0 _ ?_, hrun, hended, _, _, rfl, ?_, ⟨_, rfl⟩, hW, hsame.mono (by decide) (by decide)⟩
      · show Steps p.tables e below (s₁.setTop (mkF m 0 #[.val (.ref a1), .val (.int p2), .val (.int p3)] [])) _
        refine XS.iloadN X0.here hx rfl (hb hby d7_0) rfl ?_
        show Steps p.tables e below (s₁.setTop (mkF m 1 #[.val (.ref a1), .val (.int p2), .val (.int p3)] [(.int p2)])) _
        refine XS.ifNo X0.here hx rfl (hb hby d7_1) rfl ((if0 _ _).trans (teq (q1 : p2 = (0 : Int32))).2) ?_
        show Steps p.tables e below (s₁.setTop (mkF m 4 #[.val (.ref a1), .val (.int p2), .val (.int p3)] [])) _
        refine XS.iloadN X0.here hx rfl (hb hby d7_4) rfl ?_
        show Steps p.tables e below (s₁.setTop (mkF m 5 #[.val (.ref a1), .val (.int p2), .val (.int p3)] [(.int p3)])) _
        refine XS.aloadN X0.here hx rfl (hb hby d7_5) rfl rfl ?_
        show Steps p.tables e below (s₁.setTop (mkF m 6 #[.val (.ref a1), .val (.int p2), .val (.int p3)] [(.ref a1), (.int p3)])) _
        refine own_lenB X0 hx hZ e0 B1 (g := (mkF m 6 #[.val (.ref a1), .val (.int p2), .val (.int p3)] [(.ref a1), (.int p3)])) rfl rfl (hb hby d7_6) _ ?_
        show Steps p.tables e below (s₁.setTop (mkF m 7 #[.val (.ref a1), .val (.int p2), .val (.int p3)] [(.int z), (.int p3)])) _
        refine XS.icmpYes X0.here hx rfl (pc0 := 7) (pc' := 17) rfl (hb hby d7_7) rfl (teq (q2 : p3 = z)).1 (by decide) (by decide) ?_
        show Steps p.tables e below (s₁.setTop (mkF m 17 #[.val (.ref a1), .val (.int p2), .val (.int p3)] [])) _
        refine XS.aloadN X0.here hx rfl (hb hby d7_17) rfl rfl ?_
        show Steps p.tables e below (s₁.setTop (mkF m 18 #[.val (.ref a1), .val (.int p2), .val (.int p3)] [(.ref a1)])) _
        refine st1 _ ?_
        show Steps p.tables e below (T1.setTop (mkF m 21 #[.val (.ref a1), .val (.int p2), .val (.int p3)] [(.ref b1)])) _
        refine st2 _ ?_
        show Steps p.tables e below (T2.setTop (mkF m 24 #[.val (.ref a1), .val (.int p2), .val (.int p3)] [(.ref b1)])) _
        jvm_step X2.here [X2.here.top, hx, (hb hby d7_24), X2.method', Bd.returns, Value.isRef, FieldType.isReference]
        first | (intro acts; rw [hr _ acts rfl rfl rfl]) | rw [hr _ _ rfl rfl rfl]
        exact Steps.refl _
      · show Q7 Z  h0 n0 _ T2.heap _
        rw [e2]
        exact ⟨N0, _, rfl, K1⟩
    · obtain ⟨_, _, ⟨T1, L1, k1, n1⟩, -, X1, ⟨Lc1, hQ1, l1, y1, z1⟩, st1⟩ := Jvm.LawKit.callS X0 hx (y := (⟨"java/util/Arrays", "copyOfRangeByte", "([BII)[B"⟩ : MethodName)) hown (mvT hZ (hw _ (List.mem_of_getElem? (i := 51) rfl))) (mvT hZ (hw _ (List.mem_of_getElem? (i := 52) rfl))) (mvT hZ (hw _ (List.mem_of_getElem? (i := 35) rfl))) (mvT hZ (hw _ (List.mem_of_getElem? (i := 53) rfl))) (by decide) (backOf (W := 0) (rm9 l Z a0 hw [] a1 p2 p3 z h0 n0 Z0 h1 h2 h3 h4 B1) hZ (hw _ (List.mem_of_getElem? (i := 53) rfl)) (hw _ (List.mem_of_getElem? (i := 35) rfl)) (by decide) (by decide)) (g := (mkF m 13 #[.val (.ref a1), .val (.int p2), .val (.int p3)] [(.int p3), (.int p2), (.ref a1)])) rfl (by rw [hml]; rfl) (argsL := [(.ref a1), (.int p2), (.int p3)]) (rest := []) (lenOf pd_9 rfl) rfl (by show 2 * 0 + _ ≤ _; exact Nat.le_of_eq rfl) (hb hby d7_13) (fun _ _ => ⟨rfl, e0, (by decide : 0 + 1 ≤ _), (by decide : 0 + 4 ≤ _)⟩)
      dsimp only [Pt.U, Pt.locs, Pt.cells, Pt.slots] at X1 l1 y1 z1 st1 hQ1
      subst l1 y1 z1
      obtain ⟨N1q, bq, rfl, Kc1⟩ := hQ1
      have N1 := Fr.app N0 N1q
      have B1_e1 := B1.keep Kc1 nin0
      have Z1 : n0 ≤ T1.heap.size := Nat.le_trans Z0 Kc1.1
      have K1' : Keep h0 T1.heap [] := K0.trans Kc1 all0
      obtain ⟨fs, hr, hrun, hended, hW, hsame⟩ := X1.leave (v := some (.ref bq)) (fun h => by rw [Bd.returns] at h; cases h)
      refine ⟨_, _, pre0 _ ?_, hrun, hended, _, _, rfl, ?_, ⟨_, rfl⟩, hW, hsame.mono (by decide) (by decide)⟩
      · show Steps p.tables e below (s₁.setTop (mkF m 0 #[.val (.ref a1), .val (.int p2), .val (.int p3)] [])) _
        refine XS.iloadN X0.here hx rfl (hb hby d7_0) rfl ?_
        show Steps p.tables e below (s₁.setTop (mkF m 1 #[.val (.ref a1), .val (.int p2), .val (.int p3)] [(.int p2)])) _
        refine XS.ifNo X0.here hx rfl (hb hby d7_1) rfl ((if0 _ _).trans (teq (q1 : p2 = (0 : Int32))).2) ?_
        show Steps p.tables e below (s₁.setTop (mkF m 4 #[.val (.ref a1), .val (.int p2), .val (.int p3)] [])) _
        refine XS.iloadN X0.here hx rfl (hb hby d7_4) rfl ?_
        show Steps p.tables e below (s₁.setTop (mkF m 5 #[.val (.ref a1), .val (.int p2), .val (.int p3)] [(.int p3)])) _
        refine XS.aloadN X0.here hx rfl (hb hby d7_5) rfl rfl ?_
        show Steps p.tables e below (s₁.setTop (mkF m 6 #[.val (.ref a1), .val (.int p2), .val (.int p3)] [(.ref a1), (.int p3)])) _
        refine own_lenB X0 hx hZ e0 B1 (g := (mkF m 6 #[.val (.ref a1), .val (.int p2), .val (.int p3)] [(.ref a1), (.int p3)])) rfl rfl (hb hby d7_6) _ ?_
        show Steps p.tables e below (s₁.setTop (mkF m 7 #[.val (.ref a1), .val (.int p2), .val (.int p3)] [(.int z), (.int p3)])) _
        refine XS.icmpNo X0.here hx rfl (hb hby d7_7) rfl (feq (q2 : ¬ (p3 = z))).1 ?_
        show Steps p.tables e below (s₁.setTop (mkF m 10 #[.val (.ref a1), .val (.int p2), .val (.int p3)] [])) _
        refine XS.aloadN X0.here hx rfl (hb hby d7_10) rfl rfl ?_
        show Steps p.tables e below (s₁.setTop (mkF m 11 #[.val (.ref a1), .val (.int p2), .val (.int p3)] [(.ref a1)])) _
        refine XS.iloadN X0.here hx rfl (hb hby d7_11) rfl ?_
        show Steps p.tables e below (s₁.setTop (mkF m 12 #[.val (.ref a1), .val (.int p2), .val (.int p3)] [(.int p2), (.ref a1)])) _
        refine XS.iloadN X0.here hx rfl (hb hby d7_12) rfl ?_
        show Steps p.tables e below (s₁.setTop (mkF m 13 #[.val (.ref a1), .val (.int p2), .val (.int p3)] [(.int p3), (.int p2), (.ref a1)])) _
        refine st1 _ ?_
        show Steps p.tables e below (T1.setTop (mkF m 16 #[.val (.ref a1), .val (.int p2), .val (.int p3)] [(.ref bq)])) _
        jvm_step X1.here [X1.here.top, hx, (hb hby d7_16), X1.method', Bd.returns, Value.isRef, FieldType.isReference]
        first | (intro acts; rw [hr _ acts rfl rfl rfl]) | rw [hr _ _ rfl rfl rfl]
        exact Steps.refl _
      · show Q7 Z  h0 n0 _ T1.heap _
        exact ⟨N1, _, rfl, K1'⟩

theorem ef_rm4 (m : MethodId) (a1 : Addr) : entryFrame m #[(.ref a1)] 1 = mkF m 0 #[.val (.ref a1)] [] := by first | (simp [entryFrame, mkF, argsToLocals, Value.category]; done) | rfl
def Q4 (Z : State) (q : Int32) (z : Int32) (h0 : Heap) (n0 : Nat) (v : Option Value) (h : Heap) (L : List Loc) : Prop := v = some (.int (if q < z then (1 : Int32) else (0 : Int32))) ∧ Fr n0 L ∧ h = h0
set_option maxRecDepth 65536 in
set_option maxHeartbeats 40000000 in
theorem rm4 (l : Launch) (Z : State) (a0 : Array Value) (hw : ∀ d ∈ tables_1, d.before a0 Z = true) (ws : List Jvm.Cond) (a1 : Addr) (q : Int32) (b : Addr) (z : Int32) (h0 : Heap) (n0 : Nat) (Z0 : n0 ≤ h0.size) (F1 : Fld Z h0 a1 "com/example/quillon/quillon/tlv/TlvReader" "position" "I" (.int q)) (F2 : Fld Z h0 a1 "com/example/quillon/quillon/tlv/TlvReader" "bytes" "[B" (.ref b)) (B1 : BA Z h0 b z) :
    MetFree l (⟨"com/example/quillon/quillon/tlv/TlvReader", "hasRemaining", "()Z"⟩ : MethodName) (head1 (Jvm.Cond.code (⟨"com/example/quillon/quillon/tlv/TlvReader", "hasRemaining", "()Z"⟩ : MethodName) prog_36_method_2_code 1 (some .boolean) :: ws) ({ frames := 0, cells := 0, slots := 0, locals := 0 } : Room)) (fun a U => a = #[(.ref a1)] ∧ Z.Warmed39 U.vm ∧ U.heap = h0) (fun _ _ _ _ _ => True) (fun _ U o U' => ∃ v L, o = .returned v ∧ Q4 Z q z h0 n0 v U'.heap L ∧ FrameEnd U o U' L ({ frames := 0, cells := 0, slots := 0, locals := 0 } : Room).cells ({ frames := 0, cells := 0, slots := 0, locals := 0 } : Room).slots) := by
  refine MetFree.of_bodySF (plainFor_of_name pn_4) hisR ?_
  intro p e s m args below meth c s₁ Bd hml0 hP hK
  obtain ⟨rfl, hZ, hh⟩ := hP
  have hx := Bd.exec
  have hby := Bd.bytes
  have hml : c.maxLocals = 1 := hml0
  have hown : s.vm.findClass "com/example/quillon/quillon/tlv/TlvReader" = some m.cls := findClass_of_methodNamed Bd.named
  have hnm := (name_of_methodNamed Bd.named Bd.method).1
  have X0 : Stand p l e ({ frames := 0, cells := 0, slots := 0, locals := 0 } : Room) s m #[(.ref a1)] below meth c s₁ [] 0 0 := Stand.of_body Bd
  have e0 : s₁.heap = h0 := by rw [← hh, Bd.state]; rfl
  have N0 := Fr.nil n0
  have pre0 : ∀ t, Steps p.tables e below (s₁.setTop (mkF m 0 #[.val (.ref a1)] [])) t → Steps p.tables e below (s₁.setTop (entryFrame m #[(.ref a1)] 1)) t := fun t k => castTop (ef_rm4 m a1) k

  by_cases h1 : q < z
  · obtain ⟨T1, X1, e1, st1⟩ := getF X0 hx hZ hown (host := "") (Or.inl (hw _ (List.mem_of_getElem? (i := 22) rfl))) Via.refl e0 F1 (g := (mkF m 1 #[.val (.ref a1)] [(.ref a1)])) rfl rfl (hb hby d4_1)
    obtain ⟨T2, X2, e2, st2⟩ := getF X1 hx hZ hown (host := "") (Or.inl (hw _ (List.mem_of_getElem? (i := 15) rfl))) Via.refl e1 F2 (g := (mkF m 5 #[.val (.ref a1)] [(.ref a1), (.int q)])) rfl rfl (hb hby d4_5)
    obtain ⟨fs, hr, hrun, hended, hW, hsame⟩ := X2.leave (v := some (.int (1 : Int32))) (fun h => by rw [Bd.returns] at h; cases h)
    refine ⟨_, _, pre0 _ ?_, hrun, hended, _, _, rfl, ?_, ⟨_, rfl⟩, hW, hsame.mono (by decide) (by decide)⟩
    · show Steps p.tables e below (s₁.setTop (mkF m 0 #[.val (.ref a1)] [])) _
      refine XS.aloadN X0.here hx rfl (hb hby d4_0) rfl rfl ?_
      show Steps p.tables e below (s₁.setTop (mkF m 1 #[.val (.ref a1)] [(.ref a1)])) _
      refine st1 _ ?_
      show Steps p.tables e below (T1.setTop (mkF m 4 #[.val (.ref a1)] [(.int q)])) _
      refine XS.aloadN X1.here hx rfl (hb hby d4_4) rfl rfl ?_
      show Steps p.tables e below (T1.setTop (mkF m 5 #[.val (.ref a1)] [(.ref a1), (.int q)])) _
      refine st2 _ ?_
      show Steps p.tables e below (T2.setTop (mkF m 8 #[.val (.ref a1)] [(.ref b), (.int q)])) _
      refine own_lenB X2 hx hZ e2 B1 (g := (mkF m 8 #[.val (.ref a1)] [(.ref b), (.int q)])) rfl rfl (hb hby d4_8) _ ?_
      show Steps p.tables e below (T2.setTop (mkF m 9 #[.val (.ref a1)] [(.int z), (.int q)])) _
      refine XS.icmpNo X2.here hx rfl (hb hby d4_9) rfl (tlt (h1 : q < z)).2.1 ?_
      show Steps p.tables e below (T2.setTop (mkF m 12 #[.val (.ref a1)] [])) _
      refine XS.iconst X2.here hx rfl (hb hby d4_12) ?_
      show Steps p.tables e below (T2.setTop (mkF m 13 #[.val (.ref a1)] [(.int (1 : Int32))])) _
      refine XS.goto X2.here hx rfl (pc0 := 13) (pc' := 17) rfl (hb hby d4_13) (by decide) (by decide) ?_
      show Steps p.tables e below (T2.setTop (mkF m 17 #[.val (.ref a1)] [(.int (1 : Int32))])) _
      exact retN X2 hx (t := .boolean) Bd.returns (by simp) (hb hby d4_17) hr
    · show Q4 Z q z h0 n0 _ T2.heap _
      rw [e2]
      exact ⟨by rw [if_pos h1], N0, rfl⟩
  · obtain ⟨T1, X1, e1, st1⟩ := getF X0 hx hZ hown (host := "") (Or.inl (hw _ (List.mem_of_getElem? (i := 22) rfl))) Via.refl e0 F1 (g := (mkF m 1 #[.val (.ref a1)] [(.ref a1)])) rfl rfl (hb hby d4_1)
    obtain ⟨T2, X2, e2, st2⟩ := getF X1 hx hZ hown (host := "") (Or.inl (hw _ (List.mem_of_getElem? (i := 15) rfl))) Via.refl e1 F2 (g := (mkF m 5 #[.val (.ref a1)] [(.ref a1), (.int q)])) rfl rfl (hb hby d4_5)
    obtain ⟨fs, hr, hrun, hended, hW, hsame⟩ := X2.leave (v := some (.int (0 : Int32))) (fun h => by rw [Bd.returns] at h; cases h)
    refine ⟨_, _, pre0 _ ?_, hrun, hended, _, _, rfl, ?_, ⟨_, rfl⟩, hW, hsame.mono (by decide) (by decide)⟩
    · show Steps p.tables e below (s₁.setTop (mkF m 0 #[.val (.ref a1)] [])) _
      refine XS.aloadN X0.here hx rfl (hb hby d4_0) rfl rfl ?_
      show Steps p.tables e below (s₁.setTop (mkF m 1 #[.val (.ref a1)] [(.ref a1)])) _
      refine st1 _ ?_
      show Steps p.tables e below (T1.setTop (mkF m 4 #[.val (.ref a1)] [(.int q)])) _
      refine XS.aloadN X1.here hx rfl (hb hby d4_4) rfl rfl ?_
      show Steps p.tables e below (T1.setTop (mkF m 5 #[.val (.ref a1)] [(.ref a1), (.int q)])) _
      refine st2 _ ?_
      show Steps p.tables e below (T2.setTop (mkF m 8 #[.val (.ref a1)] [(.ref b), (.int q)])) _
      refine own_lenB X2 hx hZ e2 B1 (g := (mkF m 8 #[.val (.ref a1)] [(.ref b), (.int q)])) rfl rfl (hb hby d4_8) _ ?_
      show Steps p.tables e below (T2.setTop (mkF m 9 #[.val (.ref a1)] [(.int z), (.int q)])) _
      refine XS.icmpYes X2.here hx rfl (pc0 := 9) (pc' := 16) rfl (hb hby d4_9) rfl (flt (h1 : ¬ (q < z))).2.1 (by decide) (by decide) ?_
      show Steps p.tables e below (T2.setTop (mkF m 16 #[.val (.ref a1)] [])) _
      refine XS.iconst X2.here hx rfl (hb hby d4_16) ?_
      show Steps p.tables e below (T2.setTop (mkF m 17 #[.val (.ref a1)] [(.int (0 : Int32))])) _
      exact retN X2 hx (t := .boolean) Bd.returns (by simp) (hb hby d4_17) hr
    · show Q4 Z q z h0 n0 _ T2.heap _
      rw [e2]
      exact ⟨by rw [if_neg h1], N0, rfl⟩

theorem ef_rm2 (m : MethodId) (a1 : Addr) (a2 : Addr) : entryFrame m #[(.ref a1), (.ref a2)] 2 = mkF m 0 #[.val (.ref a1), .val (.ref a2)] [] := by first | (simp [entryFrame, mkF, argsToLocals, Value.category]; done) | rfl
def Q2 (Z : State) (a1 : Addr) (a2 : Addr) (u2 : Value) (h0 : Heap) (n0 : Nat) (v : Option Value) (h : Heap) (L : List Loc) : Prop := v = none ∧ Fr n0 L ∧ Keep h0 h [a1] ∧ Exa Z h a1 "com/example/quillon/quillon/tlv/TlvReader" ∧ Fld Z h a1 "com/example/quillon/quillon/tlv/TlvReader" "bytes" "[B" (.ref a2) ∧ Fld Z h a1 "com/example/quillon/quillon/tlv/TlvReader" "position" "I" u2
set_option maxRecDepth 65536 in
set_option maxHeartbeats 40000000 in
theorem rm2 (l : Launch) (Z : State) (a0 : Array Value) (hw : ∀ d ∈ tables_1, d.before a0 Z = true) (ws : List Jvm.Cond) (a1 : Addr) (a2 : Addr) (u1 : Value) (u2 : Value) (h0 : Heap) (n0 : Nat) (Z0 : n0 ≤ h0.size) (E1 : Exa Z h0 a1 "com/example/quillon/quillon/tlv/TlvReader") (g_a1 : n0 ≤ a1) (F1 : Fld Z h0 a1 "com/example/quillon/quillon/tlv/TlvReader" "bytes" "[B" u1) (F2 : Fld Z h0 a1 "com/example/quillon/quillon/tlv/TlvReader" "position" "I" u2) :
    MetFree l (⟨"com/example/quillon/quillon/tlv/TlvReader", "<init>", "([B)V"⟩ : MethodName) (head1 (Jvm.Cond.code (⟨"com/example/quillon/quillon/tlv/TlvReader", "<init>", "([B)V"⟩ : MethodName) prog_36_method_1_code 2 none :: ws) ({ frames := 1, cells := 0, slots := 0, locals := 12 } : Room)) (fun a U => a = #[(.ref a1), (.ref a2)] ∧ Z.Warmed39 U.vm ∧ U.heap = h0) (fun _ _ _ _ _ => True) (fun _ U o U' => ∃ v L, o = .returned v ∧ Q2 Z a1 a2 u2 h0 n0 v U'.heap L ∧ FrameEnd U o U' L ({ frames := 1, cells := 0, slots := 0, locals := 12 } : Room).cells ({ frames := 1, cells := 0, slots := 0, locals := 12 } : Room).slots) := by
  refine MetFree.of_bodySF (plainFor_of_name pn_2) hisR ?_
  intro p e s m args below meth c s₁ Bd hml0 hP hK
  obtain ⟨rfl, hZ, hh⟩ := hP
  have hx := Bd.exec
  have hby := Bd.bytes
  have hml : c.maxLocals = 2 := hml0
  have hown : s.vm.findClass "com/example/quillon/quillon/tlv/TlvReader" = some m.cls := findClass_of_methodNamed Bd.named
  have hnm := (name_of_methodNamed Bd.named Bd.method).1
  have X0 : Stand p l e ({ frames := 1, cells := 0, slots := 0, locals := 12 } : Room) s m #[(.ref a1), (.ref a2)] below meth c s₁ [] 0 0 := Stand.of_body Bd
  have e0 : s₁.heap = h0 := by rw [← hh, Bd.state]; rfl
  have N0 := Fr.nil n0
  have pre0 : ∀ t, Steps p.tables e below (s₁.setTop (mkF m 0 #[.val (.ref a1), .val (.ref a2)] [])) t → Steps p.tables e below (s₁.setTop (entryFrame m #[(.ref a1), (.ref a2)] 2)) t := fun t k => castTop (ef_rm2 m a1 a2) k
  have K0 : Keep h0 h0 [a1] := Keep.refl _ _

  obtain ⟨T1, X1, e1, st1⟩ := initO X0 hx hZ hown (hw _ (List.mem_of_getElem? (i := 12) rfl)) (hw _ (List.mem_of_getElem? (i := 13) rfl)) (hw _ (List.mem_of_getElem? (i := 14) rfl)) e0 (g := (mkF m 1 #[.val (.ref a1), .val (.ref a2)] [(.ref a1)])) rfl (by rw [hml]; rfl) rfl (hb hby d2_1) (by decide) (W := 0) (by show 2 * 0 + _ ≤ _; exact Nat.le_of_eq rfl) (by decide)
  obtain ⟨T2, h2, X2, e2, W2, st2⟩ := putF X1 hx hZ hown (host := "") (Or.inl (hw _ (List.mem_of_getElem? (i := 15) rfl))) Via.refl e1 F1 E1 (Or.inr ⟨(hw _ (List.mem_of_getElem? (i := 16) rfl)), rfl, hnm⟩) (hw _ (List.mem_of_getElem? (i := 7) rfl)) (ty := (.array .byte)) (by decide) rfl rfl (g := (mkF m 6 #[.val (.ref a1), .val (.ref a2)] [(.ref a2), (.ref a1)])) rfl rfl (hb hby d2_6)
  have N2 := Fr.snoc X2 N0 g_a1
  have E1_e2 := E1.wr W2
  have F1_e2 := F1.same W2
  have F2_e2 := F2.other W2 (Or.inr (slot_ne (Or.inl (hw _ (List.mem_of_getElem? (i := 23) rfl))) (Or.inr (hw _ (List.mem_of_getElem? (i := 16) rfl))) (by decide) (t := .int) (t' := (.array .byte)) (by decide) (by decide)))
  have Z2 : n0 ≤ h2.size := W2.size.symm ▸ Z0
  have K2 : Keep h0 h2 [a1] := K0.wr W2 (Or.inl (List.mem_of_getElem? (i := 0) rfl))
  obtain ⟨fs, hr, hrun, hended, hW, hsame⟩ := X2.leave (v := none) (fun _ => rfl)
  refine ⟨_, _, pre0 _ ?_, hrun, hended, _, _, rfl, ?_, ⟨_, rfl⟩, hW, hsame.mono (by decide) (by decide)⟩
  · show Steps p.tables e below (s₁.setTop (mkF m 0 #[.val (.ref a1), .val (.ref a2)] [])) _
    refine XS.aloadN X0.here hx rfl (hb hby d2_0) rfl rfl ?_
    show Steps p.tables e below (s₁.setTop (mkF m 1 #[.val (.ref a1), .val (.ref a2)] [(.ref a1)])) _
    refine st1 _ ?_
    show Steps p.tables e below (T1.setTop (mkF m 4 #[.val (.ref a1), .val (.ref a2)] [])) _
    refine XS.aloadN X1.here hx rfl (hb hby d2_4) rfl rfl ?_
    show Steps p.tables e below (T1.setTop (mkF m 5 #[.val (.ref a1), .val (.ref a2)] [(.ref a1)])) _
    refine XS.aloadN X1.here hx rfl (hb hby d2_5) rfl rfl ?_
    show Steps p.tables e below (T1.setTop (mkF m 6 #[.val (.ref a1), .val (.ref a2)] [(.ref a2), (.ref a1)])) _
    refine st2 _ ?_
    show Steps p.tables e below (T2.setTop (mkF m 9 #[.val (.ref a1), .val (.ref a2)] [])) _
    exact X2.returnOut hx Bd.returns (hb hby d2_9) hr
  · show Q2 Z a1 a2 u2 h0 n0 _ T2.heap _
    rw [e2]
    exact ⟨rfl, N2, K2, E1_e2, F1_e2, F2_e2⟩

theorem ef_rm6 (m : MethodId) (a1 : Addr) (p2 : Int32) : entryFrame m #[(.ref a1), (.int p2)] 3 = mkF m 0 #[.val (.ref a1), .val (.int p2), .unset] [] := by first | (simp [entryFrame, mkF, argsToLocals, Value.category]; done) | rfl
def Q6 (Z : State) (a1 : Addr) (p2 : Int32) (q : Int32) (b : Addr) (h0 : Heap) (n0 : Nat) (v : Option Value) (h : Heap) (L : List Loc) : Prop := Fr n0 L ∧ ∃ x : Addr, v = some (.ref x) ∧ Keep h0 h [a1] ∧ Exa Z h a1 "com/example/quillon/quillon/tlv/TlvReader" ∧ Fld Z h a1 "com/example/quillon/quillon/tlv/TlvReader" "bytes" "[B" (.ref b) ∧ Fld Z h a1 "com/example/quillon/quillon/tlv/TlvReader" "position" "I" (.int (q + p2))
set_option maxRecDepth 65536 in
set_option maxHeartbeats 40000000 in
theorem rm6 (l : Launch) (Z : State) (a0 : Array Value) (hw : ∀ d ∈ tables_1, d.before a0 Z = true) (ws : List Jvm.Cond) (a1 : Addr) (p2 : Int32) (q : Int32) (b : Addr) (z : Int32) (h0 : Heap) (n0 : Nat) (Z0 : n0 ≤ h0.size) (E1 : Exa Z h0 a1 "com/example/quillon/quillon/tlv/TlvReader") (g_a1 : n0 ≤ a1) (F1 : Fld Z h0 a1 "com/example/quillon/quillon/tlv/TlvReader" "position" "I" (.int q)) (F2 : Fld Z h0 a1 "com/example/quillon/quillon/tlv/TlvReader" "bytes" "[B" (.ref b)) (B1 : BA Z h0 b z) (h1 : 0 ≤ q.toInt) (h2 : 0 ≤ p2.toInt) (h3 : q.toInt + p2.toInt ≤ z.toInt) (h4 : z.toInt ≤ 4) :
    MetFree l (⟨"com/example/quillon/quillon/tlv/TlvReader", "take", "(I)[B"⟩ : MethodName) (head1 (Jvm.Cond.code (⟨"com/example/quillon/quillon/tlv/TlvReader", "take", "(I)[B"⟩ : MethodName) prog_36_method_12_code 3 (some (.array .byte)) :: ws) ({ frames := 3, cells := 1, slots := 4, locals := 48 } : Room)) (fun a U => a = #[(.ref a1), (.int p2)] ∧ Z.Warmed39 U.vm ∧ U.heap = h0) (fun _ _ _ _ _ => True) (fun _ U o U' => ∃ v L, o = .returned v ∧ Q6 Z a1 p2 q b h0 n0 v U'.heap L ∧ FrameEnd U o U' L ({ frames := 3, cells := 1, slots := 4, locals := 48 } : Room).cells ({ frames := 3, cells := 1, slots := 4, locals := 48 } : Room).slots) := by
  refine MetFree.of_bodySF (plainFor_of_name pn_6) hisR ?_
  intro p e s m args below meth c s₁ Bd hml0 hP hK
  obtain ⟨rfl, hZ, hh⟩ := hP
  have hx := Bd.exec
  have hby := Bd.bytes
  have hml : c.maxLocals = 3 := hml0
  have hown : s.vm.findClass "com/example/quillon/quillon/tlv/TlvReader" = some m.cls := findClass_of_methodNamed Bd.named
  have hnm := (name_of_methodNamed Bd.named Bd.method).1
  have X0 : Stand p l e ({ frames := 3, cells := 1, slots := 4, locals := 48 } : Room) s m #[(.ref a1), (.int p2)] below meth c s₁ [] 0 0 := Stand.of_body Bd
  have e0 : s₁.heap = h0 := by rw [← hh, Bd.state]; rfl
  have N0 := Fr.nil n0
  have pre0 : ∀ t, Steps p.tables e below (s₁.setTop (mkF m 0 #[.val (.ref a1), .val (.int p2), .unset] [])) t → Steps p.tables e below (s₁.setTop (entryFrame m #[(.ref a1), (.int p2)] 3)) t := fun t k => castTop (ef_rm6 m a1 p2) k
  have K0 : Keep h0 h0 [a1] := Keep.refl _ _

  have ha : (q + p2).toInt = q.toInt + p2.toInt := own_add h1 h2 (by omega)
  have hz : (z - q).toInt = z.toInt - q.toInt := own_sub (by omega) h1
  have neb : b ≠ a1 := ne_exa B1.2 E1 (by decide)
  obtain ⟨T1, X1, e1, st1⟩ := getF X0 hx hZ hown (host := "") (Or.inl (hw _ (List.mem_of_getElem? (i := 15) rfl))) Via.refl e0 F2 (g := (mkF m 2 #[.val (.ref a1), .val (.int p2), .unset] [(.ref a1), (.int p2)])) rfl rfl (hb hby d6_2)
  obtain ⟨T2, X2, e2, st2⟩ := getF X1 hx hZ hown (host := "") (Or.inl (hw _ (List.mem_of_getElem? (i := 22) rfl))) Via.refl e1 F1 (g := (mkF m 7 #[.val (.ref a1), .val (.int p2), .unset] [(.ref a1), (.int z), (.int p2)])) rfl rfl (hb hby d6_7)
  obtain ⟨T3, X3, e3, st3⟩ := getF X2 hx hZ hown (host := "") (Or.inl (hw _ (List.mem_of_getElem? (i := 15) rfl))) Via.refl e2 F2 (g := (mkF m 43 #[.val (.ref a1), .val (.int p2), .unset] [(.ref a1)])) rfl rfl (hb hby d6_43)
  obtain ⟨T4, X4, e4, st4⟩ := getF X3 hx hZ hown (host := "") (Or.inl (hw _ (List.mem_of_getElem? (i := 22) rfl))) Via.refl e3 F1 (g := (mkF m 47 #[.val (.ref a1), .val (.int p2), .unset] [(.ref a1), (.ref b)])) rfl rfl (hb hby d6_47)
  obtain ⟨T5, X5, e5, st5⟩ := getF X4 hx hZ hown (host := "") (Or.inl (hw _ (List.mem_of_getElem? (i := 22) rfl))) Via.refl e4 F1 (g := (mkF m 51 #[.val (.ref a1), .val (.int p2), .unset] [(.ref a1), (.int q), (.ref b)])) rfl rfl (hb hby d6_51)
  obtain ⟨_, _, ⟨T6, L6, k6, n6⟩, -, X6, ⟨Lc6, hQ6, l6, y6, z6⟩, st6⟩ := Jvm.LawKit.callS X5 hx (y := (⟨"java/util/Arrays", "copyOfRange", "([BII)[B"⟩ : MethodName)) hown (mvT hZ (hw _ (List.mem_of_getElem? (i := 33) rfl))) (mvT hZ (hw _ (List.mem_of_getElem? (i := 34) rfl))) (mvT hZ (hw _ (List.mem_of_getElem? (i := 35) rfl))) (mvT hZ (hw _ (List.mem_of_getElem? (i := 36) rfl))) (by decide) (backOf (W := 0) (rm7 l Z a0 hw [] b q (q + p2) z h0 n0 Z0 h1 (by omega) (by omega) h4 B1) hZ (hw _ (List.mem_of_getElem? (i := 36) rfl)) (hw _ (List.mem_of_getElem? (i := 35) rfl)) (by decide) (by decide)) (g := (mkF m 56 #[.val (.ref a1), .val (.int p2), .unset] [(.int (q + p2)), (.int q), (.ref b)])) rfl (by rw [hml]; rfl) (argsL := [(.ref b), (.int q), (.int (q + p2))]) (rest := []) (lenOf pd_7 rfl) rfl (by show 2 * 0 + _ ≤ _; exact Nat.le_of_eq rfl) (hb hby d6_56) (fun _ _ => ⟨rfl, e5, (by decide : 0 + 1 ≤ _), (by decide : 0 + 4 ≤ _)⟩)
  dsimp only [Pt.U, Pt.locs, Pt.cells, Pt.slots] at X6 l6 y6 z6 st6 hQ6
  subst l6 y6 z6
  obtain ⟨N6q, x6, rfl, Kc6⟩ := hQ6
  have N6 := Fr.app N0 N6q
  have E1_e6 := E1.keep Kc6
  have F1_e6 := F1.keep Kc6 nin0
  have F2_e6 := F2.keep Kc6 nin0
  have B1_e6 := B1.keep Kc6 nin0
  have Z6 : n0 ≤ T6.heap.size := Nat.le_trans Z0 Kc6.1
  have K6' : Keep h0 T6.heap [a1] := K0.trans Kc6 all0
  obtain ⟨T7, X7, e7, st7⟩ := getF X6 hx hZ hown (host := "") (Or.inl (hw _ (List.mem_of_getElem? (i := 22) rfl))) Via.refl rfl F1_e6 (g := (mkF m 62 #[.val (.ref a1), .val (.int p2), .val (.ref x6)] [(.ref a1), (.ref a1)])) rfl rfl (hb hby d6_62)
  obtain ⟨T8, h8, X8, e8, W8, st8⟩ := putF X7 hx hZ hown (host := "") (Or.inl (hw _ (List.mem_of_getElem? (i := 22) rfl))) Via.refl e7 F1_e6 E1_e6 (Or.inl (hw _ (List.mem_of_getElem? (i := 23) rfl))) (hw _ (List.mem_of_getElem? (i := 7) rfl)) (ty := .int) (by decide) rfl rfl (g := (mkF m 67 #[.val (.ref a1), .val (.int p2), .val (.ref x6)] [(.int (q + p2)), (.ref a1)])) rfl rfl (hb hby d6_67)
  have N8 := Fr.snoc X8 N6 g_a1
  have E1_e8 := E1_e6.wr W8
  have F1_e8 := F1_e6.same W8
  have F2_e8 := F2_e6.other W8 (Or.inr (slot_ne (Or.inr (hw _ (List.mem_of_getElem? (i := 16) rfl))) (Or.inl (hw _ (List.mem_of_getElem? (i := 23) rfl))) (by decide) (t := (.array .byte)) (t' := .int) (by decide) (by decide)))
  have B1_e8 := B1_e6.other W8 neb
  have Z8 : n0 ≤ h8.size := W8.size.symm ▸ Z6
  have K8 : Keep h0 h8 [a1] := K6'.wr W8 (Or.inl (List.mem_of_getElem? (i := 0) rfl))
  obtain ⟨fs, hr, hrun, hended, hW, hsame⟩ := X8.leave (v := some (.ref x6)) (fun h => by rw [Bd.returns] at h; cases h)
  refine ⟨_, _, pre0 _ ?_, hrun, hended, _, _, rfl, ?_, ⟨_, rfl⟩, hW, hsame.mono (by decide) (by decide)⟩
  · show Steps p.tables e below (s₁.setTop (mkF m 0 #[.val (.ref a1), .val (.int p2), .unset] [])) _
    refine XS.iloadN X0.here hx rfl (hb hby d6_0) rfl ?_
    show Steps p.tables e below (s₁.setTop (mkF m 1 #[.val (.ref a1), .val (.int p2), .unset] [(.int p2)])) _
    refine XS.aloadN X0.here hx rfl (hb hby d6_1) rfl rfl ?_
    show Steps p.tables e below (s₁.setTop (mkF m 2 #[.val (.ref a1), .val (.int p2), .unset] [(.ref a1), (.int p2)])) _
    refine st1 _ ?_
    show Steps p.tables e below (T1.setTop (mkF m 5 #[.val (.ref a1), .val (.int p2), .unset] [(.ref b), (.int p2)])) _
    refine own_lenB X1 hx hZ e1 B1 (g := (mkF m 5 #[.val (.ref a1), .val (.int p2), .unset] [(.ref b), (.int p2)])) rfl rfl (hb hby d6_5) _ ?_
    show Steps p.tables e below (T1.setTop (mkF m 6 #[.val (.ref a1), .val (.int p2), .unset] [(.int z), (.int p2)])) _
    refine XS.aloadN X1.here hx rfl (hb hby d6_6) rfl rfl ?_
    show Steps p.tables e below (T1.setTop (mkF m 7 #[.val (.ref a1), .val (.int p2), .unset] [(.ref a1), (.int z), (.int p2)])) _
    refine st2 _ ?_
    show Steps p.tables e below (T2.setTop (mkF m 10 #[.val (.ref a1), .val (.int p2), .unset] [(.int q), (.int z), (.int p2)])) _
    refine XS.isub X2.here hx rfl (hb hby d6_10) rfl ?_
    show Steps p.tables e below (T2.setTop (mkF m 11 #[.val (.ref a1), .val (.int p2), .unset] [(.int (z - q)), (.int p2)])) _
    refine XS.icmpYes X2.here hx rfl (pc0 := 11) (pc' := 42) rfl (hb hby d6_11) rfl (flt (by rw [Int32.lt_iff_toInt_lt]; omega : ¬ ((z - q) < p2))).2.2.2 (by decide) (by decide) ?_
    show Steps p.tables e below (T2.setTop (mkF m 42 #[.val (.ref a1), .val (.int p2), .unset] [])) _
    refine XS.aloadN X2.here hx rfl (hb hby d6_42) rfl rfl ?_
    show Steps p.tables e below (T2.setTop (mkF m 43 #[.val (.ref a1), .val (.int p2), .unset] [(.ref a1)])) _
    refine st3 _ ?_
    show Steps p.tables e below (T3.setTop (mkF m 46 #[.val (.ref a1), .val (.int p2), .unset] [(.ref b)])) _
    refine XS.aloadN X3.here hx rfl (hb hby d6_46) rfl rfl ?_
    show Steps p.tables e below (T3.setTop (mkF m 47 #[.val (.ref a1), .val (.int p2), .unset] [(.ref a1), (.ref b)])) _
    refine st4 _ ?_
    show Steps p.tables e below (T4.setTop (mkF m 50 #[.val (.ref a1), .val (.int p2), .unset] [(.int q), (.ref b)])) _
    refine XS.aloadN X4.here hx rfl (hb hby d6_50) rfl rfl ?_
    show Steps p.tables e below (T4.setTop (mkF m 51 #[.val (.ref a1), .val (.int p2), .unset] [(.ref a1), (.int q), (.ref b)])) _
    refine st5 _ ?_
    show Steps p.tables e below (T5.setTop (mkF m 54 #[.val (.ref a1), .val (.int p2), .unset] [(.int q), (.int q), (.ref b)])) _
    refine XS.iloadN X5.here hx rfl (hb hby d6_54) rfl ?_
    show Steps p.tables e below (T5.setTop (mkF m 55 #[.val (.ref a1), .val (.int p2), .unset] [(.int p2), (.int q), (.int q), (.ref b)])) _
    refine XS.iadd X5.here hx rfl (hb hby d6_55) rfl ?_
    show Steps p.tables e below (T5.setTop (mkF m 56 #[.val (.ref a1), .val (.int p2), .unset] [(.int (q + p2)), (.int q), (.ref b)])) _
    refine st6 _ ?_
    show Steps p.tables e below (T6.setTop (mkF m 59 #[.val (.ref a1), .val (.int p2), .unset] [(.ref x6)])) _
    refine XS.astoreN X6.here hx rfl (hb hby d6_59) rfl rfl (l' := #[.val (.ref a1), .val (.int p2), .val (.ref x6)]) rfl ?_
    show Steps p.tables e below (T6.setTop (mkF m 60 #[.val (.ref a1), .val (.int p2), .val (.ref x6)] [])) _
    refine XS.aloadN X6.here hx rfl (hb hby d6_60) rfl rfl ?_
    show Steps p.tables e below (T6.setTop (mkF m 61 #[.val (.ref a1), .val (.int p2), .val (.ref x6)] [(.ref a1)])) _
    refine XS.dup X6.here hx rfl (hb hby d6_61) rfl rfl ?_
    show Steps p.tables e below (T6.setTop (mkF m 62 #[.val (.ref a1), .val (.int p2), .val (.ref x6)] [(.ref a1), (.ref a1)])) _
    refine st7 _ ?_
    show Steps p.tables e below (T7.setTop (mkF m 65 #[.val (.ref a1), .val (.int p2), .val (.ref x6)] [(.int q), (.ref a1)])) _
    refine XS.iloadN X7.here hx rfl (hb hby d6_65) rfl ?_
    show Steps p.tables e below (T7.setTop (mkF m 66 #[.val (.ref a1), .val (.int p2), .val (.ref x6)] [(.int p2), (.int q), (.ref a1)])) _
    refine XS.iadd X7.here hx rfl (hb hby d6_66) rfl ?_
    show Steps p.tables e below (T7.setTop (mkF m 67 #[.val (.ref a1), .val (.int p2), .val (.ref x6)] [(.int (q + p2)), (.ref a1)])) _
    refine st8 _ ?_
    show Steps p.tables e below (T8.setTop (mkF m 70 #[.val (.ref a1), .val (.int p2), .val (.ref x6)] [])) _
    refine XS.aloadN X8.here hx rfl (hb hby d6_70) rfl rfl ?_
    show Steps p.tables e below (T8.setTop (mkF m 71 #[.val (.ref a1), .val (.int p2), .val (.ref x6)] [(.ref x6)])) _
    jvm_step X8.here [X8.here.top, hx, (hb hby d6_71), X8.method', Bd.returns, Value.isRef, FieldType.isReference]
    first | (intro acts; rw [hr _ acts rfl rfl rfl]) | rw [hr _ _ rfl rfl rfl]
    exact Steps.refl _
  · show Q6 Z a1 p2 q b h0 n0 _ T8.heap _
    rw [e8]
    exact ⟨N8, _, rfl, K8, E1_e8, F2_e8, F1_e8⟩

theorem ef_rm5 (m : MethodId) (a1 : Addr) (p2 : Int32) : entryFrame m #[(.ref a1), (.int p2)] 2 = mkF m 0 #[.val (.ref a1), .val (.int p2)] [] := by first | (simp [entryFrame, mkF, argsToLocals, Value.category]; done) | rfl
def Q5 (Z : State) (a1 : Addr) (p2 : Int32) (q : Int32) (b : Addr) (h0 : Heap) (n0 : Nat) (v : Option Value) (h : Heap) (L : List Loc) : Prop := Fr n0 L ∧ ∃ x : Addr, v = some (.ref x) ∧ Keep h0 h [a1] ∧ Exa Z h a1 "com/example/quillon/quillon/tlv/TlvReader" ∧ Fld Z h a1 "com/example/quillon/quillon/tlv/TlvReader" "bytes" "[B" (.ref b) ∧ Fld Z h a1 "com/example/quillon/quillon/tlv/TlvReader" "position" "I" (.int (q + p2))
set_option maxRecDepth 65536 in
set_option maxHeartbeats 40000000 in
theorem rm5 (l : Launch) (Z : State) (a0 : Array Value) (hw : ∀ d ∈ tables_1, d.before a0 Z = true) (ws : List Jvm.Cond) (a1 : Addr) (p2 : Int32) (q : Int32) (b : Addr) (z : Int32) (h0 : Heap) (n0 : Nat) (Z0 : n0 ≤ h0.size) (E1 : Exa Z h0 a1 "com/example/quillon/quillon/tlv/TlvReader") (g_a1 : n0 ≤ a1) (F1 : Fld Z h0 a1 "com/example/quillon/quillon/tlv/TlvReader" "position" "I" (.int q)) (F2 : Fld Z h0 a1 "com/example/quillon/quillon/tlv/TlvReader" "bytes" "[B" (.ref b)) (B1 : BA Z h0 b z) (h1 : 0 ≤ q.toInt) (h2 : 0 ≤ p2.toInt) (h3 : q.toInt + p2.toInt ≤ z.toInt) (h4 : z.toInt ≤ 4) :
    MetFree l (⟨"com/example/quillon/quillon/tlv/TlvReader", "bytes", "(I)[B"⟩ : MethodName) (head1 (Jvm.Cond.code (⟨"com/example/quillon/quillon/tlv/TlvReader", "bytes", "(I)[B"⟩ : MethodName) prog_36_method_6_code 2 (some (.array .byte)) :: ws) ({ frames := 4, cells := 1, slots := 4, locals := 62 } : Room)) (fun a U => a = #[(.ref a1), (.int p2)] ∧ Z.Warmed39 U.vm ∧ U.heap = h0) (fun _ _ _ _ _ => True) (fun _ U o U' => ∃ v L, o = .returned v ∧ Q5 Z a1 p2 q b h0 n0 v U'.heap L ∧ FrameEnd U o U' L ({ frames := 4, cells := 1, slots := 4, locals := 62 } : Room).cells ({ frames := 4, cells := 1, slots := 4, locals := 62 } : Room).slots) := by
  refine MetFree.of_bodySF (plainFor_of_name pn_5) hisR ?_
  intro p e s m args below meth c s₁ Bd hml0 hP hK
  obtain ⟨rfl, hZ, hh⟩ := hP
  have hx := Bd.exec
  have hby := Bd.bytes
  have hml : c.maxLocals = 2 := hml0
  have hown : s.vm.findClass "com/example/quillon/quillon/tlv/TlvReader" = some m.cls := findClass_of_methodNamed Bd.named
  have hnm := (name_of_methodNamed Bd.named Bd.method).1
  have X0 : Stand p l e ({ frames := 4, cells := 1, slots := 4, locals := 62 } : Room) s m #[(.ref a1), (.int p2)] below meth c s₁ [] 0 0 := Stand.of_body Bd
  have e0 : s₁.heap = h0 := by rw [← hh, Bd.state]; rfl
  have N0 := Fr.nil n0
  have pre0 : ∀ t, Steps p.tables e below (s₁.setTop (mkF m 0 #[.val (.ref a1), .val (.int p2)] [])) t → Steps p.tables e below (s₁.setTop (entryFrame m #[(.ref a1), (.int p2)] 2)) t := fun t k => castTop (ef_rm5 m a1 p2) k
  have K0 : Keep h0 h0 [a1] := Keep.refl _ _

  have neb : b ≠ a1 := ne_exa B1.2 E1 (by decide)
  obtain ⟨cq1, q1, q1'⟩ := E1.cell
  obtain ⟨_, _, ⟨T1, L1, k1, n1⟩, -, X1, ⟨Lc1, hQ1, l1, y1, z1⟩, st1⟩ := X0.privateBack hx (y := (⟨"com/example/quillon/quillon/tlv/TlvReader", "take", "(I)[B"⟩ : MethodName)) hown (mvT hZ (hw _ (List.mem_of_getElem? (i := 29) rfl))) (mvT hZ (hw _ (List.mem_of_getElem? (i := 30) rfl))) (own_selp (mvT hZ (hw _ (List.mem_of_getElem? (i := 20) rfl)) (args := #[])) (Cond.privateMethod_at (mvP hZ (hw _ (List.mem_of_getElem? (i := 31) rfl)) (args := #[]))) (mvT hZ (hw _ (List.mem_of_getElem? (i := 30) rfl))) (by decide)) (Cond.privateMethod_at (mvP hZ (hw _ (List.mem_of_getElem? (i := 31) rfl)) (args := #[]))) (mvT hZ (hw _ (List.mem_of_getElem? (i := 32) rfl))) (by decide) (backOf (W := 0) (rm6 l Z a0 hw [] a1 p2 q b z h0 n0 Z0 E1 g_a1 F1 F2 B1 h1 h2 h3 h4) hZ (hw _ (List.mem_of_getElem? (i := 32) rfl)) (hw _ (List.mem_of_getElem? (i := 8) rfl)) (by decide) (by decide)) (g := (mkF m 2 #[.val (.ref a1), .val (.int p2)] [(.int p2), (.ref a1)])) rfl (by rw [hml]; rfl) (Steps.refl _) (a := a1) (by rw [e0]; exact q1) q1' (argsL := [(.int p2)]) (rest := []) (lenOf pd_6 rfl) rfl (by show 2 * 0 + _ ≤ _; exact Nat.le_of_eq rfl) (hb hby d5_2) (fun _ _ => ⟨rfl, e0, (by decide : 0 + 1 ≤ _), (by decide : 0 + 4 ≤ _)⟩)
  dsimp only [Pt.U, Pt.locs, Pt.cells, Pt.slots] at X1 l1 y1 z1 st1 hQ1
  subst l1 y1 z1
  obtain ⟨N1q, x1, rfl, Kc1, Ec1, G11, G21⟩ := hQ1
  have N1 := Fr.app N0 N1q
  have B1_e1 := B1.keep Kc1 (ninS neb nin0)
  have Z1 : n0 ≤ T1.heap.size := Nat.le_trans Z0 Kc1.1
  have K1' : Keep h0 T1.heap [a1] := K0.trans Kc1 (allS (Or.inl (List.mem_of_getElem? (i := 0) rfl)) all0)
  obtain ⟨fs, hr, hrun, hended, hW, hsame⟩ := X1.leave (v := some (.ref x1)) (fun h => by rw [Bd.returns] at h; cases h)
  refine ⟨_, _, pre0 _ ?_, hrun, hended, _, _, rfl, ?_, ⟨_, rfl⟩, hW, hsame.mono (by decide) (by decide)⟩
  · show Steps p.tables e below (s₁.setTop (mkF m 0 #[.val (.ref a1), .val (.int p2)] [])) _
    refine XS.aloadN X0.here hx rfl (hb hby d5_0) rfl rfl ?_
    show Steps p.tables e below (s₁.setTop (mkF m 1 #[.val (.ref a1), .val (.int p2)] [(.ref a1)])) _
    refine XS.iloadN X0.here hx rfl (hb hby d5_1) rfl ?_
    show Steps p.tables e below (s₁.setTop (mkF m 2 #[.val (.ref a1), .val (.int p2)] [(.int p2), (.ref a1)])) _
    refine st1.trans ?_
    show Steps p.tables e below (T1.setTop (mkF m 5 #[.val (.ref a1), .val (.int p2)] [(.ref x1)])) _
    jvm_step X1.here [X1.here.top, hx, (hb hby d5_5), X1.method', Bd.returns, Value.isRef, FieldType.isReference]
    first | (intro acts; rw [hr _ acts rfl rfl rfl]) | rw [hr _ _ rfl rfl rfl]
    exact Steps.refl _
  · show Q5 Z a1 p2 q b h0 n0 _ T1.heap _
    exact ⟨N1, _, rfl, K1', Ec1, G11, G21⟩

theorem ef_rm8 (m : MethodId) (a1 : Addr) : entryFrame m #[(.ref a1)] 2 = mkF m 0 #[.val (.ref a1), .unset] [] := by first | (simp [entryFrame, mkF, argsToLocals, Value.category]; done) | rfl
def Q8 (Z : State) (a1 : Addr) (b : Addr) (z : Int32) (h0 : Heap) (n0 : Nat) (v : Option Value) (h : Heap) (L : List Loc) : Prop := Fr n0 L ∧ ∃ x : Addr, v = some (.ref x) ∧ Keep h0 h [a1] ∧ Exa Z h a1 "com/example/quillon/quillon/tlv/TlvReader" ∧ Fld Z h a1 "com/example/quillon/quillon/tlv/TlvReader" "bytes" "[B" (.ref b) ∧ Fld Z h a1 "com/example/quillon/quillon/tlv/TlvReader" "position" "I" (.int z)
set_option maxRecDepth 65536 in
set_option maxHeartbeats 40000000 in
theorem rm8 (l : Launch) (Z : State) (a0 : Array Value) (hw : ∀ d ∈ tables_1, d.before a0 Z = true) (ws : List Jvm.Cond) (a1 : Addr) (q : Int32) (b : Addr) (z : Int32) (h0 : Heap) (n0 : Nat) (Z0 : n0 ≤ h0.size) (E1 : Exa Z h0 a1 "com/example/quillon/quillon/tlv/TlvReader") (g_a1 : n0 ≤ a1) (F1 : Fld Z h0 a1 "com/example/quillon/quillon/tlv/TlvReader" "position" "I" (.int q)) (F2 : Fld Z h0 a1 "com/example/quillon/quillon/tlv/TlvReader" "bytes" "[B" (.ref b)) (B1 : BA Z h0 b z) (h1 : 0 ≤ q.toInt) (h3 : q.toInt ≤ z.toInt) (h4 : z.toInt ≤ 4) :
    MetFree l (⟨"com/example/quillon/quillon/tlv/TlvReader", "rest", "()[B"⟩ : MethodName) (head1 (Jvm.Cond.code (⟨"com/example/quillon/quillon/tlv/TlvReader", "rest", "()[B"⟩ : MethodName) prog_36_method_7_code 2 (some (.array .byte)) :: ws) ({ frames := 3, cells := 1, slots := 4, locals := 48 } : Room)) (fun a U => a = #[(.ref a1)] ∧ Z.Warmed39 U.vm ∧ U.heap = h0) (fun _ _ _ _ _ => True) (fun _ U o U' => ∃ v L, o = .returned v ∧ Q8 Z a1 b z h0 n0 v U'.heap L ∧ FrameEnd U o U' L ({ frames := 3, cells := 1, slots := 4, locals := 48 } : Room).cells ({ frames := 3, cells := 1, slots := 4, locals := 48 } : Room).slots) := by
  refine MetFree.of_bodySF (plainFor_of_name pn_8) hisR ?_
  intro p e s m args below meth c s₁ Bd hml0 hP hK
  obtain ⟨rfl, hZ, hh⟩ := hP
  have hx := Bd.exec
  have hby := Bd.bytes
  have hml : c.maxLocals = 2 := hml0
  have hown : s.vm.findClass "com/example/quillon/quillon/tlv/TlvReader" = some m.cls := findClass_of_methodNamed Bd.named
  have hnm := (name_of_methodNamed Bd.named Bd.method).1
  have X0 : Stand p l e ({ frames := 3, cells := 1, slots := 4, locals := 48 } : Room) s m #[(.ref a1)] below meth c s₁ [] 0 0 := Stand.of_body Bd
  have e0 : s₁.heap = h0 := by rw [← hh, Bd.state]; rfl
  have N0 := Fr.nil n0
  have pre0 : ∀ t, Steps p.tables e below (s₁.setTop (mkF m 0 #[.val (.ref a1), .unset] [])) t → Steps p.tables e below (s₁.setTop (entryFrame m #[(.ref a1)] 2)) t := fun t k => castTop (ef_rm8 m a1) k
  have K0 : Keep h0 h0 [a1] := Keep.refl _ _

  have neb : b ≠ a1 := ne_exa B1.2 E1 (by decide)
  obtain ⟨T1, X1, e1, st1⟩ := getF X0 hx hZ hown (host := "") (Or.inl (hw _ (List.mem_of_getElem? (i := 15) rfl))) Via.refl e0 F2 (g := (mkF m 1 #[.val (.ref a1), .unset] [(.ref a1)])) rfl rfl (hb hby d8_1)
  obtain ⟨T2, X2, e2, st2⟩ := getF X1 hx hZ hown (host := "") (Or.inl (hw _ (List.mem_of_getElem? (i := 22) rfl))) Via.refl e1 F1 (g := (mkF m 5 #[.val (.ref a1), .unset] [(.ref a1), (.ref b)])) rfl rfl (hb hby d8_5)
  obtain ⟨T3, X3, e3, st3⟩ := getF X2 hx hZ hown (host := "") (Or.inl (hw _ (List.mem_of_getElem? (i := 15) rfl))) Via.refl e2 F2 (g := (mkF m 9 #[.val (.ref a1), .unset] [(.ref a1), (.int q), (.ref b)])) rfl rfl (hb hby d8_9)
  obtain ⟨_, _, ⟨T4, L4, k4, n4⟩, -, X4, ⟨Lc4, hQ4, l4, y4, z4⟩, st4⟩ := Jvm.LawKit.callS X3 hx (y := (⟨"java/util/Arrays", "copyOfRange", "([BII)[B"⟩ : MethodName)) hown (mvT hZ (hw _ (List.mem_of_getElem? (i := 33) rfl))) (mvT hZ (hw _ (List.mem_of_getElem? (i := 34) rfl))) (mvT hZ (hw _ (List.mem_of_getElem? (i := 35) rfl))) (mvT hZ (hw _ (List.mem_of_getElem? (i := 36) rfl))) (by decide) (backOf (W := 0) (rm7 l Z a0 hw [] b q z z h0 n0 Z0 h1 h3 (Int.le_refl _) h4 B1) hZ (hw _ (List.mem_of_getElem? (i := 36) rfl)) (hw _ (List.mem_of_getElem? (i := 35) rfl)) (by decide) (by decide)) (g := (mkF m 13 #[.val (.ref a1), .unset] [(.int z), (.int q), (.ref b)])) rfl (by rw [hml]; rfl) (argsL := [(.ref b), (.int q), (.int z)]) (rest := []) (lenOf pd_7 rfl) rfl (by show 2 * 0 + _ ≤ _; exact Nat.le_of_eq rfl) (hb hby d8_13) (fun _ _ => ⟨rfl, e3, (by decide : 0 + 1 ≤ _), (by decide : 0 + 4 ≤ _)⟩)
  dsimp only [Pt.U, Pt.locs, Pt.cells, Pt.slots] at X4 l4 y4 z4 st4 hQ4
  subst l4 y4 z4
  obtain ⟨N4q, x4, rfl, Kc4⟩ := hQ4
  have N4 := Fr.app N0 N4q
  have E1_e4 := E1.keep Kc4
  have F1_e4 := F1.keep Kc4 nin0
  have F2_e4 := F2.keep Kc4 nin0
  have B1_e4 := B1.keep Kc4 nin0
  have Z4 : n0 ≤ T4.heap.size := Nat.le_trans Z0 Kc4.1
  have K4' : Keep h0 T4.heap [a1] := K0.trans Kc4 all0
  obtain ⟨T5, X5, e5, st5⟩ := getF X4 hx hZ hown (host := "") (Or.inl (hw _ (List.mem_of_getElem? (i := 15) rfl))) Via.refl rfl F2_e4 (g := (mkF m 19 #[.val (.ref a1), .val (.ref x4)] [(.ref a1), (.ref a1)])) rfl rfl (hb hby d8_19)
  obtain ⟨T6, h6, X6, e6, W6, st6⟩ := putF X5 hx hZ hown (host := "") (Or.inl (hw _ (List.mem_of_getElem? (i := 22) rfl))) Via.refl e5 F1_e4 E1_e4 (Or.inl (hw _ (List.mem_of_getElem? (i := 23) rfl))) (hw _ (List.mem_of_getElem? (i := 7) rfl)) (ty := .int) (by decide) rfl rfl (g := (mkF m 23 #[.val (.ref a1), .val (.ref x4)] [(.int z), (.ref a1)])) rfl rfl (hb hby d8_23)
  have N6 := Fr.snoc X6 N4 g_a1
  have E1_e6 := E1_e4.wr W6
  have F1_e6 := F1_e4.same W6
  have F2_e6 := F2_e4.other W6 (Or.inr (slot_ne (Or.inr (hw _ (List.mem_of_getElem? (i := 16) rfl))) (Or.inl (hw _ (List.mem_of_getElem? (i := 23) rfl))) (by decide) (t := (.array .byte)) (t' := .int) (by decide) (by decide)))
  have B1_e6 := B1_e4.other W6 neb
  have Z6 : n0 ≤ h6.size := W6.size.symm ▸ Z4
  have K6 : Keep h0 h6 [a1] := K4'.wr W6 (Or.inl (List.mem_of_getElem? (i := 0) rfl))
  obtain ⟨fs, hr, hrun, hended, hW, hsame⟩ := X6.leave (v := some (.ref x4)) (fun h => by rw [Bd.returns] at h; cases h)
  refine ⟨_, _, pre0 _ ?_, hrun, hended, _, _, rfl, ?_, ⟨_, rfl⟩, hW, hsame.mono (by decide) (by decide)⟩
  · show Steps p.tables e below (s₁.setTop (mkF m 0 #[.val (.ref a1), .unset] [])) _
    refine XS.aloadN X0.here hx rfl (hb hby d8_0) rfl rfl ?_
    show Steps p.tables e below (s₁.setTop (mkF m 1 #[.val (.ref a1), .unset] [(.ref a1)])) _
    refine st1 _ ?_
    show Steps p.tables e below (T1.setTop (mkF m 4 #[.val (.ref a1), .unset] [(.ref b)])) _
    refine XS.aloadN X1.here hx rfl (hb hby d8_4) rfl rfl ?_
    show Steps p.tables e below (T1.setTop (mkF m 5 #[.val (.ref a1), .unset] [(.ref a1), (.ref b)])) _
    refine st2 _ ?_
    show Steps p.tables e below (T2.setTop (mkF m 8 #[.val (.ref a1), .unset] [(.int q), (.ref b)])) _
    refine XS.aloadN X2.here hx rfl (hb hby d8_8) rfl rfl ?_
    show Steps p.tables e below (T2.setTop (mkF m 9 #[.val (.ref a1), .unset] [(.ref a1), (.int q), (.ref b)])) _
    refine st3 _ ?_
    show Steps p.tables e below (T3.setTop (mkF m 12 #[.val (.ref a1), .unset] [(.ref b), (.int q), (.ref b)])) _
    refine own_lenB X3 hx hZ e3 B1 (g := (mkF m 12 #[.val (.ref a1), .unset] [(.ref b), (.int q), (.ref b)])) rfl rfl (hb hby d8_12) _ ?_
    show Steps p.tables e below (T3.setTop (mkF m 13 #[.val (.ref a1), .unset] [(.int z), (.int q), (.ref b)])) _
    refine st4 _ ?_
    show Steps p.tables e below (T4.setTop (mkF m 16 #[.val (.ref a1), .unset] [(.ref x4)])) _
    refine XS.astoreN X4.here hx rfl (hb hby d8_16) rfl rfl (l' := #[.val (.ref a1), .val (.ref x4)]) rfl ?_
    show Steps p.tables e below (T4.setTop (mkF m 17 #[.val (.ref a1), .val (.ref x4)] [])) _
    refine XS.aloadN X4.here hx rfl (hb hby d8_17) rfl rfl ?_
    show Steps p.tables e below (T4.setTop (mkF m 18 #[.val (.ref a1), .val (.ref x4)] [(.ref a1)])) _
    refine XS.aloadN X4.here hx rfl (hb hby d8_18) rfl rfl ?_
    show Steps p.tables e below (T4.setTop (mkF m 19 #[.val (.ref a1), .val (.ref x4)] [(.ref a1), (.ref a1)])) _
    refine st5 _ ?_
    show Steps p.tables e below (T5.setTop (mkF m 22 #[.val (.ref a1), .val (.ref x4)] [(.ref b), (.ref a1)])) _
    refine own_lenB X5 hx hZ e5 B1_e4 (g := (mkF m 22 #[.val (.ref a1), .val (.ref x4)] [(.ref b), (.ref a1)])) rfl rfl (hb hby d8_22) _ ?_
    show Steps p.tables e below (T5.setTop (mkF m 23 #[.val (.ref a1), .val (.ref x4)] [(.int z), (.ref a1)])) _
    refine st6 _ ?_
    show Steps p.tables e below (T6.setTop (mkF m 26 #[.val (.ref a1), .val (.ref x4)] [])) _
    refine XS.aloadN X6.here hx rfl (hb hby d8_26) rfl rfl ?_
    show Steps p.tables e below (T6.setTop (mkF m 27 #[.val (.ref a1), .val (.ref x4)] [(.ref x4)])) _
    jvm_step X6.here [X6.here.top, hx, (hb hby d8_27), X6.method', Bd.returns, Value.isRef, FieldType.isReference]
    first | (intro acts; rw [hr _ acts rfl rfl rfl]) | rw [hr _ _ rfl rfl rfl]
    exact Steps.refl _
  · show Q8 Z a1 b z h0 n0 _ T6.heap _
    rw [e6]
    exact ⟨N6, _, rfl, K6, E1_e6, F2_e6, F1_e6⟩

theorem ef_rm1 (m : MethodId) (p1 : Int32) : entryFrame m #[(.int p1)] 1 = mkF m 0 #[.val (.int p1)] [] := by first | (simp [entryFrame, mkF, argsToLocals, Value.category]; done) | rfl
def Q1 (Z : State) (p1 : Int32) (h0 : Heap) (n0 : Nat) (v : Option Value) (h : Heap) (L : List Loc) : Prop := Fr n0 L ∧ ∃ b : Addr, v = some (.ref b) ∧ h0.size ≤ b ∧ Keep h0 h [] ∧ BA Z h b p1
set_option maxRecDepth 65536 in
set_option maxHeartbeats 40000000 in
theorem rm1 (l : Launch) (Z : State) (a0 : Array Value) (hw : ∀ d ∈ tables_1, d.before a0 Z = true) (ws : List Jvm.Cond) (p1 : Int32) (h0 : Heap) (n0 : Nat) (Z0 : n0 ≤ h0.size) (h0_ : 0 ≤ p1.toInt) (h4 : p1.toInt ≤ 4) :
    MetFree l (⟨"com/example/quillon/quillon/tlv/TlvReaderHasRemainingPinLaw", "make", "(I)[B"⟩ : MethodName) (head1 (Jvm.Cond.code (⟨"com/example/quillon/quillon/tlv/TlvReaderHasRemainingPinLaw", "make", "(I)[B"⟩ : MethodName) method_2_code 1 (some (.array .byte)) :: ws) ({ frames := 0, cells := 1, slots := 4, locals := 0 } : Room)) (fun a U => a = #[(.int p1)] ∧ Z.Warmed39 U.vm ∧ U.heap = h0) (fun _ _ _ _ _ => True) (fun _ U o U' => ∃ v L, o = .returned v ∧ Q1 Z p1 h0 n0 v U'.heap L ∧ FrameEnd U o U' L ({ frames := 0, cells := 1, slots := 4, locals := 0 } : Room).cells ({ frames := 0, cells := 1, slots := 4, locals := 0 } : Room).slots) := by
  refine MetFree.of_bodySF (plainFor_of_name pn_1) hisR ?_
  intro p e s m args below meth c s₁ Bd hml0 hP hK
  obtain ⟨rfl, hZ, hh⟩ := hP
  have hx := Bd.exec
  have hby := Bd.bytes
  have hml : c.maxLocals = 1 := hml0
  have hown : s.vm.findClass "com/example/quillon/quillon/tlv/TlvReaderHasRemainingPinLaw" = some m.cls := findClass_of_methodNamed Bd.named
  have hnm := (name_of_methodNamed Bd.named Bd.method).1
  have X0 : Stand p l e ({ frames := 0, cells := 1, slots := 4, locals := 0 } : Room) s m #[(.int p1)] below meth c s₁ [] 0 0 := Stand.of_body Bd
  have e0 : s₁.heap = h0 := by rw [← hh, Bd.state]; rfl
  have N0 := Fr.nil n0
  have pre0 : ∀ t, Steps p.tables e below (s₁.setTop (mkF m 0 #[.val (.int p1)] [])) t → Steps p.tables e below (s₁.setTop (entryFrame m #[(.int p1)] 1)) t := fun t k => castTop (ef_rm1 m p1) k
  have K0 : Keep h0 h0 [] := Keep.refl _ _

  by_cases ee0 : p1 = (0 : Int32)
  · have hp := ee0
    obtain ⟨T1, h1, k1, X1, e1, E1, A1, F1, st1⟩ := newPE X0 hx hZ (hw _ (List.mem_of_getElem? (i := 5) rfl)) e0 (g := (mkF m 5 #[.val (.int p1)] [(.int (0 : Int32))])) rfl (hb hby d1_5) rfl (by decide) (cap := 4) (by decide) (by decide) (by decide) (by decide) (ad := "[B") (by decide)
    obtain ⟨b1, g1⟩ : ∃ z, z = h0.size := ⟨_, rfl⟩
    rw [← g1] at A1 F1 st1
    have g_b1 : n0 ≤ b1 := Nat.le_trans Z0 (Nat.le_of_eq g1.symm)
    have sz_b1 : h0.size ≤ b1 := Nat.le_trans K0.1 (Nat.le_of_eq g1.symm)
    have Z1 : n0 ≤ h1.size := Nat.le_trans Z0 E1.1
    have K1 : Keep h0 h1 [] := K0.ext E1
    have V1 : BA Z h1 b1 p1 := by rw [hp]; exact ⟨⟨_, _, Arv.new A1 (by decide)⟩, F1⟩
    obtain ⟨fs, hr, hrun, hended, hW, hsame⟩ := X1.leave (v := some (.ref b1)) (fun h => by rw [Bd.returns] at h; cases h)
    refine ⟨_, _, pre0 _ ?_, hrun, hended, _, _, rfl, ?_, ⟨_, rfl⟩, hW, hsame.mono (by decide) (by decide)⟩
    · show Steps p.tables e below (s₁.setTop (mkF m 0 #[.val (.int p1)] [])) _
      refine XS.iloadN X0.here hx rfl (hb hby d1_0) rfl ?_
      show Steps p.tables e below (s₁.setTop (mkF m 1 #[.val (.int p1)] [(.int p1)])) _
      refine XS.ifNo X0.here hx rfl (hb hby d1_1) rfl ((if0 _ _).trans (teq (ee0 : p1 = (0 : Int32))).2) ?_
      show Steps p.tables e below (s₁.setTop (mkF m 4 #[.val (.int p1)] [])) _
      refine XS.iconst X0.here hx rfl (hb hby d1_4) ?_
      show Steps p.tables e below (s₁.setTop (mkF m 5 #[.val (.int p1)] [(.int (0 : Int32))])) _
      refine st1 _ ?_
      show Steps p.tables e below (T1.setTop (mkF m 7 #[.val (.int p1)] [(.ref b1)])) _
      jvm_step X1.here [X1.here.top, hx, (hb hby d1_7), X1.method', Bd.returns, Value.isRef, FieldType.isReference]
      first | (intro acts; rw [hr _ acts rfl rfl rfl]) | rw [hr _ _ rfl rfl rfl]
      exact Steps.refl _
    · show Q1 Z p1 h0 n0 _ T1.heap _
      rw [e1]
      exact ⟨N0, b1, rfl, sz_b1, K1, V1⟩
  · by_cases ee1 : p1 = (1 : Int32)
    · have hp := ee1
      obtain ⟨T1, h1, k1, X1, e1, E1, A1, F1, st1⟩ := newPE X0 hx hZ (hw _ (List.mem_of_getElem? (i := 5) rfl)) e0 (g := (mkF m 14 #[.val (.int p1)] [(.int (1 : Int32))])) rfl (hb hby d1_14) rfl (by decide) (cap := 4) (by decide) (by decide) (by decide) (by decide) (ad := "[B") (by decide)
      obtain ⟨b1, g1⟩ : ∃ z, z = h0.size := ⟨_, rfl⟩
      rw [← g1] at A1 F1 st1
      have g_b1 : n0 ≤ b1 := Nat.le_trans Z0 (Nat.le_of_eq g1.symm)
      have sz_b1 : h0.size ≤ b1 := Nat.le_trans K0.1 (Nat.le_of_eq g1.symm)
      have Z1 : n0 ≤ h1.size := Nat.le_trans Z0 E1.1
      have K1 : Keep h0 h1 [] := K0.ext E1
      have V1 : BA Z h1 b1 p1 := by rw [hp]; exact ⟨⟨_, _, Arv.new A1 (by decide)⟩, F1⟩
      obtain ⟨fs, hr, hrun, hended, hW, hsame⟩ := X1.leave (v := some (.ref b1)) (fun h => by rw [Bd.returns] at h; cases h)
      refine ⟨_, _, pre0 _ ?_, hrun, hended, _, _, rfl, ?_, ⟨_, rfl⟩, hW, hsame.mono (by decide) (by decide)⟩
      · show Steps p.tables e below (s₁.setTop (mkF m 0 #[.val (.int p1)] [])) _
        refine XS.iloadN X0.here hx rfl (hb hby d1_0) rfl ?_
        show Steps p.tables e below (s₁.setTop (mkF m 1 #[.val (.int p1)] [(.int p1)])) _
        refine XS.ifYes X0.here hx rfl (pc0 := 1) (pc' := 8) rfl (hb hby d1_1) rfl ((if0 _ _).trans (feq (ee0 : ¬ (p1 = (0 : Int32)))).2) (by decide) (by decide) ?_
        show Steps p.tables e below (s₁.setTop (mkF m 8 #[.val (.int p1)] [])) _
        refine XS.iloadN X0.here hx rfl (hb hby d1_8) rfl ?_
        show Steps p.tables e below (s₁.setTop (mkF m 9 #[.val (.int p1)] [(.int p1)])) _
        refine XS.iconst X0.here hx rfl (hb hby d1_9) ?_
        show Steps p.tables e below (s₁.setTop (mkF m 10 #[.val (.int p1)] [(.int (1 : Int32)), (.int p1)])) _
        refine XS.icmpNo X0.here hx rfl (hb hby d1_10) rfl (teq (ee1 : p1 = (1 : Int32))).2 ?_
        show Steps p.tables e below (s₁.setTop (mkF m 13 #[.val (.int p1)] [])) _
        refine XS.iconst X0.here hx rfl (hb hby d1_13) ?_
        show Steps p.tables e below (s₁.setTop (mkF m 14 #[.val (.int p1)] [(.int (1 : Int32))])) _
        refine st1 _ ?_
        show Steps p.tables e below (T1.setTop (mkF m 16 #[.val (.int p1)] [(.ref b1)])) _
        jvm_step X1.here [X1.here.top, hx, (hb hby d1_16), X1.method', Bd.returns, Value.isRef, FieldType.isReference]
        first | (intro acts; rw [hr _ acts rfl rfl rfl]) | rw [hr _ _ rfl rfl rfl]
        exact Steps.refl _
      · show Q1 Z p1 h0 n0 _ T1.heap _
        rw [e1]
        exact ⟨N0, b1, rfl, sz_b1, K1, V1⟩
    · by_cases ee2 : p1 = (2 : Int32)
      · have hp := ee2
        obtain ⟨T1, h1, k1, X1, e1, E1, A1, F1, st1⟩ := newPE X0 hx hZ (hw _ (List.mem_of_getElem? (i := 5) rfl)) e0 (g := (mkF m 23 #[.val (.int p1)] [(.int (2 : Int32))])) rfl (hb hby d1_23) rfl (by decide) (cap := 4) (by decide) (by decide) (by decide) (by decide) (ad := "[B") (by decide)
        obtain ⟨b1, g1⟩ : ∃ z, z = h0.size := ⟨_, rfl⟩
        rw [← g1] at A1 F1 st1
        have g_b1 : n0 ≤ b1 := Nat.le_trans Z0 (Nat.le_of_eq g1.symm)
        have sz_b1 : h0.size ≤ b1 := Nat.le_trans K0.1 (Nat.le_of_eq g1.symm)
        have Z1 : n0 ≤ h1.size := Nat.le_trans Z0 E1.1
        have K1 : Keep h0 h1 [] := K0.ext E1
        have V1 : BA Z h1 b1 p1 := by rw [hp]; exact ⟨⟨_, _, Arv.new A1 (by decide)⟩, F1⟩
        obtain ⟨fs, hr, hrun, hended, hW, hsame⟩ := X1.leave (v := some (.ref b1)) (fun h => by rw [Bd.returns] at h; cases h)
        refine ⟨_, _, pre0 _ ?_, hrun, hended, _, _, rfl, ?_, ⟨_, rfl⟩, hW, hsame.mono (by decide) (by decide)⟩
        · show Steps p.tables e below (s₁.setTop (mkF m 0 #[.val (.int p1)] [])) _
          refine XS.iloadN X0.here hx rfl (hb hby d1_0) rfl ?_
          show Steps p.tables e below (s₁.setTop (mkF m 1 #[.val (.int p1)] [(.int p1)])) _
          refine XS.ifYes X0.here hx rfl (pc0 := 1) (pc' := 8) rfl (hb hby d1_1) rfl ((if0 _ _).trans (feq (ee0 : ¬ (p1 = (0 : Int32)))).2) (by decide) (by decide) ?_
          show Steps p.tables e below (s₁.setTop (mkF m 8 #[.val (.int p1)] [])) _
          refine XS.iloadN X0.here hx rfl (hb hby d1_8) rfl ?_
          show Steps p.tables e below (s₁.setTop (mkF m 9 #[.val (.int p1)] [(.int p1)])) _
          refine XS.iconst X0.here hx rfl (hb hby d1_9) ?_
          show Steps p.tables e below (s₁.setTop (mkF m 10 #[.val (.int p1)] [(.int (1 : Int32)), (.int p1)])) _
          refine XS.icmpYes X0.here hx rfl (pc0 := 10) (pc' := 17) rfl (hb hby d1_10) rfl (feq (ee1 : ¬ (p1 = (1 : Int32)))).2 (by decide) (by decide) ?_
          show Steps p.tables e below (s₁.setTop (mkF m 17 #[.val (.int p1)] [])) _
          refine XS.iloadN X0.here hx rfl (hb hby d1_17) rfl ?_
          show Steps p.tables e below (s₁.setTop (mkF m 18 #[.val (.int p1)] [(.int p1)])) _
          refine XS.iconst X0.here hx rfl (hb hby d1_18) ?_
          show Steps p.tables e below (s₁.setTop (mkF m 19 #[.val (.int p1)] [(.int (2 : Int32)), (.int p1)])) _
          refine XS.icmpNo X0.here hx rfl (hb hby d1_19) rfl (teq (ee2 : p1 = (2 : Int32))).2 ?_
          show Steps p.tables e below (s₁.setTop (mkF m 22 #[.val (.int p1)] [])) _
          refine XS.iconst X0.here hx rfl (hb hby d1_22) ?_
          show Steps p.tables e below (s₁.setTop (mkF m 23 #[.val (.int p1)] [(.int (2 : Int32))])) _
          refine st1 _ ?_
          show Steps p.tables e below (T1.setTop (mkF m 25 #[.val (.int p1)] [(.ref b1)])) _
          jvm_step X1.here [X1.here.top, hx, (hb hby d1_25), X1.method', Bd.returns, Value.isRef, FieldType.isReference]
          first | (intro acts; rw [hr _ acts rfl rfl rfl]) | rw [hr _ _ rfl rfl rfl]
          exact Steps.refl _
        · show Q1 Z p1 h0 n0 _ T1.heap _
          rw [e1]
          exact ⟨N0, b1, rfl, sz_b1, K1, V1⟩
      · by_cases ee3 : p1 = (3 : Int32)
        · have hp := ee3
          obtain ⟨T1, h1, k1, X1, e1, E1, A1, F1, st1⟩ := newPE X0 hx hZ (hw _ (List.mem_of_getElem? (i := 5) rfl)) e0 (g := (mkF m 32 #[.val (.int p1)] [(.int (3 : Int32))])) rfl (hb hby d1_32) rfl (by decide) (cap := 4) (by decide) (by decide) (by decide) (by decide) (ad := "[B") (by decide)
          obtain ⟨b1, g1⟩ : ∃ z, z = h0.size := ⟨_, rfl⟩
          rw [← g1] at A1 F1 st1
          have g_b1 : n0 ≤ b1 := Nat.le_trans Z0 (Nat.le_of_eq g1.symm)
          have sz_b1 : h0.size ≤ b1 := Nat.le_trans K0.1 (Nat.le_of_eq g1.symm)
          have Z1 : n0 ≤ h1.size := Nat.le_trans Z0 E1.1
          have K1 : Keep h0 h1 [] := K0.ext E1
          have V1 : BA Z h1 b1 p1 := by rw [hp]; exact ⟨⟨_, _, Arv.new A1 (by decide)⟩, F1⟩
          obtain ⟨fs, hr, hrun, hended, hW, hsame⟩ := X1.leave (v := some (.ref b1)) (fun h => by rw [Bd.returns] at h; cases h)
          refine ⟨_, _, pre0 _ ?_, hrun, hended, _, _, rfl, ?_, ⟨_, rfl⟩, hW, hsame.mono (by decide) (by decide)⟩
          · show Steps p.tables e below (s₁.setTop (mkF m 0 #[.val (.int p1)] [])) _
            refine XS.iloadN X0.here hx rfl (hb hby d1_0) rfl ?_
            show Steps p.tables e below (s₁.setTop (mkF m 1 #[.val (.int p1)] [(.int p1)])) _
            refine XS.ifYes X0.here hx rfl (pc0 := 1) (pc' := 8) rfl (hb hby d1_1) rfl ((if0 _ _).trans (feq (ee0 : ¬ (p1 = (0 : Int32)))).2) (by decide) (by decide) ?_
            show Steps p.tables e below (s₁.setTop (mkF m 8 #[.val (.int p1)] [])) _
            refine XS.iloadN X0.here hx rfl (hb hby d1_8) rfl ?_
            show Steps p.tables e below (s₁.setTop (mkF m 9 #[.val (.int p1)] [(.int p1)])) _
            refine XS.iconst X0.here hx rfl (hb hby d1_9) ?_
            show Steps p.tables e below (s₁.setTop (mkF m 10 #[.val (.int p1)] [(.int (1 : Int32)), (.int p1)])) _
            refine XS.icmpYes X0.here hx rfl (pc0 := 10) (pc' := 17) rfl (hb hby d1_10) rfl (feq (ee1 : ¬ (p1 = (1 : Int32)))).2 (by decide) (by decide) ?_
            show Steps p.tables e below (s₁.setTop (mkF m 17 #[.val (.int p1)] [])) _
            refine XS.iloadN X0.here hx rfl (hb hby d1_17) rfl ?_
            show Steps p.tables e below (s₁.setTop (mkF m 18 #[.val (.int p1)] [(.int p1)])) _
            refine XS.iconst X0.here hx rfl (hb hby d1_18) ?_
            show Steps p.tables e below (s₁.setTop (mkF m 19 #[.val (.int p1)] [(.int (2 : Int32)), (.int p1)])) _
            refine XS.icmpYes X0.here hx rfl (pc0 := 19) (pc' := 26) rfl (hb hby d1_19) rfl (feq (ee2 : ¬ (p1 = (2 : Int32)))).2 (by decide) (by decide) ?_
            show Steps p.tables e below (s₁.setTop (mkF m 26 #[.val (.int p1)] [])) _
            refine XS.iloadN X0.here hx rfl (hb hby d1_26) rfl ?_
            show Steps p.tables e below (s₁.setTop (mkF m 27 #[.val (.int p1)] [(.int p1)])) _
            refine XS.iconst X0.here hx rfl (hb hby d1_27) ?_
            show Steps p.tables e below (s₁.setTop (mkF m 28 #[.val (.int p1)] [(.int (3 : Int32)), (.int p1)])) _
            refine XS.icmpNo X0.here hx rfl (hb hby d1_28) rfl (teq (ee3 : p1 = (3 : Int32))).2 ?_
            show Steps p.tables e below (s₁.setTop (mkF m 31 #[.val (.int p1)] [])) _
            refine XS.iconst X0.here hx rfl (hb hby d1_31) ?_
            show Steps p.tables e below (s₁.setTop (mkF m 32 #[.val (.int p1)] [(.int (3 : Int32))])) _
            refine st1 _ ?_
            show Steps p.tables e below (T1.setTop (mkF m 34 #[.val (.int p1)] [(.ref b1)])) _
            jvm_step X1.here [X1.here.top, hx, (hb hby d1_34), X1.method', Bd.returns, Value.isRef, FieldType.isReference]
            first | (intro acts; rw [hr _ acts rfl rfl rfl]) | rw [hr _ _ rfl rfl rfl]
            exact Steps.refl _
          · show Q1 Z p1 h0 n0 _ T1.heap _
            rw [e1]
            exact ⟨N0, b1, rfl, sz_b1, K1, V1⟩
        · have hp : p1 = (4 : Int32) := by
            apply Int32.toInt_inj.mp
            have f0 : ¬ p1.toInt = 0 := fun q => ee0 (Int32.toInt_inj.mp q)
            have f1 : ¬ p1.toInt = 1 := fun q => ee1 (Int32.toInt_inj.mp q)
            have f2 : ¬ p1.toInt = 2 := fun q => ee2 (Int32.toInt_inj.mp q)
            have f3 : ¬ p1.toInt = 3 := fun q => ee3 (Int32.toInt_inj.mp q)
            show p1.toInt = 4
            omega
          obtain ⟨T1, h1, k1, X1, e1, E1, A1, F1, st1⟩ := newPE X0 hx hZ (hw _ (List.mem_of_getElem? (i := 5) rfl)) e0 (g := (mkF m 36 #[.val (.int p1)] [(.int (4 : Int32))])) rfl (hb hby d1_36) rfl (by decide) (cap := 4) (by decide) (by decide) (by decide) (by decide) (ad := "[B") (by decide)
          obtain ⟨b1, g1⟩ : ∃ z, z = h0.size := ⟨_, rfl⟩
          rw [← g1] at A1 F1 st1
          have g_b1 : n0 ≤ b1 := Nat.le_trans Z0 (Nat.le_of_eq g1.symm)
          have sz_b1 : h0.size ≤ b1 := Nat.le_trans K0.1 (Nat.le_of_eq g1.symm)
          have Z1 : n0 ≤ h1.size := Nat.le_trans Z0 E1.1
          have K1 : Keep h0 h1 [] := K0.ext E1
          have V1 : BA Z h1 b1 p1 := by rw [hp]; exact ⟨⟨_, _, Arv.new A1 (by decide)⟩, F1⟩
          obtain ⟨fs, hr, hrun, hended, hW, hsame⟩ := X1.leave (v := some (.ref b1)) (fun h => by rw [Bd.returns] at h; cases h)
          refine ⟨_, _, pre0 _ ?_, hrun, hended, _, _, rfl, ?_, ⟨_, rfl⟩, hW, hsame.mono (by decide) (by decide)⟩
          · show Steps p.tables e below (s₁.setTop (mkF m 0 #[.val (.int p1)] [])) _
            refine XS.iloadN X0.here hx rfl (hb hby d1_0) rfl ?_
            show Steps p.tables e below (s₁.setTop (mkF m 1 #[.val (.int p1)] [(.int p1)])) _
            refine XS.ifYes X0.here hx rfl (pc0 := 1) (pc' := 8) rfl (hb hby d1_1) rfl ((if0 _ _).trans (feq (ee0 : ¬ (p1 = (0 : Int32)))).2) (by decide) (by decide) ?_
            show Steps p.tables e below (s₁.setTop (mkF m 8 #[.val (.int p1)] [])) _
            refine XS.iloadN X0.here hx rfl (hb hby d1_8) rfl ?_
            show Steps p.tables e below (s₁.setTop (mkF m 9 #[.val (.int p1)] [(.int p1)])) _
            refine XS.iconst X0.here hx rfl (hb hby d1_9) ?_
            show Steps p.tables e below (s₁.setTop (mkF m 10 #[.val (.int p1)] [(.int (1 : Int32)), (.int p1)])) _
            refine XS.icmpYes X0.here hx rfl (pc0 := 10) (pc' := 17) rfl (hb hby d1_10) rfl (feq (ee1 : ¬ (p1 = (1 : Int32)))).2 (by decide) (by decide) ?_
            show Steps p.tables e below (s₁.setTop (mkF m 17 #[.val (.int p1)] [])) _
            refine XS.iloadN X0.here hx rfl (hb hby d1_17) rfl ?_
            show Steps p.tables e below (s₁.setTop (mkF m 18 #[.val (.int p1)] [(.int p1)])) _
            refine XS.iconst X0.here hx rfl (hb hby d1_18) ?_
            show Steps p.tables e below (s₁.setTop (mkF m 19 #[.val (.int p1)] [(.int (2 : Int32)), (.int p1)])) _
            refine XS.icmpYes X0.here hx rfl (pc0 := 19) (pc' := 26) rfl (hb hby d1_19) rfl (feq (ee2 : ¬ (p1 = (2 : Int32)))).2 (by decide) (by decide) ?_
            show Steps p.tables e below (s₁.setTop (mkF m 26 #[.val (.int p1)] [])) _
            refine XS.iloadN X0.here hx rfl (hb hby d1_26) rfl ?_
            show Steps p.tables e below (s₁.setTop (mkF m 27 #[.val (.int p1)] [(.int p1)])) _
            refine XS.iconst X0.here hx rfl (hb hby d1_27) ?_
            show Steps p.tables e below (s₁.setTop (mkF m 28 #[.val (.int p1)] [(.int (3 : Int32)), (.int p1)])) _
            refine XS.icmpYes X0.here hx rfl (pc0 := 28) (pc' := 35) rfl (hb hby d1_28) rfl (feq (ee3 : ¬ (p1 = (3 : Int32)))).2 (by decide) (by decide) ?_
            show Steps p.tables e below (s₁.setTop (mkF m 35 #[.val (.int p1)] [])) _
            refine XS.iconst X0.here hx rfl (hb hby d1_35) ?_
            show Steps p.tables e below (s₁.setTop (mkF m 36 #[.val (.int p1)] [(.int (4 : Int32))])) _
            refine st1 _ ?_
            show Steps p.tables e below (T1.setTop (mkF m 38 #[.val (.int p1)] [(.ref b1)])) _
            jvm_step X1.here [X1.here.top, hx, (hb hby d1_38), X1.method', Bd.returns, Value.isRef, FieldType.isReference]
            first | (intro acts; rw [hr _ acts rfl rfl rfl]) | rw [hr _ _ rfl rfl rfl]
            exact Steps.refl _
          · show Q1 Z p1 h0 n0 _ T1.heap _
            rw [e1]
            exact ⟨N0, b1, rfl, sz_b1, K1, V1⟩

theorem ef_rm0 (m : MethodId) (p1 : Int32) (p2 : Int32) (p3 : Int32) : entryFrame m #[(.int p1), (.int p2), (.int p3)] maxLocals = mkF m 0 #[.val (.int p1), .val (.int p2), .val (.int p3), .unset, .unset, .unset, .unset, .unset, .unset, .unset, .unset, .unset, .unset, .unset] [] := by first | (simp [entryFrame, mkF, argsToLocals, Value.category, maxLocals]; done) | rfl
def Q0 (Z : State)  (h0 : Heap) (n0 : Nat) (v : Option Value) (h : Heap) (L : List Loc) : Prop := v = some (.int (1 : Int32)) ∧ Fr n0 L
set_option maxRecDepth 65536 in
set_option maxHeartbeats 40000000 in
theorem rm0 (l : Launch) (Z : State) (a0 : Array Value) (hw : ∀ d ∈ tables_1, d.before a0 Z = true) (ws : List Jvm.Cond) (p1 : Int32) (p2 : Int32) (p3 : Int32) (h0 : Heap) (n0 : Nat) (Z0 : n0 ≤ h0.size) :
    MetFree l x (head1 (Jvm.Cond.code x code maxLocals ret :: ws) room_1) (fun a U => a = #[(.int p1), (.int p2), (.int p3)] ∧ Z.Warmed39 U.vm ∧ U.heap = h0) (fun _ _ _ _ _ => True) (fun _ U o U' => ∃ v L, o = .returned v ∧ Q0 Z  h0 n0 v U'.heap L ∧ FrameEnd U o U' L room_1.cells room_1.slots) := by
  refine MetFree.of_bodySF (plainFor_of_name pn_0) hisR ?_
  intro p e s m args below meth c s₁ Bd hml0 hP hK
  obtain ⟨rfl, hZ, hh⟩ := hP
  have hx := Bd.exec
  have hby := Bd.bytes
  have hml : c.maxLocals = 14 := hml0
  have hown : s.vm.findClass "com/example/quillon/quillon/tlv/TlvReaderHasRemainingPinLaw" = some m.cls := findClass_of_methodNamed Bd.named
  have hnm := (name_of_methodNamed Bd.named Bd.method).1
  have X0 : Stand p l e room_1 s m #[(.int p1), (.int p2), (.int p3)] below meth c s₁ [] 0 0 := Stand.of_body Bd
  have e0 : s₁.heap = h0 := by rw [← hh, Bd.state]; rfl
  have N0 := Fr.nil n0
  have pre0 : ∀ t, Steps p.tables e below (s₁.setTop (mkF m 0 #[.val (.int p1), .val (.int p2), .val (.int p3), .unset, .unset, .unset, .unset, .unset, .unset, .unset, .unset, .unset, .unset, .unset] [])) t → Steps p.tables e below (s₁.setTop (entryFrame m #[(.int p1), (.int p2), (.int p3)] maxLocals)) t := fun t k => castTop (ef_rm0 m p1 p2 p3) k

  obtain ⟨n, h_n⟩ : ∃ zz_ : Int32, zz_ = ((p1 &&& (2147483647 : Int32)) % (5 : Int32)) := ⟨_, rfl⟩
  have pre1 : ∀ t, Steps p.tables e below (s₁.setTop (mkF m 7 #[.val (.int p1), .val (.int p2), .val (.int p3), .val (.int n), .unset, .unset, .unset, .unset, .unset, .unset, .unset, .unset, .unset, .unset] [])) t → Steps p.tables e below (s₁.setTop (entryFrame m #[(.int p1), (.int p2), (.int p3)] maxLocals)) t := fun t k => pre0 t (by
    rw [h_n] at k
    show Steps p.tables e below (s₁.setTop (mkF m 0 #[.val (.int p1), .val (.int p2), .val (.int p3), .unset, .unset, .unset, .unset, .unset, .unset, .unset, .unset, .unset, .unset, .unset] [])) _
    refine XS.iloadN X0.here hx rfl (hb hby at_0) rfl ?_
    show Steps p.tables e below (s₁.setTop (mkF m 1 #[.val (.int p1), .val (.int p2), .val (.int p3), .unset, .unset, .unset, .unset, .unset, .unset, .unset, .unset, .unset, .unset, .unset] [(.int p1)])) _
    refine X0.ldcInt hx hown (mvT hZ (hw _ (List.mem_of_getElem? (i := 0) rfl))) (g := (mkF m 1 #[.val (.int p1), .val (.int p2), .val (.int p3), .unset, .unset, .unset, .unset, .unset, .unset, .unset, .unset, .unset, .unset, .unset] [(.int p1)])) rfl (hb hby at_1) _ ?_
    show Steps p.tables e below (s₁.setTop (mkF m 3 #[.val (.int p1), .val (.int p2), .val (.int p3), .unset, .unset, .unset, .unset, .unset, .unset, .unset, .unset, .unset, .unset, .unset] [(.int (2147483647 : Int32)), (.int p1)])) _
    refine XS.iand X0.here hx rfl (hb hby at_3) rfl ?_
    show Steps p.tables e below (s₁.setTop (mkF m 4 #[.val (.int p1), .val (.int p2), .val (.int p3), .unset, .unset, .unset, .unset, .unset, .unset, .unset, .unset, .unset, .unset, .unset] [(.int (p1 &&& (2147483647 : Int32)))])) _
    refine XS.iconst X0.here hx rfl (hb hby at_4) ?_
    show Steps p.tables e below (s₁.setTop (mkF m 5 #[.val (.int p1), .val (.int p2), .val (.int p3), .unset, .unset, .unset, .unset, .unset, .unset, .unset, .unset, .unset, .unset, .unset] [(.int (5 : Int32)), (.int (p1 &&& (2147483647 : Int32)))])) _
    refine iremM (g := (mkF m 5 #[.val (.int p1), .val (.int p2), .val (.int p3), .unset, .unset, .unset, .unset, .unset, .unset, .unset, .unset, .unset, .unset, .unset] [(.int (5 : Int32)), (.int (p1 &&& (2147483647 : Int32)))])) X0 hx rfl (hb hby at_5) rfl (by decide) ?_
    show Steps p.tables e below (s₁.setTop (mkF m 6 #[.val (.int p1), .val (.int p2), .val (.int p3), .unset, .unset, .unset, .unset, .unset, .unset, .unset, .unset, .unset, .unset, .unset] [(.int ((p1 &&& (2147483647 : Int32)) % (5 : Int32)))])) _
    refine XS.istoreN X0.here hx rfl (hb hby at_6) rfl (l' := #[.val (.int p1), .val (.int p2), .val (.int p3), .val (.int ((p1 &&& (2147483647 : Int32)) % (5 : Int32))), .unset, .unset, .unset, .unset, .unset, .unset, .unset, .unset, .unset, .unset]) rfl ?_
    exact k)
  have r1 := own_rem (x := p1) (y := (5 : Int32)) (by decide)
  rw [← h_n] at r1
  have e5 : (5 : Int32).toInt = 5 := by decide
  have e1 : (1 : Int32).toInt = 1 := by decide
  have n1 : (n + (1 : Int32)).toInt = n.toInt + 1 := by rw [own_add r1.2.1 (by decide) (by omega), e1]
  have r2 := own_rem (x := p2) (y := n + (1 : Int32)) (by omega)
  obtain ⟨k1, h_k1⟩ : ∃ zz_ : Int32, zz_ = ((p2 &&& (2147483647 : Int32)) % (n + (1 : Int32))) := ⟨_, rfl⟩
  have pre2 : ∀ t, Steps p.tables e below (s₁.setTop (mkF m 17 #[.val (.int p1), .val (.int p2), .val (.int p3), .val (.int n), .val (.int k1), .unset, .unset, .unset, .unset, .unset, .unset, .unset, .unset, .unset] [])) t → Steps p.tables e below (s₁.setTop (entryFrame m #[(.int p1), (.int p2), (.int p3)] maxLocals)) t := fun t k => pre1 t (by
    rw [h_k1] at k
    show Steps p.tables e below (s₁.setTop (mkF m 7 #[.val (.int p1), .val (.int p2), .val (.int p3), .val (.int n), .unset, .unset, .unset, .unset, .unset, .unset, .unset, .unset, .unset, .unset] [])) _
    refine XS.iloadN X0.here hx rfl (hb hby at_7) rfl ?_
    show Steps p.tables e below (s₁.setTop (mkF m 8 #[.val (.int p1), .val (.int p2), .val (.int p3), .val (.int n), .unset, .unset, .unset, .unset, .unset, .unset, .unset, .unset, .unset, .unset] [(.int p2)])) _
    refine X0.ldcInt hx hown (mvT hZ (hw _ (List.mem_of_getElem? (i := 0) rfl))) (g := (mkF m 8 #[.val (.int p1), .val (.int p2), .val (.int p3), .val (.int n), .unset, .unset, .unset, .unset, .unset, .unset, .unset, .unset, .unset, .unset] [(.int p2)])) rfl (hb hby at_8) _ ?_
    show Steps p.tables e below (s₁.setTop (mkF m 10 #[.val (.int p1), .val (.int p2), .val (.int p3), .val (.int n), .unset, .unset, .unset, .unset, .unset, .unset, .unset, .unset, .unset, .unset] [(.int (2147483647 : Int32)), (.int p2)])) _
    refine XS.iand X0.here hx rfl (hb hby at_10) rfl ?_
    show Steps p.tables e below (s₁.setTop (mkF m 11 #[.val (.int p1), .val (.int p2), .val (.int p3), .val (.int n), .unset, .unset, .unset, .unset, .unset, .unset, .unset, .unset, .unset, .unset] [(.int (p2 &&& (2147483647 : Int32)))])) _
    refine XS.iloadN X0.here hx rfl (hb hby at_11) rfl ?_
    show Steps p.tables e below (s₁.setTop (mkF m 12 #[.val (.int p1), .val (.int p2), .val (.int p3), .val (.int n), .unset, .unset, .unset, .unset, .unset, .unset, .unset, .unset, .unset, .unset] [(.int n), (.int (p2 &&& (2147483647 : Int32)))])) _
    refine XS.iconst X0.here hx rfl (hb hby at_12) ?_
    show Steps p.tables e below (s₁.setTop (mkF m 13 #[.val (.int p1), .val (.int p2), .val (.int p3), .val (.int n), .unset, .unset, .unset, .unset, .unset, .unset, .unset, .unset, .unset, .unset] [(.int (1 : Int32)), (.int n), (.int (p2 &&& (2147483647 : Int32)))])) _
    refine XS.iadd X0.here hx rfl (hb hby at_13) rfl ?_
    show Steps p.tables e below (s₁.setTop (mkF m 14 #[.val (.int p1), .val (.int p2), .val (.int p3), .val (.int n), .unset, .unset, .unset, .unset, .unset, .unset, .unset, .unset, .unset, .unset] [(.int (n + (1 : Int32))), (.int (p2 &&& (2147483647 : Int32)))])) _
    refine iremM (g := (mkF m 14 #[.val (.int p1), .val (.int p2), .val (.int p3), .val (.int n), .unset, .unset, .unset, .unset, .unset, .unset, .unset, .unset, .unset, .unset] [(.int (n + (1 : Int32))), (.int (p2 &&& (2147483647 : Int32)))])) X0 hx rfl (hb hby at_14) rfl r2.1 ?_
    show Steps p.tables e below (s₁.setTop (mkF m 15 #[.val (.int p1), .val (.int p2), .val (.int p3), .val (.int n), .unset, .unset, .unset, .unset, .unset, .unset, .unset, .unset, .unset, .unset] [(.int ((p2 &&& (2147483647 : Int32)) % (n + (1 : Int32))))])) _
    refine XS.istore X0.here hx rfl (hb hby at_15) rfl (l' := #[.val (.int p1), .val (.int p2), .val (.int p3), .val (.int n), .val (.int ((p2 &&& (2147483647 : Int32)) % (n + (1 : Int32)))), .unset, .unset, .unset, .unset, .unset, .unset, .unset, .unset, .unset]) rfl ?_
    exact k)
  rw [← h_k1] at r2
  have s1 : (n - k1).toInt = n.toInt - k1.toInt := own_sub r1.2.1 r2.2.1
  have s2 : (n - k1 + (1 : Int32)).toInt = n.toInt - k1.toInt + 1 := by rw [own_add (by omega) (by decide) (by omega), s1, e1]
  have r3 := own_rem (x := p3) (y := n - k1 + (1 : Int32)) (by omega)
  obtain ⟨k2, h_k2⟩ : ∃ zz_ : Int32, zz_ = ((p3 &&& (2147483647 : Int32)) % ((n - k1) + (1 : Int32))) := ⟨_, rfl⟩
  have pre3 : ∀ t, Steps p.tables e below (s₁.setTop (mkF m 30 #[.val (.int p1), .val (.int p2), .val (.int p3), .val (.int n), .val (.int k1), .val (.int k2), .unset, .unset, .unset, .unset, .unset, .unset, .unset, .unset] [])) t → Steps p.tables e below (s₁.setTop (entryFrame m #[(.int p1), (.int p2), (.int p3)] maxLocals)) t := fun t k => pre2 t (by
    rw [h_k2] at k
    show Steps p.tables e below (s₁.setTop (mkF m 17 #[.val (.int p1), .val (.int p2), .val (.int p3), .val (.int n), .val (.int k1), .unset, .unset, .unset, .unset, .unset, .unset, .unset, .unset, .unset] [])) _
    refine XS.iloadN X0.here hx rfl (hb hby at_17) rfl ?_
    show Steps p.tables e below (s₁.setTop (mkF m 18 #[.val (.int p1), .val (.int p2), .val (.int p3), .val (.int n), .val (.int k1), .unset, .unset, .unset, .unset, .unset, .unset, .unset, .unset, .unset] [(.int p3)])) _
    refine X0.ldcInt hx hown (mvT hZ (hw _ (List.mem_of_getElem? (i := 0) rfl))) (g := (mkF m 18 #[.val (.int p1), .val (.int p2), .val (.int p3), .val (.int n), .val (.int k1), .unset, .unset, .unset, .unset, .unset, .unset, .unset, .unset, .unset] [(.int p3)])) rfl (hb hby at_18) _ ?_
    show Steps p.tables e below (s₁.setTop (mkF m 20 #[.val (.int p1), .val (.int p2), .val (.int p3), .val (.int n), .val (.int k1), .unset, .unset, .unset, .unset, .unset, .unset, .unset, .unset, .unset] [(.int (2147483647 : Int32)), (.int p3)])) _
    refine XS.iand X0.here hx rfl (hb hby at_20) rfl ?_
    show Steps p.tables e below (s₁.setTop (mkF m 21 #[.val (.int p1), .val (.int p2), .val (.int p3), .val (.int n), .val (.int k1), .unset, .unset, .unset, .unset, .unset, .unset, .unset, .unset, .unset] [(.int (p3 &&& (2147483647 : Int32)))])) _
    refine XS.iloadN X0.here hx rfl (hb hby at_21) rfl ?_
    show Steps p.tables e below (s₁.setTop (mkF m 22 #[.val (.int p1), .val (.int p2), .val (.int p3), .val (.int n), .val (.int k1), .unset, .unset, .unset, .unset, .unset, .unset, .unset, .unset, .unset] [(.int n), (.int (p3 &&& (2147483647 : Int32)))])) _
    refine XS.iload X0.here hx rfl (hb hby at_22) rfl ?_
    show Steps p.tables e below (s₁.setTop (mkF m 24 #[.val (.int p1), .val (.int p2), .val (.int p3), .val (.int n), .val (.int k1), .unset, .unset, .unset, .unset, .unset, .unset, .unset, .unset, .unset] [(.int k1), (.int n), (.int (p3 &&& (2147483647 : Int32)))])) _
    refine XS.isub X0.here hx rfl (hb hby at_24) rfl ?_
    show Steps p.tables e below (s₁.setTop (mkF m 25 #[.val (.int p1), .val (.int p2), .val (.int p3), .val (.int n), .val (.int k1), .unset, .unset, .unset, .unset, .unset, .unset, .unset, .unset, .unset] [(.int (n - k1)), (.int (p3 &&& (2147483647 : Int32)))])) _
    refine XS.iconst X0.here hx rfl (hb hby at_25) ?_
    show Steps p.tables e below (s₁.setTop (mkF m 26 #[.val (.int p1), .val (.int p2), .val (.int p3), .val (.int n), .val (.int k1), .unset, .unset, .unset, .unset, .unset, .unset, .unset, .unset, .unset] [(.int (1 : Int32)), (.int (n - k1)), (.int (p3 &&& (2147483647 : Int32)))])) _
    refine XS.iadd X0.here hx rfl (hb hby at_26) rfl ?_
    show Steps p.tables e below (s₁.setTop (mkF m 27 #[.val (.int p1), .val (.int p2), .val (.int p3), .val (.int n), .val (.int k1), .unset, .unset, .unset, .unset, .unset, .unset, .unset, .unset, .unset] [(.int ((n - k1) + (1 : Int32))), (.int (p3 &&& (2147483647 : Int32)))])) _
    refine iremM (g := (mkF m 27 #[.val (.int p1), .val (.int p2), .val (.int p3), .val (.int n), .val (.int k1), .unset, .unset, .unset, .unset, .unset, .unset, .unset, .unset, .unset] [(.int ((n - k1) + (1 : Int32))), (.int (p3 &&& (2147483647 : Int32)))])) X0 hx rfl (hb hby at_27) rfl r3.1 ?_
    show Steps p.tables e below (s₁.setTop (mkF m 28 #[.val (.int p1), .val (.int p2), .val (.int p3), .val (.int n), .val (.int k1), .unset, .unset, .unset, .unset, .unset, .unset, .unset, .unset, .unset] [(.int ((p3 &&& (2147483647 : Int32)) % ((n - k1) + (1 : Int32))))])) _
    refine XS.istore X0.here hx rfl (hb hby at_28) rfl (l' := #[.val (.int p1), .val (.int p2), .val (.int p3), .val (.int n), .val (.int k1), .val (.int ((p3 &&& (2147483647 : Int32)) % ((n - k1) + (1 : Int32)))), .unset, .unset, .unset, .unset, .unset, .unset, .unset, .unset]) rfl ?_
    exact k)
  rw [← h_k2] at r3
  have s3 : (k1 + k2).toInt = k1.toInt + k2.toInt := own_add r2.2.1 r3.2.1 (by omega)
  obtain ⟨_, _, ⟨T4, L4, k4, n4⟩, -, X4, ⟨Lc4, hQ4, l4, y4, z4⟩, st4⟩ := Jvm.LawKit.callS X0 hx (y := (⟨"com/example/quillon/quillon/tlv/TlvReaderHasRemainingPinLaw", "make", "(I)[B"⟩ : MethodName)) hown (mvT hZ (hw _ (List.mem_of_getElem? (i := 1) rfl))) (mvT hZ (hw _ (List.mem_of_getElem? (i := 2) rfl))) (mvT hZ (hw _ (List.mem_of_getElem? (i := 3) rfl))) (mvT hZ (hw _ (List.mem_of_getElem? (i := 4) rfl))) (by decide) (backOf (W := 0) (rm1 l Z a0 hw [] n h0 n0 Z0 r1.2.1 (by omega)) hZ (hw _ (List.mem_of_getElem? (i := 4) rfl)) (hw _ (List.mem_of_getElem? (i := 3) rfl)) (by decide) (by decide)) (g := (mkF m 31 #[.val (.int p1), .val (.int p2), .val (.int p3), .val (.int n), .val (.int k1), .val (.int k2), .unset, .unset, .unset, .unset, .unset, .unset, .unset, .unset] [(.int n)])) rfl (by rw [hml]; rfl) (argsL := [(.int n)]) (rest := []) (lenOf pd_1 rfl) rfl (by show 2 * 0 + _ ≤ _; exact Nat.le_of_eq rfl) (hb hby at_31) (fun _ _ => ⟨rfl, e0, (by decide : 0 + 1 ≤ _), (by decide : 0 + 4 ≤ _)⟩)
  dsimp only [Pt.U, Pt.locs, Pt.cells, Pt.slots] at X4 l4 y4 z4 st4 hQ4
  subst l4 y4 z4
  obtain ⟨N4q, bA, rfl, sz4, Kc4, V4⟩ := hQ4
  have N4 := Fr.app N0 N4q
  have Z4 : n0 ≤ T4.heap.size := Nat.le_trans Z0 Kc4.1
  obtain ⟨T5, h5, X5, e5, E5, A5, D5, -, st5⟩ := newO X4 hx hZ hown (hw _ (List.mem_of_getElem? (i := 6) rfl)) (hw _ (List.mem_of_getElem? (i := 7) rfl)) (hw _ (List.mem_of_getElem? (i := 8) rfl)) rfl (g := (mkF m 36 #[.val (.int p1), .val (.int p2), .val (.int p3), .val (.int n), .val (.int k1), .val (.int k2), .val (.ref bA), .unset, .unset, .unset, .unset, .unset, .unset, .unset] [])) rfl (hb hby at_36) (by decide) (by decide)
  obtain ⟨bR, g5⟩ : ∃ z, z = T4.heap.size := ⟨_, rfl⟩
  rw [← g5] at A5 D5 st5
  have g_bR : n0 ≤ bR := Nat.le_trans Z4 (Nat.le_of_eq g5.symm)
  have ne_bA_bR : bA ≠ bR := Nat.ne_of_lt (Nat.lt_of_lt_of_le V4.lt (Nat.le_of_eq g5.symm))
  have V4_e5 := V4.ext E5
  have Z5 : n0 ≤ h5.size := Nat.le_trans Z4 E5.1
  have F_bytes_bR : Fld Z h5 bR "com/example/quillon/quillon/tlv/TlvReader" "bytes" "[B" .null := D5 (Or.inr (hw _ (List.mem_of_getElem? (i := 16) rfl))) (ty := (.array .byte)) (by decide)
  have F_position_bR : Fld Z h5 bR "com/example/quillon/quillon/tlv/TlvReader" "position" "I" (.int (0 : Int32)) := D5 (Or.inl (hw _ (List.mem_of_getElem? (i := 23) rfl))) (ty := .int) (by decide)
  obtain ⟨_, _, ⟨T6, L6, k6, n6⟩, -, X6, ⟨Lc6, hQ6, l6, y6, z6⟩, st6⟩ := X5.specialBack hx (y := (⟨"com/example/quillon/quillon/tlv/TlvReader", "<init>", "([B)V"⟩ : MethodName)) rfl hown (mvT hZ (hw _ (List.mem_of_getElem? (i := 9) rfl))) (mvT hZ (hw _ (List.mem_of_getElem? (i := 10) rfl))) (mvT hZ (hw _ (List.mem_of_getElem? (i := 11) rfl))) (by decide) (backOf (W := 1) (rm2 l Z a0 hw [] bR bA _ _ h5 n0 Z5 A5 g_bR F_bytes_bR F_position_bR) hZ (hw _ (List.mem_of_getElem? (i := 11) rfl)) (hw _ (List.mem_of_getElem? (i := 8) rfl)) (by decide) (by decide)) (g := (mkF m 42 #[.val (.int p1), .val (.int p2), .val (.int p3), .val (.int n), .val (.int k1), .val (.int k2), .val (.ref bA), .unset, .unset, .unset, .unset, .unset, .unset, .unset] [(.ref bA), (.ref bR), (.ref bR)])) rfl (by rw [hml]; rfl) (Steps.refl _) (a := bR) (argsL := [(.ref bA)]) (rest := [(.ref bR)]) (lenOf pd_2 rfl) rfl (by show 2 * 0 + _ ≤ _; exact Nat.le_of_eq rfl) (hb hby at_42) (fun _ _ => ⟨rfl, e5, (by decide : 2 + 0 ≤ _), (by decide : 6 + 0 ≤ _)⟩)
  dsimp only [Pt.U, Pt.locs, Pt.cells, Pt.slots] at X6 l6 y6 z6 st6 hQ6
  subst l6 y6 z6
  obtain ⟨rfl, N6q, Kc6, Ec6, G16, G26⟩ := hQ6
  have N6 := Fr.app N4 N6q
  have V4_e6 := V4_e5.keep Kc6 (ninS ne_bA_bR nin0)
  have Z6 : n0 ≤ T6.heap.size := Nat.le_trans Z5 Kc6.1
  obtain ⟨cq7, kq7, q7a, q7b, q7c⟩ := isOf hZ rfl Ec6
  obtain ⟨_, _, ⟨T7, L7, k7, n7⟩, -, X7, ⟨Lc7, hQ7, l7, y7, z7⟩, st7⟩ := X6.virtualBack hx (y := (⟨"com/example/quillon/quillon/tlv/TlvReader", "hasRemaining", "()Z"⟩ : MethodName)) (z := (⟨"com/example/quillon/quillon/tlv/TlvReader", "hasRemaining", "()Z"⟩ : MethodName)) hown (mvT hZ (hw _ (List.mem_of_getElem? (i := 17) rfl))) (mvT hZ (hw _ (List.mem_of_getElem? (i := 18) rfl))) (notFace_of_selects (args := #[]) (mvT hZ (hw _ (List.mem_of_getElem? (i := 20) rfl)))) (mvT hZ (hw _ (List.mem_of_getElem? (i := 20) rfl))) (mvT hZ (hw _ (List.mem_of_getElem? (i := 19) rfl))) (by decide) (backOf (W := 0) (rm4 l Z a0 hw [] bR (0 : Int32) bA n T6.heap n0 Z6 G26 G16 V4_e6) hZ (hw _ (List.mem_of_getElem? (i := 21) rfl)) (hw _ (List.mem_of_getElem? (i := 8) rfl)) (by decide) (by decide)) q7a q7c (g := (mkF m 49 #[.val (.int p1), .val (.int p2), .val (.int p3), .val (.int n), .val (.int k1), .val (.int k2), .val (.ref bA), .val (.ref bR), .unset, .unset, .unset, .unset, .unset, .unset] [(.ref bR)])) rfl (by rw [hml]; rfl) (Steps.refl _) (argsL := []) (rest := []) (lenOf pd_4 rfl) rfl (by show 2 * 0 + _ ≤ _; exact Nat.le_of_eq rfl) (hb hby at_49) (fun _ _ => ⟨rfl, rfl, (by decide : 2 + 0 ≤ _), (by decide : 6 + 0 ≤ _)⟩)
  dsimp only [Pt.U, Pt.locs, Pt.cells, Pt.slots] at X7 l7 y7 z7 st7 hQ7
  subst l7 y7 z7
  obtain ⟨rfl, N7q, q7⟩ := hQ7
  have N7 := Fr.app N6 N7q
  have K7 : Keep T6.heap T7.heap [] := own_kr q7
  have V4_e7 := V4_e6.keep K7 nin0
  have Ec6_e7 := Ec6.keep K7
  have G16_e7 := G16.keep K7 nin0
  have G26_e7 := G26.keep K7 nin0
  have Z7 : n0 ≤ T7.heap.size := Nat.le_trans Z6 K7.1
  have pre8 : ∀ t, Steps p.tables e below (T7.setTop (mkF m 54 #[.val (.int p1), .val (.int p2), .val (.int p3), .val (.int n), .val (.int k1), .val (.int k2), .val (.ref bA), .val (.ref bR), .val (.int (if (0 : Int32) < n then (1 : Int32) else (0 : Int32))), .unset, .unset, .unset, .unset, .unset] [])) t → Steps p.tables e below (s₁.setTop (entryFrame m #[(.int p1), (.int p2), (.int p3)] maxLocals)) t := fun t k => pre3 t (by
    show Steps p.tables e below (s₁.setTop (mkF m 30 #[.val (.int p1), .val (.int p2), .val (.int p3), .val (.int n), .val (.int k1), .val (.int k2), .unset, .unset, .unset, .unset, .unset, .unset, .unset, .unset] [])) _
    refine XS.iloadN X0.here hx rfl (hb hby at_30) rfl ?_
    show Steps p.tables e below (s₁.setTop (mkF m 31 #[.val (.int p1), .val (.int p2), .val (.int p3), .val (.int n), .val (.int k1), .val (.int k2), .unset, .unset, .unset, .unset, .unset, .unset, .unset, .unset] [(.int n)])) _
    refine st4 _ ?_
    show Steps p.tables e below (T4.setTop (mkF m 34 #[.val (.int p1), .val (.int p2), .val (.int p3), .val (.int n), .val (.int k1), .val (.int k2), .unset, .unset, .unset, .unset, .unset, .unset, .unset, .unset] [(.ref bA)])) _
    refine XS.astore X4.here hx rfl (hb hby at_34) rfl rfl (l' := #[.val (.int p1), .val (.int p2), .val (.int p3), .val (.int n), .val (.int k1), .val (.int k2), .val (.ref bA), .unset, .unset, .unset, .unset, .unset, .unset, .unset]) rfl ?_
    show Steps p.tables e below (T4.setTop (mkF m 36 #[.val (.int p1), .val (.int p2), .val (.int p3), .val (.int n), .val (.int k1), .val (.int k2), .val (.ref bA), .unset, .unset, .unset, .unset, .unset, .unset, .unset] [])) _
    refine st5 _ ?_
    show Steps p.tables e below (T5.setTop (mkF m 39 #[.val (.int p1), .val (.int p2), .val (.int p3), .val (.int n), .val (.int k1), .val (.int k2), .val (.ref bA), .unset, .unset, .unset, .unset, .unset, .unset, .unset] [(.ref bR)])) _
    refine XS.dup X5.here hx rfl (hb hby at_39) rfl rfl ?_
    show Steps p.tables e below (T5.setTop (mkF m 40 #[.val (.int p1), .val (.int p2), .val (.int p3), .val (.int n), .val (.int k1), .val (.int k2), .val (.ref bA), .unset, .unset, .unset, .unset, .unset, .unset, .unset] [(.ref bR), (.ref bR)])) _
    refine XS.aload X5.here hx rfl (hb hby at_40) rfl rfl ?_
    show Steps p.tables e below (T5.setTop (mkF m 42 #[.val (.int p1), .val (.int p2), .val (.int p3), .val (.int n), .val (.int k1), .val (.int k2), .val (.ref bA), .unset, .unset, .unset, .unset, .unset, .unset, .unset] [(.ref bA), (.ref bR), (.ref bR)])) _
    refine st6.trans ?_
    show Steps p.tables e below (T6.setTop (mkF m 45 #[.val (.int p1), .val (.int p2), .val (.int p3), .val (.int n), .val (.int k1), .val (.int k2), .val (.ref bA), .unset, .unset, .unset, .unset, .unset, .unset, .unset] [(.ref bR)])) _
    refine XS.astore X6.here hx rfl (hb hby at_45) rfl rfl (l' := #[.val (.int p1), .val (.int p2), .val (.int p3), .val (.int n), .val (.int k1), .val (.int k2), .val (.ref bA), .val (.ref bR), .unset, .unset, .unset, .unset, .unset, .unset]) rfl ?_
    show Steps p.tables e below (T6.setTop (mkF m 47 #[.val (.int p1), .val (.int p2), .val (.int p3), .val (.int n), .val (.int k1), .val (.int k2), .val (.ref bA), .val (.ref bR), .unset, .unset, .unset, .unset, .unset, .unset] [])) _
    refine XS.aload X6.here hx rfl (hb hby at_47) rfl rfl ?_
    show Steps p.tables e below (T6.setTop (mkF m 49 #[.val (.int p1), .val (.int p2), .val (.int p3), .val (.int n), .val (.int k1), .val (.int k2), .val (.ref bA), .val (.ref bR), .unset, .unset, .unset, .unset, .unset, .unset] [(.ref bR)])) _
    refine st7.trans ?_
    show Steps p.tables e below (T7.setTop (mkF m 52 #[.val (.int p1), .val (.int p2), .val (.int p3), .val (.int n), .val (.int k1), .val (.int k2), .val (.ref bA), .val (.ref bR), .unset, .unset, .unset, .unset, .unset, .unset] [(.int (if (0 : Int32) < n then (1 : Int32) else (0 : Int32)))])) _
    refine XS.istore X7.here hx rfl (hb hby at_52) rfl (l' := #[.val (.int p1), .val (.int p2), .val (.int p3), .val (.int n), .val (.int k1), .val (.int k2), .val (.ref bA), .val (.ref bR), .val (.int (if (0 : Int32) < n then (1 : Int32) else (0 : Int32))), .unset, .unset, .unset, .unset, .unset]) rfl ?_
    exact k)
  have pre9 : ∀ t, Steps p.tables e below (T7.setTop (mkF m 75 #[.val (.int p1), .val (.int p2), .val (.int p3), .val (.int n), .val (.int k1), .val (.int k2), .val (.ref bA), .val (.ref bR), .val (.int (if (0 : Int32) < n then (1 : Int32) else (0 : Int32))), .val (.int (1 : Int32)), .unset, .unset, .unset, .unset] [])) t → Steps p.tables e below (s₁.setTop (entryFrame m #[(.int p1), (.int p2), (.int p3)] maxLocals)) t := fun t k => pre8 t (by
    by_cases c1 : (0 : Int32) < n
    · show Steps p.tables e below (T7.setTop (mkF m 54 #[.val (.int p1), .val (.int p2), .val (.int p3), .val (.int n), .val (.int k1), .val (.int k2), .val (.ref bA), .val (.ref bR), .val (.int (if (0 : Int32) < n then (1 : Int32) else (0 : Int32))), .unset, .unset, .unset, .unset, .unset] [])) _
      refine XS.iload X7.here hx rfl (hb hby at_54) rfl ?_
      show Steps p.tables e below (T7.setTop (mkF m 56 #[.val (.int p1), .val (.int p2), .val (.int p3), .val (.int n), .val (.int k1), .val (.int k2), .val (.ref bA), .val (.ref bR), .val (.int (if (0 : Int32) < n then (1 : Int32) else (0 : Int32))), .unset, .unset, .unset, .unset, .unset] [(.int (if (0 : Int32) < n then (1 : Int32) else (0 : Int32)))])) _
      refine XS.iloadN X7.here hx rfl (hb hby at_56) rfl ?_
      show Steps p.tables e below (T7.setTop (mkF m 57 #[.val (.int p1), .val (.int p2), .val (.int p3), .val (.int n), .val (.int k1), .val (.int k2), .val (.ref bA), .val (.ref bR), .val (.int (if (0 : Int32) < n then (1 : Int32) else (0 : Int32))), .unset, .unset, .unset, .unset, .unset] [(.int n), (.int (if (0 : Int32) < n then (1 : Int32) else (0 : Int32)))])) _
      refine XS.ifNo X7.here hx rfl (hb hby at_57) rfl ((if0 _ _).trans (tlt (c1 : (0 : Int32) < n)).2.2.2) ?_
      show Steps p.tables e below (T7.setTop (mkF m 60 #[.val (.int p1), .val (.int p2), .val (.int p3), .val (.int n), .val (.int k1), .val (.int k2), .val (.ref bA), .val (.ref bR), .val (.int (if (0 : Int32) < n then (1 : Int32) else (0 : Int32))), .unset, .unset, .unset, .unset, .unset] [(.int (if (0 : Int32) < n then (1 : Int32) else (0 : Int32)))])) _
      refine XS.iconst X7.here hx rfl (hb hby at_60) ?_
      show Steps p.tables e below (T7.setTop (mkF m 61 #[.val (.int p1), .val (.int p2), .val (.int p3), .val (.int n), .val (.int k1), .val (.int k2), .val (.ref bA), .val (.ref bR), .val (.int (if (0 : Int32) < n then (1 : Int32) else (0 : Int32))), .unset, .unset, .unset, .unset, .unset] [(.int (1 : Int32)), (.int (if (0 : Int32) < n then (1 : Int32) else (0 : Int32)))])) _
      refine XS.goto X7.here hx rfl (pc0 := 61) (pc' := 65) rfl (hb hby at_61) (by decide) (by decide) ?_
      show Steps p.tables e below (T7.setTop (mkF m 65 #[.val (.int p1), .val (.int p2), .val (.int p3), .val (.int n), .val (.int k1), .val (.int k2), .val (.ref bA), .val (.ref bR), .val (.int (if (0 : Int32) < n then (1 : Int32) else (0 : Int32))), .unset, .unset, .unset, .unset, .unset] [(.int (1 : Int32)), (.int (if (0 : Int32) < n then (1 : Int32) else (0 : Int32)))])) _
      refine XS.icmpNo X7.here hx rfl (hb hby at_65) rfl (teq (if_pos c1 : (if (0 : Int32) < n then (1 : Int32) else (0 : Int32)) = (1 : Int32))).2 ?_
      show Steps p.tables e below (T7.setTop (mkF m 68 #[.val (.int p1), .val (.int p2), .val (.int p3), .val (.int n), .val (.int k1), .val (.int k2), .val (.ref bA), .val (.ref bR), .val (.int (if (0 : Int32) < n then (1 : Int32) else (0 : Int32))), .unset, .unset, .unset, .unset, .unset] [])) _
      refine XS.iconst X7.here hx rfl (hb hby at_68) ?_
      show Steps p.tables e below (T7.setTop (mkF m 69 #[.val (.int p1), .val (.int p2), .val (.int p3), .val (.int n), .val (.int k1), .val (.int k2), .val (.ref bA), .val (.ref bR), .val (.int (if (0 : Int32) < n then (1 : Int32) else (0 : Int32))), .unset, .unset, .unset, .unset, .unset] [(.int (1 : Int32))])) _
      refine XS.goto X7.here hx rfl (pc0 := 69) (pc' := 73) rfl (hb hby at_69) (by decide) (by decide) ?_
      show Steps p.tables e below (T7.setTop (mkF m 73 #[.val (.int p1), .val (.int p2), .val (.int p3), .val (.int n), .val (.int k1), .val (.int k2), .val (.ref bA), .val (.ref bR), .val (.int (if (0 : Int32) < n then (1 : Int32) else (0 : Int32))), .unset, .unset, .unset, .unset, .unset] [(.int (1 : Int32))])) _
      refine XS.istore X7.here hx rfl (hb hby at_73) rfl (l' := #[.val (.int p1), .val (.int p2), .val (.int p3), .val (.int n), .val (.int k1), .val (.int k2), .val (.ref bA), .val (.ref bR), .val (.int (if (0 : Int32) < n then (1 : Int32) else (0 : Int32))), .val (.int (1 : Int32)), .unset, .unset, .unset, .unset]) rfl ?_
      exact k
    · show Steps p.tables e below (T7.setTop (mkF m 54 #[.val (.int p1), .val (.int p2), .val (.int p3), .val (.int n), .val (.int k1), .val (.int k2), .val (.ref bA), .val (.ref bR), .val (.int (if (0 : Int32) < n then (1 : Int32) else (0 : Int32))), .unset, .unset, .unset, .unset, .unset] [])) _
      refine XS.iload X7.here hx rfl (hb hby at_54) rfl ?_
      show Steps p.tables e below (T7.setTop (mkF m 56 #[.val (.int p1), .val (.int p2), .val (.int p3), .val (.int n), .val (.int k1), .val (.int k2), .val (.ref bA), .val (.ref bR), .val (.int (if (0 : Int32) < n then (1 : Int32) else (0 : Int32))), .unset, .unset, .unset, .unset, .unset] [(.int (if (0 : Int32) < n then (1 : Int32) else (0 : Int32)))])) _
      refine XS.iloadN X7.here hx rfl (hb hby at_56) rfl ?_
      show Steps p.tables e below (T7.setTop (mkF m 57 #[.val (.int p1), .val (.int p2), .val (.int p3), .val (.int n), .val (.int k1), .val (.int k2), .val (.ref bA), .val (.ref bR), .val (.int (if (0 : Int32) < n then (1 : Int32) else (0 : Int32))), .unset, .unset, .unset, .unset, .unset] [(.int n), (.int (if (0 : Int32) < n then (1 : Int32) else (0 : Int32)))])) _
      refine XS.ifYes X7.here hx rfl (pc0 := 57) (pc' := 64) rfl (hb hby at_57) rfl ((if0 _ _).trans (flt (c1 : ¬ ((0 : Int32) < n))).2.2.2) (by decide) (by decide) ?_
      show Steps p.tables e below (T7.setTop (mkF m 64 #[.val (.int p1), .val (.int p2), .val (.int p3), .val (.int n), .val (.int k1), .val (.int k2), .val (.ref bA), .val (.ref bR), .val (.int (if (0 : Int32) < n then (1 : Int32) else (0 : Int32))), .unset, .unset, .unset, .unset, .unset] [(.int (if (0 : Int32) < n then (1 : Int32) else (0 : Int32)))])) _
      refine XS.iconst X7.here hx rfl (hb hby at_64) ?_
      show Steps p.tables e below (T7.setTop (mkF m 65 #[.val (.int p1), .val (.int p2), .val (.int p3), .val (.int n), .val (.int k1), .val (.int k2), .val (.ref bA), .val (.ref bR), .val (.int (if (0 : Int32) < n then (1 : Int32) else (0 : Int32))), .unset, .unset, .unset, .unset, .unset] [(.int (0 : Int32)), (.int (if (0 : Int32) < n then (1 : Int32) else (0 : Int32)))])) _
      refine XS.icmpNo X7.here hx rfl (hb hby at_65) rfl (teq (if_neg c1 : (if (0 : Int32) < n then (1 : Int32) else (0 : Int32)) = (0 : Int32))).2 ?_
      show Steps p.tables e below (T7.setTop (mkF m 68 #[.val (.int p1), .val (.int p2), .val (.int p3), .val (.int n), .val (.int k1), .val (.int k2), .val (.ref bA), .val (.ref bR), .val (.int (if (0 : Int32) < n then (1 : Int32) else (0 : Int32))), .unset, .unset, .unset, .unset, .unset] [])) _
      refine XS.iconst X7.here hx rfl (hb hby at_68) ?_
      show Steps p.tables e below (T7.setTop (mkF m 69 #[.val (.int p1), .val (.int p2), .val (.int p3), .val (.int n), .val (.int k1), .val (.int k2), .val (.ref bA), .val (.ref bR), .val (.int (if (0 : Int32) < n then (1 : Int32) else (0 : Int32))), .unset, .unset, .unset, .unset, .unset] [(.int (1 : Int32))])) _
      refine XS.goto X7.here hx rfl (pc0 := 69) (pc' := 73) rfl (hb hby at_69) (by decide) (by decide) ?_
      show Steps p.tables e below (T7.setTop (mkF m 73 #[.val (.int p1), .val (.int p2), .val (.int p3), .val (.int n), .val (.int k1), .val (.int k2), .val (.ref bA), .val (.ref bR), .val (.int (if (0 : Int32) < n then (1 : Int32) else (0 : Int32))), .unset, .unset, .unset, .unset, .unset] [(.int (1 : Int32))])) _
      refine XS.istore X7.here hx rfl (hb hby at_73) rfl (l' := #[.val (.int p1), .val (.int p2), .val (.int p3), .val (.int n), .val (.int k1), .val (.int k2), .val (.ref bA), .val (.ref bR), .val (.int (if (0 : Int32) < n then (1 : Int32) else (0 : Int32))), .val (.int (1 : Int32)), .unset, .unset, .unset, .unset]) rfl ?_
      exact k)
  obtain ⟨cq10, kq10, q10a, q10b, q10c⟩ := isOf hZ rfl Ec6_e7
  obtain ⟨_, _, ⟨T10, L10, k10, n10⟩, -, X10, ⟨Lc10, hQ10, l10, y10, z10⟩, st10⟩ := X7.virtualBack hx (y := (⟨"com/example/quillon/quillon/tlv/TlvReader", "bytes", "(I)[B"⟩ : MethodName)) (z := (⟨"com/example/quillon/quillon/tlv/TlvReader", "bytes", "(I)[B"⟩ : MethodName)) hown (mvT hZ (hw _ (List.mem_of_getElem? (i := 24) rfl))) (mvT hZ (hw _ (List.mem_of_getElem? (i := 25) rfl))) (notFace_of_selects (args := #[]) (mvT hZ (hw _ (List.mem_of_getElem? (i := 27) rfl)))) (mvT hZ (hw _ (List.mem_of_getElem? (i := 27) rfl))) (mvT hZ (hw _ (List.mem_of_getElem? (i := 26) rfl))) (by decide) (backOf (W := 0) (rm5 l Z a0 hw [] bR k1 (0 : Int32) bA n T7.heap n0 Z7 Ec6_e7 g_bR G26_e7 G16_e7 V4_e7 (by first | decide | omega) (by omega) (by first | omega | (show 0 + _ ≤ _; omega)) (by omega)) hZ (hw _ (List.mem_of_getElem? (i := 28) rfl)) (hw _ (List.mem_of_getElem? (i := 8) rfl)) (by decide) (by decide)) q10a q10c (g := (mkF m 79 #[.val (.int p1), .val (.int p2), .val (.int p3), .val (.int n), .val (.int k1), .val (.int k2), .val (.ref bA), .val (.ref bR), .val (.int (if (0 : Int32) < n then (1 : Int32) else (0 : Int32))), .val (.int (1 : Int32)), .unset, .unset, .unset, .unset] [(.int k1), (.ref bR)])) rfl (by rw [hml]; rfl) (Steps.refl _) (argsL := [(.int k1)]) (rest := []) (lenOf pd_5 rfl) rfl (by show 2 * 0 + _ ≤ _; exact Nat.le_of_eq rfl) (hb hby at_79) (fun _ _ => ⟨rfl, rfl, (by decide : 2 + 1 ≤ _), (by decide : 6 + 4 ≤ _)⟩)
  dsimp only [Pt.U, Pt.locs, Pt.cells, Pt.slots] at X10 l10 y10 z10 st10 hQ10
  subst l10 y10 z10
  obtain ⟨N10q, x10, rfl, Kc10, Ec10, G110, G210⟩ := hQ10
  have N10 := Fr.app N7 N10q
  rw [own_z] at G210
  have V4_e10 := V4_e7.keep Kc10 (ninS ne_bA_bR nin0)
  have Z10 : n0 ≤ T10.heap.size := Nat.le_trans Z7 Kc10.1
  obtain ⟨cq11, kq11, q11a, q11b, q11c⟩ := isOf hZ rfl Ec10
  obtain ⟨_, _, ⟨T11, L11, k11, n11⟩, -, X11, ⟨Lc11, hQ11, l11, y11, z11⟩, st11⟩ := X10.virtualBack hx (y := (⟨"com/example/quillon/quillon/tlv/TlvReader", "hasRemaining", "()Z"⟩ : MethodName)) (z := (⟨"com/example/quillon/quillon/tlv/TlvReader", "hasRemaining", "()Z"⟩ : MethodName)) hown (mvT hZ (hw _ (List.mem_of_getElem? (i := 17) rfl))) (mvT hZ (hw _ (List.mem_of_getElem? (i := 18) rfl))) (notFace_of_selects (args := #[]) (mvT hZ (hw _ (List.mem_of_getElem? (i := 20) rfl)))) (mvT hZ (hw _ (List.mem_of_getElem? (i := 20) rfl))) (mvT hZ (hw _ (List.mem_of_getElem? (i := 19) rfl))) (by decide) (backOf (W := 0) (rm4 l Z a0 hw [] bR k1 bA n T10.heap n0 Z10 G210 G110 V4_e10) hZ (hw _ (List.mem_of_getElem? (i := 21) rfl)) (hw _ (List.mem_of_getElem? (i := 8) rfl)) (by decide) (by decide)) q11a q11c (g := (mkF m 85 #[.val (.int p1), .val (.int p2), .val (.int p3), .val (.int n), .val (.int k1), .val (.int k2), .val (.ref bA), .val (.ref bR), .val (.int (if (0 : Int32) < n then (1 : Int32) else (0 : Int32))), .val (.int (1 : Int32)), .unset, .unset, .unset, .unset] [(.ref bR)])) rfl (by rw [hml]; rfl) (Steps.refl _) (argsL := []) (rest := []) (lenOf pd_4 rfl) rfl (by show 2 * 0 + _ ≤ _; exact Nat.le_of_eq rfl) (hb hby at_85) (fun _ _ => ⟨rfl, rfl, (by decide : 3 + 0 ≤ _), (by decide : 10 + 0 ≤ _)⟩)
  dsimp only [Pt.U, Pt.locs, Pt.cells, Pt.slots] at X11 l11 y11 z11 st11 hQ11
  subst l11 y11 z11
  obtain ⟨rfl, N11q, q11⟩ := hQ11
  have N11 := Fr.app N10 N11q
  have K11 : Keep T10.heap T11.heap [] := own_kr q11
  have V4_e11 := V4_e10.keep K11 nin0
  have Ec10_e11 := Ec10.keep K11
  have G110_e11 := G110.keep K11 nin0
  have G210_e11 := G210.keep K11 nin0
  have Z11 : n0 ≤ T11.heap.size := Nat.le_trans Z10 K11.1
  obtain ⟨cq12, kq12, q12a, q12b, q12c⟩ := isOf hZ rfl Ec10_e11
  obtain ⟨_, _, ⟨T12, L12, k12, n12⟩, -, X12, ⟨Lc12, hQ12, l12, y12, z12⟩, st12⟩ := X11.virtualBack hx (y := (⟨"com/example/quillon/quillon/tlv/TlvReader", "hasRemaining", "()Z"⟩ : MethodName)) (z := (⟨"com/example/quillon/quillon/tlv/TlvReader", "hasRemaining", "()Z"⟩ : MethodName)) hown (mvT hZ (hw _ (List.mem_of_getElem? (i := 17) rfl))) (mvT hZ (hw _ (List.mem_of_getElem? (i := 18) rfl))) (notFace_of_selects (args := #[]) (mvT hZ (hw _ (List.mem_of_getElem? (i := 20) rfl)))) (mvT hZ (hw _ (List.mem_of_getElem? (i := 20) rfl))) (mvT hZ (hw _ (List.mem_of_getElem? (i := 19) rfl))) (by decide) (backOf (W := 0) (rm4 l Z a0 hw [] bR k1 bA n T11.heap n0 Z11 G210_e11 G110_e11 V4_e11) hZ (hw _ (List.mem_of_getElem? (i := 21) rfl)) (hw _ (List.mem_of_getElem? (i := 8) rfl)) (by decide) (by decide)) q12a q12c (g := (mkF m 92 #[.val (.int p1), .val (.int p2), .val (.int p3), .val (.int n), .val (.int k1), .val (.int k2), .val (.ref bA), .val (.ref bR), .val (.int (if (0 : Int32) < n then (1 : Int32) else (0 : Int32))), .val (.int (1 : Int32)), .val (.int (if k1 < n then (1 : Int32) else (0 : Int32))), .unset, .unset, .unset] [(.ref bR)])) rfl (by rw [hml]; rfl) (Steps.refl _) (argsL := []) (rest := []) (lenOf pd_4 rfl) rfl (by show 2 * 0 + _ ≤ _; exact Nat.le_of_eq rfl) (hb hby at_92) (fun _ _ => ⟨rfl, rfl, (by decide : 3 + 0 ≤ _), (by decide : 10 + 0 ≤ _)⟩)
  dsimp only [Pt.U, Pt.locs, Pt.cells, Pt.slots] at X12 l12 y12 z12 st12 hQ12
  subst l12 y12 z12
  obtain ⟨rfl, N12q, q12⟩ := hQ12
  have N12 := Fr.app N11 N12q
  have K12 : Keep T11.heap T12.heap [] := own_kr q12
  have V4_e12 := V4_e11.keep K12 nin0
  have Ec10_e12 := Ec10_e11.keep K12
  have G110_e12 := G110_e11.keep K12 nin0
  have G210_e12 := G210_e11.keep K12 nin0
  have Z12 : n0 ≤ T12.heap.size := Nat.le_trans Z11 K12.1
  have pre13 : ∀ t, Steps p.tables e below (T12.setTop (mkF m 97 #[.val (.int p1), .val (.int p2), .val (.int p3), .val (.int n), .val (.int k1), .val (.int k2), .val (.ref bA), .val (.ref bR), .val (.int (if (0 : Int32) < n then (1 : Int32) else (0 : Int32))), .val (.int (1 : Int32)), .val (.int (if k1 < n then (1 : Int32) else (0 : Int32))), .val (.int (if k1 < n then (1 : Int32) else (0 : Int32))), .unset, .unset] [])) t → Steps p.tables e below (s₁.setTop (entryFrame m #[(.int p1), (.int p2), (.int p3)] maxLocals)) t := fun t k => pre9 t (by
    show Steps p.tables e below (T7.setTop (mkF m 75 #[.val (.int p1), .val (.int p2), .val (.int p3), .val (.int n), .val (.int k1), .val (.int k2), .val (.ref bA), .val (.ref bR), .val (.int (if (0 : Int32) < n then (1 : Int32) else (0 : Int32))), .val (.int (1 : Int32)), .unset, .unset, .unset, .unset] [])) _
    refine XS.aload X7.here hx rfl (hb hby at_75) rfl rfl ?_
    show Steps p.tables e below (T7.setTop (mkF m 77 #[.val (.int p1), .val (.int p2), .val (.int p3), .val (.int n), .val (.int k1), .val (.int k2), .val (.ref bA), .val (.ref bR), .val (.int (if (0 : Int32) < n then (1 : Int32) else (0 : Int32))), .val (.int (1 : Int32)), .unset, .unset, .unset, .unset] [(.ref bR)])) _
    refine XS.iload X7.here hx rfl (hb hby at_77) rfl ?_
    show Steps p.tables e below (T7.setTop (mkF m 79 #[.val (.int p1), .val (.int p2), .val (.int p3), .val (.int n), .val (.int k1), .val (.int k2), .val (.ref bA), .val (.ref bR), .val (.int (if (0 : Int32) < n then (1 : Int32) else (0 : Int32))), .val (.int (1 : Int32)), .unset, .unset, .unset, .unset] [(.int k1), (.ref bR)])) _
    refine st10.trans ?_
    show Steps p.tables e below (T10.setTop (mkF m 82 #[.val (.int p1), .val (.int p2), .val (.int p3), .val (.int n), .val (.int k1), .val (.int k2), .val (.ref bA), .val (.ref bR), .val (.int (if (0 : Int32) < n then (1 : Int32) else (0 : Int32))), .val (.int (1 : Int32)), .unset, .unset, .unset, .unset] [(.ref x10)])) _
    refine XS.pop X10.here hx rfl (hb hby at_82) rfl rfl ?_
    show Steps p.tables e below (T10.setTop (mkF m 83 #[.val (.int p1), .val (.int p2), .val (.int p3), .val (.int n), .val (.int k1), .val (.int k2), .val (.ref bA), .val (.ref bR), .val (.int (if (0 : Int32) < n then (1 : Int32) else (0 : Int32))), .val (.int (1 : Int32)), .unset, .unset, .unset, .unset] [])) _
    refine XS.aload X10.here hx rfl (hb hby at_83) rfl rfl ?_
    show Steps p.tables e below (T10.setTop (mkF m 85 #[.val (.int p1), .val (.int p2), .val (.int p3), .val (.int n), .val (.int k1), .val (.int k2), .val (.ref bA), .val (.ref bR), .val (.int (if (0 : Int32) < n then (1 : Int32) else (0 : Int32))), .val (.int (1 : Int32)), .unset, .unset, .unset, .unset] [(.ref bR)])) _
    refine st11.trans ?_
    show Steps p.tables e below (T11.setTop (mkF m 88 #[.val (.int p1), .val (.int p2), .val (.int p3), .val (.int n), .val (.int k1), .val (.int k2), .val (.ref bA), .val (.ref bR), .val (.int (if (0 : Int32) < n then (1 : Int32) else (0 : Int32))), .val (.int (1 : Int32)), .unset, .unset, .unset, .unset] [(.int (if k1 < n then (1 : Int32) else (0 : Int32)))])) _
    refine XS.istore X11.here hx rfl (hb hby at_88) rfl (l' := #[.val (.int p1), .val (.int p2), .val (.int p3), .val (.int n), .val (.int k1), .val (.int k2), .val (.ref bA), .val (.ref bR), .val (.int (if (0 : Int32) < n then (1 : Int32) else (0 : Int32))), .val (.int (1 : Int32)), .val (.int (if k1 < n then (1 : Int32) else (0 : Int32))), .unset, .unset, .unset]) rfl ?_
    show Steps p.tables e below (T11.setTop (mkF m 90 #[.val (.int p1), .val (.int p2), .val (.int p3), .val (.int n), .val (.int k1), .val (.int k2), .val (.ref bA), .val (.ref bR), .val (.int (if (0 : Int32) < n then (1 : Int32) else (0 : Int32))), .val (.int (1 : Int32)), .val (.int (if k1 < n then (1 : Int32) else (0 : Int32))), .unset, .unset, .unset] [])) _
    refine XS.aload X11.here hx rfl (hb hby at_90) rfl rfl ?_
    show Steps p.tables e below (T11.setTop (mkF m 92 #[.val (.int p1), .val (.int p2), .val (.int p3), .val (.int n), .val (.int k1), .val (.int k2), .val (.ref bA), .val (.ref bR), .val (.int (if (0 : Int32) < n then (1 : Int32) else (0 : Int32))), .val (.int (1 : Int32)), .val (.int (if k1 < n then (1 : Int32) else (0 : Int32))), .unset, .unset, .unset] [(.ref bR)])) _
    refine st12.trans ?_
    show Steps p.tables e below (T12.setTop (mkF m 95 #[.val (.int p1), .val (.int p2), .val (.int p3), .val (.int n), .val (.int k1), .val (.int k2), .val (.ref bA), .val (.ref bR), .val (.int (if (0 : Int32) < n then (1 : Int32) else (0 : Int32))), .val (.int (1 : Int32)), .val (.int (if k1 < n then (1 : Int32) else (0 : Int32))), .unset, .unset, .unset] [(.int (if k1 < n then (1 : Int32) else (0 : Int32)))])) _
    refine XS.istore X12.here hx rfl (hb hby at_95) rfl (l' := #[.val (.int p1), .val (.int p2), .val (.int p3), .val (.int n), .val (.int k1), .val (.int k2), .val (.ref bA), .val (.ref bR), .val (.int (if (0 : Int32) < n then (1 : Int32) else (0 : Int32))), .val (.int (1 : Int32)), .val (.int (if k1 < n then (1 : Int32) else (0 : Int32))), .val (.int (if k1 < n then (1 : Int32) else (0 : Int32))), .unset, .unset]) rfl ?_
    exact k)
  have pre14 : ∀ t, Steps p.tables e below (T12.setTop (mkF m 132 #[.val (.int p1), .val (.int p2), .val (.int p3), .val (.int n), .val (.int k1), .val (.int k2), .val (.ref bA), .val (.ref bR), .val (.int (if (0 : Int32) < n then (1 : Int32) else (0 : Int32))), .val (.int (1 : Int32)), .val (.int (if k1 < n then (1 : Int32) else (0 : Int32))), .val (.int (if k1 < n then (1 : Int32) else (0 : Int32))), .unset, .unset] [])) t → Steps p.tables e below (s₁.setTop (entryFrame m #[(.int p1), (.int p2), (.int p3)] maxLocals)) t := fun t k => pre13 t (by
    by_cases c1 : k1 < n
    · show Steps p.tables e below (T12.setTop (mkF m 97 #[.val (.int p1), .val (.int p2), .val (.int p3), .val (.int n), .val (.int k1), .val (.int k2), .val (.ref bA), .val (.ref bR), .val (.int (if (0 : Int32) < n then (1 : Int32) else (0 : Int32))), .val (.int (1 : Int32)), .val (.int (if k1 < n then (1 : Int32) else (0 : Int32))), .val (.int (if k1 < n then (1 : Int32) else (0 : Int32))), .unset, .unset] [])) _
      refine XS.iload X12.here hx rfl (hb hby at_97) rfl ?_
      show Steps p.tables e below (T12.setTop (mkF m 99 #[.val (.int p1), .val (.int p2), .val (.int p3), .val (.int n), .val (.int k1), .val (.int k2), .val (.ref bA), .val (.ref bR), .val (.int (if (0 : Int32) < n then (1 : Int32) else (0 : Int32))), .val (.int (1 : Int32)), .val (.int (if k1 < n then (1 : Int32) else (0 : Int32))), .val (.int (if k1 < n then (1 : Int32) else (0 : Int32))), .unset, .unset] [(.int (1 : Int32))])) _
      refine XS.ifNo X12.here hx rfl (hb hby at_99) rfl ((if0 _ _).trans (feq (by decide : ¬ ((1 : Int32) = (0 : Int32)))).1) ?_
      show Steps p.tables e below (T12.setTop (mkF m 102 #[.val (.int p1), .val (.int p2), .val (.int p3), .val (.int n), .val (.int k1), .val (.int k2), .val (.ref bA), .val (.ref bR), .val (.int (if (0 : Int32) < n then (1 : Int32) else (0 : Int32))), .val (.int (1 : Int32)), .val (.int (if k1 < n then (1 : Int32) else (0 : Int32))), .val (.int (if k1 < n then (1 : Int32) else (0 : Int32))), .unset, .unset] [])) _
      refine XS.iload X12.here hx rfl (hb hby at_102) rfl ?_
      show Steps p.tables e below (T12.setTop (mkF m 104 #[.val (.int p1), .val (.int p2), .val (.int p3), .val (.int n), .val (.int k1), .val (.int k2), .val (.ref bA), .val (.ref bR), .val (.int (if (0 : Int32) < n then (1 : Int32) else (0 : Int32))), .val (.int (1 : Int32)), .val (.int (if k1 < n then (1 : Int32) else (0 : Int32))), .val (.int (if k1 < n then (1 : Int32) else (0 : Int32))), .unset, .unset] [(.int (if k1 < n then (1 : Int32) else (0 : Int32)))])) _
      refine XS.iload X12.here hx rfl (hb hby at_104) rfl ?_
      show Steps p.tables e below (T12.setTop (mkF m 106 #[.val (.int p1), .val (.int p2), .val (.int p3), .val (.int n), .val (.int k1), .val (.int k2), .val (.ref bA), .val (.ref bR), .val (.int (if (0 : Int32) < n then (1 : Int32) else (0 : Int32))), .val (.int (1 : Int32)), .val (.int (if k1 < n then (1 : Int32) else (0 : Int32))), .val (.int (if k1 < n then (1 : Int32) else (0 : Int32))), .unset, .unset] [(.int k1), (.int (if k1 < n then (1 : Int32) else (0 : Int32)))])) _
      refine XS.iloadN X12.here hx rfl (hb hby at_106) rfl ?_
      show Steps p.tables e below (T12.setTop (mkF m 107 #[.val (.int p1), .val (.int p2), .val (.int p3), .val (.int n), .val (.int k1), .val (.int k2), .val (.ref bA), .val (.ref bR), .val (.int (if (0 : Int32) < n then (1 : Int32) else (0 : Int32))), .val (.int (1 : Int32)), .val (.int (if k1 < n then (1 : Int32) else (0 : Int32))), .val (.int (if k1 < n then (1 : Int32) else (0 : Int32))), .unset, .unset] [(.int n), (.int k1), (.int (if k1 < n then (1 : Int32) else (0 : Int32)))])) _
      refine XS.icmpNo X12.here hx rfl (hb hby at_107) rfl (tlt (c1 : k1 < n)).2.1 ?_
      show Steps p.tables e below (T12.setTop (mkF m 110 #[.val (.int p1), .val (.int p2), .val (.int p3), .val (.int n), .val (.int k1), .val (.int k2), .val (.ref bA), .val (.ref bR), .val (.int (if (0 : Int32) < n then (1 : Int32) else (0 : Int32))), .val (.int (1 : Int32)), .val (.int (if k1 < n then (1 : Int32) else (0 : Int32))), .val (.int (if k1 < n then (1 : Int32) else (0 : Int32))), .unset, .unset] [(.int (if k1 < n then (1 : Int32) else (0 : Int32)))])) _
      refine XS.iconst X12.here hx rfl (hb hby at_110) ?_
      show Steps p.tables e below (T12.setTop (mkF m 111 #[.val (.int p1), .val (.int p2), .val (.int p3), .val (.int n), .val (.int k1), .val (.int k2), .val (.ref bA), .val (.ref bR), .val (.int (if (0 : Int32) < n then (1 : Int32) else (0 : Int32))), .val (.int (1 : Int32)), .val (.int (if k1 < n then (1 : Int32) else (0 : Int32))), .val (.int (if k1 < n then (1 : Int32) else (0 : Int32))), .unset, .unset] [(.int (1 : Int32)), (.int (if k1 < n then (1 : Int32) else (0 : Int32)))])) _
      refine XS.goto X12.here hx rfl (pc0 := 111) (pc' := 115) rfl (hb hby at_111) (by decide) (by decide) ?_
      show Steps p.tables e below (T12.setTop (mkF m 115 #[.val (.int p1), .val (.int p2), .val (.int p3), .val (.int n), .val (.int k1), .val (.int k2), .val (.ref bA), .val (.ref bR), .val (.int (if (0 : Int32) < n then (1 : Int32) else (0 : Int32))), .val (.int (1 : Int32)), .val (.int (if k1 < n then (1 : Int32) else (0 : Int32))), .val (.int (if k1 < n then (1 : Int32) else (0 : Int32))), .unset, .unset] [(.int (1 : Int32)), (.int (if k1 < n then (1 : Int32) else (0 : Int32)))])) _
      refine XS.icmpNo X12.here hx rfl (hb hby at_115) rfl (teq (if_pos c1 : (if k1 < n then (1 : Int32) else (0 : Int32)) = (1 : Int32))).2 ?_
      show Steps p.tables e below (T12.setTop (mkF m 118 #[.val (.int p1), .val (.int p2), .val (.int p3), .val (.int n), .val (.int k1), .val (.int k2), .val (.ref bA), .val (.ref bR), .val (.int (if (0 : Int32) < n then (1 : Int32) else (0 : Int32))), .val (.int (1 : Int32)), .val (.int (if k1 < n then (1 : Int32) else (0 : Int32))), .val (.int (if k1 < n then (1 : Int32) else (0 : Int32))), .unset, .unset] [])) _
      refine XS.iload X12.here hx rfl (hb hby at_118) rfl ?_
      show Steps p.tables e below (T12.setTop (mkF m 120 #[.val (.int p1), .val (.int p2), .val (.int p3), .val (.int n), .val (.int k1), .val (.int k2), .val (.ref bA), .val (.ref bR), .val (.int (if (0 : Int32) < n then (1 : Int32) else (0 : Int32))), .val (.int (1 : Int32)), .val (.int (if k1 < n then (1 : Int32) else (0 : Int32))), .val (.int (if k1 < n then (1 : Int32) else (0 : Int32))), .unset, .unset] [(.int (if k1 < n then (1 : Int32) else (0 : Int32)))])) _
      refine XS.iload X12.here hx rfl (hb hby at_120) rfl ?_
      show Steps p.tables e below (T12.setTop (mkF m 122 #[.val (.int p1), .val (.int p2), .val (.int p3), .val (.int n), .val (.int k1), .val (.int k2), .val (.ref bA), .val (.ref bR), .val (.int (if (0 : Int32) < n then (1 : Int32) else (0 : Int32))), .val (.int (1 : Int32)), .val (.int (if k1 < n then (1 : Int32) else (0 : Int32))), .val (.int (if k1 < n then (1 : Int32) else (0 : Int32))), .unset, .unset] [(.int (if k1 < n then (1 : Int32) else (0 : Int32))), (.int (if k1 < n then (1 : Int32) else (0 : Int32)))])) _
      refine XS.icmpNo X12.here hx rfl (hb hby at_122) rfl (teq (rfl : (if k1 < n then (1 : Int32) else (0 : Int32)) = (if k1 < n then (1 : Int32) else (0 : Int32)))).2 ?_
      show Steps p.tables e below (T12.setTop (mkF m 125 #[.val (.int p1), .val (.int p2), .val (.int p3), .val (.int n), .val (.int k1), .val (.int k2), .val (.ref bA), .val (.ref bR), .val (.int (if (0 : Int32) < n then (1 : Int32) else (0 : Int32))), .val (.int (1 : Int32)), .val (.int (if k1 < n then (1 : Int32) else (0 : Int32))), .val (.int (if k1 < n then (1 : Int32) else (0 : Int32))), .unset, .unset] [])) _
      refine XS.iconst X12.here hx rfl (hb hby at_125) ?_
      show Steps p.tables e below (T12.setTop (mkF m 126 #[.val (.int p1), .val (.int p2), .val (.int p3), .val (.int n), .val (.int k1), .val (.int k2), .val (.ref bA), .val (.ref bR), .val (.int (if (0 : Int32) < n then (1 : Int32) else (0 : Int32))), .val (.int (1 : Int32)), .val (.int (if k1 < n then (1 : Int32) else (0 : Int32))), .val (.int (if k1 < n then (1 : Int32) else (0 : Int32))), .unset, .unset] [(.int (1 : Int32))])) _
      refine XS.goto X12.here hx rfl (pc0 := 126) (pc' := 130) rfl (hb hby at_126) (by decide) (by decide) ?_
      show Steps p.tables e below (T12.setTop (mkF m 130 #[.val (.int p1), .val (.int p2), .val (.int p3), .val (.int n), .val (.int k1), .val (.int k2), .val (.ref bA), .val (.ref bR), .val (.int (if (0 : Int32) < n then (1 : Int32) else (0 : Int32))), .val (.int (1 : Int32)), .val (.int (if k1 < n then (1 : Int32) else (0 : Int32))), .val (.int (if k1 < n then (1 : Int32) else (0 : Int32))), .unset, .unset] [(.int (1 : Int32))])) _
      refine XS.istore X12.here hx rfl (hb hby at_130) rfl (l' := #[.val (.int p1), .val (.int p2), .val (.int p3), .val (.int n), .val (.int k1), .val (.int k2), .val (.ref bA), .val (.ref bR), .val (.int (if (0 : Int32) < n then (1 : Int32) else (0 : Int32))), .val (.int (1 : Int32)), .val (.int (if k1 < n then (1 : Int32) else (0 : Int32))), .val (.int (if k1 < n then (1 : Int32) else (0 : Int32))), .unset, .unset]) rfl ?_
      exact k
    · show Steps p.tables e below (T12.setTop (mkF m 97 #[.val (.int p1), .val (.int p2), .val (.int p3), .val (.int n), .val (.int k1), .val (.int k2), .val (.ref bA), .val (.ref bR), .val (.int (if (0 : Int32) < n then (1 : Int32) else (0 : Int32))), .val (.int (1 : Int32)), .val (.int (if k1 < n then (1 : Int32) else (0 : Int32))), .val (.int (if k1 < n then (1 : Int32) else (0 : Int32))), .unset, .unset] [])) _
      refine XS.iload X12.here hx rfl (hb hby at_97) rfl ?_
      show Steps p.tables e below (T12.setTop (mkF m 99 #[.val (.int p1), .val (.int p2), .val (.int p3), .val (.int n), .val (.int k1), .val (.int k2), .val (.ref bA), .val (.ref bR), .val (.int (if (0 : Int32) < n then (1 : Int32) else (0 : Int32))), .val (.int (1 : Int32)), .val (.int (if k1 < n then (1 : Int32) else (0 : Int32))), .val (.int (if k1 < n then (1 : Int32) else (0 : Int32))), .unset, .unset] [(.int (1 : Int32))])) _
      refine XS.ifNo X12.here hx rfl (hb hby at_99) rfl ((if0 _ _).trans (feq (by decide : ¬ ((1 : Int32) = (0 : Int32)))).1) ?_
      show Steps p.tables e below (T12.setTop (mkF m 102 #[.val (.int p1), .val (.int p2), .val (.int p3), .val (.int n), .val (.int k1), .val (.int k2), .val (.ref bA), .val (.ref bR), .val (.int (if (0 : Int32) < n then (1 : Int32) else (0 : Int32))), .val (.int (1 : Int32)), .val (.int (if k1 < n then (1 : Int32) else (0 : Int32))), .val (.int (if k1 < n then (1 : Int32) else (0 : Int32))), .unset, .unset] [])) _
      refine XS.iload X12.here hx rfl (hb hby at_102) rfl ?_
      show Steps p.tables e below (T12.setTop (mkF m 104 #[.val (.int p1), .val (.int p2), .val (.int p3), .val (.int n), .val (.int k1), .val (.int k2), .val (.ref bA), .val (.ref bR), .val (.int (if (0 : Int32) < n then (1 : Int32) else (0 : Int32))), .val (.int (1 : Int32)), .val (.int (if k1 < n then (1 : Int32) else (0 : Int32))), .val (.int (if k1 < n then (1 : Int32) else (0 : Int32))), .unset, .unset] [(.int (if k1 < n then (1 : Int32) else (0 : Int32)))])) _
      refine XS.iload X12.here hx rfl (hb hby at_104) rfl ?_
      show Steps p.tables e below (T12.setTop (mkF m 106 #[.val (.int p1), .val (.int p2), .val (.int p3), .val (.int n), .val (.int k1), .val (.int k2), .val (.ref bA), .val (.ref bR), .val (.int (if (0 : Int32) < n then (1 : Int32) else (0 : Int32))), .val (.int (1 : Int32)), .val (.int (if k1 < n then (1 : Int32) else (0 : Int32))), .val (.int (if k1 < n then (1 : Int32) else (0 : Int32))), .unset, .unset] [(.int k1), (.int (if k1 < n then (1 : Int32) else (0 : Int32)))])) _
      refine XS.iloadN X12.here hx rfl (hb hby at_106) rfl ?_
      show Steps p.tables e below (T12.setTop (mkF m 107 #[.val (.int p1), .val (.int p2), .val (.int p3), .val (.int n), .val (.int k1), .val (.int k2), .val (.ref bA), .val (.ref bR), .val (.int (if (0 : Int32) < n then (1 : Int32) else (0 : Int32))), .val (.int (1 : Int32)), .val (.int (if k1 < n then (1 : Int32) else (0 : Int32))), .val (.int (if k1 < n then (1 : Int32) else (0 : Int32))), .unset, .unset] [(.int n), (.int k1), (.int (if k1 < n then (1 : Int32) else (0 : Int32)))])) _
      refine XS.icmpYes X12.here hx rfl (pc0 := 107) (pc' := 114) rfl (hb hby at_107) rfl (flt (c1 : ¬ (k1 < n))).2.1 (by decide) (by decide) ?_
      show Steps p.tables e below (T12.setTop (mkF m 114 #[.val (.int p1), .val (.int p2), .val (.int p3), .val (.int n), .val (.int k1), .val (.int k2), .val (.ref bA), .val (.ref bR), .val (.int (if (0 : Int32) < n then (1 : Int32) else (0 : Int32))), .val (.int (1 : Int32)), .val (.int (if k1 < n then (1 : Int32) else (0 : Int32))), .val (.int (if k1 < n then (1 : Int32) else (0 : Int32))), .unset, .unset] [(.int (if k1 < n then (1 : Int32) else (0 : Int32)))])) _
      refine XS.iconst X12.here hx rfl (hb hby at_114) ?_
      show Steps p.tables e below (T12.setTop (mkF m 115 #[.val (.int p1), .val (.int p2), .val (.int p3), .val (.int n), .val (.int k1), .val (.int k2), .val (.ref bA), .val (.ref bR), .val (.int (if (0 : Int32) < n then (1 : Int32) else (0 : Int32))), .val (.int (1 : Int32)), .val (.int (if k1 < n then (1 : Int32) else (0 : Int32))), .val (.int (if k1 < n then (1 : Int32) else (0 : Int32))), .unset, .unset] [(.int (0 : Int32)), (.int (if k1 < n then (1 : Int32) else (0 : Int32)))])) _
      refine XS.icmpNo X12.here hx rfl (hb hby at_115) rfl (teq (if_neg c1 : (if k1 < n then (1 : Int32) else (0 : Int32)) = (0 : Int32))).2 ?_
      show Steps p.tables e below (T12.setTop (mkF m 118 #[.val (.int p1), .val (.int p2), .val (.int p3), .val (.int n), .val (.int k1), .val (.int k2), .val (.ref bA), .val (.ref bR), .val (.int (if (0 : Int32) < n then (1 : Int32) else (0 : Int32))), .val (.int (1 : Int32)), .val (.int (if k1 < n then (1 : Int32) else (0 : Int32))), .val (.int (if k1 < n then (1 : Int32) else (0 : Int32))), .unset, .unset] [])) _
      refine XS.iload X12.here hx rfl (hb hby at_118) rfl ?_
      show Steps p.tables e below (T12.setTop (mkF m 120 #[.val (.int p1), .val (.int p2), .val (.int p3), .val (.int n), .val (.int k1), .val (.int k2), .val (.ref bA), .val (.ref bR), .val (.int (if (0 : Int32) < n then (1 : Int32) else (0 : Int32))), .val (.int (1 : Int32)), .val (.int (if k1 < n then (1 : Int32) else (0 : Int32))), .val (.int (if k1 < n then (1 : Int32) else (0 : Int32))), .unset, .unset] [(.int (if k1 < n then (1 : Int32) else (0 : Int32)))])) _
      refine XS.iload X12.here hx rfl (hb hby at_120) rfl ?_
      show Steps p.tables e below (T12.setTop (mkF m 122 #[.val (.int p1), .val (.int p2), .val (.int p3), .val (.int n), .val (.int k1), .val (.int k2), .val (.ref bA), .val (.ref bR), .val (.int (if (0 : Int32) < n then (1 : Int32) else (0 : Int32))), .val (.int (1 : Int32)), .val (.int (if k1 < n then (1 : Int32) else (0 : Int32))), .val (.int (if k1 < n then (1 : Int32) else (0 : Int32))), .unset, .unset] [(.int (if k1 < n then (1 : Int32) else (0 : Int32))), (.int (if k1 < n then (1 : Int32) else (0 : Int32)))])) _
      refine XS.icmpNo X12.here hx rfl (hb hby at_122) rfl (teq (rfl : (if k1 < n then (1 : Int32) else (0 : Int32)) = (if k1 < n then (1 : Int32) else (0 : Int32)))).2 ?_
      show Steps p.tables e below (T12.setTop (mkF m 125 #[.val (.int p1), .val (.int p2), .val (.int p3), .val (.int n), .val (.int k1), .val (.int k2), .val (.ref bA), .val (.ref bR), .val (.int (if (0 : Int32) < n then (1 : Int32) else (0 : Int32))), .val (.int (1 : Int32)), .val (.int (if k1 < n then (1 : Int32) else (0 : Int32))), .val (.int (if k1 < n then (1 : Int32) else (0 : Int32))), .unset, .unset] [])) _
      refine XS.iconst X12.here hx rfl (hb hby at_125) ?_
      show Steps p.tables e below (T12.setTop (mkF m 126 #[.val (.int p1), .val (.int p2), .val (.int p3), .val (.int n), .val (.int k1), .val (.int k2), .val (.ref bA), .val (.ref bR), .val (.int (if (0 : Int32) < n then (1 : Int32) else (0 : Int32))), .val (.int (1 : Int32)), .val (.int (if k1 < n then (1 : Int32) else (0 : Int32))), .val (.int (if k1 < n then (1 : Int32) else (0 : Int32))), .unset, .unset] [(.int (1 : Int32))])) _
      refine XS.goto X12.here hx rfl (pc0 := 126) (pc' := 130) rfl (hb hby at_126) (by decide) (by decide) ?_
      show Steps p.tables e below (T12.setTop (mkF m 130 #[.val (.int p1), .val (.int p2), .val (.int p3), .val (.int n), .val (.int k1), .val (.int k2), .val (.ref bA), .val (.ref bR), .val (.int (if (0 : Int32) < n then (1 : Int32) else (0 : Int32))), .val (.int (1 : Int32)), .val (.int (if k1 < n then (1 : Int32) else (0 : Int32))), .val (.int (if k1 < n then (1 : Int32) else (0 : Int32))), .unset, .unset] [(.int (1 : Int32))])) _
      refine XS.istore X12.here hx rfl (hb hby at_130) rfl (l' := #[.val (.int p1), .val (.int p2), .val (.int p3), .val (.int n), .val (.int k1), .val (.int k2), .val (.ref bA), .val (.ref bR), .val (.int (if (0 : Int32) < n then (1 : Int32) else (0 : Int32))), .val (.int (1 : Int32)), .val (.int (if k1 < n then (1 : Int32) else (0 : Int32))), .val (.int (if k1 < n then (1 : Int32) else (0 : Int32))), .unset, .unset]) rfl ?_
      exact k)
  obtain ⟨cq15, kq15, q15a, q15b, q15c⟩ := isOf hZ rfl Ec10_e12
  obtain ⟨_, _, ⟨T15, L15, k15, n15⟩, -, X15, ⟨Lc15, hQ15, l15, y15, z15⟩, st15⟩ := X12.virtualBack hx (y := (⟨"com/example/quillon/quillon/tlv/TlvReader", "bytes", "(I)[B"⟩ : MethodName)) (z := (⟨"com/example/quillon/quillon/tlv/TlvReader", "bytes", "(I)[B"⟩ : MethodName)) hown (mvT hZ (hw _ (List.mem_of_getElem? (i := 24) rfl))) (mvT hZ (hw _ (List.mem_of_getElem? (i := 25) rfl))) (notFace_of_selects (args := #[]) (mvT hZ (hw _ (List.mem_of_getElem? (i := 27) rfl)))) (mvT hZ (hw _ (List.mem_of_getElem? (i := 27) rfl))) (mvT hZ (hw _ (List.mem_of_getElem? (i := 26) rfl))) (by decide) (backOf (W := 0) (rm5 l Z a0 hw [] bR k2 k1 bA n T12.heap n0 Z12 Ec10_e12 g_bR G210_e12 G110_e12 V4_e12 (by first | decide | omega) (by omega) (by first | omega | (show 0 + _ ≤ _; omega)) (by omega)) hZ (hw _ (List.mem_of_getElem? (i := 28) rfl)) (hw _ (List.mem_of_getElem? (i := 8) rfl)) (by decide) (by decide)) q15a q15c (g := (mkF m 136 #[.val (.int p1), .val (.int p2), .val (.int p3), .val (.int n), .val (.int k1), .val (.int k2), .val (.ref bA), .val (.ref bR), .val (.int (if (0 : Int32) < n then (1 : Int32) else (0 : Int32))), .val (.int (1 : Int32)), .val (.int (if k1 < n then (1 : Int32) else (0 : Int32))), .val (.int (if k1 < n then (1 : Int32) else (0 : Int32))), .unset, .unset] [(.int k2), (.ref bR)])) rfl (by rw [hml]; rfl) (Steps.refl _) (argsL := [(.int k2)]) (rest := []) (lenOf pd_5 rfl) rfl (by show 2 * 0 + _ ≤ _; exact Nat.le_of_eq rfl) (hb hby at_136) (fun _ _ => ⟨rfl, rfl, (by decide : 3 + 1 ≤ _), (by decide : 10 + 4 ≤ _)⟩)
  dsimp only [Pt.U, Pt.locs, Pt.cells, Pt.slots] at X15 l15 y15 z15 st15 hQ15
  subst l15 y15 z15
  obtain ⟨N15q, x15, rfl, Kc15, Ec15, G115, G215⟩ := hQ15
  have N15 := Fr.app N12 N15q
  have V4_e15 := V4_e12.keep Kc15 (ninS ne_bA_bR nin0)
  have Z15 : n0 ≤ T15.heap.size := Nat.le_trans Z12 Kc15.1
  obtain ⟨cq16, kq16, q16a, q16b, q16c⟩ := isOf hZ rfl Ec15
  obtain ⟨_, _, ⟨T16, L16, k16, n16⟩, -, X16, ⟨Lc16, hQ16, l16, y16, z16⟩, st16⟩ := X15.virtualBack hx (y := (⟨"com/example/quillon/quillon/tlv/TlvReader", "hasRemaining", "()Z"⟩ : MethodName)) (z := (⟨"com/example/quillon/quillon/tlv/TlvReader", "hasRemaining", "()Z"⟩ : MethodName)) hown (mvT hZ (hw _ (List.mem_of_getElem? (i := 17) rfl))) (mvT hZ (hw _ (List.mem_of_getElem? (i := 18) rfl))) (notFace_of_selects (args := #[]) (mvT hZ (hw _ (List.mem_of_getElem? (i := 20) rfl)))) (mvT hZ (hw _ (List.mem_of_getElem? (i := 20) rfl))) (mvT hZ (hw _ (List.mem_of_getElem? (i := 19) rfl))) (by decide) (backOf (W := 0) (rm4 l Z a0 hw [] bR (k1 + k2) bA n T15.heap n0 Z15 G215 G115 V4_e15) hZ (hw _ (List.mem_of_getElem? (i := 21) rfl)) (hw _ (List.mem_of_getElem? (i := 8) rfl)) (by decide) (by decide)) q16a q16c (g := (mkF m 142 #[.val (.int p1), .val (.int p2), .val (.int p3), .val (.int n), .val (.int k1), .val (.int k2), .val (.ref bA), .val (.ref bR), .val (.int (if (0 : Int32) < n then (1 : Int32) else (0 : Int32))), .val (.int (1 : Int32)), .val (.int (if k1 < n then (1 : Int32) else (0 : Int32))), .val (.int (if k1 < n then (1 : Int32) else (0 : Int32))), .unset, .unset] [(.ref bR)])) rfl (by rw [hml]; rfl) (Steps.refl _) (argsL := []) (rest := []) (lenOf pd_4 rfl) rfl (by show 2 * 0 + _ ≤ _; exact Nat.le_of_eq rfl) (hb hby at_142) (fun _ _ => ⟨rfl, rfl, (by decide : 4 + 0 ≤ _), (by decide : 14 + 0 ≤ _)⟩)
  dsimp only [Pt.U, Pt.locs, Pt.cells, Pt.slots] at X16 l16 y16 z16 st16 hQ16
  subst l16 y16 z16
  obtain ⟨rfl, N16q, q16⟩ := hQ16
  have N16 := Fr.app N15 N16q
  have K16 : Keep T15.heap T16.heap [] := own_kr q16
  have V4_e16 := V4_e15.keep K16 nin0
  have Ec15_e16 := Ec15.keep K16
  have G115_e16 := G115.keep K16 nin0
  have G215_e16 := G215.keep K16 nin0
  have Z16 : n0 ≤ T16.heap.size := Nat.le_trans Z15 K16.1
  have pre17 : ∀ t, Steps p.tables e below (T16.setTop (mkF m 147 #[.val (.int p1), .val (.int p2), .val (.int p3), .val (.int n), .val (.int k1), .val (.int k2), .val (.ref bA), .val (.ref bR), .val (.int (if (0 : Int32) < n then (1 : Int32) else (0 : Int32))), .val (.int (1 : Int32)), .val (.int (if k1 < n then (1 : Int32) else (0 : Int32))), .val (.int (if k1 < n then (1 : Int32) else (0 : Int32))), .val (.int (if (k1 + k2) < n then (1 : Int32) else (0 : Int32))), .unset] [])) t → Steps p.tables e below (s₁.setTop (entryFrame m #[(.int p1), (.int p2), (.int p3)] maxLocals)) t := fun t k => pre14 t (by
    show Steps p.tables e below (T12.setTop (mkF m 132 #[.val (.int p1), .val (.int p2), .val (.int p3), .val (.int n), .val (.int k1), .val (.int k2), .val (.ref bA), .val (.ref bR), .val (.int (if (0 : Int32) < n then (1 : Int32) else (0 : Int32))), .val (.int (1 : Int32)), .val (.int (if k1 < n then (1 : Int32) else (0 : Int32))), .val (.int (if k1 < n then (1 : Int32) else (0 : Int32))), .unset, .unset] [])) _
    refine XS.aload X12.here hx rfl (hb hby at_132) rfl rfl ?_
    show Steps p.tables e below (T12.setTop (mkF m 134 #[.val (.int p1), .val (.int p2), .val (.int p3), .val (.int n), .val (.int k1), .val (.int k2), .val (.ref bA), .val (.ref bR), .val (.int (if (0 : Int32) < n then (1 : Int32) else (0 : Int32))), .val (.int (1 : Int32)), .val (.int (if k1 < n then (1 : Int32) else (0 : Int32))), .val (.int (if k1 < n then (1 : Int32) else (0 : Int32))), .unset, .unset] [(.ref bR)])) _
    refine XS.iload X12.here hx rfl (hb hby at_134) rfl ?_
    show Steps p.tables e below (T12.setTop (mkF m 136 #[.val (.int p1), .val (.int p2), .val (.int p3), .val (.int n), .val (.int k1), .val (.int k2), .val (.ref bA), .val (.ref bR), .val (.int (if (0 : Int32) < n then (1 : Int32) else (0 : Int32))), .val (.int (1 : Int32)), .val (.int (if k1 < n then (1 : Int32) else (0 : Int32))), .val (.int (if k1 < n then (1 : Int32) else (0 : Int32))), .unset, .unset] [(.int k2), (.ref bR)])) _
    refine st15.trans ?_
    show Steps p.tables e below (T15.setTop (mkF m 139 #[.val (.int p1), .val (.int p2), .val (.int p3), .val (.int n), .val (.int k1), .val (.int k2), .val (.ref bA), .val (.ref bR), .val (.int (if (0 : Int32) < n then (1 : Int32) else (0 : Int32))), .val (.int (1 : Int32)), .val (.int (if k1 < n then (1 : Int32) else (0 : Int32))), .val (.int (if k1 < n then (1 : Int32) else (0 : Int32))), .unset, .unset] [(.ref x15)])) _
    refine XS.pop X15.here hx rfl (hb hby at_139) rfl rfl ?_
    show Steps p.tables e below (T15.setTop (mkF m 140 #[.val (.int p1), .val (.int p2), .val (.int p3), .val (.int n), .val (.int k1), .val (.int k2), .val (.ref bA), .val (.ref bR), .val (.int (if (0 : Int32) < n then (1 : Int32) else (0 : Int32))), .val (.int (1 : Int32)), .val (.int (if k1 < n then (1 : Int32) else (0 : Int32))), .val (.int (if k1 < n then (1 : Int32) else (0 : Int32))), .unset, .unset] [])) _
    refine XS.aload X15.here hx rfl (hb hby at_140) rfl rfl ?_
    show Steps p.tables e below (T15.setTop (mkF m 142 #[.val (.int p1), .val (.int p2), .val (.int p3), .val (.int n), .val (.int k1), .val (.int k2), .val (.ref bA), .val (.ref bR), .val (.int (if (0 : Int32) < n then (1 : Int32) else (0 : Int32))), .val (.int (1 : Int32)), .val (.int (if k1 < n then (1 : Int32) else (0 : Int32))), .val (.int (if k1 < n then (1 : Int32) else (0 : Int32))), .unset, .unset] [(.ref bR)])) _
    refine st16.trans ?_
    show Steps p.tables e below (T16.setTop (mkF m 145 #[.val (.int p1), .val (.int p2), .val (.int p3), .val (.int n), .val (.int k1), .val (.int k2), .val (.ref bA), .val (.ref bR), .val (.int (if (0 : Int32) < n then (1 : Int32) else (0 : Int32))), .val (.int (1 : Int32)), .val (.int (if k1 < n then (1 : Int32) else (0 : Int32))), .val (.int (if k1 < n then (1 : Int32) else (0 : Int32))), .unset, .unset] [(.int (if (k1 + k2) < n then (1 : Int32) else (0 : Int32)))])) _
    refine XS.istore X16.here hx rfl (hb hby at_145) rfl (l' := #[.val (.int p1), .val (.int p2), .val (.int p3), .val (.int n), .val (.int k1), .val (.int k2), .val (.ref bA), .val (.ref bR), .val (.int (if (0 : Int32) < n then (1 : Int32) else (0 : Int32))), .val (.int (1 : Int32)), .val (.int (if k1 < n then (1 : Int32) else (0 : Int32))), .val (.int (if k1 < n then (1 : Int32) else (0 : Int32))), .val (.int (if (k1 + k2) < n then (1 : Int32) else (0 : Int32))), .unset]) rfl ?_
    exact k)
  have pre18 : ∀ t, Steps p.tables e below (T16.setTop (mkF m 178 #[.val (.int p1), .val (.int p2), .val (.int p3), .val (.int n), .val (.int k1), .val (.int k2), .val (.ref bA), .val (.ref bR), .val (.int (if (0 : Int32) < n then (1 : Int32) else (0 : Int32))), .val (.int (1 : Int32)), .val (.int (if k1 < n then (1 : Int32) else (0 : Int32))), .val (.int (if k1 < n then (1 : Int32) else (0 : Int32))), .val (.int (if (k1 + k2) < n then (1 : Int32) else (0 : Int32))), .unset] [])) t → Steps p.tables e below (s₁.setTop (entryFrame m #[(.int p1), (.int p2), (.int p3)] maxLocals)) t := fun t k => pre17 t (by
    by_cases c1 : k1 + k2 < n
    · show Steps p.tables e below (T16.setTop (mkF m 147 #[.val (.int p1), .val (.int p2), .val (.int p3), .val (.int n), .val (.int k1), .val (.int k2), .val (.ref bA), .val (.ref bR), .val (.int (if (0 : Int32) < n then (1 : Int32) else (0 : Int32))), .val (.int (1 : Int32)), .val (.int (if k1 < n then (1 : Int32) else (0 : Int32))), .val (.int (if k1 < n then (1 : Int32) else (0 : Int32))), .val (.int (if (k1 + k2) < n then (1 : Int32) else (0 : Int32))), .unset] [])) _
      refine XS.iload X16.here hx rfl (hb hby at_147) rfl ?_
      show Steps p.tables e below (T16.setTop (mkF m 149 #[.val (.int p1), .val (.int p2), .val (.int p3), .val (.int n), .val (.int k1), .val (.int k2), .val (.ref bA), .val (.ref bR), .val (.int (if (0 : Int32) < n then (1 : Int32) else (0 : Int32))), .val (.int (1 : Int32)), .val (.int (if k1 < n then (1 : Int32) else (0 : Int32))), .val (.int (if k1 < n then (1 : Int32) else (0 : Int32))), .val (.int (if (k1 + k2) < n then (1 : Int32) else (0 : Int32))), .unset] [(.int (1 : Int32))])) _
      refine XS.ifNo X16.here hx rfl (hb hby at_149) rfl ((if0 _ _).trans (feq (by decide : ¬ ((1 : Int32) = (0 : Int32)))).1) ?_
      show Steps p.tables e below (T16.setTop (mkF m 152 #[.val (.int p1), .val (.int p2), .val (.int p3), .val (.int n), .val (.int k1), .val (.int k2), .val (.ref bA), .val (.ref bR), .val (.int (if (0 : Int32) < n then (1 : Int32) else (0 : Int32))), .val (.int (1 : Int32)), .val (.int (if k1 < n then (1 : Int32) else (0 : Int32))), .val (.int (if k1 < n then (1 : Int32) else (0 : Int32))), .val (.int (if (k1 + k2) < n then (1 : Int32) else (0 : Int32))), .unset] [])) _
      refine XS.iload X16.here hx rfl (hb hby at_152) rfl ?_
      show Steps p.tables e below (T16.setTop (mkF m 154 #[.val (.int p1), .val (.int p2), .val (.int p3), .val (.int n), .val (.int k1), .val (.int k2), .val (.ref bA), .val (.ref bR), .val (.int (if (0 : Int32) < n then (1 : Int32) else (0 : Int32))), .val (.int (1 : Int32)), .val (.int (if k1 < n then (1 : Int32) else (0 : Int32))), .val (.int (if k1 < n then (1 : Int32) else (0 : Int32))), .val (.int (if (k1 + k2) < n then (1 : Int32) else (0 : Int32))), .unset] [(.int (if (k1 + k2) < n then (1 : Int32) else (0 : Int32)))])) _
      refine XS.iload X16.here hx rfl (hb hby at_154) rfl ?_
      show Steps p.tables e below (T16.setTop (mkF m 156 #[.val (.int p1), .val (.int p2), .val (.int p3), .val (.int n), .val (.int k1), .val (.int k2), .val (.ref bA), .val (.ref bR), .val (.int (if (0 : Int32) < n then (1 : Int32) else (0 : Int32))), .val (.int (1 : Int32)), .val (.int (if k1 < n then (1 : Int32) else (0 : Int32))), .val (.int (if k1 < n then (1 : Int32) else (0 : Int32))), .val (.int (if (k1 + k2) < n then (1 : Int32) else (0 : Int32))), .unset] [(.int k1), (.int (if (k1 + k2) < n then (1 : Int32) else (0 : Int32)))])) _
      refine XS.iload X16.here hx rfl (hb hby at_156) rfl ?_
      show Steps p.tables e below (T16.setTop (mkF m 158 #[.val (.int p1), .val (.int p2), .val (.int p3), .val (.int n), .val (.int k1), .val (.int k2), .val (.ref bA), .val (.ref bR), .val (.int (if (0 : Int32) < n then (1 : Int32) else (0 : Int32))), .val (.int (1 : Int32)), .val (.int (if k1 < n then (1 : Int32) else (0 : Int32))), .val (.int (if k1 < n then (1 : Int32) else (0 : Int32))), .val (.int (if (k1 + k2) < n then (1 : Int32) else (0 : Int32))), .unset] [(.int k2), (.int k1), (.int (if (k1 + k2) < n then (1 : Int32) else (0 : Int32)))])) _
      refine XS.iadd X16.here hx rfl (hb hby at_158) rfl ?_
      show Steps p.tables e below (T16.setTop (mkF m 159 #[.val (.int p1), .val (.int p2), .val (.int p3), .val (.int n), .val (.int k1), .val (.int k2), .val (.ref bA), .val (.ref bR), .val (.int (if (0 : Int32) < n then (1 : Int32) else (0 : Int32))), .val (.int (1 : Int32)), .val (.int (if k1 < n then (1 : Int32) else (0 : Int32))), .val (.int (if k1 < n then (1 : Int32) else (0 : Int32))), .val (.int (if (k1 + k2) < n then (1 : Int32) else (0 : Int32))), .unset] [(.int (k1 + k2)), (.int (if (k1 + k2) < n then (1 : Int32) else (0 : Int32)))])) _
      refine XS.iloadN X16.here hx rfl (hb hby at_159) rfl ?_
      show Steps p.tables e below (T16.setTop (mkF m 160 #[.val (.int p1), .val (.int p2), .val (.int p3), .val (.int n), .val (.int k1), .val (.int k2), .val (.ref bA), .val (.ref bR), .val (.int (if (0 : Int32) < n then (1 : Int32) else (0 : Int32))), .val (.int (1 : Int32)), .val (.int (if k1 < n then (1 : Int32) else (0 : Int32))), .val (.int (if k1 < n then (1 : Int32) else (0 : Int32))), .val (.int (if (k1 + k2) < n then (1 : Int32) else (0 : Int32))), .unset] [(.int n), (.int (k1 + k2)), (.int (if (k1 + k2) < n then (1 : Int32) else (0 : Int32)))])) _
      refine XS.icmpNo X16.here hx rfl (hb hby at_160) rfl (tlt (c1 : (k1 + k2) < n)).2.1 ?_
      show Steps p.tables e below (T16.setTop (mkF m 163 #[.val (.int p1), .val (.int p2), .val (.int p3), .val (.int n), .val (.int k1), .val (.int k2), .val (.ref bA), .val (.ref bR), .val (.int (if (0 : Int32) < n then (1 : Int32) else (0 : Int32))), .val (.int (1 : Int32)), .val (.int (if k1 < n then (1 : Int32) else (0 : Int32))), .val (.int (if k1 < n then (1 : Int32) else (0 : Int32))), .val (.int (if (k1 + k2) < n then (1 : Int32) else (0 : Int32))), .unset] [(.int (if (k1 + k2) < n then (1 : Int32) else (0 : Int32)))])) _
      refine XS.iconst X16.here hx rfl (hb hby at_163) ?_
      show Steps p.tables e below (T16.setTop (mkF m 164 #[.val (.int p1), .val (.int p2), .val (.int p3), .val (.int n), .val (.int k1), .val (.int k2), .val (.ref bA), .val (.ref bR), .val (.int (if (0 : Int32) < n then (1 : Int32) else (0 : Int32))), .val (.int (1 : Int32)), .val (.int (if k1 < n then (1 : Int32) else (0 : Int32))), .val (.int (if k1 < n then (1 : Int32) else (0 : Int32))), .val (.int (if (k1 + k2) < n then (1 : Int32) else (0 : Int32))), .unset] [(.int (1 : Int32)), (.int (if (k1 + k2) < n then (1 : Int32) else (0 : Int32)))])) _
      refine XS.goto X16.here hx rfl (pc0 := 164) (pc' := 168) rfl (hb hby at_164) (by decide) (by decide) ?_
      show Steps p.tables e below (T16.setTop (mkF m 168 #[.val (.int p1), .val (.int p2), .val (.int p3), .val (.int n), .val (.int k1), .val (.int k2), .val (.ref bA), .val (.ref bR), .val (.int (if (0 : Int32) < n then (1 : Int32) else (0 : Int32))), .val (.int (1 : Int32)), .val (.int (if k1 < n then (1 : Int32) else (0 : Int32))), .val (.int (if k1 < n then (1 : Int32) else (0 : Int32))), .val (.int (if (k1 + k2) < n then (1 : Int32) else (0 : Int32))), .unset] [(.int (1 : Int32)), (.int (if (k1 + k2) < n then (1 : Int32) else (0 : Int32)))])) _
      refine XS.icmpNo X16.here hx rfl (hb hby at_168) rfl (teq (if_pos c1 : (if (k1 + k2) < n then (1 : Int32) else (0 : Int32)) = (1 : Int32))).2 ?_
      show Steps p.tables e below (T16.setTop (mkF m 171 #[.val (.int p1), .val (.int p2), .val (.int p3), .val (.int n), .val (.int k1), .val (.int k2), .val (.ref bA), .val (.ref bR), .val (.int (if (0 : Int32) < n then (1 : Int32) else (0 : Int32))), .val (.int (1 : Int32)), .val (.int (if k1 < n then (1 : Int32) else (0 : Int32))), .val (.int (if k1 < n then (1 : Int32) else (0 : Int32))), .val (.int (if (k1 + k2) < n then (1 : Int32) else (0 : Int32))), .unset] [])) _
      refine XS.iconst X16.here hx rfl (hb hby at_171) ?_
      show Steps p.tables e below (T16.setTop (mkF m 172 #[.val (.int p1), .val (.int p2), .val (.int p3), .val (.int n), .val (.int k1), .val (.int k2), .val (.ref bA), .val (.ref bR), .val (.int (if (0 : Int32) < n then (1 : Int32) else (0 : Int32))), .val (.int (1 : Int32)), .val (.int (if k1 < n then (1 : Int32) else (0 : Int32))), .val (.int (if k1 < n then (1 : Int32) else (0 : Int32))), .val (.int (if (k1 + k2) < n then (1 : Int32) else (0 : Int32))), .unset] [(.int (1 : Int32))])) _
      refine XS.goto X16.here hx rfl (pc0 := 172) (pc' := 176) rfl (hb hby at_172) (by decide) (by decide) ?_
      show Steps p.tables e below (T16.setTop (mkF m 176 #[.val (.int p1), .val (.int p2), .val (.int p3), .val (.int n), .val (.int k1), .val (.int k2), .val (.ref bA), .val (.ref bR), .val (.int (if (0 : Int32) < n then (1 : Int32) else (0 : Int32))), .val (.int (1 : Int32)), .val (.int (if k1 < n then (1 : Int32) else (0 : Int32))), .val (.int (if k1 < n then (1 : Int32) else (0 : Int32))), .val (.int (if (k1 + k2) < n then (1 : Int32) else (0 : Int32))), .unset] [(.int (1 : Int32))])) _
      refine XS.istore X16.here hx rfl (hb hby at_176) rfl (l' := #[.val (.int p1), .val (.int p2), .val (.int p3), .val (.int n), .val (.int k1), .val (.int k2), .val (.ref bA), .val (.ref bR), .val (.int (if (0 : Int32) < n then (1 : Int32) else (0 : Int32))), .val (.int (1 : Int32)), .val (.int (if k1 < n then (1 : Int32) else (0 : Int32))), .val (.int (if k1 < n then (1 : Int32) else (0 : Int32))), .val (.int (if (k1 + k2) < n then (1 : Int32) else (0 : Int32))), .unset]) rfl ?_
      exact k
    · show Steps p.tables e below (T16.setTop (mkF m 147 #[.val (.int p1), .val (.int p2), .val (.int p3), .val (.int n), .val (.int k1), .val (.int k2), .val (.ref bA), .val (.ref bR), .val (.int (if (0 : Int32) < n then (1 : Int32) else (0 : Int32))), .val (.int (1 : Int32)), .val (.int (if k1 < n then (1 : Int32) else (0 : Int32))), .val (.int (if k1 < n then (1 : Int32) else (0 : Int32))), .val (.int (if (k1 + k2) < n then (1 : Int32) else (0 : Int32))), .unset] [])) _
      refine XS.iload X16.here hx rfl (hb hby at_147) rfl ?_
      show Steps p.tables e below (T16.setTop (mkF m 149 #[.val (.int p1), .val (.int p2), .val (.int p3), .val (.int n), .val (.int k1), .val (.int k2), .val (.ref bA), .val (.ref bR), .val (.int (if (0 : Int32) < n then (1 : Int32) else (0 : Int32))), .val (.int (1 : Int32)), .val (.int (if k1 < n then (1 : Int32) else (0 : Int32))), .val (.int (if k1 < n then (1 : Int32) else (0 : Int32))), .val (.int (if (k1 + k2) < n then (1 : Int32) else (0 : Int32))), .unset] [(.int (1 : Int32))])) _
      refine XS.ifNo X16.here hx rfl (hb hby at_149) rfl ((if0 _ _).trans (feq (by decide : ¬ ((1 : Int32) = (0 : Int32)))).1) ?_
      show Steps p.tables e below (T16.setTop (mkF m 152 #[.val (.int p1), .val (.int p2), .val (.int p3), .val (.int n), .val (.int k1), .val (.int k2), .val (.ref bA), .val (.ref bR), .val (.int (if (0 : Int32) < n then (1 : Int32) else (0 : Int32))), .val (.int (1 : Int32)), .val (.int (if k1 < n then (1 : Int32) else (0 : Int32))), .val (.int (if k1 < n then (1 : Int32) else (0 : Int32))), .val (.int (if (k1 + k2) < n then (1 : Int32) else (0 : Int32))), .unset] [])) _
      refine XS.iload X16.here hx rfl (hb hby at_152) rfl ?_
      show Steps p.tables e below (T16.setTop (mkF m 154 #[.val (.int p1), .val (.int p2), .val (.int p3), .val (.int n), .val (.int k1), .val (.int k2), .val (.ref bA), .val (.ref bR), .val (.int (if (0 : Int32) < n then (1 : Int32) else (0 : Int32))), .val (.int (1 : Int32)), .val (.int (if k1 < n then (1 : Int32) else (0 : Int32))), .val (.int (if k1 < n then (1 : Int32) else (0 : Int32))), .val (.int (if (k1 + k2) < n then (1 : Int32) else (0 : Int32))), .unset] [(.int (if (k1 + k2) < n then (1 : Int32) else (0 : Int32)))])) _
      refine XS.iload X16.here hx rfl (hb hby at_154) rfl ?_
      show Steps p.tables e below (T16.setTop (mkF m 156 #[.val (.int p1), .val (.int p2), .val (.int p3), .val (.int n), .val (.int k1), .val (.int k2), .val (.ref bA), .val (.ref bR), .val (.int (if (0 : Int32) < n then (1 : Int32) else (0 : Int32))), .val (.int (1 : Int32)), .val (.int (if k1 < n then (1 : Int32) else (0 : Int32))), .val (.int (if k1 < n then (1 : Int32) else (0 : Int32))), .val (.int (if (k1 + k2) < n then (1 : Int32) else (0 : Int32))), .unset] [(.int k1), (.int (if (k1 + k2) < n then (1 : Int32) else (0 : Int32)))])) _
      refine XS.iload X16.here hx rfl (hb hby at_156) rfl ?_
      show Steps p.tables e below (T16.setTop (mkF m 158 #[.val (.int p1), .val (.int p2), .val (.int p3), .val (.int n), .val (.int k1), .val (.int k2), .val (.ref bA), .val (.ref bR), .val (.int (if (0 : Int32) < n then (1 : Int32) else (0 : Int32))), .val (.int (1 : Int32)), .val (.int (if k1 < n then (1 : Int32) else (0 : Int32))), .val (.int (if k1 < n then (1 : Int32) else (0 : Int32))), .val (.int (if (k1 + k2) < n then (1 : Int32) else (0 : Int32))), .unset] [(.int k2), (.int k1), (.int (if (k1 + k2) < n then (1 : Int32) else (0 : Int32)))])) _
      refine XS.iadd X16.here hx rfl (hb hby at_158) rfl ?_
      show Steps p.tables e below (T16.setTop (mkF m 159 #[.val (.int p1), .val (.int p2), .val (.int p3), .val (.int n), .val (.int k1), .val (.int k2), .val (.ref bA), .val (.ref bR), .val (.int (if (0 : Int32) < n then (1 : Int32) else (0 : Int32))), .val (.int (1 : Int32)), .val (.int (if k1 < n then (1 : Int32) else (0 : Int32))), .val (.int (if k1 < n then (1 : Int32) else (0 : Int32))), .val (.int (if (k1 + k2) < n then (1 : Int32) else (0 : Int32))), .unset] [(.int (k1 + k2)), (.int (if (k1 + k2) < n then (1 : Int32) else (0 : Int32)))])) _
      refine XS.iloadN X16.here hx rfl (hb hby at_159) rfl ?_
      show Steps p.tables e below (T16.setTop (mkF m 160 #[.val (.int p1), .val (.int p2), .val (.int p3), .val (.int n), .val (.int k1), .val (.int k2), .val (.ref bA), .val (.ref bR), .val (.int (if (0 : Int32) < n then (1 : Int32) else (0 : Int32))), .val (.int (1 : Int32)), .val (.int (if k1 < n then (1 : Int32) else (0 : Int32))), .val (.int (if k1 < n then (1 : Int32) else (0 : Int32))), .val (.int (if (k1 + k2) < n then (1 : Int32) else (0 : Int32))), .unset] [(.int n), (.int (k1 + k2)), (.int (if (k1 + k2) < n then (1 : Int32) else (0 : Int32)))])) _
      refine XS.icmpYes X16.here hx rfl (pc0 := 160) (pc' := 167) rfl (hb hby at_160) rfl (flt (c1 : ¬ ((k1 + k2) < n))).2.1 (by decide) (by decide) ?_
      show Steps p.tables e below (T16.setTop (mkF m 167 #[.val (.int p1), .val (.int p2), .val (.int p3), .val (.int n), .val (.int k1), .val (.int k2), .val (.ref bA), .val (.ref bR), .val (.int (if (0 : Int32) < n then (1 : Int32) else (0 : Int32))), .val (.int (1 : Int32)), .val (.int (if k1 < n then (1 : Int32) else (0 : Int32))), .val (.int (if k1 < n then (1 : Int32) else (0 : Int32))), .val (.int (if (k1 + k2) < n then (1 : Int32) else (0 : Int32))), .unset] [(.int (if (k1 + k2) < n then (1 : Int32) else (0 : Int32)))])) _
      refine XS.iconst X16.here hx rfl (hb hby at_167) ?_
      show Steps p.tables e below (T16.setTop (mkF m 168 #[.val (.int p1), .val (.int p2), .val (.int p3), .val (.int n), .val (.int k1), .val (.int k2), .val (.ref bA), .val (.ref bR), .val (.int (if (0 : Int32) < n then (1 : Int32) else (0 : Int32))), .val (.int (1 : Int32)), .val (.int (if k1 < n then (1 : Int32) else (0 : Int32))), .val (.int (if k1 < n then (1 : Int32) else (0 : Int32))), .val (.int (if (k1 + k2) < n then (1 : Int32) else (0 : Int32))), .unset] [(.int (0 : Int32)), (.int (if (k1 + k2) < n then (1 : Int32) else (0 : Int32)))])) _
      refine XS.icmpNo X16.here hx rfl (hb hby at_168) rfl (teq (if_neg c1 : (if (k1 + k2) < n then (1 : Int32) else (0 : Int32)) = (0 : Int32))).2 ?_
      show Steps p.tables e below (T16.setTop (mkF m 171 #[.val (.int p1), .val (.int p2), .val (.int p3), .val (.int n), .val (.int k1), .val (.int k2), .val (.ref bA), .val (.ref bR), .val (.int (if (0 : Int32) < n then (1 : Int32) else (0 : Int32))), .val (.int (1 : Int32)), .val (.int (if k1 < n then (1 : Int32) else (0 : Int32))), .val (.int (if k1 < n then (1 : Int32) else (0 : Int32))), .val (.int (if (k1 + k2) < n then (1 : Int32) else (0 : Int32))), .unset] [])) _
      refine XS.iconst X16.here hx rfl (hb hby at_171) ?_
      show Steps p.tables e below (T16.setTop (mkF m 172 #[.val (.int p1), .val (.int p2), .val (.int p3), .val (.int n), .val (.int k1), .val (.int k2), .val (.ref bA), .val (.ref bR), .val (.int (if (0 : Int32) < n then (1 : Int32) else (0 : Int32))), .val (.int (1 : Int32)), .val (.int (if k1 < n then (1 : Int32) else (0 : Int32))), .val (.int (if k1 < n then (1 : Int32) else (0 : Int32))), .val (.int (if (k1 + k2) < n then (1 : Int32) else (0 : Int32))), .unset] [(.int (1 : Int32))])) _
      refine XS.goto X16.here hx rfl (pc0 := 172) (pc' := 176) rfl (hb hby at_172) (by decide) (by decide) ?_
      show Steps p.tables e below (T16.setTop (mkF m 176 #[.val (.int p1), .val (.int p2), .val (.int p3), .val (.int n), .val (.int k1), .val (.int k2), .val (.ref bA), .val (.ref bR), .val (.int (if (0 : Int32) < n then (1 : Int32) else (0 : Int32))), .val (.int (1 : Int32)), .val (.int (if k1 < n then (1 : Int32) else (0 : Int32))), .val (.int (if k1 < n then (1 : Int32) else (0 : Int32))), .val (.int (if (k1 + k2) < n then (1 : Int32) else (0 : Int32))), .unset] [(.int (1 : Int32))])) _
      refine XS.istore X16.here hx rfl (hb hby at_176) rfl (l' := #[.val (.int p1), .val (.int p2), .val (.int p3), .val (.int n), .val (.int k1), .val (.int k2), .val (.ref bA), .val (.ref bR), .val (.int (if (0 : Int32) < n then (1 : Int32) else (0 : Int32))), .val (.int (1 : Int32)), .val (.int (if k1 < n then (1 : Int32) else (0 : Int32))), .val (.int (if k1 < n then (1 : Int32) else (0 : Int32))), .val (.int (if (k1 + k2) < n then (1 : Int32) else (0 : Int32))), .unset]) rfl ?_
      exact k)
  obtain ⟨cq19, kq19, q19a, q19b, q19c⟩ := isOf hZ rfl Ec15_e16
  obtain ⟨_, _, ⟨T19, L19, k19, n19⟩, -, X19, ⟨Lc19, hQ19, l19, y19, z19⟩, st19⟩ := X16.virtualBack hx (y := (⟨"com/example/quillon/quillon/tlv/TlvReader", "rest", "()[B"⟩ : MethodName)) (z := (⟨"com/example/quillon/quillon/tlv/TlvReader", "rest", "()[B"⟩ : MethodName)) hown (mvT hZ (hw _ (List.mem_of_getElem? (i := 46) rfl))) (mvT hZ (hw _ (List.mem_of_getElem? (i := 47) rfl))) (notFace_of_selects (args := #[]) (mvT hZ (hw _ (List.mem_of_getElem? (i := 49) rfl)))) (mvT hZ (hw _ (List.mem_of_getElem? (i := 49) rfl))) (mvT hZ (hw _ (List.mem_of_getElem? (i := 48) rfl))) (by decide) (backOf (W := 0) (rm8 l Z a0 hw [] bR (k1 + k2) bA n T16.heap n0 Z16 Ec15_e16 g_bR G215_e16 G115_e16 V4_e16 (by omega) (by omega) (by omega)) hZ (hw _ (List.mem_of_getElem? (i := 50) rfl)) (hw _ (List.mem_of_getElem? (i := 8) rfl)) (by decide) (by decide)) q19a q19c (g := (mkF m 180 #[.val (.int p1), .val (.int p2), .val (.int p3), .val (.int n), .val (.int k1), .val (.int k2), .val (.ref bA), .val (.ref bR), .val (.int (if (0 : Int32) < n then (1 : Int32) else (0 : Int32))), .val (.int (1 : Int32)), .val (.int (if k1 < n then (1 : Int32) else (0 : Int32))), .val (.int (if k1 < n then (1 : Int32) else (0 : Int32))), .val (.int (if (k1 + k2) < n then (1 : Int32) else (0 : Int32))), .unset] [(.ref bR)])) rfl (by rw [hml]; rfl) (Steps.refl _) (argsL := []) (rest := []) (lenOf pd_8 rfl) rfl (by show 2 * 0 + _ ≤ _; exact Nat.le_of_eq rfl) (hb hby at_180) (fun _ _ => ⟨rfl, rfl, (by decide : 4 + 1 ≤ _), (by decide : 14 + 4 ≤ _)⟩)
  dsimp only [Pt.U, Pt.locs, Pt.cells, Pt.slots] at X19 l19 y19 z19 st19 hQ19
  subst l19 y19 z19
  obtain ⟨N19q, x19, rfl, Kc19, Ec19, G119, G219⟩ := hQ19
  have N19 := Fr.app N16 N19q
  have V4_e19 := V4_e16.keep Kc19 (ninS ne_bA_bR nin0)
  have Z19 : n0 ≤ T19.heap.size := Nat.le_trans Z16 Kc19.1
  obtain ⟨cq20, kq20, q20a, q20b, q20c⟩ := isOf hZ rfl Ec19
  obtain ⟨_, _, ⟨T20, L20, k20, n20⟩, -, X20, ⟨Lc20, hQ20, l20, y20, z20⟩, st20⟩ := X19.virtualBack hx (y := (⟨"com/example/quillon/quillon/tlv/TlvReader", "hasRemaining", "()Z"⟩ : MethodName)) (z := (⟨"com/example/quillon/quillon/tlv/TlvReader", "hasRemaining", "()Z"⟩ : MethodName)) hown (mvT hZ (hw _ (List.mem_of_getElem? (i := 17) rfl))) (mvT hZ (hw _ (List.mem_of_getElem? (i := 18) rfl))) (notFace_of_selects (args := #[]) (mvT hZ (hw _ (List.mem_of_getElem? (i := 20) rfl)))) (mvT hZ (hw _ (List.mem_of_getElem? (i := 20) rfl))) (mvT hZ (hw _ (List.mem_of_getElem? (i := 19) rfl))) (by decide) (backOf (W := 0) (rm4 l Z a0 hw [] bR n bA n T19.heap n0 Z19 G219 G119 V4_e19) hZ (hw _ (List.mem_of_getElem? (i := 21) rfl)) (hw _ (List.mem_of_getElem? (i := 8) rfl)) (by decide) (by decide)) q20a q20c (g := (mkF m 186 #[.val (.int p1), .val (.int p2), .val (.int p3), .val (.int n), .val (.int k1), .val (.int k2), .val (.ref bA), .val (.ref bR), .val (.int (if (0 : Int32) < n then (1 : Int32) else (0 : Int32))), .val (.int (1 : Int32)), .val (.int (if k1 < n then (1 : Int32) else (0 : Int32))), .val (.int (if k1 < n then (1 : Int32) else (0 : Int32))), .val (.int (if (k1 + k2) < n then (1 : Int32) else (0 : Int32))), .unset] [(.ref bR)])) rfl (by rw [hml]; rfl) (Steps.refl _) (argsL := []) (rest := []) (lenOf pd_4 rfl) rfl (by show 2 * 0 + _ ≤ _; exact Nat.le_of_eq rfl) (hb hby at_186) (fun _ _ => ⟨rfl, rfl, (by decide : 5 + 0 ≤ _), (by decide : 18 + 0 ≤ _)⟩)
  dsimp only [Pt.U, Pt.locs, Pt.cells, Pt.slots] at X20 l20 y20 z20 st20 hQ20
  subst l20 y20 z20
  obtain ⟨rfl, N20q, q20⟩ := hQ20
  have N20 := Fr.app N19 N20q
  have K20 : Keep T19.heap T20.heap [] := own_kr q20
  have V4_e20 := V4_e19.keep K20 nin0
  have Ec19_e20 := Ec19.keep K20
  have G119_e20 := G119.keep K20 nin0
  have G219_e20 := G219.keep K20 nin0
  have Z20 : n0 ≤ T20.heap.size := Nat.le_trans Z19 K20.1
  obtain ⟨fs, hr, hrun, hended, hW, hsame⟩ := X20.leave (v := some (.int (1 : Int32))) (fun h => by rw [Bd.returns] at h; cases h)
  refine ⟨_, _, pre18 _ ?_, hrun, hended, _, _, rfl, ?_, ⟨_, rfl⟩, hW, hsame.mono (by decide) (by decide)⟩
  · show Steps p.tables e below (T16.setTop (mkF m 178 #[.val (.int p1), .val (.int p2), .val (.int p3), .val (.int n), .val (.int k1), .val (.int k2), .val (.ref bA), .val (.ref bR), .val (.int (if (0 : Int32) < n then (1 : Int32) else (0 : Int32))), .val (.int (1 : Int32)), .val (.int (if k1 < n then (1 : Int32) else (0 : Int32))), .val (.int (if k1 < n then (1 : Int32) else (0 : Int32))), .val (.int (if (k1 + k2) < n then (1 : Int32) else (0 : Int32))), .unset] [])) _
    refine XS.aload X16.here hx rfl (hb hby at_178) rfl rfl ?_
    show Steps p.tables e below (T16.setTop (mkF m 180 #[.val (.int p1), .val (.int p2), .val (.int p3), .val (.int n), .val (.int k1), .val (.int k2), .val (.ref bA), .val (.ref bR), .val (.int (if (0 : Int32) < n then (1 : Int32) else (0 : Int32))), .val (.int (1 : Int32)), .val (.int (if k1 < n then (1 : Int32) else (0 : Int32))), .val (.int (if k1 < n then (1 : Int32) else (0 : Int32))), .val (.int (if (k1 + k2) < n then (1 : Int32) else (0 : Int32))), .unset] [(.ref bR)])) _
    refine st19.trans ?_
    show Steps p.tables e below (T19.setTop (mkF m 183 #[.val (.int p1), .val (.int p2), .val (.int p3), .val (.int n), .val (.int k1), .val (.int k2), .val (.ref bA), .val (.ref bR), .val (.int (if (0 : Int32) < n then (1 : Int32) else (0 : Int32))), .val (.int (1 : Int32)), .val (.int (if k1 < n then (1 : Int32) else (0 : Int32))), .val (.int (if k1 < n then (1 : Int32) else (0 : Int32))), .val (.int (if (k1 + k2) < n then (1 : Int32) else (0 : Int32))), .unset] [(.ref x19)])) _
    refine XS.pop X19.here hx rfl (hb hby at_183) rfl rfl ?_
    show Steps p.tables e below (T19.setTop (mkF m 184 #[.val (.int p1), .val (.int p2), .val (.int p3), .val (.int n), .val (.int k1), .val (.int k2), .val (.ref bA), .val (.ref bR), .val (.int (if (0 : Int32) < n then (1 : Int32) else (0 : Int32))), .val (.int (1 : Int32)), .val (.int (if k1 < n then (1 : Int32) else (0 : Int32))), .val (.int (if k1 < n then (1 : Int32) else (0 : Int32))), .val (.int (if (k1 + k2) < n then (1 : Int32) else (0 : Int32))), .unset] [])) _
    refine XS.aload X19.here hx rfl (hb hby at_184) rfl rfl ?_
    show Steps p.tables e below (T19.setTop (mkF m 186 #[.val (.int p1), .val (.int p2), .val (.int p3), .val (.int n), .val (.int k1), .val (.int k2), .val (.ref bA), .val (.ref bR), .val (.int (if (0 : Int32) < n then (1 : Int32) else (0 : Int32))), .val (.int (1 : Int32)), .val (.int (if k1 < n then (1 : Int32) else (0 : Int32))), .val (.int (if k1 < n then (1 : Int32) else (0 : Int32))), .val (.int (if (k1 + k2) < n then (1 : Int32) else (0 : Int32))), .unset] [(.ref bR)])) _
    refine st20.trans ?_
    show Steps p.tables e below (T20.setTop (mkF m 189 #[.val (.int p1), .val (.int p2), .val (.int p3), .val (.int n), .val (.int k1), .val (.int k2), .val (.ref bA), .val (.ref bR), .val (.int (if (0 : Int32) < n then (1 : Int32) else (0 : Int32))), .val (.int (1 : Int32)), .val (.int (if k1 < n then (1 : Int32) else (0 : Int32))), .val (.int (if k1 < n then (1 : Int32) else (0 : Int32))), .val (.int (if (k1 + k2) < n then (1 : Int32) else (0 : Int32))), .unset] [(.int (if n < n then (1 : Int32) else (0 : Int32)))])) _
    refine XS.istore X20.here hx rfl (hb hby at_189) rfl (l' := #[.val (.int p1), .val (.int p2), .val (.int p3), .val (.int n), .val (.int k1), .val (.int k2), .val (.ref bA), .val (.ref bR), .val (.int (if (0 : Int32) < n then (1 : Int32) else (0 : Int32))), .val (.int (1 : Int32)), .val (.int (if k1 < n then (1 : Int32) else (0 : Int32))), .val (.int (if k1 < n then (1 : Int32) else (0 : Int32))), .val (.int (if (k1 + k2) < n then (1 : Int32) else (0 : Int32))), .val (.int (if n < n then (1 : Int32) else (0 : Int32)))]) rfl ?_
    show Steps p.tables e below (T20.setTop (mkF m 191 #[.val (.int p1), .val (.int p2), .val (.int p3), .val (.int n), .val (.int k1), .val (.int k2), .val (.ref bA), .val (.ref bR), .val (.int (if (0 : Int32) < n then (1 : Int32) else (0 : Int32))), .val (.int (1 : Int32)), .val (.int (if k1 < n then (1 : Int32) else (0 : Int32))), .val (.int (if k1 < n then (1 : Int32) else (0 : Int32))), .val (.int (if (k1 + k2) < n then (1 : Int32) else (0 : Int32))), .val (.int (if n < n then (1 : Int32) else (0 : Int32)))] [])) _
    refine XS.iload X20.here hx rfl (hb hby at_191) rfl ?_
    show Steps p.tables e below (T20.setTop (mkF m 193 #[.val (.int p1), .val (.int p2), .val (.int p3), .val (.int n), .val (.int k1), .val (.int k2), .val (.ref bA), .val (.ref bR), .val (.int (if (0 : Int32) < n then (1 : Int32) else (0 : Int32))), .val (.int (1 : Int32)), .val (.int (if k1 < n then (1 : Int32) else (0 : Int32))), .val (.int (if k1 < n then (1 : Int32) else (0 : Int32))), .val (.int (if (k1 + k2) < n then (1 : Int32) else (0 : Int32))), .val (.int (if n < n then (1 : Int32) else (0 : Int32)))] [(.int (1 : Int32))])) _
    refine XS.ifNo X20.here hx rfl (hb hby at_193) rfl ((if0 _ _).trans (feq (by decide : ¬ ((1 : Int32) = (0 : Int32)))).1) ?_
    show Steps p.tables e below (T20.setTop (mkF m 196 #[.val (.int p1), .val (.int p2), .val (.int p3), .val (.int n), .val (.int k1), .val (.int k2), .val (.ref bA), .val (.ref bR), .val (.int (if (0 : Int32) < n then (1 : Int32) else (0 : Int32))), .val (.int (1 : Int32)), .val (.int (if k1 < n then (1 : Int32) else (0 : Int32))), .val (.int (if k1 < n then (1 : Int32) else (0 : Int32))), .val (.int (if (k1 + k2) < n then (1 : Int32) else (0 : Int32))), .val (.int (if n < n then (1 : Int32) else (0 : Int32)))] [])) _
    refine XS.iload X20.here hx rfl (hb hby at_196) rfl ?_
    show Steps p.tables e below (T20.setTop (mkF m 198 #[.val (.int p1), .val (.int p2), .val (.int p3), .val (.int n), .val (.int k1), .val (.int k2), .val (.ref bA), .val (.ref bR), .val (.int (if (0 : Int32) < n then (1 : Int32) else (0 : Int32))), .val (.int (1 : Int32)), .val (.int (if k1 < n then (1 : Int32) else (0 : Int32))), .val (.int (if k1 < n then (1 : Int32) else (0 : Int32))), .val (.int (if (k1 + k2) < n then (1 : Int32) else (0 : Int32))), .val (.int (if n < n then (1 : Int32) else (0 : Int32)))] [(.int (if n < n then (1 : Int32) else (0 : Int32)))])) _
    refine XS.ifNo X20.here hx rfl (hb hby at_198) rfl ((if0 _ _).trans (teq (if_neg Int32.lt_irrefl : (if n < n then (1 : Int32) else (0 : Int32)) = (0 : Int32))).2) ?_
    show Steps p.tables e below (T20.setTop (mkF m 201 #[.val (.int p1), .val (.int p2), .val (.int p3), .val (.int n), .val (.int k1), .val (.int k2), .val (.ref bA), .val (.ref bR), .val (.int (if (0 : Int32) < n then (1 : Int32) else (0 : Int32))), .val (.int (1 : Int32)), .val (.int (if k1 < n then (1 : Int32) else (0 : Int32))), .val (.int (if k1 < n then (1 : Int32) else (0 : Int32))), .val (.int (if (k1 + k2) < n then (1 : Int32) else (0 : Int32))), .val (.int (if n < n then (1 : Int32) else (0 : Int32)))] [])) _
    refine XS.iconst X20.here hx rfl (hb hby at_201) ?_
    show Steps p.tables e below (T20.setTop (mkF m 202 #[.val (.int p1), .val (.int p2), .val (.int p3), .val (.int n), .val (.int k1), .val (.int k2), .val (.ref bA), .val (.ref bR), .val (.int (if (0 : Int32) < n then (1 : Int32) else (0 : Int32))), .val (.int (1 : Int32)), .val (.int (if k1 < n then (1 : Int32) else (0 : Int32))), .val (.int (if k1 < n then (1 : Int32) else (0 : Int32))), .val (.int (if (k1 + k2) < n then (1 : Int32) else (0 : Int32))), .val (.int (if n < n then (1 : Int32) else (0 : Int32)))] [(.int (1 : Int32))])) _
    refine XS.goto X20.here hx rfl (pc0 := 202) (pc' := 206) rfl (hb hby at_202) (by decide) (by decide) ?_
    show Steps p.tables e below (T20.setTop (mkF m 206 #[.val (.int p1), .val (.int p2), .val (.int p3), .val (.int n), .val (.int k1), .val (.int k2), .val (.ref bA), .val (.ref bR), .val (.int (if (0 : Int32) < n then (1 : Int32) else (0 : Int32))), .val (.int (1 : Int32)), .val (.int (if k1 < n then (1 : Int32) else (0 : Int32))), .val (.int (if k1 < n then (1 : Int32) else (0 : Int32))), .val (.int (if (k1 + k2) < n then (1 : Int32) else (0 : Int32))), .val (.int (if n < n then (1 : Int32) else (0 : Int32)))] [(.int (1 : Int32))])) _
    refine XS.istore X20.here hx rfl (hb hby at_206) rfl (l' := #[.val (.int p1), .val (.int p2), .val (.int p3), .val (.int n), .val (.int k1), .val (.int k2), .val (.ref bA), .val (.ref bR), .val (.int (if (0 : Int32) < n then (1 : Int32) else (0 : Int32))), .val (.int (1 : Int32)), .val (.int (if k1 < n then (1 : Int32) else (0 : Int32))), .val (.int (if k1 < n then (1 : Int32) else (0 : Int32))), .val (.int (if (k1 + k2) < n then (1 : Int32) else (0 : Int32))), .val (.int (if n < n then (1 : Int32) else (0 : Int32)))]) rfl ?_
    show Steps p.tables e below (T20.setTop (mkF m 208 #[.val (.int p1), .val (.int p2), .val (.int p3), .val (.int n), .val (.int k1), .val (.int k2), .val (.ref bA), .val (.ref bR), .val (.int (if (0 : Int32) < n then (1 : Int32) else (0 : Int32))), .val (.int (1 : Int32)), .val (.int (if k1 < n then (1 : Int32) else (0 : Int32))), .val (.int (if k1 < n then (1 : Int32) else (0 : Int32))), .val (.int (if (k1 + k2) < n then (1 : Int32) else (0 : Int32))), .val (.int (if n < n then (1 : Int32) else (0 : Int32)))] [])) _
    refine XS.iload X20.here hx rfl (hb hby at_208) rfl ?_
    show Steps p.tables e below (T20.setTop (mkF m 210 #[.val (.int p1), .val (.int p2), .val (.int p3), .val (.int n), .val (.int k1), .val (.int k2), .val (.ref bA), .val (.ref bR), .val (.int (if (0 : Int32) < n then (1 : Int32) else (0 : Int32))), .val (.int (1 : Int32)), .val (.int (if k1 < n then (1 : Int32) else (0 : Int32))), .val (.int (if k1 < n then (1 : Int32) else (0 : Int32))), .val (.int (if (k1 + k2) < n then (1 : Int32) else (0 : Int32))), .val (.int (if n < n then (1 : Int32) else (0 : Int32)))] [(.int (1 : Int32))])) _
    exact retN X20 hx (t := .boolean) Bd.returns (by simp) (hb hby at_210) hr
  · show Q0 Z  h0 n0 _ T20.heap _
    exact ⟨rfl, N20⟩

set_option maxRecDepth 65536 in
set_option maxHeartbeats 40000000 in
theorem comes_1 {Post : Tables → Env → Array Value → State → Outcome → State → Prop} (hpost : ∀ tb e args s v u, (limb_1_1.after args s (.returned v) u = true ∧ limb_1_2.after args s (.returned v) u = true ∧ True) → FrameEnd s (.returned v) u (Jvm.fieldLocs frame_1_writes args s ++ Jvm.arrayLocs frame_1_arrays args s ++ Jvm.staticLocs frame_1_statics s) 24 128 → Post tb e args s (.returned v) u) :
    ArmFor flags0 classFile x code maxLocals ret World_1 tables_1 room_1 Calls_1 rest_1 Pre_1 Post := by
  intro l hfl _ _ p e ha hc hk s m args below hf hA hF happ hP
  obtain ⟨hcalls, hrest, hpre⟩ := hP
  obtain ⟨-, -, -, hnamed, -, -, -, hat⟩ := (Spec.applies_iff hf).mp happ
  obtain ⟨hg, hn⟩ := and_e (Cond.before_iff.mp (show (Jvm.Cond.and given_1 narrow_1).before args s = true from hpre))
  obtain ⟨gc, r0⟩ := and_e hg
  obtain ⟨k0, r1⟩ := and_e r0
  obtain ⟨k1, r2⟩ := and_e r1
  have k2 := r2
  obtain ⟨w0, w1, w2, rfl⟩ : ∃ w0 w1 w2 : Value, args = #[w0, w1, w2] := by
    have hs : args.size = 3 := by simpa [Cond.value, given_1] using gc
    obtain ⟨L⟩ := args
    match L, hs with
    | [w0, w1, w2], _ => exact ⟨w0, w1, w2, rfl⟩
  have hw := fun d (hd : d ∈ tables_1) => atoms_spec (ws := Jvm.Cond.code x code maxLocals ret :: tables_1) hat d (List.mem_cons_of_mem _ hd)
  obtain ⟨i0, ei0⟩ := is_v k0
  obtain rfl : w0 = (.int i0) := Option.some.inj ei0
  obtain ⟨i1, ei1⟩ := is_v k1
  obtain rfl : w1 = (.int i1) := Option.some.inj ei1
  obtain ⟨i2, ei2⟩ := is_v k2
  obtain rfl : w2 = (.int i2) := Option.some.inj ei2
  obtain ⟨n, o, h1, h2, h3, _, L, rfl, ⟨rfl, N⟩, hq⟩ := rm0 l s _ hw tables_1 i0 i1 i2 s.heap s.heap.size (Nat.le_refl _) p e ha hc hk s m _ below hf ((Spec.applies_iff_loose hf).mp happ).1 ⟨rfl, State.Warmed39.refl s, rfl⟩ trivial
  refine ⟨n, _, h1, h2, h3, hpost _ _ _ _ _ _ ⟨Cond.after_iff.mpr rfl, Cond.after_iff.mpr (eq_i res_at (Term.int_eval (1)) rfl), trivial⟩ ⟨hq.1, hq.2.1, (hq.2.2.sift fun y hy => Or.inr (N y hy)).mono (by decide) (by decide)⟩⟩
theorem main_1_1 : Claimed_1_1 := comes_1 fun _ _ _ _ _ _ h hF => ⟨h.1, hF⟩
theorem main_1_2 : Claimed_1_2 := comes_1 fun _ _ _ _ _ _ h hF => ⟨h.2.1, hF⟩

end Jvm.Pilot.@@N@@
namespace Jvm.Pilot.@@N@@
open Jvm Jvm.ClassFile Sem Op Lib Jvm.Free Jvm.Stand Jvm.Pilot.@@N@@.Jvm.D
/-! MADE BY PROGRAM (witnessworld.py) out of the Statement's table words and the real class files: 12 classes; the members and pool entries that the words name. The judged class is class 1, her method 2. -/
namespace start1
open Jvm.ClassFile
def u (s : String) : CpInfo := .utf8 (stringToUtf16 s)
/-- a pool by its gaps: so many unusable entries, then the entry; so many at the end -/
def gap : Nat → List CpInfo → List CpInfo
  | 0, r => r
  | n + 1, r => .unusable :: gap n r
def poolList (es : List (Nat × CpInfo)) (last : Nat) : List CpInfo := es.foldr (fun e r => gap e.1 (e.2 :: r)) (gap last [])
def pool (es : List (Nat × CpInfo)) (last : Nat) : Array CpInfo := ⟨poolList es last⟩
def fileOf (pool : Array CpInfo) (this : Nat) (attrs : Array Attribute := #[]) (ms : Array MethodInfo := #[]) (fl : Nat := 33) (sup : Nat := 0) (ifs : Array Nat := #[]) (fds : Array FieldInfo := #[]) : ClassFile where
  minorVersion := 0
  majorVersion := 65
  constantPool := pool
  accessFlags := fl
  thisClass := this
  superClass := sup
  interfaces := ifs
  fields := fds
  methods := ms
  attributes := attrs
def plain (name : String) (sup : Option ClassId) : Class where
  name := name
  kind := .ordinary
  loader := none
  accessFlags := 33
  super := sup
  interfaces := #[]
  cf := none
  fields := #[]
  methods := #[]
  instanceTypes := #[]
  staticTypes := #[]
  resolved := #[]
  callSites := []
  init := .initialized
  statics := none
  mirror := none

def pool0 : Array CpInfo := pool [(5, u "<init>"), (0, u "()V"), (1, .class_ 10), (1, u "java/lang/Object"), (85, u "clone"), (0, u "()Ljava/lang/Object;")] 26

def k0c0 : Code := { maxStack := 0, maxLocals := 1, code := object_method_1_code, exceptionTable := #[], attributes := #[] }
def k0m0 : Method := { name := "<init>", desc := "()V", sig := { parameters := [], returnType := none }, accessFlags := 1, code := some k0c0 }
def k0m1 : Method := { name := "clone", desc := "()Ljava/lang/Object;", sig := { parameters := [], returnType := some (.object "java/lang/Object") }, accessFlags := 260, code := none }
/-- java/lang/Object -/
def k0 : Class := { plain "java/lang/Object" none with
  accessFlags := 33
  interfaces := #[]
  cf := some (fileOf pool0 8 #[] #[{ accessFlags := 1, nameIndex := 5, descriptorIndex := 6, attributes := #[] }, { accessFlags := 260, nameIndex := 96, descriptorIndex := 97, attributes := #[] }] 33 0 #[] #[])
  fields := #[]
  methods := #[k0m0, k0m1]
  instanceTypes := #[]
  staticTypes := #[]
  resolved := Array.replicate 124 none
  statics := none }

def pool1 : Array CpInfo := pool [(2, .class_ 4), (1, u "java/lang/Object"), (0, u "<init>"), (0, u "()V"), (0, .integer 2147483647), (0, .methodref 9 10), (0, .class_ 11), (0, .nameAndType 12 13), (0, u "com/example/quillon/quillon/tlv/TlvReaderHasRemainingPinLaw"), (0, u "make"), (0, u "(I)[B"), (0, .class_ 15), (0, u "com/example/quillon/quillon/tlv/TlvReader"), (0, .methodref 14 17), (0, .nameAndType 5 18), (0, u "([B)V"), (0, .methodref 14 20), (0, .nameAndType 21 22), (0, u "hasRemaining"), (0, u "()Z"), (0, .methodref 14 24), (0, .nameAndType 25 13), (0, u "bytes"), (0, .methodref 14 27), (0, .nameAndType 28 29), (0, u "rest"), (0, u "()[B"), (3, u "law"), (0, u "(III)Z")] 7

def k1m0 : Method := { name := "<init>", desc := "()V", sig := { parameters := [], returnType := none }, accessFlags := 2, code := none }
def k1c1 : Code := { maxStack := 2, maxLocals := 1, code := method_2_code, exceptionTable := #[], attributes := #[] }
def k1m1 : Method := { name := "make", desc := "(I)[B", sig := { parameters := [.int], returnType := some (.array .byte) }, accessFlags := 10, code := some k1c1 }
def k1c2 : Code := { maxStack := 3, maxLocals := 14, code := code, exceptionTable := #[], attributes := #[] }
def k1m2 : Method := { name := "law", desc := "(III)Z", sig := { parameters := [.int, .int, .int], returnType := some .boolean }, accessFlags := 9, code := some k1c2 }
/-- com/example/quillon/quillon/tlv/TlvReaderHasRemainingPinLaw -/
def k1 : Class := { plain "com/example/quillon/quillon/tlv/TlvReaderHasRemainingPinLaw" (some 0) with
  accessFlags := 49
  interfaces := #[]
  cf := some (fileOf pool1 9 #[] #[{ accessFlags := 2, nameIndex := 5, descriptorIndex := 6, attributes := #[] }, { accessFlags := 10, nameIndex := 12, descriptorIndex := 13, attributes := #[] }, { accessFlags := 9, nameIndex := 33, descriptorIndex := 34, attributes := #[] }] 49 2 #[] #[])
  fields := #[]
  methods := #[k1m0, k1m1, k1m2]
  instanceTypes := #[]
  staticTypes := #[]
  resolved := Array.replicate 42 none
  statics := none }

def pool2 : Array CpInfo := pool [(1, .methodref 2 3), (0, .class_ 4), (0, .nameAndType 5 6), (0, u "java/lang/Object"), (0, u "<init>"), (0, u "()V"), (0, .fieldref 8 9), (0, .class_ 10), (0, .nameAndType 11 12), (0, u "com/example/quillon/quillon/tlv/TlvReader"), (0, u "bytes"), (0, u "[B"), (0, .fieldref 8 14), (0, .nameAndType 15 16), (0, u "position"), (0, u "I"), (0, .methodref 8 18), (0, .nameAndType 19 20), (0, u "take"), (0, u "(I)[B"), (4, .methodref 26 27), (0, .class_ 28), (0, .nameAndType 29 30), (0, u "java/util/Arrays"), (0, u "copyOfRange"), (0, u "([BII)[B"), (33, u "hasRemaining"), (0, u "()Z"), (10, u "([B)V"), (7, u "rest"), (0, u "()[B")] 22

def k2c0 : Code := { maxStack := 2, maxLocals := 2, code := prog_36_method_1_code, exceptionTable := #[], attributes := #[] }
def k2m0 : Method := { name := "<init>", desc := "([B)V", sig := { parameters := [(.array .byte)], returnType := none }, accessFlags := 1, code := some k2c0 }
def k2c1 : Code := { maxStack := 2, maxLocals := 1, code := prog_36_method_2_code, exceptionTable := #[], attributes := #[] }
def k2m1 : Method := { name := "hasRemaining", desc := "()Z", sig := { parameters := [], returnType := some .boolean }, accessFlags := 1, code := some k2c1 }
def k2c2 : Code := { maxStack := 2, maxLocals := 2, code := prog_36_method_6_code, exceptionTable := #[], attributes := #[] }
def k2m2 : Method := { name := "bytes", desc := "(I)[B", sig := { parameters := [.int], returnType := some (.array .byte) }, accessFlags := 1, code := some k2c2 }
def k2c3 : Code := { maxStack := 3, maxLocals := 2, code := prog_36_method_7_code, exceptionTable := #[], attributes := #[] }
def k2m3 : Method := { name := "rest", desc := "()[B", sig := { parameters := [], returnType := some (.array .byte) }, accessFlags := 1, code := some k2c3 }
def k2c4 : Code := { maxStack := 6, maxLocals := 3, code := prog_36_method_12_code, exceptionTable := #[], attributes := #[] }
def k2m4 : Method := { name := "take", desc := "(I)[B", sig := { parameters := [.int], returnType := some (.array .byte) }, accessFlags := 2, code := some k2c4 }
/-- com/example/quillon/quillon/tlv/TlvReader -/
def k2 : Class := { plain "com/example/quillon/quillon/tlv/TlvReader" (some 0) with
  accessFlags := 49
  interfaces := #[]
  cf := some (fileOf pool2 8 #[] #[{ accessFlags := 1, nameIndex := 5, descriptorIndex := 76, attributes := #[] }, { accessFlags := 1, nameIndex := 64, descriptorIndex := 65, attributes := #[] }, { accessFlags := 1, nameIndex := 11, descriptorIndex := 20, attributes := #[] }, { accessFlags := 1, nameIndex := 84, descriptorIndex := 85, attributes := #[] }, { accessFlags := 2, nameIndex := 19, descriptorIndex := 20, attributes := #[] }] 49 2 #[] #[{ accessFlags := 18, nameIndex := 11, descriptorIndex := 12, attributes := #[] }, { accessFlags := 2, nameIndex := 15, descriptorIndex := 16, attributes := #[] }])
  fields := #[{ name := "bytes", type := (.array .byte), accessFlags := 18, slot := 0, constantValue := 0 }, { name := "position", type := .int, accessFlags := 2, slot := 1, constantValue := 0 }]
  methods := #[k2m0, k2m1, k2m2, k2m3, k2m4]
  instanceTypes := #[(.array .byte), .int]
  staticTypes := #[]
  resolved := Array.replicate 108 none
  statics := none }

def pool3 : Array CpInfo := pool [(2, .class_ 4), (1, u "java/lang/Object"), (0, u "<init>"), (0, u "()V"), (7, .class_ 16), (1, u "java/util/Arrays"), (57, .class_ 76), (1, u "java/util/Arrays$NaturalOrder"), (32, u "()Ljava/lang/Object;"), (3, .class_ 115), (1, u "java/util/Arrays$LegacyMergeSort"), (1, u "Z"), (10, .nameAndType 129 109), (0, u "clone"), (9, u "copyOfRange"), (10, .methodref 151 152), (0, .class_ 153), (0, .nameAndType 154 155), (0, u "java/lang/System"), (0, u "arraycopy"), (0, u "(Ljava/lang/Object;ILjava/lang/Object;II)V"), (148, .methodref 305 306), (0, .class_ 307), (0, .nameAndType 308 309), (0, u "java/lang/Math"), (0, u "min"), (0, u "(II)I"), (0, .methodref 311 128), (0, .class_ 312), (0, u "[B"), (26, .methodref 14 340), (0, .nameAndType 341 342), (0, u "copyOfRangeByte"), (0, u "([BII)[B"), (0, .methodref 14 344), (0, .nameAndType 345 346), (0, u "checkLength"), (0, u "(II)V"), (28, .class_ 376), (0, u "java/util/Arrays$ArrayList"), (68, u "$assertionsDisabled"), (269, u "MIN_ARRAY_SORT_GRAN"), (0, u "I"), (2, u "INSERTIONSORT_THRESHOLD"), (255, .class_ 976), (0, u "java/util/Arrays$ArrayItr")] 52

def k3m0 : Method := { name := "<init>", desc := "()V", sig := { parameters := [], returnType := none }, accessFlags := 2, code := none }
def k3c1 : Code := { maxStack := 4, maxLocals := 2, code := jdk_65_method_131_code, exceptionTable := #[], attributes := #[] }
def k3m1 : Method := { name := "checkLength", desc := "(II)V", sig := { parameters := [.int, .int], returnType := none }, accessFlags := 10, code := some k3c1 }
def k3c2 : Code := { maxStack := 3, maxLocals := 3, code := jdk_65_method_132_code, exceptionTable := #[], attributes := #[] }
def k3m2 : Method := { name := "copyOfRange", desc := "([BII)[B", sig := { parameters := [(.array .byte), .int, .int], returnType := some (.array .byte) }, accessFlags := 9, code := some k3c2 }
def k3c3 : Code := { maxStack := 6, maxLocals := 5, code := jdk_65_method_133_code, exceptionTable := #[], attributes := #[] }
def k3m3 : Method := { name := "copyOfRangeByte", desc := "([BII)[B", sig := { parameters := [(.array .byte), .int, .int], returnType := some (.array .byte) }, accessFlags := 10, code := some k3c3 }
/-- java/util/Arrays -/
def k3 : Class := { plain "java/util/Arrays" (some 0) with
  accessFlags := 49
  interfaces := #[]
  cf := some (fileOf pool3 14 #[.nestMembers #[975, 375, 113, 74]] #[{ accessFlags := 2, nameIndex := 5, descriptorIndex := 6, attributes := #[] }, { accessFlags := 10, nameIndex := 345, descriptorIndex := 346, attributes := #[] }, { accessFlags := 9, nameIndex := 139, descriptorIndex := 342, attributes := #[] }, { accessFlags := 10, nameIndex := 341, descriptorIndex := 342, attributes := #[] }] 49 2 #[] #[{ accessFlags := 26, nameIndex := 715, descriptorIndex := 716, attributes := #[] }, { accessFlags := 26, nameIndex := 719, descriptorIndex := 716, attributes := #[] }, { accessFlags := 4120, nameIndex := 445, descriptorIndex := 117, attributes := #[] }])
  fields := #[{ name := "MIN_ARRAY_SORT_GRAN", type := .int, accessFlags := 26, slot := 0, constantValue := 0 }, { name := "INSERTIONSORT_THRESHOLD", type := .int, accessFlags := 26, slot := 1, constantValue := 0 }, { name := "$assertionsDisabled", type := .boolean, accessFlags := 4120, slot := 2, constantValue := 0 }]
  methods := #[k3m0, k3m1, k3m2, k3m3]
  instanceTypes := #[]
  staticTypes := #[.int, .int, .boolean]
  resolved := Array.replicate 1029 none
  statics := none }

def pool4 : Array CpInfo := pool [(1, .class_ 2), (0, u "java/lang/Cloneable"), (0, .class_ 4), (0, u "java/lang/Object")] 2

/-- java/lang/Cloneable -/
def k4 : Class := { plain "java/lang/Cloneable" (some 0) with
  accessFlags := 1537
  interfaces := #[]
  cf := some (fileOf pool4 1 #[] #[] 1537 3 #[] #[])
  fields := #[]
  methods := #[]
  instanceTypes := #[]
  staticTypes := #[]
  resolved := Array.replicate 7 none
  statics := none }

def pool5 : Array CpInfo := pool [(1, .class_ 2), (0, u "java/lang/Math"), (1, .class_ 6), (1, u "java/lang/Object"), (0, u "<init>"), (0, u "()V"), (89, .class_ 100), (1, u "java/lang/Math$RandomNumberGeneratorHolder"), (71, u "negativeZeroFloatBits"), (0, u "J"), (2, u "negativeZeroDoubleBits"), (24, u "min"), (43, u "$assertionsDisabled"), (0, u "Z"), (88, u "(II)I"), (2, u "twoToTheDoubleScaleDown"), (0, u "D"), (4, u "twoToTheDoubleScaleUp"), (9, u "E"), (3, u "PI"), (2, u "TAU"), (2, u "DEGREES_TO_RADIANS"), (0, u "RADIANS_TO_DEGREES")] 94

def k5m0 : Method := { name := "<init>", desc := "()V", sig := { parameters := [], returnType := none }, accessFlags := 2, code := none }
def k5c1 : Code := { maxStack := 2, maxLocals := 2, code := jdk_29_method_69_code, exceptionTable := #[], attributes := #[] }
def k5m1 : Method := { name := "min", desc := "(II)I", sig := { parameters := [.int, .int], returnType := some .int }, accessFlags := 9, code := some k5c1 }
/-- java/lang/Math -/
def k5 : Class := { plain "java/lang/Math" (some 0) with
  accessFlags := 49
  interfaces := #[]
  cf := some (fileOf pool5 1 #[.nestMembers #[98]] #[{ accessFlags := 2, nameIndex := 7, descriptorIndex := 8, attributes := #[] }, { accessFlags := 9, nameIndex := 201, descriptorIndex := 335, attributes := #[] }] 49 4 #[] #[{ accessFlags := 25, nameIndex := 354, descriptorIndex := 339, attributes := #[] }, { accessFlags := 25, nameIndex := 358, descriptorIndex := 339, attributes := #[] }, { accessFlags := 25, nameIndex := 361, descriptorIndex := 339, attributes := #[] }, { accessFlags := 26, nameIndex := 364, descriptorIndex := 339, attributes := #[] }, { accessFlags := 26, nameIndex := 365, descriptorIndex := 339, attributes := #[] }, { accessFlags := 26, nameIndex := 172, descriptorIndex := 173, attributes := #[] }, { accessFlags := 26, nameIndex := 176, descriptorIndex := 173, attributes := #[] }, { accessFlags := 8, nameIndex := 344, descriptorIndex := 339, attributes := #[] }, { accessFlags := 8, nameIndex := 338, descriptorIndex := 339, attributes := #[] }, { accessFlags := 4120, nameIndex := 245, descriptorIndex := 246, attributes := #[] }])
  fields := #[{ name := "E", type := .double, accessFlags := 25, slot := 0, constantValue := 0 }, { name := "PI", type := .double, accessFlags := 25, slot := 1, constantValue := 0 }, { name := "TAU", type := .double, accessFlags := 25, slot := 2, constantValue := 0 }, { name := "DEGREES_TO_RADIANS", type := .double, accessFlags := 26, slot := 3, constantValue := 0 }, { name := "RADIANS_TO_DEGREES", type := .double, accessFlags := 26, slot := 4, constantValue := 0 }, { name := "negativeZeroFloatBits", type := .long, accessFlags := 26, slot := 5, constantValue := 0 }, { name := "negativeZeroDoubleBits", type := .long, accessFlags := 26, slot := 6, constantValue := 0 }, { name := "twoToTheDoubleScaleUp", type := .double, accessFlags := 8, slot := 7, constantValue := 0 }, { name := "twoToTheDoubleScaleDown", type := .double, accessFlags := 8, slot := 8, constantValue := 0 }, { name := "$assertionsDisabled", type := .boolean, accessFlags := 4120, slot := 9, constantValue := 0 }]
  methods := #[k5m0, k5m1]
  instanceTypes := #[]
  staticTypes := #[.double, .double, .double, .double, .double, .long, .long, .double, .double, .boolean]
  resolved := Array.replicate 460 none
  statics := none }

def pool6 : Array CpInfo := pool [(2, .class_ 4), (1, u "java/lang/Object"), (0, u "<init>"), (0, u "()V"), (1, .class_ 10), (1, u "java/lang/System"), (0, u "allowSecurityManager"), (0, u "I"), (16, u "cons"), (0, u "Ljava/io/Console;"), (77, .class_ 110), (1, u "java/lang/System$CallersHolder"), (43, u "initialErrStream"), (0, u "Ljava/io/PrintStream;"), (19, u "security"), (0, u "Ljava/lang/SecurityManager;"), (31, .class_ 209), (0, u "java/lang/System$1"), (7, u "props"), (0, u "Ljava/util/Properties;"), (2, u "lineSeparator"), (0, u "Ljava/lang/String;"), (96, .class_ 321), (1, u "java/lang/System$LoggerFinder"), (5, .class_ 328), (0, u "java/lang/System$Logger"), (67, u "err"), (2, u "out"), (91, u "notSupportedJnuEncoding"), (15, u "in"), (17, u "initialIn"), (0, u "Ljava/io/InputStream;"), (35, u "bootLayer"), (0, u "Ljava/lang/ModuleLayer;"), (99, .class_ 664), (0, u "java/lang/System$2"), (9, u "NEVER"), (2, u "MAYBE"), (49, u "arraycopy"), (0, u "(Ljava/lang/Object;ILjava/lang/Object;II)V"), (72, .class_ 802), (0, u "java/lang/System$Logger$Level")] 31

def k6m0 : Method := { name := "<init>", desc := "()V", sig := { parameters := [], returnType := none }, accessFlags := 2, code := none }
def k6m1 : Method := { name := "arraycopy", desc := "(Ljava/lang/Object;ILjava/lang/Object;II)V", sig := { parameters := [(.object "java/lang/Object"), .int, (.object "java/lang/Object"), .int, .int], returnType := none }, accessFlags := 265, code := none }
/-- java/lang/System -/
def k6 : Class := { plain "java/lang/System" (some 0) with
  accessFlags := 49
  interfaces := #[]
  cf := some (fileOf pool6 8 #[.nestMembers #[319, 327, 801, 108, 663, 208]] #[{ accessFlags := 2, nameIndex := 5, descriptorIndex := 6, attributes := #[] }, { accessFlags := 265, nameIndex := 727, descriptorIndex := 728, attributes := #[] }] 49 2 #[] #[{ accessFlags := 25, nameIndex := 507, descriptorIndex := 526, attributes := #[] }, { accessFlags := 25, nameIndex := 399, descriptorIndex := 155, attributes := #[] }, { accessFlags := 25, nameIndex := 396, descriptorIndex := 155, attributes := #[] }, { accessFlags := 10, nameIndex := 525, descriptorIndex := 526, attributes := #[] }, { accessFlags := 26, nameIndex := 674, descriptorIndex := 12, attributes := #[] }, { accessFlags := 26, nameIndex := 677, descriptorIndex := 12, attributes := #[] }, { accessFlags := 10, nameIndex := 11, descriptorIndex := 12, attributes := #[] }, { accessFlags := 74, nameIndex := 175, descriptorIndex := 176, attributes := #[] }, { accessFlags := 10, nameIndex := 491, descriptorIndex := 222, attributes := #[] }, { accessFlags := 74, nameIndex := 29, descriptorIndex := 30, attributes := #[] }, { accessFlags := 74, nameIndex := 154, descriptorIndex := 155, attributes := #[] }, { accessFlags := 10, nameIndex := 217, descriptorIndex := 218, attributes := #[] }, { accessFlags := 10, nameIndex := 221, descriptorIndex := 222, attributes := #[] }, { accessFlags := 8, nameIndex := 562, descriptorIndex := 563, attributes := #[] }])
  fields := #[{ name := "in", type := (.object "java/io/InputStream"), accessFlags := 25, slot := 0, constantValue := 0 }, { name := "out", type := (.object "java/io/PrintStream"), accessFlags := 25, slot := 1, constantValue := 0 }, { name := "err", type := (.object "java/io/PrintStream"), accessFlags := 25, slot := 2, constantValue := 0 }, { name := "initialIn", type := (.object "java/io/InputStream"), accessFlags := 10, slot := 3, constantValue := 0 }, { name := "NEVER", type := .int, accessFlags := 26, slot := 4, constantValue := 0 }, { name := "MAYBE", type := .int, accessFlags := 26, slot := 5, constantValue := 0 }, { name := "allowSecurityManager", type := .int, accessFlags := 10, slot := 6, constantValue := 0 }, { name := "security", type := (.object "java/lang/SecurityManager"), accessFlags := 74, slot := 7, constantValue := 0 }, { name := "notSupportedJnuEncoding", type := (.object "java/lang/String"), accessFlags := 10, slot := 8, constantValue := 0 }, { name := "cons", type := (.object "java/io/Console"), accessFlags := 74, slot := 9, constantValue := 0 }, { name := "initialErrStream", type := (.object "java/io/PrintStream"), accessFlags := 74, slot := 10, constantValue := 0 }, { name := "props", type := (.object "java/util/Properties"), accessFlags := 10, slot := 11, constantValue := 0 }, { name := "lineSeparator", type := (.object "java/lang/String"), accessFlags := 10, slot := 12, constantValue := 0 }, { name := "bootLayer", type := (.object "java/lang/ModuleLayer"), accessFlags := 8, slot := 13, constantValue := 0 }]
  methods := #[k6m0, k6m1]
  instanceTypes := #[]
  staticTypes := #[(.object "java/io/InputStream"), (.object "java/io/PrintStream"), (.object "java/io/PrintStream"), (.object "java/io/InputStream"), .int, .int, .int, (.object "java/lang/SecurityManager"), (.object "java/lang/String"), (.object "java/io/Console"), (.object "java/io/PrintStream"), (.object "java/util/Properties"), (.object "java/lang/String"), (.object "java/lang/ModuleLayer")]
  resolved := Array.replicate 834 none
  statics := none }

def pool7 : Array CpInfo := pool [(1, u "java/io/Serializable"), (0, .class_ 1), (0, u "java/lang/Object"), (0, .class_ 3)] 3

/-- java/io/Serializable -/
def k7 : Class := { plain "java/io/Serializable" (some 0) with
  accessFlags := 1537
  interfaces := #[]
  cf := some (fileOf pool7 2 #[] #[] 1537 4 #[] #[])
  fields := #[]
  methods := #[]
  instanceTypes := #[]
  staticTypes := #[]
  resolved := Array.replicate 8 none
  statics := none }

/-- the primitive byte -/
def k8 : Class := { plain "byte" none with kind := .primitive 'B', accessFlags := 0x411 }
/-- [B -/
def k9 : Class := { plain "[B" (some 0) with kind := .array 8 .byte, interfaces := #[4, 7], accessFlags := 1041 }

/-- the primitive int -/
def k10 : Class := { plain "int" none with kind := .primitive 'I', accessFlags := 0x411 }
/-- [I -/
def k11 : Class := { plain "[I" (some 0) with kind := .array 10 .int, interfaces := #[4, 7], accessFlags := 1041 }

def heap : Heap := #[]
def classes : Array Class := #[k0, k1, k2, k3, k4, k5, k6, k7, k8, k9, k10, k11]
def interned : List (Array UInt16 × Addr) := []
def slotsUsed : Nat := 0
def theMethod : MethodId := ⟨1, 2⟩
def args0 : Array Value := #[.int 5, .int 300, .int 7]
def aboutOver (below : List Frame) : State where
  vm := { classes := classes, interned := interned.toArray }
  heap := heap
  slotsUsed := slotsUsed
  threads := #[{ frames := .invoking theMethod args0 :: below }]
def below0 : List Frame := [.native { method := ⟨0, 0⟩, args := #[] }]
def about1 : State := aboutOver below0
def p0 : Program := .bare "" "" ""
def e0 : Env := launch0.env 0 0 0
theorem w_frames : about1.frames = Frame.invoking theMethod args0 :: below0 := rfl
set_option maxRecDepth 65536 in
theorem w_args : argsFit about1.vm theMethod args0 = true := by decide +kernel
set_option maxRecDepth 65536 in
theorem w_heap : heapFits about1 = true := by decide +kernel
set_option maxRecDepth 65536 in
theorem w_runnable : about1.curStatus? = some .runnable := by decide +kernel
set_option maxRecDepth 65536 in
theorem w_alone : about1.alone = true := by decide +kernel
set_option maxRecDepth 65536 in
theorem w_named : about1.methodNamed? x = some theMethod := by decide +kernel
set_option maxRecDepth 65536 in
theorem w_hears : about1.hears theMethod below0 = true := by decide +kernel
set_option maxRecDepth 65536 in
theorem w_ripe : about1.ripe theMethod args0 below0 = true := by decide +kernel
theorem w_running : about1.status = .running := rfl
set_option maxRecDepth 65536 in
theorem w_room : about1.hasRoom e0.platform room_1 = true :=
  launch0.hasRoom_least _ room_1 (by decide +kernel) (by decide +kernel) (by decide +kernel) (by decide +kernel) (by decide +kernel) (by decide +kernel)
theorem allAtoms_all (ts : List Jvm.Cond) (a : Array Jvm.Value) (st : Jvm.State) : (allAtoms ts).before a st = ts.all (fun c => c.before a st) := by
  induction ts with
  | nil => rfl
  | cons c t ih =>
    show (Jvm.Cond.and c (allAtoms t)).before a st = _
    rw [Jvm.Cond.before_and, ih, List.all_cons]
def words1 : List Jvm.Cond := Jvm.Cond.code x code maxLocals ret :: tables_1
/-- a 'code' word, met by the world's own term for the bytes: nothing is compared byte by byte -/
theorem code_word {y : MethodName} {bytes : ByteArray} {mx : Nat} {rt : Option FieldType} {a : Array Value} {s : State} {m : MethodId} {meth : Method} {c : Code} (h1 : s.methodNamed? y = some m) (h2 : s.vm.method? m = some meth) (h3 : meth.code = some c) (h4 : c.code = bytes)
    (h5 : (c.maxLocals == mx && c.exceptionTable.isEmpty && decide (c.maxStack ≤ mostOperands) && decide (meth.sig.returnType = rt) && !meth.locks && decide (parseMethodDescriptor y.desc = some meth.sig)) = true) : (Jvm.Cond.code y bytes mx rt).before a s = true := by
  simp only [Bool.and_eq_true, beq_iff_eq, Bool.not_eq_true', decide_eq_true_eq] at h5
  obtain ⟨⟨⟨⟨⟨g1, g2⟩, g3⟩, g4⟩, g5⟩, g6⟩ := h5
  simp [Cond.before, Cond.holds, Cond.value, h1, h2, h3, h4, g1, g2, g3, g4, g5, g6]
def isCode : Jvm.Cond → Bool
  | .code _ _ _ _ => true
  | _ => false
theorem all_split {L : List Jvm.Cond} {P : Jvm.Cond → Bool} (h1 : L.all (fun c => isCode c || P c) = true) (h2 : ∀ c ∈ L.filter isCode, P c = true) : L.all P = true := by
  refine List.all_eq_true.mpr fun c hc => ?_
  have h := List.all_eq_true.mp h1 c hc
  rcases Bool.eq_false_or_eq_true (isCode c) with hi | hi
  · exact h2 c (List.mem_filter.mpr ⟨hc, hi⟩)
  · simpa [hi] using h
set_option maxRecDepth 65536 in
theorem w_c0 : (Jvm.Cond.code x code maxLocals ret).before args0 about1 = true := code_word (m := ⟨1, 2⟩) (meth := k1m2) (c := k1c2) (by decide +kernel) rfl rfl rfl (by decide +kernel)
set_option maxRecDepth 65536 in
theorem w_c1 : (Jvm.Cond.code ({ cls := "com/example/quillon/quillon/tlv/TlvReaderHasRemainingPinLaw", name := "make", desc := "(I)[B" } : Jvm.MethodName) method_2_code (1 : Nat) (Option.some (Jvm.ClassFile.FieldType.array Jvm.ClassFile.FieldType.byte))).before args0 about1 = true := code_word (m := ⟨1, 1⟩) (meth := k1m1) (c := k1c1) (by decide +kernel) rfl rfl rfl (by decide +kernel)
set_option maxRecDepth 65536 in
theorem w_c2 : (Jvm.Cond.code ({ cls := "com/example/quillon/quillon/tlv/TlvReader", name := "<init>", desc := "([B)V" } : Jvm.MethodName) prog_36_method_1_code (2 : Nat) (Option.none : Option Jvm.ClassFile.FieldType)).before args0 about1 = true := code_word (m := ⟨2, 0⟩) (meth := k2m0) (c := k2c0) (by decide +kernel) rfl rfl rfl (by decide +kernel)
set_option maxRecDepth 65536 in
theorem w_c3 : (Jvm.Cond.code ({ cls := "java/lang/Object", name := "<init>", desc := "()V" } : Jvm.MethodName) object_method_1_code (1 : Nat) (Option.none : Option Jvm.ClassFile.FieldType)).before args0 about1 = true := code_word (m := ⟨0, 0⟩) (meth := k0m0) (c := k0c0) (by decide +kernel) rfl rfl rfl (by decide +kernel)
set_option maxRecDepth 65536 in
theorem w_c4 : (Jvm.Cond.code ({ cls := "com/example/quillon/quillon/tlv/TlvReader", name := "hasRemaining", desc := "()Z" } : Jvm.MethodName) prog_36_method_2_code (1 : Nat) (Option.some Jvm.ClassFile.FieldType.boolean)).before args0 about1 = true := code_word (m := ⟨2, 1⟩) (meth := k2m1) (c := k2c1) (by decide +kernel) rfl rfl rfl (by decide +kernel)
set_option maxRecDepth 65536 in
theorem w_c5 : (Jvm.Cond.code ({ cls := "com/example/quillon/quillon/tlv/TlvReader", name := "bytes", desc := "(I)[B" } : Jvm.MethodName) prog_36_method_6_code (2 : Nat) (Option.some (Jvm.ClassFile.FieldType.array Jvm.ClassFile.FieldType.byte))).before args0 about1 = true := code_word (m := ⟨2, 2⟩) (meth := k2m2) (c := k2c2) (by decide +kernel) rfl rfl rfl (by decide +kernel)
set_option maxRecDepth 65536 in
theorem w_c6 : (Jvm.Cond.code ({ cls := "com/example/quillon/quillon/tlv/TlvReader", name := "take", desc := "(I)[B" } : Jvm.MethodName) prog_36_method_12_code (3 : Nat) (Option.some (Jvm.ClassFile.FieldType.array Jvm.ClassFile.FieldType.byte))).before args0 about1 = true := code_word (m := ⟨2, 4⟩) (meth := k2m4) (c := k2c4) (by decide +kernel) rfl rfl rfl (by decide +kernel)
set_option maxRecDepth 65536 in
theorem w_c7 : (Jvm.Cond.code ({ cls := "java/util/Arrays", name := "copyOfRange", desc := "([BII)[B" } : Jvm.MethodName) jdk_65_method_132_code (3 : Nat) (Option.some (Jvm.ClassFile.FieldType.array Jvm.ClassFile.FieldType.byte))).before args0 about1 = true := code_word (m := ⟨3, 2⟩) (meth := k3m2) (c := k3c2) (by decide +kernel) rfl rfl rfl (by decide +kernel)
set_option maxRecDepth 65536 in
theorem w_c8 : (Jvm.Cond.code ({ cls := "com/example/quillon/quillon/tlv/TlvReader", name := "rest", desc := "()[B" } : Jvm.MethodName) prog_36_method_7_code (2 : Nat) (Option.some (Jvm.ClassFile.FieldType.array Jvm.ClassFile.FieldType.byte))).before args0 about1 = true := code_word (m := ⟨2, 3⟩) (meth := k2m3) (c := k2c3) (by decide +kernel) rfl rfl rfl (by decide +kernel)
set_option maxRecDepth 65536 in
theorem w_c9 : (Jvm.Cond.code ({ cls := "java/util/Arrays", name := "copyOfRangeByte", desc := "([BII)[B" } : Jvm.MethodName) jdk_65_method_133_code (5 : Nat) (Option.some (Jvm.ClassFile.FieldType.array Jvm.ClassFile.FieldType.byte))).before args0 about1 = true := code_word (m := ⟨3, 3⟩) (meth := k3m3) (c := k3c3) (by decide +kernel) rfl rfl rfl (by decide +kernel)
set_option maxRecDepth 65536 in
theorem w_c10 : (Jvm.Cond.code ({ cls := "java/util/Arrays", name := "checkLength", desc := "(II)V" } : Jvm.MethodName) jdk_65_method_131_code (2 : Nat) (Option.none : Option Jvm.ClassFile.FieldType)).before args0 about1 = true := code_word (m := ⟨3, 1⟩) (meth := k3m1) (c := k3c1) (by decide +kernel) rfl rfl rfl (by decide +kernel)
set_option maxRecDepth 65536 in
theorem w_c11 : (Jvm.Cond.code ({ cls := "java/lang/Math", name := "min", desc := "(II)I" } : Jvm.MethodName) jdk_29_method_69_code (2 : Nat) (Option.some Jvm.ClassFile.FieldType.int)).before args0 about1 = true := code_word (m := ⟨5, 1⟩) (meth := k5m1) (c := k5c1) (by decide +kernel) rfl rfl rfl (by decide +kernel)
def codes1 : List Jvm.Cond := [Jvm.Cond.code x code maxLocals ret, Jvm.Cond.code ({ cls := "com/example/quillon/quillon/tlv/TlvReaderHasRemainingPinLaw", name := "make", desc := "(I)[B" } : Jvm.MethodName) method_2_code (1 : Nat) (Option.some (Jvm.ClassFile.FieldType.array Jvm.ClassFile.FieldType.byte)), Jvm.Cond.code ({ cls := "com/example/quillon/quillon/tlv/TlvReader", name := "<init>", desc := "([B)V" } : Jvm.MethodName) prog_36_method_1_code (2 : Nat) (Option.none : Option Jvm.ClassFile.FieldType), Jvm.Cond.code ({ cls := "java/lang/Object", name := "<init>", desc := "()V" } : Jvm.MethodName) object_method_1_code (1 : Nat) (Option.none : Option Jvm.ClassFile.FieldType), Jvm.Cond.code ({ cls := "com/example/quillon/quillon/tlv/TlvReader", name := "hasRemaining", desc := "()Z" } : Jvm.MethodName) prog_36_method_2_code (1 : Nat) (Option.some Jvm.ClassFile.FieldType.boolean), Jvm.Cond.code ({ cls := "com/example/quillon/quillon/tlv/TlvReader", name := "bytes", desc := "(I)[B" } : Jvm.MethodName) prog_36_method_6_code (2 : Nat) (Option.some (Jvm.ClassFile.FieldType.array Jvm.ClassFile.FieldType.byte)), Jvm.Cond.code ({ cls := "com/example/quillon/quillon/tlv/TlvReader", name := "take", desc := "(I)[B" } : Jvm.MethodName) prog_36_method_12_code (3 : Nat) (Option.some (Jvm.ClassFile.FieldType.array Jvm.ClassFile.FieldType.byte)), Jvm.Cond.code ({ cls := "java/util/Arrays", name := "copyOfRange", desc := "([BII)[B" } : Jvm.MethodName) jdk_65_method_132_code (3 : Nat) (Option.some (Jvm.ClassFile.FieldType.array Jvm.ClassFile.FieldType.byte)), Jvm.Cond.code ({ cls := "com/example/quillon/quillon/tlv/TlvReader", name := "rest", desc := "()[B" } : Jvm.MethodName) prog_36_method_7_code (2 : Nat) (Option.some (Jvm.ClassFile.FieldType.array Jvm.ClassFile.FieldType.byte)), Jvm.Cond.code ({ cls := "java/util/Arrays", name := "copyOfRangeByte", desc := "([BII)[B" } : Jvm.MethodName) jdk_65_method_133_code (5 : Nat) (Option.some (Jvm.ClassFile.FieldType.array Jvm.ClassFile.FieldType.byte)), Jvm.Cond.code ({ cls := "java/util/Arrays", name := "checkLength", desc := "(II)V" } : Jvm.MethodName) jdk_65_method_131_code (2 : Nat) (Option.none : Option Jvm.ClassFile.FieldType), Jvm.Cond.code ({ cls := "java/lang/Math", name := "min", desc := "(II)I" } : Jvm.MethodName) jdk_29_method_69_code (2 : Nat) (Option.some Jvm.ClassFile.FieldType.int)]
set_option maxRecDepth 65536 in
theorem codes_eq : words1.filter isCode = codes1 := rfl
theorem w_codes : ∀ c ∈ words1.filter isCode, c.before args0 about1 = true := by
  rw [codes_eq]
  intro c hc
  simp only [codes1, List.mem_cons, List.not_mem_nil, or_false] at hc
  rcases hc with rfl | rfl | rfl | rfl | rfl | rfl | rfl | rfl | rfl | rfl | rfl | rfl
  · exact w_c0
  · exact w_c1
  · exact w_c2
  · exact w_c3
  · exact w_c4
  · exact w_c5
  · exact w_c6
  · exact w_c7
  · exact w_c8
  · exact w_c9
  · exact w_c10
  · exact w_c11
set_option maxRecDepth 65536 in
theorem w_t1 : (words1.take 24).all (fun c => isCode c || c.before args0 about1) = true := by decide +kernel
set_option maxRecDepth 65536 in
theorem w_t2 : ((words1.drop 24).take 24).all (fun c => isCode c || c.before args0 about1) = true := by decide +kernel
set_option maxRecDepth 65536 in
theorem w_t3 : ((words1.drop 24).drop 24).all (fun c => isCode c || c.before args0 about1) = true := by decide +kernel
theorem w_tables : (allAtoms (Jvm.Cond.code x code maxLocals ret :: tables_1)).before args0 about1 = true := by
  rw [allAtoms_all]
  show words1.all (fun c => c.before args0 about1) = true
  refine all_split ?_ w_codes
  rw [← List.take_append_drop 24 words1, List.all_append, w_t1, ← List.take_append_drop 24 (words1.drop 24), List.all_append, w_t2, w_t3]
  rfl
set_option maxRecDepth 65536 in
theorem w_case : (Jvm.Cond.and given_1 narrow_1).before args0 about1 = true := by decide +kernel
theorem w_applies : (headSpec (Jvm.Cond.code x code maxLocals ret :: tables_1) room_1).applies x e0.platform about1 = true :=
  (Spec.applies_iff w_frames).mpr ⟨w_running, w_runnable, w_alone, w_named, w_hears, w_ripe, w_room, w_tables⟩
theorem atStart : AtStart classFile x code maxLocals ret World_1 tables_1 room_1 Calls_1 rest_1 Pre_1 launch0 p0 e0 about1 theMethod args0 below0 :=
  ⟨lists_1, trivial, launch0.admits_env _ _ _, launch0.least_env, fairChoices_fair.cas, fairChoices_fair.clock, w_frames, w_args, w_heap, w_applies, trivial, trivial, w_case⟩
end start1
theorem witness_1 : WitnessClaimed_1 := ⟨start1.p0, start1.e0, start1.about1, start1.theMethod, start1.args0, start1.below0, start1.atStart⟩
end Jvm.Pilot.@@N@@
