import JvmDerived
import JvmDerived.Pilot.@@N@@Statement
import JvmDerived.Pilot.@@N@@Code
set_option linter.unusedVariables false
set_option linter.unusedSimpArgs false
namespace Jvm.RoadKit
open Sem ClassFile Op Lib Jvm.Stand Jvm.Free Jvm.LawKit
section New
variable {p : Program} {l : Launch} {e : Env} {R : Room} {s : State} {m : MethodId} {args : Array Value} {below : List Frame} {meth : Method} {c : Code} {T : State} {locs : List Loc} {cells slots : Nat}
theorem retI (X : Stand p l e R s m args below meth c T locs cells slots) (hx : p.tables.exec = Jvm.exec) {pc : Nat} {Ls : Array Slot} {z : Int32} {rest : List Value} (hret : meth.sig.returnType = some .int) (hd : decode c.code pc = .ok (.ireturn, 1)) {fs : List Frame}
    (hl : ∀ (f : JFrame) (acts : List Action), f.method = m → f.locked = none → f.entered = [] → (doReturn e (T.setTop f) acts (some (.int z))).1 = T.setFrames fs) : Steps p.tables e below (T.setTop (mkF m pc Ls (.int z :: rest))) (T.setFrames fs) := by
  have hm' : T.vm.method? m = some meth := X.method'
  have hn : narrow .int (.int z) = .int z := rfl
  show Steps p.tables e below (T.setTop { method := m, pc := pc, locals := Ls, stack := _ :: rest, locked := none }) _
  jvm_step X.here [X.here.top, hx, hd, hm', hret, hn]
  first | (intro acts; rw [hl _ acts rfl rfl rfl]) | rw [hl _ _ rfl rfl rfl]
  exact Steps.refl _
end New
end Jvm.RoadKit
namespace Jvm.Pilot.@@N@@
open Jvm Jvm.ClassFile Sem Op Lib Jvm.Free Jvm.Stand Jvm.LawKit Jvm.RoadKit Bundle Jvm.Pilot.@@N@@.Jvm.D
def QP (w : Option Value) (h0 : Heap) (n0 : Nat) (v : Option Value) (h : Heap) (L : List Loc) : Prop := v = w ∧ Fr n0 L ∧ h = h0
def QL (n0 : Nat) (v : Option Value) (h : Heap) (L : List Loc) : Prop := v = some (.int (1 : Int32)) ∧ Fr n0 L
theorem own_stJ {p : Program} {l : Launch} {e : Env} {R : Room} {s : State} {m : MethodId} {args : Array Value} {below : List Frame} {meth : Method} {c : Code} {T : State} {locs : List Loc} {cells slots : Nat} {Z : State} {h : Heap} {a : Addr} {k : ClassId} {z : Int32} {vs : List Value} {dv : Value} {n0 : Nat}
    (X : Stand p l e R s m args below meth c T locs cells slots) (hx : p.tables.exec = Jvm.exec) (hZ : Z.Warmed39 s.vm) (eT : T.heap = h) (V : Arv Z h a k .long z vs dv) {j : Int32} {x : Int64} (hj : ¬ j < 0 ∧ j < z) {i : Nat} (hi : j.toNatClampNeg = i) (hl : i < vs.length) (N : Fr n0 locs) (ga : n0 ≤ a) {g : JFrame} (hg : g.method = m) {rest : List Value} (hs : g.stack = .long x :: .int j :: .ref a :: rest) (hd : decode c.code g.pc = .ok (.lastore, 1)) :
    ∃ T' h' L', Stand p l e R s m args below meth c T' L' cells slots ∧ T'.heap = h' ∧ Fr n0 L' ∧ Wr h h' a j.toNatClampNeg (.long x) ∧ Arv Z h' a k .long z (vs.set i (.long x)) dv ∧ ∀ target, Steps p.tables e below (T'.setTop { g with pc := g.pc + 1, stack := rest }) target → Steps p.tables e below (T.setTop g) target := by
  obtain ⟨cl, A, q1, S, q3, H, G⟩ := V
  obtain ⟨T', h', X', e', W, st⟩ := stJ X hx hZ eT A (inb_of S hj) hg hs hd
  exact ⟨T', h', _, X', e', Fr.snoc X' N ga, W, Arv.set A q1 S q3 H G rfl W i hi hl, st⟩
theorem own_stI {p : Program} {l : Launch} {e : Env} {R : Room} {s : State} {m : MethodId} {args : Array Value} {below : List Frame} {meth : Method} {c : Code} {T : State} {locs : List Loc} {cells slots : Nat} {Z : State} {h : Heap} {a : Addr} {k : ClassId} {z : Int32} {vs : List Value} {dv : Value} {n0 : Nat}
    (X : Stand p l e R s m args below meth c T locs cells slots) (hx : p.tables.exec = Jvm.exec) (hZ : Z.Warmed39 s.vm) (eT : T.heap = h) (V : Arv Z h a k .int z vs dv) {j : Int32} {x : Int32} (hj : ¬ j < 0 ∧ j < z) {i : Nat} (hi : j.toNatClampNeg = i) (hl : i < vs.length) (N : Fr n0 locs) (ga : n0 ≤ a) {g : JFrame} (hg : g.method = m) {rest : List Value} (hs : g.stack = .int x :: .int j :: .ref a :: rest) (hd : decode c.code g.pc = .ok (.iastore, 1)) :
    ∃ T' h' L', Stand p l e R s m args below meth c T' L' cells slots ∧ T'.heap = h' ∧ Fr n0 L' ∧ Wr h h' a j.toNatClampNeg (.int x) ∧ Arv Z h' a k .int z (vs.set i (.int x)) dv ∧ ∀ target, Steps p.tables e below (T'.setTop { g with pc := g.pc + 1, stack := rest }) target → Steps p.tables e below (T.setTop g) target := by
  obtain ⟨cl, A, q1, S, q3, H, G⟩ := V
  obtain ⟨T', h', X', e', W, st⟩ := stI X hx hZ eT A (inb_of S hj) hg hs hd
  exact ⟨T', h', _, X', e', Fr.snoc X' N ga, W, Arv.set A q1 S q3 H G rfl W i hi hl, st⟩
theorem own_stB {p : Program} {l : Launch} {e : Env} {R : Room} {s : State} {m : MethodId} {args : Array Value} {below : List Frame} {meth : Method} {c : Code} {T : State} {locs : List Loc} {cells slots : Nat} {Z : State} {h : Heap} {a : Addr} {k : ClassId} {z : Int32} {vs : List Value} {dv : Value} {n0 : Nat}
    (X : Stand p l e R s m args below meth c T locs cells slots) (hx : p.tables.exec = Jvm.exec) (hZ : Z.Warmed39 s.vm) (eT : T.heap = h) (V : Arv Z h a k .byte z vs dv) {j : Int32} {x : Int32} (hj : ¬ j < 0 ∧ j < z) {i : Nat} (hi : j.toNatClampNeg = i) (hl : i < vs.length) (N : Fr n0 locs) (ga : n0 ≤ a) {g : JFrame} (hg : g.method = m) {rest : List Value} (hs : g.stack = .int x :: .int j :: .ref a :: rest) (hd : decode c.code g.pc = .ok (.bastore, 1)) :
    ∃ T' h' L', Stand p l e R s m args below meth c T' L' cells slots ∧ T'.heap = h' ∧ Fr n0 L' ∧ Wr h h' a j.toNatClampNeg (.int (nar .byte x)) ∧ Arv Z h' a k .byte z (vs.set i (.int (nar .byte x))) dv ∧ ∀ target, Steps p.tables e below (T'.setTop { g with pc := g.pc + 1, stack := rest }) target → Steps p.tables e below (T.setTop g) target := by
  obtain ⟨cl, A, q1, S, q3, H, G⟩ := V
  obtain ⟨T', h', X', e', W, st⟩ := stB X hx hZ eT A (inb_of S hj) hg hs hd
  exact ⟨T', h', _, X', e', Fr.snoc X' N ga, W, Arv.set A q1 S q3 H G (fits_nar_byte _) W i hi hl, st⟩
theorem own_stC {p : Program} {l : Launch} {e : Env} {R : Room} {s : State} {m : MethodId} {args : Array Value} {below : List Frame} {meth : Method} {c : Code} {T : State} {locs : List Loc} {cells slots : Nat} {Z : State} {h : Heap} {a : Addr} {k : ClassId} {z : Int32} {vs : List Value} {dv : Value} {n0 : Nat}
    (X : Stand p l e R s m args below meth c T locs cells slots) (hx : p.tables.exec = Jvm.exec) (hZ : Z.Warmed39 s.vm) (eT : T.heap = h) (V : Arv Z h a k .char z vs dv) {j : Int32} {x : Int32} (hj : ¬ j < 0 ∧ j < z) {i : Nat} (hi : j.toNatClampNeg = i) (hl : i < vs.length) (N : Fr n0 locs) (ga : n0 ≤ a) {g : JFrame} (hg : g.method = m) {rest : List Value} (hs : g.stack = .int x :: .int j :: .ref a :: rest) (hd : decode c.code g.pc = .ok (.castore, 1)) :
    ∃ T' h' L', Stand p l e R s m args below meth c T' L' cells slots ∧ T'.heap = h' ∧ Fr n0 L' ∧ Wr h h' a j.toNatClampNeg (.int (nar .char x)) ∧ Arv Z h' a k .char z (vs.set i (.int (nar .char x))) dv ∧ ∀ target, Steps p.tables e below (T'.setTop { g with pc := g.pc + 1, stack := rest }) target → Steps p.tables e below (T.setTop g) target := by
  obtain ⟨cl, A, q1, S, q3, H, G⟩ := V
  obtain ⟨T', h', X', e', W, st⟩ := stC X hx hZ eT A (inb_of S hj) hg hs hd
  exact ⟨T', h', _, X', e', Fr.snoc X' N ga, W, Arv.set A q1 S q3 H G (fits_nar_char _) W i hi hl, st⟩
theorem own_ldJ {p : Program} {l : Launch} {e : Env} {R : Room} {s : State} {m : MethodId} {args : Array Value} {below : List Frame} {meth : Method} {c : Code} {T : State} {locs : List Loc} {cells slots : Nat} {Z : State} {h : Heap} {a : Addr} {k : ClassId} {z : Int32} {vs : List Value} {dv : Value} {w : Int64}
    (X : Stand p l e R s m args below meth c T locs cells slots) (hx : p.tables.exec = Jvm.exec) (hZ : Z.Warmed39 s.vm) (eT : T.heap = h) (V : Arv Z h a k .long z vs dv) {j : Int32} (hj : ¬ j < 0 ∧ j < z) (hv : vs.getD j.toNatClampNeg dv = .long w) {g : JFrame} (hg : g.method = m) {rest : List Value} (hs : g.stack = .int j :: .ref a :: rest) (hd : decode c.code g.pc = .ok (.laload, 1)) {target : State} (hr : Steps p.tables e below (T.setTop { g with pc := g.pc + 1, stack := .long w :: rest }) target) : Steps p.tables e below (T.setTop g) target := by
  obtain ⟨cl, A, q1, S, q3, H, G⟩ := V
  have hin := inb_of S hj
  exact X.laload hx (j := j) (v := .long w) (by rw [eT]; exact A.1) (State.isArrayOf_alike hZ.alike A.2.1) A.2.2 hin (H.at hin hv) (g := g) hg hs hd _ hr
theorem own_ldI {p : Program} {l : Launch} {e : Env} {R : Room} {s : State} {m : MethodId} {args : Array Value} {below : List Frame} {meth : Method} {c : Code} {T : State} {locs : List Loc} {cells slots : Nat} {Z : State} {h : Heap} {a : Addr} {k : ClassId} {z : Int32} {vs : List Value} {dv : Value} {w : Int32}
    (X : Stand p l e R s m args below meth c T locs cells slots) (hx : p.tables.exec = Jvm.exec) (hZ : Z.Warmed39 s.vm) (eT : T.heap = h) (V : Arv Z h a k .int z vs dv) {j : Int32} (hj : ¬ j < 0 ∧ j < z) (hv : vs.getD j.toNatClampNeg dv = .int w) {g : JFrame} (hg : g.method = m) {rest : List Value} (hs : g.stack = .int j :: .ref a :: rest) (hd : decode c.code g.pc = .ok (.iaload, 1)) {target : State} (hr : Steps p.tables e below (T.setTop { g with pc := g.pc + 1, stack := .int w :: rest }) target) : Steps p.tables e below (T.setTop g) target := by
  obtain ⟨cl, A, q1, S, q3, H, G⟩ := V
  have hin := inb_of S hj
  exact X.iaload hx (j := j) (v := .int w) (by rw [eT]; exact A.1) (State.isArrayOf_alike hZ.alike A.2.1) A.2.2 hin (H.at hin hv) (g := g) hg hs hd _ hr
theorem own_ldB {p : Program} {l : Launch} {e : Env} {R : Room} {s : State} {m : MethodId} {args : Array Value} {below : List Frame} {meth : Method} {c : Code} {T : State} {locs : List Loc} {cells slots : Nat} {Z : State} {h : Heap} {a : Addr} {k : ClassId} {z : Int32} {vs : List Value} {dv : Value} {w : Int32}
    (X : Stand p l e R s m args below meth c T locs cells slots) (hx : p.tables.exec = Jvm.exec) (hZ : Z.Warmed39 s.vm) (eT : T.heap = h) (V : Arv Z h a k .byte z vs dv) {j : Int32} (hj : ¬ j < 0 ∧ j < z) (hv : vs.getD j.toNatClampNeg dv = .int w) {g : JFrame} (hg : g.method = m) {rest : List Value} (hs : g.stack = .int j :: .ref a :: rest) (hd : decode c.code g.pc = .ok (.baload, 1)) {target : State} (hr : Steps p.tables e below (T.setTop { g with pc := g.pc + 1, stack := .int w :: rest }) target) : Steps p.tables e below (T.setTop g) target := by
  obtain ⟨cl, A, q1, S, q3, H, G⟩ := V
  have hin := inb_of S hj
  exact X.baloadBytes hx (j := j) (v := .int w) (by rw [eT]; exact A.1) (State.isArrayOf_alike hZ.alike A.2.1) A.2.2 hin (H.at hin hv) (g := g) hg hs hd _ hr
theorem own_len {p : Program} {l : Launch} {e : Env} {R : Room} {s : State} {m : MethodId} {args : Array Value} {below : List Frame} {meth : Method} {c : Code} {T : State} {locs : List Loc} {cells slots : Nat} {Z : State} {h : Heap} {a : Addr} {k : ClassId} {ty : FieldType} {z : Int32} {vs : List Value} {dv : Value}
    (X : Stand p l e R s m args below meth c T locs cells slots) (hx : p.tables.exec = Jvm.exec) (hZ : Z.Warmed39 s.vm) (eT : T.heap = h) (V : Arv Z h a k ty z vs dv) {g : JFrame} (hg : g.method = m) {rest : List Value} (hs : g.stack = .ref a :: rest) (hd : decode c.code g.pc = .ok (.arraylength, 1)) {target : State} (hr : Steps p.tables e below (T.setTop { g with pc := g.pc + 1, stack := .int z :: rest }) target) : Steps p.tables e below (T.setTop g) target := by
  obtain ⟨cl, A, q1, S, q3, H, G⟩ := V
  refine X.arraylength hx (by rw [eT]; exact A.1) (State.isArrayOf_alike hZ.alike A.2.1) (g := g) hg hs hd _ ?_
  rw [len_of S q3]; exact hr
def own_starts (a b : Int32) : Int32 := if (a &&& (255 : Int32)) = (31 : Int32) then (if (b &&& (255 : Int32)) = (139 : Int32) then (1 : Int32) else (0 : Int32)) else (0 : Int32)
def own_exp (a b : Int32) : Int32 := if a = (31 : Int32) then (if b = (-117 : Int32) then (1 : Int32) else (0 : Int32)) else (0 : Int32)
theorem own_nb (a b : Int32) : nar .boolean (own_starts a b) = own_starts a b := by
  unfold own_starts
  split
  · split <;> rfl
  · rfl
def own_byte (a : Int32) : Prop := -128 ≤ a.toInt ∧ a.toInt ≤ 127
theorem own_nar (a : Int32) (h : own_byte a) : nar .byte a = a := by
  have h1 := c_i2b a
  show a.toInt8.toInt32 = a
  unfold own_byte at h
  rw [← Int32.toInt_inj]; omega
theorem own_i2b (a : Int32) : own_byte (a.toInt8.toInt32) := by
  have h1 := c_i2b a
  unfold own_byte; omega
theorem own_same (a b : Int32) (ha : own_byte a) (hb : own_byte b) : own_starts a b = own_exp a b := by
  have h1 := c_mask a (255 : Int32) 8 (by decide) (by decide)
  have h2 := c_mask b (255 : Int32) 8 (by decide) (by decide)
  have c1 : (31 : Int32).toInt = 31 := rfl
  have c2 : (139 : Int32).toInt = 139 := rfl
  have c3 : (-117 : Int32).toInt = -117 := rfl
  unfold own_byte at ha hb
  have e1 : ((a &&& (255 : Int32)) = (31 : Int32)) ↔ (a = (31 : Int32)) := by rw [← Int32.toInt_inj, ← Int32.toInt_inj]; omega
  have e2 : ((b &&& (255 : Int32)) = (139 : Int32)) ↔ (b = (-117 : Int32)) := by rw [← Int32.toInt_inj, ← Int32.toInt_inj]; omega
  unfold own_starts own_exp
  simp only [e1, e2]
theorem own_four (x : Int32) : (x &&& (3 : Int32)) = (0 : Int32) ∨ (x &&& (3 : Int32)) = (1 : Int32) ∨ (x &&& (3 : Int32)) = (2 : Int32) ∨ (x &&& (3 : Int32)) = (3 : Int32) := by
  have h1 := c_mask x (3 : Int32) 2 (by decide) (by decide)
  have c0 : (0 : Int32).toInt = 0 := rfl
  have c1 : (1 : Int32).toInt = 1 := rfl
  have c2 : (2 : Int32).toInt = 2 := rfl
  have c3 : (3 : Int32).toInt = 3 := rfl
  rw [← Int32.toInt_inj, ← Int32.toInt_inj, ← Int32.toInt_inj, ← Int32.toInt_inj]; omega
theorem own_eqInt {t : Term} {k : Int32} {args : Array Value} {first s : State} {o : Option Outcome} {idx : List Nat} (h : (Jvm.Cond.eq t (Term.int k)).value args first o s idx = some true) : t.eval args first o idx s = some (.int k) := by
  simp only [Cond.value, Term.eval] at h
  cases ht : t.eval args first o idx s with
  | none => simp [ht] at h
  | some x => cases x <;> simp [ht] at h ⊢; exact h
theorem own_lenAt {t : Term} {args : Array Value} {s : State} {cl : Cell} {a : Addr} {k : Int32} (ht : t.eval args s none [] s = some (.ref a)) (ha : s.arrayAt? a = some cl) (h : (Term.length t).eval args s none [] s = some (.int k)) : cl.slots.size < 2 ^ 31 ∧ cl.slots.size.toInt32 = k := by
  simp only [Term.eval, ht, ha, Option.bind_eq_bind, Option.bind_some] at h
  split at h
  · rename_i q
    exact ⟨q, by simpa using h⟩
  · cases h
theorem d1_0 : decode prog_218_method_2_code 0 = .ok (.aload_n 0, 1) := by decide +kernel
theorem d1_1 : decode prog_218_method_2_code 1 = .ok (.arraylength, 1) := by decide +kernel
theorem d1_2 : decode prog_218_method_2_code 2 = .ok (.iconst 2, 1) := by decide +kernel
theorem d1_3 : decode prog_218_method_2_code 3 = .ok (.if_icmp .lt 37, 3) := by decide +kernel
theorem d1_6 : decode prog_218_method_2_code 6 = .ok (.aload_n 0, 1) := by decide +kernel
theorem d1_7 : decode prog_218_method_2_code 7 = .ok (.iconst 0, 1) := by decide +kernel
theorem d1_8 : decode prog_218_method_2_code 8 = .ok (.baload, 1) := by decide +kernel
theorem d1_9 : decode prog_218_method_2_code 9 = .ok (.sipush 255, 3) := by decide +kernel
theorem d1_12 : decode prog_218_method_2_code 12 = .ok (.iand, 1) := by decide +kernel
theorem d1_13 : decode prog_218_method_2_code 13 = .ok (.getstatic 43, 3) := by decide +kernel
theorem d1_16 : decode prog_218_method_2_code 16 = .ok (.iconst 0, 1) := by decide +kernel
theorem d1_17 : decode prog_218_method_2_code 17 = .ok (.iaload, 1) := by decide +kernel
theorem d1_18 : decode prog_218_method_2_code 18 = .ok (.if_icmp .ne 22, 3) := by decide +kernel
theorem d1_21 : decode prog_218_method_2_code 21 = .ok (.aload_n 0, 1) := by decide +kernel
theorem d1_22 : decode prog_218_method_2_code 22 = .ok (.iconst 1, 1) := by decide +kernel
theorem d1_23 : decode prog_218_method_2_code 23 = .ok (.baload, 1) := by decide +kernel
theorem d1_24 : decode prog_218_method_2_code 24 = .ok (.sipush 255, 3) := by decide +kernel
theorem d1_27 : decode prog_218_method_2_code 27 = .ok (.iand, 1) := by decide +kernel
theorem d1_28 : decode prog_218_method_2_code 28 = .ok (.getstatic 43, 3) := by decide +kernel
theorem d1_31 : decode prog_218_method_2_code 31 = .ok (.iconst 1, 1) := by decide +kernel
theorem d1_32 : decode prog_218_method_2_code 32 = .ok (.iaload, 1) := by decide +kernel
theorem d1_33 : decode prog_218_method_2_code 33 = .ok (.if_icmp .ne 7, 3) := by decide +kernel
theorem d1_36 : decode prog_218_method_2_code 36 = .ok (.iconst 1, 1) := by decide +kernel
theorem d1_37 : decode prog_218_method_2_code 37 = .ok (.goto 4, 3) := by decide +kernel
theorem d1_40 : decode prog_218_method_2_code 40 = .ok (.iconst 0, 1) := by decide +kernel
theorem d1_41 : decode prog_218_method_2_code 41 = .ok (.ireturn, 1) := by decide +kernel
theorem pn_1 : plainName "com/example/rootline/rootline/reader/GzipChannel" = true := by first | (simp [plainName, overriddenIn]; done) | decide +kernel
theorem ef_1 (m : MethodId) (x0 : Addr) : entryFrame m #[(.ref x0)] 1 = mkF m 0 #[.val (.ref x0)] [] := by first | (simp [entryFrame, mkF, argsToLocals, Value.category]; done) | rfl
theorem pn_0 : plainName "com/example/rootline/rootline/reader/GzipChannelStartsPinLaw" = true := by first | (simp [plainName, overriddenIn]; done) | decide +kernel
theorem ef_0 (m : MethodId) (x0 : Int32) (x1 : Int32) (x2 : Int32) (x3 : Int32) (x4 : Int32) : entryFrame m #[(.int x0), (.int x1), (.int x2), (.int x3), (.int x4)] maxLocals = mkF m 0 #[.val (.int x0), .val (.int x1), .val (.int x2), .val (.int x3), .val (.int x4), .unset, .unset, .unset, .unset, .unset, .unset, .unset, .unset] [] := by first | (simp [entryFrame, mkF, argsToLocals, Value.category, maxLocals]; done) | rfl
set_option maxRecDepth 65536 in
set_option maxHeartbeats 40000000 in
theorem rm1_0 (l : Launch) (Z : State) (a0 : Array Value) (hw : ∀ d ∈ tables_1, d.before a0 Z = true) (ws : List Jvm.Cond) (x0 : Addr) (k0 : ClassId) (mg : Addr) (km : ClassId) (h0 : Heap) (n0 : Nat) (Z0 : n0 ≤ h0.size) (V_x0 : Arv Z h0 x0 k0 .byte (0 : Int32) [] (.int (0 : Int32))) (S_MAGIC : Sta Z h0 "com/example/rootline/rootline/reader/GzipChannel" "MAGIC" "[I" (.ref mg)) (V_mg : Arv Z h0 mg km .int (3 : Int32) [(.int (31 : Int32)), (.int (139 : Int32)), (.int (8 : Int32))] (.int (0 : Int32))) :
    MetFree l (⟨"com/example/rootline/rootline/reader/GzipChannel", "starts", "([B)Z"⟩ : MethodName) (head1 (Jvm.Cond.code (⟨"com/example/rootline/rootline/reader/GzipChannel", "starts", "([B)Z"⟩ : MethodName) prog_218_method_2_code 1 (some .boolean) :: ws) ({ frames := 0, cells := 0, slots := 0, locals := 0 } : Room)) (fun a U => a = #[(.ref x0)] ∧ Z.Warmed39 U.vm ∧ U.heap = h0) (fun _ _ _ _ _ => True) (fun _ U o U' => ∃ v L, o = .returned v ∧ (QP (some (.int (0 : Int32))) h0 n0 v U'.heap L) ∧ FrameEnd U o U' L ({ frames := 0, cells := 0, slots := 0, locals := 0 } : Room).cells ({ frames := 0, cells := 0, slots := 0, locals := 0 } : Room).slots) := by
  refine MetFree.of_bodySF (plainFor_of_name pn_1) hisR ?_
  intro p e s m args below meth c s₁ Bd hml0 hP hK
  obtain ⟨rfl, hZ, hh⟩ := hP
  have hx := Bd.exec
  have hby := Bd.bytes
  have hml : c.maxLocals = 1 := hml0
  have hown : s.vm.findClass "com/example/rootline/rootline/reader/GzipChannel" = some m.cls := findClass_of_methodNamed Bd.named
  have hnm := (name_of_methodNamed Bd.named Bd.method).1
  have X0 : Stand p l e ({ frames := 0, cells := 0, slots := 0, locals := 0 } : Room) s m #[(.ref x0)] below meth c s₁ [] 0 0 := Stand.of_body Bd
  have e0 : s₁.heap = h0 := by rw [← hh, Bd.state]; rfl
  have N0 := Fr.nil n0
  have pre0 : ∀ t, Steps p.tables e below (s₁.setTop (mkF m 0 #[.val (.ref x0)] [])) t → Steps p.tables e below (s₁.setTop (entryFrame m #[(.ref x0)] 1)) t := fun t k => castTop (ef_1 m x0) k
  obtain ⟨fs, hr, hrun, hended, hW, hsame⟩ := X0.leave (v := some (.int (0 : Int32))) (fun h => by rw [Bd.returns] at h; cases h)
  refine ⟨_, _, pre0 _ ?_, hrun, hended, _, _, rfl, ?_, ⟨_, rfl⟩, hW, hsame.mono (by decide) (by decide)⟩
  · show Steps p.tables e below (s₁.setTop (mkF m 0 #[.val (.ref x0)] [])) _
    refine XS.aloadN X0.here hx rfl (hb hby d1_0) rfl rfl ?_
    show Steps p.tables e below (s₁.setTop (mkF m 1 #[.val (.ref x0)] [(.ref x0)])) _
    refine own_len X0 hx hZ e0 V_x0 (g := (mkF m 1 #[.val (.ref x0)] [(.ref x0)])) rfl rfl (hb hby d1_1) ?_
    show Steps p.tables e below (s₁.setTop (mkF m 2 #[.val (.ref x0)] [(.int (0 : Int32))])) _
    refine XS.iconst X0.here hx rfl (hb hby d1_2) ?_
    show Steps p.tables e below (s₁.setTop (mkF m 3 #[.val (.ref x0)] [(.int (2 : Int32)), (.int (0 : Int32))])) _
    refine XS.icmpYes X0.here hx rfl (pc0 := 3) (pc' := 40) rfl (hb hby d1_3) rfl (tlt (by decide : (0 : Int32) < (2 : Int32))).1 (by decide) (by decide) ?_
    show Steps p.tables e below (s₁.setTop (mkF m 40 #[.val (.ref x0)] [])) _
    refine XS.iconst X0.here hx rfl (hb hby d1_40) ?_
    show Steps p.tables e below (s₁.setTop (mkF m 41 #[.val (.ref x0)] [(.int (0 : Int32))])) _
    exact retN X0 hx (t := .boolean) Bd.returns (by simp) (hb hby d1_41) hr
  · exact ⟨rfl, N0, e0⟩
set_option maxRecDepth 65536 in
set_option maxHeartbeats 40000000 in
theorem rm1_1 (l : Launch) (Z : State) (a0 : Array Value) (hw : ∀ d ∈ tables_1, d.before a0 Z = true) (ws : List Jvm.Cond) (x0 : Addr) (k0 : ClassId) (mg : Addr) (km : ClassId) (u0 : Int32) (h0 : Heap) (n0 : Nat) (Z0 : n0 ≤ h0.size) (V_x0 : Arv Z h0 x0 k0 .byte (1 : Int32) [(.int u0)] (.int (0 : Int32))) (S_MAGIC : Sta Z h0 "com/example/rootline/rootline/reader/GzipChannel" "MAGIC" "[I" (.ref mg)) (V_mg : Arv Z h0 mg km .int (3 : Int32) [(.int (31 : Int32)), (.int (139 : Int32)), (.int (8 : Int32))] (.int (0 : Int32))) :
    MetFree l (⟨"com/example/rootline/rootline/reader/GzipChannel", "starts", "([B)Z"⟩ : MethodName) (head1 (Jvm.Cond.code (⟨"com/example/rootline/rootline/reader/GzipChannel", "starts", "([B)Z"⟩ : MethodName) prog_218_method_2_code 1 (some .boolean) :: ws) ({ frames := 0, cells := 0, slots := 0, locals := 0 } : Room)) (fun a U => a = #[(.ref x0)] ∧ Z.Warmed39 U.vm ∧ U.heap = h0) (fun _ _ _ _ _ => True) (fun _ U o U' => ∃ v L, o = .returned v ∧ (QP (some (.int (0 : Int32))) h0 n0 v U'.heap L) ∧ FrameEnd U o U' L ({ frames := 0, cells := 0, slots := 0, locals := 0 } : Room).cells ({ frames := 0, cells := 0, slots := 0, locals := 0 } : Room).slots) := by
  refine MetFree.of_bodySF (plainFor_of_name pn_1) hisR ?_
  intro p e s m args below meth c s₁ Bd hml0 hP hK
  obtain ⟨rfl, hZ, hh⟩ := hP
  have hx := Bd.exec
  have hby := Bd.bytes
  have hml : c.maxLocals = 1 := hml0
  have hown : s.vm.findClass "com/example/rootline/rootline/reader/GzipChannel" = some m.cls := findClass_of_methodNamed Bd.named
  have hnm := (name_of_methodNamed Bd.named Bd.method).1
  have X0 : Stand p l e ({ frames := 0, cells := 0, slots := 0, locals := 0 } : Room) s m #[(.ref x0)] below meth c s₁ [] 0 0 := Stand.of_body Bd
  have e0 : s₁.heap = h0 := by rw [← hh, Bd.state]; rfl
  have N0 := Fr.nil n0
  have pre0 : ∀ t, Steps p.tables e below (s₁.setTop (mkF m 0 #[.val (.ref x0)] [])) t → Steps p.tables e below (s₁.setTop (entryFrame m #[(.ref x0)] 1)) t := fun t k => castTop (ef_1 m x0) k
  obtain ⟨fs, hr, hrun, hended, hW, hsame⟩ := X0.leave (v := some (.int (0 : Int32))) (fun h => by rw [Bd.returns] at h; cases h)
  refine ⟨_, _, pre0 _ ?_, hrun, hended, _, _, rfl, ?_, ⟨_, rfl⟩, hW, hsame.mono (by decide) (by decide)⟩
  · show Steps p.tables e below (s₁.setTop (mkF m 0 #[.val (.ref x0)] [])) _
    refine XS.aloadN X0.here hx rfl (hb hby d1_0) rfl rfl ?_
    show Steps p.tables e below (s₁.setTop (mkF m 1 #[.val (.ref x0)] [(.ref x0)])) _
    refine own_len X0 hx hZ e0 V_x0 (g := (mkF m 1 #[.val (.ref x0)] [(.ref x0)])) rfl rfl (hb hby d1_1) ?_
    show Steps p.tables e below (s₁.setTop (mkF m 2 #[.val (.ref x0)] [(.int (1 : Int32))])) _
    refine XS.iconst X0.here hx rfl (hb hby d1_2) ?_
    show Steps p.tables e below (s₁.setTop (mkF m 3 #[.val (.ref x0)] [(.int (2 : Int32)), (.int (1 : Int32))])) _
    refine XS.icmpYes X0.here hx rfl (pc0 := 3) (pc' := 40) rfl (hb hby d1_3) rfl (tlt (by decide : (1 : Int32) < (2 : Int32))).1 (by decide) (by decide) ?_
    show Steps p.tables e below (s₁.setTop (mkF m 40 #[.val (.ref x0)] [])) _
    refine XS.iconst X0.here hx rfl (hb hby d1_40) ?_
    show Steps p.tables e below (s₁.setTop (mkF m 41 #[.val (.ref x0)] [(.int (0 : Int32))])) _
    exact retN X0 hx (t := .boolean) Bd.returns (by simp) (hb hby d1_41) hr
  · exact ⟨rfl, N0, e0⟩
set_option maxRecDepth 65536 in
set_option maxHeartbeats 40000000 in
theorem rm1_2 (l : Launch) (Z : State) (a0 : Array Value) (hw : ∀ d ∈ tables_1, d.before a0 Z = true) (ws : List Jvm.Cond) (x0 : Addr) (k0 : ClassId) (mg : Addr) (km : ClassId) (u0 : Int32) (u1 : Int32) (h0 : Heap) (n0 : Nat) (Z0 : n0 ≤ h0.size) (V_x0 : Arv Z h0 x0 k0 .byte (2 : Int32) [(.int u0), (.int u1)] (.int (0 : Int32))) (S_MAGIC : Sta Z h0 "com/example/rootline/rootline/reader/GzipChannel" "MAGIC" "[I" (.ref mg)) (V_mg : Arv Z h0 mg km .int (3 : Int32) [(.int (31 : Int32)), (.int (139 : Int32)), (.int (8 : Int32))] (.int (0 : Int32))) :
    MetFree l (⟨"com/example/rootline/rootline/reader/GzipChannel", "starts", "([B)Z"⟩ : MethodName) (head1 (Jvm.Cond.code (⟨"com/example/rootline/rootline/reader/GzipChannel", "starts", "([B)Z"⟩ : MethodName) prog_218_method_2_code 1 (some .boolean) :: ws) ({ frames := 0, cells := 0, slots := 0, locals := 0 } : Room)) (fun a U => a = #[(.ref x0)] ∧ Z.Warmed39 U.vm ∧ U.heap = h0) (fun _ _ _ _ _ => True) (fun _ U o U' => ∃ v L, o = .returned v ∧ (QP (some (.int (own_starts u0 u1))) h0 n0 v U'.heap L) ∧ FrameEnd U o U' L ({ frames := 0, cells := 0, slots := 0, locals := 0 } : Room).cells ({ frames := 0, cells := 0, slots := 0, locals := 0 } : Room).slots) := by
  refine MetFree.of_bodySF (plainFor_of_name pn_1) hisR ?_
  intro p e s m args below meth c s₁ Bd hml0 hP hK
  obtain ⟨rfl, hZ, hh⟩ := hP
  have hx := Bd.exec
  have hby := Bd.bytes
  have hml : c.maxLocals = 1 := hml0
  have hown : s.vm.findClass "com/example/rootline/rootline/reader/GzipChannel" = some m.cls := findClass_of_methodNamed Bd.named
  have hnm := (name_of_methodNamed Bd.named Bd.method).1
  have X0 : Stand p l e ({ frames := 0, cells := 0, slots := 0, locals := 0 } : Room) s m #[(.ref x0)] below meth c s₁ [] 0 0 := Stand.of_body Bd
  have e0 : s₁.heap = h0 := by rw [← hh, Bd.state]; rfl
  have N0 := Fr.nil n0
  have pre0 : ∀ t, Steps p.tables e below (s₁.setTop (mkF m 0 #[.val (.ref x0)] [])) t → Steps p.tables e below (s₁.setTop (entryFrame m #[(.ref x0)] 1)) t := fun t k => castTop (ef_1 m x0) k
  obtain ⟨T1, X1, e1, st1⟩ := getS2 X0 hx hZ hown (host := "") (Or.inl (hw _ (List.mem_of_getElem? (i := 5) rfl))) Via.refl e0 S_MAGIC (g := (mkF m 13 #[.val (.ref x0)] [(.int (u0 &&& (255 : Int32)))])) rfl (hb hby d1_13)
  obtain ⟨m4_s0, em4_s0⟩ : ∃ z : Int32, z = (if (u1 &&& (255 : Int32)) = (139 : Int32) then (1 : Int32) else (0 : Int32)) := ⟨_, rfl⟩
  obtain ⟨m2_s0, em2_s0⟩ : ∃ z : Int32, z = (if (u0 &&& (255 : Int32)) = (31 : Int32) then m4_s0 else (0 : Int32)) := ⟨_, rfl⟩
  obtain ⟨T2, L2, X2, e2, N2, st2⟩ : ∃ (T' : State) (L' : List Loc), Stand p l e ({ frames := 0, cells := 0, slots := 0, locals := 0 } : Room) s m #[(.ref x0)] below meth c T' L' (0) (0) ∧ T'.heap = h0 ∧ Fr n0 L' ∧ ∀ target, Steps p.tables e below (T'.setTop (mkF m 41 #[.val (.ref x0)] [(.int m2_s0)])) target → Steps p.tables e below (T1.setTop (mkF m 18 #[.val (.ref x0)] [(.int (31 : Int32)), (.int (u0 &&& (255 : Int32)))])) target := by
    by_cases hq18 : (u0 &&& (255 : Int32)) = (31 : Int32)
    · obtain ⟨T3, X3, e3, st3⟩ := getS2 X1 hx hZ hown (host := "") (Or.inl (hw _ (List.mem_of_getElem? (i := 5) rfl))) Via.refl e1 S_MAGIC (g := (mkF m 28 #[.val (.ref x0)] [(.int (u1 &&& (255 : Int32)))])) rfl (hb hby d1_28)
      obtain ⟨T4, L4, X4, e4, N4, st4⟩ : ∃ (T' : State) (L' : List Loc), Stand p l e ({ frames := 0, cells := 0, slots := 0, locals := 0 } : Room) s m #[(.ref x0)] below meth c T' L' (0) (0) ∧ T'.heap = h0 ∧ Fr n0 L' ∧ ∀ target, Steps p.tables e below (T'.setTop (mkF m 41 #[.val (.ref x0)] [(.int m4_s0)])) target → Steps p.tables e below (T3.setTop (mkF m 33 #[.val (.ref x0)] [(.int (139 : Int32)), (.int (u1 &&& (255 : Int32)))])) target := by
        by_cases hq33 : (u1 &&& (255 : Int32)) = (139 : Int32)
        · skip
          refine ⟨T3, _, X3, e3, N0, fun target kt => ?_⟩
          rw [em4_s0, if_pos hq33] at kt
          show Steps p.tables e below (T3.setTop (mkF m 33 #[.val (.ref x0)] [(.int (139 : Int32)), (.int (u1 &&& (255 : Int32)))])) _
          refine XS.icmpNo X3.here hx rfl (hb hby d1_33) rfl (teq hq33).2 ?_
          show Steps p.tables e below (T3.setTop (mkF m 36 #[.val (.ref x0)] [])) _
          refine XS.iconst X3.here hx rfl (hb hby d1_36) ?_
          show Steps p.tables e below (T3.setTop (mkF m 37 #[.val (.ref x0)] [(.int (1 : Int32))])) _
          refine XS.goto X3.here hx rfl (pc0 := 37) (pc' := 41) rfl (hb hby d1_37) (by decide) (by decide) ?_
          exact kt
        · skip
          refine ⟨T3, _, X3, e3, N0, fun target kt => ?_⟩
          rw [em4_s0, if_neg hq33] at kt
          show Steps p.tables e below (T3.setTop (mkF m 33 #[.val (.ref x0)] [(.int (139 : Int32)), (.int (u1 &&& (255 : Int32)))])) _
          refine XS.icmpYes X3.here hx rfl (pc0 := 33) (pc' := 40) rfl (hb hby d1_33) rfl (feq hq33).2 (by decide) (by decide) ?_
          show Steps p.tables e below (T3.setTop (mkF m 40 #[.val (.ref x0)] [])) _
          refine XS.iconst X3.here hx rfl (hb hby d1_40) ?_
          exact kt
      refine ⟨T4, _, X4, e4, N4, fun target kt => ?_⟩
      rw [em2_s0, if_pos hq18] at kt
      show Steps p.tables e below (T1.setTop (mkF m 18 #[.val (.ref x0)] [(.int (31 : Int32)), (.int (u0 &&& (255 : Int32)))])) _
      refine XS.icmpNo X1.here hx rfl (hb hby d1_18) rfl (teq hq18).2 ?_
      show Steps p.tables e below (T1.setTop (mkF m 21 #[.val (.ref x0)] [])) _
      refine XS.aloadN X1.here hx rfl (hb hby d1_21) rfl rfl ?_
      show Steps p.tables e below (T1.setTop (mkF m 22 #[.val (.ref x0)] [(.ref x0)])) _
      refine XS.iconst X1.here hx rfl (hb hby d1_22) ?_
      show Steps p.tables e below (T1.setTop (mkF m 23 #[.val (.ref x0)] [(.int (1 : Int32)), (.ref x0)])) _
      refine own_ldB X1 hx hZ e1 V_x0 (j := (1 : Int32)) (w := u1) ⟨by decide, by decide⟩ rfl (g := (mkF m 23 #[.val (.ref x0)] [(.int (1 : Int32)), (.ref x0)])) rfl rfl (hb hby d1_23) ?_
      show Steps p.tables e below (T1.setTop (mkF m 24 #[.val (.ref x0)] [(.int u1)])) _
      refine XS.sipush X1.here hx rfl (hb hby d1_24) ?_
      show Steps p.tables e below (T1.setTop (mkF m 27 #[.val (.ref x0)] [(.int (255 : Int32)), (.int u1)])) _
      refine XS.iand X1.here hx rfl (hb hby d1_27) rfl ?_
      show Steps p.tables e below (T1.setTop (mkF m 28 #[.val (.ref x0)] [(.int (u1 &&& (255 : Int32)))])) _
      refine st3 _ ?_
      show Steps p.tables e below (T3.setTop (mkF m 31 #[.val (.ref x0)] [(.ref mg), (.int (u1 &&& (255 : Int32)))])) _
      refine XS.iconst X3.here hx rfl (hb hby d1_31) ?_
      show Steps p.tables e below (T3.setTop (mkF m 32 #[.val (.ref x0)] [(.int (1 : Int32)), (.ref mg), (.int (u1 &&& (255 : Int32)))])) _
      refine own_ldI X3 hx hZ e3 V_mg (j := (1 : Int32)) (w := (139 : Int32)) ⟨by decide, by decide⟩ rfl (g := (mkF m 32 #[.val (.ref x0)] [(.int (1 : Int32)), (.ref mg), (.int (u1 &&& (255 : Int32)))])) rfl rfl (hb hby d1_32) ?_
      show Steps p.tables e below (T3.setTop (mkF m 33 #[.val (.ref x0)] [(.int (139 : Int32)), (.int (u1 &&& (255 : Int32)))])) _
      refine st4 _ ?_
      exact kt
    · skip
      refine ⟨T1, _, X1, e1, N0, fun target kt => ?_⟩
      rw [em2_s0, if_neg hq18] at kt
      show Steps p.tables e below (T1.setTop (mkF m 18 #[.val (.ref x0)] [(.int (31 : Int32)), (.int (u0 &&& (255 : Int32)))])) _
      refine XS.icmpYes X1.here hx rfl (pc0 := 18) (pc' := 40) rfl (hb hby d1_18) rfl (feq hq18).2 (by decide) (by decide) ?_
      show Steps p.tables e below (T1.setTop (mkF m 40 #[.val (.ref x0)] [])) _
      refine XS.iconst X1.here hx rfl (hb hby d1_40) ?_
      exact kt
  obtain ⟨fs, hr, hrun, hended, hW, hsame⟩ := X2.leave (v := some (.int (own_starts u0 u1))) (fun h => by rw [Bd.returns] at h; cases h)
  refine ⟨_, _, pre0 _ ?_, hrun, hended, _, _, rfl, ?_, ⟨_, rfl⟩, hW, hsame.mono (by decide) (by decide)⟩
  · show Steps p.tables e below (s₁.setTop (mkF m 0 #[.val (.ref x0)] [])) _
    refine XS.aloadN X0.here hx rfl (hb hby d1_0) rfl rfl ?_
    show Steps p.tables e below (s₁.setTop (mkF m 1 #[.val (.ref x0)] [(.ref x0)])) _
    refine own_len X0 hx hZ e0 V_x0 (g := (mkF m 1 #[.val (.ref x0)] [(.ref x0)])) rfl rfl (hb hby d1_1) ?_
    show Steps p.tables e below (s₁.setTop (mkF m 2 #[.val (.ref x0)] [(.int (2 : Int32))])) _
    refine XS.iconst X0.here hx rfl (hb hby d1_2) ?_
    show Steps p.tables e below (s₁.setTop (mkF m 3 #[.val (.ref x0)] [(.int (2 : Int32)), (.int (2 : Int32))])) _
    refine XS.icmpNo X0.here hx rfl (hb hby d1_3) rfl (flt (by decide : ¬ ((2 : Int32) < (2 : Int32)))).1 ?_
    show Steps p.tables e below (s₁.setTop (mkF m 6 #[.val (.ref x0)] [])) _
    refine XS.aloadN X0.here hx rfl (hb hby d1_6) rfl rfl ?_
    show Steps p.tables e below (s₁.setTop (mkF m 7 #[.val (.ref x0)] [(.ref x0)])) _
    refine XS.iconst X0.here hx rfl (hb hby d1_7) ?_
    show Steps p.tables e below (s₁.setTop (mkF m 8 #[.val (.ref x0)] [(.int (0 : Int32)), (.ref x0)])) _
    refine own_ldB X0 hx hZ e0 V_x0 (j := (0 : Int32)) (w := u0) ⟨by decide, by decide⟩ rfl (g := (mkF m 8 #[.val (.ref x0)] [(.int (0 : Int32)), (.ref x0)])) rfl rfl (hb hby d1_8) ?_
    show Steps p.tables e below (s₁.setTop (mkF m 9 #[.val (.ref x0)] [(.int u0)])) _
    refine XS.sipush X0.here hx rfl (hb hby d1_9) ?_
    show Steps p.tables e below (s₁.setTop (mkF m 12 #[.val (.ref x0)] [(.int (255 : Int32)), (.int u0)])) _
    refine XS.iand X0.here hx rfl (hb hby d1_12) rfl ?_
    show Steps p.tables e below (s₁.setTop (mkF m 13 #[.val (.ref x0)] [(.int (u0 &&& (255 : Int32)))])) _
    refine st1 _ ?_
    show Steps p.tables e below (T1.setTop (mkF m 16 #[.val (.ref x0)] [(.ref mg), (.int (u0 &&& (255 : Int32)))])) _
    refine XS.iconst X1.here hx rfl (hb hby d1_16) ?_
    show Steps p.tables e below (T1.setTop (mkF m 17 #[.val (.ref x0)] [(.int (0 : Int32)), (.ref mg), (.int (u0 &&& (255 : Int32)))])) _
    refine own_ldI X1 hx hZ e1 V_mg (j := (0 : Int32)) (w := (31 : Int32)) ⟨by decide, by decide⟩ rfl (g := (mkF m 17 #[.val (.ref x0)] [(.int (0 : Int32)), (.ref mg), (.int (u0 &&& (255 : Int32)))])) rfl rfl (hb hby d1_17) ?_
    show Steps p.tables e below (T1.setTop (mkF m 18 #[.val (.ref x0)] [(.int (31 : Int32)), (.int (u0 &&& (255 : Int32)))])) _
    refine st2 _ ?_
    show Steps p.tables e below (T2.setTop (mkF m 41 #[.val (.ref x0)] [(.int m2_s0)])) _
    have hv : own_starts u0 u1 = m2_s0 := by rw [em2_s0, em4_s0]; rfl
    rw [← own_nb u0 u1, hv] at hr
    exact retN X2 hx (t := .boolean) Bd.returns (by simp) (hb hby d1_41) hr
  · exact ⟨rfl, N2, e2⟩
set_option maxRecDepth 65536 in
set_option maxHeartbeats 40000000 in
theorem rm1_3 (l : Launch) (Z : State) (a0 : Array Value) (hw : ∀ d ∈ tables_1, d.before a0 Z = true) (ws : List Jvm.Cond) (x0 : Addr) (k0 : ClassId) (mg : Addr) (km : ClassId) (u0 : Int32) (u1 : Int32) (u2 : Int32) (h0 : Heap) (n0 : Nat) (Z0 : n0 ≤ h0.size) (V_x0 : Arv Z h0 x0 k0 .byte (3 : Int32) [(.int u0), (.int u1), (.int u2)] (.int (0 : Int32))) (S_MAGIC : Sta Z h0 "com/example/rootline/rootline/reader/GzipChannel" "MAGIC" "[I" (.ref mg)) (V_mg : Arv Z h0 mg km .int (3 : Int32) [(.int (31 : Int32)), (.int (139 : Int32)), (.int (8 : Int32))] (.int (0 : Int32))) :
    MetFree l (⟨"com/example/rootline/rootline/reader/GzipChannel", "starts", "([B)Z"⟩ : MethodName) (head1 (Jvm.Cond.code (⟨"com/example/rootline/rootline/reader/GzipChannel", "starts", "([B)Z"⟩ : MethodName) prog_218_method_2_code 1 (some .boolean) :: ws) ({ frames := 0, cells := 0, slots := 0, locals := 0 } : Room)) (fun a U => a = #[(.ref x0)] ∧ Z.Warmed39 U.vm ∧ U.heap = h0) (fun _ _ _ _ _ => True) (fun _ U o U' => ∃ v L, o = .returned v ∧ (QP (some (.int (own_starts u0 u1))) h0 n0 v U'.heap L) ∧ FrameEnd U o U' L ({ frames := 0, cells := 0, slots := 0, locals := 0 } : Room).cells ({ frames := 0, cells := 0, slots := 0, locals := 0 } : Room).slots) := by
  refine MetFree.of_bodySF (plainFor_of_name pn_1) hisR ?_
  intro p e s m args below meth c s₁ Bd hml0 hP hK
  obtain ⟨rfl, hZ, hh⟩ := hP
  have hx := Bd.exec
  have hby := Bd.bytes
  have hml : c.maxLocals = 1 := hml0
  have hown : s.vm.findClass "com/example/rootline/rootline/reader/GzipChannel" = some m.cls := findClass_of_methodNamed Bd.named
  have hnm := (name_of_methodNamed Bd.named Bd.method).1
  have X0 : Stand p l e ({ frames := 0, cells := 0, slots := 0, locals := 0 } : Room) s m #[(.ref x0)] below meth c s₁ [] 0 0 := Stand.of_body Bd
  have e0 : s₁.heap = h0 := by rw [← hh, Bd.state]; rfl
  have N0 := Fr.nil n0
  have pre0 : ∀ t, Steps p.tables e below (s₁.setTop (mkF m 0 #[.val (.ref x0)] [])) t → Steps p.tables e below (s₁.setTop (entryFrame m #[(.ref x0)] 1)) t := fun t k => castTop (ef_1 m x0) k
  obtain ⟨T1, X1, e1, st1⟩ := getS2 X0 hx hZ hown (host := "") (Or.inl (hw _ (List.mem_of_getElem? (i := 5) rfl))) Via.refl e0 S_MAGIC (g := (mkF m 13 #[.val (.ref x0)] [(.int (u0 &&& (255 : Int32)))])) rfl (hb hby d1_13)
  obtain ⟨m4_s0, em4_s0⟩ : ∃ z : Int32, z = (if (u1 &&& (255 : Int32)) = (139 : Int32) then (1 : Int32) else (0 : Int32)) := ⟨_, rfl⟩
  obtain ⟨m2_s0, em2_s0⟩ : ∃ z : Int32, z = (if (u0 &&& (255 : Int32)) = (31 : Int32) then m4_s0 else (0 : Int32)) := ⟨_, rfl⟩
  obtain ⟨T2, L2, X2, e2, N2, st2⟩ : ∃ (T' : State) (L' : List Loc), Stand p l e ({ frames := 0, cells := 0, slots := 0, locals := 0 } : Room) s m #[(.ref x0)] below meth c T' L' (0) (0) ∧ T'.heap = h0 ∧ Fr n0 L' ∧ ∀ target, Steps p.tables e below (T'.setTop (mkF m 41 #[.val (.ref x0)] [(.int m2_s0)])) target → Steps p.tables e below (T1.setTop (mkF m 18 #[.val (.ref x0)] [(.int (31 : Int32)), (.int (u0 &&& (255 : Int32)))])) target := by
    by_cases hq18 : (u0 &&& (255 : Int32)) = (31 : Int32)
    · obtain ⟨T3, X3, e3, st3⟩ := getS2 X1 hx hZ hown (host := "") (Or.inl (hw _ (List.mem_of_getElem? (i := 5) rfl))) Via.refl e1 S_MAGIC (g := (mkF m 28 #[.val (.ref x0)] [(.int (u1 &&& (255 : Int32)))])) rfl (hb hby d1_28)
      obtain ⟨T4, L4, X4, e4, N4, st4⟩ : ∃ (T' : State) (L' : List Loc), Stand p l e ({ frames := 0, cells := 0, slots := 0, locals := 0 } : Room) s m #[(.ref x0)] below meth c T' L' (0) (0) ∧ T'.heap = h0 ∧ Fr n0 L' ∧ ∀ target, Steps p.tables e below (T'.setTop (mkF m 41 #[.val (.ref x0)] [(.int m4_s0)])) target → Steps p.tables e below (T3.setTop (mkF m 33 #[.val (.ref x0)] [(.int (139 : Int32)), (.int (u1 &&& (255 : Int32)))])) target := by
        by_cases hq33 : (u1 &&& (255 : Int32)) = (139 : Int32)
        · skip
          refine ⟨T3, _, X3, e3, N0, fun target kt => ?_⟩
          rw [em4_s0, if_pos hq33] at kt
          show Steps p.tables e below (T3.setTop (mkF m 33 #[.val (.ref x0)] [(.int (139 : Int32)), (.int (u1 &&& (255 : Int32)))])) _
          refine XS.icmpNo X3.here hx rfl (hb hby d1_33) rfl (teq hq33).2 ?_
          show Steps p.tables e below (T3.setTop (mkF m 36 #[.val (.ref x0)] [])) _
          refine XS.iconst X3.here hx rfl (hb hby d1_36) ?_
          show Steps p.tables e below (T3.setTop (mkF m 37 #[.val (.ref x0)] [(.int (1 : Int32))])) _
          refine XS.goto X3.here hx rfl (pc0 := 37) (pc' := 41) rfl (hb hby d1_37) (by decide) (by decide) ?_
          exact kt
        · skip
          refine ⟨T3, _, X3, e3, N0, fun target kt => ?_⟩
          rw [em4_s0, if_neg hq33] at kt
          show Steps p.tables e below (T3.setTop (mkF m 33 #[.val (.ref x0)] [(.int (139 : Int32)), (.int (u1 &&& (255 : Int32)))])) _
          refine XS.icmpYes X3.here hx rfl (pc0 := 33) (pc' := 40) rfl (hb hby d1_33) rfl (feq hq33).2 (by decide) (by decide) ?_
          show Steps p.tables e below (T3.setTop (mkF m 40 #[.val (.ref x0)] [])) _
          refine XS.iconst X3.here hx rfl (hb hby d1_40) ?_
          exact kt
      refine ⟨T4, _, X4, e4, N4, fun target kt => ?_⟩
      rw [em2_s0, if_pos hq18] at kt
      show Steps p.tables e below (T1.setTop (mkF m 18 #[.val (.ref x0)] [(.int (31 : Int32)), (.int (u0 &&& (255 : Int32)))])) _
      refine XS.icmpNo X1.here hx rfl (hb hby d1_18) rfl (teq hq18).2 ?_
      show Steps p.tables e below (T1.setTop (mkF m 21 #[.val (.ref x0)] [])) _
      refine XS.aloadN X1.here hx rfl (hb hby d1_21) rfl rfl ?_
      show Steps p.tables e below (T1.setTop (mkF m 22 #[.val (.ref x0)] [(.ref x0)])) _
      refine XS.iconst X1.here hx rfl (hb hby d1_22) ?_
      show Steps p.tables e below (T1.setTop (mkF m 23 #[.val (.ref x0)] [(.int (1 : Int32)), (.ref x0)])) _
      refine own_ldB X1 hx hZ e1 V_x0 (j := (1 : Int32)) (w := u1) ⟨by decide, by decide⟩ rfl (g := (mkF m 23 #[.val (.ref x0)] [(.int (1 : Int32)), (.ref x0)])) rfl rfl (hb hby d1_23) ?_
      show Steps p.tables e below (T1.setTop (mkF m 24 #[.val (.ref x0)] [(.int u1)])) _
      refine XS.sipush X1.here hx rfl (hb hby d1_24) ?_
      show Steps p.tables e below (T1.setTop (mkF m 27 #[.val (.ref x0)] [(.int (255 : Int32)), (.int u1)])) _
      refine XS.iand X1.here hx rfl (hb hby d1_27) rfl ?_
      show Steps p.tables e below (T1.setTop (mkF m 28 #[.val (.ref x0)] [(.int (u1 &&& (255 : Int32)))])) _
      refine st3 _ ?_
      show Steps p.tables e below (T3.setTop (mkF m 31 #[.val (.ref x0)] [(.ref mg), (.int (u1 &&& (255 : Int32)))])) _
      refine XS.iconst X3.here hx rfl (hb hby d1_31) ?_
      show Steps p.tables e below (T3.setTop (mkF m 32 #[.val (.ref x0)] [(.int (1 : Int32)), (.ref mg), (.int (u1 &&& (255 : Int32)))])) _
      refine own_ldI X3 hx hZ e3 V_mg (j := (1 : Int32)) (w := (139 : Int32)) ⟨by decide, by decide⟩ rfl (g := (mkF m 32 #[.val (.ref x0)] [(.int (1 : Int32)), (.ref mg), (.int (u1 &&& (255 : Int32)))])) rfl rfl (hb hby d1_32) ?_
      show Steps p.tables e below (T3.setTop (mkF m 33 #[.val (.ref x0)] [(.int (139 : Int32)), (.int (u1 &&& (255 : Int32)))])) _
      refine st4 _ ?_
      exact kt
    · skip
      refine ⟨T1, _, X1, e1, N0, fun target kt => ?_⟩
      rw [em2_s0, if_neg hq18] at kt
      show Steps p.tables e below (T1.setTop (mkF m 18 #[.val (.ref x0)] [(.int (31 : Int32)), (.int (u0 &&& (255 : Int32)))])) _
      refine XS.icmpYes X1.here hx rfl (pc0 := 18) (pc' := 40) rfl (hb hby d1_18) rfl (feq hq18).2 (by decide) (by decide) ?_
      show Steps p.tables e below (T1.setTop (mkF m 40 #[.val (.ref x0)] [])) _
      refine XS.iconst X1.here hx rfl (hb hby d1_40) ?_
      exact kt
  obtain ⟨fs, hr, hrun, hended, hW, hsame⟩ := X2.leave (v := some (.int (own_starts u0 u1))) (fun h => by rw [Bd.returns] at h; cases h)
  refine ⟨_, _, pre0 _ ?_, hrun, hended, _, _, rfl, ?_, ⟨_, rfl⟩, hW, hsame.mono (by decide) (by decide)⟩
  · show Steps p.tables e below (s₁.setTop (mkF m 0 #[.val (.ref x0)] [])) _
    refine XS.aloadN X0.here hx rfl (hb hby d1_0) rfl rfl ?_
    show Steps p.tables e below (s₁.setTop (mkF m 1 #[.val (.ref x0)] [(.ref x0)])) _
    refine own_len X0 hx hZ e0 V_x0 (g := (mkF m 1 #[.val (.ref x0)] [(.ref x0)])) rfl rfl (hb hby d1_1) ?_
    show Steps p.tables e below (s₁.setTop (mkF m 2 #[.val (.ref x0)] [(.int (3 : Int32))])) _
    refine XS.iconst X0.here hx rfl (hb hby d1_2) ?_
    show Steps p.tables e below (s₁.setTop (mkF m 3 #[.val (.ref x0)] [(.int (2 : Int32)), (.int (3 : Int32))])) _
    refine XS.icmpNo X0.here hx rfl (hb hby d1_3) rfl (flt (by decide : ¬ ((3 : Int32) < (2 : Int32)))).1 ?_
    show Steps p.tables e below (s₁.setTop (mkF m 6 #[.val (.ref x0)] [])) _
    refine XS.aloadN X0.here hx rfl (hb hby d1_6) rfl rfl ?_
    show Steps p.tables e below (s₁.setTop (mkF m 7 #[.val (.ref x0)] [(.ref x0)])) _
    refine XS.iconst X0.here hx rfl (hb hby d1_7) ?_
    show Steps p.tables e below (s₁.setTop (mkF m 8 #[.val (.ref x0)] [(.int (0 : Int32)), (.ref x0)])) _
    refine own_ldB X0 hx hZ e0 V_x0 (j := (0 : Int32)) (w := u0) ⟨by decide, by decide⟩ rfl (g := (mkF m 8 #[.val (.ref x0)] [(.int (0 : Int32)), (.ref x0)])) rfl rfl (hb hby d1_8) ?_
    show Steps p.tables e below (s₁.setTop (mkF m 9 #[.val (.ref x0)] [(.int u0)])) _
    refine XS.sipush X0.here hx rfl (hb hby d1_9) ?_
    show Steps p.tables e below (s₁.setTop (mkF m 12 #[.val (.ref x0)] [(.int (255 : Int32)), (.int u0)])) _
    refine XS.iand X0.here hx rfl (hb hby d1_12) rfl ?_
    show Steps p.tables e below (s₁.setTop (mkF m 13 #[.val (.ref x0)] [(.int (u0 &&& (255 : Int32)))])) _
    refine st1 _ ?_
    show Steps p.tables e below (T1.setTop (mkF m 16 #[.val (.ref x0)] [(.ref mg), (.int (u0 &&& (255 : Int32)))])) _
    refine XS.iconst X1.here hx rfl (hb hby d1_16) ?_
    show Steps p.tables e below (T1.setTop (mkF m 17 #[.val (.ref x0)] [(.int (0 : Int32)), (.ref mg), (.int (u0 &&& (255 : Int32)))])) _
    refine own_ldI X1 hx hZ e1 V_mg (j := (0 : Int32)) (w := (31 : Int32)) ⟨by decide, by decide⟩ rfl (g := (mkF m 17 #[.val (.ref x0)] [(.int (0 : Int32)), (.ref mg), (.int (u0 &&& (255 : Int32)))])) rfl rfl (hb hby d1_17) ?_
    show Steps p.tables e below (T1.setTop (mkF m 18 #[.val (.ref x0)] [(.int (31 : Int32)), (.int (u0 &&& (255 : Int32)))])) _
    refine st2 _ ?_
    show Steps p.tables e below (T2.setTop (mkF m 41 #[.val (.ref x0)] [(.int m2_s0)])) _
    have hv : own_starts u0 u1 = m2_s0 := by rw [em2_s0, em4_s0]; rfl
    rw [← own_nb u0 u1, hv] at hr
    exact retN X2 hx (t := .boolean) Bd.returns (by simp) (hb hby d1_41) hr
  · exact ⟨rfl, N2, e2⟩
theorem pd___B_Z : parseMethodDescriptor "([B)Z" = some ⟨[(.array .byte)], some .boolean⟩ := by decide +kernel
set_option maxRecDepth 65536 in
set_option maxHeartbeats 40000000 in
theorem rm0_0 (l : Launch) (Z : State) (a0 : Array Value) (hw : ∀ d ∈ tables_1, d.before a0 Z = true) (ws : List Jvm.Cond) (x0 : Int32) (x1 : Int32) (x2 : Int32) (x3 : Int32) (x4 : Int32) (mg : Addr) (km : ClassId) (h0 : Heap) (n0 : Nat) (Z0 : n0 ≤ h0.size) (hn : (x0 &&& (3 : Int32)) = (0 : Int32)) (S_MAGIC : Sta Z h0 "com/example/rootline/rootline/reader/GzipChannel" "MAGIC" "[I" (.ref mg)) (V_mg : Arv Z h0 mg km .int (3 : Int32) [(.int (31 : Int32)), (.int (139 : Int32)), (.int (8 : Int32))] (.int (0 : Int32))) :
    MetFree l x (head1 (Jvm.Cond.code x code maxLocals ret :: ws) room_1) (fun a U => a = #[(.int x0), (.int x1), (.int x2), (.int x3), (.int x4)] ∧ Z.Warmed39 U.vm ∧ U.heap = h0) (fun _ _ _ _ _ => True) (fun _ U o U' => ∃ v L, o = .returned v ∧ (QL n0 v U'.heap L) ∧ FrameEnd U o U' L room_1.cells room_1.slots) := by
  refine MetFree.of_bodySF (plainFor_of_name pn_0) hisR ?_
  intro p e s m args below meth c s₁ Bd hml0 hP hK
  obtain ⟨rfl, hZ, hh⟩ := hP
  have hx := Bd.exec
  have hby := Bd.bytes
  have hml : c.maxLocals = 13 := hml0
  have hown : s.vm.findClass "com/example/rootline/rootline/reader/GzipChannelStartsPinLaw" = some m.cls := findClass_of_methodNamed Bd.named
  have hnm := (name_of_methodNamed Bd.named Bd.method).1
  have X0 : Stand p l e room_1 s m #[(.int x0), (.int x1), (.int x2), (.int x3), (.int x4)] below meth c s₁ [] 0 0 := Stand.of_body Bd
  have e0 : s₁.heap = h0 := by rw [← hh, Bd.state]; rfl
  have N0 := Fr.nil n0
  have pre0 : ∀ t, Steps p.tables e below (s₁.setTop (mkF m 0 #[.val (.int x0), .val (.int x1), .val (.int x2), .val (.int x3), .val (.int x4), .unset, .unset, .unset, .unset, .unset, .unset, .unset, .unset] [])) t → Steps p.tables e below (s₁.setTop (entryFrame m #[(.int x0), (.int x1), (.int x2), (.int x3), (.int x4)] maxLocals)) t := fun t k => castTop (ef_0 m x0 x1 x2 x3 x4) k
  obtain ⟨m1_s0, em1_s0⟩ : ∃ z : Int32, z = (if (x4 &&& (1 : Int32)) = (0 : Int32) then (x1.toInt8.toInt32) else (31 : Int32)) := ⟨_, rfl⟩
  obtain ⟨B0, e_B0⟩ : ∃ z : Int32, z = m1_s0 := ⟨_, rfl⟩
  obtain ⟨m2_s0, em2_s0⟩ : ∃ z : Int32, z = (if (x4 &&& (2 : Int32)) = (0 : Int32) then (x2.toInt8.toInt32) else (-117 : Int32)) := ⟨_, rfl⟩
  obtain ⟨B1, e_B1⟩ : ∃ z : Int32, z = m2_s0 := ⟨_, rfl⟩
  obtain ⟨B2, e_B2⟩ : ∃ z : Int32, z = (x3.toInt8.toInt32) := ⟨_, rfl⟩
  have hb0 : own_byte B0 := by
    rw [e_B0, em1_s0]; split
    · exact own_i2b _
    · unfold own_byte; decide
  have hb1 : own_byte B1 := by
    rw [e_B1, em2_s0]; split
    · exact own_i2b _
    · unfold own_byte; decide
  have hb2 : own_byte B2 := by rw [e_B2]; exact own_i2b _
  have hnb0 := own_nar B0 hb0
  have hnb1 := own_nar B1 hb1
  have hnb2 := own_nar B2 hb2
  obtain ⟨T3, h3, k3, X3, e3, E3, A3, st3⟩ := newP X0 hx hZ (hw _ (List.mem_of_getElem? (i := 0) rfl)) e0 (g := (mkF m 43 #[.val (.int x0), .val (.int x1), .val (.int x2), .val (.int x3), .val (.int x4), .val (.int (0 : Int32)), .val (.int B0), .val (.int B1), .val (.int B2), .unset, .unset, .unset, .unset] [(.int (0 : Int32))])) rfl (hb hby at_43) rfl (by decide) (cap := 0) (by decide) (by decide) (by decide) (by decide)
  obtain ⟨b, g3⟩ : ∃ z, z = h0.size := ⟨_, rfl⟩
  rw [← g3] at A3 st3
  have V_b_3 : Arv Z h3 b k3 .byte (0 : Int32) [] (.int (0 : Int32)) := Arv.new A3 (by decide)
  have lt_mg_b : mg < b := Nat.lt_of_lt_of_le V_mg.lt (Nat.le_of_eq g3.symm)
  have g_b : n0 ≤ b := Nat.le_trans Z0 (Nat.le_of_eq g3.symm)
  have S_MAGIC_4 : Sta Z h3 "com/example/rootline/rootline/reader/GzipChannel" "MAGIC" "[I" (.ref mg) := S_MAGIC.ext E3
  have V_mg_4 : Arv Z h3 mg km .int (3 : Int32) [(.int (31 : Int32)), (.int (139 : Int32)), (.int (8 : Int32))] (.int (0 : Int32)) := V_mg.ext E3
  have siz_4 : n0 ≤ h3.size := Nat.le_trans Z0 E3.1
  have hfin : (0 : Int32) = (0 : Int32) := rfl
  obtain ⟨_, _, ⟨T5, L5, k5, n5⟩, -, X5, ⟨Lc5, hQ5, l5, y5, z5⟩, st5⟩ := Jvm.LawKit.callS X3 hx (y := (⟨"com/example/rootline/rootline/reader/GzipChannel", "starts", "([B)Z"⟩ : MethodName)) hown (mvT hZ (hw _ (List.mem_of_getElem? (i := 1) rfl))) (mvT hZ (hw _ (List.mem_of_getElem? (i := 2) rfl))) (mvT hZ (hw _ (List.mem_of_getElem? (i := 3) rfl))) (mvT hZ (hw _ (List.mem_of_getElem? (i := 4) rfl))) (by decide) (backOf (W := 0) (rm1_0 l Z a0 hw [] b k3 mg km  h3 n0 siz_4 V_b_3 S_MAGIC_4 V_mg_4) hZ (hw _ (List.mem_of_getElem? (i := 4) rfl)) (hw _ (List.mem_of_getElem? (i := 3) rfl)) (by decide) (by decide)) (g := (mkF m 111 #[.val (.int x0), .val (.int x1), .val (.int x2), .val (.int x3), .val (.int x4), .val (.int (0 : Int32)), .val (.int B0), .val (.int B1), .val (.int B2), .val (.ref b), .val (.int (0 : Int32)), .unset, .unset] [(.ref b)])) rfl (by rw [hml]; rfl) (argsL := [(.ref b)]) (rest := []) (lenOf pd___B_Z rfl) rfl (by show 2 * 0 + _ ≤ _; exact Nat.le_of_eq rfl) (hb hby at_111) (fun _ _ => ⟨rfl, e3, (by decide : 1 + 0 ≤ _), (by decide : 0 + 0 ≤ _)⟩)
  dsimp only [Pt.U, Pt.locs, Pt.cells, Pt.slots] at X5 l5 y5 z5 st5 hQ5
  subst l5 y5 z5
  obtain ⟨rfl, N5q, e5⟩ := hQ5
  have N5 := Fr.app N0 N5q
  obtain ⟨fs, hr, hrun, hended, hW, hsame⟩ := X5.leave (v := some (.int (1 : Int32))) (fun h => by rw [Bd.returns] at h; cases h)
  refine ⟨_, _, pre0 _ ?_, hrun, hended, _, _, rfl, ?_, ⟨_, rfl⟩, hW, hsame.mono (by decide) (by decide)⟩
  · show Steps p.tables e below (s₁.setTop (mkF m 0 #[.val (.int x0), .val (.int x1), .val (.int x2), .val (.int x3), .val (.int x4), .unset, .unset, .unset, .unset, .unset, .unset, .unset, .unset] [])) _
    refine XS.iloadN X0.here hx rfl (hb hby at_0) rfl ?_
    show Steps p.tables e below (s₁.setTop (mkF m 1 #[.val (.int x0), .val (.int x1), .val (.int x2), .val (.int x3), .val (.int x4), .unset, .unset, .unset, .unset, .unset, .unset, .unset, .unset] [(.int x0)])) _
    refine XS.iconst X0.here hx rfl (hb hby at_1) ?_
    show Steps p.tables e below (s₁.setTop (mkF m 2 #[.val (.int x0), .val (.int x1), .val (.int x2), .val (.int x3), .val (.int x4), .unset, .unset, .unset, .unset, .unset, .unset, .unset, .unset] [(.int (3 : Int32)), (.int x0)])) _
    refine XS.iand X0.here hx rfl (hb hby at_2) rfl ?_
    show Steps p.tables e below (s₁.setTop (mkF m 3 #[.val (.int x0), .val (.int x1), .val (.int x2), .val (.int x3), .val (.int x4), .unset, .unset, .unset, .unset, .unset, .unset, .unset, .unset] [(.int (x0 &&& (3 : Int32)))])) _
    rw [hn]
    show Steps p.tables e below (s₁.setTop (mkF m 3 #[.val (.int x0), .val (.int x1), .val (.int x2), .val (.int x3), .val (.int x4), .unset, .unset, .unset, .unset, .unset, .unset, .unset, .unset] [(.int (0 : Int32))])) _
    refine XS.istore X0.here hx rfl (hb hby at_3) rfl (l' := #[.val (.int x0), .val (.int x1), .val (.int x2), .val (.int x3), .val (.int x4), .val (.int (0 : Int32)), .unset, .unset, .unset, .unset, .unset, .unset, .unset]) rfl ?_
    show Steps p.tables e below (s₁.setTop (mkF m 5 #[.val (.int x0), .val (.int x1), .val (.int x2), .val (.int x3), .val (.int x4), .val (.int (0 : Int32)), .unset, .unset, .unset, .unset, .unset, .unset, .unset] [])) _
    refine XS.iload X0.here hx rfl (hb hby at_5) rfl ?_
    show Steps p.tables e below (s₁.setTop (mkF m 7 #[.val (.int x0), .val (.int x1), .val (.int x2), .val (.int x3), .val (.int x4), .val (.int (0 : Int32)), .unset, .unset, .unset, .unset, .unset, .unset, .unset] [(.int x4)])) _
    refine XS.iconst X0.here hx rfl (hb hby at_7) ?_
    show Steps p.tables e below (s₁.setTop (mkF m 8 #[.val (.int x0), .val (.int x1), .val (.int x2), .val (.int x3), .val (.int x4), .val (.int (0 : Int32)), .unset, .unset, .unset, .unset, .unset, .unset, .unset] [(.int (1 : Int32)), (.int x4)])) _
    refine XS.iand X0.here hx rfl (hb hby at_8) rfl ?_
    show Steps p.tables e below (s₁.setTop (mkF m 9 #[.val (.int x0), .val (.int x1), .val (.int x2), .val (.int x3), .val (.int x4), .val (.int (0 : Int32)), .unset, .unset, .unset, .unset, .unset, .unset, .unset] [(.int (x4 &&& (1 : Int32)))])) _
    have k1 : ∀ (m1_s0 : Int32) t, ((x4 &&& (1 : Int32)) = (0 : Int32) → m1_s0 = (x1.toInt8.toInt32)) → (¬ ((x4 &&& (1 : Int32)) = (0 : Int32)) → m1_s0 = (31 : Int32)) → Steps p.tables e below (s₁.setTop (mkF m 19 #[.val (.int x0), .val (.int x1), .val (.int x2), .val (.int x3), .val (.int x4), .val (.int (0 : Int32)), .unset, .unset, .unset, .unset, .unset, .unset, .unset] [(.int m1_s0)])) t → Steps p.tables e below (s₁.setTop (mkF m 9 #[.val (.int x0), .val (.int x1), .val (.int x2), .val (.int x3), .val (.int x4), .val (.int (0 : Int32)), .unset, .unset, .unset, .unset, .unset, .unset, .unset] [(.int (x4 &&& (1 : Int32)))])) t := by
      intro m1_s0 t hAm1_s0 hBm1_s0 kk
      by_cases hq9 : (x4 &&& (1 : Int32)) = (0 : Int32)
      · rw [hAm1_s0 hq9] at kk
        refine XS.ifYes X0.here hx rfl (pc0 := 9) (pc' := 17) rfl (hb hby at_9) rfl ((if0 _ _).trans (teq hq9).1) (by decide) (by decide) ?_
        show Steps p.tables e below (s₁.setTop (mkF m 17 #[.val (.int x0), .val (.int x1), .val (.int x2), .val (.int x3), .val (.int x4), .val (.int (0 : Int32)), .unset, .unset, .unset, .unset, .unset, .unset, .unset] [])) _
        refine XS.iloadN X0.here hx rfl (hb hby at_17) rfl ?_
        show Steps p.tables e below (s₁.setTop (mkF m 18 #[.val (.int x0), .val (.int x1), .val (.int x2), .val (.int x3), .val (.int x4), .val (.int (0 : Int32)), .unset, .unset, .unset, .unset, .unset, .unset, .unset] [(.int x1)])) _
        refine XS.i2b X0.here hx rfl (hb hby at_18) rfl ?_
        exact kk
      · rw [hBm1_s0 hq9] at kk
        refine XS.ifNo X0.here hx rfl (hb hby at_9) rfl ((if0 _ _).trans (feq hq9).1) ?_
        show Steps p.tables e below (s₁.setTop (mkF m 12 #[.val (.int x0), .val (.int x1), .val (.int x2), .val (.int x3), .val (.int x4), .val (.int (0 : Int32)), .unset, .unset, .unset, .unset, .unset, .unset, .unset] [])) _
        refine XS.bipush X0.here hx rfl (hb hby at_12) ?_
        show Steps p.tables e below (s₁.setTop (mkF m 14 #[.val (.int x0), .val (.int x1), .val (.int x2), .val (.int x3), .val (.int x4), .val (.int (0 : Int32)), .unset, .unset, .unset, .unset, .unset, .unset, .unset] [(.int (31 : Int32))])) _
        refine XS.goto X0.here hx rfl (pc0 := 14) (pc' := 19) rfl (hb hby at_14) (by decide) (by decide) ?_
        exact kk
    refine k1 m1_s0 _ (fun h => by rw [em1_s0, if_pos h]) (fun h => by rw [em1_s0, if_neg h]) ?_
    show Steps p.tables e below (s₁.setTop (mkF m 19 #[.val (.int x0), .val (.int x1), .val (.int x2), .val (.int x3), .val (.int x4), .val (.int (0 : Int32)), .unset, .unset, .unset, .unset, .unset, .unset, .unset] [(.int m1_s0)])) _
    rw [← e_B0]
    show Steps p.tables e below (s₁.setTop (mkF m 19 #[.val (.int x0), .val (.int x1), .val (.int x2), .val (.int x3), .val (.int x4), .val (.int (0 : Int32)), .unset, .unset, .unset, .unset, .unset, .unset, .unset] [(.int B0)])) _
    refine XS.istore X0.here hx rfl (hb hby at_19) rfl (l' := #[.val (.int x0), .val (.int x1), .val (.int x2), .val (.int x3), .val (.int x4), .val (.int (0 : Int32)), .val (.int B0), .unset, .unset, .unset, .unset, .unset, .unset]) rfl ?_
    show Steps p.tables e below (s₁.setTop (mkF m 21 #[.val (.int x0), .val (.int x1), .val (.int x2), .val (.int x3), .val (.int x4), .val (.int (0 : Int32)), .val (.int B0), .unset, .unset, .unset, .unset, .unset, .unset] [])) _
    refine XS.iload X0.here hx rfl (hb hby at_21) rfl ?_
    show Steps p.tables e below (s₁.setTop (mkF m 23 #[.val (.int x0), .val (.int x1), .val (.int x2), .val (.int x3), .val (.int x4), .val (.int (0 : Int32)), .val (.int B0), .unset, .unset, .unset, .unset, .unset, .unset] [(.int x4)])) _
    refine XS.iconst X0.here hx rfl (hb hby at_23) ?_
    show Steps p.tables e below (s₁.setTop (mkF m 24 #[.val (.int x0), .val (.int x1), .val (.int x2), .val (.int x3), .val (.int x4), .val (.int (0 : Int32)), .val (.int B0), .unset, .unset, .unset, .unset, .unset, .unset] [(.int (2 : Int32)), (.int x4)])) _
    refine XS.iand X0.here hx rfl (hb hby at_24) rfl ?_
    show Steps p.tables e below (s₁.setTop (mkF m 25 #[.val (.int x0), .val (.int x1), .val (.int x2), .val (.int x3), .val (.int x4), .val (.int (0 : Int32)), .val (.int B0), .unset, .unset, .unset, .unset, .unset, .unset] [(.int (x4 &&& (2 : Int32)))])) _
    have k2 : ∀ (m2_s0 : Int32) t, ((x4 &&& (2 : Int32)) = (0 : Int32) → m2_s0 = (x2.toInt8.toInt32)) → (¬ ((x4 &&& (2 : Int32)) = (0 : Int32)) → m2_s0 = (-117 : Int32)) → Steps p.tables e below (s₁.setTop (mkF m 35 #[.val (.int x0), .val (.int x1), .val (.int x2), .val (.int x3), .val (.int x4), .val (.int (0 : Int32)), .val (.int B0), .unset, .unset, .unset, .unset, .unset, .unset] [(.int m2_s0)])) t → Steps p.tables e below (s₁.setTop (mkF m 25 #[.val (.int x0), .val (.int x1), .val (.int x2), .val (.int x3), .val (.int x4), .val (.int (0 : Int32)), .val (.int B0), .unset, .unset, .unset, .unset, .unset, .unset] [(.int (x4 &&& (2 : Int32)))])) t := by
      intro m2_s0 t hAm2_s0 hBm2_s0 kk
      by_cases hq25 : (x4 &&& (2 : Int32)) = (0 : Int32)
      · rw [hAm2_s0 hq25] at kk
        refine XS.ifYes X0.here hx rfl (pc0 := 25) (pc' := 33) rfl (hb hby at_25) rfl ((if0 _ _).trans (teq hq25).1) (by decide) (by decide) ?_
        show Steps p.tables e below (s₁.setTop (mkF m 33 #[.val (.int x0), .val (.int x1), .val (.int x2), .val (.int x3), .val (.int x4), .val (.int (0 : Int32)), .val (.int B0), .unset, .unset, .unset, .unset, .unset, .unset] [])) _
        refine XS.iloadN X0.here hx rfl (hb hby at_33) rfl ?_
        show Steps p.tables e below (s₁.setTop (mkF m 34 #[.val (.int x0), .val (.int x1), .val (.int x2), .val (.int x3), .val (.int x4), .val (.int (0 : Int32)), .val (.int B0), .unset, .unset, .unset, .unset, .unset, .unset] [(.int x2)])) _
        refine XS.i2b X0.here hx rfl (hb hby at_34) rfl ?_
        exact kk
      · rw [hBm2_s0 hq25] at kk
        refine XS.ifNo X0.here hx rfl (hb hby at_25) rfl ((if0 _ _).trans (feq hq25).1) ?_
        show Steps p.tables e below (s₁.setTop (mkF m 28 #[.val (.int x0), .val (.int x1), .val (.int x2), .val (.int x3), .val (.int x4), .val (.int (0 : Int32)), .val (.int B0), .unset, .unset, .unset, .unset, .unset, .unset] [])) _
        refine XS.bipush X0.here hx rfl (hb hby at_28) ?_
        show Steps p.tables e below (s₁.setTop (mkF m 30 #[.val (.int x0), .val (.int x1), .val (.int x2), .val (.int x3), .val (.int x4), .val (.int (0 : Int32)), .val (.int B0), .unset, .unset, .unset, .unset, .unset, .unset] [(.int (-117 : Int32))])) _
        refine XS.goto X0.here hx rfl (pc0 := 30) (pc' := 35) rfl (hb hby at_30) (by decide) (by decide) ?_
        exact kk
    refine k2 m2_s0 _ (fun h => by rw [em2_s0, if_pos h]) (fun h => by rw [em2_s0, if_neg h]) ?_
    show Steps p.tables e below (s₁.setTop (mkF m 35 #[.val (.int x0), .val (.int x1), .val (.int x2), .val (.int x3), .val (.int x4), .val (.int (0 : Int32)), .val (.int B0), .unset, .unset, .unset, .unset, .unset, .unset] [(.int m2_s0)])) _
    rw [← e_B1]
    show Steps p.tables e below (s₁.setTop (mkF m 35 #[.val (.int x0), .val (.int x1), .val (.int x2), .val (.int x3), .val (.int x4), .val (.int (0 : Int32)), .val (.int B0), .unset, .unset, .unset, .unset, .unset, .unset] [(.int B1)])) _
    refine XS.istore X0.here hx rfl (hb hby at_35) rfl (l' := #[.val (.int x0), .val (.int x1), .val (.int x2), .val (.int x3), .val (.int x4), .val (.int (0 : Int32)), .val (.int B0), .val (.int B1), .unset, .unset, .unset, .unset, .unset]) rfl ?_
    show Steps p.tables e below (s₁.setTop (mkF m 37 #[.val (.int x0), .val (.int x1), .val (.int x2), .val (.int x3), .val (.int x4), .val (.int (0 : Int32)), .val (.int B0), .val (.int B1), .unset, .unset, .unset, .unset, .unset] [])) _
    refine XS.iloadN X0.here hx rfl (hb hby at_37) rfl ?_
    show Steps p.tables e below (s₁.setTop (mkF m 38 #[.val (.int x0), .val (.int x1), .val (.int x2), .val (.int x3), .val (.int x4), .val (.int (0 : Int32)), .val (.int B0), .val (.int B1), .unset, .unset, .unset, .unset, .unset] [(.int x3)])) _
    refine XS.i2b X0.here hx rfl (hb hby at_38) rfl ?_
    show Steps p.tables e below (s₁.setTop (mkF m 39 #[.val (.int x0), .val (.int x1), .val (.int x2), .val (.int x3), .val (.int x4), .val (.int (0 : Int32)), .val (.int B0), .val (.int B1), .unset, .unset, .unset, .unset, .unset] [(.int (x3.toInt8.toInt32))])) _
    rw [← e_B2]
    show Steps p.tables e below (s₁.setTop (mkF m 39 #[.val (.int x0), .val (.int x1), .val (.int x2), .val (.int x3), .val (.int x4), .val (.int (0 : Int32)), .val (.int B0), .val (.int B1), .unset, .unset, .unset, .unset, .unset] [(.int B2)])) _
    refine XS.istore X0.here hx rfl (hb hby at_39) rfl (l' := #[.val (.int x0), .val (.int x1), .val (.int x2), .val (.int x3), .val (.int x4), .val (.int (0 : Int32)), .val (.int B0), .val (.int B1), .val (.int B2), .unset, .unset, .unset, .unset]) rfl ?_
    show Steps p.tables e below (s₁.setTop (mkF m 41 #[.val (.int x0), .val (.int x1), .val (.int x2), .val (.int x3), .val (.int x4), .val (.int (0 : Int32)), .val (.int B0), .val (.int B1), .val (.int B2), .unset, .unset, .unset, .unset] [])) _
    refine XS.iload X0.here hx rfl (hb hby at_41) rfl ?_
    show Steps p.tables e below (s₁.setTop (mkF m 43 #[.val (.int x0), .val (.int x1), .val (.int x2), .val (.int x3), .val (.int x4), .val (.int (0 : Int32)), .val (.int B0), .val (.int B1), .val (.int B2), .unset, .unset, .unset, .unset] [(.int (0 : Int32))])) _
    refine st3 _ ?_
    show Steps p.tables e below (T3.setTop (mkF m 45 #[.val (.int x0), .val (.int x1), .val (.int x2), .val (.int x3), .val (.int x4), .val (.int (0 : Int32)), .val (.int B0), .val (.int B1), .val (.int B2), .unset, .unset, .unset, .unset] [(.ref b)])) _
    refine XS.astore X3.here hx rfl (hb hby at_45) rfl rfl (l' := #[.val (.int x0), .val (.int x1), .val (.int x2), .val (.int x3), .val (.int x4), .val (.int (0 : Int32)), .val (.int B0), .val (.int B1), .val (.int B2), .val (.ref b), .unset, .unset, .unset]) rfl ?_
    show Steps p.tables e below (T3.setTop (mkF m 47 #[.val (.int x0), .val (.int x1), .val (.int x2), .val (.int x3), .val (.int x4), .val (.int (0 : Int32)), .val (.int B0), .val (.int B1), .val (.int B2), .val (.ref b), .unset, .unset, .unset] [])) _
    refine XS.iload X3.here hx rfl (hb hby at_47) rfl ?_
    show Steps p.tables e below (T3.setTop (mkF m 49 #[.val (.int x0), .val (.int x1), .val (.int x2), .val (.int x3), .val (.int x4), .val (.int (0 : Int32)), .val (.int B0), .val (.int B1), .val (.int B2), .val (.ref b), .unset, .unset, .unset] [(.int (0 : Int32))])) _
    refine XS.ifYes X3.here hx rfl (pc0 := 49) (pc' := 58) rfl (hb hby at_49) rfl ((if0 _ _).trans (flt (by decide : ¬ ((0 : Int32) < (0 : Int32)))).2.2.2) (by decide) (by decide) ?_
    show Steps p.tables e below (T3.setTop (mkF m 58 #[.val (.int x0), .val (.int x1), .val (.int x2), .val (.int x3), .val (.int x4), .val (.int (0 : Int32)), .val (.int B0), .val (.int B1), .val (.int B2), .val (.ref b), .unset, .unset, .unset] [])) _
    refine XS.iload X3.here hx rfl (hb hby at_58) rfl ?_
    show Steps p.tables e below (T3.setTop (mkF m 60 #[.val (.int x0), .val (.int x1), .val (.int x2), .val (.int x3), .val (.int x4), .val (.int (0 : Int32)), .val (.int B0), .val (.int B1), .val (.int B2), .val (.ref b), .unset, .unset, .unset] [(.int (0 : Int32))])) _
    refine XS.iconst X3.here hx rfl (hb hby at_60) ?_
    show Steps p.tables e below (T3.setTop (mkF m 61 #[.val (.int x0), .val (.int x1), .val (.int x2), .val (.int x3), .val (.int x4), .val (.int (0 : Int32)), .val (.int B0), .val (.int B1), .val (.int B2), .val (.ref b), .unset, .unset, .unset] [(.int (1 : Int32)), (.int (0 : Int32))])) _
    refine XS.icmpYes X3.here hx rfl (pc0 := 61) (pc' := 70) rfl (hb hby at_61) rfl (flt (by decide : ¬ ((1 : Int32) < (0 : Int32)))).2.2.2 (by decide) (by decide) ?_
    show Steps p.tables e below (T3.setTop (mkF m 70 #[.val (.int x0), .val (.int x1), .val (.int x2), .val (.int x3), .val (.int x4), .val (.int (0 : Int32)), .val (.int B0), .val (.int B1), .val (.int B2), .val (.ref b), .unset, .unset, .unset] [])) _
    refine XS.iload X3.here hx rfl (hb hby at_70) rfl ?_
    show Steps p.tables e below (T3.setTop (mkF m 72 #[.val (.int x0), .val (.int x1), .val (.int x2), .val (.int x3), .val (.int x4), .val (.int (0 : Int32)), .val (.int B0), .val (.int B1), .val (.int B2), .val (.ref b), .unset, .unset, .unset] [(.int (0 : Int32))])) _
    refine XS.iconst X3.here hx rfl (hb hby at_72) ?_
    show Steps p.tables e below (T3.setTop (mkF m 73 #[.val (.int x0), .val (.int x1), .val (.int x2), .val (.int x3), .val (.int x4), .val (.int (0 : Int32)), .val (.int B0), .val (.int B1), .val (.int B2), .val (.ref b), .unset, .unset, .unset] [(.int (2 : Int32)), (.int (0 : Int32))])) _
    refine XS.icmpYes X3.here hx rfl (pc0 := 73) (pc' := 82) rfl (hb hby at_73) rfl (flt (by decide : ¬ ((2 : Int32) < (0 : Int32)))).2.2.2 (by decide) (by decide) ?_
    show Steps p.tables e below (T3.setTop (mkF m 82 #[.val (.int x0), .val (.int x1), .val (.int x2), .val (.int x3), .val (.int x4), .val (.int (0 : Int32)), .val (.int B0), .val (.int B1), .val (.int B2), .val (.ref b), .unset, .unset, .unset] [])) _
    refine XS.iload X3.here hx rfl (hb hby at_82) rfl ?_
    show Steps p.tables e below (T3.setTop (mkF m 84 #[.val (.int x0), .val (.int x1), .val (.int x2), .val (.int x3), .val (.int x4), .val (.int (0 : Int32)), .val (.int B0), .val (.int B1), .val (.int B2), .val (.ref b), .unset, .unset, .unset] [(.int (0 : Int32))])) _
    refine XS.iconst X3.here hx rfl (hb hby at_84) ?_
    show Steps p.tables e below (T3.setTop (mkF m 85 #[.val (.int x0), .val (.int x1), .val (.int x2), .val (.int x3), .val (.int x4), .val (.int (0 : Int32)), .val (.int B0), .val (.int B1), .val (.int B2), .val (.ref b), .unset, .unset, .unset] [(.int (2 : Int32)), (.int (0 : Int32))])) _
    refine XS.icmpYes X3.here hx rfl (pc0 := 85) (pc' := 106) rfl (hb hby at_85) rfl (tlt (by decide : (0 : Int32) < (2 : Int32))).1 (by decide) (by decide) ?_
    show Steps p.tables e below (T3.setTop (mkF m 106 #[.val (.int x0), .val (.int x1), .val (.int x2), .val (.int x3), .val (.int x4), .val (.int (0 : Int32)), .val (.int B0), .val (.int B1), .val (.int B2), .val (.ref b), .unset, .unset, .unset] [])) _
    refine XS.iconst X3.here hx rfl (hb hby at_106) ?_
    show Steps p.tables e below (T3.setTop (mkF m 107 #[.val (.int x0), .val (.int x1), .val (.int x2), .val (.int x3), .val (.int x4), .val (.int (0 : Int32)), .val (.int B0), .val (.int B1), .val (.int B2), .val (.ref b), .unset, .unset, .unset] [(.int (0 : Int32))])) _
    refine XS.istore X3.here hx rfl (hb hby at_107) rfl (l' := #[.val (.int x0), .val (.int x1), .val (.int x2), .val (.int x3), .val (.int x4), .val (.int (0 : Int32)), .val (.int B0), .val (.int B1), .val (.int B2), .val (.ref b), .val (.int (0 : Int32)), .unset, .unset]) rfl ?_
    show Steps p.tables e below (T3.setTop (mkF m 109 #[.val (.int x0), .val (.int x1), .val (.int x2), .val (.int x3), .val (.int x4), .val (.int (0 : Int32)), .val (.int B0), .val (.int B1), .val (.int B2), .val (.ref b), .val (.int (0 : Int32)), .unset, .unset] [])) _
    refine XS.aload X3.here hx rfl (hb hby at_109) rfl rfl ?_
    show Steps p.tables e below (T3.setTop (mkF m 111 #[.val (.int x0), .val (.int x1), .val (.int x2), .val (.int x3), .val (.int x4), .val (.int (0 : Int32)), .val (.int B0), .val (.int B1), .val (.int B2), .val (.ref b), .val (.int (0 : Int32)), .unset, .unset] [(.ref b)])) _
    refine st5 _ ?_
    show Steps p.tables e below (T5.setTop (mkF m 114 #[.val (.int x0), .val (.int x1), .val (.int x2), .val (.int x3), .val (.int x4), .val (.int (0 : Int32)), .val (.int B0), .val (.int B1), .val (.int B2), .val (.ref b), .val (.int (0 : Int32)), .unset, .unset] [(.int (0 : Int32))])) _
    refine XS.istore X5.here hx rfl (hb hby at_114) rfl (l' := #[.val (.int x0), .val (.int x1), .val (.int x2), .val (.int x3), .val (.int x4), .val (.int (0 : Int32)), .val (.int B0), .val (.int B1), .val (.int B2), .val (.ref b), .val (.int (0 : Int32)), .val (.int (0 : Int32)), .unset]) rfl ?_
    show Steps p.tables e below (T5.setTop (mkF m 116 #[.val (.int x0), .val (.int x1), .val (.int x2), .val (.int x3), .val (.int x4), .val (.int (0 : Int32)), .val (.int B0), .val (.int B1), .val (.int B2), .val (.ref b), .val (.int (0 : Int32)), .val (.int (0 : Int32)), .unset] [])) _
    refine XS.iload X5.here hx rfl (hb hby at_116) rfl ?_
    show Steps p.tables e below (T5.setTop (mkF m 118 #[.val (.int x0), .val (.int x1), .val (.int x2), .val (.int x3), .val (.int x4), .val (.int (0 : Int32)), .val (.int B0), .val (.int B1), .val (.int B2), .val (.ref b), .val (.int (0 : Int32)), .val (.int (0 : Int32)), .unset] [(.int (0 : Int32))])) _
    refine XS.iconst X5.here hx rfl (hb hby at_118) ?_
    show Steps p.tables e below (T5.setTop (mkF m 119 #[.val (.int x0), .val (.int x1), .val (.int x2), .val (.int x3), .val (.int x4), .val (.int (0 : Int32)), .val (.int B0), .val (.int B1), .val (.int B2), .val (.ref b), .val (.int (0 : Int32)), .val (.int (0 : Int32)), .unset] [(.int (1 : Int32)), (.int (0 : Int32))])) _
    refine XS.icmpYes X5.here hx rfl (pc0 := 119) (pc' := 131) rfl (hb hby at_119) rfl (tlt (by decide : (0 : Int32) < (1 : Int32))).1 (by decide) (by decide) ?_
    show Steps p.tables e below (T5.setTop (mkF m 131 #[.val (.int x0), .val (.int x1), .val (.int x2), .val (.int x3), .val (.int x4), .val (.int (0 : Int32)), .val (.int B0), .val (.int B1), .val (.int B2), .val (.ref b), .val (.int (0 : Int32)), .val (.int (0 : Int32)), .unset] [])) _
    refine XS.iload X5.here hx rfl (hb hby at_131) rfl ?_
    show Steps p.tables e below (T5.setTop (mkF m 133 #[.val (.int x0), .val (.int x1), .val (.int x2), .val (.int x3), .val (.int x4), .val (.int (0 : Int32)), .val (.int B0), .val (.int B1), .val (.int B2), .val (.ref b), .val (.int (0 : Int32)), .val (.int (0 : Int32)), .unset] [(.int (0 : Int32))])) _
    refine XS.iconst X5.here hx rfl (hb hby at_133) ?_
    show Steps p.tables e below (T5.setTop (mkF m 134 #[.val (.int x0), .val (.int x1), .val (.int x2), .val (.int x3), .val (.int x4), .val (.int (0 : Int32)), .val (.int B0), .val (.int B1), .val (.int B2), .val (.ref b), .val (.int (0 : Int32)), .val (.int (0 : Int32)), .unset] [(.int (2 : Int32)), (.int (0 : Int32))])) _
    refine XS.icmpYes X5.here hx rfl (pc0 := 134) (pc' := 146) rfl (hb hby at_134) rfl (tlt (by decide : (0 : Int32) < (2 : Int32))).1 (by decide) (by decide) ?_
    show Steps p.tables e below (T5.setTop (mkF m 146 #[.val (.int x0), .val (.int x1), .val (.int x2), .val (.int x3), .val (.int x4), .val (.int (0 : Int32)), .val (.int B0), .val (.int B1), .val (.int B2), .val (.ref b), .val (.int (0 : Int32)), .val (.int (0 : Int32)), .unset] [])) _
    refine XS.iload X5.here hx rfl (hb hby at_146) rfl ?_
    show Steps p.tables e below (T5.setTop (mkF m 148 #[.val (.int x0), .val (.int x1), .val (.int x2), .val (.int x3), .val (.int x4), .val (.int (0 : Int32)), .val (.int B0), .val (.int B1), .val (.int B2), .val (.ref b), .val (.int (0 : Int32)), .val (.int (0 : Int32)), .unset] [(.int (0 : Int32))])) _
    refine XS.iconst X5.here hx rfl (hb hby at_148) ?_
    show Steps p.tables e below (T5.setTop (mkF m 149 #[.val (.int x0), .val (.int x1), .val (.int x2), .val (.int x3), .val (.int x4), .val (.int (0 : Int32)), .val (.int B0), .val (.int B1), .val (.int B2), .val (.ref b), .val (.int (0 : Int32)), .val (.int (0 : Int32)), .unset] [(.int (3 : Int32)), (.int (0 : Int32))])) _
    refine XS.icmpYes X5.here hx rfl (pc0 := 149) (pc' := 161) rfl (hb hby at_149) rfl (tlt (by decide : (0 : Int32) < (3 : Int32))).1 (by decide) (by decide) ?_
    show Steps p.tables e below (T5.setTop (mkF m 161 #[.val (.int x0), .val (.int x1), .val (.int x2), .val (.int x3), .val (.int x4), .val (.int (0 : Int32)), .val (.int B0), .val (.int B1), .val (.int B2), .val (.ref b), .val (.int (0 : Int32)), .val (.int (0 : Int32)), .unset] [])) _
    refine XS.iconst X5.here hx rfl (hb hby at_161) ?_
    show Steps p.tables e below (T5.setTop (mkF m 162 #[.val (.int x0), .val (.int x1), .val (.int x2), .val (.int x3), .val (.int x4), .val (.int (0 : Int32)), .val (.int B0), .val (.int B1), .val (.int B2), .val (.ref b), .val (.int (0 : Int32)), .val (.int (0 : Int32)), .unset] [(.int (1 : Int32))])) _
    refine XS.goto X5.here hx rfl (pc0 := 162) (pc' := 166) rfl (hb hby at_162) (by decide) (by decide) ?_
    show Steps p.tables e below (T5.setTop (mkF m 166 #[.val (.int x0), .val (.int x1), .val (.int x2), .val (.int x3), .val (.int x4), .val (.int (0 : Int32)), .val (.int B0), .val (.int B1), .val (.int B2), .val (.ref b), .val (.int (0 : Int32)), .val (.int (0 : Int32)), .unset] [(.int (1 : Int32))])) _
    refine XS.istore X5.here hx rfl (hb hby at_166) rfl (l' := #[.val (.int x0), .val (.int x1), .val (.int x2), .val (.int x3), .val (.int x4), .val (.int (0 : Int32)), .val (.int B0), .val (.int B1), .val (.int B2), .val (.ref b), .val (.int (0 : Int32)), .val (.int (0 : Int32)), .val (.int (1 : Int32))]) rfl ?_
    show Steps p.tables e below (T5.setTop (mkF m 168 #[.val (.int x0), .val (.int x1), .val (.int x2), .val (.int x3), .val (.int x4), .val (.int (0 : Int32)), .val (.int B0), .val (.int B1), .val (.int B2), .val (.ref b), .val (.int (0 : Int32)), .val (.int (0 : Int32)), .val (.int (1 : Int32))] [])) _
    refine XS.iload X5.here hx rfl (hb hby at_168) rfl ?_
    show Steps p.tables e below (T5.setTop (mkF m 170 #[.val (.int x0), .val (.int x1), .val (.int x2), .val (.int x3), .val (.int x4), .val (.int (0 : Int32)), .val (.int B0), .val (.int B1), .val (.int B2), .val (.ref b), .val (.int (0 : Int32)), .val (.int (0 : Int32)), .val (.int (1 : Int32))] [(.int (0 : Int32))])) _
    refine XS.iload X5.here hx rfl (hb hby at_170) rfl ?_
    show Steps p.tables e below (T5.setTop (mkF m 172 #[.val (.int x0), .val (.int x1), .val (.int x2), .val (.int x3), .val (.int x4), .val (.int (0 : Int32)), .val (.int B0), .val (.int B1), .val (.int B2), .val (.ref b), .val (.int (0 : Int32)), .val (.int (0 : Int32)), .val (.int (1 : Int32))] [(.int (0 : Int32)), (.int (0 : Int32))])) _
    refine XS.icmpNo X5.here hx rfl (hb hby at_172) rfl (teq (by decide : (0 : Int32) = (0 : Int32))).2 ?_
    show Steps p.tables e below (T5.setTop (mkF m 175 #[.val (.int x0), .val (.int x1), .val (.int x2), .val (.int x3), .val (.int x4), .val (.int (0 : Int32)), .val (.int B0), .val (.int B1), .val (.int B2), .val (.ref b), .val (.int (0 : Int32)), .val (.int (0 : Int32)), .val (.int (1 : Int32))] [])) _
    refine XS.iload X5.here hx rfl (hb hby at_175) rfl ?_
    show Steps p.tables e below (T5.setTop (mkF m 177 #[.val (.int x0), .val (.int x1), .val (.int x2), .val (.int x3), .val (.int x4), .val (.int (0 : Int32)), .val (.int B0), .val (.int B1), .val (.int B2), .val (.ref b), .val (.int (0 : Int32)), .val (.int (0 : Int32)), .val (.int (1 : Int32))] [(.int (1 : Int32))])) _
    refine XS.ifNo X5.here hx rfl (hb hby at_177) rfl ((if0 _ _).trans (feq (by decide : ¬ ((1 : Int32) = (0 : Int32)))).1) ?_
    show Steps p.tables e below (T5.setTop (mkF m 180 #[.val (.int x0), .val (.int x1), .val (.int x2), .val (.int x3), .val (.int x4), .val (.int (0 : Int32)), .val (.int B0), .val (.int B1), .val (.int B2), .val (.ref b), .val (.int (0 : Int32)), .val (.int (0 : Int32)), .val (.int (1 : Int32))] [])) _
    refine XS.iconst X5.here hx rfl (hb hby at_180) ?_
    show Steps p.tables e below (T5.setTop (mkF m 181 #[.val (.int x0), .val (.int x1), .val (.int x2), .val (.int x3), .val (.int x4), .val (.int (0 : Int32)), .val (.int B0), .val (.int B1), .val (.int B2), .val (.ref b), .val (.int (0 : Int32)), .val (.int (0 : Int32)), .val (.int (1 : Int32))] [(.int (1 : Int32))])) _
    refine XS.goto X5.here hx rfl (pc0 := 181) (pc' := 185) rfl (hb hby at_181) (by decide) (by decide) ?_
    show Steps p.tables e below (T5.setTop (mkF m 185 #[.val (.int x0), .val (.int x1), .val (.int x2), .val (.int x3), .val (.int x4), .val (.int (0 : Int32)), .val (.int B0), .val (.int B1), .val (.int B2), .val (.ref b), .val (.int (0 : Int32)), .val (.int (0 : Int32)), .val (.int (1 : Int32))] [(.int (1 : Int32))])) _
    exact retN X5 hx (t := .boolean) Bd.returns (by simp) (hb hby at_185) hr
  · exact ⟨rfl, N5⟩
set_option maxRecDepth 65536 in
set_option maxHeartbeats 40000000 in
theorem rm0_1 (l : Launch) (Z : State) (a0 : Array Value) (hw : ∀ d ∈ tables_1, d.before a0 Z = true) (ws : List Jvm.Cond) (x0 : Int32) (x1 : Int32) (x2 : Int32) (x3 : Int32) (x4 : Int32) (mg : Addr) (km : ClassId) (h0 : Heap) (n0 : Nat) (Z0 : n0 ≤ h0.size) (hn : (x0 &&& (3 : Int32)) = (1 : Int32)) (S_MAGIC : Sta Z h0 "com/example/rootline/rootline/reader/GzipChannel" "MAGIC" "[I" (.ref mg)) (V_mg : Arv Z h0 mg km .int (3 : Int32) [(.int (31 : Int32)), (.int (139 : Int32)), (.int (8 : Int32))] (.int (0 : Int32))) :
    MetFree l x (head1 (Jvm.Cond.code x code maxLocals ret :: ws) room_1) (fun a U => a = #[(.int x0), (.int x1), (.int x2), (.int x3), (.int x4)] ∧ Z.Warmed39 U.vm ∧ U.heap = h0) (fun _ _ _ _ _ => True) (fun _ U o U' => ∃ v L, o = .returned v ∧ (QL n0 v U'.heap L) ∧ FrameEnd U o U' L room_1.cells room_1.slots) := by
  refine MetFree.of_bodySF (plainFor_of_name pn_0) hisR ?_
  intro p e s m args below meth c s₁ Bd hml0 hP hK
  obtain ⟨rfl, hZ, hh⟩ := hP
  have hx := Bd.exec
  have hby := Bd.bytes
  have hml : c.maxLocals = 13 := hml0
  have hown : s.vm.findClass "com/example/rootline/rootline/reader/GzipChannelStartsPinLaw" = some m.cls := findClass_of_methodNamed Bd.named
  have hnm := (name_of_methodNamed Bd.named Bd.method).1
  have X0 : Stand p l e room_1 s m #[(.int x0), (.int x1), (.int x2), (.int x3), (.int x4)] below meth c s₁ [] 0 0 := Stand.of_body Bd
  have e0 : s₁.heap = h0 := by rw [← hh, Bd.state]; rfl
  have N0 := Fr.nil n0
  have pre0 : ∀ t, Steps p.tables e below (s₁.setTop (mkF m 0 #[.val (.int x0), .val (.int x1), .val (.int x2), .val (.int x3), .val (.int x4), .unset, .unset, .unset, .unset, .unset, .unset, .unset, .unset] [])) t → Steps p.tables e below (s₁.setTop (entryFrame m #[(.int x0), (.int x1), (.int x2), (.int x3), (.int x4)] maxLocals)) t := fun t k => castTop (ef_0 m x0 x1 x2 x3 x4) k
  obtain ⟨m1_s0, em1_s0⟩ : ∃ z : Int32, z = (if (x4 &&& (1 : Int32)) = (0 : Int32) then (x1.toInt8.toInt32) else (31 : Int32)) := ⟨_, rfl⟩
  obtain ⟨B0, e_B0⟩ : ∃ z : Int32, z = m1_s0 := ⟨_, rfl⟩
  obtain ⟨m2_s0, em2_s0⟩ : ∃ z : Int32, z = (if (x4 &&& (2 : Int32)) = (0 : Int32) then (x2.toInt8.toInt32) else (-117 : Int32)) := ⟨_, rfl⟩
  obtain ⟨B1, e_B1⟩ : ∃ z : Int32, z = m2_s0 := ⟨_, rfl⟩
  obtain ⟨B2, e_B2⟩ : ∃ z : Int32, z = (x3.toInt8.toInt32) := ⟨_, rfl⟩
  have hb0 : own_byte B0 := by
    rw [e_B0, em1_s0]; split
    · exact own_i2b _
    · unfold own_byte; decide
  have hb1 : own_byte B1 := by
    rw [e_B1, em2_s0]; split
    · exact own_i2b _
    · unfold own_byte; decide
  have hb2 : own_byte B2 := by rw [e_B2]; exact own_i2b _
  have hnb0 := own_nar B0 hb0
  have hnb1 := own_nar B1 hb1
  have hnb2 := own_nar B2 hb2
  obtain ⟨T3, h3, k3, X3, e3, E3, A3, st3⟩ := newP X0 hx hZ (hw _ (List.mem_of_getElem? (i := 0) rfl)) e0 (g := (mkF m 43 #[.val (.int x0), .val (.int x1), .val (.int x2), .val (.int x3), .val (.int x4), .val (.int (1 : Int32)), .val (.int B0), .val (.int B1), .val (.int B2), .unset, .unset, .unset, .unset] [(.int (1 : Int32))])) rfl (hb hby at_43) rfl (by decide) (cap := 1) (by decide) (by decide) (by decide) (by decide)
  obtain ⟨b, g3⟩ : ∃ z, z = h0.size := ⟨_, rfl⟩
  rw [← g3] at A3 st3
  have V_b_3 : Arv Z h3 b k3 .byte (1 : Int32) [(.int (0 : Int32))] (.int (0 : Int32)) := (Arv.new A3 (by decide)).pad (pad_rep [] (.int (0 : Int32)) 1)
  have lt_mg_b : mg < b := Nat.lt_of_lt_of_le V_mg.lt (Nat.le_of_eq g3.symm)
  have g_b : n0 ≤ b := Nat.le_trans Z0 (Nat.le_of_eq g3.symm)
  have S_MAGIC_4 : Sta Z h3 "com/example/rootline/rootline/reader/GzipChannel" "MAGIC" "[I" (.ref mg) := S_MAGIC.ext E3
  have V_mg_4 : Arv Z h3 mg km .int (3 : Int32) [(.int (31 : Int32)), (.int (139 : Int32)), (.int (8 : Int32))] (.int (0 : Int32)) := V_mg.ext E3
  have siz_4 : n0 ≤ h3.size := Nat.le_trans Z0 E3.1
  obtain ⟨T5, h5, L5, X5, e5, N5, W5, V5, st5⟩ := own_stB X3 hx hZ e3 V_b_3 (j := (0 : Int32)) ⟨by decide, by decide⟩ (i := 0) rfl (Nat.le_of_ble_eq_true rfl) N0 g_b (g := (mkF m 57 #[.val (.int x0), .val (.int x1), .val (.int x2), .val (.int x3), .val (.int x4), .val (.int (1 : Int32)), .val (.int B0), .val (.int B1), .val (.int B2), .val (.ref b), .unset, .unset, .unset] [(.int B0), (.int (0 : Int32)), (.ref b)])) rfl rfl (hb hby at_57)
  have S_MAGIC_6 : Sta Z h5 "com/example/rootline/rootline/reader/GzipChannel" "MAGIC" "[I" (.ref mg) := S_MAGIC_4.wr W5
  have V_mg_6 : Arv Z h5 mg km .int (3 : Int32) [(.int (31 : Int32)), (.int (139 : Int32)), (.int (8 : Int32))] (.int (0 : Int32)) := V_mg_4.other W5 (Nat.ne_of_lt lt_mg_b)
  have siz_6 : n0 ≤ h5.size := Nat.le_trans siz_4 (Keep.of_wr W5).1
  have V_b_5 : Arv Z h5 b k3 .byte (1 : Int32) [(.int (nar .byte B0))] (.int (0 : Int32)) := V5
  have hfin : (0 : Int32) = (0 : Int32) := rfl
  obtain ⟨_, _, ⟨T7, L7, k7, n7⟩, -, X7, ⟨Lc7, hQ7, l7, y7, z7⟩, st7⟩ := Jvm.LawKit.callS X5 hx (y := (⟨"com/example/rootline/rootline/reader/GzipChannel", "starts", "([B)Z"⟩ : MethodName)) hown (mvT hZ (hw _ (List.mem_of_getElem? (i := 1) rfl))) (mvT hZ (hw _ (List.mem_of_getElem? (i := 2) rfl))) (mvT hZ (hw _ (List.mem_of_getElem? (i := 3) rfl))) (mvT hZ (hw _ (List.mem_of_getElem? (i := 4) rfl))) (by decide) (backOf (W := 0) (rm1_1 l Z a0 hw [] b k3 mg km (nar .byte B0) h5 n0 siz_6 V_b_5 S_MAGIC_6 V_mg_6) hZ (hw _ (List.mem_of_getElem? (i := 4) rfl)) (hw _ (List.mem_of_getElem? (i := 3) rfl)) (by decide) (by decide)) (g := (mkF m 111 #[.val (.int x0), .val (.int x1), .val (.int x2), .val (.int x3), .val (.int x4), .val (.int (1 : Int32)), .val (.int B0), .val (.int B1), .val (.int B2), .val (.ref b), .val (.int (0 : Int32)), .unset, .unset] [(.ref b)])) rfl (by rw [hml]; rfl) (argsL := [(.ref b)]) (rest := []) (lenOf pd___B_Z rfl) rfl (by show 2 * 0 + _ ≤ _; exact Nat.le_of_eq rfl) (hb hby at_111) (fun _ _ => ⟨rfl, e5, (by decide : 1 + 0 ≤ _), (by decide : 1 + 0 ≤ _)⟩)
  dsimp only [Pt.U, Pt.locs, Pt.cells, Pt.slots] at X7 l7 y7 z7 st7 hQ7
  subst l7 y7 z7
  obtain ⟨rfl, N7q, e7⟩ := hQ7
  have N7 := Fr.app N5 N7q
  obtain ⟨fs, hr, hrun, hended, hW, hsame⟩ := X7.leave (v := some (.int (1 : Int32))) (fun h => by rw [Bd.returns] at h; cases h)
  refine ⟨_, _, pre0 _ ?_, hrun, hended, _, _, rfl, ?_, ⟨_, rfl⟩, hW, hsame.mono (by decide) (by decide)⟩
  · show Steps p.tables e below (s₁.setTop (mkF m 0 #[.val (.int x0), .val (.int x1), .val (.int x2), .val (.int x3), .val (.int x4), .unset, .unset, .unset, .unset, .unset, .unset, .unset, .unset] [])) _
    refine XS.iloadN X0.here hx rfl (hb hby at_0) rfl ?_
    show Steps p.tables e below (s₁.setTop (mkF m 1 #[.val (.int x0), .val (.int x1), .val (.int x2), .val (.int x3), .val (.int x4), .unset, .unset, .unset, .unset, .unset, .unset, .unset, .unset] [(.int x0)])) _
    refine XS.iconst X0.here hx rfl (hb hby at_1) ?_
    show Steps p.tables e below (s₁.setTop (mkF m 2 #[.val (.int x0), .val (.int x1), .val (.int x2), .val (.int x3), .val (.int x4), .unset, .unset, .unset, .unset, .unset, .unset, .unset, .unset] [(.int (3 : Int32)), (.int x0)])) _
    refine XS.iand X0.here hx rfl (hb hby at_2) rfl ?_
    show Steps p.tables e below (s₁.setTop (mkF m 3 #[.val (.int x0), .val (.int x1), .val (.int x2), .val (.int x3), .val (.int x4), .unset, .unset, .unset, .unset, .unset, .unset, .unset, .unset] [(.int (x0 &&& (3 : Int32)))])) _
    rw [hn]
    show Steps p.tables e below (s₁.setTop (mkF m 3 #[.val (.int x0), .val (.int x1), .val (.int x2), .val (.int x3), .val (.int x4), .unset, .unset, .unset, .unset, .unset, .unset, .unset, .unset] [(.int (1 : Int32))])) _
    refine XS.istore X0.here hx rfl (hb hby at_3) rfl (l' := #[.val (.int x0), .val (.int x1), .val (.int x2), .val (.int x3), .val (.int x4), .val (.int (1 : Int32)), .unset, .unset, .unset, .unset, .unset, .unset, .unset]) rfl ?_
    show Steps p.tables e below (s₁.setTop (mkF m 5 #[.val (.int x0), .val (.int x1), .val (.int x2), .val (.int x3), .val (.int x4), .val (.int (1 : Int32)), .unset, .unset, .unset, .unset, .unset, .unset, .unset] [])) _
    refine XS.iload X0.here hx rfl (hb hby at_5) rfl ?_
    show Steps p.tables e below (s₁.setTop (mkF m 7 #[.val (.int x0), .val (.int x1), .val (.int x2), .val (.int x3), .val (.int x4), .val (.int (1 : Int32)), .unset, .unset, .unset, .unset, .unset, .unset, .unset] [(.int x4)])) _
    refine XS.iconst X0.here hx rfl (hb hby at_7) ?_
    show Steps p.tables e below (s₁.setTop (mkF m 8 #[.val (.int x0), .val (.int x1), .val (.int x2), .val (.int x3), .val (.int x4), .val (.int (1 : Int32)), .unset, .unset, .unset, .unset, .unset, .unset, .unset] [(.int (1 : Int32)), (.int x4)])) _
    refine XS.iand X0.here hx rfl (hb hby at_8) rfl ?_
    show Steps p.tables e below (s₁.setTop (mkF m 9 #[.val (.int x0), .val (.int x1), .val (.int x2), .val (.int x3), .val (.int x4), .val (.int (1 : Int32)), .unset, .unset, .unset, .unset, .unset, .unset, .unset] [(.int (x4 &&& (1 : Int32)))])) _
    have k1 : ∀ (m1_s0 : Int32) t, ((x4 &&& (1 : Int32)) = (0 : Int32) → m1_s0 = (x1.toInt8.toInt32)) → (¬ ((x4 &&& (1 : Int32)) = (0 : Int32)) → m1_s0 = (31 : Int32)) → Steps p.tables e below (s₁.setTop (mkF m 19 #[.val (.int x0), .val (.int x1), .val (.int x2), .val (.int x3), .val (.int x4), .val (.int (1 : Int32)), .unset, .unset, .unset, .unset, .unset, .unset, .unset] [(.int m1_s0)])) t → Steps p.tables e below (s₁.setTop (mkF m 9 #[.val (.int x0), .val (.int x1), .val (.int x2), .val (.int x3), .val (.int x4), .val (.int (1 : Int32)), .unset, .unset, .unset, .unset, .unset, .unset, .unset] [(.int (x4 &&& (1 : Int32)))])) t := by
      intro m1_s0 t hAm1_s0 hBm1_s0 kk
      by_cases hq9 : (x4 &&& (1 : Int32)) = (0 : Int32)
      · rw [hAm1_s0 hq9] at kk
        refine XS.ifYes X0.here hx rfl (pc0 := 9) (pc' := 17) rfl (hb hby at_9) rfl ((if0 _ _).trans (teq hq9).1) (by decide) (by decide) ?_
        show Steps p.tables e below (s₁.setTop (mkF m 17 #[.val (.int x0), .val (.int x1), .val (.int x2), .val (.int x3), .val (.int x4), .val (.int (1 : Int32)), .unset, .unset, .unset, .unset, .unset, .unset, .unset] [])) _
        refine XS.iloadN X0.here hx rfl (hb hby at_17) rfl ?_
        show Steps p.tables e below (s₁.setTop (mkF m 18 #[.val (.int x0), .val (.int x1), .val (.int x2), .val (.int x3), .val (.int x4), .val (.int (1 : Int32)), .unset, .unset, .unset, .unset, .unset, .unset, .unset] [(.int x1)])) _
        refine XS.i2b X0.here hx rfl (hb hby at_18) rfl ?_
        exact kk
      · rw [hBm1_s0 hq9] at kk
        refine XS.ifNo X0.here hx rfl (hb hby at_9) rfl ((if0 _ _).trans (feq hq9).1) ?_
        show Steps p.tables e below (s₁.setTop (mkF m 12 #[.val (.int x0), .val (.int x1), .val (.int x2), .val (.int x3), .val (.int x4), .val (.int (1 : Int32)), .unset, .unset, .unset, .unset, .unset, .unset, .unset] [])) _
        refine XS.bipush X0.here hx rfl (hb hby at_12) ?_
        show Steps p.tables e below (s₁.setTop (mkF m 14 #[.val (.int x0), .val (.int x1), .val (.int x2), .val (.int x3), .val (.int x4), .val (.int (1 : Int32)), .unset, .unset, .unset, .unset, .unset, .unset, .unset] [(.int (31 : Int32))])) _
        refine XS.goto X0.here hx rfl (pc0 := 14) (pc' := 19) rfl (hb hby at_14) (by decide) (by decide) ?_
        exact kk
    refine k1 m1_s0 _ (fun h => by rw [em1_s0, if_pos h]) (fun h => by rw [em1_s0, if_neg h]) ?_
    show Steps p.tables e below (s₁.setTop (mkF m 19 #[.val (.int x0), .val (.int x1), .val (.int x2), .val (.int x3), .val (.int x4), .val (.int (1 : Int32)), .unset, .unset, .unset, .unset, .unset, .unset, .unset] [(.int m1_s0)])) _
    rw [← e_B0]
    show Steps p.tables e below (s₁.setTop (mkF m 19 #[.val (.int x0), .val (.int x1), .val (.int x2), .val (.int x3), .val (.int x4), .val (.int (1 : Int32)), .unset, .unset, .unset, .unset, .unset, .unset, .unset] [(.int B0)])) _
    refine XS.istore X0.here hx rfl (hb hby at_19) rfl (l' := #[.val (.int x0), .val (.int x1), .val (.int x2), .val (.int x3), .val (.int x4), .val (.int (1 : Int32)), .val (.int B0), .unset, .unset, .unset, .unset, .unset, .unset]) rfl ?_
    show Steps p.tables e below (s₁.setTop (mkF m 21 #[.val (.int x0), .val (.int x1), .val (.int x2), .val (.int x3), .val (.int x4), .val (.int (1 : Int32)), .val (.int B0), .unset, .unset, .unset, .unset, .unset, .unset] [])) _
    refine XS.iload X0.here hx rfl (hb hby at_21) rfl ?_
    show Steps p.tables e below (s₁.setTop (mkF m 23 #[.val (.int x0), .val (.int x1), .val (.int x2), .val (.int x3), .val (.int x4), .val (.int (1 : Int32)), .val (.int B0), .unset, .unset, .unset, .unset, .unset, .unset] [(.int x4)])) _
    refine XS.iconst X0.here hx rfl (hb hby at_23) ?_
    show Steps p.tables e below (s₁.setTop (mkF m 24 #[.val (.int x0), .val (.int x1), .val (.int x2), .val (.int x3), .val (.int x4), .val (.int (1 : Int32)), .val (.int B0), .unset, .unset, .unset, .unset, .unset, .unset] [(.int (2 : Int32)), (.int x4)])) _
    refine XS.iand X0.here hx rfl (hb hby at_24) rfl ?_
    show Steps p.tables e below (s₁.setTop (mkF m 25 #[.val (.int x0), .val (.int x1), .val (.int x2), .val (.int x3), .val (.int x4), .val (.int (1 : Int32)), .val (.int B0), .unset, .unset, .unset, .unset, .unset, .unset] [(.int (x4 &&& (2 : Int32)))])) _
    have k2 : ∀ (m2_s0 : Int32) t, ((x4 &&& (2 : Int32)) = (0 : Int32) → m2_s0 = (x2.toInt8.toInt32)) → (¬ ((x4 &&& (2 : Int32)) = (0 : Int32)) → m2_s0 = (-117 : Int32)) → Steps p.tables e below (s₁.setTop (mkF m 35 #[.val (.int x0), .val (.int x1), .val (.int x2), .val (.int x3), .val (.int x4), .val (.int (1 : Int32)), .val (.int B0), .unset, .unset, .unset, .unset, .unset, .unset] [(.int m2_s0)])) t → Steps p.tables e below (s₁.setTop (mkF m 25 #[.val (.int x0), .val (.int x1), .val (.int x2), .val (.int x3), .val (.int x4), .val (.int (1 : Int32)), .val (.int B0), .unset, .unset, .unset, .unset, .unset, .unset] [(.int (x4 &&& (2 : Int32)))])) t := by
      intro m2_s0 t hAm2_s0 hBm2_s0 kk
      by_cases hq25 : (x4 &&& (2 : Int32)) = (0 : Int32)
      · rw [hAm2_s0 hq25] at kk
        refine XS.ifYes X0.here hx rfl (pc0 := 25) (pc' := 33) rfl (hb hby at_25) rfl ((if0 _ _).trans (teq hq25).1) (by decide) (by decide) ?_
        show Steps p.tables e below (s₁.setTop (mkF m 33 #[.val (.int x0), .val (.int x1), .val (.int x2), .val (.int x3), .val (.int x4), .val (.int (1 : Int32)), .val (.int B0), .unset, .unset, .unset, .unset, .unset, .unset] [])) _
        refine XS.iloadN X0.here hx rfl (hb hby at_33) rfl ?_
        show Steps p.tables e below (s₁.setTop (mkF m 34 #[.val (.int x0), .val (.int x1), .val (.int x2), .val (.int x3), .val (.int x4), .val (.int (1 : Int32)), .val (.int B0), .unset, .unset, .unset, .unset, .unset, .unset] [(.int x2)])) _
        refine XS.i2b X0.here hx rfl (hb hby at_34) rfl ?_
        exact kk
      · rw [hBm2_s0 hq25] at kk
        refine XS.ifNo X0.here hx rfl (hb hby at_25) rfl ((if0 _ _).trans (feq hq25).1) ?_
        show Steps p.tables e below (s₁.setTop (mkF m 28 #[.val (.int x0), .val (.int x1), .val (.int x2), .val (.int x3), .val (.int x4), .val (.int (1 : Int32)), .val (.int B0), .unset, .unset, .unset, .unset, .unset, .unset] [])) _
        refine XS.bipush X0.here hx rfl (hb hby at_28) ?_
        show Steps p.tables e below (s₁.setTop (mkF m 30 #[.val (.int x0), .val (.int x1), .val (.int x2), .val (.int x3), .val (.int x4), .val (.int (1 : Int32)), .val (.int B0), .unset, .unset, .unset, .unset, .unset, .unset] [(.int (-117 : Int32))])) _
        refine XS.goto X0.here hx rfl (pc0 := 30) (pc' := 35) rfl (hb hby at_30) (by decide) (by decide) ?_
        exact kk
    refine k2 m2_s0 _ (fun h => by rw [em2_s0, if_pos h]) (fun h => by rw [em2_s0, if_neg h]) ?_
    show Steps p.tables e below (s₁.setTop (mkF m 35 #[.val (.int x0), .val (.int x1), .val (.int x2), .val (.int x3), .val (.int x4), .val (.int (1 : Int32)), .val (.int B0), .unset, .unset, .unset, .unset, .unset, .unset] [(.int m2_s0)])) _
    rw [← e_B1]
    show Steps p.tables e below (s₁.setTop (mkF m 35 #[.val (.int x0), .val (.int x1), .val (.int x2), .val (.int x3), .val (.int x4), .val (.int (1 : Int32)), .val (.int B0), .unset, .unset, .unset, .unset, .unset, .unset] [(.int B1)])) _
    refine XS.istore X0.here hx rfl (hb hby at_35) rfl (l' := #[.val (.int x0), .val (.int x1), .val (.int x2), .val (.int x3), .val (.int x4), .val (.int (1 : Int32)), .val (.int B0), .val (.int B1), .unset, .unset, .unset, .unset, .unset]) rfl ?_
    show Steps p.tables e below (s₁.setTop (mkF m 37 #[.val (.int x0), .val (.int x1), .val (.int x2), .val (.int x3), .val (.int x4), .val (.int (1 : Int32)), .val (.int B0), .val (.int B1), .unset, .unset, .unset, .unset, .unset] [])) _
    refine XS.iloadN X0.here hx rfl (hb hby at_37) rfl ?_
    show Steps p.tables e below (s₁.setTop (mkF m 38 #[.val (.int x0), .val (.int x1), .val (.int x2), .val (.int x3), .val (.int x4), .val (.int (1 : Int32)), .val (.int B0), .val (.int B1), .unset, .unset, .unset, .unset, .unset] [(.int x3)])) _
    refine XS.i2b X0.here hx rfl (hb hby at_38) rfl ?_
    show Steps p.tables e below (s₁.setTop (mkF m 39 #[.val (.int x0), .val (.int x1), .val (.int x2), .val (.int x3), .val (.int x4), .val (.int (1 : Int32)), .val (.int B0), .val (.int B1), .unset, .unset, .unset, .unset, .unset] [(.int (x3.toInt8.toInt32))])) _
    rw [← e_B2]
    show Steps p.tables e below (s₁.setTop (mkF m 39 #[.val (.int x0), .val (.int x1), .val (.int x2), .val (.int x3), .val (.int x4), .val (.int (1 : Int32)), .val (.int B0), .val (.int B1), .unset, .unset, .unset, .unset, .unset] [(.int B2)])) _
    refine XS.istore X0.here hx rfl (hb hby at_39) rfl (l' := #[.val (.int x0), .val (.int x1), .val (.int x2), .val (.int x3), .val (.int x4), .val (.int (1 : Int32)), .val (.int B0), .val (.int B1), .val (.int B2), .unset, .unset, .unset, .unset]) rfl ?_
    show Steps p.tables e below (s₁.setTop (mkF m 41 #[.val (.int x0), .val (.int x1), .val (.int x2), .val (.int x3), .val (.int x4), .val (.int (1 : Int32)), .val (.int B0), .val (.int B1), .val (.int B2), .unset, .unset, .unset, .unset] [])) _
    refine XS.iload X0.here hx rfl (hb hby at_41) rfl ?_
    show Steps p.tables e below (s₁.setTop (mkF m 43 #[.val (.int x0), .val (.int x1), .val (.int x2), .val (.int x3), .val (.int x4), .val (.int (1 : Int32)), .val (.int B0), .val (.int B1), .val (.int B2), .unset, .unset, .unset, .unset] [(.int (1 : Int32))])) _
    refine st3 _ ?_
    show Steps p.tables e below (T3.setTop (mkF m 45 #[.val (.int x0), .val (.int x1), .val (.int x2), .val (.int x3), .val (.int x4), .val (.int (1 : Int32)), .val (.int B0), .val (.int B1), .val (.int B2), .unset, .unset, .unset, .unset] [(.ref b)])) _
    refine XS.astore X3.here hx rfl (hb hby at_45) rfl rfl (l' := #[.val (.int x0), .val (.int x1), .val (.int x2), .val (.int x3), .val (.int x4), .val (.int (1 : Int32)), .val (.int B0), .val (.int B1), .val (.int B2), .val (.ref b), .unset, .unset, .unset]) rfl ?_
    show Steps p.tables e below (T3.setTop (mkF m 47 #[.val (.int x0), .val (.int x1), .val (.int x2), .val (.int x3), .val (.int x4), .val (.int (1 : Int32)), .val (.int B0), .val (.int B1), .val (.int B2), .val (.ref b), .unset, .unset, .unset] [])) _
    refine XS.iload X3.here hx rfl (hb hby at_47) rfl ?_
    show Steps p.tables e below (T3.setTop (mkF m 49 #[.val (.int x0), .val (.int x1), .val (.int x2), .val (.int x3), .val (.int x4), .val (.int (1 : Int32)), .val (.int B0), .val (.int B1), .val (.int B2), .val (.ref b), .unset, .unset, .unset] [(.int (1 : Int32))])) _
    refine XS.ifNo X3.here hx rfl (hb hby at_49) rfl ((if0 _ _).trans (tlt (by decide : (0 : Int32) < (1 : Int32))).2.2.2) ?_
    show Steps p.tables e below (T3.setTop (mkF m 52 #[.val (.int x0), .val (.int x1), .val (.int x2), .val (.int x3), .val (.int x4), .val (.int (1 : Int32)), .val (.int B0), .val (.int B1), .val (.int B2), .val (.ref b), .unset, .unset, .unset] [])) _
    refine XS.aload X3.here hx rfl (hb hby at_52) rfl rfl ?_
    show Steps p.tables e below (T3.setTop (mkF m 54 #[.val (.int x0), .val (.int x1), .val (.int x2), .val (.int x3), .val (.int x4), .val (.int (1 : Int32)), .val (.int B0), .val (.int B1), .val (.int B2), .val (.ref b), .unset, .unset, .unset] [(.ref b)])) _
    refine XS.iconst X3.here hx rfl (hb hby at_54) ?_
    show Steps p.tables e below (T3.setTop (mkF m 55 #[.val (.int x0), .val (.int x1), .val (.int x2), .val (.int x3), .val (.int x4), .val (.int (1 : Int32)), .val (.int B0), .val (.int B1), .val (.int B2), .val (.ref b), .unset, .unset, .unset] [(.int (0 : Int32)), (.ref b)])) _
    refine XS.iload X3.here hx rfl (hb hby at_55) rfl ?_
    show Steps p.tables e below (T3.setTop (mkF m 57 #[.val (.int x0), .val (.int x1), .val (.int x2), .val (.int x3), .val (.int x4), .val (.int (1 : Int32)), .val (.int B0), .val (.int B1), .val (.int B2), .val (.ref b), .unset, .unset, .unset] [(.int B0), (.int (0 : Int32)), (.ref b)])) _
    refine st5 _ ?_
    show Steps p.tables e below (T5.setTop (mkF m 58 #[.val (.int x0), .val (.int x1), .val (.int x2), .val (.int x3), .val (.int x4), .val (.int (1 : Int32)), .val (.int B0), .val (.int B1), .val (.int B2), .val (.ref b), .unset, .unset, .unset] [])) _
    refine XS.iload X5.here hx rfl (hb hby at_58) rfl ?_
    show Steps p.tables e below (T5.setTop (mkF m 60 #[.val (.int x0), .val (.int x1), .val (.int x2), .val (.int x3), .val (.int x4), .val (.int (1 : Int32)), .val (.int B0), .val (.int B1), .val (.int B2), .val (.ref b), .unset, .unset, .unset] [(.int (1 : Int32))])) _
    refine XS.iconst X5.here hx rfl (hb hby at_60) ?_
    show Steps p.tables e below (T5.setTop (mkF m 61 #[.val (.int x0), .val (.int x1), .val (.int x2), .val (.int x3), .val (.int x4), .val (.int (1 : Int32)), .val (.int B0), .val (.int B1), .val (.int B2), .val (.ref b), .unset, .unset, .unset] [(.int (1 : Int32)), (.int (1 : Int32))])) _
    refine XS.icmpYes X5.here hx rfl (pc0 := 61) (pc' := 70) rfl (hb hby at_61) rfl (flt (by decide : ¬ ((1 : Int32) < (1 : Int32)))).2.2.2 (by decide) (by decide) ?_
    show Steps p.tables e below (T5.setTop (mkF m 70 #[.val (.int x0), .val (.int x1), .val (.int x2), .val (.int x3), .val (.int x4), .val (.int (1 : Int32)), .val (.int B0), .val (.int B1), .val (.int B2), .val (.ref b), .unset, .unset, .unset] [])) _
    refine XS.iload X5.here hx rfl (hb hby at_70) rfl ?_
    show Steps p.tables e below (T5.setTop (mkF m 72 #[.val (.int x0), .val (.int x1), .val (.int x2), .val (.int x3), .val (.int x4), .val (.int (1 : Int32)), .val (.int B0), .val (.int B1), .val (.int B2), .val (.ref b), .unset, .unset, .unset] [(.int (1 : Int32))])) _
    refine XS.iconst X5.here hx rfl (hb hby at_72) ?_
    show Steps p.tables e below (T5.setTop (mkF m 73 #[.val (.int x0), .val (.int x1), .val (.int x2), .val (.int x3), .val (.int x4), .val (.int (1 : Int32)), .val (.int B0), .val (.int B1), .val (.int B2), .val (.ref b), .unset, .unset, .unset] [(.int (2 : Int32)), (.int (1 : Int32))])) _
    refine XS.icmpYes X5.here hx rfl (pc0 := 73) (pc' := 82) rfl (hb hby at_73) rfl (flt (by decide : ¬ ((2 : Int32) < (1 : Int32)))).2.2.2 (by decide) (by decide) ?_
    show Steps p.tables e below (T5.setTop (mkF m 82 #[.val (.int x0), .val (.int x1), .val (.int x2), .val (.int x3), .val (.int x4), .val (.int (1 : Int32)), .val (.int B0), .val (.int B1), .val (.int B2), .val (.ref b), .unset, .unset, .unset] [])) _
    refine XS.iload X5.here hx rfl (hb hby at_82) rfl ?_
    show Steps p.tables e below (T5.setTop (mkF m 84 #[.val (.int x0), .val (.int x1), .val (.int x2), .val (.int x3), .val (.int x4), .val (.int (1 : Int32)), .val (.int B0), .val (.int B1), .val (.int B2), .val (.ref b), .unset, .unset, .unset] [(.int (1 : Int32))])) _
    refine XS.iconst X5.here hx rfl (hb hby at_84) ?_
    show Steps p.tables e below (T5.setTop (mkF m 85 #[.val (.int x0), .val (.int x1), .val (.int x2), .val (.int x3), .val (.int x4), .val (.int (1 : Int32)), .val (.int B0), .val (.int B1), .val (.int B2), .val (.ref b), .unset, .unset, .unset] [(.int (2 : Int32)), (.int (1 : Int32))])) _
    refine XS.icmpYes X5.here hx rfl (pc0 := 85) (pc' := 106) rfl (hb hby at_85) rfl (tlt (by decide : (1 : Int32) < (2 : Int32))).1 (by decide) (by decide) ?_
    show Steps p.tables e below (T5.setTop (mkF m 106 #[.val (.int x0), .val (.int x1), .val (.int x2), .val (.int x3), .val (.int x4), .val (.int (1 : Int32)), .val (.int B0), .val (.int B1), .val (.int B2), .val (.ref b), .unset, .unset, .unset] [])) _
    refine XS.iconst X5.here hx rfl (hb hby at_106) ?_
    show Steps p.tables e below (T5.setTop (mkF m 107 #[.val (.int x0), .val (.int x1), .val (.int x2), .val (.int x3), .val (.int x4), .val (.int (1 : Int32)), .val (.int B0), .val (.int B1), .val (.int B2), .val (.ref b), .unset, .unset, .unset] [(.int (0 : Int32))])) _
    refine XS.istore X5.here hx rfl (hb hby at_107) rfl (l' := #[.val (.int x0), .val (.int x1), .val (.int x2), .val (.int x3), .val (.int x4), .val (.int (1 : Int32)), .val (.int B0), .val (.int B1), .val (.int B2), .val (.ref b), .val (.int (0 : Int32)), .unset, .unset]) rfl ?_
    show Steps p.tables e below (T5.setTop (mkF m 109 #[.val (.int x0), .val (.int x1), .val (.int x2), .val (.int x3), .val (.int x4), .val (.int (1 : Int32)), .val (.int B0), .val (.int B1), .val (.int B2), .val (.ref b), .val (.int (0 : Int32)), .unset, .unset] [])) _
    refine XS.aload X5.here hx rfl (hb hby at_109) rfl rfl ?_
    show Steps p.tables e below (T5.setTop (mkF m 111 #[.val (.int x0), .val (.int x1), .val (.int x2), .val (.int x3), .val (.int x4), .val (.int (1 : Int32)), .val (.int B0), .val (.int B1), .val (.int B2), .val (.ref b), .val (.int (0 : Int32)), .unset, .unset] [(.ref b)])) _
    refine st7 _ ?_
    show Steps p.tables e below (T7.setTop (mkF m 114 #[.val (.int x0), .val (.int x1), .val (.int x2), .val (.int x3), .val (.int x4), .val (.int (1 : Int32)), .val (.int B0), .val (.int B1), .val (.int B2), .val (.ref b), .val (.int (0 : Int32)), .unset, .unset] [(.int (0 : Int32))])) _
    refine XS.istore X7.here hx rfl (hb hby at_114) rfl (l' := #[.val (.int x0), .val (.int x1), .val (.int x2), .val (.int x3), .val (.int x4), .val (.int (1 : Int32)), .val (.int B0), .val (.int B1), .val (.int B2), .val (.ref b), .val (.int (0 : Int32)), .val (.int (0 : Int32)), .unset]) rfl ?_
    show Steps p.tables e below (T7.setTop (mkF m 116 #[.val (.int x0), .val (.int x1), .val (.int x2), .val (.int x3), .val (.int x4), .val (.int (1 : Int32)), .val (.int B0), .val (.int B1), .val (.int B2), .val (.ref b), .val (.int (0 : Int32)), .val (.int (0 : Int32)), .unset] [])) _
    refine XS.iload X7.here hx rfl (hb hby at_116) rfl ?_
    show Steps p.tables e below (T7.setTop (mkF m 118 #[.val (.int x0), .val (.int x1), .val (.int x2), .val (.int x3), .val (.int x4), .val (.int (1 : Int32)), .val (.int B0), .val (.int B1), .val (.int B2), .val (.ref b), .val (.int (0 : Int32)), .val (.int (0 : Int32)), .unset] [(.int (1 : Int32))])) _
    refine XS.iconst X7.here hx rfl (hb hby at_118) ?_
    show Steps p.tables e below (T7.setTop (mkF m 119 #[.val (.int x0), .val (.int x1), .val (.int x2), .val (.int x3), .val (.int x4), .val (.int (1 : Int32)), .val (.int B0), .val (.int B1), .val (.int B2), .val (.ref b), .val (.int (0 : Int32)), .val (.int (0 : Int32)), .unset] [(.int (1 : Int32)), (.int (1 : Int32))])) _
    refine XS.icmpNo X7.here hx rfl (hb hby at_119) rfl (flt (by decide : ¬ ((1 : Int32) < (1 : Int32)))).1 ?_
    show Steps p.tables e below (T7.setTop (mkF m 122 #[.val (.int x0), .val (.int x1), .val (.int x2), .val (.int x3), .val (.int x4), .val (.int (1 : Int32)), .val (.int B0), .val (.int B1), .val (.int B2), .val (.ref b), .val (.int (0 : Int32)), .val (.int (0 : Int32)), .unset] [])) _
    refine XS.aload X7.here hx rfl (hb hby at_122) rfl rfl ?_
    show Steps p.tables e below (T7.setTop (mkF m 124 #[.val (.int x0), .val (.int x1), .val (.int x2), .val (.int x3), .val (.int x4), .val (.int (1 : Int32)), .val (.int B0), .val (.int B1), .val (.int B2), .val (.ref b), .val (.int (0 : Int32)), .val (.int (0 : Int32)), .unset] [(.ref b)])) _
    refine XS.iconst X7.here hx rfl (hb hby at_124) ?_
    show Steps p.tables e below (T7.setTop (mkF m 125 #[.val (.int x0), .val (.int x1), .val (.int x2), .val (.int x3), .val (.int x4), .val (.int (1 : Int32)), .val (.int B0), .val (.int B1), .val (.int B2), .val (.ref b), .val (.int (0 : Int32)), .val (.int (0 : Int32)), .unset] [(.int (0 : Int32)), (.ref b)])) _
    refine own_ldB X7 hx hZ e7 V_b_5 (j := (0 : Int32)) (w := (nar .byte B0)) ⟨by decide, by decide⟩ rfl (g := (mkF m 125 #[.val (.int x0), .val (.int x1), .val (.int x2), .val (.int x3), .val (.int x4), .val (.int (1 : Int32)), .val (.int B0), .val (.int B1), .val (.int B2), .val (.ref b), .val (.int (0 : Int32)), .val (.int (0 : Int32)), .unset] [(.int (0 : Int32)), (.ref b)])) rfl rfl (hb hby at_125) ?_
    show Steps p.tables e below (T7.setTop (mkF m 126 #[.val (.int x0), .val (.int x1), .val (.int x2), .val (.int x3), .val (.int x4), .val (.int (1 : Int32)), .val (.int B0), .val (.int B1), .val (.int B2), .val (.ref b), .val (.int (0 : Int32)), .val (.int (0 : Int32)), .unset] [(.int (nar .byte B0))])) _
    refine XS.iload X7.here hx rfl (hb hby at_126) rfl ?_
    show Steps p.tables e below (T7.setTop (mkF m 128 #[.val (.int x0), .val (.int x1), .val (.int x2), .val (.int x3), .val (.int x4), .val (.int (1 : Int32)), .val (.int B0), .val (.int B1), .val (.int B2), .val (.ref b), .val (.int (0 : Int32)), .val (.int (0 : Int32)), .unset] [(.int B0), (.int (nar .byte B0))])) _
    refine XS.icmpNo X7.here hx rfl (hb hby at_128) rfl (teq hnb0).2 ?_
    show Steps p.tables e below (T7.setTop (mkF m 131 #[.val (.int x0), .val (.int x1), .val (.int x2), .val (.int x3), .val (.int x4), .val (.int (1 : Int32)), .val (.int B0), .val (.int B1), .val (.int B2), .val (.ref b), .val (.int (0 : Int32)), .val (.int (0 : Int32)), .unset] [])) _
    refine XS.iload X7.here hx rfl (hb hby at_131) rfl ?_
    show Steps p.tables e below (T7.setTop (mkF m 133 #[.val (.int x0), .val (.int x1), .val (.int x2), .val (.int x3), .val (.int x4), .val (.int (1 : Int32)), .val (.int B0), .val (.int B1), .val (.int B2), .val (.ref b), .val (.int (0 : Int32)), .val (.int (0 : Int32)), .unset] [(.int (1 : Int32))])) _
    refine XS.iconst X7.here hx rfl (hb hby at_133) ?_
    show Steps p.tables e below (T7.setTop (mkF m 134 #[.val (.int x0), .val (.int x1), .val (.int x2), .val (.int x3), .val (.int x4), .val (.int (1 : Int32)), .val (.int B0), .val (.int B1), .val (.int B2), .val (.ref b), .val (.int (0 : Int32)), .val (.int (0 : Int32)), .unset] [(.int (2 : Int32)), (.int (1 : Int32))])) _
    refine XS.icmpYes X7.here hx rfl (pc0 := 134) (pc' := 146) rfl (hb hby at_134) rfl (tlt (by decide : (1 : Int32) < (2 : Int32))).1 (by decide) (by decide) ?_
    show Steps p.tables e below (T7.setTop (mkF m 146 #[.val (.int x0), .val (.int x1), .val (.int x2), .val (.int x3), .val (.int x4), .val (.int (1 : Int32)), .val (.int B0), .val (.int B1), .val (.int B2), .val (.ref b), .val (.int (0 : Int32)), .val (.int (0 : Int32)), .unset] [])) _
    refine XS.iload X7.here hx rfl (hb hby at_146) rfl ?_
    show Steps p.tables e below (T7.setTop (mkF m 148 #[.val (.int x0), .val (.int x1), .val (.int x2), .val (.int x3), .val (.int x4), .val (.int (1 : Int32)), .val (.int B0), .val (.int B1), .val (.int B2), .val (.ref b), .val (.int (0 : Int32)), .val (.int (0 : Int32)), .unset] [(.int (1 : Int32))])) _
    refine XS.iconst X7.here hx rfl (hb hby at_148) ?_
    show Steps p.tables e below (T7.setTop (mkF m 149 #[.val (.int x0), .val (.int x1), .val (.int x2), .val (.int x3), .val (.int x4), .val (.int (1 : Int32)), .val (.int B0), .val (.int B1), .val (.int B2), .val (.ref b), .val (.int (0 : Int32)), .val (.int (0 : Int32)), .unset] [(.int (3 : Int32)), (.int (1 : Int32))])) _
    refine XS.icmpYes X7.here hx rfl (pc0 := 149) (pc' := 161) rfl (hb hby at_149) rfl (tlt (by decide : (1 : Int32) < (3 : Int32))).1 (by decide) (by decide) ?_
    show Steps p.tables e below (T7.setTop (mkF m 161 #[.val (.int x0), .val (.int x1), .val (.int x2), .val (.int x3), .val (.int x4), .val (.int (1 : Int32)), .val (.int B0), .val (.int B1), .val (.int B2), .val (.ref b), .val (.int (0 : Int32)), .val (.int (0 : Int32)), .unset] [])) _
    refine XS.iconst X7.here hx rfl (hb hby at_161) ?_
    show Steps p.tables e below (T7.setTop (mkF m 162 #[.val (.int x0), .val (.int x1), .val (.int x2), .val (.int x3), .val (.int x4), .val (.int (1 : Int32)), .val (.int B0), .val (.int B1), .val (.int B2), .val (.ref b), .val (.int (0 : Int32)), .val (.int (0 : Int32)), .unset] [(.int (1 : Int32))])) _
    refine XS.goto X7.here hx rfl (pc0 := 162) (pc' := 166) rfl (hb hby at_162) (by decide) (by decide) ?_
    show Steps p.tables e below (T7.setTop (mkF m 166 #[.val (.int x0), .val (.int x1), .val (.int x2), .val (.int x3), .val (.int x4), .val (.int (1 : Int32)), .val (.int B0), .val (.int B1), .val (.int B2), .val (.ref b), .val (.int (0 : Int32)), .val (.int (0 : Int32)), .unset] [(.int (1 : Int32))])) _
    refine XS.istore X7.here hx rfl (hb hby at_166) rfl (l' := #[.val (.int x0), .val (.int x1), .val (.int x2), .val (.int x3), .val (.int x4), .val (.int (1 : Int32)), .val (.int B0), .val (.int B1), .val (.int B2), .val (.ref b), .val (.int (0 : Int32)), .val (.int (0 : Int32)), .val (.int (1 : Int32))]) rfl ?_
    show Steps p.tables e below (T7.setTop (mkF m 168 #[.val (.int x0), .val (.int x1), .val (.int x2), .val (.int x3), .val (.int x4), .val (.int (1 : Int32)), .val (.int B0), .val (.int B1), .val (.int B2), .val (.ref b), .val (.int (0 : Int32)), .val (.int (0 : Int32)), .val (.int (1 : Int32))] [])) _
    refine XS.iload X7.here hx rfl (hb hby at_168) rfl ?_
    show Steps p.tables e below (T7.setTop (mkF m 170 #[.val (.int x0), .val (.int x1), .val (.int x2), .val (.int x3), .val (.int x4), .val (.int (1 : Int32)), .val (.int B0), .val (.int B1), .val (.int B2), .val (.ref b), .val (.int (0 : Int32)), .val (.int (0 : Int32)), .val (.int (1 : Int32))] [(.int (0 : Int32))])) _
    refine XS.iload X7.here hx rfl (hb hby at_170) rfl ?_
    show Steps p.tables e below (T7.setTop (mkF m 172 #[.val (.int x0), .val (.int x1), .val (.int x2), .val (.int x3), .val (.int x4), .val (.int (1 : Int32)), .val (.int B0), .val (.int B1), .val (.int B2), .val (.ref b), .val (.int (0 : Int32)), .val (.int (0 : Int32)), .val (.int (1 : Int32))] [(.int (0 : Int32)), (.int (0 : Int32))])) _
    refine XS.icmpNo X7.here hx rfl (hb hby at_172) rfl (teq (by decide : (0 : Int32) = (0 : Int32))).2 ?_
    show Steps p.tables e below (T7.setTop (mkF m 175 #[.val (.int x0), .val (.int x1), .val (.int x2), .val (.int x3), .val (.int x4), .val (.int (1 : Int32)), .val (.int B0), .val (.int B1), .val (.int B2), .val (.ref b), .val (.int (0 : Int32)), .val (.int (0 : Int32)), .val (.int (1 : Int32))] [])) _
    refine XS.iload X7.here hx rfl (hb hby at_175) rfl ?_
    show Steps p.tables e below (T7.setTop (mkF m 177 #[.val (.int x0), .val (.int x1), .val (.int x2), .val (.int x3), .val (.int x4), .val (.int (1 : Int32)), .val (.int B0), .val (.int B1), .val (.int B2), .val (.ref b), .val (.int (0 : Int32)), .val (.int (0 : Int32)), .val (.int (1 : Int32))] [(.int (1 : Int32))])) _
    refine XS.ifNo X7.here hx rfl (hb hby at_177) rfl ((if0 _ _).trans (feq (by decide : ¬ ((1 : Int32) = (0 : Int32)))).1) ?_
    show Steps p.tables e below (T7.setTop (mkF m 180 #[.val (.int x0), .val (.int x1), .val (.int x2), .val (.int x3), .val (.int x4), .val (.int (1 : Int32)), .val (.int B0), .val (.int B1), .val (.int B2), .val (.ref b), .val (.int (0 : Int32)), .val (.int (0 : Int32)), .val (.int (1 : Int32))] [])) _
    refine XS.iconst X7.here hx rfl (hb hby at_180) ?_
    show Steps p.tables e below (T7.setTop (mkF m 181 #[.val (.int x0), .val (.int x1), .val (.int x2), .val (.int x3), .val (.int x4), .val (.int (1 : Int32)), .val (.int B0), .val (.int B1), .val (.int B2), .val (.ref b), .val (.int (0 : Int32)), .val (.int (0 : Int32)), .val (.int (1 : Int32))] [(.int (1 : Int32))])) _
    refine XS.goto X7.here hx rfl (pc0 := 181) (pc' := 185) rfl (hb hby at_181) (by decide) (by decide) ?_
    show Steps p.tables e below (T7.setTop (mkF m 185 #[.val (.int x0), .val (.int x1), .val (.int x2), .val (.int x3), .val (.int x4), .val (.int (1 : Int32)), .val (.int B0), .val (.int B1), .val (.int B2), .val (.ref b), .val (.int (0 : Int32)), .val (.int (0 : Int32)), .val (.int (1 : Int32))] [(.int (1 : Int32))])) _
    exact retN X7 hx (t := .boolean) Bd.returns (by simp) (hb hby at_185) hr
  · exact ⟨rfl, N7⟩
set_option maxRecDepth 65536 in
set_option maxHeartbeats 40000000 in
theorem rm0_2 (l : Launch) (Z : State) (a0 : Array Value) (hw : ∀ d ∈ tables_1, d.before a0 Z = true) (ws : List Jvm.Cond) (x0 : Int32) (x1 : Int32) (x2 : Int32) (x3 : Int32) (x4 : Int32) (mg : Addr) (km : ClassId) (h0 : Heap) (n0 : Nat) (Z0 : n0 ≤ h0.size) (hn : (x0 &&& (3 : Int32)) = (2 : Int32)) (S_MAGIC : Sta Z h0 "com/example/rootline/rootline/reader/GzipChannel" "MAGIC" "[I" (.ref mg)) (V_mg : Arv Z h0 mg km .int (3 : Int32) [(.int (31 : Int32)), (.int (139 : Int32)), (.int (8 : Int32))] (.int (0 : Int32))) :
    MetFree l x (head1 (Jvm.Cond.code x code maxLocals ret :: ws) room_1) (fun a U => a = #[(.int x0), (.int x1), (.int x2), (.int x3), (.int x4)] ∧ Z.Warmed39 U.vm ∧ U.heap = h0) (fun _ _ _ _ _ => True) (fun _ U o U' => ∃ v L, o = .returned v ∧ (QL n0 v U'.heap L) ∧ FrameEnd U o U' L room_1.cells room_1.slots) := by
  refine MetFree.of_bodySF (plainFor_of_name pn_0) hisR ?_
  intro p e s m args below meth c s₁ Bd hml0 hP hK
  obtain ⟨rfl, hZ, hh⟩ := hP
  have hx := Bd.exec
  have hby := Bd.bytes
  have hml : c.maxLocals = 13 := hml0
  have hown : s.vm.findClass "com/example/rootline/rootline/reader/GzipChannelStartsPinLaw" = some m.cls := findClass_of_methodNamed Bd.named
  have hnm := (name_of_methodNamed Bd.named Bd.method).1
  have X0 : Stand p l e room_1 s m #[(.int x0), (.int x1), (.int x2), (.int x3), (.int x4)] below meth c s₁ [] 0 0 := Stand.of_body Bd
  have e0 : s₁.heap = h0 := by rw [← hh, Bd.state]; rfl
  have N0 := Fr.nil n0
  have pre0 : ∀ t, Steps p.tables e below (s₁.setTop (mkF m 0 #[.val (.int x0), .val (.int x1), .val (.int x2), .val (.int x3), .val (.int x4), .unset, .unset, .unset, .unset, .unset, .unset, .unset, .unset] [])) t → Steps p.tables e below (s₁.setTop (entryFrame m #[(.int x0), (.int x1), (.int x2), (.int x3), (.int x4)] maxLocals)) t := fun t k => castTop (ef_0 m x0 x1 x2 x3 x4) k
  obtain ⟨m1_s0, em1_s0⟩ : ∃ z : Int32, z = (if (x4 &&& (1 : Int32)) = (0 : Int32) then (x1.toInt8.toInt32) else (31 : Int32)) := ⟨_, rfl⟩
  obtain ⟨B0, e_B0⟩ : ∃ z : Int32, z = m1_s0 := ⟨_, rfl⟩
  obtain ⟨m2_s0, em2_s0⟩ : ∃ z : Int32, z = (if (x4 &&& (2 : Int32)) = (0 : Int32) then (x2.toInt8.toInt32) else (-117 : Int32)) := ⟨_, rfl⟩
  obtain ⟨B1, e_B1⟩ : ∃ z : Int32, z = m2_s0 := ⟨_, rfl⟩
  obtain ⟨B2, e_B2⟩ : ∃ z : Int32, z = (x3.toInt8.toInt32) := ⟨_, rfl⟩
  have hb0 : own_byte B0 := by
    rw [e_B0, em1_s0]; split
    · exact own_i2b _
    · unfold own_byte; decide
  have hb1 : own_byte B1 := by
    rw [e_B1, em2_s0]; split
    · exact own_i2b _
    · unfold own_byte; decide
  have hb2 : own_byte B2 := by rw [e_B2]; exact own_i2b _
  have hnb0 := own_nar B0 hb0
  have hnb1 := own_nar B1 hb1
  have hnb2 := own_nar B2 hb2
  obtain ⟨T3, h3, k3, X3, e3, E3, A3, st3⟩ := newP X0 hx hZ (hw _ (List.mem_of_getElem? (i := 0) rfl)) e0 (g := (mkF m 43 #[.val (.int x0), .val (.int x1), .val (.int x2), .val (.int x3), .val (.int x4), .val (.int (2 : Int32)), .val (.int B0), .val (.int B1), .val (.int B2), .unset, .unset, .unset, .unset] [(.int (2 : Int32))])) rfl (hb hby at_43) rfl (by decide) (cap := 2) (by decide) (by decide) (by decide) (by decide)
  obtain ⟨b, g3⟩ : ∃ z, z = h0.size := ⟨_, rfl⟩
  rw [← g3] at A3 st3
  have V_b_3 : Arv Z h3 b k3 .byte (2 : Int32) [(.int (0 : Int32)), (.int (0 : Int32))] (.int (0 : Int32)) := (Arv.new A3 (by decide)).pad (pad_rep [] (.int (0 : Int32)) 2)
  have lt_mg_b : mg < b := Nat.lt_of_lt_of_le V_mg.lt (Nat.le_of_eq g3.symm)
  have g_b : n0 ≤ b := Nat.le_trans Z0 (Nat.le_of_eq g3.symm)
  have S_MAGIC_4 : Sta Z h3 "com/example/rootline/rootline/reader/GzipChannel" "MAGIC" "[I" (.ref mg) := S_MAGIC.ext E3
  have V_mg_4 : Arv Z h3 mg km .int (3 : Int32) [(.int (31 : Int32)), (.int (139 : Int32)), (.int (8 : Int32))] (.int (0 : Int32)) := V_mg.ext E3
  have siz_4 : n0 ≤ h3.size := Nat.le_trans Z0 E3.1
  obtain ⟨T5, h5, L5, X5, e5, N5, W5, V5, st5⟩ := own_stB X3 hx hZ e3 V_b_3 (j := (0 : Int32)) ⟨by decide, by decide⟩ (i := 0) rfl (Nat.le_of_ble_eq_true rfl) N0 g_b (g := (mkF m 57 #[.val (.int x0), .val (.int x1), .val (.int x2), .val (.int x3), .val (.int x4), .val (.int (2 : Int32)), .val (.int B0), .val (.int B1), .val (.int B2), .val (.ref b), .unset, .unset, .unset] [(.int B0), (.int (0 : Int32)), (.ref b)])) rfl rfl (hb hby at_57)
  have S_MAGIC_6 : Sta Z h5 "com/example/rootline/rootline/reader/GzipChannel" "MAGIC" "[I" (.ref mg) := S_MAGIC_4.wr W5
  have V_mg_6 : Arv Z h5 mg km .int (3 : Int32) [(.int (31 : Int32)), (.int (139 : Int32)), (.int (8 : Int32))] (.int (0 : Int32)) := V_mg_4.other W5 (Nat.ne_of_lt lt_mg_b)
  have siz_6 : n0 ≤ h5.size := Nat.le_trans siz_4 (Keep.of_wr W5).1
  have V_b_5 : Arv Z h5 b k3 .byte (2 : Int32) [(.int (nar .byte B0)), (.int (0 : Int32))] (.int (0 : Int32)) := V5
  obtain ⟨T7, h7, L7, X7, e7, N7, W7, V7, st7⟩ := own_stB X5 hx hZ e5 V_b_5 (j := (1 : Int32)) ⟨by decide, by decide⟩ (i := 1) rfl (Nat.le_of_ble_eq_true rfl) N5 g_b (g := (mkF m 69 #[.val (.int x0), .val (.int x1), .val (.int x2), .val (.int x3), .val (.int x4), .val (.int (2 : Int32)), .val (.int B0), .val (.int B1), .val (.int B2), .val (.ref b), .unset, .unset, .unset] [(.int B1), (.int (1 : Int32)), (.ref b)])) rfl rfl (hb hby at_69)
  have S_MAGIC_8 : Sta Z h7 "com/example/rootline/rootline/reader/GzipChannel" "MAGIC" "[I" (.ref mg) := S_MAGIC_6.wr W7
  have V_mg_8 : Arv Z h7 mg km .int (3 : Int32) [(.int (31 : Int32)), (.int (139 : Int32)), (.int (8 : Int32))] (.int (0 : Int32)) := V_mg_6.other W7 (Nat.ne_of_lt lt_mg_b)
  have siz_8 : n0 ≤ h7.size := Nat.le_trans siz_6 (Keep.of_wr W7).1
  have V_b_7 : Arv Z h7 b k3 .byte (2 : Int32) [(.int (nar .byte B0)), (.int (nar .byte B1))] (.int (0 : Int32)) := V7
  obtain ⟨m10_s0, em10_s0⟩ : ∃ z : Int32, z = (if B1 = (-117 : Int32) then (1 : Int32) else (0 : Int32)) := ⟨_, rfl⟩
  obtain ⟨m9_s0, em9_s0⟩ : ∃ z : Int32, z = (if B0 = (31 : Int32) then m10_s0 else (0 : Int32)) := ⟨_, rfl⟩
  have hfin : own_starts (nar .byte B0) (nar .byte B1) = m9_s0 := by rw [hnb0, hnb1, own_same B0 B1 hb0 hb1, em9_s0, em10_s0]; rfl
  obtain ⟨_, _, ⟨T11, L11, k11, n11⟩, -, X11, ⟨Lc11, hQ11, l11, y11, z11⟩, st11⟩ := Jvm.LawKit.callS X7 hx (y := (⟨"com/example/rootline/rootline/reader/GzipChannel", "starts", "([B)Z"⟩ : MethodName)) hown (mvT hZ (hw _ (List.mem_of_getElem? (i := 1) rfl))) (mvT hZ (hw _ (List.mem_of_getElem? (i := 2) rfl))) (mvT hZ (hw _ (List.mem_of_getElem? (i := 3) rfl))) (mvT hZ (hw _ (List.mem_of_getElem? (i := 4) rfl))) (by decide) (backOf (W := 0) (rm1_2 l Z a0 hw [] b k3 mg km (nar .byte B0) (nar .byte B1) h7 n0 siz_8 V_b_7 S_MAGIC_8 V_mg_8) hZ (hw _ (List.mem_of_getElem? (i := 4) rfl)) (hw _ (List.mem_of_getElem? (i := 3) rfl)) (by decide) (by decide)) (g := (mkF m 111 #[.val (.int x0), .val (.int x1), .val (.int x2), .val (.int x3), .val (.int x4), .val (.int (2 : Int32)), .val (.int B0), .val (.int B1), .val (.int B2), .val (.ref b), .val (.int m9_s0), .unset, .unset] [(.ref b)])) rfl (by rw [hml]; rfl) (argsL := [(.ref b)]) (rest := []) (lenOf pd___B_Z rfl) rfl (by show 2 * 0 + _ ≤ _; exact Nat.le_of_eq rfl) (hb hby at_111) (fun _ _ => ⟨rfl, e7, (by decide : 1 + 0 ≤ _), (by decide : 2 + 0 ≤ _)⟩)
  dsimp only [Pt.U, Pt.locs, Pt.cells, Pt.slots] at X11 l11 y11 z11 st11 hQ11
  subst l11 y11 z11
  obtain ⟨rfl, N11q, e11⟩ := hQ11
  have N11 := Fr.app N7 N11q
  obtain ⟨fs, hr, hrun, hended, hW, hsame⟩ := X11.leave (v := some (.int (1 : Int32))) (fun h => by rw [Bd.returns] at h; cases h)
  refine ⟨_, _, pre0 _ ?_, hrun, hended, _, _, rfl, ?_, ⟨_, rfl⟩, hW, hsame.mono (by decide) (by decide)⟩
  · show Steps p.tables e below (s₁.setTop (mkF m 0 #[.val (.int x0), .val (.int x1), .val (.int x2), .val (.int x3), .val (.int x4), .unset, .unset, .unset, .unset, .unset, .unset, .unset, .unset] [])) _
    refine XS.iloadN X0.here hx rfl (hb hby at_0) rfl ?_
    show Steps p.tables e below (s₁.setTop (mkF m 1 #[.val (.int x0), .val (.int x1), .val (.int x2), .val (.int x3), .val (.int x4), .unset, .unset, .unset, .unset, .unset, .unset, .unset, .unset] [(.int x0)])) _
    refine XS.iconst X0.here hx rfl (hb hby at_1) ?_
    show Steps p.tables e below (s₁.setTop (mkF m 2 #[.val (.int x0), .val (.int x1), .val (.int x2), .val (.int x3), .val (.int x4), .unset, .unset, .unset, .unset, .unset, .unset, .unset, .unset] [(.int (3 : Int32)), (.int x0)])) _
    refine XS.iand X0.here hx rfl (hb hby at_2) rfl ?_
    show Steps p.tables e below (s₁.setTop (mkF m 3 #[.val (.int x0), .val (.int x1), .val (.int x2), .val (.int x3), .val (.int x4), .unset, .unset, .unset, .unset, .unset, .unset, .unset, .unset] [(.int (x0 &&& (3 : Int32)))])) _
    rw [hn]
    show Steps p.tables e below (s₁.setTop (mkF m 3 #[.val (.int x0), .val (.int x1), .val (.int x2), .val (.int x3), .val (.int x4), .unset, .unset, .unset, .unset, .unset, .unset, .unset, .unset] [(.int (2 : Int32))])) _
    refine XS.istore X0.here hx rfl (hb hby at_3) rfl (l' := #[.val (.int x0), .val (.int x1), .val (.int x2), .val (.int x3), .val (.int x4), .val (.int (2 : Int32)), .unset, .unset, .unset, .unset, .unset, .unset, .unset]) rfl ?_
    show Steps p.tables e below (s₁.setTop (mkF m 5 #[.val (.int x0), .val (.int x1), .val (.int x2), .val (.int x3), .val (.int x4), .val (.int (2 : Int32)), .unset, .unset, .unset, .unset, .unset, .unset, .unset] [])) _
    refine XS.iload X0.here hx rfl (hb hby at_5) rfl ?_
    show Steps p.tables e below (s₁.setTop (mkF m 7 #[.val (.int x0), .val (.int x1), .val (.int x2), .val (.int x3), .val (.int x4), .val (.int (2 : Int32)), .unset, .unset, .unset, .unset, .unset, .unset, .unset] [(.int x4)])) _
    refine XS.iconst X0.here hx rfl (hb hby at_7) ?_
    show Steps p.tables e below (s₁.setTop (mkF m 8 #[.val (.int x0), .val (.int x1), .val (.int x2), .val (.int x3), .val (.int x4), .val (.int (2 : Int32)), .unset, .unset, .unset, .unset, .unset, .unset, .unset] [(.int (1 : Int32)), (.int x4)])) _
    refine XS.iand X0.here hx rfl (hb hby at_8) rfl ?_
    show Steps p.tables e below (s₁.setTop (mkF m 9 #[.val (.int x0), .val (.int x1), .val (.int x2), .val (.int x3), .val (.int x4), .val (.int (2 : Int32)), .unset, .unset, .unset, .unset, .unset, .unset, .unset] [(.int (x4 &&& (1 : Int32)))])) _
    have k1 : ∀ (m1_s0 : Int32) t, ((x4 &&& (1 : Int32)) = (0 : Int32) → m1_s0 = (x1.toInt8.toInt32)) → (¬ ((x4 &&& (1 : Int32)) = (0 : Int32)) → m1_s0 = (31 : Int32)) → Steps p.tables e below (s₁.setTop (mkF m 19 #[.val (.int x0), .val (.int x1), .val (.int x2), .val (.int x3), .val (.int x4), .val (.int (2 : Int32)), .unset, .unset, .unset, .unset, .unset, .unset, .unset] [(.int m1_s0)])) t → Steps p.tables e below (s₁.setTop (mkF m 9 #[.val (.int x0), .val (.int x1), .val (.int x2), .val (.int x3), .val (.int x4), .val (.int (2 : Int32)), .unset, .unset, .unset, .unset, .unset, .unset, .unset] [(.int (x4 &&& (1 : Int32)))])) t := by
      intro m1_s0 t hAm1_s0 hBm1_s0 kk
      by_cases hq9 : (x4 &&& (1 : Int32)) = (0 : Int32)
      · rw [hAm1_s0 hq9] at kk
        refine XS.ifYes X0.here hx rfl (pc0 := 9) (pc' := 17) rfl (hb hby at_9) rfl ((if0 _ _).trans (teq hq9).1) (by decide) (by decide) ?_
        show Steps p.tables e below (s₁.setTop (mkF m 17 #[.val (.int x0), .val (.int x1), .val (.int x2), .val (.int x3), .val (.int x4), .val (.int (2 : Int32)), .unset, .unset, .unset, .unset, .unset, .unset, .unset] [])) _
        refine XS.iloadN X0.here hx rfl (hb hby at_17) rfl ?_
        show Steps p.tables e below (s₁.setTop (mkF m 18 #[.val (.int x0), .val (.int x1), .val (.int x2), .val (.int x3), .val (.int x4), .val (.int (2 : Int32)), .unset, .unset, .unset, .unset, .unset, .unset, .unset] [(.int x1)])) _
        refine XS.i2b X0.here hx rfl (hb hby at_18) rfl ?_
        exact kk
      · rw [hBm1_s0 hq9] at kk
        refine XS.ifNo X0.here hx rfl (hb hby at_9) rfl ((if0 _ _).trans (feq hq9).1) ?_
        show Steps p.tables e below (s₁.setTop (mkF m 12 #[.val (.int x0), .val (.int x1), .val (.int x2), .val (.int x3), .val (.int x4), .val (.int (2 : Int32)), .unset, .unset, .unset, .unset, .unset, .unset, .unset] [])) _
        refine XS.bipush X0.here hx rfl (hb hby at_12) ?_
        show Steps p.tables e below (s₁.setTop (mkF m 14 #[.val (.int x0), .val (.int x1), .val (.int x2), .val (.int x3), .val (.int x4), .val (.int (2 : Int32)), .unset, .unset, .unset, .unset, .unset, .unset, .unset] [(.int (31 : Int32))])) _
        refine XS.goto X0.here hx rfl (pc0 := 14) (pc' := 19) rfl (hb hby at_14) (by decide) (by decide) ?_
        exact kk
    refine k1 m1_s0 _ (fun h => by rw [em1_s0, if_pos h]) (fun h => by rw [em1_s0, if_neg h]) ?_
    show Steps p.tables e below (s₁.setTop (mkF m 19 #[.val (.int x0), .val (.int x1), .val (.int x2), .val (.int x3), .val (.int x4), .val (.int (2 : Int32)), .unset, .unset, .unset, .unset, .unset, .unset, .unset] [(.int m1_s0)])) _
    rw [← e_B0]
    show Steps p.tables e below (s₁.setTop (mkF m 19 #[.val (.int x0), .val (.int x1), .val (.int x2), .val (.int x3), .val (.int x4), .val (.int (2 : Int32)), .unset, .unset, .unset, .unset, .unset, .unset, .unset] [(.int B0)])) _
    refine XS.istore X0.here hx rfl (hb hby at_19) rfl (l' := #[.val (.int x0), .val (.int x1), .val (.int x2), .val (.int x3), .val (.int x4), .val (.int (2 : Int32)), .val (.int B0), .unset, .unset, .unset, .unset, .unset, .unset]) rfl ?_
    show Steps p.tables e below (s₁.setTop (mkF m 21 #[.val (.int x0), .val (.int x1), .val (.int x2), .val (.int x3), .val (.int x4), .val (.int (2 : Int32)), .val (.int B0), .unset, .unset, .unset, .unset, .unset, .unset] [])) _
    refine XS.iload X0.here hx rfl (hb hby at_21) rfl ?_
    show Steps p.tables e below (s₁.setTop (mkF m 23 #[.val (.int x0), .val (.int x1), .val (.int x2), .val (.int x3), .val (.int x4), .val (.int (2 : Int32)), .val (.int B0), .unset, .unset, .unset, .unset, .unset, .unset] [(.int x4)])) _
    refine XS.iconst X0.here hx rfl (hb hby at_23) ?_
    show Steps p.tables e below (s₁.setTop (mkF m 24 #[.val (.int x0), .val (.int x1), .val (.int x2), .val (.int x3), .val (.int x4), .val (.int (2 : Int32)), .val (.int B0), .unset, .unset, .unset, .unset, .unset, .unset] [(.int (2 : Int32)), (.int x4)])) _
    refine XS.iand X0.here hx rfl (hb hby at_24) rfl ?_
    show Steps p.tables e below (s₁.setTop (mkF m 25 #[.val (.int x0), .val (.int x1), .val (.int x2), .val (.int x3), .val (.int x4), .val (.int (2 : Int32)), .val (.int B0), .unset, .unset, .unset, .unset, .unset, .unset] [(.int (x4 &&& (2 : Int32)))])) _
    have k2 : ∀ (m2_s0 : Int32) t, ((x4 &&& (2 : Int32)) = (0 : Int32) → m2_s0 = (x2.toInt8.toInt32)) → (¬ ((x4 &&& (2 : Int32)) = (0 : Int32)) → m2_s0 = (-117 : Int32)) → Steps p.tables e below (s₁.setTop (mkF m 35 #[.val (.int x0), .val (.int x1), .val (.int x2), .val (.int x3), .val (.int x4), .val (.int (2 : Int32)), .val (.int B0), .unset, .unset, .unset, .unset, .unset, .unset] [(.int m2_s0)])) t → Steps p.tables e below (s₁.setTop (mkF m 25 #[.val (.int x0), .val (.int x1), .val (.int x2), .val (.int x3), .val (.int x4), .val (.int (2 : Int32)), .val (.int B0), .unset, .unset, .unset, .unset, .unset, .unset] [(.int (x4 &&& (2 : Int32)))])) t := by
      intro m2_s0 t hAm2_s0 hBm2_s0 kk
      by_cases hq25 : (x4 &&& (2 : Int32)) = (0 : Int32)
      · rw [hAm2_s0 hq25] at kk
        refine XS.ifYes X0.here hx rfl (pc0 := 25) (pc' := 33) rfl (hb hby at_25) rfl ((if0 _ _).trans (teq hq25).1) (by decide) (by decide) ?_
        show Steps p.tables e below (s₁.setTop (mkF m 33 #[.val (.int x0), .val (.int x1), .val (.int x2), .val (.int x3), .val (.int x4), .val (.int (2 : Int32)), .val (.int B0), .unset, .unset, .unset, .unset, .unset, .unset] [])) _
        refine XS.iloadN X0.here hx rfl (hb hby at_33) rfl ?_
        show Steps p.tables e below (s₁.setTop (mkF m 34 #[.val (.int x0), .val (.int x1), .val (.int x2), .val (.int x3), .val (.int x4), .val (.int (2 : Int32)), .val (.int B0), .unset, .unset, .unset, .unset, .unset, .unset] [(.int x2)])) _
        refine XS.i2b X0.here hx rfl (hb hby at_34) rfl ?_
        exact kk
      · rw [hBm2_s0 hq25] at kk
        refine XS.ifNo X0.here hx rfl (hb hby at_25) rfl ((if0 _ _).trans (feq hq25).1) ?_
        show Steps p.tables e below (s₁.setTop (mkF m 28 #[.val (.int x0), .val (.int x1), .val (.int x2), .val (.int x3), .val (.int x4), .val (.int (2 : Int32)), .val (.int B0), .unset, .unset, .unset, .unset, .unset, .unset] [])) _
        refine XS.bipush X0.here hx rfl (hb hby at_28) ?_
        show Steps p.tables e below (s₁.setTop (mkF m 30 #[.val (.int x0), .val (.int x1), .val (.int x2), .val (.int x3), .val (.int x4), .val (.int (2 : Int32)), .val (.int B0), .unset, .unset, .unset, .unset, .unset, .unset] [(.int (-117 : Int32))])) _
        refine XS.goto X0.here hx rfl (pc0 := 30) (pc' := 35) rfl (hb hby at_30) (by decide) (by decide) ?_
        exact kk
    refine k2 m2_s0 _ (fun h => by rw [em2_s0, if_pos h]) (fun h => by rw [em2_s0, if_neg h]) ?_
    show Steps p.tables e below (s₁.setTop (mkF m 35 #[.val (.int x0), .val (.int x1), .val (.int x2), .val (.int x3), .val (.int x4), .val (.int (2 : Int32)), .val (.int B0), .unset, .unset, .unset, .unset, .unset, .unset] [(.int m2_s0)])) _
    rw [← e_B1]
    show Steps p.tables e below (s₁.setTop (mkF m 35 #[.val (.int x0), .val (.int x1), .val (.int x2), .val (.int x3), .val (.int x4), .val (.int (2 : Int32)), .val (.int B0), .unset, .unset, .unset, .unset, .unset, .unset] [(.int B1)])) _
    refine XS.istore X0.here hx rfl (hb hby at_35) rfl (l' := #[.val (.int x0), .val (.int x1), .val (.int x2), .val (.int x3), .val (.int x4), .val (.int (2 : Int32)), .val (.int B0), .val (.int B1), .unset, .unset, .unset, .unset, .unset]) rfl ?_
    show Steps p.tables e below (s₁.setTop (mkF m 37 #[.val (.int x0), .val (.int x1), .val (.int x2), .val (.int x3), .val (.int x4), .val (.int (2 : Int32)), .val (.int B0), .val (.int B1), .unset, .unset, .unset, .unset, .unset] [])) _
    refine XS.iloadN X0.here hx rfl (hb hby at_37) rfl ?_
    show Steps p.tables e below (s₁.setTop (mkF m 38 #[.val (.int x0), .val (.int x1), .val (.int x2), .val (.int x3), .val (.int x4), .val (.int (2 : Int32)), .val (.int B0), .val (.int B1), .unset, .unset, .unset, .unset, .unset] [(.int x3)])) _
    refine XS.i2b X0.here hx rfl (hb hby at_38) rfl ?_
    show Steps p.tables e below (s₁.setTop (mkF m 39 #[.val (.int x0), .val (.int x1), .val (.int x2), .val (.int x3), .val (.int x4), .val (.int (2 : Int32)), .val (.int B0), .val (.int B1), .unset, .unset, .unset, .unset, .unset] [(.int (x3.toInt8.toInt32))])) _
    rw [← e_B2]
    show Steps p.tables e below (s₁.setTop (mkF m 39 #[.val (.int x0), .val (.int x1), .val (.int x2), .val (.int x3), .val (.int x4), .val (.int (2 : Int32)), .val (.int B0), .val (.int B1), .unset, .unset, .unset, .unset, .unset] [(.int B2)])) _
    refine XS.istore X0.here hx rfl (hb hby at_39) rfl (l' := #[.val (.int x0), .val (.int x1), .val (.int x2), .val (.int x3), .val (.int x4), .val (.int (2 : Int32)), .val (.int B0), .val (.int B1), .val (.int B2), .unset, .unset, .unset, .unset]) rfl ?_
    show Steps p.tables e below (s₁.setTop (mkF m 41 #[.val (.int x0), .val (.int x1), .val (.int x2), .val (.int x3), .val (.int x4), .val (.int (2 : Int32)), .val (.int B0), .val (.int B1), .val (.int B2), .unset, .unset, .unset, .unset] [])) _
    refine XS.iload X0.here hx rfl (hb hby at_41) rfl ?_
    show Steps p.tables e below (s₁.setTop (mkF m 43 #[.val (.int x0), .val (.int x1), .val (.int x2), .val (.int x3), .val (.int x4), .val (.int (2 : Int32)), .val (.int B0), .val (.int B1), .val (.int B2), .unset, .unset, .unset, .unset] [(.int (2 : Int32))])) _
    refine st3 _ ?_
    show Steps p.tables e below (T3.setTop (mkF m 45 #[.val (.int x0), .val (.int x1), .val (.int x2), .val (.int x3), .val (.int x4), .val (.int (2 : Int32)), .val (.int B0), .val (.int B1), .val (.int B2), .unset, .unset, .unset, .unset] [(.ref b)])) _
    refine XS.astore X3.here hx rfl (hb hby at_45) rfl rfl (l' := #[.val (.int x0), .val (.int x1), .val (.int x2), .val (.int x3), .val (.int x4), .val (.int (2 : Int32)), .val (.int B0), .val (.int B1), .val (.int B2), .val (.ref b), .unset, .unset, .unset]) rfl ?_
    show Steps p.tables e below (T3.setTop (mkF m 47 #[.val (.int x0), .val (.int x1), .val (.int x2), .val (.int x3), .val (.int x4), .val (.int (2 : Int32)), .val (.int B0), .val (.int B1), .val (.int B2), .val (.ref b), .unset, .unset, .unset] [])) _
    refine XS.iload X3.here hx rfl (hb hby at_47) rfl ?_
    show Steps p.tables e below (T3.setTop (mkF m 49 #[.val (.int x0), .val (.int x1), .val (.int x2), .val (.int x3), .val (.int x4), .val (.int (2 : Int32)), .val (.int B0), .val (.int B1), .val (.int B2), .val (.ref b), .unset, .unset, .unset] [(.int (2 : Int32))])) _
    refine XS.ifNo X3.here hx rfl (hb hby at_49) rfl ((if0 _ _).trans (tlt (by decide : (0 : Int32) < (2 : Int32))).2.2.2) ?_
    show Steps p.tables e below (T3.setTop (mkF m 52 #[.val (.int x0), .val (.int x1), .val (.int x2), .val (.int x3), .val (.int x4), .val (.int (2 : Int32)), .val (.int B0), .val (.int B1), .val (.int B2), .val (.ref b), .unset, .unset, .unset] [])) _
    refine XS.aload X3.here hx rfl (hb hby at_52) rfl rfl ?_
    show Steps p.tables e below (T3.setTop (mkF m 54 #[.val (.int x0), .val (.int x1), .val (.int x2), .val (.int x3), .val (.int x4), .val (.int (2 : Int32)), .val (.int B0), .val (.int B1), .val (.int B2), .val (.ref b), .unset, .unset, .unset] [(.ref b)])) _
    refine XS.iconst X3.here hx rfl (hb hby at_54) ?_
    show Steps p.tables e below (T3.setTop (mkF m 55 #[.val (.int x0), .val (.int x1), .val (.int x2), .val (.int x3), .val (.int x4), .val (.int (2 : Int32)), .val (.int B0), .val (.int B1), .val (.int B2), .val (.ref b), .unset, .unset, .unset] [(.int (0 : Int32)), (.ref b)])) _
    refine XS.iload X3.here hx rfl (hb hby at_55) rfl ?_
    show Steps p.tables e below (T3.setTop (mkF m 57 #[.val (.int x0), .val (.int x1), .val (.int x2), .val (.int x3), .val (.int x4), .val (.int (2 : Int32)), .val (.int B0), .val (.int B1), .val (.int B2), .val (.ref b), .unset, .unset, .unset] [(.int B0), (.int (0 : Int32)), (.ref b)])) _
    refine st5 _ ?_
    show Steps p.tables e below (T5.setTop (mkF m 58 #[.val (.int x0), .val (.int x1), .val (.int x2), .val (.int x3), .val (.int x4), .val (.int (2 : Int32)), .val (.int B0), .val (.int B1), .val (.int B2), .val (.ref b), .unset, .unset, .unset] [])) _
    refine XS.iload X5.here hx rfl (hb hby at_58) rfl ?_
    show Steps p.tables e below (T5.setTop (mkF m 60 #[.val (.int x0), .val (.int x1), .val (.int x2), .val (.int x3), .val (.int x4), .val (.int (2 : Int32)), .val (.int B0), .val (.int B1), .val (.int B2), .val (.ref b), .unset, .unset, .unset] [(.int (2 : Int32))])) _
    refine XS.iconst X5.here hx rfl (hb hby at_60) ?_
    show Steps p.tables e below (T5.setTop (mkF m 61 #[.val (.int x0), .val (.int x1), .val (.int x2), .val (.int x3), .val (.int x4), .val (.int (2 : Int32)), .val (.int B0), .val (.int B1), .val (.int B2), .val (.ref b), .unset, .unset, .unset] [(.int (1 : Int32)), (.int (2 : Int32))])) _
    refine XS.icmpNo X5.here hx rfl (hb hby at_61) rfl (tlt (by decide : (1 : Int32) < (2 : Int32))).2.2.2 ?_
    show Steps p.tables e below (T5.setTop (mkF m 64 #[.val (.int x0), .val (.int x1), .val (.int x2), .val (.int x3), .val (.int x4), .val (.int (2 : Int32)), .val (.int B0), .val (.int B1), .val (.int B2), .val (.ref b), .unset, .unset, .unset] [])) _
    refine XS.aload X5.here hx rfl (hb hby at_64) rfl rfl ?_
    show Steps p.tables e below (T5.setTop (mkF m 66 #[.val (.int x0), .val (.int x1), .val (.int x2), .val (.int x3), .val (.int x4), .val (.int (2 : Int32)), .val (.int B0), .val (.int B1), .val (.int B2), .val (.ref b), .unset, .unset, .unset] [(.ref b)])) _
    refine XS.iconst X5.here hx rfl (hb hby at_66) ?_
    show Steps p.tables e below (T5.setTop (mkF m 67 #[.val (.int x0), .val (.int x1), .val (.int x2), .val (.int x3), .val (.int x4), .val (.int (2 : Int32)), .val (.int B0), .val (.int B1), .val (.int B2), .val (.ref b), .unset, .unset, .unset] [(.int (1 : Int32)), (.ref b)])) _
    refine XS.iload X5.here hx rfl (hb hby at_67) rfl ?_
    show Steps p.tables e below (T5.setTop (mkF m 69 #[.val (.int x0), .val (.int x1), .val (.int x2), .val (.int x3), .val (.int x4), .val (.int (2 : Int32)), .val (.int B0), .val (.int B1), .val (.int B2), .val (.ref b), .unset, .unset, .unset] [(.int B1), (.int (1 : Int32)), (.ref b)])) _
    refine st7 _ ?_
    show Steps p.tables e below (T7.setTop (mkF m 70 #[.val (.int x0), .val (.int x1), .val (.int x2), .val (.int x3), .val (.int x4), .val (.int (2 : Int32)), .val (.int B0), .val (.int B1), .val (.int B2), .val (.ref b), .unset, .unset, .unset] [])) _
    refine XS.iload X7.here hx rfl (hb hby at_70) rfl ?_
    show Steps p.tables e below (T7.setTop (mkF m 72 #[.val (.int x0), .val (.int x1), .val (.int x2), .val (.int x3), .val (.int x4), .val (.int (2 : Int32)), .val (.int B0), .val (.int B1), .val (.int B2), .val (.ref b), .unset, .unset, .unset] [(.int (2 : Int32))])) _
    refine XS.iconst X7.here hx rfl (hb hby at_72) ?_
    show Steps p.tables e below (T7.setTop (mkF m 73 #[.val (.int x0), .val (.int x1), .val (.int x2), .val (.int x3), .val (.int x4), .val (.int (2 : Int32)), .val (.int B0), .val (.int B1), .val (.int B2), .val (.ref b), .unset, .unset, .unset] [(.int (2 : Int32)), (.int (2 : Int32))])) _
    refine XS.icmpYes X7.here hx rfl (pc0 := 73) (pc' := 82) rfl (hb hby at_73) rfl (flt (by decide : ¬ ((2 : Int32) < (2 : Int32)))).2.2.2 (by decide) (by decide) ?_
    show Steps p.tables e below (T7.setTop (mkF m 82 #[.val (.int x0), .val (.int x1), .val (.int x2), .val (.int x3), .val (.int x4), .val (.int (2 : Int32)), .val (.int B0), .val (.int B1), .val (.int B2), .val (.ref b), .unset, .unset, .unset] [])) _
    refine XS.iload X7.here hx rfl (hb hby at_82) rfl ?_
    show Steps p.tables e below (T7.setTop (mkF m 84 #[.val (.int x0), .val (.int x1), .val (.int x2), .val (.int x3), .val (.int x4), .val (.int (2 : Int32)), .val (.int B0), .val (.int B1), .val (.int B2), .val (.ref b), .unset, .unset, .unset] [(.int (2 : Int32))])) _
    refine XS.iconst X7.here hx rfl (hb hby at_84) ?_
    show Steps p.tables e below (T7.setTop (mkF m 85 #[.val (.int x0), .val (.int x1), .val (.int x2), .val (.int x3), .val (.int x4), .val (.int (2 : Int32)), .val (.int B0), .val (.int B1), .val (.int B2), .val (.ref b), .unset, .unset, .unset] [(.int (2 : Int32)), (.int (2 : Int32))])) _
    refine XS.icmpNo X7.here hx rfl (hb hby at_85) rfl (flt (by decide : ¬ ((2 : Int32) < (2 : Int32)))).1 ?_
    show Steps p.tables e below (T7.setTop (mkF m 88 #[.val (.int x0), .val (.int x1), .val (.int x2), .val (.int x3), .val (.int x4), .val (.int (2 : Int32)), .val (.int B0), .val (.int B1), .val (.int B2), .val (.ref b), .unset, .unset, .unset] [])) _
    refine XS.iload X7.here hx rfl (hb hby at_88) rfl ?_
    show Steps p.tables e below (T7.setTop (mkF m 90 #[.val (.int x0), .val (.int x1), .val (.int x2), .val (.int x3), .val (.int x4), .val (.int (2 : Int32)), .val (.int B0), .val (.int B1), .val (.int B2), .val (.ref b), .unset, .unset, .unset] [(.int B0)])) _
    refine XS.bipush X7.here hx rfl (hb hby at_90) ?_
    show Steps p.tables e below (T7.setTop (mkF m 92 #[.val (.int x0), .val (.int x1), .val (.int x2), .val (.int x3), .val (.int x4), .val (.int (2 : Int32)), .val (.int B0), .val (.int B1), .val (.int B2), .val (.ref b), .unset, .unset, .unset] [(.int (31 : Int32)), (.int B0)])) _
    have k9 : ∀ (m9_s0 : Int32) t, (B0 = (31 : Int32) → m9_s0 = m10_s0) → (¬ (B0 = (31 : Int32)) → m9_s0 = (0 : Int32)) → Steps p.tables e below (T7.setTop (mkF m 107 #[.val (.int x0), .val (.int x1), .val (.int x2), .val (.int x3), .val (.int x4), .val (.int (2 : Int32)), .val (.int B0), .val (.int B1), .val (.int B2), .val (.ref b), .unset, .unset, .unset] [(.int m9_s0)])) t → Steps p.tables e below (T7.setTop (mkF m 92 #[.val (.int x0), .val (.int x1), .val (.int x2), .val (.int x3), .val (.int x4), .val (.int (2 : Int32)), .val (.int B0), .val (.int B1), .val (.int B2), .val (.ref b), .unset, .unset, .unset] [(.int (31 : Int32)), (.int B0)])) t := by
      intro m9_s0 t hAm9_s0 hBm9_s0 kk
      by_cases hq92 : B0 = (31 : Int32)
      · rw [hAm9_s0 hq92] at kk
        refine XS.icmpNo X7.here hx rfl (hb hby at_92) rfl (teq hq92).2 ?_
        show Steps p.tables e below (T7.setTop (mkF m 95 #[.val (.int x0), .val (.int x1), .val (.int x2), .val (.int x3), .val (.int x4), .val (.int (2 : Int32)), .val (.int B0), .val (.int B1), .val (.int B2), .val (.ref b), .unset, .unset, .unset] [])) _
        refine XS.iload X7.here hx rfl (hb hby at_95) rfl ?_
        show Steps p.tables e below (T7.setTop (mkF m 97 #[.val (.int x0), .val (.int x1), .val (.int x2), .val (.int x3), .val (.int x4), .val (.int (2 : Int32)), .val (.int B0), .val (.int B1), .val (.int B2), .val (.ref b), .unset, .unset, .unset] [(.int B1)])) _
        refine XS.bipush X7.here hx rfl (hb hby at_97) ?_
        show Steps p.tables e below (T7.setTop (mkF m 99 #[.val (.int x0), .val (.int x1), .val (.int x2), .val (.int x3), .val (.int x4), .val (.int (2 : Int32)), .val (.int B0), .val (.int B1), .val (.int B2), .val (.ref b), .unset, .unset, .unset] [(.int (-117 : Int32)), (.int B1)])) _
        have k10 : ∀ (m10_s0 : Int32) t, (B1 = (-117 : Int32) → m10_s0 = (1 : Int32)) → (¬ (B1 = (-117 : Int32)) → m10_s0 = (0 : Int32)) → Steps p.tables e below (T7.setTop (mkF m 107 #[.val (.int x0), .val (.int x1), .val (.int x2), .val (.int x3), .val (.int x4), .val (.int (2 : Int32)), .val (.int B0), .val (.int B1), .val (.int B2), .val (.ref b), .unset, .unset, .unset] [(.int m10_s0)])) t → Steps p.tables e below (T7.setTop (mkF m 99 #[.val (.int x0), .val (.int x1), .val (.int x2), .val (.int x3), .val (.int x4), .val (.int (2 : Int32)), .val (.int B0), .val (.int B1), .val (.int B2), .val (.ref b), .unset, .unset, .unset] [(.int (-117 : Int32)), (.int B1)])) t := by
          intro m10_s0 t hAm10_s0 hBm10_s0 kk
          by_cases hq99 : B1 = (-117 : Int32)
          · rw [hAm10_s0 hq99] at kk
            refine XS.icmpNo X7.here hx rfl (hb hby at_99) rfl (teq hq99).2 ?_
            show Steps p.tables e below (T7.setTop (mkF m 102 #[.val (.int x0), .val (.int x1), .val (.int x2), .val (.int x3), .val (.int x4), .val (.int (2 : Int32)), .val (.int B0), .val (.int B1), .val (.int B2), .val (.ref b), .unset, .unset, .unset] [])) _
            refine XS.iconst X7.here hx rfl (hb hby at_102) ?_
            show Steps p.tables e below (T7.setTop (mkF m 103 #[.val (.int x0), .val (.int x1), .val (.int x2), .val (.int x3), .val (.int x4), .val (.int (2 : Int32)), .val (.int B0), .val (.int B1), .val (.int B2), .val (.ref b), .unset, .unset, .unset] [(.int (1 : Int32))])) _
            refine XS.goto X7.here hx rfl (pc0 := 103) (pc' := 107) rfl (hb hby at_103) (by decide) (by decide) ?_
            exact kk
          · rw [hBm10_s0 hq99] at kk
            refine XS.icmpYes X7.here hx rfl (pc0 := 99) (pc' := 106) rfl (hb hby at_99) rfl (feq hq99).2 (by decide) (by decide) ?_
            show Steps p.tables e below (T7.setTop (mkF m 106 #[.val (.int x0), .val (.int x1), .val (.int x2), .val (.int x3), .val (.int x4), .val (.int (2 : Int32)), .val (.int B0), .val (.int B1), .val (.int B2), .val (.ref b), .unset, .unset, .unset] [])) _
            refine XS.iconst X7.here hx rfl (hb hby at_106) ?_
            exact kk
        refine k10 m10_s0 _ (fun h => by rw [em10_s0, if_pos h]) (fun h => by rw [em10_s0, if_neg h]) ?_
        exact kk
      · rw [hBm9_s0 hq92] at kk
        refine XS.icmpYes X7.here hx rfl (pc0 := 92) (pc' := 106) rfl (hb hby at_92) rfl (feq hq92).2 (by decide) (by decide) ?_
        show Steps p.tables e below (T7.setTop (mkF m 106 #[.val (.int x0), .val (.int x1), .val (.int x2), .val (.int x3), .val (.int x4), .val (.int (2 : Int32)), .val (.int B0), .val (.int B1), .val (.int B2), .val (.ref b), .unset, .unset, .unset] [])) _
        refine XS.iconst X7.here hx rfl (hb hby at_106) ?_
        exact kk
    refine k9 m9_s0 _ (fun h => by rw [em9_s0, if_pos h]) (fun h => by rw [em9_s0, if_neg h]) ?_
    show Steps p.tables e below (T7.setTop (mkF m 107 #[.val (.int x0), .val (.int x1), .val (.int x2), .val (.int x3), .val (.int x4), .val (.int (2 : Int32)), .val (.int B0), .val (.int B1), .val (.int B2), .val (.ref b), .unset, .unset, .unset] [(.int m9_s0)])) _
    refine XS.istore X7.here hx rfl (hb hby at_107) rfl (l' := #[.val (.int x0), .val (.int x1), .val (.int x2), .val (.int x3), .val (.int x4), .val (.int (2 : Int32)), .val (.int B0), .val (.int B1), .val (.int B2), .val (.ref b), .val (.int m9_s0), .unset, .unset]) rfl ?_
    show Steps p.tables e below (T7.setTop (mkF m 109 #[.val (.int x0), .val (.int x1), .val (.int x2), .val (.int x3), .val (.int x4), .val (.int (2 : Int32)), .val (.int B0), .val (.int B1), .val (.int B2), .val (.ref b), .val (.int m9_s0), .unset, .unset] [])) _
    refine XS.aload X7.here hx rfl (hb hby at_109) rfl rfl ?_
    show Steps p.tables e below (T7.setTop (mkF m 111 #[.val (.int x0), .val (.int x1), .val (.int x2), .val (.int x3), .val (.int x4), .val (.int (2 : Int32)), .val (.int B0), .val (.int B1), .val (.int B2), .val (.ref b), .val (.int m9_s0), .unset, .unset] [(.ref b)])) _
    refine st11 _ ?_
    show Steps p.tables e below (T11.setTop (mkF m 114 #[.val (.int x0), .val (.int x1), .val (.int x2), .val (.int x3), .val (.int x4), .val (.int (2 : Int32)), .val (.int B0), .val (.int B1), .val (.int B2), .val (.ref b), .val (.int m9_s0), .unset, .unset] [(.int (own_starts (nar .byte B0) (nar .byte B1)))])) _
    refine XS.istore X11.here hx rfl (hb hby at_114) rfl (l' := #[.val (.int x0), .val (.int x1), .val (.int x2), .val (.int x3), .val (.int x4), .val (.int (2 : Int32)), .val (.int B0), .val (.int B1), .val (.int B2), .val (.ref b), .val (.int m9_s0), .val (.int (own_starts (nar .byte B0) (nar .byte B1))), .unset]) rfl ?_
    show Steps p.tables e below (T11.setTop (mkF m 116 #[.val (.int x0), .val (.int x1), .val (.int x2), .val (.int x3), .val (.int x4), .val (.int (2 : Int32)), .val (.int B0), .val (.int B1), .val (.int B2), .val (.ref b), .val (.int m9_s0), .val (.int (own_starts (nar .byte B0) (nar .byte B1))), .unset] [])) _
    refine XS.iload X11.here hx rfl (hb hby at_116) rfl ?_
    show Steps p.tables e below (T11.setTop (mkF m 118 #[.val (.int x0), .val (.int x1), .val (.int x2), .val (.int x3), .val (.int x4), .val (.int (2 : Int32)), .val (.int B0), .val (.int B1), .val (.int B2), .val (.ref b), .val (.int m9_s0), .val (.int (own_starts (nar .byte B0) (nar .byte B1))), .unset] [(.int (2 : Int32))])) _
    refine XS.iconst X11.here hx rfl (hb hby at_118) ?_
    show Steps p.tables e below (T11.setTop (mkF m 119 #[.val (.int x0), .val (.int x1), .val (.int x2), .val (.int x3), .val (.int x4), .val (.int (2 : Int32)), .val (.int B0), .val (.int B1), .val (.int B2), .val (.ref b), .val (.int m9_s0), .val (.int (own_starts (nar .byte B0) (nar .byte B1))), .unset] [(.int (1 : Int32)), (.int (2 : Int32))])) _
    refine XS.icmpNo X11.here hx rfl (hb hby at_119) rfl (flt (by decide : ¬ ((2 : Int32) < (1 : Int32)))).1 ?_
    show Steps p.tables e below (T11.setTop (mkF m 122 #[.val (.int x0), .val (.int x1), .val (.int x2), .val (.int x3), .val (.int x4), .val (.int (2 : Int32)), .val (.int B0), .val (.int B1), .val (.int B2), .val (.ref b), .val (.int m9_s0), .val (.int (own_starts (nar .byte B0) (nar .byte B1))), .unset] [])) _
    refine XS.aload X11.here hx rfl (hb hby at_122) rfl rfl ?_
    show Steps p.tables e below (T11.setTop (mkF m 124 #[.val (.int x0), .val (.int x1), .val (.int x2), .val (.int x3), .val (.int x4), .val (.int (2 : Int32)), .val (.int B0), .val (.int B1), .val (.int B2), .val (.ref b), .val (.int m9_s0), .val (.int (own_starts (nar .byte B0) (nar .byte B1))), .unset] [(.ref b)])) _
    refine XS.iconst X11.here hx rfl (hb hby at_124) ?_
    show Steps p.tables e below (T11.setTop (mkF m 125 #[.val (.int x0), .val (.int x1), .val (.int x2), .val (.int x3), .val (.int x4), .val (.int (2 : Int32)), .val (.int B0), .val (.int B1), .val (.int B2), .val (.ref b), .val (.int m9_s0), .val (.int (own_starts (nar .byte B0) (nar .byte B1))), .unset] [(.int (0 : Int32)), (.ref b)])) _
    refine own_ldB X11 hx hZ e11 V_b_7 (j := (0 : Int32)) (w := (nar .byte B0)) ⟨by decide, by decide⟩ rfl (g := (mkF m 125 #[.val (.int x0), .val (.int x1), .val (.int x2), .val (.int x3), .val (.int x4), .val (.int (2 : Int32)), .val (.int B0), .val (.int B1), .val (.int B2), .val (.ref b), .val (.int m9_s0), .val (.int (own_starts (nar .byte B0) (nar .byte B1))), .unset] [(.int (0 : Int32)), (.ref b)])) rfl rfl (hb hby at_125) ?_
    show Steps p.tables e below (T11.setTop (mkF m 126 #[.val (.int x0), .val (.int x1), .val (.int x2), .val (.int x3), .val (.int x4), .val (.int (2 : Int32)), .val (.int B0), .val (.int B1), .val (.int B2), .val (.ref b), .val (.int m9_s0), .val (.int (own_starts (nar .byte B0) (nar .byte B1))), .unset] [(.int (nar .byte B0))])) _
    refine XS.iload X11.here hx rfl (hb hby at_126) rfl ?_
    show Steps p.tables e below (T11.setTop (mkF m 128 #[.val (.int x0), .val (.int x1), .val (.int x2), .val (.int x3), .val (.int x4), .val (.int (2 : Int32)), .val (.int B0), .val (.int B1), .val (.int B2), .val (.ref b), .val (.int m9_s0), .val (.int (own_starts (nar .byte B0) (nar .byte B1))), .unset] [(.int B0), (.int (nar .byte B0))])) _
    refine XS.icmpNo X11.here hx rfl (hb hby at_128) rfl (teq hnb0).2 ?_
    show Steps p.tables e below (T11.setTop (mkF m 131 #[.val (.int x0), .val (.int x1), .val (.int x2), .val (.int x3), .val (.int x4), .val (.int (2 : Int32)), .val (.int B0), .val (.int B1), .val (.int B2), .val (.ref b), .val (.int m9_s0), .val (.int (own_starts (nar .byte B0) (nar .byte B1))), .unset] [])) _
    refine XS.iload X11.here hx rfl (hb hby at_131) rfl ?_
    show Steps p.tables e below (T11.setTop (mkF m 133 #[.val (.int x0), .val (.int x1), .val (.int x2), .val (.int x3), .val (.int x4), .val (.int (2 : Int32)), .val (.int B0), .val (.int B1), .val (.int B2), .val (.ref b), .val (.int m9_s0), .val (.int (own_starts (nar .byte B0) (nar .byte B1))), .unset] [(.int (2 : Int32))])) _
    refine XS.iconst X11.here hx rfl (hb hby at_133) ?_
    show Steps p.tables e below (T11.setTop (mkF m 134 #[.val (.int x0), .val (.int x1), .val (.int x2), .val (.int x3), .val (.int x4), .val (.int (2 : Int32)), .val (.int B0), .val (.int B1), .val (.int B2), .val (.ref b), .val (.int m9_s0), .val (.int (own_starts (nar .byte B0) (nar .byte B1))), .unset] [(.int (2 : Int32)), (.int (2 : Int32))])) _
    refine XS.icmpNo X11.here hx rfl (hb hby at_134) rfl (flt (by decide : ¬ ((2 : Int32) < (2 : Int32)))).1 ?_
    show Steps p.tables e below (T11.setTop (mkF m 137 #[.val (.int x0), .val (.int x1), .val (.int x2), .val (.int x3), .val (.int x4), .val (.int (2 : Int32)), .val (.int B0), .val (.int B1), .val (.int B2), .val (.ref b), .val (.int m9_s0), .val (.int (own_starts (nar .byte B0) (nar .byte B1))), .unset] [])) _
    refine XS.aload X11.here hx rfl (hb hby at_137) rfl rfl ?_
    show Steps p.tables e below (T11.setTop (mkF m 139 #[.val (.int x0), .val (.int x1), .val (.int x2), .val (.int x3), .val (.int x4), .val (.int (2 : Int32)), .val (.int B0), .val (.int B1), .val (.int B2), .val (.ref b), .val (.int m9_s0), .val (.int (own_starts (nar .byte B0) (nar .byte B1))), .unset] [(.ref b)])) _
    refine XS.iconst X11.here hx rfl (hb hby at_139) ?_
    show Steps p.tables e below (T11.setTop (mkF m 140 #[.val (.int x0), .val (.int x1), .val (.int x2), .val (.int x3), .val (.int x4), .val (.int (2 : Int32)), .val (.int B0), .val (.int B1), .val (.int B2), .val (.ref b), .val (.int m9_s0), .val (.int (own_starts (nar .byte B0) (nar .byte B1))), .unset] [(.int (1 : Int32)), (.ref b)])) _
    refine own_ldB X11 hx hZ e11 V_b_7 (j := (1 : Int32)) (w := (nar .byte B1)) ⟨by decide, by decide⟩ rfl (g := (mkF m 140 #[.val (.int x0), .val (.int x1), .val (.int x2), .val (.int x3), .val (.int x4), .val (.int (2 : Int32)), .val (.int B0), .val (.int B1), .val (.int B2), .val (.ref b), .val (.int m9_s0), .val (.int (own_starts (nar .byte B0) (nar .byte B1))), .unset] [(.int (1 : Int32)), (.ref b)])) rfl rfl (hb hby at_140) ?_
    show Steps p.tables e below (T11.setTop (mkF m 141 #[.val (.int x0), .val (.int x1), .val (.int x2), .val (.int x3), .val (.int x4), .val (.int (2 : Int32)), .val (.int B0), .val (.int B1), .val (.int B2), .val (.ref b), .val (.int m9_s0), .val (.int (own_starts (nar .byte B0) (nar .byte B1))), .unset] [(.int (nar .byte B1))])) _
    refine XS.iload X11.here hx rfl (hb hby at_141) rfl ?_
    show Steps p.tables e below (T11.setTop (mkF m 143 #[.val (.int x0), .val (.int x1), .val (.int x2), .val (.int x3), .val (.int x4), .val (.int (2 : Int32)), .val (.int B0), .val (.int B1), .val (.int B2), .val (.ref b), .val (.int m9_s0), .val (.int (own_starts (nar .byte B0) (nar .byte B1))), .unset] [(.int B1), (.int (nar .byte B1))])) _
    refine XS.icmpNo X11.here hx rfl (hb hby at_143) rfl (teq hnb1).2 ?_
    show Steps p.tables e below (T11.setTop (mkF m 146 #[.val (.int x0), .val (.int x1), .val (.int x2), .val (.int x3), .val (.int x4), .val (.int (2 : Int32)), .val (.int B0), .val (.int B1), .val (.int B2), .val (.ref b), .val (.int m9_s0), .val (.int (own_starts (nar .byte B0) (nar .byte B1))), .unset] [])) _
    refine XS.iload X11.here hx rfl (hb hby at_146) rfl ?_
    show Steps p.tables e below (T11.setTop (mkF m 148 #[.val (.int x0), .val (.int x1), .val (.int x2), .val (.int x3), .val (.int x4), .val (.int (2 : Int32)), .val (.int B0), .val (.int B1), .val (.int B2), .val (.ref b), .val (.int m9_s0), .val (.int (own_starts (nar .byte B0) (nar .byte B1))), .unset] [(.int (2 : Int32))])) _
    refine XS.iconst X11.here hx rfl (hb hby at_148) ?_
    show Steps p.tables e below (T11.setTop (mkF m 149 #[.val (.int x0), .val (.int x1), .val (.int x2), .val (.int x3), .val (.int x4), .val (.int (2 : Int32)), .val (.int B0), .val (.int B1), .val (.int B2), .val (.ref b), .val (.int m9_s0), .val (.int (own_starts (nar .byte B0) (nar .byte B1))), .unset] [(.int (3 : Int32)), (.int (2 : Int32))])) _
    refine XS.icmpYes X11.here hx rfl (pc0 := 149) (pc' := 161) rfl (hb hby at_149) rfl (tlt (by decide : (2 : Int32) < (3 : Int32))).1 (by decide) (by decide) ?_
    show Steps p.tables e below (T11.setTop (mkF m 161 #[.val (.int x0), .val (.int x1), .val (.int x2), .val (.int x3), .val (.int x4), .val (.int (2 : Int32)), .val (.int B0), .val (.int B1), .val (.int B2), .val (.ref b), .val (.int m9_s0), .val (.int (own_starts (nar .byte B0) (nar .byte B1))), .unset] [])) _
    refine XS.iconst X11.here hx rfl (hb hby at_161) ?_
    show Steps p.tables e below (T11.setTop (mkF m 162 #[.val (.int x0), .val (.int x1), .val (.int x2), .val (.int x3), .val (.int x4), .val (.int (2 : Int32)), .val (.int B0), .val (.int B1), .val (.int B2), .val (.ref b), .val (.int m9_s0), .val (.int (own_starts (nar .byte B0) (nar .byte B1))), .unset] [(.int (1 : Int32))])) _
    refine XS.goto X11.here hx rfl (pc0 := 162) (pc' := 166) rfl (hb hby at_162) (by decide) (by decide) ?_
    show Steps p.tables e below (T11.setTop (mkF m 166 #[.val (.int x0), .val (.int x1), .val (.int x2), .val (.int x3), .val (.int x4), .val (.int (2 : Int32)), .val (.int B0), .val (.int B1), .val (.int B2), .val (.ref b), .val (.int m9_s0), .val (.int (own_starts (nar .byte B0) (nar .byte B1))), .unset] [(.int (1 : Int32))])) _
    refine XS.istore X11.here hx rfl (hb hby at_166) rfl (l' := #[.val (.int x0), .val (.int x1), .val (.int x2), .val (.int x3), .val (.int x4), .val (.int (2 : Int32)), .val (.int B0), .val (.int B1), .val (.int B2), .val (.ref b), .val (.int m9_s0), .val (.int (own_starts (nar .byte B0) (nar .byte B1))), .val (.int (1 : Int32))]) rfl ?_
    show Steps p.tables e below (T11.setTop (mkF m 168 #[.val (.int x0), .val (.int x1), .val (.int x2), .val (.int x3), .val (.int x4), .val (.int (2 : Int32)), .val (.int B0), .val (.int B1), .val (.int B2), .val (.ref b), .val (.int m9_s0), .val (.int (own_starts (nar .byte B0) (nar .byte B1))), .val (.int (1 : Int32))] [])) _
    refine XS.iload X11.here hx rfl (hb hby at_168) rfl ?_
    show Steps p.tables e below (T11.setTop (mkF m 170 #[.val (.int x0), .val (.int x1), .val (.int x2), .val (.int x3), .val (.int x4), .val (.int (2 : Int32)), .val (.int B0), .val (.int B1), .val (.int B2), .val (.ref b), .val (.int m9_s0), .val (.int (own_starts (nar .byte B0) (nar .byte B1))), .val (.int (1 : Int32))] [(.int (own_starts (nar .byte B0) (nar .byte B1)))])) _
    refine XS.iload X11.here hx rfl (hb hby at_170) rfl ?_
    show Steps p.tables e below (T11.setTop (mkF m 172 #[.val (.int x0), .val (.int x1), .val (.int x2), .val (.int x3), .val (.int x4), .val (.int (2 : Int32)), .val (.int B0), .val (.int B1), .val (.int B2), .val (.ref b), .val (.int m9_s0), .val (.int (own_starts (nar .byte B0) (nar .byte B1))), .val (.int (1 : Int32))] [(.int m9_s0), (.int (own_starts (nar .byte B0) (nar .byte B1)))])) _
    refine XS.icmpNo X11.here hx rfl (hb hby at_172) rfl (teq hfin).2 ?_
    show Steps p.tables e below (T11.setTop (mkF m 175 #[.val (.int x0), .val (.int x1), .val (.int x2), .val (.int x3), .val (.int x4), .val (.int (2 : Int32)), .val (.int B0), .val (.int B1), .val (.int B2), .val (.ref b), .val (.int m9_s0), .val (.int (own_starts (nar .byte B0) (nar .byte B1))), .val (.int (1 : Int32))] [])) _
    refine XS.iload X11.here hx rfl (hb hby at_175) rfl ?_
    show Steps p.tables e below (T11.setTop (mkF m 177 #[.val (.int x0), .val (.int x1), .val (.int x2), .val (.int x3), .val (.int x4), .val (.int (2 : Int32)), .val (.int B0), .val (.int B1), .val (.int B2), .val (.ref b), .val (.int m9_s0), .val (.int (own_starts (nar .byte B0) (nar .byte B1))), .val (.int (1 : Int32))] [(.int (1 : Int32))])) _
    refine XS.ifNo X11.here hx rfl (hb hby at_177) rfl ((if0 _ _).trans (feq (by decide : ¬ ((1 : Int32) = (0 : Int32)))).1) ?_
    show Steps p.tables e below (T11.setTop (mkF m 180 #[.val (.int x0), .val (.int x1), .val (.int x2), .val (.int x3), .val (.int x4), .val (.int (2 : Int32)), .val (.int B0), .val (.int B1), .val (.int B2), .val (.ref b), .val (.int m9_s0), .val (.int (own_starts (nar .byte B0) (nar .byte B1))), .val (.int (1 : Int32))] [])) _
    refine XS.iconst X11.here hx rfl (hb hby at_180) ?_
    show Steps p.tables e below (T11.setTop (mkF m 181 #[.val (.int x0), .val (.int x1), .val (.int x2), .val (.int x3), .val (.int x4), .val (.int (2 : Int32)), .val (.int B0), .val (.int B1), .val (.int B2), .val (.ref b), .val (.int m9_s0), .val (.int (own_starts (nar .byte B0) (nar .byte B1))), .val (.int (1 : Int32))] [(.int (1 : Int32))])) _
    refine XS.goto X11.here hx rfl (pc0 := 181) (pc' := 185) rfl (hb hby at_181) (by decide) (by decide) ?_
    show Steps p.tables e below (T11.setTop (mkF m 185 #[.val (.int x0), .val (.int x1), .val (.int x2), .val (.int x3), .val (.int x4), .val (.int (2 : Int32)), .val (.int B0), .val (.int B1), .val (.int B2), .val (.ref b), .val (.int m9_s0), .val (.int (own_starts (nar .byte B0) (nar .byte B1))), .val (.int (1 : Int32))] [(.int (1 : Int32))])) _
    exact retN X11 hx (t := .boolean) Bd.returns (by simp) (hb hby at_185) hr
  · exact ⟨rfl, N11⟩
set_option maxRecDepth 65536 in
set_option maxHeartbeats 40000000 in
theorem rm0_3 (l : Launch) (Z : State) (a0 : Array Value) (hw : ∀ d ∈ tables_1, d.before a0 Z = true) (ws : List Jvm.Cond) (x0 : Int32) (x1 : Int32) (x2 : Int32) (x3 : Int32) (x4 : Int32) (mg : Addr) (km : ClassId) (h0 : Heap) (n0 : Nat) (Z0 : n0 ≤ h0.size) (hn : (x0 &&& (3 : Int32)) = (3 : Int32)) (S_MAGIC : Sta Z h0 "com/example/rootline/rootline/reader/GzipChannel" "MAGIC" "[I" (.ref mg)) (V_mg : Arv Z h0 mg km .int (3 : Int32) [(.int (31 : Int32)), (.int (139 : Int32)), (.int (8 : Int32))] (.int (0 : Int32))) :
    MetFree l x (head1 (Jvm.Cond.code x code maxLocals ret :: ws) room_1) (fun a U => a = #[(.int x0), (.int x1), (.int x2), (.int x3), (.int x4)] ∧ Z.Warmed39 U.vm ∧ U.heap = h0) (fun _ _ _ _ _ => True) (fun _ U o U' => ∃ v L, o = .returned v ∧ (QL n0 v U'.heap L) ∧ FrameEnd U o U' L room_1.cells room_1.slots) := by
  refine MetFree.of_bodySF (plainFor_of_name pn_0) hisR ?_
  intro p e s m args below meth c s₁ Bd hml0 hP hK
  obtain ⟨rfl, hZ, hh⟩ := hP
  have hx := Bd.exec
  have hby := Bd.bytes
  have hml : c.maxLocals = 13 := hml0
  have hown : s.vm.findClass "com/example/rootline/rootline/reader/GzipChannelStartsPinLaw" = some m.cls := findClass_of_methodNamed Bd.named
  have hnm := (name_of_methodNamed Bd.named Bd.method).1
  have X0 : Stand p l e room_1 s m #[(.int x0), (.int x1), (.int x2), (.int x3), (.int x4)] below meth c s₁ [] 0 0 := Stand.of_body Bd
  have e0 : s₁.heap = h0 := by rw [← hh, Bd.state]; rfl
  have N0 := Fr.nil n0
  have pre0 : ∀ t, Steps p.tables e below (s₁.setTop (mkF m 0 #[.val (.int x0), .val (.int x1), .val (.int x2), .val (.int x3), .val (.int x4), .unset, .unset, .unset, .unset, .unset, .unset, .unset, .unset] [])) t → Steps p.tables e below (s₁.setTop (entryFrame m #[(.int x0), (.int x1), (.int x2), (.int x3), (.int x4)] maxLocals)) t := fun t k => castTop (ef_0 m x0 x1 x2 x3 x4) k
  obtain ⟨m1_s0, em1_s0⟩ : ∃ z : Int32, z = (if (x4 &&& (1 : Int32)) = (0 : Int32) then (x1.toInt8.toInt32) else (31 : Int32)) := ⟨_, rfl⟩
  obtain ⟨B0, e_B0⟩ : ∃ z : Int32, z = m1_s0 := ⟨_, rfl⟩
  obtain ⟨m2_s0, em2_s0⟩ : ∃ z : Int32, z = (if (x4 &&& (2 : Int32)) = (0 : Int32) then (x2.toInt8.toInt32) else (-117 : Int32)) := ⟨_, rfl⟩
  obtain ⟨B1, e_B1⟩ : ∃ z : Int32, z = m2_s0 := ⟨_, rfl⟩
  obtain ⟨B2, e_B2⟩ : ∃ z : Int32, z = (x3.toInt8.toInt32) := ⟨_, rfl⟩
  have hb0 : own_byte B0 := by
    rw [e_B0, em1_s0]; split
    · exact own_i2b _
    · unfold own_byte; decide
  have hb1 : own_byte B1 := by
    rw [e_B1, em2_s0]; split
    · exact own_i2b _
    · unfold own_byte; decide
  have hb2 : own_byte B2 := by rw [e_B2]; exact own_i2b _
  have hnb0 := own_nar B0 hb0
  have hnb1 := own_nar B1 hb1
  have hnb2 := own_nar B2 hb2
  obtain ⟨T3, h3, k3, X3, e3, E3, A3, st3⟩ := newP X0 hx hZ (hw _ (List.mem_of_getElem? (i := 0) rfl)) e0 (g := (mkF m 43 #[.val (.int x0), .val (.int x1), .val (.int x2), .val (.int x3), .val (.int x4), .val (.int (3 : Int32)), .val (.int B0), .val (.int B1), .val (.int B2), .unset, .unset, .unset, .unset] [(.int (3 : Int32))])) rfl (hb hby at_43) rfl (by decide) (cap := 3) (by decide) (by decide) (by decide) (by decide)
  obtain ⟨b, g3⟩ : ∃ z, z = h0.size := ⟨_, rfl⟩
  rw [← g3] at A3 st3
  have V_b_3 : Arv Z h3 b k3 .byte (3 : Int32) [(.int (0 : Int32)), (.int (0 : Int32)), (.int (0 : Int32))] (.int (0 : Int32)) := (Arv.new A3 (by decide)).pad (pad_rep [] (.int (0 : Int32)) 3)
  have lt_mg_b : mg < b := Nat.lt_of_lt_of_le V_mg.lt (Nat.le_of_eq g3.symm)
  have g_b : n0 ≤ b := Nat.le_trans Z0 (Nat.le_of_eq g3.symm)
  have S_MAGIC_4 : Sta Z h3 "com/example/rootline/rootline/reader/GzipChannel" "MAGIC" "[I" (.ref mg) := S_MAGIC.ext E3
  have V_mg_4 : Arv Z h3 mg km .int (3 : Int32) [(.int (31 : Int32)), (.int (139 : Int32)), (.int (8 : Int32))] (.int (0 : Int32)) := V_mg.ext E3
  have siz_4 : n0 ≤ h3.size := Nat.le_trans Z0 E3.1
  obtain ⟨T5, h5, L5, X5, e5, N5, W5, V5, st5⟩ := own_stB X3 hx hZ e3 V_b_3 (j := (0 : Int32)) ⟨by decide, by decide⟩ (i := 0) rfl (Nat.le_of_ble_eq_true rfl) N0 g_b (g := (mkF m 57 #[.val (.int x0), .val (.int x1), .val (.int x2), .val (.int x3), .val (.int x4), .val (.int (3 : Int32)), .val (.int B0), .val (.int B1), .val (.int B2), .val (.ref b), .unset, .unset, .unset] [(.int B0), (.int (0 : Int32)), (.ref b)])) rfl rfl (hb hby at_57)
  have S_MAGIC_6 : Sta Z h5 "com/example/rootline/rootline/reader/GzipChannel" "MAGIC" "[I" (.ref mg) := S_MAGIC_4.wr W5
  have V_mg_6 : Arv Z h5 mg km .int (3 : Int32) [(.int (31 : Int32)), (.int (139 : Int32)), (.int (8 : Int32))] (.int (0 : Int32)) := V_mg_4.other W5 (Nat.ne_of_lt lt_mg_b)
  have siz_6 : n0 ≤ h5.size := Nat.le_trans siz_4 (Keep.of_wr W5).1
  have V_b_5 : Arv Z h5 b k3 .byte (3 : Int32) [(.int (nar .byte B0)), (.int (0 : Int32)), (.int (0 : Int32))] (.int (0 : Int32)) := V5
  obtain ⟨T7, h7, L7, X7, e7, N7, W7, V7, st7⟩ := own_stB X5 hx hZ e5 V_b_5 (j := (1 : Int32)) ⟨by decide, by decide⟩ (i := 1) rfl (Nat.le_of_ble_eq_true rfl) N5 g_b (g := (mkF m 69 #[.val (.int x0), .val (.int x1), .val (.int x2), .val (.int x3), .val (.int x4), .val (.int (3 : Int32)), .val (.int B0), .val (.int B1), .val (.int B2), .val (.ref b), .unset, .unset, .unset] [(.int B1), (.int (1 : Int32)), (.ref b)])) rfl rfl (hb hby at_69)
  have S_MAGIC_8 : Sta Z h7 "com/example/rootline/rootline/reader/GzipChannel" "MAGIC" "[I" (.ref mg) := S_MAGIC_6.wr W7
  have V_mg_8 : Arv Z h7 mg km .int (3 : Int32) [(.int (31 : Int32)), (.int (139 : Int32)), (.int (8 : Int32))] (.int (0 : Int32)) := V_mg_6.other W7 (Nat.ne_of_lt lt_mg_b)
  have siz_8 : n0 ≤ h7.size := Nat.le_trans siz_6 (Keep.of_wr W7).1
  have V_b_7 : Arv Z h7 b k3 .byte (3 : Int32) [(.int (nar .byte B0)), (.int (nar .byte B1)), (.int (0 : Int32))] (.int (0 : Int32)) := V7
  obtain ⟨T9, h9, L9, X9, e9, N9, W9, V9, st9⟩ := own_stB X7 hx hZ e7 V_b_7 (j := (2 : Int32)) ⟨by decide, by decide⟩ (i := 2) rfl (Nat.le_of_ble_eq_true rfl) N7 g_b (g := (mkF m 81 #[.val (.int x0), .val (.int x1), .val (.int x2), .val (.int x3), .val (.int x4), .val (.int (3 : Int32)), .val (.int B0), .val (.int B1), .val (.int B2), .val (.ref b), .unset, .unset, .unset] [(.int B2), (.int (2 : Int32)), (.ref b)])) rfl rfl (hb hby at_81)
  have S_MAGIC_10 : Sta Z h9 "com/example/rootline/rootline/reader/GzipChannel" "MAGIC" "[I" (.ref mg) := S_MAGIC_8.wr W9
  have V_mg_10 : Arv Z h9 mg km .int (3 : Int32) [(.int (31 : Int32)), (.int (139 : Int32)), (.int (8 : Int32))] (.int (0 : Int32)) := V_mg_8.other W9 (Nat.ne_of_lt lt_mg_b)
  have siz_10 : n0 ≤ h9.size := Nat.le_trans siz_8 (Keep.of_wr W9).1
  have V_b_9 : Arv Z h9 b k3 .byte (3 : Int32) [(.int (nar .byte B0)), (.int (nar .byte B1)), (.int (nar .byte B2))] (.int (0 : Int32)) := V9
  obtain ⟨m12_s0, em12_s0⟩ : ∃ z : Int32, z = (if B1 = (-117 : Int32) then (1 : Int32) else (0 : Int32)) := ⟨_, rfl⟩
  obtain ⟨m11_s0, em11_s0⟩ : ∃ z : Int32, z = (if B0 = (31 : Int32) then m12_s0 else (0 : Int32)) := ⟨_, rfl⟩
  have hfin : own_starts (nar .byte B0) (nar .byte B1) = m11_s0 := by rw [hnb0, hnb1, own_same B0 B1 hb0 hb1, em11_s0, em12_s0]; rfl
  obtain ⟨_, _, ⟨T13, L13, k13, n13⟩, -, X13, ⟨Lc13, hQ13, l13, y13, z13⟩, st13⟩ := Jvm.LawKit.callS X9 hx (y := (⟨"com/example/rootline/rootline/reader/GzipChannel", "starts", "([B)Z"⟩ : MethodName)) hown (mvT hZ (hw _ (List.mem_of_getElem? (i := 1) rfl))) (mvT hZ (hw _ (List.mem_of_getElem? (i := 2) rfl))) (mvT hZ (hw _ (List.mem_of_getElem? (i := 3) rfl))) (mvT hZ (hw _ (List.mem_of_getElem? (i := 4) rfl))) (by decide) (backOf (W := 0) (rm1_3 l Z a0 hw [] b k3 mg km (nar .byte B0) (nar .byte B1) (nar .byte B2) h9 n0 siz_10 V_b_9 S_MAGIC_10 V_mg_10) hZ (hw _ (List.mem_of_getElem? (i := 4) rfl)) (hw _ (List.mem_of_getElem? (i := 3) rfl)) (by decide) (by decide)) (g := (mkF m 111 #[.val (.int x0), .val (.int x1), .val (.int x2), .val (.int x3), .val (.int x4), .val (.int (3 : Int32)), .val (.int B0), .val (.int B1), .val (.int B2), .val (.ref b), .val (.int m11_s0), .unset, .unset] [(.ref b)])) rfl (by rw [hml]; rfl) (argsL := [(.ref b)]) (rest := []) (lenOf pd___B_Z rfl) rfl (by show 2 * 0 + _ ≤ _; exact Nat.le_of_eq rfl) (hb hby at_111) (fun _ _ => ⟨rfl, e9, (by decide : 1 + 0 ≤ _), (by decide : 3 + 0 ≤ _)⟩)
  dsimp only [Pt.U, Pt.locs, Pt.cells, Pt.slots] at X13 l13 y13 z13 st13 hQ13
  subst l13 y13 z13
  obtain ⟨rfl, N13q, e13⟩ := hQ13
  have N13 := Fr.app N9 N13q
  obtain ⟨fs, hr, hrun, hended, hW, hsame⟩ := X13.leave (v := some (.int (1 : Int32))) (fun h => by rw [Bd.returns] at h; cases h)
  refine ⟨_, _, pre0 _ ?_, hrun, hended, _, _, rfl, ?_, ⟨_, rfl⟩, hW, hsame.mono (by decide) (by decide)⟩
  · show Steps p.tables e below (s₁.setTop (mkF m 0 #[.val (.int x0), .val (.int x1), .val (.int x2), .val (.int x3), .val (.int x4), .unset, .unset, .unset, .unset, .unset, .unset, .unset, .unset] [])) _
    refine XS.iloadN X0.here hx rfl (hb hby at_0) rfl ?_
    show Steps p.tables e below (s₁.setTop (mkF m 1 #[.val (.int x0), .val (.int x1), .val (.int x2), .val (.int x3), .val (.int x4), .unset, .unset, .unset, .unset, .unset, .unset, .unset, .unset] [(.int x0)])) _
    refine XS.iconst X0.here hx rfl (hb hby at_1) ?_
    show Steps p.tables e below (s₁.setTop (mkF m 2 #[.val (.int x0), .val (.int x1), .val (.int x2), .val (.int x3), .val (.int x4), .unset, .unset, .unset, .unset, .unset, .unset, .unset, .unset] [(.int (3 : Int32)), (.int x0)])) _
    refine XS.iand X0.here hx rfl (hb hby at_2) rfl ?_
    show Steps p.tables e below (s₁.setTop (mkF m 3 #[.val (.int x0), .val (.int x1), .val (.int x2), .val (.int x3), .val (.int x4), .unset, .unset, .unset, .unset, .unset, .unset, .unset, .unset] [(.int (x0 &&& (3 : Int32)))])) _
    rw [hn]
    show Steps p.tables e below (s₁.setTop (mkF m 3 #[.val (.int x0), .val (.int x1), .val (.int x2), .val (.int x3), .val (.int x4), .unset, .unset, .unset, .unset, .unset, .unset, .unset, .unset] [(.int (3 : Int32))])) _
    refine XS.istore X0.here hx rfl (hb hby at_3) rfl (l' := #[.val (.int x0), .val (.int x1), .val (.int x2), .val (.int x3), .val (.int x4), .val (.int (3 : Int32)), .unset, .unset, .unset, .unset, .unset, .unset, .unset]) rfl ?_
    show Steps p.tables e below (s₁.setTop (mkF m 5 #[.val (.int x0), .val (.int x1), .val (.int x2), .val (.int x3), .val (.int x4), .val (.int (3 : Int32)), .unset, .unset, .unset, .unset, .unset, .unset, .unset] [])) _
    refine XS.iload X0.here hx rfl (hb hby at_5) rfl ?_
    show Steps p.tables e below (s₁.setTop (mkF m 7 #[.val (.int x0), .val (.int x1), .val (.int x2), .val (.int x3), .val (.int x4), .val (.int (3 : Int32)), .unset, .unset, .unset, .unset, .unset, .unset, .unset] [(.int x4)])) _
    refine XS.iconst X0.here hx rfl (hb hby at_7) ?_
    show Steps p.tables e below (s₁.setTop (mkF m 8 #[.val (.int x0), .val (.int x1), .val (.int x2), .val (.int x3), .val (.int x4), .val (.int (3 : Int32)), .unset, .unset, .unset, .unset, .unset, .unset, .unset] [(.int (1 : Int32)), (.int x4)])) _
    refine XS.iand X0.here hx rfl (hb hby at_8) rfl ?_
    show Steps p.tables e below (s₁.setTop (mkF m 9 #[.val (.int x0), .val (.int x1), .val (.int x2), .val (.int x3), .val (.int x4), .val (.int (3 : Int32)), .unset, .unset, .unset, .unset, .unset, .unset, .unset] [(.int (x4 &&& (1 : Int32)))])) _
    have k1 : ∀ (m1_s0 : Int32) t, ((x4 &&& (1 : Int32)) = (0 : Int32) → m1_s0 = (x1.toInt8.toInt32)) → (¬ ((x4 &&& (1 : Int32)) = (0 : Int32)) → m1_s0 = (31 : Int32)) → Steps p.tables e below (s₁.setTop (mkF m 19 #[.val (.int x0), .val (.int x1), .val (.int x2), .val (.int x3), .val (.int x4), .val (.int (3 : Int32)), .unset, .unset, .unset, .unset, .unset, .unset, .unset] [(.int m1_s0)])) t → Steps p.tables e below (s₁.setTop (mkF m 9 #[.val (.int x0), .val (.int x1), .val (.int x2), .val (.int x3), .val (.int x4), .val (.int (3 : Int32)), .unset, .unset, .unset, .unset, .unset, .unset, .unset] [(.int (x4 &&& (1 : Int32)))])) t := by
      intro m1_s0 t hAm1_s0 hBm1_s0 kk
      by_cases hq9 : (x4 &&& (1 : Int32)) = (0 : Int32)
      · rw [hAm1_s0 hq9] at kk
        refine XS.ifYes X0.here hx rfl (pc0 := 9) (pc' := 17) rfl (hb hby at_9) rfl ((if0 _ _).trans (teq hq9).1) (by decide) (by decide) ?_
        show Steps p.tables e below (s₁.setTop (mkF m 17 #[.val (.int x0), .val (.int x1), .val (.int x2), .val (.int x3), .val (.int x4), .val (.int (3 : Int32)), .unset, .unset, .unset, .unset, .unset, .unset, .unset] [])) _
        refine XS.iloadN X0.here hx rfl (hb hby at_17) rfl ?_
        show Steps p.tables e below (s₁.setTop (mkF m 18 #[.val (.int x0), .val (.int x1), .val (.int x2), .val (.int x3), .val (.int x4), .val (.int (3 : Int32)), .unset, .unset, .unset, .unset, .unset, .unset, .unset] [(.int x1)])) _
        refine XS.i2b X0.here hx rfl (hb hby at_18) rfl ?_
        exact kk
      · rw [hBm1_s0 hq9] at kk
        refine XS.ifNo X0.here hx rfl (hb hby at_9) rfl ((if0 _ _).trans (feq hq9).1) ?_
        show Steps p.tables e below (s₁.setTop (mkF m 12 #[.val (.int x0), .val (.int x1), .val (.int x2), .val (.int x3), .val (.int x4), .val (.int (3 : Int32)), .unset, .unset, .unset, .unset, .unset, .unset, .unset] [])) _
        refine XS.bipush X0.here hx rfl (hb hby at_12) ?_
        show Steps p.tables e below (s₁.setTop (mkF m 14 #[.val (.int x0), .val (.int x1), .val (.int x2), .val (.int x3), .val (.int x4), .val (.int (3 : Int32)), .unset, .unset, .unset, .unset, .unset, .unset, .unset] [(.int (31 : Int32))])) _
        refine XS.goto X0.here hx rfl (pc0 := 14) (pc' := 19) rfl (hb hby at_14) (by decide) (by decide) ?_
        exact kk
    refine k1 m1_s0 _ (fun h => by rw [em1_s0, if_pos h]) (fun h => by rw [em1_s0, if_neg h]) ?_
    show Steps p.tables e below (s₁.setTop (mkF m 19 #[.val (.int x0), .val (.int x1), .val (.int x2), .val (.int x3), .val (.int x4), .val (.int (3 : Int32)), .unset, .unset, .unset, .unset, .unset, .unset, .unset] [(.int m1_s0)])) _
    rw [← e_B0]
    show Steps p.tables e below (s₁.setTop (mkF m 19 #[.val (.int x0), .val (.int x1), .val (.int x2), .val (.int x3), .val (.int x4), .val (.int (3 : Int32)), .unset, .unset, .unset, .unset, .unset, .unset, .unset] [(.int B0)])) _
    refine XS.istore X0.here hx rfl (hb hby at_19) rfl (l' := #[.val (.int x0), .val (.int x1), .val (.int x2), .val (.int x3), .val (.int x4), .val (.int (3 : Int32)), .val (.int B0), .unset, .unset, .unset, .unset, .unset, .unset]) rfl ?_
    show Steps p.tables e below (s₁.setTop (mkF m 21 #[.val (.int x0), .val (.int x1), .val (.int x2), .val (.int x3), .val (.int x4), .val (.int (3 : Int32)), .val (.int B0), .unset, .unset, .unset, .unset, .unset, .unset] [])) _
    refine XS.iload X0.here hx rfl (hb hby at_21) rfl ?_
    show Steps p.tables e below (s₁.setTop (mkF m 23 #[.val (.int x0), .val (.int x1), .val (.int x2), .val (.int x3), .val (.int x4), .val (.int (3 : Int32)), .val (.int B0), .unset, .unset, .unset, .unset, .unset, .unset] [(.int x4)])) _
    refine XS.iconst X0.here hx rfl (hb hby at_23) ?_
    show Steps p.tables e below (s₁.setTop (mkF m 24 #[.val (.int x0), .val (.int x1), .val (.int x2), .val (.int x3), .val (.int x4), .val (.int (3 : Int32)), .val (.int B0), .unset, .unset, .unset, .unset, .unset, .unset] [(.int (2 : Int32)), (.int x4)])) _
    refine XS.iand X0.here hx rfl (hb hby at_24) rfl ?_
    show Steps p.tables e below (s₁.setTop (mkF m 25 #[.val (.int x0), .val (.int x1), .val (.int x2), .val (.int x3), .val (.int x4), .val (.int (3 : Int32)), .val (.int B0), .unset, .unset, .unset, .unset, .unset, .unset] [(.int (x4 &&& (2 : Int32)))])) _
    have k2 : ∀ (m2_s0 : Int32) t, ((x4 &&& (2 : Int32)) = (0 : Int32) → m2_s0 = (x2.toInt8.toInt32)) → (¬ ((x4 &&& (2 : Int32)) = (0 : Int32)) → m2_s0 = (-117 : Int32)) → Steps p.tables e below (s₁.setTop (mkF m 35 #[.val (.int x0), .val (.int x1), .val (.int x2), .val (.int x3), .val (.int x4), .val (.int (3 : Int32)), .val (.int B0), .unset, .unset, .unset, .unset, .unset, .unset] [(.int m2_s0)])) t → Steps p.tables e below (s₁.setTop (mkF m 25 #[.val (.int x0), .val (.int x1), .val (.int x2), .val (.int x3), .val (.int x4), .val (.int (3 : Int32)), .val (.int B0), .unset, .unset, .unset, .unset, .unset, .unset] [(.int (x4 &&& (2 : Int32)))])) t := by
      intro m2_s0 t hAm2_s0 hBm2_s0 kk
      by_cases hq25 : (x4 &&& (2 : Int32)) = (0 : Int32)
      · rw [hAm2_s0 hq25] at kk
        refine XS.ifYes X0.here hx rfl (pc0 := 25) (pc' := 33) rfl (hb hby at_25) rfl ((if0 _ _).trans (teq hq25).1) (by decide) (by decide) ?_
        show Steps p.tables e below (s₁.setTop (mkF m 33 #[.val (.int x0), .val (.int x1), .val (.int x2), .val (.int x3), .val (.int x4), .val (.int (3 : Int32)), .val (.int B0), .unset, .unset, .unset, .unset, .unset, .unset] [])) _
        refine XS.iloadN X0.here hx rfl (hb hby at_33) rfl ?_
        show Steps p.tables e below (s₁.setTop (mkF m 34 #[.val (.int x0), .val (.int x1), .val (.int x2), .val (.int x3), .val (.int x4), .val (.int (3 : Int32)), .val (.int B0), .unset, .unset, .unset, .unset, .unset, .unset] [(.int x2)])) _
        refine XS.i2b X0.here hx rfl (hb hby at_34) rfl ?_
        exact kk
      · rw [hBm2_s0 hq25] at kk
        refine XS.ifNo X0.here hx rfl (hb hby at_25) rfl ((if0 _ _).trans (feq hq25).1) ?_
        show Steps p.tables e below (s₁.setTop (mkF m 28 #[.val (.int x0), .val (.int x1), .val (.int x2), .val (.int x3), .val (.int x4), .val (.int (3 : Int32)), .val (.int B0), .unset, .unset, .unset, .unset, .unset, .unset] [])) _
        refine XS.bipush X0.here hx rfl (hb hby at_28) ?_
        show Steps p.tables e below (s₁.setTop (mkF m 30 #[.val (.int x0), .val (.int x1), .val (.int x2), .val (.int x3), .val (.int x4), .val (.int (3 : Int32)), .val (.int B0), .unset, .unset, .unset, .unset, .unset, .unset] [(.int (-117 : Int32))])) _
        refine XS.goto X0.here hx rfl (pc0 := 30) (pc' := 35) rfl (hb hby at_30) (by decide) (by decide) ?_
        exact kk
    refine k2 m2_s0 _ (fun h => by rw [em2_s0, if_pos h]) (fun h => by rw [em2_s0, if_neg h]) ?_
    show Steps p.tables e below (s₁.setTop (mkF m 35 #[.val (.int x0), .val (.int x1), .val (.int x2), .val (.int x3), .val (.int x4), .val (.int (3 : Int32)), .val (.int B0), .unset, .unset, .unset, .unset, .unset, .unset] [(.int m2_s0)])) _
    rw [← e_B1]
    show Steps p.tables e below (s₁.setTop (mkF m 35 #[.val (.int x0), .val (.int x1), .val (.int x2), .val (.int x3), .val (.int x4), .val (.int (3 : Int32)), .val (.int B0), .unset, .unset, .unset, .unset, .unset, .unset] [(.int B1)])) _
    refine XS.istore X0.here hx rfl (hb hby at_35) rfl (l' := #[.val (.int x0), .val (.int x1), .val (.int x2), .val (.int x3), .val (.int x4), .val (.int (3 : Int32)), .val (.int B0), .val (.int B1), .unset, .unset, .unset, .unset, .unset]) rfl ?_
    show Steps p.tables e below (s₁.setTop (mkF m 37 #[.val (.int x0), .val (.int x1), .val (.int x2), .val (.int x3), .val (.int x4), .val (.int (3 : Int32)), .val (.int B0), .val (.int B1), .unset, .unset, .unset, .unset, .unset] [])) _
    refine XS.iloadN X0.here hx rfl (hb hby at_37) rfl ?_
    show Steps p.tables e below (s₁.setTop (mkF m 38 #[.val (.int x0), .val (.int x1), .val (.int x2), .val (.int x3), .val (.int x4), .val (.int (3 : Int32)), .val (.int B0), .val (.int B1), .unset, .unset, .unset, .unset, .unset] [(.int x3)])) _
    refine XS.i2b X0.here hx rfl (hb hby at_38) rfl ?_
    show Steps p.tables e below (s₁.setTop (mkF m 39 #[.val (.int x0), .val (.int x1), .val (.int x2), .val (.int x3), .val (.int x4), .val (.int (3 : Int32)), .val (.int B0), .val (.int B1), .unset, .unset, .unset, .unset, .unset] [(.int (x3.toInt8.toInt32))])) _
    rw [← e_B2]
    show Steps p.tables e below (s₁.setTop (mkF m 39 #[.val (.int x0), .val (.int x1), .val (.int x2), .val (.int x3), .val (.int x4), .val (.int (3 : Int32)), .val (.int B0), .val (.int B1), .unset, .unset, .unset, .unset, .unset] [(.int B2)])) _
    refine XS.istore X0.here hx rfl (hb hby at_39) rfl (l' := #[.val (.int x0), .val (.int x1), .val (.int x2), .val (.int x3), .val (.int x4), .val (.int (3 : Int32)), .val (.int B0), .val (.int B1), .val (.int B2), .unset, .unset, .unset, .unset]) rfl ?_
    show Steps p.tables e below (s₁.setTop (mkF m 41 #[.val (.int x0), .val (.int x1), .val (.int x2), .val (.int x3), .val (.int x4), .val (.int (3 : Int32)), .val (.int B0), .val (.int B1), .val (.int B2), .unset, .unset, .unset, .unset] [])) _
    refine XS.iload X0.here hx rfl (hb hby at_41) rfl ?_
    show Steps p.tables e below (s₁.setTop (mkF m 43 #[.val (.int x0), .val (.int x1), .val (.int x2), .val (.int x3), .val (.int x4), .val (.int (3 : Int32)), .val (.int B0), .val (.int B1), .val (.int B2), .unset, .unset, .unset, .unset] [(.int (3 : Int32))])) _
    refine st3 _ ?_
    show Steps p.tables e below (T3.setTop (mkF m 45 #[.val (.int x0), .val (.int x1), .val (.int x2), .val (.int x3), .val (.int x4), .val (.int (3 : Int32)), .val (.int B0), .val (.int B1), .val (.int B2), .unset, .unset, .unset, .unset] [(.ref b)])) _
    refine XS.astore X3.here hx rfl (hb hby at_45) rfl rfl (l' := #[.val (.int x0), .val (.int x1), .val (.int x2), .val (.int x3), .val (.int x4), .val (.int (3 : Int32)), .val (.int B0), .val (.int B1), .val (.int B2), .val (.ref b), .unset, .unset, .unset]) rfl ?_
    show Steps p.tables e below (T3.setTop (mkF m 47 #[.val (.int x0), .val (.int x1), .val (.int x2), .val (.int x3), .val (.int x4), .val (.int (3 : Int32)), .val (.int B0), .val (.int B1), .val (.int B2), .val (.ref b), .unset, .unset, .unset] [])) _
    refine XS.iload X3.here hx rfl (hb hby at_47) rfl ?_
    show Steps p.tables e below (T3.setTop (mkF m 49 #[.val (.int x0), .val (.int x1), .val (.int x2), .val (.int x3), .val (.int x4), .val (.int (3 : Int32)), .val (.int B0), .val (.int B1), .val (.int B2), .val (.ref b), .unset, .unset, .unset] [(.int (3 : Int32))])) _
    refine XS.ifNo X3.here hx rfl (hb hby at_49) rfl ((if0 _ _).trans (tlt (by decide : (0 : Int32) < (3 : Int32))).2.2.2) ?_
    show Steps p.tables e below (T3.setTop (mkF m 52 #[.val (.int x0), .val (.int x1), .val (.int x2), .val (.int x3), .val (.int x4), .val (.int (3 : Int32)), .val (.int B0), .val (.int B1), .val (.int B2), .val (.ref b), .unset, .unset, .unset] [])) _
    refine XS.aload X3.here hx rfl (hb hby at_52) rfl rfl ?_
    show Steps p.tables e below (T3.setTop (mkF m 54 #[.val (.int x0), .val (.int x1), .val (.int x2), .val (.int x3), .val (.int x4), .val (.int (3 : Int32)), .val (.int B0), .val (.int B1), .val (.int B2), .val (.ref b), .unset, .unset, .unset] [(.ref b)])) _
    refine XS.iconst X3.here hx rfl (hb hby at_54) ?_
    show Steps p.tables e below (T3.setTop (mkF m 55 #[.val (.int x0), .val (.int x1), .val (.int x2), .val (.int x3), .val (.int x4), .val (.int (3 : Int32)), .val (.int B0), .val (.int B1), .val (.int B2), .val (.ref b), .unset, .unset, .unset] [(.int (0 : Int32)), (.ref b)])) _
    refine XS.iload X3.here hx rfl (hb hby at_55) rfl ?_
    show Steps p.tables e below (T3.setTop (mkF m 57 #[.val (.int x0), .val (.int x1), .val (.int x2), .val (.int x3), .val (.int x4), .val (.int (3 : Int32)), .val (.int B0), .val (.int B1), .val (.int B2), .val (.ref b), .unset, .unset, .unset] [(.int B0), (.int (0 : Int32)), (.ref b)])) _
    refine st5 _ ?_
    show Steps p.tables e below (T5.setTop (mkF m 58 #[.val (.int x0), .val (.int x1), .val (.int x2), .val (.int x3), .val (.int x4), .val (.int (3 : Int32)), .val (.int B0), .val (.int B1), .val (.int B2), .val (.ref b), .unset, .unset, .unset] [])) _
    refine XS.iload X5.here hx rfl (hb hby at_58) rfl ?_
    show Steps p.tables e below (T5.setTop (mkF m 60 #[.val (.int x0), .val (.int x1), .val (.int x2), .val (.int x3), .val (.int x4), .val (.int (3 : Int32)), .val (.int B0), .val (.int B1), .val (.int B2), .val (.ref b), .unset, .unset, .unset] [(.int (3 : Int32))])) _
    refine XS.iconst X5.here hx rfl (hb hby at_60) ?_
    show Steps p.tables e below (T5.setTop (mkF m 61 #[.val (.int x0), .val (.int x1), .val (.int x2), .val (.int x3), .val (.int x4), .val (.int (3 : Int32)), .val (.int B0), .val (.int B1), .val (.int B2), .val (.ref b), .unset, .unset, .unset] [(.int (1 : Int32)), (.int (3 : Int32))])) _
    refine XS.icmpNo X5.here hx rfl (hb hby at_61) rfl (tlt (by decide : (1 : Int32) < (3 : Int32))).2.2.2 ?_
    show Steps p.tables e below (T5.setTop (mkF m 64 #[.val (.int x0), .val (.int x1), .val (.int x2), .val (.int x3), .val (.int x4), .val (.int (3 : Int32)), .val (.int B0), .val (.int B1), .val (.int B2), .val (.ref b), .unset, .unset, .unset] [])) _
    refine XS.aload X5.here hx rfl (hb hby at_64) rfl rfl ?_
    show Steps p.tables e below (T5.setTop (mkF m 66 #[.val (.int x0), .val (.int x1), .val (.int x2), .val (.int x3), .val (.int x4), .val (.int (3 : Int32)), .val (.int B0), .val (.int B1), .val (.int B2), .val (.ref b), .unset, .unset, .unset] [(.ref b)])) _
    refine XS.iconst X5.here hx rfl (hb hby at_66) ?_
    show Steps p.tables e below (T5.setTop (mkF m 67 #[.val (.int x0), .val (.int x1), .val (.int x2), .val (.int x3), .val (.int x4), .val (.int (3 : Int32)), .val (.int B0), .val (.int B1), .val (.int B2), .val (.ref b), .unset, .unset, .unset] [(.int (1 : Int32)), (.ref b)])) _
    refine XS.iload X5.here hx rfl (hb hby at_67) rfl ?_
    show Steps p.tables e below (T5.setTop (mkF m 69 #[.val (.int x0), .val (.int x1), .val (.int x2), .val (.int x3), .val (.int x4), .val (.int (3 : Int32)), .val (.int B0), .val (.int B1), .val (.int B2), .val (.ref b), .unset, .unset, .unset] [(.int B1), (.int (1 : Int32)), (.ref b)])) _
    refine st7 _ ?_
    show Steps p.tables e below (T7.setTop (mkF m 70 #[.val (.int x0), .val (.int x1), .val (.int x2), .val (.int x3), .val (.int x4), .val (.int (3 : Int32)), .val (.int B0), .val (.int B1), .val (.int B2), .val (.ref b), .unset, .unset, .unset] [])) _
    refine XS.iload X7.here hx rfl (hb hby at_70) rfl ?_
    show Steps p.tables e below (T7.setTop (mkF m 72 #[.val (.int x0), .val (.int x1), .val (.int x2), .val (.int x3), .val (.int x4), .val (.int (3 : Int32)), .val (.int B0), .val (.int B1), .val (.int B2), .val (.ref b), .unset, .unset, .unset] [(.int (3 : Int32))])) _
    refine XS.iconst X7.here hx rfl (hb hby at_72) ?_
    show Steps p.tables e below (T7.setTop (mkF m 73 #[.val (.int x0), .val (.int x1), .val (.int x2), .val (.int x3), .val (.int x4), .val (.int (3 : Int32)), .val (.int B0), .val (.int B1), .val (.int B2), .val (.ref b), .unset, .unset, .unset] [(.int (2 : Int32)), (.int (3 : Int32))])) _
    refine XS.icmpNo X7.here hx rfl (hb hby at_73) rfl (tlt (by decide : (2 : Int32) < (3 : Int32))).2.2.2 ?_
    show Steps p.tables e below (T7.setTop (mkF m 76 #[.val (.int x0), .val (.int x1), .val (.int x2), .val (.int x3), .val (.int x4), .val (.int (3 : Int32)), .val (.int B0), .val (.int B1), .val (.int B2), .val (.ref b), .unset, .unset, .unset] [])) _
    refine XS.aload X7.here hx rfl (hb hby at_76) rfl rfl ?_
    show Steps p.tables e below (T7.setTop (mkF m 78 #[.val (.int x0), .val (.int x1), .val (.int x2), .val (.int x3), .val (.int x4), .val (.int (3 : Int32)), .val (.int B0), .val (.int B1), .val (.int B2), .val (.ref b), .unset, .unset, .unset] [(.ref b)])) _
    refine XS.iconst X7.here hx rfl (hb hby at_78) ?_
    show Steps p.tables e below (T7.setTop (mkF m 79 #[.val (.int x0), .val (.int x1), .val (.int x2), .val (.int x3), .val (.int x4), .val (.int (3 : Int32)), .val (.int B0), .val (.int B1), .val (.int B2), .val (.ref b), .unset, .unset, .unset] [(.int (2 : Int32)), (.ref b)])) _
    refine XS.iload X7.here hx rfl (hb hby at_79) rfl ?_
    show Steps p.tables e below (T7.setTop (mkF m 81 #[.val (.int x0), .val (.int x1), .val (.int x2), .val (.int x3), .val (.int x4), .val (.int (3 : Int32)), .val (.int B0), .val (.int B1), .val (.int B2), .val (.ref b), .unset, .unset, .unset] [(.int B2), (.int (2 : Int32)), (.ref b)])) _
    refine st9 _ ?_
    show Steps p.tables e below (T9.setTop (mkF m 82 #[.val (.int x0), .val (.int x1), .val (.int x2), .val (.int x3), .val (.int x4), .val (.int (3 : Int32)), .val (.int B0), .val (.int B1), .val (.int B2), .val (.ref b), .unset, .unset, .unset] [])) _
    refine XS.iload X9.here hx rfl (hb hby at_82) rfl ?_
    show Steps p.tables e below (T9.setTop (mkF m 84 #[.val (.int x0), .val (.int x1), .val (.int x2), .val (.int x3), .val (.int x4), .val (.int (3 : Int32)), .val (.int B0), .val (.int B1), .val (.int B2), .val (.ref b), .unset, .unset, .unset] [(.int (3 : Int32))])) _
    refine XS.iconst X9.here hx rfl (hb hby at_84) ?_
    show Steps p.tables e below (T9.setTop (mkF m 85 #[.val (.int x0), .val (.int x1), .val (.int x2), .val (.int x3), .val (.int x4), .val (.int (3 : Int32)), .val (.int B0), .val (.int B1), .val (.int B2), .val (.ref b), .unset, .unset, .unset] [(.int (2 : Int32)), (.int (3 : Int32))])) _
    refine XS.icmpNo X9.here hx rfl (hb hby at_85) rfl (flt (by decide : ¬ ((3 : Int32) < (2 : Int32)))).1 ?_
    show Steps p.tables e below (T9.setTop (mkF m 88 #[.val (.int x0), .val (.int x1), .val (.int x2), .val (.int x3), .val (.int x4), .val (.int (3 : Int32)), .val (.int B0), .val (.int B1), .val (.int B2), .val (.ref b), .unset, .unset, .unset] [])) _
    refine XS.iload X9.here hx rfl (hb hby at_88) rfl ?_
    show Steps p.tables e below (T9.setTop (mkF m 90 #[.val (.int x0), .val (.int x1), .val (.int x2), .val (.int x3), .val (.int x4), .val (.int (3 : Int32)), .val (.int B0), .val (.int B1), .val (.int B2), .val (.ref b), .unset, .unset, .unset] [(.int B0)])) _
    refine XS.bipush X9.here hx rfl (hb hby at_90) ?_
    show Steps p.tables e below (T9.setTop (mkF m 92 #[.val (.int x0), .val (.int x1), .val (.int x2), .val (.int x3), .val (.int x4), .val (.int (3 : Int32)), .val (.int B0), .val (.int B1), .val (.int B2), .val (.ref b), .unset, .unset, .unset] [(.int (31 : Int32)), (.int B0)])) _
    have k11 : ∀ (m11_s0 : Int32) t, (B0 = (31 : Int32) → m11_s0 = m12_s0) → (¬ (B0 = (31 : Int32)) → m11_s0 = (0 : Int32)) → Steps p.tables e below (T9.setTop (mkF m 107 #[.val (.int x0), .val (.int x1), .val (.int x2), .val (.int x3), .val (.int x4), .val (.int (3 : Int32)), .val (.int B0), .val (.int B1), .val (.int B2), .val (.ref b), .unset, .unset, .unset] [(.int m11_s0)])) t → Steps p.tables e below (T9.setTop (mkF m 92 #[.val (.int x0), .val (.int x1), .val (.int x2), .val (.int x3), .val (.int x4), .val (.int (3 : Int32)), .val (.int B0), .val (.int B1), .val (.int B2), .val (.ref b), .unset, .unset, .unset] [(.int (31 : Int32)), (.int B0)])) t := by
      intro m11_s0 t hAm11_s0 hBm11_s0 kk
      by_cases hq92 : B0 = (31 : Int32)
      · rw [hAm11_s0 hq92] at kk
        refine XS.icmpNo X9.here hx rfl (hb hby at_92) rfl (teq hq92).2 ?_
        show Steps p.tables e below (T9.setTop (mkF m 95 #[.val (.int x0), .val (.int x1), .val (.int x2), .val (.int x3), .val (.int x4), .val (.int (3 : Int32)), .val (.int B0), .val (.int B1), .val (.int B2), .val (.ref b), .unset, .unset, .unset] [])) _
        refine XS.iload X9.here hx rfl (hb hby at_95) rfl ?_
        show Steps p.tables e below (T9.setTop (mkF m 97 #[.val (.int x0), .val (.int x1), .val (.int x2), .val (.int x3), .val (.int x4), .val (.int (3 : Int32)), .val (.int B0), .val (.int B1), .val (.int B2), .val (.ref b), .unset, .unset, .unset] [(.int B1)])) _
        refine XS.bipush X9.here hx rfl (hb hby at_97) ?_
        show Steps p.tables e below (T9.setTop (mkF m 99 #[.val (.int x0), .val (.int x1), .val (.int x2), .val (.int x3), .val (.int x4), .val (.int (3 : Int32)), .val (.int B0), .val (.int B1), .val (.int B2), .val (.ref b), .unset, .unset, .unset] [(.int (-117 : Int32)), (.int B1)])) _
        have k12 : ∀ (m12_s0 : Int32) t, (B1 = (-117 : Int32) → m12_s0 = (1 : Int32)) → (¬ (B1 = (-117 : Int32)) → m12_s0 = (0 : Int32)) → Steps p.tables e below (T9.setTop (mkF m 107 #[.val (.int x0), .val (.int x1), .val (.int x2), .val (.int x3), .val (.int x4), .val (.int (3 : Int32)), .val (.int B0), .val (.int B1), .val (.int B2), .val (.ref b), .unset, .unset, .unset] [(.int m12_s0)])) t → Steps p.tables e below (T9.setTop (mkF m 99 #[.val (.int x0), .val (.int x1), .val (.int x2), .val (.int x3), .val (.int x4), .val (.int (3 : Int32)), .val (.int B0), .val (.int B1), .val (.int B2), .val (.ref b), .unset, .unset, .unset] [(.int (-117 : Int32)), (.int B1)])) t := by
          intro m12_s0 t hAm12_s0 hBm12_s0 kk
          by_cases hq99 : B1 = (-117 : Int32)
          · rw [hAm12_s0 hq99] at kk
            refine XS.icmpNo X9.here hx rfl (hb hby at_99) rfl (teq hq99).2 ?_
            show Steps p.tables e below (T9.setTop (mkF m 102 #[.val (.int x0), .val (.int x1), .val (.int x2), .val (.int x3), .val (.int x4), .val (.int (3 : Int32)), .val (.int B0), .val (.int B1), .val (.int B2), .val (.ref b), .unset, .unset, .unset] [])) _
            refine XS.iconst X9.here hx rfl (hb hby at_102) ?_
            show Steps p.tables e below (T9.setTop (mkF m 103 #[.val (.int x0), .val (.int x1), .val (.int x2), .val (.int x3), .val (.int x4), .val (.int (3 : Int32)), .val (.int B0), .val (.int B1), .val (.int B2), .val (.ref b), .unset, .unset, .unset] [(.int (1 : Int32))])) _
            refine XS.goto X9.here hx rfl (pc0 := 103) (pc' := 107) rfl (hb hby at_103) (by decide) (by decide) ?_
            exact kk
          · rw [hBm12_s0 hq99] at kk
            refine XS.icmpYes X9.here hx rfl (pc0 := 99) (pc' := 106) rfl (hb hby at_99) rfl (feq hq99).2 (by decide) (by decide) ?_
            show Steps p.tables e below (T9.setTop (mkF m 106 #[.val (.int x0), .val (.int x1), .val (.int x2), .val (.int x3), .val (.int x4), .val (.int (3 : Int32)), .val (.int B0), .val (.int B1), .val (.int B2), .val (.ref b), .unset, .unset, .unset] [])) _
            refine XS.iconst X9.here hx rfl (hb hby at_106) ?_
            exact kk
        refine k12 m12_s0 _ (fun h => by rw [em12_s0, if_pos h]) (fun h => by rw [em12_s0, if_neg h]) ?_
        exact kk
      · rw [hBm11_s0 hq92] at kk
        refine XS.icmpYes X9.here hx rfl (pc0 := 92) (pc' := 106) rfl (hb hby at_92) rfl (feq hq92).2 (by decide) (by decide) ?_
        show Steps p.tables e below (T9.setTop (mkF m 106 #[.val (.int x0), .val (.int x1), .val (.int x2), .val (.int x3), .val (.int x4), .val (.int (3 : Int32)), .val (.int B0), .val (.int B1), .val (.int B2), .val (.ref b), .unset, .unset, .unset] [])) _
        refine XS.iconst X9.here hx rfl (hb hby at_106) ?_
        exact kk
    refine k11 m11_s0 _ (fun h => by rw [em11_s0, if_pos h]) (fun h => by rw [em11_s0, if_neg h]) ?_
    show Steps p.tables e below (T9.setTop (mkF m 107 #[.val (.int x0), .val (.int x1), .val (.int x2), .val (.int x3), .val (.int x4), .val (.int (3 : Int32)), .val (.int B0), .val (.int B1), .val (.int B2), .val (.ref b), .unset, .unset, .unset] [(.int m11_s0)])) _
    refine XS.istore X9.here hx rfl (hb hby at_107) rfl (l' := #[.val (.int x0), .val (.int x1), .val (.int x2), .val (.int x3), .val (.int x4), .val (.int (3 : Int32)), .val (.int B0), .val (.int B1), .val (.int B2), .val (.ref b), .val (.int m11_s0), .unset, .unset]) rfl ?_
    show Steps p.tables e below (T9.setTop (mkF m 109 #[.val (.int x0), .val (.int x1), .val (.int x2), .val (.int x3), .val (.int x4), .val (.int (3 : Int32)), .val (.int B0), .val (.int B1), .val (.int B2), .val (.ref b), .val (.int m11_s0), .unset, .unset] [])) _
    refine XS.aload X9.here hx rfl (hb hby at_109) rfl rfl ?_
    show Steps p.tables e below (T9.setTop (mkF m 111 #[.val (.int x0), .val (.int x1), .val (.int x2), .val (.int x3), .val (.int x4), .val (.int (3 : Int32)), .val (.int B0), .val (.int B1), .val (.int B2), .val (.ref b), .val (.int m11_s0), .unset, .unset] [(.ref b)])) _
    refine st13 _ ?_
    show Steps p.tables e below (T13.setTop (mkF m 114 #[.val (.int x0), .val (.int x1), .val (.int x2), .val (.int x3), .val (.int x4), .val (.int (3 : Int32)), .val (.int B0), .val (.int B1), .val (.int B2), .val (.ref b), .val (.int m11_s0), .unset, .unset] [(.int (own_starts (nar .byte B0) (nar .byte B1)))])) _
    refine XS.istore X13.here hx rfl (hb hby at_114) rfl (l' := #[.val (.int x0), .val (.int x1), .val (.int x2), .val (.int x3), .val (.int x4), .val (.int (3 : Int32)), .val (.int B0), .val (.int B1), .val (.int B2), .val (.ref b), .val (.int m11_s0), .val (.int (own_starts (nar .byte B0) (nar .byte B1))), .unset]) rfl ?_
    show Steps p.tables e below (T13.setTop (mkF m 116 #[.val (.int x0), .val (.int x1), .val (.int x2), .val (.int x3), .val (.int x4), .val (.int (3 : Int32)), .val (.int B0), .val (.int B1), .val (.int B2), .val (.ref b), .val (.int m11_s0), .val (.int (own_starts (nar .byte B0) (nar .byte B1))), .unset] [])) _
    refine XS.iload X13.here hx rfl (hb hby at_116) rfl ?_
    show Steps p.tables e below (T13.setTop (mkF m 118 #[.val (.int x0), .val (.int x1), .val (.int x2), .val (.int x3), .val (.int x4), .val (.int (3 : Int32)), .val (.int B0), .val (.int B1), .val (.int B2), .val (.ref b), .val (.int m11_s0), .val (.int (own_starts (nar .byte B0) (nar .byte B1))), .unset] [(.int (3 : Int32))])) _
    refine XS.iconst X13.here hx rfl (hb hby at_118) ?_
    show Steps p.tables e below (T13.setTop (mkF m 119 #[.val (.int x0), .val (.int x1), .val (.int x2), .val (.int x3), .val (.int x4), .val (.int (3 : Int32)), .val (.int B0), .val (.int B1), .val (.int B2), .val (.ref b), .val (.int m11_s0), .val (.int (own_starts (nar .byte B0) (nar .byte B1))), .unset] [(.int (1 : Int32)), (.int (3 : Int32))])) _
    refine XS.icmpNo X13.here hx rfl (hb hby at_119) rfl (flt (by decide : ¬ ((3 : Int32) < (1 : Int32)))).1 ?_
    show Steps p.tables e below (T13.setTop (mkF m 122 #[.val (.int x0), .val (.int x1), .val (.int x2), .val (.int x3), .val (.int x4), .val (.int (3 : Int32)), .val (.int B0), .val (.int B1), .val (.int B2), .val (.ref b), .val (.int m11_s0), .val (.int (own_starts (nar .byte B0) (nar .byte B1))), .unset] [])) _
    refine XS.aload X13.here hx rfl (hb hby at_122) rfl rfl ?_
    show Steps p.tables e below (T13.setTop (mkF m 124 #[.val (.int x0), .val (.int x1), .val (.int x2), .val (.int x3), .val (.int x4), .val (.int (3 : Int32)), .val (.int B0), .val (.int B1), .val (.int B2), .val (.ref b), .val (.int m11_s0), .val (.int (own_starts (nar .byte B0) (nar .byte B1))), .unset] [(.ref b)])) _
    refine XS.iconst X13.here hx rfl (hb hby at_124) ?_
    show Steps p.tables e below (T13.setTop (mkF m 125 #[.val (.int x0), .val (.int x1), .val (.int x2), .val (.int x3), .val (.int x4), .val (.int (3 : Int32)), .val (.int B0), .val (.int B1), .val (.int B2), .val (.ref b), .val (.int m11_s0), .val (.int (own_starts (nar .byte B0) (nar .byte B1))), .unset] [(.int (0 : Int32)), (.ref b)])) _
    refine own_ldB X13 hx hZ e13 V_b_9 (j := (0 : Int32)) (w := (nar .byte B0)) ⟨by decide, by decide⟩ rfl (g := (mkF m 125 #[.val (.int x0), .val (.int x1), .val (.int x2), .val (.int x3), .val (.int x4), .val (.int (3 : Int32)), .val (.int B0), .val (.int B1), .val (.int B2), .val (.ref b), .val (.int m11_s0), .val (.int (own_starts (nar .byte B0) (nar .byte B1))), .unset] [(.int (0 : Int32)), (.ref b)])) rfl rfl (hb hby at_125) ?_
    show Steps p.tables e below (T13.setTop (mkF m 126 #[.val (.int x0), .val (.int x1), .val (.int x2), .val (.int x3), .val (.int x4), .val (.int (3 : Int32)), .val (.int B0), .val (.int B1), .val (.int B2), .val (.ref b), .val (.int m11_s0), .val (.int (own_starts (nar .byte B0) (nar .byte B1))), .unset] [(.int (nar .byte B0))])) _
    refine XS.iload X13.here hx rfl (hb hby at_126) rfl ?_
    show Steps p.tables e below (T13.setTop (mkF m 128 #[.val (.int x0), .val (.int x1), .val (.int x2), .val (.int x3), .val (.int x4), .val (.int (3 : Int32)), .val (.int B0), .val (.int B1), .val (.int B2), .val (.ref b), .val (.int m11_s0), .val (.int (own_starts (nar .byte B0) (nar .byte B1))), .unset] [(.int B0), (.int (nar .byte B0))])) _
    refine XS.icmpNo X13.here hx rfl (hb hby at_128) rfl (teq hnb0).2 ?_
    show Steps p.tables e below (T13.setTop (mkF m 131 #[.val (.int x0), .val (.int x1), .val (.int x2), .val (.int x3), .val (.int x4), .val (.int (3 : Int32)), .val (.int B0), .val (.int B1), .val (.int B2), .val (.ref b), .val (.int m11_s0), .val (.int (own_starts (nar .byte B0) (nar .byte B1))), .unset] [])) _
    refine XS.iload X13.here hx rfl (hb hby at_131) rfl ?_
    show Steps p.tables e below (T13.setTop (mkF m 133 #[.val (.int x0), .val (.int x1), .val (.int x2), .val (.int x3), .val (.int x4), .val (.int (3 : Int32)), .val (.int B0), .val (.int B1), .val (.int B2), .val (.ref b), .val (.int m11_s0), .val (.int (own_starts (nar .byte B0) (nar .byte B1))), .unset] [(.int (3 : Int32))])) _
    refine XS.iconst X13.here hx rfl (hb hby at_133) ?_
    show Steps p.tables e below (T13.setTop (mkF m 134 #[.val (.int x0), .val (.int x1), .val (.int x2), .val (.int x3), .val (.int x4), .val (.int (3 : Int32)), .val (.int B0), .val (.int B1), .val (.int B2), .val (.ref b), .val (.int m11_s0), .val (.int (own_starts (nar .byte B0) (nar .byte B1))), .unset] [(.int (2 : Int32)), (.int (3 : Int32))])) _
    refine XS.icmpNo X13.here hx rfl (hb hby at_134) rfl (flt (by decide : ¬ ((3 : Int32) < (2 : Int32)))).1 ?_
    show Steps p.tables e below (T13.setTop (mkF m 137 #[.val (.int x0), .val (.int x1), .val (.int x2), .val (.int x3), .val (.int x4), .val (.int (3 : Int32)), .val (.int B0), .val (.int B1), .val (.int B2), .val (.ref b), .val (.int m11_s0), .val (.int (own_starts (nar .byte B0) (nar .byte B1))), .unset] [])) _
    refine XS.aload X13.here hx rfl (hb hby at_137) rfl rfl ?_
    show Steps p.tables e below (T13.setTop (mkF m 139 #[.val (.int x0), .val (.int x1), .val (.int x2), .val (.int x3), .val (.int x4), .val (.int (3 : Int32)), .val (.int B0), .val (.int B1), .val (.int B2), .val (.ref b), .val (.int m11_s0), .val (.int (own_starts (nar .byte B0) (nar .byte B1))), .unset] [(.ref b)])) _
    refine XS.iconst X13.here hx rfl (hb hby at_139) ?_
    show Steps p.tables e below (T13.setTop (mkF m 140 #[.val (.int x0), .val (.int x1), .val (.int x2), .val (.int x3), .val (.int x4), .val (.int (3 : Int32)), .val (.int B0), .val (.int B1), .val (.int B2), .val (.ref b), .val (.int m11_s0), .val (.int (own_starts (nar .byte B0) (nar .byte B1))), .unset] [(.int (1 : Int32)), (.ref b)])) _
    refine own_ldB X13 hx hZ e13 V_b_9 (j := (1 : Int32)) (w := (nar .byte B1)) ⟨by decide, by decide⟩ rfl (g := (mkF m 140 #[.val (.int x0), .val (.int x1), .val (.int x2), .val (.int x3), .val (.int x4), .val (.int (3 : Int32)), .val (.int B0), .val (.int B1), .val (.int B2), .val (.ref b), .val (.int m11_s0), .val (.int (own_starts (nar .byte B0) (nar .byte B1))), .unset] [(.int (1 : Int32)), (.ref b)])) rfl rfl (hb hby at_140) ?_
    show Steps p.tables e below (T13.setTop (mkF m 141 #[.val (.int x0), .val (.int x1), .val (.int x2), .val (.int x3), .val (.int x4), .val (.int (3 : Int32)), .val (.int B0), .val (.int B1), .val (.int B2), .val (.ref b), .val (.int m11_s0), .val (.int (own_starts (nar .byte B0) (nar .byte B1))), .unset] [(.int (nar .byte B1))])) _
    refine XS.iload X13.here hx rfl (hb hby at_141) rfl ?_
    show Steps p.tables e below (T13.setTop (mkF m 143 #[.val (.int x0), .val (.int x1), .val (.int x2), .val (.int x3), .val (.int x4), .val (.int (3 : Int32)), .val (.int B0), .val (.int B1), .val (.int B2), .val (.ref b), .val (.int m11_s0), .val (.int (own_starts (nar .byte B0) (nar .byte B1))), .unset] [(.int B1), (.int (nar .byte B1))])) _
    refine XS.icmpNo X13.here hx rfl (hb hby at_143) rfl (teq hnb1).2 ?_
    show Steps p.tables e below (T13.setTop (mkF m 146 #[.val (.int x0), .val (.int x1), .val (.int x2), .val (.int x3), .val (.int x4), .val (.int (3 : Int32)), .val (.int B0), .val (.int B1), .val (.int B2), .val (.ref b), .val (.int m11_s0), .val (.int (own_starts (nar .byte B0) (nar .byte B1))), .unset] [])) _
    refine XS.iload X13.here hx rfl (hb hby at_146) rfl ?_
    show Steps p.tables e below (T13.setTop (mkF m 148 #[.val (.int x0), .val (.int x1), .val (.int x2), .val (.int x3), .val (.int x4), .val (.int (3 : Int32)), .val (.int B0), .val (.int B1), .val (.int B2), .val (.ref b), .val (.int m11_s0), .val (.int (own_starts (nar .byte B0) (nar .byte B1))), .unset] [(.int (3 : Int32))])) _
    refine XS.iconst X13.here hx rfl (hb hby at_148) ?_
    show Steps p.tables e below (T13.setTop (mkF m 149 #[.val (.int x0), .val (.int x1), .val (.int x2), .val (.int x3), .val (.int x4), .val (.int (3 : Int32)), .val (.int B0), .val (.int B1), .val (.int B2), .val (.ref b), .val (.int m11_s0), .val (.int (own_starts (nar .byte B0) (nar .byte B1))), .unset] [(.int (3 : Int32)), (.int (3 : Int32))])) _
    refine XS.icmpNo X13.here hx rfl (hb hby at_149) rfl (flt (by decide : ¬ ((3 : Int32) < (3 : Int32)))).1 ?_
    show Steps p.tables e below (T13.setTop (mkF m 152 #[.val (.int x0), .val (.int x1), .val (.int x2), .val (.int x3), .val (.int x4), .val (.int (3 : Int32)), .val (.int B0), .val (.int B1), .val (.int B2), .val (.ref b), .val (.int m11_s0), .val (.int (own_starts (nar .byte B0) (nar .byte B1))), .unset] [])) _
    refine XS.aload X13.here hx rfl (hb hby at_152) rfl rfl ?_
    show Steps p.tables e below (T13.setTop (mkF m 154 #[.val (.int x0), .val (.int x1), .val (.int x2), .val (.int x3), .val (.int x4), .val (.int (3 : Int32)), .val (.int B0), .val (.int B1), .val (.int B2), .val (.ref b), .val (.int m11_s0), .val (.int (own_starts (nar .byte B0) (nar .byte B1))), .unset] [(.ref b)])) _
    refine XS.iconst X13.here hx rfl (hb hby at_154) ?_
    show Steps p.tables e below (T13.setTop (mkF m 155 #[.val (.int x0), .val (.int x1), .val (.int x2), .val (.int x3), .val (.int x4), .val (.int (3 : Int32)), .val (.int B0), .val (.int B1), .val (.int B2), .val (.ref b), .val (.int m11_s0), .val (.int (own_starts (nar .byte B0) (nar .byte B1))), .unset] [(.int (2 : Int32)), (.ref b)])) _
    refine own_ldB X13 hx hZ e13 V_b_9 (j := (2 : Int32)) (w := (nar .byte B2)) ⟨by decide, by decide⟩ rfl (g := (mkF m 155 #[.val (.int x0), .val (.int x1), .val (.int x2), .val (.int x3), .val (.int x4), .val (.int (3 : Int32)), .val (.int B0), .val (.int B1), .val (.int B2), .val (.ref b), .val (.int m11_s0), .val (.int (own_starts (nar .byte B0) (nar .byte B1))), .unset] [(.int (2 : Int32)), (.ref b)])) rfl rfl (hb hby at_155) ?_
    show Steps p.tables e below (T13.setTop (mkF m 156 #[.val (.int x0), .val (.int x1), .val (.int x2), .val (.int x3), .val (.int x4), .val (.int (3 : Int32)), .val (.int B0), .val (.int B1), .val (.int B2), .val (.ref b), .val (.int m11_s0), .val (.int (own_starts (nar .byte B0) (nar .byte B1))), .unset] [(.int (nar .byte B2))])) _
    refine XS.iload X13.here hx rfl (hb hby at_156) rfl ?_
    show Steps p.tables e below (T13.setTop (mkF m 158 #[.val (.int x0), .val (.int x1), .val (.int x2), .val (.int x3), .val (.int x4), .val (.int (3 : Int32)), .val (.int B0), .val (.int B1), .val (.int B2), .val (.ref b), .val (.int m11_s0), .val (.int (own_starts (nar .byte B0) (nar .byte B1))), .unset] [(.int B2), (.int (nar .byte B2))])) _
    refine XS.icmpNo X13.here hx rfl (hb hby at_158) rfl (teq hnb2).2 ?_
    show Steps p.tables e below (T13.setTop (mkF m 161 #[.val (.int x0), .val (.int x1), .val (.int x2), .val (.int x3), .val (.int x4), .val (.int (3 : Int32)), .val (.int B0), .val (.int B1), .val (.int B2), .val (.ref b), .val (.int m11_s0), .val (.int (own_starts (nar .byte B0) (nar .byte B1))), .unset] [])) _
    refine XS.iconst X13.here hx rfl (hb hby at_161) ?_
    show Steps p.tables e below (T13.setTop (mkF m 162 #[.val (.int x0), .val (.int x1), .val (.int x2), .val (.int x3), .val (.int x4), .val (.int (3 : Int32)), .val (.int B0), .val (.int B1), .val (.int B2), .val (.ref b), .val (.int m11_s0), .val (.int (own_starts (nar .byte B0) (nar .byte B1))), .unset] [(.int (1 : Int32))])) _
    refine XS.goto X13.here hx rfl (pc0 := 162) (pc' := 166) rfl (hb hby at_162) (by decide) (by decide) ?_
    show Steps p.tables e below (T13.setTop (mkF m 166 #[.val (.int x0), .val (.int x1), .val (.int x2), .val (.int x3), .val (.int x4), .val (.int (3 : Int32)), .val (.int B0), .val (.int B1), .val (.int B2), .val (.ref b), .val (.int m11_s0), .val (.int (own_starts (nar .byte B0) (nar .byte B1))), .unset] [(.int (1 : Int32))])) _
    refine XS.istore X13.here hx rfl (hb hby at_166) rfl (l' := #[.val (.int x0), .val (.int x1), .val (.int x2), .val (.int x3), .val (.int x4), .val (.int (3 : Int32)), .val (.int B0), .val (.int B1), .val (.int B2), .val (.ref b), .val (.int m11_s0), .val (.int (own_starts (nar .byte B0) (nar .byte B1))), .val (.int (1 : Int32))]) rfl ?_
    show Steps p.tables e below (T13.setTop (mkF m 168 #[.val (.int x0), .val (.int x1), .val (.int x2), .val (.int x3), .val (.int x4), .val (.int (3 : Int32)), .val (.int B0), .val (.int B1), .val (.int B2), .val (.ref b), .val (.int m11_s0), .val (.int (own_starts (nar .byte B0) (nar .byte B1))), .val (.int (1 : Int32))] [])) _
    refine XS.iload X13.here hx rfl (hb hby at_168) rfl ?_
    show Steps p.tables e below (T13.setTop (mkF m 170 #[.val (.int x0), .val (.int x1), .val (.int x2), .val (.int x3), .val (.int x4), .val (.int (3 : Int32)), .val (.int B0), .val (.int B1), .val (.int B2), .val (.ref b), .val (.int m11_s0), .val (.int (own_starts (nar .byte B0) (nar .byte B1))), .val (.int (1 : Int32))] [(.int (own_starts (nar .byte B0) (nar .byte B1)))])) _
    refine XS.iload X13.here hx rfl (hb hby at_170) rfl ?_
    show Steps p.tables e below (T13.setTop (mkF m 172 #[.val (.int x0), .val (.int x1), .val (.int x2), .val (.int x3), .val (.int x4), .val (.int (3 : Int32)), .val (.int B0), .val (.int B1), .val (.int B2), .val (.ref b), .val (.int m11_s0), .val (.int (own_starts (nar .byte B0) (nar .byte B1))), .val (.int (1 : Int32))] [(.int m11_s0), (.int (own_starts (nar .byte B0) (nar .byte B1)))])) _
    refine XS.icmpNo X13.here hx rfl (hb hby at_172) rfl (teq hfin).2 ?_
    show Steps p.tables e below (T13.setTop (mkF m 175 #[.val (.int x0), .val (.int x1), .val (.int x2), .val (.int x3), .val (.int x4), .val (.int (3 : Int32)), .val (.int B0), .val (.int B1), .val (.int B2), .val (.ref b), .val (.int m11_s0), .val (.int (own_starts (nar .byte B0) (nar .byte B1))), .val (.int (1 : Int32))] [])) _
    refine XS.iload X13.here hx rfl (hb hby at_175) rfl ?_
    show Steps p.tables e below (T13.setTop (mkF m 177 #[.val (.int x0), .val (.int x1), .val (.int x2), .val (.int x3), .val (.int x4), .val (.int (3 : Int32)), .val (.int B0), .val (.int B1), .val (.int B2), .val (.ref b), .val (.int m11_s0), .val (.int (own_starts (nar .byte B0) (nar .byte B1))), .val (.int (1 : Int32))] [(.int (1 : Int32))])) _
    refine XS.ifNo X13.here hx rfl (hb hby at_177) rfl ((if0 _ _).trans (feq (by decide : ¬ ((1 : Int32) = (0 : Int32)))).1) ?_
    show Steps p.tables e below (T13.setTop (mkF m 180 #[.val (.int x0), .val (.int x1), .val (.int x2), .val (.int x3), .val (.int x4), .val (.int (3 : Int32)), .val (.int B0), .val (.int B1), .val (.int B2), .val (.ref b), .val (.int m11_s0), .val (.int (own_starts (nar .byte B0) (nar .byte B1))), .val (.int (1 : Int32))] [])) _
    refine XS.iconst X13.here hx rfl (hb hby at_180) ?_
    show Steps p.tables e below (T13.setTop (mkF m 181 #[.val (.int x0), .val (.int x1), .val (.int x2), .val (.int x3), .val (.int x4), .val (.int (3 : Int32)), .val (.int B0), .val (.int B1), .val (.int B2), .val (.ref b), .val (.int m11_s0), .val (.int (own_starts (nar .byte B0) (nar .byte B1))), .val (.int (1 : Int32))] [(.int (1 : Int32))])) _
    refine XS.goto X13.here hx rfl (pc0 := 181) (pc' := 185) rfl (hb hby at_181) (by decide) (by decide) ?_
    show Steps p.tables e below (T13.setTop (mkF m 185 #[.val (.int x0), .val (.int x1), .val (.int x2), .val (.int x3), .val (.int x4), .val (.int (3 : Int32)), .val (.int B0), .val (.int B1), .val (.int B2), .val (.ref b), .val (.int m11_s0), .val (.int (own_starts (nar .byte B0) (nar .byte B1))), .val (.int (1 : Int32))] [(.int (1 : Int32))])) _
    exact retN X13 hx (t := .boolean) Bd.returns (by simp) (hb hby at_185) hr
  · exact ⟨rfl, N13⟩
theorem rm0 (l : Launch) (Z : State) (a0 : Array Value) (hw : ∀ d ∈ tables_1, d.before a0 Z = true) (ws : List Jvm.Cond) (x0 : Int32) (x1 : Int32) (x2 : Int32) (x3 : Int32) (x4 : Int32) (mg : Addr) (km : ClassId) (h0 : Heap) (n0 : Nat) (Z0 : n0 ≤ h0.size) (S_MAGIC : Sta Z h0 "com/example/rootline/rootline/reader/GzipChannel" "MAGIC" "[I" (.ref mg)) (V_mg : Arv Z h0 mg km .int (3 : Int32) [(.int (31 : Int32)), (.int (139 : Int32)), (.int (8 : Int32))] (.int (0 : Int32))) :
    MetFree l x (head1 (Jvm.Cond.code x code maxLocals ret :: ws) room_1) (fun a U => a = #[(.int x0), (.int x1), (.int x2), (.int x3), (.int x4)] ∧ Z.Warmed39 U.vm ∧ U.heap = h0) (fun _ _ _ _ _ => True) (fun _ U o U' => ∃ v L, o = .returned v ∧ (QL n0 v U'.heap L) ∧ FrameEnd U o U' L room_1.cells room_1.slots) := by
  rcases own_four x0 with q | q | q | q
  · exact rm0_0 l Z a0 hw ws x0 x1 x2 x3 x4 mg km h0 n0 Z0 q S_MAGIC V_mg
  · exact rm0_1 l Z a0 hw ws x0 x1 x2 x3 x4 mg km h0 n0 Z0 q S_MAGIC V_mg
  · exact rm0_2 l Z a0 hw ws x0 x1 x2 x3 x4 mg km h0 n0 Z0 q S_MAGIC V_mg
  · exact rm0_3 l Z a0 hw ws x0 x1 x2 x3 x4 mg km h0 n0 Z0 q S_MAGIC V_mg
set_option maxRecDepth 65536 in
set_option maxHeartbeats 40000000 in
theorem comes_1 {Post : Tables → Env → Array Value → State → Outcome → State → Prop} (hpost : ∀ tb e args s v u, (limb_1_1.after args s (.returned v) u = true ∧ limb_1_2.after args s (.returned v) u = true ∧ True) → FrameEnd s (.returned v) u (Jvm.fieldLocs frame_1_writes args s ++ Jvm.arrayLocs frame_1_arrays args s ++ Jvm.staticLocs frame_1_statics s) 16 128 → Post tb e args s (.returned v) u) :
    ArmFor flags0 classFile x code maxLocals ret World_1 tables_1 room_1 Calls_1 rest_1 Pre_1 Post := by
  intro l hfl _ _ p e ha hc hk s m args below hf hA hF happ hP
  obtain ⟨hcalls, hrest, hpre⟩ := hP
  obtain ⟨-, -, -, hnamed, -, -, -, hat⟩ := (Spec.applies_iff hf).mp happ
  obtain ⟨hg, hn⟩ := and_e (Cond.before_iff.mp (show (Jvm.Cond.and given_1 narrow_1).before args s = true from hpre))
  obtain ⟨g1, g2⟩ := and_e hg
  obtain ⟨g3, g4⟩ := and_e g2
  obtain ⟨g5, g6⟩ := and_e g4
  obtain ⟨g7, g8⟩ := and_e g6
  obtain ⟨g9, g10⟩ := and_e g8
  obtain ⟨w0, w1, w2, w3, w4, rfl⟩ : ∃ w0 w1 w2 w3 w4 : Value, args = #[w0, w1, w2, w3, w4] := by
    have hs : args.size = 5 := by simpa [Cond.value, given_1] using g1
    obtain ⟨L⟩ := args
    match L, hs with
    | [w0, w1, w2, w3, w4], _ => exact ⟨w0, w1, w2, w3, w4, rfl⟩
  have hw := fun d (hd : d ∈ tables_1) => atoms_spec (ws := Jvm.Cond.code x code maxLocals ret :: tables_1) hat d (List.mem_cons_of_mem _ hd)
  have hfit : Fit s := fun {y c} hc i hi => by
    obtain ⟨ha, rfl⟩ := Array.getElem?_eq_some_iff.mp hc
    have q := List.all_eq_true.mp ((Array.all_eq_true_iff_forall_mem.mp hF) _ (Array.getElem_mem ha)) i (List.mem_range.mpr hi)
    simpa [Array.getElem?_eq_getElem hi] using q
  obtain ⟨i0, ei0⟩ := is_v g3
  obtain rfl : w0 = (.int i0) := Option.some.inj ei0
  obtain ⟨i1, ei1⟩ := is_v g5
  obtain rfl : w1 = (.int i1) := Option.some.inj ei1
  obtain ⟨i2, ei2⟩ := is_v g7
  obtain rfl : w2 = (.int i2) := Option.some.inj ei2
  obtain ⟨i3, ei3⟩ := is_v g9
  obtain rfl : w3 = (.int i3) := Option.some.inj ei3
  obtain ⟨i4, ei4⟩ := is_v g10
  obtain rfl : w4 = (.int i4) := Option.some.inj ei4
  obtain ⟨na, nr⟩ := and_e hn
  obtain ⟨nl, nr⟩ := and_e nr
  obtain ⟨ne0, nr⟩ := and_e nr
  obtain ⟨ne1, ne2⟩ := and_e nr
  obtain ⟨mg, emg⟩ := arr_v na
  obtain ⟨cl, Amg⟩ := Arr.start emg na
  have S_MAGIC : Sta s s.heap "com/example/rootline/rootline/reader/GzipChannel" "MAGIC" "[I" (.ref mg) := Sta.start emg (Or.inr ⟨hw _ (List.mem_of_getElem? (i := 3) rfl), hw _ (List.mem_of_getElem? (i := 6) rfl)⟩)
  obtain ⟨hl1, hl2⟩ := own_lenAt emg (Arr.fin (State.Warmed39.refl s).alike Amg) (own_eqInt nl)
  have E0 := (elem_in (own_eqInt ne0) emg (Term.int_eval (0)) Amg.1).2
  have E1 := (elem_in (own_eqInt ne1) emg (Term.int_eval (1)) Amg.1).2
  have E2 := (elem_in (own_eqInt ne2) emg (Term.int_eval (2)) Amg.1).2
  have V_mg : Arv s s.heap mg cl.cls .int (3 : Int32) [(.int (31 : Int32)), (.int (139 : Int32)), (.int (8 : Int32))] (.int (0 : Int32)) := Arv.start hfit Amg hl1 hl2 (by decide) rfl ⟨E0, E1, E2, trivial⟩
  obtain ⟨n, o, h1, h2, h3, _, L, rfl, ⟨rfl, N⟩, hq⟩ := rm0 l s _ hw tables_1 i0 i1 i2 i3 i4 mg cl.cls s.heap s.heap.size (Nat.le_refl _) S_MAGIC V_mg p e ha hc hk s m _ below hf ((Spec.applies_iff_loose hf).mp happ).1 ⟨rfl, State.Warmed39.refl s, rfl⟩ trivial
  refine ⟨n, _, h1, h2, h3, hpost _ _ _ _ _ _ ⟨Cond.after_iff.mpr rfl, Cond.after_iff.mpr (eq_i res_at (Term.int_eval (1)) rfl), trivial⟩ ⟨hq.1, hq.2.1, (hq.2.2.sift fun y hy => Or.inr (N y hy)).mono (by decide) (by decide)⟩⟩
theorem main_1_1 : Claimed_1_1 := comes_1 fun _ _ _ _ _ _ h hF => ⟨h.1, hF⟩
theorem main_1_2 : Claimed_1_2 := comes_1 fun _ _ _ _ _ _ h hF => ⟨h.2.1, hF⟩
end Jvm.Pilot.@@N@@
namespace Jvm.Pilot.@@N@@
open Jvm Jvm.ClassFile Sem Op Lib Jvm.Free Jvm.Stand Jvm.Pilot.@@N@@.Jvm.D
/-! MADE BY PROGRAM (witnessworld.py) out of the Statement's table words and the real class files: 10 classes; the members and pool entries that the words name. The judged class is class 1, her method 1. -/
namespace start1
open Jvm.ClassFile
def u (s : String) : CpInfo := .utf8 (stringToUtf16 s)
/-- a pool by its gaps: so many unusable entries, then the entry; so many at the end -/
def gap : Nat → List CpInfo → List CpInfo
  | 0, r => r
  | n + 1, r => .unusable :: gap n r
def poolList (es : List (Nat × CpInfo)) (last : Nat) : List CpInfo := es.foldr (fun e r => gap e.1 (e.2 :: r)) (gap last [])
def pool (es : List (Nat × CpInfo)) (last : Nat) : Array CpInfo := ⟨poolList es last⟩
def fileOf (pool : Array CpInfo) (this : Nat) (attrs : Array Attribute := #[]) (ms : Array MethodInfo := #[]) (fl : Nat := 33) (sup : Nat := 0) (ifs : Array Nat := #[]) (fds : Array FieldInfo := #[]) : ClassFile where
  minorVersion := 0
  majorVersion := 65
  constantPool := pool
  accessFlags := fl
  thisClass := this
  superClass := sup
  interfaces := ifs
  fields := fds
  methods := ms
  attributes := attrs
def plain (name : String) (sup : Option ClassId) : Class where
  name := name
  kind := .ordinary
  loader := none
  accessFlags := 33
  super := sup
  interfaces := #[]
  cf := none
  fields := #[]
  methods := #[]
  instanceTypes := #[]
  staticTypes := #[]
  resolved := #[]
  callSites := []
  init := .initialized
  statics := none
  mirror := none

def pool0 : Array CpInfo := pool [(5, u "<init>"), (0, u "()V"), (1, .class_ 10), (1, u "java/lang/Object")] 113

def k0m0 : Method := { name := "<init>", desc := "()V", sig := { parameters := [], returnType := none }, accessFlags := 1, code := none }
/-- java/lang/Object -/
def k0 : Class := { plain "java/lang/Object" none with
  accessFlags := 33
  interfaces := #[]
  cf := some (fileOf pool0 8 #[] #[{ accessFlags := 1, nameIndex := 5, descriptorIndex := 6, attributes := #[] }] 33 0 #[] #[])
  fields := #[]
  methods := #[k0m0]
  instanceTypes := #[]
  staticTypes := #[]
  resolved := Array.replicate 124 none
  statics := none }

def pool1 : Array CpInfo := pool [(2, .class_ 4), (1, u "java/lang/Object"), (0, u "<init>"), (0, u "()V"), (0, .methodref 8 9), (0, .class_ 10), (0, .nameAndType 11 12), (0, u "com/example/rootline/rootline/reader/GzipChannel"), (0, u "starts"), (0, u "([B)Z"), (0, .class_ 14), (0, u "com/example/rootline/rootline/reader/GzipChannelStartsPinLaw"), (2, u "law"), (0, u "(IIIII)Z")] 5

def k1m0 : Method := { name := "<init>", desc := "()V", sig := { parameters := [], returnType := none }, accessFlags := 1, code := none }
def k1c1 : Code := { maxStack := 3, maxLocals := 13, code := code, exceptionTable := #[], attributes := #[] }
def k1m1 : Method := { name := "law", desc := "(IIIII)Z", sig := { parameters := [.int, .int, .int, .int, .int], returnType := some .boolean }, accessFlags := 9, code := some k1c1 }
/-- com/example/rootline/rootline/reader/GzipChannelStartsPinLaw -/
def k1 : Class := { plain "com/example/rootline/rootline/reader/GzipChannelStartsPinLaw" (some 0) with
  accessFlags := 49
  interfaces := #[]
  cf := some (fileOf pool1 13 #[] #[{ accessFlags := 1, nameIndex := 5, descriptorIndex := 6, attributes := #[] }, { accessFlags := 9, nameIndex := 17, descriptorIndex := 18, attributes := #[] }] 49 2 #[] #[])
  fields := #[]
  methods := #[k1m0, k1m1]
  instanceTypes := #[]
  staticTypes := #[]
  resolved := Array.replicate 24 none
  statics := none }

def pool2 : Array CpInfo := pool [(1, u "java/nio/channels/ReadableByteChannel"), (0, .class_ 1), (0, u "java/lang/Object"), (0, .class_ 3)] 0

/-- java/nio/channels/ReadableByteChannel -/
def k2 : Class := { plain "java/nio/channels/ReadableByteChannel" (some 0) with
  accessFlags := 1537
  interfaces := #[]
  cf := some (fileOf pool2 2 #[] #[] 1537 4 #[] #[])
  fields := #[]
  methods := #[]
  instanceTypes := #[]
  staticTypes := #[]
  resolved := Array.replicate 5 none
  statics := none }

def pool3 : Array CpInfo := pool [(2, .class_ 4), (1, u "java/lang/Object"), (2, .class_ 8), (0, u "com/example/rootline/rootline/reader/GzipChannel"), (9, u "input"), (0, u "Ljava/nio/ByteBuffer;"), (7, u "inflater"), (0, u "Ljava/util/zip/Inflater;"), (5, u "crc"), (0, u "Ljava/util/zip/CRC32;"), (2, u "file"), (0, u "Ljava/nio/channels/ReadableByteChannel;"), (3, .fieldref 7 44), (0, .nameAndType 45 46), (0, u "MAGIC"), (0, u "[I"), (10, u "inMember"), (0, u "Z"), (11, u "cutShort"), (11, .class_ 84), (1, u "java/nio/channels/ReadableByteChannel"), (9, u "fileRead"), (0, u "J"), (5, u "memberOffset"), (95, u "FHCRC"), (0, u "I"), (2, u "FEXTRA"), (1, u "FNAME"), (1, u "FCOMMENT"), (1, u "RESERVED"), (1, u "FIXED_HEADER"), (1, u "INPUT_SIZE"), (3, u "starts"), (0, u "([B)Z")] 27

def k3c0 : Code := { maxStack := 3, maxLocals := 1, code := prog_218_method_2_code, exceptionTable := #[], attributes := #[] }
def k3m0 : Method := { name := "starts", desc := "([B)Z", sig := { parameters := [(.array .byte)], returnType := some .boolean }, accessFlags := 8, code := some k3c0 }
/-- com/example/rootline/rootline/reader/GzipChannel -/
def k3 : Class := { plain "com/example/rootline/rootline/reader/GzipChannel" (some 0) with
  accessFlags := 48
  interfaces := #[2]
  cf := some (fileOf pool3 7 #[] #[{ accessFlags := 8, nameIndex := 215, descriptorIndex := 216, attributes := #[] }] 48 2 #[82] #[{ accessFlags := 26, nameIndex := 45, descriptorIndex := 46, attributes := #[] }, { accessFlags := 26, nameIndex := 197, descriptorIndex := 198, attributes := #[] }, { accessFlags := 26, nameIndex := 201, descriptorIndex := 198, attributes := #[] }, { accessFlags := 26, nameIndex := 203, descriptorIndex := 198, attributes := #[] }, { accessFlags := 26, nameIndex := 205, descriptorIndex := 198, attributes := #[] }, { accessFlags := 26, nameIndex := 207, descriptorIndex := 198, attributes := #[] }, { accessFlags := 26, nameIndex := 209, descriptorIndex := 198, attributes := #[] }, { accessFlags := 26, nameIndex := 211, descriptorIndex := 198, attributes := #[] }, { accessFlags := 18, nameIndex := 38, descriptorIndex := 39, attributes := #[] }, { accessFlags := 18, nameIndex := 18, descriptorIndex := 19, attributes := #[] }, { accessFlags := 2, nameIndex := 94, descriptorIndex := 95, attributes := #[] }, { accessFlags := 18, nameIndex := 27, descriptorIndex := 28, attributes := #[] }, { accessFlags := 18, nameIndex := 34, descriptorIndex := 35, attributes := #[] }, { accessFlags := 2, nameIndex := 101, descriptorIndex := 95, attributes := #[] }, { accessFlags := 2, nameIndex := 57, descriptorIndex := 58, attributes := #[] }, { accessFlags := 2, nameIndex := 70, descriptorIndex := 58, attributes := #[] }])
  fields := #[{ name := "MAGIC", type := (.array .int), accessFlags := 26, slot := 0, constantValue := 0 }, { name := "FHCRC", type := .int, accessFlags := 26, slot := 1, constantValue := 0 }, { name := "FEXTRA", type := .int, accessFlags := 26, slot := 2, constantValue := 0 }, { name := "FNAME", type := .int, accessFlags := 26, slot := 3, constantValue := 0 }, { name := "FCOMMENT", type := .int, accessFlags := 26, slot := 4, constantValue := 0 }, { name := "RESERVED", type := .int, accessFlags := 26, slot := 5, constantValue := 0 }, { name := "FIXED_HEADER", type := .int, accessFlags := 26, slot := 6, constantValue := 0 }, { name := "INPUT_SIZE", type := .int, accessFlags := 26, slot := 7, constantValue := 0 }, { name := "file", type := (.object "java/nio/channels/ReadableByteChannel"), accessFlags := 18, slot := 0, constantValue := 0 }, { name := "input", type := (.object "java/nio/ByteBuffer"), accessFlags := 18, slot := 1, constantValue := 0 }, { name := "fileRead", type := .long, accessFlags := 2, slot := 2, constantValue := 0 }, { name := "inflater", type := (.object "java/util/zip/Inflater"), accessFlags := 18, slot := 3, constantValue := 0 }, { name := "crc", type := (.object "java/util/zip/CRC32"), accessFlags := 18, slot := 4, constantValue := 0 }, { name := "memberOffset", type := .long, accessFlags := 2, slot := 5, constantValue := 0 }, { name := "inMember", type := .boolean, accessFlags := 2, slot := 6, constantValue := 0 }, { name := "cutShort", type := .boolean, accessFlags := 2, slot := 7, constantValue := 0 }]
  methods := #[k3m0]
  instanceTypes := #[(.object "java/nio/channels/ReadableByteChannel"), (.object "java/nio/ByteBuffer"), .long, (.object "java/util/zip/Inflater"), (.object "java/util/zip/CRC32"), .long, .boolean, .boolean]
  staticTypes := #[(.array .int), .int, .int, .int, .int, .int, .int, .int]
  resolved := Array.replicate 244 none
  statics := some 0 }

def pool4 : Array CpInfo := pool [(1, u "java/lang/Cloneable"), (0, .class_ 1), (0, u "java/lang/Object"), (0, .class_ 3)] 3

/-- java/lang/Cloneable -/
def k4 : Class := { plain "java/lang/Cloneable" (some 0) with
  accessFlags := 1537
  interfaces := #[]
  cf := some (fileOf pool4 2 #[] #[] 1537 4 #[] #[])
  fields := #[]
  methods := #[]
  instanceTypes := #[]
  staticTypes := #[]
  resolved := Array.replicate 8 none
  statics := none }

def pool5 : Array CpInfo := pool [(1, u "java/io/Serializable"), (0, .class_ 1), (0, u "java/lang/Object"), (0, .class_ 3)] 3

/-- java/io/Serializable -/
def k5 : Class := { plain "java/io/Serializable" (some 0) with
  accessFlags := 1537
  interfaces := #[]
  cf := some (fileOf pool5 2 #[] #[] 1537 4 #[] #[])
  fields := #[]
  methods := #[]
  instanceTypes := #[]
  staticTypes := #[]
  resolved := Array.replicate 8 none
  statics := none }

/-- the primitive byte -/
def k6 : Class := { plain "byte" none with kind := .primitive 'B', accessFlags := 0x411 }
/-- [B -/
def k7 : Class := { plain "[B" (some 0) with kind := .array 6 .byte, interfaces := #[4, 5], accessFlags := 1041 }

/-- the primitive int -/
def k8 : Class := { plain "int" none with kind := .primitive 'I', accessFlags := 0x411 }
/-- [I -/
def k9 : Class := { plain "[I" (some 0) with kind := .array 8 .int, interfaces := #[4, 5], accessFlags := 1041 }

def heap : Heap := #[{ cls := 3, slots := #[.ref 1, .int 0, .int 0, .int 0, .int 0, .int 0, .int 0, .int 0], vm := .statics 3 },
  { cls := 9, slots := #[.int 31, .int 139, .int 8], vm := .none }]
def classes : Array Class := #[k0, k1, k2, k3, k4, k5, k6, k7, k8, k9]
def interned : List (Array UInt16 × Addr) := []
def slotsUsed : Nat := 11
def theMethod : MethodId := ⟨1, 1⟩
def args0 : Array Value := #[.int 2, .int 5, .int 6, .int 7, .int 3]
def aboutOver (below : List Frame) : State where
  vm := { classes := classes, interned := interned.toArray }
  heap := heap
  slotsUsed := slotsUsed
  threads := #[{ frames := .invoking theMethod args0 :: below }]
def below0 : List Frame := [.native { method := ⟨0, 0⟩, args := #[] }]
def about1 : State := aboutOver below0
def p0 : Program := .bare "" "" ""
def e0 : Env := launch0.env 0 0 0
theorem w_frames : about1.frames = Frame.invoking theMethod args0 :: below0 := rfl
set_option maxRecDepth 65536 in
theorem w_args : argsFit about1.vm theMethod args0 = true := by decide +kernel
set_option maxRecDepth 65536 in
theorem w_heap : heapFits about1 = true := by decide +kernel
set_option maxRecDepth 65536 in
theorem w_runnable : about1.curStatus? = some .runnable := by decide +kernel
set_option maxRecDepth 65536 in
theorem w_alone : about1.alone = true := by decide +kernel
set_option maxRecDepth 65536 in
theorem w_named : about1.methodNamed? x = some theMethod := by decide +kernel
set_option maxRecDepth 65536 in
theorem w_hears : about1.hears theMethod below0 = true := by decide +kernel
set_option maxRecDepth 65536 in
theorem w_ripe : about1.ripe theMethod args0 below0 = true := by decide +kernel
theorem w_running : about1.status = .running := rfl
set_option maxRecDepth 65536 in
theorem w_room : about1.hasRoom e0.platform room_1 = true :=
  launch0.hasRoom_least _ room_1 (by decide +kernel) (by decide +kernel) (by decide +kernel) (by decide +kernel) (by decide +kernel) (by decide +kernel)
theorem allAtoms_all (ts : List Jvm.Cond) (a : Array Jvm.Value) (st : Jvm.State) : (allAtoms ts).before a st = ts.all (fun c => c.before a st) := by
  induction ts with
  | nil => rfl
  | cons c t ih =>
    show (Jvm.Cond.and c (allAtoms t)).before a st = _
    rw [Jvm.Cond.before_and, ih, List.all_cons]
def words1 : List Jvm.Cond := Jvm.Cond.code x code maxLocals ret :: tables_1
/-- a 'code' word, met by the world's own term for the bytes: nothing is compared byte by byte -/
theorem code_word {y : MethodName} {bytes : ByteArray} {mx : Nat} {rt : Option FieldType} {a : Array Value} {s : State} {m : MethodId} {meth : Method} {c : Code} (h1 : s.methodNamed? y = some m) (h2 : s.vm.method? m = some meth) (h3 : meth.code = some c) (h4 : c.code = bytes)
    (h5 : (c.maxLocals == mx && c.exceptionTable.isEmpty && decide (c.maxStack ≤ mostOperands) && decide (meth.sig.returnType = rt) && !meth.locks && decide (parseMethodDescriptor y.desc = some meth.sig)) = true) : (Jvm.Cond.code y bytes mx rt).before a s = true := by
  simp only [Bool.and_eq_true, beq_iff_eq, Bool.not_eq_true', decide_eq_true_eq] at h5
  obtain ⟨⟨⟨⟨⟨g1, g2⟩, g3⟩, g4⟩, g5⟩, g6⟩ := h5
  simp [Cond.before, Cond.holds, Cond.value, h1, h2, h3, h4, g1, g2, g3, g4, g5, g6]
def isCode : Jvm.Cond → Bool
  | .code _ _ _ _ => true
  | _ => false
theorem all_split {L : List Jvm.Cond} {P : Jvm.Cond → Bool} (h1 : L.all (fun c => isCode c || P c) = true) (h2 : ∀ c ∈ L.filter isCode, P c = true) : L.all P = true := by
  refine List.all_eq_true.mpr fun c hc => ?_
  have h := List.all_eq_true.mp h1 c hc
  rcases Bool.eq_false_or_eq_true (isCode c) with hi | hi
  · exact h2 c (List.mem_filter.mpr ⟨hc, hi⟩)
  · simpa [hi] using h
set_option maxRecDepth 65536 in
theorem w_c0 : (Jvm.Cond.code x code maxLocals ret).before args0 about1 = true := code_word (m := ⟨1, 1⟩) (meth := k1m1) (c := k1c1) (by decide +kernel) rfl rfl rfl (by decide +kernel)
set_option maxRecDepth 65536 in
theorem w_c1 : (Jvm.Cond.code ({ cls := "com/example/rootline/rootline/reader/GzipChannel", name := "starts", desc := "([B)Z" } : Jvm.MethodName) prog_218_method_2_code (1 : Nat) (Option.some Jvm.ClassFile.FieldType.boolean)).before args0 about1 = true := code_word (m := ⟨3, 0⟩) (meth := k3m0) (c := k3c0) (by decide +kernel) rfl rfl rfl (by decide +kernel)
def codes1 : List Jvm.Cond := [Jvm.Cond.code x code maxLocals ret, Jvm.Cond.code ({ cls := "com/example/rootline/rootline/reader/GzipChannel", name := "starts", desc := "([B)Z" } : Jvm.MethodName) prog_218_method_2_code (1 : Nat) (Option.some Jvm.ClassFile.FieldType.boolean)]
set_option maxRecDepth 65536 in
theorem codes_eq : words1.filter isCode = codes1 := rfl
theorem w_codes : ∀ c ∈ words1.filter isCode, c.before args0 about1 = true := by
  rw [codes_eq]
  intro c hc
  simp only [codes1, List.mem_cons, List.not_mem_nil, or_false] at hc
  rcases hc with rfl | rfl
  · exact w_c0
  · exact w_c1
set_option maxRecDepth 65536 in
theorem w_t1 : words1.all (fun c => isCode c || c.before args0 about1) = true := by decide +kernel
theorem w_tables : (allAtoms (Jvm.Cond.code x code maxLocals ret :: tables_1)).before args0 about1 = true := by
  rw [allAtoms_all]
  show words1.all (fun c => c.before args0 about1) = true
  refine all_split ?_ w_codes
  rw [w_t1]
set_option maxRecDepth 65536 in
theorem w_case : (Jvm.Cond.and given_1 narrow_1).before args0 about1 = true := by decide +kernel
theorem w_applies : (headSpec (Jvm.Cond.code x code maxLocals ret :: tables_1) room_1).applies x e0.platform about1 = true :=
  (Spec.applies_iff w_frames).mpr ⟨w_running, w_runnable, w_alone, w_named, w_hears, w_ripe, w_room, w_tables⟩
theorem atStart : AtStart classFile x code maxLocals ret World_1 tables_1 room_1 Calls_1 rest_1 Pre_1 launch0 p0 e0 about1 theMethod args0 below0 :=
  ⟨lists_1, trivial, launch0.admits_env _ _ _, launch0.least_env, fairChoices_fair.cas, fairChoices_fair.clock, w_frames, w_args, w_heap, w_applies, trivial, trivial, w_case⟩
end start1
theorem witness_1 : WitnessClaimed_1 := ⟨start1.p0, start1.e0, start1.about1, start1.theMethod, start1.args0, start1.below0, start1.atStart⟩
end Jvm.Pilot.@@N@@
