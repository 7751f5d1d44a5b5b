import JvmDerived
import JvmDerived.Pilot.@@N@@Statement
import JvmDerived.Pilot.@@N@@Code
set_option linter.unusedVariables false
set_option linter.unusedSimpArgs false
namespace Jvm.RoadKit
open Sem ClassFile Op Lib Jvm.Stand Jvm.Free Jvm.LawKit
section New
variable {p : Program} {l : Launch} {e : Env} {R : Room} {s : State} {m : MethodId} {args : Array Value} {below : List Frame} {meth : Method} {c : Code} {T : State} {locs : List Loc} {cells slots : Nat}
theorem retI (X : Stand p l e R s m args below meth c T locs cells slots) (hx : p.tables.exec = Jvm.exec) {pc : Nat} {Ls : Array Slot} {z : Int32} {rest : List Value} (hret : meth.sig.returnType = some .int) (hd : decode c.code pc = .ok (.ireturn, 1)) {fs : List Frame}
    (hl : ∀ (f : JFrame) (acts : List Action), f.method = m → f.locked = none → f.entered = [] → (doReturn e (T.setTop f) acts (some (.int z))).1 = T.setFrames fs) : Steps p.tables e below (T.setTop (mkF m pc Ls (.int z :: rest))) (T.setFrames fs) := by
  have hm' : T.vm.method? m = some meth := X.method'
  have hn : narrow .int (.int z) = .int z := rfl
  show Steps p.tables e below (T.setTop { method := m, pc := pc, locals := Ls, stack := _ :: rest, locked := none }) _
  jvm_step X.here [X.here.top, hx, hd, hm', hret, hn]
  first | (intro acts; rw [hl _ acts rfl rfl rfl]) | rw [hl _ _ rfl rfl rfl]
  exact Steps.refl _
end New
end Jvm.RoadKit
namespace Jvm.Pilot.@@N@@
open Jvm Jvm.ClassFile Sem Op Lib Jvm.Free Jvm.Stand Jvm.LawKit Jvm.RoadKit Bundle Jvm.Pilot.@@N@@.Jvm.D
def QP (w : Option Value) (h0 : Heap) (n0 : Nat) (v : Option Value) (h : Heap) (L : List Loc) : Prop := v = w ∧ Fr n0 L ∧ h = h0
def QL (n0 : Nat) (v : Option Value) (h : Heap) (L : List Loc) : Prop := v = some (.int (1 : Int32)) ∧ Fr n0 L
theorem own_stJ {p : Program} {l : Launch} {e : Env} {R : Room} {s : State} {m : MethodId} {args : Array Value} {below : List Frame} {meth : Method} {c : Code} {T : State} {locs : List Loc} {cells slots : Nat} {Z : State} {h : Heap} {a : Addr} {k : ClassId} {z : Int32} {vs : List Value} {dv : Value} {n0 : Nat}
    (X : Stand p l e R s m args below meth c T locs cells slots) (hx : p.tables.exec = Jvm.exec) (hZ : Z.Warmed39 s.vm) (eT : T.heap = h) (V : Arv Z h a k .long z vs dv) {j : Int32} {x : Int64} (hj : ¬ j < 0 ∧ j < z) {i : Nat} (hi : j.toNatClampNeg = i) (hl : i < vs.length) (N : Fr n0 locs) (ga : n0 ≤ a) {g : JFrame} (hg : g.method = m) {rest : List Value} (hs : g.stack = .long x :: .int j :: .ref a :: rest) (hd : decode c.code g.pc = .ok (.lastore, 1)) :
    ∃ T' h' L', Stand p l e R s m args below meth c T' L' cells slots ∧ T'.heap = h' ∧ Fr n0 L' ∧ Wr h h' a j.toNatClampNeg (.long x) ∧ Arv Z h' a k .long z (vs.set i (.long x)) dv ∧ ∀ target, Steps p.tables e below (T'.setTop { g with pc := g.pc + 1, stack := rest }) target → Steps p.tables e below (T.setTop g) target := by
  obtain ⟨cl, A, q1, S, q3, H, G⟩ := V
  obtain ⟨T', h', X', e', W, st⟩ := stJ X hx hZ eT A (inb_of S hj) hg hs hd
  exact ⟨T', h', _, X', e', Fr.snoc X' N ga, W, Arv.set A q1 S q3 H G rfl W i hi hl, st⟩
theorem own_stI {p : Program} {l : Launch} {e : Env} {R : Room} {s : State} {m : MethodId} {args : Array Value} {below : List Frame} {meth : Method} {c : Code} {T : State} {locs : List Loc} {cells slots : Nat} {Z : State} {h : Heap} {a : Addr} {k : ClassId} {z : Int32} {vs : List Value} {dv : Value} {n0 : Nat}
    (X : Stand p l e R s m args below meth c T locs cells slots) (hx : p.tables.exec = Jvm.exec) (hZ : Z.Warmed39 s.vm) (eT : T.heap = h) (V : Arv Z h a k .int z vs dv) {j : Int32} {x : Int32} (hj : ¬ j < 0 ∧ j < z) {i : Nat} (hi : j.toNatClampNeg = i) (hl : i < vs.length) (N : Fr n0 locs) (ga : n0 ≤ a) {g : JFrame} (hg : g.method = m) {rest : List Value} (hs : g.stack = .int x :: .int j :: .ref a :: rest) (hd : decode c.code g.pc = .ok (.iastore, 1)) :
    ∃ T' h' L', Stand p l e R s m args below meth c T' L' cells slots ∧ T'.heap = h' ∧ Fr n0 L' ∧ Wr h h' a j.toNatClampNeg (.int x) ∧ Arv Z h' a k .int z (vs.set i (.int x)) dv ∧ ∀ target, Steps p.tables e below (T'.setTop { g with pc := g.pc + 1, stack := rest }) target → Steps p.tables e below (T.setTop g) target := by
  obtain ⟨cl, A, q1, S, q3, H, G⟩ := V
  obtain ⟨T', h', X', e', W, st⟩ := stI X hx hZ eT A (inb_of S hj) hg hs hd
  exact ⟨T', h', _, X', e', Fr.snoc X' N ga, W, Arv.set A q1 S q3 H G rfl W i hi hl, st⟩
theorem own_stB {p : Program} {l : Launch} {e : Env} {R : Room} {s : State} {m : MethodId} {args : Array Value} {below : List Frame} {meth : Method} {c : Code} {T : State} {locs : List Loc} {cells slots : Nat} {Z : State} {h : Heap} {a : Addr} {k : ClassId} {z : Int32} {vs : List Value} {dv : Value} {n0 : Nat}
    (X : Stand p l e R s m args below meth c T locs cells slots) (hx : p.tables.exec = Jvm.exec) (hZ : Z.Warmed39 s.vm) (eT : T.heap = h) (V : Arv Z h a k .byte z vs dv) {j : Int32} {x : Int32} (hj : ¬ j < 0 ∧ j < z) {i : Nat} (hi : j.toNatClampNeg = i) (hl : i < vs.length) (N : Fr n0 locs) (ga : n0 ≤ a) {g : JFrame} (hg : g.method = m) {rest : List Value} (hs : g.stack = .int x :: .int j :: .ref a :: rest) (hd : decode c.code g.pc = .ok (.bastore, 1)) :
    ∃ T' h' L', Stand p l e R s m args below meth c T' L' cells slots ∧ T'.heap = h' ∧ Fr n0 L' ∧ Wr h h' a j.toNatClampNeg (.int (nar .byte x)) ∧ Arv Z h' a k .byte z (vs.set i (.int (nar .byte x))) dv ∧ ∀ target, Steps p.tables e below (T'.setTop { g with pc := g.pc + 1, stack := rest }) target → Steps p.tables e below (T.setTop g) target := by
  obtain ⟨cl, A, q1, S, q3, H, G⟩ := V
  obtain ⟨T', h', X', e', W, st⟩ := stB X hx hZ eT A (inb_of S hj) hg hs hd
  exact ⟨T', h', _, X', e', Fr.snoc X' N ga, W, Arv.set A q1 S q3 H G (fits_nar_byte _) W i hi hl, st⟩
theorem own_stC {p : Program} {l : Launch} {e : Env} {R : Room} {s : State} {m : MethodId} {args : Array Value} {below : List Frame} {meth : Method} {c : Code} {T : State} {locs : List Loc} {cells slots : Nat} {Z : State} {h : Heap} {a : Addr} {k : ClassId} {z : Int32} {vs : List Value} {dv : Value} {n0 : Nat}
    (X : Stand p l e R s m args below meth c T locs cells slots) (hx : p.tables.exec = Jvm.exec) (hZ : Z.Warmed39 s.vm) (eT : T.heap = h) (V : Arv Z h a k .char z vs dv) {j : Int32} {x : Int32} (hj : ¬ j < 0 ∧ j < z) {i : Nat} (hi : j.toNatClampNeg = i) (hl : i < vs.length) (N : Fr n0 locs) (ga : n0 ≤ a) {g : JFrame} (hg : g.method = m) {rest : List Value} (hs : g.stack = .int x :: .int j :: .ref a :: rest) (hd : decode c.code g.pc = .ok (.castore, 1)) :
    ∃ T' h' L', Stand p l e R s m args below meth c T' L' cells slots ∧ T'.heap = h' ∧ Fr n0 L' ∧ Wr h h' a j.toNatClampNeg (.int (nar .char x)) ∧ Arv Z h' a k .char z (vs.set i (.int (nar .char x))) dv ∧ ∀ target, Steps p.tables e below (T'.setTop { g with pc := g.pc + 1, stack := rest }) target → Steps p.tables e below (T.setTop g) target := by
  obtain ⟨cl, A, q1, S, q3, H, G⟩ := V
  obtain ⟨T', h', X', e', W, st⟩ := stC X hx hZ eT A (inb_of S hj) hg hs hd
  exact ⟨T', h', _, X', e', Fr.snoc X' N ga, W, Arv.set A q1 S q3 H G (fits_nar_char _) W i hi hl, st⟩
theorem own_ldJ {p : Program} {l : Launch} {e : Env} {R : Room} {s : State} {m : MethodId} {args : Array Value} {below : List Frame} {meth : Method} {c : Code} {T : State} {locs : List Loc} {cells slots : Nat} {Z : State} {h : Heap} {a : Addr} {k : ClassId} {z : Int32} {vs : List Value} {dv : Value} {w : Int64}
    (X : Stand p l e R s m args below meth c T locs cells slots) (hx : p.tables.exec = Jvm.exec) (hZ : Z.Warmed39 s.vm) (eT : T.heap = h) (V : Arv Z h a k .long z vs dv) {j : Int32} (hj : ¬ j < 0 ∧ j < z) (hv : vs.getD j.toNatClampNeg dv = .long w) {g : JFrame} (hg : g.method = m) {rest : List Value} (hs : g.stack = .int j :: .ref a :: rest) (hd : decode c.code g.pc = .ok (.laload, 1)) {target : State} (hr : Steps p.tables e below (T.setTop { g with pc := g.pc + 1, stack := .long w :: rest }) target) : Steps p.tables e below (T.setTop g) target := by
  obtain ⟨cl, A, q1, S, q3, H, G⟩ := V
  have hin := inb_of S hj
  exact X.laload hx (j := j) (v := .long w) (by rw [eT]; exact A.1) (State.isArrayOf_alike hZ.alike A.2.1) A.2.2 hin (H.at hin hv) (g := g) hg hs hd _ hr
theorem own_ldI {p : Program} {l : Launch} {e : Env} {R : Room} {s : State} {m : MethodId} {args : Array Value} {below : List Frame} {meth : Method} {c : Code} {T : State} {locs : List Loc} {cells slots : Nat} {Z : State} {h : Heap} {a : Addr} {k : ClassId} {z : Int32} {vs : List Value} {dv : Value} {w : Int32}
    (X : Stand p l e R s m args below meth c T locs cells slots) (hx : p.tables.exec = Jvm.exec) (hZ : Z.Warmed39 s.vm) (eT : T.heap = h) (V : Arv Z h a k .int z vs dv) {j : Int32} (hj : ¬ j < 0 ∧ j < z) (hv : vs.getD j.toNatClampNeg dv = .int w) {g : JFrame} (hg : g.method = m) {rest : List Value} (hs : g.stack = .int j :: .ref a :: rest) (hd : decode c.code g.pc = .ok (.iaload, 1)) {target : State} (hr : Steps p.tables e below (T.setTop { g with pc := g.pc + 1, stack := .int w :: rest }) target) : Steps p.tables e below (T.setTop g) target := by
  obtain ⟨cl, A, q1, S, q3, H, G⟩ := V
  have hin := inb_of S hj
  exact X.iaload hx (j := j) (v := .int w) (by rw [eT]; exact A.1) (State.isArrayOf_alike hZ.alike A.2.1) A.2.2 hin (H.at hin hv) (g := g) hg hs hd _ hr
theorem own_ldB {p : Program} {l : Launch} {e : Env} {R : Room} {s : State} {m : MethodId} {args : Array Value} {below : List Frame} {meth : Method} {c : Code} {T : State} {locs : List Loc} {cells slots : Nat} {Z : State} {h : Heap} {a : Addr} {k : ClassId} {z : Int32} {vs : List Value} {dv : Value} {w : Int32}
    (X : Stand p l e R s m args below meth c T locs cells slots) (hx : p.tables.exec = Jvm.exec) (hZ : Z.Warmed39 s.vm) (eT : T.heap = h) (V : Arv Z h a k .byte z vs dv) {j : Int32} (hj : ¬ j < 0 ∧ j < z) (hv : vs.getD j.toNatClampNeg dv = .int w) {g : JFrame} (hg : g.method = m) {rest : List Value} (hs : g.stack = .int j :: .ref a :: rest) (hd : decode c.code g.pc = .ok (.baload, 1)) {target : State} (hr : Steps p.tables e below (T.setTop { g with pc := g.pc + 1, stack := .int w :: rest }) target) : Steps p.tables e below (T.setTop g) target := by
  obtain ⟨cl, A, q1, S, q3, H, G⟩ := V
  have hin := inb_of S hj
  exact X.baloadBytes hx (j := j) (v := .int w) (by rw [eT]; exact A.1) (State.isArrayOf_alike hZ.alike A.2.1) A.2.2 hin (H.at hin hv) (g := g) hg hs hd _ hr
theorem own_ldC {p : Program} {l : Launch} {e : Env} {R : Room} {s : State} {m : MethodId} {args : Array Value} {below : List Frame} {meth : Method} {c : Code} {T : State} {locs : List Loc} {cells slots : Nat} {Z : State} {h : Heap} {a : Addr} {k : ClassId} {z : Int32} {vs : List Value} {dv : Value} {w : Int32}
    (X : Stand p l e R s m args below meth c T locs cells slots) (hx : p.tables.exec = Jvm.exec) (hZ : Z.Warmed39 s.vm) (eT : T.heap = h) (V : Arv Z h a k .char z vs dv) {j : Int32} (hj : ¬ j < 0 ∧ j < z) (hv : vs.getD j.toNatClampNeg dv = .int w) {g : JFrame} (hg : g.method = m) {rest : List Value} (hs : g.stack = .int j :: .ref a :: rest) (hd : decode c.code g.pc = .ok (.caload, 1)) {target : State} (hr : Steps p.tables e below (T.setTop { g with pc := g.pc + 1, stack := .int w :: rest }) target) : Steps p.tables e below (T.setTop g) target := by
  obtain ⟨cl, A, q1, S, q3, H, G⟩ := V
  have hin := inb_of S hj
  exact X.caload hx (j := j) (v := .int w) (by rw [eT]; exact A.1) (State.isArrayOf_alike hZ.alike A.2.1) A.2.2 hin (H.at hin hv) (g := g) hg hs hd _ hr
theorem own_len {p : Program} {l : Launch} {e : Env} {R : Room} {s : State} {m : MethodId} {args : Array Value} {below : List Frame} {meth : Method} {c : Code} {T : State} {locs : List Loc} {cells slots : Nat} {Z : State} {h : Heap} {a : Addr} {k : ClassId} {ty : FieldType} {z : Int32} {vs : List Value} {dv : Value}
    (X : Stand p l e R s m args below meth c T locs cells slots) (hx : p.tables.exec = Jvm.exec) (hZ : Z.Warmed39 s.vm) (eT : T.heap = h) (V : Arv Z h a k ty z vs dv) {g : JFrame} (hg : g.method = m) {rest : List Value} (hs : g.stack = .ref a :: rest) (hd : decode c.code g.pc = .ok (.arraylength, 1)) {target : State} (hr : Steps p.tables e below (T.setTop { g with pc := g.pc + 1, stack := .int z :: rest }) target) : Steps p.tables e below (T.setTop g) target := by
  obtain ⟨cl, A, q1, S, q3, H, G⟩ := V
  refine X.arraylength hx (by rw [eT]; exact A.1) (State.isArrayOf_alike hZ.alike A.2.1) (g := g) hg hs hd _ ?_
  rw [len_of S q3]; exact hr
theorem own_Sta_old {Z : State} {h : Heap} {n0 : Nat} {C f d : String} {v : Value} (S : Sta Z Z.heap C f d v) (O : Old Z n0 h) : Sta Z h C f d v := by
  obtain ⟨cf, i, k, fl, st, cell, h1, h2, h3, h4, h5, h6, h7⟩ := S
  exact ⟨cf, i, k, fl, st, cell, h1, h2, h3, h4, O.2.2 st cell h5, h6, h7⟩
def own_b (c : Int32) : Int32 := nar .byte (c.toInt8.toInt32)
def QC5 (Z : State) (a : Addr) (k : ClassId) (b0 b1 : Int32) (h0 : Heap) (n0 : Nat) (v : Option Value) (h : Heap) (L : List Loc) : Prop := v = some (.int (2 : Int32)) ∧ Fr n0 L ∧ Keep h0 h [a] ∧ Arv Z h a k .byte (2 : Int32) [(.int b0), (.int b1)] (.int (0 : Int32))
def QC3 (Z : State) (b0 b1 : Int32) (h0 : Heap) (n0 : Nat) (v : Option Value) (h : Heap) (L : List Loc) : Prop := ∃ (r : Addr) (k : ClassId), v = some (.ref r) ∧ Fr n0 L ∧ Keep h0 h [] ∧ h0.size ≤ r ∧ Arv Z h r k .byte (2 : Int32) [(.int b0), (.int b1)] (.int (0 : Int32)) ∧ Exa Z h r "[B"
def QSI (Z : State) (a : Addr) (b0 b1 : Int32) (h0 : Heap) (n0 : Nat) (v : Option Value) (h : Heap) (L : List Loc) : Prop := v = none ∧ Fr n0 L ∧ Keep h0 h [a] ∧ Exa Z h a "java/lang/String" ∧ ∃ (va : Addr) (k : ClassId), h0.size ≤ va ∧ Fld Z h a "java/lang/String" "value" "[B" (.ref va) ∧ Fld Z h a "java/lang/String" "coder" "B" (.int (0 : Int32)) ∧ Arv Z h va k .byte (2 : Int32) [(.int b0), (.int b1)] (.int (0 : Int32)) ∧ Exa Z h va "[B"
def QK (Z : State) (a : Addr) (h0 : Heap) (n0 : Nat) (v : Option Value) (h : Heap) (L : List Loc) : Prop := v = none ∧ Fr n0 L ∧ Keep h0 h [a]
def QR (Z : State) (h0 : Heap) (n0 : Nat) (v : Option Value) (h : Heap) (L : List Loc) : Prop := ∃ r : Addr, v = some (.ref r) ∧ Fr n0 L ∧ Keep h0 h []
def QN (Z : State) (k : Nat) (h0 : Heap) (n0 : Nat) (v : Option Value) (h : Heap) (L : List Loc) : Prop := ∃ (r : Addr) (c : ClassId), v = some (.ref r) ∧ Fr n0 L ∧ Keep h0 h [] ∧ h0.size ≤ r ∧ Arv Z h r c .byte (4 : Int32) [(.int (0 : Int32)), (.int (0 : Int32)), (.int (0 : Int32)), (.int (0 : Int32))] (.int (0 : Int32))
def QJ (Z : State) (a : Addr) (ci ke : Value) (h0 : Heap) (n0 : Nat) (v : Option Value) (h : Heap) (L : List Loc) : Prop := v = none ∧ Fr n0 L ∧ Keep h0 h [a] ∧ Exa Z h a "com/example/wardgate/wardgate/model/JwtSettings" ∧ Fld Z h a "com/example/wardgate/wardgate/model/JwtSettings" "cipher" "Lcom/example/wardgate/wardgate/model/JwtSettings$Cipher;" ci ∧ Fld Z h a "com/example/wardgate/wardgate/model/JwtSettings" "cryptoKey" "Ljava/lang/String;" ke
def own_cp (a b : Int32) : Int32 := if a < (0 : Int32) then (0 : Int32) else if b < (0 : Int32) then (1 : Int32) else (2 : Int32)
def own_hn (a b : Int32) : Int32 := if own_cp a b = (2 : Int32) then (0 : Int32) else (1 : Int32)
theorem own_hnb (a b : Int32) : nar .boolean (own_hn a b) = own_hn a b := by
  unfold own_hn
  split <;> rfl
theorem d5_0 : decode jdk_52_method_21_code 0 = .ok (.iconst 0, 1) := by decide +kernel
theorem d5_1 : decode jdk_52_method_21_code 1 = .ok (.istore 5, 2) := by decide +kernel
theorem d5_3 : decode jdk_52_method_21_code 3 = .ok (.iload 5, 2) := by decide +kernel
theorem d5_5 : decode jdk_52_method_21_code 5 = .ok (.iload 4, 2) := by decide +kernel
theorem d5_7 : decode jdk_52_method_21_code 7 = .ok (.if_icmp .ge 37, 3) := by decide +kernel
theorem d5_10 : decode jdk_52_method_21_code 10 = .ok (.aload_n 0, 1) := by decide +kernel
theorem d5_11 : decode jdk_52_method_21_code 11 = .ok (.iload_n 1, 1) := by decide +kernel
theorem d5_12 : decode jdk_52_method_21_code 12 = .ok (.caload, 1) := by decide +kernel
theorem d5_13 : decode jdk_52_method_21_code 13 = .ok (.istore 6, 2) := by decide +kernel
theorem d5_15 : decode jdk_52_method_21_code 15 = .ok (.iload 6, 2) := by decide +kernel
theorem d5_17 : decode jdk_52_method_21_code 17 = .ok (.sipush 255, 3) := by decide +kernel
theorem d5_20 : decode jdk_52_method_21_code 20 = .ok (.if_icmp .le 6, 3) := by decide +kernel
theorem d5_23 : decode jdk_52_method_21_code 23 = .ok (.iload 5, 2) := by decide +kernel
theorem d5_25 : decode jdk_52_method_21_code 25 = .ok (.ireturn, 1) := by decide +kernel
theorem d5_26 : decode jdk_52_method_21_code 26 = .ok (.aload_n 2, 1) := by decide +kernel
theorem d5_27 : decode jdk_52_method_21_code 27 = .ok (.iload_n 3, 1) := by decide +kernel
theorem d5_28 : decode jdk_52_method_21_code 28 = .ok (.iload 6, 2) := by decide +kernel
theorem d5_30 : decode jdk_52_method_21_code 30 = .ok (.i2b, 1) := by decide +kernel
theorem d5_31 : decode jdk_52_method_21_code 31 = .ok (.bastore, 1) := by decide +kernel
theorem d5_32 : decode jdk_52_method_21_code 32 = .ok (.iinc 1 1, 3) := by decide +kernel
theorem d5_35 : decode jdk_52_method_21_code 35 = .ok (.iinc 3 1, 3) := by decide +kernel
theorem d5_38 : decode jdk_52_method_21_code 38 = .ok (.iinc 5 1, 3) := by decide +kernel
theorem d5_41 : decode jdk_52_method_21_code 41 = .ok (.goto (-38), 3) := by decide +kernel
theorem d5_44 : decode jdk_52_method_21_code 44 = .ok (.iload 4, 2) := by decide +kernel
theorem d5_46 : decode jdk_52_method_21_code 46 = .ok (.ireturn, 1) := by decide +kernel
theorem pn_5 : plainName "java/lang/StringUTF16" = true := by first | (simp [plainName, overriddenIn]; done) | decide +kernel
theorem ef_5 (m : MethodId) (x0 : Addr) (x1 : Int32) (x2 : Addr) (x3 : Int32) (x4 : Int32) : entryFrame m #[(.ref x0), (.int x1), (.ref x2), (.int x3), (.int x4)] 7 = mkF m 0 #[.val (.ref x0), .val (.int x1), .val (.ref x2), .val (.int x3), .val (.int x4), .unset, .unset] [] := by first | (simp [entryFrame, mkF, argsToLocals, Value.category]; done) | rfl
theorem d4_0 : decode jdk_52_method_16_code 0 = .ok (.iload_n 2, 1) := by decide +kernel
theorem d4_1 : decode jdk_52_method_16_code 1 = .ok (.newarray .byte, 2) := by decide +kernel
theorem d4_3 : decode jdk_52_method_16_code 3 = .ok (.astore_n 3, 1) := by decide +kernel
theorem d4_4 : decode jdk_52_method_16_code 4 = .ok (.aload_n 0, 1) := by decide +kernel
theorem d4_5 : decode jdk_52_method_16_code 5 = .ok (.iload_n 1, 1) := by decide +kernel
theorem d4_6 : decode jdk_52_method_16_code 6 = .ok (.aload_n 3, 1) := by decide +kernel
theorem d4_7 : decode jdk_52_method_16_code 7 = .ok (.iconst 0, 1) := by decide +kernel
theorem d4_8 : decode jdk_52_method_16_code 8 = .ok (.iload_n 2, 1) := by decide +kernel
theorem d4_9 : decode jdk_52_method_16_code 9 = .ok (.invokestatic 115, 3) := by decide +kernel
theorem d4_12 : decode jdk_52_method_16_code 12 = .ok (.istore 4, 2) := by decide +kernel
theorem d4_14 : decode jdk_52_method_16_code 14 = .ok (.iload 4, 2) := by decide +kernel
theorem d4_16 : decode jdk_52_method_16_code 16 = .ok (.iload_n 2, 1) := by decide +kernel
theorem d4_17 : decode jdk_52_method_16_code 17 = .ok (.if_icmp .eq 40, 3) := by decide +kernel
theorem d4_20 : decode jdk_52_method_16_code 20 = .ok (.aload_n 0, 1) := by decide +kernel
theorem d4_21 : decode jdk_52_method_16_code 21 = .ok (.iload_n 1, 1) := by decide +kernel
theorem d4_22 : decode jdk_52_method_16_code 22 = .ok (.iload_n 2, 1) := by decide +kernel
theorem d4_23 : decode jdk_52_method_16_code 23 = .ok (.invokestatic 119, 3) := by decide +kernel
theorem d4_26 : decode jdk_52_method_16_code 26 = .ok (.astore 5, 2) := by decide +kernel
theorem d4_28 : decode jdk_52_method_16_code 28 = .ok (.aload 5, 2) := by decide +kernel
theorem d4_30 : decode jdk_52_method_16_code 30 = .ok (.iload 4, 2) := by decide +kernel
theorem d4_32 : decode jdk_52_method_16_code 32 = .ok (.invokestatic 71, 3) := by decide +kernel
theorem d4_35 : decode jdk_52_method_16_code 35 = .ok (.sipush 255, 3) := by decide +kernel
theorem d4_38 : decode jdk_52_method_16_code 38 = .ok (.if_icmp .gt 16, 3) := by decide +kernel
theorem d4_41 : decode jdk_52_method_16_code 41 = .ok (.aload 5, 2) := by decide +kernel
theorem d4_43 : decode jdk_52_method_16_code 43 = .ok (.iconst 0, 1) := by decide +kernel
theorem d4_44 : decode jdk_52_method_16_code 44 = .ok (.aload_n 3, 1) := by decide +kernel
theorem d4_45 : decode jdk_52_method_16_code 45 = .ok (.iconst 0, 1) := by decide +kernel
theorem d4_46 : decode jdk_52_method_16_code 46 = .ok (.iload_n 2, 1) := by decide +kernel
theorem d4_47 : decode jdk_52_method_16_code 47 = .ok (.invokestatic 123, 3) := by decide +kernel
theorem d4_50 : decode jdk_52_method_16_code 50 = .ok (.iload_n 2, 1) := by decide +kernel
theorem d4_51 : decode jdk_52_method_16_code 51 = .ok (.if_icmp .eq 6, 3) := by decide +kernel
theorem d4_54 : decode jdk_52_method_16_code 54 = .ok (.aload 5, 2) := by decide +kernel
theorem d4_56 : decode jdk_52_method_16_code 56 = .ok (.areturn, 1) := by decide +kernel
theorem d4_57 : decode jdk_52_method_16_code 57 = .ok (.aload_n 3, 1) := by decide +kernel
theorem d4_58 : decode jdk_52_method_16_code 58 = .ok (.areturn, 1) := by decide +kernel
theorem pn_4 : plainName "java/lang/StringUTF16" = true := by first | (simp [plainName, overriddenIn]; done) | decide +kernel
theorem ef_4 (m : MethodId) (x0 : Addr) (x1 : Int32) (x2 : Int32) : entryFrame m #[(.ref x0), (.int x1), (.int x2)] 6 = mkF m 0 #[.val (.ref x0), .val (.int x1), .val (.int x2), .unset, .unset, .unset] [] := by first | (simp [entryFrame, mkF, argsToLocals, Value.category]; done) | rfl
theorem d6_0 : decode jdk_52_method_15_code 0 = .ok (.iload_n 1, 1) := by decide +kernel
theorem d6_1 : decode jdk_52_method_15_code 1 = .ok (.aload_n 0, 1) := by decide +kernel
theorem d6_2 : decode jdk_52_method_15_code 2 = .ok (.arraylength, 1) := by decide +kernel
theorem d6_3 : decode jdk_52_method_15_code 3 = .ok (.isub, 1) := by decide +kernel
theorem d6_4 : decode jdk_52_method_15_code 4 = .ok (.bipush 31, 2) := by decide +kernel
theorem d6_6 : decode jdk_52_method_15_code 6 = .ok (.iushr, 1) := by decide +kernel
theorem d6_7 : decode jdk_52_method_15_code 7 = .ok (.i2b, 1) := by decide +kernel
theorem d6_8 : decode jdk_52_method_15_code 8 = .ok (.ireturn, 1) := by decide +kernel
theorem pn_6 : plainName "java/lang/StringUTF16" = true := by first | (simp [plainName, overriddenIn]; done) | decide +kernel
theorem ef_6 (m : MethodId) (x0 : Addr) (x1 : Int32) : entryFrame m #[(.ref x0), (.int x1)] 2 = mkF m 0 #[.val (.ref x0), .val (.int x1)] [] := by first | (simp [entryFrame, mkF, argsToLocals, Value.category]; done) | rfl
theorem d2_0 : decode jdk_42_method_149_code 0 = .ok (.aload_n 0, 1) := by decide +kernel
theorem d2_1 : decode jdk_42_method_149_code 1 = .ok (.invokespecial 1, 3) := by decide +kernel
theorem d2_4 : decode jdk_42_method_149_code 4 = .ok (.iload_n 3, 1) := by decide +kernel
theorem d2_5 : decode jdk_42_method_149_code 5 = .ok (.ifCond .ne 22, 3) := by decide +kernel
theorem d2_8 : decode jdk_42_method_149_code 8 = .ok (.aload_n 0, 1) := by decide +kernel
theorem d2_9 : decode jdk_42_method_149_code 9 = .ok (.ldc 7, 2) := by decide +kernel
theorem d2_11 : decode jdk_42_method_149_code 11 = .ok (.getfield 9, 3) := by decide +kernel
theorem d2_14 : decode jdk_42_method_149_code 14 = .ok (.putfield 9, 3) := by decide +kernel
theorem d2_17 : decode jdk_42_method_149_code 17 = .ok (.aload_n 0, 1) := by decide +kernel
theorem d2_18 : decode jdk_42_method_149_code 18 = .ok (.ldc 7, 2) := by decide +kernel
theorem d2_20 : decode jdk_42_method_149_code 20 = .ok (.getfield 15, 3) := by decide +kernel
theorem d2_23 : decode jdk_42_method_149_code 23 = .ok (.putfield 15, 3) := by decide +kernel
theorem d2_26 : decode jdk_42_method_149_code 26 = .ok (.return_, 1) := by decide +kernel
theorem d2_27 : decode jdk_42_method_149_code 27 = .ok (.getstatic 38, 3) := by decide +kernel
theorem d2_30 : decode jdk_42_method_149_code 30 = .ok (.ifCond .eq 28, 3) := by decide +kernel
theorem d2_33 : decode jdk_42_method_149_code 33 = .ok (.aload_n 1, 1) := by decide +kernel
theorem d2_34 : decode jdk_42_method_149_code 34 = .ok (.iload_n 2, 1) := by decide +kernel
theorem d2_35 : decode jdk_42_method_149_code 35 = .ok (.iload_n 3, 1) := by decide +kernel
theorem d2_36 : decode jdk_42_method_149_code 36 = .ok (.invokestatic 177, 3) := by decide +kernel
theorem d2_39 : decode jdk_42_method_149_code 39 = .ok (.astore 5, 2) := by decide +kernel
theorem d2_41 : decode jdk_42_method_149_code 41 = .ok (.aload_n 0, 1) := by decide +kernel
theorem d2_42 : decode jdk_42_method_149_code 42 = .ok (.aload 5, 2) := by decide +kernel
theorem d2_44 : decode jdk_42_method_149_code 44 = .ok (.iload_n 3, 1) := by decide +kernel
theorem d2_45 : decode jdk_42_method_149_code 45 = .ok (.invokestatic 47, 3) := by decide +kernel
theorem d2_48 : decode jdk_42_method_149_code 48 = .ok (.putfield 15, 3) := by decide +kernel
theorem d2_51 : decode jdk_42_method_149_code 51 = .ok (.aload_n 0, 1) := by decide +kernel
theorem d2_52 : decode jdk_42_method_149_code 52 = .ok (.aload 5, 2) := by decide +kernel
theorem d2_54 : decode jdk_42_method_149_code 54 = .ok (.putfield 9, 3) := by decide +kernel
theorem d2_57 : decode jdk_42_method_149_code 57 = .ok (.return_, 1) := by decide +kernel
theorem d2_58 : decode jdk_42_method_149_code 58 = .ok (.aload_n 0, 1) := by decide +kernel
theorem d2_59 : decode jdk_42_method_149_code 59 = .ok (.iconst 1, 1) := by decide +kernel
theorem d2_60 : decode jdk_42_method_149_code 60 = .ok (.putfield 15, 3) := by decide +kernel
theorem d2_63 : decode jdk_42_method_149_code 63 = .ok (.aload_n 0, 1) := by decide +kernel
theorem d2_64 : decode jdk_42_method_149_code 64 = .ok (.aload_n 1, 1) := by decide +kernel
theorem d2_65 : decode jdk_42_method_149_code 65 = .ok (.iload_n 2, 1) := by decide +kernel
theorem d2_66 : decode jdk_42_method_149_code 66 = .ok (.iload_n 3, 1) := by decide +kernel
theorem d2_67 : decode jdk_42_method_149_code 67 = .ok (.invokestatic 180, 3) := by decide +kernel
theorem d2_70 : decode jdk_42_method_149_code 70 = .ok (.putfield 9, 3) := by decide +kernel
theorem d2_73 : decode jdk_42_method_149_code 73 = .ok (.return_, 1) := by decide +kernel
theorem pn_2 : plainName "java/lang/String" = true := by first | (simp [plainName, overriddenIn]; done) | decide +kernel
theorem ef_2 (m : MethodId) (x0 : Addr) (x1 : Addr) (x2 : Int32) (x3 : Int32) (x4 : Addr) : entryFrame m #[(.ref x0), (.ref x1), (.int x2), (.int x3), (.ref x4)] 6 = mkF m 0 #[.val (.ref x0), .val (.ref x1), .val (.int x2), .val (.int x3), .val (.ref x4), .unset] [] := by first | (simp [entryFrame, mkF, argsToLocals, Value.category]; done) | rfl
theorem d1_0 : decode jdk_42_method_3_code 0 = .ok (.aload_n 0, 1) := by decide +kernel
theorem d1_1 : decode jdk_42_method_3_code 1 = .ok (.aload_n 1, 1) := by decide +kernel
theorem d1_2 : decode jdk_42_method_3_code 2 = .ok (.iconst 0, 1) := by decide +kernel
theorem d1_3 : decode jdk_42_method_3_code 3 = .ok (.aload_n 1, 1) := by decide +kernel
theorem d1_4 : decode jdk_42_method_3_code 4 = .ok (.arraylength, 1) := by decide +kernel
theorem d1_5 : decode jdk_42_method_3_code 5 = .ok (.aconst_null, 1) := by decide +kernel
theorem d1_6 : decode jdk_42_method_3_code 6 = .ok (.invokespecial 27, 3) := by decide +kernel
theorem d1_9 : decode jdk_42_method_3_code 9 = .ok (.return_, 1) := by decide +kernel
theorem pn_1 : plainName "java/lang/String" = true := by first | (simp [plainName, overriddenIn]; done) | decide +kernel
theorem ef_1 (m : MethodId) (x0 : Addr) (x1 : Addr) : entryFrame m #[(.ref x0), (.ref x1)] 2 = mkF m 0 #[.val (.ref x0), .val (.ref x1)] [] := by first | (simp [entryFrame, mkF, argsToLocals, Value.category]; done) | rfl
theorem d7_0 : decode jdk_42_method_139_code 0 = .ok (.getstatic 38, 3) := by decide +kernel
theorem d7_3 : decode jdk_42_method_139_code 3 = .ok (.ifCond .eq 23, 3) := by decide +kernel
theorem d7_6 : decode jdk_42_method_139_code 6 = .ok (.iload_n 0, 1) := by decide +kernel
theorem d7_7 : decode jdk_42_method_139_code 7 = .ok (.invokestatic 1015, 3) := by decide +kernel
theorem d7_10 : decode jdk_42_method_139_code 10 = .ok (.ifCond .eq 16, 3) := by decide +kernel
theorem d7_13 : decode jdk_42_method_139_code 13 = .ok (.new 10, 3) := by decide +kernel
theorem d7_16 : decode jdk_42_method_139_code 16 = .ok (.dup, 1) := by decide +kernel
theorem d7_17 : decode jdk_42_method_139_code 17 = .ok (.iload_n 0, 1) := by decide +kernel
theorem d7_18 : decode jdk_42_method_139_code 18 = .ok (.invokestatic 1018, 3) := by decide +kernel
theorem d7_21 : decode jdk_42_method_139_code 21 = .ok (.iconst 0, 1) := by decide +kernel
theorem d7_22 : decode jdk_42_method_139_code 22 = .ok (.invokespecial 209, 3) := by decide +kernel
theorem d7_25 : decode jdk_42_method_139_code 25 = .ok (.areturn, 1) := by decide +kernel
theorem d7_26 : decode jdk_42_method_139_code 26 = .ok (.new 10, 3) := by decide +kernel
theorem d7_29 : decode jdk_42_method_139_code 29 = .ok (.dup, 1) := by decide +kernel
theorem d7_30 : decode jdk_42_method_139_code 30 = .ok (.iload_n 0, 1) := by decide +kernel
theorem d7_31 : decode jdk_42_method_139_code 31 = .ok (.invokestatic 1021, 3) := by decide +kernel
theorem d7_34 : decode jdk_42_method_139_code 34 = .ok (.iconst 1, 1) := by decide +kernel
theorem d7_35 : decode jdk_42_method_139_code 35 = .ok (.invokespecial 209, 3) := by decide +kernel
theorem d7_38 : decode jdk_42_method_139_code 38 = .ok (.areturn, 1) := by decide +kernel
theorem pn_7 : plainName "java/lang/String" = true := by first | (simp [plainName, overriddenIn]; done) | decide +kernel
theorem ef_7 (m : MethodId) (x0 : Int32) : entryFrame m #[(.int x0)] 1 = mkF m 0 #[.val (.int x0)] [] := by first | (simp [entryFrame, mkF, argsToLocals, Value.category]; done) | rfl
theorem d8_0 : decode jdk_43_method_3_code 0 = .ok (.iload_n 0, 1) := by decide +kernel
theorem d8_1 : decode jdk_43_method_3_code 1 = .ok (.sipush 255, 3) := by decide +kernel
theorem d8_4 : decode jdk_43_method_3_code 4 = .ok (.if_icmp .gt 7, 3) := by decide +kernel
theorem d8_7 : decode jdk_43_method_3_code 7 = .ok (.iconst 1, 1) := by decide +kernel
theorem d8_8 : decode jdk_43_method_3_code 8 = .ok (.goto 4, 3) := by decide +kernel
theorem d8_11 : decode jdk_43_method_3_code 11 = .ok (.iconst 0, 1) := by decide +kernel
theorem d8_12 : decode jdk_43_method_3_code 12 = .ok (.ireturn, 1) := by decide +kernel
theorem pn_8 : plainName "java/lang/StringLatin1" = true := by first | (simp [plainName, overriddenIn]; done) | decide +kernel
theorem ef_8 (m : MethodId) (x0 : Int32) : entryFrame m #[(.int x0)] 1 = mkF m 0 #[.val (.int x0)] [] := by first | (simp [entryFrame, mkF, argsToLocals, Value.category]; done) | rfl
theorem d9_0 : decode jdk_43_method_46_code 0 = .ok (.iconst 1, 1) := by decide +kernel
theorem d9_1 : decode jdk_43_method_46_code 1 = .ok (.newarray .byte, 2) := by decide +kernel
theorem d9_3 : decode jdk_43_method_46_code 3 = .ok (.dup, 1) := by decide +kernel
theorem d9_4 : decode jdk_43_method_46_code 4 = .ok (.iconst 0, 1) := by decide +kernel
theorem d9_5 : decode jdk_43_method_46_code 5 = .ok (.iload_n 0, 1) := by decide +kernel
theorem d9_6 : decode jdk_43_method_46_code 6 = .ok (.i2b, 1) := by decide +kernel
theorem d9_7 : decode jdk_43_method_46_code 7 = .ok (.bastore, 1) := by decide +kernel
theorem d9_8 : decode jdk_43_method_46_code 8 = .ok (.areturn, 1) := by decide +kernel
theorem pn_9 : plainName "java/lang/StringLatin1" = true := by first | (simp [plainName, overriddenIn]; done) | decide +kernel
theorem ef_9 (m : MethodId) (x0 : Int32) : entryFrame m #[(.int x0)] 1 = mkF m 0 #[.val (.int x0)] [] := by first | (simp [entryFrame, mkF, argsToLocals, Value.category]; done) | rfl
theorem d10_0 : decode jdk_42_method_151_code 0 = .ok (.aload_n 0, 1) := by decide +kernel
theorem d10_1 : decode jdk_42_method_151_code 1 = .ok (.invokespecial 1, 3) := by decide +kernel
theorem d10_4 : decode jdk_42_method_151_code 4 = .ok (.aload_n 0, 1) := by decide +kernel
theorem d10_5 : decode jdk_42_method_151_code 5 = .ok (.aload_n 1, 1) := by decide +kernel
theorem d10_6 : decode jdk_42_method_151_code 6 = .ok (.putfield 9, 3) := by decide +kernel
theorem d10_9 : decode jdk_42_method_151_code 9 = .ok (.aload_n 0, 1) := by decide +kernel
theorem d10_10 : decode jdk_42_method_151_code 10 = .ok (.iload_n 2, 1) := by decide +kernel
theorem d10_11 : decode jdk_42_method_151_code 11 = .ok (.putfield 15, 3) := by decide +kernel
theorem d10_14 : decode jdk_42_method_151_code 14 = .ok (.return_, 1) := by decide +kernel
theorem pn_10 : plainName "java/lang/String" = true := by first | (simp [plainName, overriddenIn]; done) | decide +kernel
theorem ef_10 (m : MethodId) (x0 : Addr) (x1 : Addr) (x2 : Int32) : entryFrame m #[(.ref x0), (.ref x1), (.int x2)] 3 = mkF m 0 #[.val (.ref x0), .val (.ref x1), .val (.int x2)] [] := by first | (simp [entryFrame, mkF, argsToLocals, Value.category]; done) | rfl
theorem d11_0 : decode prog_19_method_1_code 0 = .ok (.aload_n 0, 1) := by decide +kernel
theorem d11_1 : decode prog_19_method_1_code 1 = .ok (.invokespecial 1, 3) := by decide +kernel
theorem d11_4 : decode prog_19_method_1_code 4 = .ok (.aload_n 2, 1) := by decide +kernel
theorem d11_5 : decode prog_19_method_1_code 5 = .ok (.ifnonnull 7, 3) := by decide +kernel
theorem d11_8 : decode prog_19_method_1_code 8 = .ok (.iconst 1, 1) := by decide +kernel
theorem d11_9 : decode prog_19_method_1_code 9 = .ok (.goto 4, 3) := by decide +kernel
theorem d11_12 : decode prog_19_method_1_code 12 = .ok (.iconst 0, 1) := by decide +kernel
theorem d11_13 : decode prog_19_method_1_code 13 = .ok (.aload_n 3, 1) := by decide +kernel
theorem d11_14 : decode prog_19_method_1_code 14 = .ok (.ifnonnull 7, 3) := by decide +kernel
theorem d11_17 : decode prog_19_method_1_code 17 = .ok (.iconst 1, 1) := by decide +kernel
theorem d11_18 : decode prog_19_method_1_code 18 = .ok (.goto 4, 3) := by decide +kernel
theorem d11_21 : decode prog_19_method_1_code 21 = .ok (.iconst 0, 1) := by decide +kernel
theorem d11_22 : decode prog_19_method_1_code 22 = .ok (.if_icmp .eq 13, 3) := by decide +kernel
theorem d11_25 : decode prog_19_method_1_code 25 = .ok (.new 7, 3) := by decide +kernel
theorem d11_28 : decode prog_19_method_1_code 28 = .ok (.dup, 1) := by decide +kernel
theorem d11_29 : decode prog_19_method_1_code 29 = .ok (.ldc 9, 2) := by decide +kernel
theorem d11_31 : decode prog_19_method_1_code 31 = .ok (.invokespecial 11, 3) := by decide +kernel
theorem d11_34 : decode prog_19_method_1_code 34 = .ok (.athrow, 1) := by decide +kernel
theorem d11_35 : decode prog_19_method_1_code 35 = .ok (.aload_n 0, 1) := by decide +kernel
theorem d11_36 : decode prog_19_method_1_code 36 = .ok (.aload_n 1, 1) := by decide +kernel
theorem d11_37 : decode prog_19_method_1_code 37 = .ok (.putfield 14, 3) := by decide +kernel
theorem d11_40 : decode prog_19_method_1_code 40 = .ok (.aload_n 0, 1) := by decide +kernel
theorem d11_41 : decode prog_19_method_1_code 41 = .ok (.aload_n 2, 1) := by decide +kernel
theorem d11_42 : decode prog_19_method_1_code 42 = .ok (.putfield 20, 3) := by decide +kernel
theorem d11_45 : decode prog_19_method_1_code 45 = .ok (.aload_n 0, 1) := by decide +kernel
theorem d11_46 : decode prog_19_method_1_code 46 = .ok (.aload_n 3, 1) := by decide +kernel
theorem d11_47 : decode prog_19_method_1_code 47 = .ok (.putfield 24, 3) := by decide +kernel
theorem d11_50 : decode prog_19_method_1_code 50 = .ok (.aload_n 0, 1) := by decide +kernel
theorem d11_51 : decode prog_19_method_1_code 51 = .ok (.iload 4, 2) := by decide +kernel
theorem d11_53 : decode prog_19_method_1_code 53 = .ok (.putfield 27, 3) := by decide +kernel
theorem d11_56 : decode prog_19_method_1_code 56 = .ok (.return_, 1) := by decide +kernel
theorem pn_11 : plainName "com/example/wardgate/wardgate/model/JwtSettings" = true := by first | (simp [plainName, overriddenIn]; done) | decide +kernel
theorem ef_11 (m : MethodId) (x0 : Addr) (x1 : Addr) (x2 : Addr) (x3 : Addr) (x4 : Int32) : entryFrame m #[(.ref x0), (.ref x1), (.ref x2), (.ref x3), (.int x4)] 5 = mkF m 0 #[.val (.ref x0), .val (.ref x1), .val (.ref x2), .val (.ref x3), .val (.int x4)] [] := by first | (simp [entryFrame, mkF, argsToLocals, Value.category]; done) | rfl
theorem d12_0 : decode jdk_30_method_1_code 0 = .ok (.aload_n 0, 1) := by decide +kernel
theorem d12_1 : decode jdk_30_method_1_code 1 = .ok (.invokespecial 1, 3) := by decide +kernel
theorem d12_4 : decode jdk_30_method_1_code 4 = .ok (.return_, 1) := by decide +kernel
theorem pn_12 : plainName "java/lang/Record" = true := by first | (simp [plainName, overriddenIn]; done) | decide +kernel
theorem ef_12 (m : MethodId) (x0 : Addr) : entryFrame m #[(.ref x0)] 1 = mkF m 0 #[.val (.ref x0)] [] := by first | (simp [entryFrame, mkF, argsToLocals, Value.category]; done) | rfl
theorem d13_0 : decode prog_19_method_3_code 0 = .ok (.aload_n 0, 1) := by decide +kernel
theorem d13_1 : decode prog_19_method_3_code 1 = .ok (.getfield 20, 3) := by decide +kernel
theorem d13_4 : decode prog_19_method_3_code 4 = .ok (.ifnull 7, 3) := by decide +kernel
theorem d13_7 : decode prog_19_method_3_code 7 = .ok (.iconst 1, 1) := by decide +kernel
theorem d13_8 : decode prog_19_method_3_code 8 = .ok (.goto 4, 3) := by decide +kernel
theorem d13_11 : decode prog_19_method_3_code 11 = .ok (.iconst 0, 1) := by decide +kernel
theorem d13_12 : decode prog_19_method_3_code 12 = .ok (.ireturn, 1) := by decide +kernel
theorem pn_13 : plainName "com/example/wardgate/wardgate/model/JwtSettings" = true := by first | (simp [plainName, overriddenIn]; done) | decide +kernel
theorem ef_13 (m : MethodId) (x0 : Addr) : entryFrame m #[(.ref x0)] 1 = mkF m 0 #[.val (.ref x0)] [] := by first | (simp [entryFrame, mkF, argsToLocals, Value.category]; done) | rfl
theorem d14_0 : decode prog_19_method_4_code 0 = .ok (.aload_n 0, 1) := by decide +kernel
theorem d14_1 : decode prog_19_method_4_code 1 = .ok (.getfield 24, 3) := by decide +kernel
theorem d14_4 : decode prog_19_method_4_code 4 = .ok (.ifnonnull 7, 3) := by decide +kernel
theorem d14_7 : decode prog_19_method_4_code 7 = .ok (.aconst_null, 1) := by decide +kernel
theorem d14_8 : decode prog_19_method_4_code 8 = .ok (.goto 13, 3) := by decide +kernel
theorem d14_11 : decode prog_19_method_4_code 11 = .ok (.aload_n 0, 1) := by decide +kernel
theorem d14_12 : decode prog_19_method_4_code 12 = .ok (.getfield 24, 3) := by decide +kernel
theorem d14_15 : decode prog_19_method_4_code 15 = .ok (.getstatic 31, 3) := by decide +kernel
theorem d14_18 : decode prog_19_method_4_code 18 = .ok (.invokevirtual 37, 3) := by decide +kernel
theorem d14_21 : decode prog_19_method_4_code 21 = .ok (.areturn, 1) := by decide +kernel
theorem pn_14 : plainName "com/example/wardgate/wardgate/model/JwtSettings" = true := by first | (simp [plainName, overriddenIn]; done) | decide +kernel
theorem ef_14 (m : MethodId) (x0 : Addr) : entryFrame m #[(.ref x0)] 1 = mkF m 0 #[.val (.ref x0)] [] := by first | (simp [entryFrame, mkF, argsToLocals, Value.category]; done) | rfl
theorem d15_0 : decode jdk_42_method_64_code 0 = .ok (.aload_n 1, 1) := by decide +kernel
theorem d15_1 : decode jdk_42_method_64_code 1 = .ok (.ifnonnull 11, 3) := by decide +kernel
theorem d15_4 : decode jdk_42_method_64_code 4 = .ok (.new 538, 3) := by decide +kernel
theorem d15_7 : decode jdk_42_method_64_code 7 = .ok (.dup, 1) := by decide +kernel
theorem d15_8 : decode jdk_42_method_64_code 8 = .ok (.invokespecial 540, 3) := by decide +kernel
theorem d15_11 : decode jdk_42_method_64_code 11 = .ok (.athrow, 1) := by decide +kernel
theorem d15_12 : decode jdk_42_method_64_code 12 = .ok (.aload_n 1, 1) := by decide +kernel
theorem d15_13 : decode jdk_42_method_64_code 13 = .ok (.aload_n 0, 1) := by decide +kernel
theorem d15_14 : decode jdk_42_method_64_code 14 = .ok (.invokevirtual 335, 3) := by decide +kernel
theorem d15_17 : decode jdk_42_method_64_code 17 = .ok (.aload_n 0, 1) := by decide +kernel
theorem d15_18 : decode jdk_42_method_64_code 18 = .ok (.getfield 9, 3) := by decide +kernel
theorem d15_21 : decode jdk_42_method_64_code 21 = .ok (.invokestatic 535, 3) := by decide +kernel
theorem d15_24 : decode jdk_42_method_64_code 24 = .ok (.areturn, 1) := by decide +kernel
theorem pn_15 : plainName "java/lang/String" = true := by first | (simp [plainName, overriddenIn]; done) | decide +kernel
theorem ef_15 (m : MethodId) (x0 : Addr) (x1 : Addr) : entryFrame m #[(.ref x0), (.ref x1)] 2 = mkF m 0 #[.val (.ref x0), .val (.ref x1)] [] := by first | (simp [entryFrame, mkF, argsToLocals, Value.category]; done) | rfl
theorem d16_0 : decode jdk_42_method_152_code 0 = .ok (.getstatic 38, 3) := by decide +kernel
theorem d16_3 : decode jdk_42_method_152_code 3 = .ok (.ifCond .eq 10, 3) := by decide +kernel
theorem d16_6 : decode jdk_42_method_152_code 6 = .ok (.aload_n 0, 1) := by decide +kernel
theorem d16_7 : decode jdk_42_method_152_code 7 = .ok (.getfield 15, 3) := by decide +kernel
theorem d16_10 : decode jdk_42_method_152_code 10 = .ok (.goto 4, 3) := by decide +kernel
theorem d16_13 : decode jdk_42_method_152_code 13 = .ok (.iconst 1, 1) := by decide +kernel
theorem d16_14 : decode jdk_42_method_152_code 14 = .ok (.ireturn, 1) := by decide +kernel
theorem pn_16 : plainName "java/lang/String" = true := by first | (simp [plainName, overriddenIn]; done) | decide +kernel
theorem ef_16 (m : MethodId) (x0 : Addr) : entryFrame m #[(.ref x0)] 1 = mkF m 0 #[.val (.ref x0)] [] := by first | (simp [entryFrame, mkF, argsToLocals, Value.category]; done) | rfl
theorem d17_0 : decode jdk_42_method_18_code 0 = .ok (.aload_n 0, 1) := by decide +kernel
theorem d17_1 : decode jdk_42_method_18_code 1 = .ok (.getstatic 86, 3) := by decide +kernel
theorem d17_4 : decode jdk_42_method_18_code 4 = .ok (.if_acmp .ne 10, 3) := by decide +kernel
theorem d17_7 : decode jdk_42_method_18_code 7 = .ok (.iload_n 1, 1) := by decide +kernel
theorem d17_8 : decode jdk_42_method_18_code 8 = .ok (.aload_n 2, 1) := by decide +kernel
theorem d17_9 : decode jdk_42_method_18_code 9 = .ok (.iconst 1, 1) := by decide +kernel
theorem d17_10 : decode jdk_42_method_18_code 10 = .ok (.invokestatic 252, 3) := by decide +kernel
theorem d17_13 : decode jdk_42_method_18_code 13 = .ok (.areturn, 1) := by decide +kernel
theorem d17_14 : decode jdk_42_method_18_code 14 = .ok (.aload_n 0, 1) := by decide +kernel
theorem d17_15 : decode jdk_42_method_18_code 15 = .ok (.getstatic 116, 3) := by decide +kernel
theorem d17_18 : decode jdk_42_method_18_code 18 = .ok (.if_acmp .ne 9, 3) := by decide +kernel
theorem d17_21 : decode jdk_42_method_18_code 21 = .ok (.iload_n 1, 1) := by decide +kernel
theorem d17_22 : decode jdk_42_method_18_code 22 = .ok (.aload_n 2, 1) := by decide +kernel
theorem d17_23 : decode jdk_42_method_18_code 23 = .ok (.invokestatic 256, 3) := by decide +kernel
theorem d17_26 : decode jdk_42_method_18_code 26 = .ok (.areturn, 1) := by decide +kernel
theorem d17_27 : decode jdk_42_method_18_code 27 = .ok (.aload_n 0, 1) := by decide +kernel
theorem d17_28 : decode jdk_42_method_18_code 28 = .ok (.getstatic 123, 3) := by decide +kernel
theorem d17_31 : decode jdk_42_method_18_code 31 = .ok (.if_acmp .ne 9, 3) := by decide +kernel
theorem d17_34 : decode jdk_42_method_18_code 34 = .ok (.iload_n 1, 1) := by decide +kernel
theorem d17_35 : decode jdk_42_method_18_code 35 = .ok (.aload_n 2, 1) := by decide +kernel
theorem d17_36 : decode jdk_42_method_18_code 36 = .ok (.invokestatic 260, 3) := by decide +kernel
theorem d17_39 : decode jdk_42_method_18_code 39 = .ok (.areturn, 1) := by decide +kernel
theorem d17_40 : decode jdk_42_method_18_code 40 = .ok (.aload_n 0, 1) := by decide +kernel
theorem d17_41 : decode jdk_42_method_18_code 41 = .ok (.iload_n 1, 1) := by decide +kernel
theorem d17_42 : decode jdk_42_method_18_code 42 = .ok (.aload_n 2, 1) := by decide +kernel
theorem d17_43 : decode jdk_42_method_18_code 43 = .ok (.iconst 1, 1) := by decide +kernel
theorem d17_44 : decode jdk_42_method_18_code 44 = .ok (.invokestatic 263, 3) := by decide +kernel
theorem d17_47 : decode jdk_42_method_18_code 47 = .ok (.areturn, 1) := by decide +kernel
theorem pn_17 : plainName "java/lang/String" = true := by first | (simp [plainName, overriddenIn]; done) | decide +kernel
theorem ef_17 (m : MethodId) (x0 : Addr) (x1 : Int32) (x2 : Addr) : entryFrame m #[(.ref x0), (.int x1), (.ref x2)] 3 = mkF m 0 #[.val (.ref x0), .val (.int x1), .val (.ref x2)] [] := by first | (simp [entryFrame, mkF, argsToLocals, Value.category]; done) | rfl
theorem d18_0 : decode jdk_42_method_46_code 0 = .ok (.iload_n 0, 1) := by decide +kernel
theorem d18_1 : decode jdk_42_method_46_code 1 = .ok (.iconst 1, 1) := by decide +kernel
theorem d18_2 : decode jdk_42_method_46_code 2 = .ok (.if_icmp .ne 9, 3) := by decide +kernel
theorem d18_5 : decode jdk_42_method_46_code 5 = .ok (.aload_n 1, 1) := by decide +kernel
theorem d18_6 : decode jdk_42_method_46_code 6 = .ok (.iload_n 2, 1) := by decide +kernel
theorem d18_7 : decode jdk_42_method_46_code 7 = .ok (.invokestatic 473, 3) := by decide +kernel
theorem d18_10 : decode jdk_42_method_46_code 10 = .ok (.areturn, 1) := by decide +kernel
theorem d18_11 : decode jdk_42_method_46_code 11 = .ok (.aload_n 1, 1) := by decide +kernel
theorem d18_12 : decode jdk_42_method_46_code 12 = .ok (.iconst 0, 1) := by decide +kernel
theorem d18_13 : decode jdk_42_method_46_code 13 = .ok (.aload_n 1, 1) := by decide +kernel
theorem d18_14 : decode jdk_42_method_46_code 14 = .ok (.arraylength, 1) := by decide +kernel
theorem d18_15 : decode jdk_42_method_46_code 15 = .ok (.invokestatic 128, 3) := by decide +kernel
theorem d18_18 : decode jdk_42_method_46_code 18 = .ok (.ifCond .ne 11, 3) := by decide +kernel
theorem d18_21 : decode jdk_42_method_46_code 21 = .ok (.aload_n 1, 1) := by decide +kernel
theorem d18_22 : decode jdk_42_method_46_code 22 = .ok (.invokevirtual 279, 3) := by decide +kernel
theorem d18_25 : decode jdk_42_method_46_code 25 = .ok (.checkcast 280, 3) := by decide +kernel
theorem d18_28 : decode jdk_42_method_46_code 28 = .ok (.areturn, 1) := by decide +kernel
theorem d18_29 : decode jdk_42_method_46_code 29 = .ok (.iconst 0, 1) := by decide +kernel
theorem d18_30 : decode jdk_42_method_46_code 30 = .ok (.istore_n 3, 1) := by decide +kernel
theorem d18_31 : decode jdk_42_method_46_code 31 = .ok (.aload_n 1, 1) := by decide +kernel
theorem d18_32 : decode jdk_42_method_46_code 32 = .ok (.arraylength, 1) := by decide +kernel
theorem d18_33 : decode jdk_42_method_46_code 33 = .ok (.invokestatic 60, 3) := by decide +kernel
theorem d18_36 : decode jdk_42_method_46_code 36 = .ok (.astore 4, 2) := by decide +kernel
theorem d18_38 : decode jdk_42_method_46_code 38 = .ok (.aload_n 1, 1) := by decide +kernel
theorem d18_39 : decode jdk_42_method_46_code 39 = .ok (.astore 5, 2) := by decide +kernel
theorem d18_41 : decode jdk_42_method_46_code 41 = .ok (.aload 5, 2) := by decide +kernel
theorem d18_43 : decode jdk_42_method_46_code 43 = .ok (.arraylength, 1) := by decide +kernel
theorem d18_44 : decode jdk_42_method_46_code 44 = .ok (.istore 6, 2) := by decide +kernel
theorem d18_46 : decode jdk_42_method_46_code 46 = .ok (.iconst 0, 1) := by decide +kernel
theorem d18_47 : decode jdk_42_method_46_code 47 = .ok (.istore 7, 2) := by decide +kernel
theorem d18_49 : decode jdk_42_method_46_code 49 = .ok (.iload 7, 2) := by decide +kernel
theorem d18_51 : decode jdk_42_method_46_code 51 = .ok (.iload 6, 2) := by decide +kernel
theorem d18_53 : decode jdk_42_method_46_code 53 = .ok (.if_icmp .ge 71, 3) := by decide +kernel
theorem d18_56 : decode jdk_42_method_46_code 56 = .ok (.aload 5, 2) := by decide +kernel
theorem d18_58 : decode jdk_42_method_46_code 58 = .ok (.iload 7, 2) := by decide +kernel
theorem d18_60 : decode jdk_42_method_46_code 60 = .ok (.baload, 1) := by decide +kernel
theorem d18_61 : decode jdk_42_method_46_code 61 = .ok (.istore 8, 2) := by decide +kernel
theorem d18_63 : decode jdk_42_method_46_code 63 = .ok (.iload 8, 2) := by decide +kernel
theorem d18_65 : decode jdk_42_method_46_code 65 = .ok (.ifCond .ge 44, 3) := by decide +kernel
theorem d18_68 : decode jdk_42_method_46_code 68 = .ok (.aload 4, 2) := by decide +kernel
theorem d18_70 : decode jdk_42_method_46_code 70 = .ok (.iload_n 3, 1) := by decide +kernel
theorem d18_71 : decode jdk_42_method_46_code 71 = .ok (.iinc 3 1, 3) := by decide +kernel
theorem d18_74 : decode jdk_42_method_46_code 74 = .ok (.sipush 192, 3) := by decide +kernel
theorem d18_77 : decode jdk_42_method_46_code 77 = .ok (.iload 8, 2) := by decide +kernel
theorem d18_79 : decode jdk_42_method_46_code 79 = .ok (.sipush 255, 3) := by decide +kernel
theorem d18_82 : decode jdk_42_method_46_code 82 = .ok (.iand, 1) := by decide +kernel
theorem d18_83 : decode jdk_42_method_46_code 83 = .ok (.bipush 6, 2) := by decide +kernel
theorem d18_85 : decode jdk_42_method_46_code 85 = .ok (.ishr, 1) := by decide +kernel
theorem d18_86 : decode jdk_42_method_46_code 86 = .ok (.ior, 1) := by decide +kernel
theorem d18_87 : decode jdk_42_method_46_code 87 = .ok (.i2b, 1) := by decide +kernel
theorem d18_88 : decode jdk_42_method_46_code 88 = .ok (.bastore, 1) := by decide +kernel
theorem d18_89 : decode jdk_42_method_46_code 89 = .ok (.aload 4, 2) := by decide +kernel
theorem d18_91 : decode jdk_42_method_46_code 91 = .ok (.iload_n 3, 1) := by decide +kernel
theorem d18_92 : decode jdk_42_method_46_code 92 = .ok (.iinc 3 1, 3) := by decide +kernel
theorem d18_95 : decode jdk_42_method_46_code 95 = .ok (.sipush 128, 3) := by decide +kernel
theorem d18_98 : decode jdk_42_method_46_code 98 = .ok (.iload 8, 2) := by decide +kernel
theorem d18_100 : decode jdk_42_method_46_code 100 = .ok (.bipush 63, 2) := by decide +kernel
theorem d18_102 : decode jdk_42_method_46_code 102 = .ok (.iand, 1) := by decide +kernel
theorem d18_103 : decode jdk_42_method_46_code 103 = .ok (.ior, 1) := by decide +kernel
theorem d18_104 : decode jdk_42_method_46_code 104 = .ok (.i2b, 1) := by decide +kernel
theorem d18_105 : decode jdk_42_method_46_code 105 = .ok (.bastore, 1) := by decide +kernel
theorem d18_106 : decode jdk_42_method_46_code 106 = .ok (.goto 12, 3) := by decide +kernel
theorem d18_109 : decode jdk_42_method_46_code 109 = .ok (.aload 4, 2) := by decide +kernel
theorem d18_111 : decode jdk_42_method_46_code 111 = .ok (.iload_n 3, 1) := by decide +kernel
theorem d18_112 : decode jdk_42_method_46_code 112 = .ok (.iinc 3 1, 3) := by decide +kernel
theorem d18_115 : decode jdk_42_method_46_code 115 = .ok (.iload 8, 2) := by decide +kernel
theorem d18_117 : decode jdk_42_method_46_code 117 = .ok (.bastore, 1) := by decide +kernel
theorem d18_118 : decode jdk_42_method_46_code 118 = .ok (.iinc 7 1, 3) := by decide +kernel
theorem d18_121 : decode jdk_42_method_46_code 121 = .ok (.goto (-72), 3) := by decide +kernel
theorem d18_124 : decode jdk_42_method_46_code 124 = .ok (.iload_n 3, 1) := by decide +kernel
theorem d18_125 : decode jdk_42_method_46_code 125 = .ok (.aload 4, 2) := by decide +kernel
theorem d18_127 : decode jdk_42_method_46_code 127 = .ok (.arraylength, 1) := by decide +kernel
theorem d18_128 : decode jdk_42_method_46_code 128 = .ok (.if_icmp .ne 6, 3) := by decide +kernel
theorem d18_131 : decode jdk_42_method_46_code 131 = .ok (.aload 4, 2) := by decide +kernel
theorem d18_133 : decode jdk_42_method_46_code 133 = .ok (.areturn, 1) := by decide +kernel
theorem d18_134 : decode jdk_42_method_46_code 134 = .ok (.aload 4, 2) := by decide +kernel
theorem d18_136 : decode jdk_42_method_46_code 136 = .ok (.iload_n 3, 1) := by decide +kernel
theorem d18_137 : decode jdk_42_method_46_code 137 = .ok (.invokestatic 102, 3) := by decide +kernel
theorem d18_140 : decode jdk_42_method_46_code 140 = .ok (.areturn, 1) := by decide +kernel
theorem pn_18 : plainName "java/lang/String" = true := by first | (simp [plainName, overriddenIn]; done) | decide +kernel
theorem ef_18 (m : MethodId) (x0 : Int32) (x1 : Addr) (x2 : Int32) : entryFrame m #[(.int x0), (.ref x1), (.int x2)] 9 = mkF m 0 #[.val (.int x0), .val (.ref x1), .val (.int x2), .unset, .unset, .unset, .unset, .unset, .unset] [] := by first | (simp [entryFrame, mkF, argsToLocals, Value.category]; done) | rfl
theorem d19_0 : decode jdk_123_method_2_code 0 = .ok (.aload_n 0, 1) := by decide +kernel
theorem d19_1 : decode jdk_123_method_2_code 1 = .ok (.iload_n 1, 1) := by decide +kernel
theorem d19_2 : decode jdk_123_method_2_code 2 = .ok (.iload_n 2, 1) := by decide +kernel
theorem d19_3 : decode jdk_123_method_2_code 3 = .ok (.invokestatic 7, 3) := by decide +kernel
theorem d19_6 : decode jdk_123_method_2_code 6 = .ok (.iload_n 2, 1) := by decide +kernel
theorem d19_7 : decode jdk_123_method_2_code 7 = .ok (.if_icmp .eq 7, 3) := by decide +kernel
theorem d19_10 : decode jdk_123_method_2_code 10 = .ok (.iconst 1, 1) := by decide +kernel
theorem d19_11 : decode jdk_123_method_2_code 11 = .ok (.goto 4, 3) := by decide +kernel
theorem d19_14 : decode jdk_123_method_2_code 14 = .ok (.iconst 0, 1) := by decide +kernel
theorem d19_15 : decode jdk_123_method_2_code 15 = .ok (.ireturn, 1) := by decide +kernel
theorem pn_19 : plainName "java/lang/StringCoding" = true := by first | (simp [plainName, overriddenIn]; done) | decide +kernel
theorem ef_19 (m : MethodId) (x0 : Addr) (x1 : Int32) (x2 : Int32) : entryFrame m #[(.ref x0), (.int x1), (.int x2)] 3 = mkF m 0 #[.val (.ref x0), .val (.int x1), .val (.int x2)] [] := by first | (simp [entryFrame, mkF, argsToLocals, Value.category]; done) | rfl
theorem d20_0 : decode jdk_123_method_3_code 0 = .ok (.iload_n 1, 1) := by decide +kernel
theorem d20_1 : decode jdk_123_method_3_code 1 = .ok (.iload_n 2, 1) := by decide +kernel
theorem d20_2 : decode jdk_123_method_3_code 2 = .ok (.iadd, 1) := by decide +kernel
theorem d20_3 : decode jdk_123_method_3_code 3 = .ok (.istore_n 3, 1) := by decide +kernel
theorem d20_4 : decode jdk_123_method_3_code 4 = .ok (.iload_n 1, 1) := by decide +kernel
theorem d20_5 : decode jdk_123_method_3_code 5 = .ok (.istore 4, 2) := by decide +kernel
theorem d20_7 : decode jdk_123_method_3_code 7 = .ok (.iload 4, 2) := by decide +kernel
theorem d20_9 : decode jdk_123_method_3_code 9 = .ok (.iload_n 3, 1) := by decide +kernel
theorem d20_10 : decode jdk_123_method_3_code 10 = .ok (.if_icmp .ge 21, 3) := by decide +kernel
theorem d20_13 : decode jdk_123_method_3_code 13 = .ok (.aload_n 0, 1) := by decide +kernel
theorem d20_14 : decode jdk_123_method_3_code 14 = .ok (.iload 4, 2) := by decide +kernel
theorem d20_16 : decode jdk_123_method_3_code 16 = .ok (.baload, 1) := by decide +kernel
theorem d20_17 : decode jdk_123_method_3_code 17 = .ok (.ifCond .ge 8, 3) := by decide +kernel
theorem d20_20 : decode jdk_123_method_3_code 20 = .ok (.iload 4, 2) := by decide +kernel
theorem d20_22 : decode jdk_123_method_3_code 22 = .ok (.iload_n 1, 1) := by decide +kernel
theorem d20_23 : decode jdk_123_method_3_code 23 = .ok (.isub, 1) := by decide +kernel
theorem d20_24 : decode jdk_123_method_3_code 24 = .ok (.ireturn, 1) := by decide +kernel
theorem d20_25 : decode jdk_123_method_3_code 25 = .ok (.iinc 4 1, 3) := by decide +kernel
theorem d20_28 : decode jdk_123_method_3_code 28 = .ok (.goto (-21), 3) := by decide +kernel
theorem d20_31 : decode jdk_123_method_3_code 31 = .ok (.iload_n 2, 1) := by decide +kernel
theorem d20_32 : decode jdk_123_method_3_code 32 = .ok (.ireturn, 1) := by decide +kernel
theorem pn_20 : plainName "java/lang/StringCoding" = true := by first | (simp [plainName, overriddenIn]; done) | decide +kernel
theorem ef_20 (m : MethodId) (x0 : Addr) (x1 : Int32) (x2 : Int32) : entryFrame m #[(.ref x0), (.int x1), (.int x2)] 5 = mkF m 0 #[.val (.ref x0), .val (.int x1), .val (.int x2), .unset, .unset] [] := by first | (simp [entryFrame, mkF, argsToLocals, Value.category]; done) | rfl
theorem d21_0 : decode jdk_52_method_2_code 0 = .ok (.iload_n 0, 1) := by decide +kernel
theorem d21_1 : decode jdk_52_method_2_code 1 = .ok (.invokestatic 11, 3) := by decide +kernel
theorem d21_4 : decode jdk_52_method_2_code 4 = .ok (.newarray .byte, 2) := by decide +kernel
theorem d21_6 : decode jdk_52_method_2_code 6 = .ok (.areturn, 1) := by decide +kernel
theorem pn_21 : plainName "java/lang/StringUTF16" = true := by first | (simp [plainName, overriddenIn]; done) | decide +kernel
theorem ef_21 (m : MethodId) (x0 : Int32) : entryFrame m #[(.int x0)] 1 = mkF m 0 #[.val (.int x0)] [] := by first | (simp [entryFrame, mkF, argsToLocals, Value.category]; done) | rfl
theorem d22_0 : decode jdk_52_method_3_code 0 = .ok (.iload_n 0, 1) := by decide +kernel
theorem d22_1 : decode jdk_52_method_3_code 1 = .ok (.ifCond .ge 11, 3) := by decide +kernel
theorem d22_4 : decode jdk_52_method_3_code 4 = .ok (.new 17, 3) := by decide +kernel
theorem d22_7 : decode jdk_52_method_3_code 7 = .ok (.dup, 1) := by decide +kernel
theorem d22_8 : decode jdk_52_method_3_code 8 = .ok (.invokespecial 19, 3) := by decide +kernel
theorem d22_11 : decode jdk_52_method_3_code 11 = .ok (.athrow, 1) := by decide +kernel
theorem d22_12 : decode jdk_52_method_3_code 12 = .ok (.iload_n 0, 1) := by decide +kernel
theorem d22_13 : decode jdk_52_method_3_code 13 = .ok (.ldc 20, 2) := by decide +kernel
theorem d22_15 : decode jdk_52_method_3_code 15 = .ok (.if_icmp .lt 40, 3) := by decide +kernel
theorem d22_18 : decode jdk_52_method_3_code 18 = .ok (.new 21, 3) := by decide +kernel
theorem d22_21 : decode jdk_52_method_3_code 21 = .ok (.dup, 1) := by decide +kernel
theorem d22_22 : decode jdk_52_method_3_code 22 = .ok (.new 23, 3) := by decide +kernel
theorem d22_25 : decode jdk_52_method_3_code 25 = .ok (.dup, 1) := by decide +kernel
theorem d22_26 : decode jdk_52_method_3_code 26 = .ok (.invokespecial 25, 3) := by decide +kernel
theorem d22_29 : decode jdk_52_method_3_code 29 = .ok (.ldc 26, 2) := by decide +kernel
theorem d22_31 : decode jdk_52_method_3_code 31 = .ok (.invokevirtual 28, 3) := by decide +kernel
theorem d22_34 : decode jdk_52_method_3_code 34 = .ok (.iload_n 0, 1) := by decide +kernel
theorem d22_35 : decode jdk_52_method_3_code 35 = .ok (.invokevirtual 32, 3) := by decide +kernel
theorem d22_38 : decode jdk_52_method_3_code 38 = .ok (.ldc 35, 2) := by decide +kernel
theorem d22_40 : decode jdk_52_method_3_code 40 = .ok (.invokevirtual 28, 3) := by decide +kernel
theorem d22_43 : decode jdk_52_method_3_code 43 = .ok (.ldc 20, 2) := by decide +kernel
theorem d22_45 : decode jdk_52_method_3_code 45 = .ok (.invokevirtual 32, 3) := by decide +kernel
theorem d22_48 : decode jdk_52_method_3_code 48 = .ok (.invokevirtual 37, 3) := by decide +kernel
theorem d22_51 : decode jdk_52_method_3_code 51 = .ok (.invokespecial 41, 3) := by decide +kernel
theorem d22_54 : decode jdk_52_method_3_code 54 = .ok (.athrow, 1) := by decide +kernel
theorem d22_55 : decode jdk_52_method_3_code 55 = .ok (.iload_n 0, 1) := by decide +kernel
theorem d22_56 : decode jdk_52_method_3_code 56 = .ok (.iconst 1, 1) := by decide +kernel
theorem d22_57 : decode jdk_52_method_3_code 57 = .ok (.ishl, 1) := by decide +kernel
theorem d22_58 : decode jdk_52_method_3_code 58 = .ok (.ireturn, 1) := by decide +kernel
theorem pn_22 : plainName "java/lang/StringUTF16" = true := by first | (simp [plainName, overriddenIn]; done) | decide +kernel
theorem ef_22 (m : MethodId) (x0 : Int32) : entryFrame m #[(.int x0)] 1 = mkF m 0 #[.val (.int x0)] [] := by first | (simp [entryFrame, mkF, argsToLocals, Value.category]; done) | rfl
theorem d23_0 : decode jdk_65_method_121_code 0 = .ok (.iload_n 1, 1) := by decide +kernel
theorem d23_1 : decode jdk_65_method_121_code 1 = .ok (.aload_n 0, 1) := by decide +kernel
theorem d23_2 : decode jdk_65_method_121_code 2 = .ok (.arraylength, 1) := by decide +kernel
theorem d23_3 : decode jdk_65_method_121_code 3 = .ok (.if_icmp .ne 11, 3) := by decide +kernel
theorem d23_6 : decode jdk_65_method_121_code 6 = .ok (.aload_n 0, 1) := by decide +kernel
theorem d23_7 : decode jdk_65_method_121_code 7 = .ok (.invokevirtual 310, 3) := by decide +kernel
theorem d23_10 : decode jdk_65_method_121_code 10 = .ok (.checkcast 311, 3) := by decide +kernel
theorem d23_13 : decode jdk_65_method_121_code 13 = .ok (.areturn, 1) := by decide +kernel
theorem d23_14 : decode jdk_65_method_121_code 14 = .ok (.iload_n 1, 1) := by decide +kernel
theorem d23_15 : decode jdk_65_method_121_code 15 = .ok (.newarray .byte, 2) := by decide +kernel
theorem d23_17 : decode jdk_65_method_121_code 17 = .ok (.astore_n 2, 1) := by decide +kernel
theorem d23_18 : decode jdk_65_method_121_code 18 = .ok (.aload_n 0, 1) := by decide +kernel
theorem d23_19 : decode jdk_65_method_121_code 19 = .ok (.iconst 0, 1) := by decide +kernel
theorem d23_20 : decode jdk_65_method_121_code 20 = .ok (.aload_n 2, 1) := by decide +kernel
theorem d23_21 : decode jdk_65_method_121_code 21 = .ok (.iconst 0, 1) := by decide +kernel
theorem d23_22 : decode jdk_65_method_121_code 22 = .ok (.aload_n 0, 1) := by decide +kernel
theorem d23_23 : decode jdk_65_method_121_code 23 = .ok (.arraylength, 1) := by decide +kernel
theorem d23_24 : decode jdk_65_method_121_code 24 = .ok (.iload_n 1, 1) := by decide +kernel
theorem d23_25 : decode jdk_65_method_121_code 25 = .ok (.invokestatic 304, 3) := by decide +kernel
theorem d23_28 : decode jdk_65_method_121_code 28 = .ok (.invokestatic 150, 3) := by decide +kernel
theorem d23_31 : decode jdk_65_method_121_code 31 = .ok (.aload_n 2, 1) := by decide +kernel
theorem d23_32 : decode jdk_65_method_121_code 32 = .ok (.areturn, 1) := by decide +kernel
theorem pn_23 : plainName "java/util/Arrays" = true := by first | (simp [plainName, overriddenIn]; done) | decide +kernel
theorem ef_23 (m : MethodId) (x0 : Addr) (x1 : Int32) : entryFrame m #[(.ref x0), (.int x1)] 3 = mkF m 0 #[.val (.ref x0), .val (.int x1), .unset] [] := by first | (simp [entryFrame, mkF, argsToLocals, Value.category]; done) | rfl
theorem d24_0 : decode jdk_29_method_69_code 0 = .ok (.iload_n 0, 1) := by decide +kernel
theorem d24_1 : decode jdk_29_method_69_code 1 = .ok (.iload_n 1, 1) := by decide +kernel
theorem d24_2 : decode jdk_29_method_69_code 2 = .ok (.if_icmp .gt 7, 3) := by decide +kernel
theorem d24_5 : decode jdk_29_method_69_code 5 = .ok (.iload_n 0, 1) := by decide +kernel
theorem d24_6 : decode jdk_29_method_69_code 6 = .ok (.goto 4, 3) := by decide +kernel
theorem d24_9 : decode jdk_29_method_69_code 9 = .ok (.iload_n 1, 1) := by decide +kernel
theorem d24_10 : decode jdk_29_method_69_code 10 = .ok (.ireturn, 1) := by decide +kernel
theorem ef_24 (m : MethodId) (x0 : Int32) (x1 : Int32) : entryFrame m #[(.int x0), (.int x1)] 2 = mkF m 0 #[.val (.int x0), .val (.int x1)] [] := by first | (simp [entryFrame, mkF, argsToLocals, Value.category]; done) | rfl
theorem pn_0 : plainName "com/example/wardgate/wardgate/model/JwtSettingsSealsSessionsPinLaw" = true := by first | (simp [plainName, overriddenIn]; done) | decide +kernel
theorem ef_0 (m : MethodId) (x0 : Int32) (x1 : Int32) (x2 : Int32) (x3 : Int32) : entryFrame m #[(.int x0), (.int x1), (.int x2), (.int x3)] maxLocals = mkF m 0 #[.val (.int x0), .val (.int x1), .val (.int x2), .val (.int x3), .unset, .unset, .unset, .unset, .unset, .unset, .unset, .unset, .unset, .unset, .unset] [] := by first | (simp [entryFrame, mkF, argsToLocals, Value.category, maxLocals]; done) | rfl
theorem ef_2_null (m : MethodId) (x0 : Addr) (x1 : Addr) (x2 : Int32) (x3 : Int32) : entryFrame m #[(.ref x0), (.ref x1), (.int x2), (.int x3), .null] 6 = mkF m 0 #[.val (.ref x0), .val (.ref x1), .val (.int x2), .val (.int x3), .val .null, .unset] [] := by first | (simp [entryFrame, mkF, argsToLocals, Value.category]; done) | rfl
theorem ef_11_null (m : MethodId) (x0 : Addr) (x1 : Addr) (x4 : Int32) : entryFrame m #[(.ref x0), (.ref x1), .null, .null, (.int x4)] 5 = mkF m 0 #[.val (.ref x0), .val (.ref x1), .val .null, .val .null, .val (.int x4)] [] := by first | (simp [entryFrame, mkF, argsToLocals, Value.category]; done) | rfl
set_option maxRecDepth 65536 in
set_option maxHeartbeats 40000000 in
theorem rm5 (l : Launch) (Z : State) (a0 : Array Value) (hw : ∀ d ∈ tables_1, d.before a0 Z = true) (ws : List Jvm.Cond) (x0 : Addr) (x2 : Addr) (k0 k2 : ClassId) (c0 c1 : Int32) (h0 : Heap) (n0 : Nat) (Z0 : n0 ≤ h0.size) (V_x0 : Arv Z h0 x0 k0 .char (2 : Int32) [(.int c0), (.int c1)] (.int (0 : Int32))) (V_x2 : Arv Z h0 x2 k2 .byte (2 : Int32) [(.int (0 : Int32)), (.int (0 : Int32))] (.int (0 : Int32))) (g_x2 : n0 ≤ x2) (ne02 : x0 ≠ x2) (hc0 : ¬ ((255 : Int32) < c0)) (hc1 : ¬ ((255 : Int32) < c1)) :
    MetFree l (⟨"java/lang/StringUTF16", "compress", "([CI[BII)I"⟩ : MethodName) (head1 (Jvm.Cond.code (⟨"java/lang/StringUTF16", "compress", "([CI[BII)I"⟩ : MethodName) jdk_52_method_21_code 7 (some .int) :: ws) ({ frames := 0, cells := 0, slots := 0, locals := 0 } : Room)) (fun a U => a = #[(.ref x0), (.int (0 : Int32)), (.ref x2), (.int (0 : Int32)), (.int (2 : Int32))] ∧ Z.Warmed39 U.vm ∧ U.heap = h0) (fun _ _ _ _ _ => True) (fun _ U o U' => ∃ v L, o = .returned v ∧ (QC5 Z x2 k2 (own_b c0) (own_b c1) h0 n0 v U'.heap L) ∧ FrameEnd U o U' L ({ frames := 0, cells := 0, slots := 0, locals := 0 } : Room).cells ({ frames := 0, cells := 0, slots := 0, locals := 0 } : Room).slots) := by
  refine MetFree.of_bodySF (plainFor_of_name pn_5) hisR ?_
  intro p e s m args below meth c s₁ Bd hml0 hP hK
  obtain ⟨rfl, hZ, hh⟩ := hP
  have hx := Bd.exec
  have hby := Bd.bytes
  have hml : c.maxLocals = 7 := hml0
  have hown : s.vm.findClass "java/lang/StringUTF16" = some m.cls := findClass_of_methodNamed Bd.named
  have hnm := (name_of_methodNamed Bd.named Bd.method).1
  have X0 : Stand p l e ({ frames := 0, cells := 0, slots := 0, locals := 0 } : Room) s m #[(.ref x0), (.int (0 : Int32)), (.ref x2), (.int (0 : Int32)), (.int (2 : Int32))] below meth c s₁ [] 0 0 := Stand.of_body Bd
  have e0 : s₁.heap = h0 := by rw [← hh, Bd.state]; rfl
  have N0 := Fr.nil n0
  have pre0 : ∀ t, Steps p.tables e below (s₁.setTop (mkF m 0 #[.val (.ref x0), .val (.int (0 : Int32)), .val (.ref x2), .val (.int (0 : Int32)), .val (.int (2 : Int32)), .unset, .unset] [])) t → Steps p.tables e below (s₁.setTop (entryFrame m #[(.ref x0), (.int (0 : Int32)), (.ref x2), (.int (0 : Int32)), (.int (2 : Int32))] 7)) t := fun t k => castTop (ef_5 m x0 (0 : Int32) x2 (0 : Int32) (2 : Int32)) k
  have K0 : Keep h0 h0 [x2] := Keep.refl h0 [x2]
  obtain ⟨T1, h1, L1, X1, e1, N1, W1, V1, st1⟩ := own_stB X0 hx hZ e0 V_x2 (j := (0 : Int32)) ⟨by decide, by decide⟩ (i := 0) rfl (Nat.le_of_ble_eq_true rfl) N0 g_x2 (g := (mkF m 31 #[.val (.ref x0), .val (.int (0 : Int32)), .val (.ref x2), .val (.int (0 : Int32)), .val (.int (2 : Int32)), .val (.int (0 : Int32)), .val (.int c0)] [(.int (c0.toInt8.toInt32)), (.int (0 : Int32)), (.ref x2)])) rfl rfl (hb hby d5_31)
  have keep_2 : Keep h0 h1 [x2] := K0.wr W1 (Or.inl (List.mem_of_getElem? (i := 0) rfl))
  have V_x0_2 : Arv Z h1 x0 k0 .char (2 : Int32) [(.int c0), (.int c1)] (.int (0 : Int32)) := V_x0.other W1 ne02
  have siz_2 : n0 ≤ h1.size := Nat.le_trans Z0 (Keep.of_wr W1).1
  have V_x2_1 : Arv Z h1 x2 k2 .byte (2 : Int32) [(.int (nar .byte (c0.toInt8.toInt32))), (.int (0 : Int32))] (.int (0 : Int32)) := V1
  obtain ⟨T3, h3, L3, X3, e3, N3, W3, V3, st3⟩ := own_stB X1 hx hZ e1 V_x2_1 (j := (1 : Int32)) ⟨by decide, by decide⟩ (i := 1) rfl (Nat.le_of_ble_eq_true rfl) N1 g_x2 (g := (mkF m 31 #[.val (.ref x0), .val (.int (1 : Int32)), .val (.ref x2), .val (.int (1 : Int32)), .val (.int (2 : Int32)), .val (.int (1 : Int32)), .val (.int c1)] [(.int (c1.toInt8.toInt32)), (.int (1 : Int32)), (.ref x2)])) rfl rfl (hb hby d5_31)
  have keep_4 : Keep h0 h3 [x2] := keep_2.wr W3 (Or.inl (List.mem_of_getElem? (i := 0) rfl))
  have V_x0_4 : Arv Z h3 x0 k0 .char (2 : Int32) [(.int c0), (.int c1)] (.int (0 : Int32)) := V_x0_2.other W3 ne02
  have siz_4 : n0 ≤ h3.size := Nat.le_trans siz_2 (Keep.of_wr W3).1
  have V_x2_3 : Arv Z h3 x2 k2 .byte (2 : Int32) [(.int (nar .byte (c0.toInt8.toInt32))), (.int (nar .byte (c1.toInt8.toInt32)))] (.int (0 : Int32)) := V3
  obtain ⟨fs, hr, hrun, hended, hW, hsame⟩ := X3.leave (v := some (.int (2 : Int32))) (fun h => by rw [Bd.returns] at h; cases h)
  refine ⟨_, _, pre0 _ ?_, hrun, hended, _, _, rfl, ?_, ⟨_, rfl⟩, hW, hsame.mono (by decide) (by decide)⟩
  · show Steps p.tables e below (s₁.setTop (mkF m 0 #[.val (.ref x0), .val (.int (0 : Int32)), .val (.ref x2), .val (.int (0 : Int32)), .val (.int (2 : Int32)), .unset, .unset] [])) _
    refine XS.iconst X0.here hx rfl (hb hby d5_0) ?_
    show Steps p.tables e below (s₁.setTop (mkF m 1 #[.val (.ref x0), .val (.int (0 : Int32)), .val (.ref x2), .val (.int (0 : Int32)), .val (.int (2 : Int32)), .unset, .unset] [(.int (0 : Int32))])) _
    refine XS.istore X0.here hx rfl (hb hby d5_1) rfl (l' := #[.val (.ref x0), .val (.int (0 : Int32)), .val (.ref x2), .val (.int (0 : Int32)), .val (.int (2 : Int32)), .val (.int (0 : Int32)), .unset]) rfl ?_
    show Steps p.tables e below (s₁.setTop (mkF m 3 #[.val (.ref x0), .val (.int (0 : Int32)), .val (.ref x2), .val (.int (0 : Int32)), .val (.int (2 : Int32)), .val (.int (0 : Int32)), .unset] [])) _
    refine XS.iload X0.here hx rfl (hb hby d5_3) rfl ?_
    show Steps p.tables e below (s₁.setTop (mkF m 5 #[.val (.ref x0), .val (.int (0 : Int32)), .val (.ref x2), .val (.int (0 : Int32)), .val (.int (2 : Int32)), .val (.int (0 : Int32)), .unset] [(.int (0 : Int32))])) _
    refine XS.iload X0.here hx rfl (hb hby d5_5) rfl ?_
    show Steps p.tables e below (s₁.setTop (mkF m 7 #[.val (.ref x0), .val (.int (0 : Int32)), .val (.ref x2), .val (.int (0 : Int32)), .val (.int (2 : Int32)), .val (.int (0 : Int32)), .unset] [(.int (2 : Int32)), (.int (0 : Int32))])) _
    refine XS.icmpNo X0.here hx rfl (hb hby d5_7) rfl (tlt (by decide : (0 : Int32) < (2 : Int32))).2.1 ?_
    show Steps p.tables e below (s₁.setTop (mkF m 10 #[.val (.ref x0), .val (.int (0 : Int32)), .val (.ref x2), .val (.int (0 : Int32)), .val (.int (2 : Int32)), .val (.int (0 : Int32)), .unset] [])) _
    refine XS.aloadN X0.here hx rfl (hb hby d5_10) rfl rfl ?_
    show Steps p.tables e below (s₁.setTop (mkF m 11 #[.val (.ref x0), .val (.int (0 : Int32)), .val (.ref x2), .val (.int (0 : Int32)), .val (.int (2 : Int32)), .val (.int (0 : Int32)), .unset] [(.ref x0)])) _
    refine XS.iloadN X0.here hx rfl (hb hby d5_11) rfl ?_
    show Steps p.tables e below (s₁.setTop (mkF m 12 #[.val (.ref x0), .val (.int (0 : Int32)), .val (.ref x2), .val (.int (0 : Int32)), .val (.int (2 : Int32)), .val (.int (0 : Int32)), .unset] [(.int (0 : Int32)), (.ref x0)])) _
    refine own_ldC X0 hx hZ e0 V_x0 (j := (0 : Int32)) (w := c0) ⟨by decide, by decide⟩ rfl (g := (mkF m 12 #[.val (.ref x0), .val (.int (0 : Int32)), .val (.ref x2), .val (.int (0 : Int32)), .val (.int (2 : Int32)), .val (.int (0 : Int32)), .unset] [(.int (0 : Int32)), (.ref x0)])) rfl rfl (hb hby d5_12) ?_
    show Steps p.tables e below (s₁.setTop (mkF m 13 #[.val (.ref x0), .val (.int (0 : Int32)), .val (.ref x2), .val (.int (0 : Int32)), .val (.int (2 : Int32)), .val (.int (0 : Int32)), .unset] [(.int c0)])) _
    refine XS.istore X0.here hx rfl (hb hby d5_13) rfl (l' := #[.val (.ref x0), .val (.int (0 : Int32)), .val (.ref x2), .val (.int (0 : Int32)), .val (.int (2 : Int32)), .val (.int (0 : Int32)), .val (.int c0)]) rfl ?_
    show Steps p.tables e below (s₁.setTop (mkF m 15 #[.val (.ref x0), .val (.int (0 : Int32)), .val (.ref x2), .val (.int (0 : Int32)), .val (.int (2 : Int32)), .val (.int (0 : Int32)), .val (.int c0)] [])) _
    refine XS.iload X0.here hx rfl (hb hby d5_15) rfl ?_
    show Steps p.tables e below (s₁.setTop (mkF m 17 #[.val (.ref x0), .val (.int (0 : Int32)), .val (.ref x2), .val (.int (0 : Int32)), .val (.int (2 : Int32)), .val (.int (0 : Int32)), .val (.int c0)] [(.int c0)])) _
    refine XS.sipush X0.here hx rfl (hb hby d5_17) ?_
    show Steps p.tables e below (s₁.setTop (mkF m 20 #[.val (.ref x0), .val (.int (0 : Int32)), .val (.ref x2), .val (.int (0 : Int32)), .val (.int (2 : Int32)), .val (.int (0 : Int32)), .val (.int c0)] [(.int (255 : Int32)), (.int c0)])) _
    refine XS.icmpYes X0.here hx rfl (pc0 := 20) (pc' := 26) rfl (hb hby d5_20) rfl (flt hc0).2.2.2 (by decide) (by decide) ?_
    show Steps p.tables e below (s₁.setTop (mkF m 26 #[.val (.ref x0), .val (.int (0 : Int32)), .val (.ref x2), .val (.int (0 : Int32)), .val (.int (2 : Int32)), .val (.int (0 : Int32)), .val (.int c0)] [])) _
    refine XS.aloadN X0.here hx rfl (hb hby d5_26) rfl rfl ?_
    show Steps p.tables e below (s₁.setTop (mkF m 27 #[.val (.ref x0), .val (.int (0 : Int32)), .val (.ref x2), .val (.int (0 : Int32)), .val (.int (2 : Int32)), .val (.int (0 : Int32)), .val (.int c0)] [(.ref x2)])) _
    refine XS.iloadN X0.here hx rfl (hb hby d5_27) rfl ?_
    show Steps p.tables e below (s₁.setTop (mkF m 28 #[.val (.ref x0), .val (.int (0 : Int32)), .val (.ref x2), .val (.int (0 : Int32)), .val (.int (2 : Int32)), .val (.int (0 : Int32)), .val (.int c0)] [(.int (0 : Int32)), (.ref x2)])) _
    refine XS.iload X0.here hx rfl (hb hby d5_28) rfl ?_
    show Steps p.tables e below (s₁.setTop (mkF m 30 #[.val (.ref x0), .val (.int (0 : Int32)), .val (.ref x2), .val (.int (0 : Int32)), .val (.int (2 : Int32)), .val (.int (0 : Int32)), .val (.int c0)] [(.int c0), (.int (0 : Int32)), (.ref x2)])) _
    refine XS.i2b X0.here hx rfl (hb hby d5_30) rfl ?_
    show Steps p.tables e below (s₁.setTop (mkF m 31 #[.val (.ref x0), .val (.int (0 : Int32)), .val (.ref x2), .val (.int (0 : Int32)), .val (.int (2 : Int32)), .val (.int (0 : Int32)), .val (.int c0)] [(.int (c0.toInt8.toInt32)), (.int (0 : Int32)), (.ref x2)])) _
    refine st1 _ ?_
    show Steps p.tables e below (T1.setTop (mkF m 32 #[.val (.ref x0), .val (.int (0 : Int32)), .val (.ref x2), .val (.int (0 : Int32)), .val (.int (2 : Int32)), .val (.int (0 : Int32)), .val (.int c0)] [])) _
    refine XS.iinc X1.here hx rfl (hb hby d5_32) rfl (l' := #[.val (.ref x0), .val (.int ((0 : Int32) + (1 : Int32))), .val (.ref x2), .val (.int (0 : Int32)), .val (.int (2 : Int32)), .val (.int (0 : Int32)), .val (.int c0)]) rfl ?_
    show Steps p.tables e below (T1.setTop (mkF m 35 #[.val (.ref x0), .val (.int ((0 : Int32) + (1 : Int32))), .val (.ref x2), .val (.int (0 : Int32)), .val (.int (2 : Int32)), .val (.int (0 : Int32)), .val (.int c0)] [])) _
    rw [show ((0 : Int32) + (1 : Int32)) = (1 : Int32) from by decide]
    show Steps p.tables e below (T1.setTop (mkF m 35 #[.val (.ref x0), .val (.int (1 : Int32)), .val (.ref x2), .val (.int (0 : Int32)), .val (.int (2 : Int32)), .val (.int (0 : Int32)), .val (.int c0)] [])) _
    refine XS.iinc X1.here hx rfl (hb hby d5_35) rfl (l' := #[.val (.ref x0), .val (.int (1 : Int32)), .val (.ref x2), .val (.int ((0 : Int32) + (1 : Int32))), .val (.int (2 : Int32)), .val (.int (0 : Int32)), .val (.int c0)]) rfl ?_
    show Steps p.tables e below (T1.setTop (mkF m 38 #[.val (.ref x0), .val (.int (1 : Int32)), .val (.ref x2), .val (.int ((0 : Int32) + (1 : Int32))), .val (.int (2 : Int32)), .val (.int (0 : Int32)), .val (.int c0)] [])) _
    rw [show ((0 : Int32) + (1 : Int32)) = (1 : Int32) from by decide]
    show Steps p.tables e below (T1.setTop (mkF m 38 #[.val (.ref x0), .val (.int (1 : Int32)), .val (.ref x2), .val (.int (1 : Int32)), .val (.int (2 : Int32)), .val (.int (0 : Int32)), .val (.int c0)] [])) _
    refine XS.iinc X1.here hx rfl (hb hby d5_38) rfl (l' := #[.val (.ref x0), .val (.int (1 : Int32)), .val (.ref x2), .val (.int (1 : Int32)), .val (.int (2 : Int32)), .val (.int ((0 : Int32) + (1 : Int32))), .val (.int c0)]) rfl ?_
    show Steps p.tables e below (T1.setTop (mkF m 41 #[.val (.ref x0), .val (.int (1 : Int32)), .val (.ref x2), .val (.int (1 : Int32)), .val (.int (2 : Int32)), .val (.int ((0 : Int32) + (1 : Int32))), .val (.int c0)] [])) _
    rw [show ((0 : Int32) + (1 : Int32)) = (1 : Int32) from by decide]
    show Steps p.tables e below (T1.setTop (mkF m 41 #[.val (.ref x0), .val (.int (1 : Int32)), .val (.ref x2), .val (.int (1 : Int32)), .val (.int (2 : Int32)), .val (.int (1 : Int32)), .val (.int c0)] [])) _
    refine XS.goto X1.here hx rfl (pc0 := 41) (pc' := 3) rfl (hb hby d5_41) (by decide) (by decide) ?_
    show Steps p.tables e below (T1.setTop (mkF m 3 #[.val (.ref x0), .val (.int (1 : Int32)), .val (.ref x2), .val (.int (1 : Int32)), .val (.int (2 : Int32)), .val (.int (1 : Int32)), .val (.int c0)] [])) _
    refine XS.iload X1.here hx rfl (hb hby d5_3) rfl ?_
    show Steps p.tables e below (T1.setTop (mkF m 5 #[.val (.ref x0), .val (.int (1 : Int32)), .val (.ref x2), .val (.int (1 : Int32)), .val (.int (2 : Int32)), .val (.int (1 : Int32)), .val (.int c0)] [(.int (1 : Int32))])) _
    refine XS.iload X1.here hx rfl (hb hby d5_5) rfl ?_
    show Steps p.tables e below (T1.setTop (mkF m 7 #[.val (.ref x0), .val (.int (1 : Int32)), .val (.ref x2), .val (.int (1 : Int32)), .val (.int (2 : Int32)), .val (.int (1 : Int32)), .val (.int c0)] [(.int (2 : Int32)), (.int (1 : Int32))])) _
    refine XS.icmpNo X1.here hx rfl (hb hby d5_7) rfl (tlt (by decide : (1 : Int32) < (2 : Int32))).2.1 ?_
    show Steps p.tables e below (T1.setTop (mkF m 10 #[.val (.ref x0), .val (.int (1 : Int32)), .val (.ref x2), .val (.int (1 : Int32)), .val (.int (2 : Int32)), .val (.int (1 : Int32)), .val (.int c0)] [])) _
    refine XS.aloadN X1.here hx rfl (hb hby d5_10) rfl rfl ?_
    show Steps p.tables e below (T1.setTop (mkF m 11 #[.val (.ref x0), .val (.int (1 : Int32)), .val (.ref x2), .val (.int (1 : Int32)), .val (.int (2 : Int32)), .val (.int (1 : Int32)), .val (.int c0)] [(.ref x0)])) _
    refine XS.iloadN X1.here hx rfl (hb hby d5_11) rfl ?_
    show Steps p.tables e below (T1.setTop (mkF m 12 #[.val (.ref x0), .val (.int (1 : Int32)), .val (.ref x2), .val (.int (1 : Int32)), .val (.int (2 : Int32)), .val (.int (1 : Int32)), .val (.int c0)] [(.int (1 : Int32)), (.ref x0)])) _
    refine own_ldC X1 hx hZ e1 V_x0_2 (j := (1 : Int32)) (w := c1) ⟨by decide, by decide⟩ rfl (g := (mkF m 12 #[.val (.ref x0), .val (.int (1 : Int32)), .val (.ref x2), .val (.int (1 : Int32)), .val (.int (2 : Int32)), .val (.int (1 : Int32)), .val (.int c0)] [(.int (1 : Int32)), (.ref x0)])) rfl rfl (hb hby d5_12) ?_
    show Steps p.tables e below (T1.setTop (mkF m 13 #[.val (.ref x0), .val (.int (1 : Int32)), .val (.ref x2), .val (.int (1 : Int32)), .val (.int (2 : Int32)), .val (.int (1 : Int32)), .val (.int c0)] [(.int c1)])) _
    refine XS.istore X1.here hx rfl (hb hby d5_13) rfl (l' := #[.val (.ref x0), .val (.int (1 : Int32)), .val (.ref x2), .val (.int (1 : Int32)), .val (.int (2 : Int32)), .val (.int (1 : Int32)), .val (.int c1)]) rfl ?_
    show Steps p.tables e below (T1.setTop (mkF m 15 #[.val (.ref x0), .val (.int (1 : Int32)), .val (.ref x2), .val (.int (1 : Int32)), .val (.int (2 : Int32)), .val (.int (1 : Int32)), .val (.int c1)] [])) _
    refine XS.iload X1.here hx rfl (hb hby d5_15) rfl ?_
    show Steps p.tables e below (T1.setTop (mkF m 17 #[.val (.ref x0), .val (.int (1 : Int32)), .val (.ref x2), .val (.int (1 : Int32)), .val (.int (2 : Int32)), .val (.int (1 : Int32)), .val (.int c1)] [(.int c1)])) _
    refine XS.sipush X1.here hx rfl (hb hby d5_17) ?_
    show Steps p.tables e below (T1.setTop (mkF m 20 #[.val (.ref x0), .val (.int (1 : Int32)), .val (.ref x2), .val (.int (1 : Int32)), .val (.int (2 : Int32)), .val (.int (1 : Int32)), .val (.int c1)] [(.int (255 : Int32)), (.int c1)])) _
    refine XS.icmpYes X1.here hx rfl (pc0 := 20) (pc' := 26) rfl (hb hby d5_20) rfl (flt hc1).2.2.2 (by decide) (by decide) ?_
    show Steps p.tables e below (T1.setTop (mkF m 26 #[.val (.ref x0), .val (.int (1 : Int32)), .val (.ref x2), .val (.int (1 : Int32)), .val (.int (2 : Int32)), .val (.int (1 : Int32)), .val (.int c1)] [])) _
    refine XS.aloadN X1.here hx rfl (hb hby d5_26) rfl rfl ?_
    show Steps p.tables e below (T1.setTop (mkF m 27 #[.val (.ref x0), .val (.int (1 : Int32)), .val (.ref x2), .val (.int (1 : Int32)), .val (.int (2 : Int32)), .val (.int (1 : Int32)), .val (.int c1)] [(.ref x2)])) _
    refine XS.iloadN X1.here hx rfl (hb hby d5_27) rfl ?_
    show Steps p.tables e below (T1.setTop (mkF m 28 #[.val (.ref x0), .val (.int (1 : Int32)), .val (.ref x2), .val (.int (1 : Int32)), .val (.int (2 : Int32)), .val (.int (1 : Int32)), .val (.int c1)] [(.int (1 : Int32)), (.ref x2)])) _
    refine XS.iload X1.here hx rfl (hb hby d5_28) rfl ?_
    show Steps p.tables e below (T1.setTop (mkF m 30 #[.val (.ref x0), .val (.int (1 : Int32)), .val (.ref x2), .val (.int (1 : Int32)), .val (.int (2 : Int32)), .val (.int (1 : Int32)), .val (.int c1)] [(.int c1), (.int (1 : Int32)), (.ref x2)])) _
    refine XS.i2b X1.here hx rfl (hb hby d5_30) rfl ?_
    show Steps p.tables e below (T1.setTop (mkF m 31 #[.val (.ref x0), .val (.int (1 : Int32)), .val (.ref x2), .val (.int (1 : Int32)), .val (.int (2 : Int32)), .val (.int (1 : Int32)), .val (.int c1)] [(.int (c1.toInt8.toInt32)), (.int (1 : Int32)), (.ref x2)])) _
    refine st3 _ ?_
    show Steps p.tables e below (T3.setTop (mkF m 32 #[.val (.ref x0), .val (.int (1 : Int32)), .val (.ref x2), .val (.int (1 : Int32)), .val (.int (2 : Int32)), .val (.int (1 : Int32)), .val (.int c1)] [])) _
    refine XS.iinc X3.here hx rfl (hb hby d5_32) rfl (l' := #[.val (.ref x0), .val (.int ((1 : Int32) + (1 : Int32))), .val (.ref x2), .val (.int (1 : Int32)), .val (.int (2 : Int32)), .val (.int (1 : Int32)), .val (.int c1)]) rfl ?_
    show Steps p.tables e below (T3.setTop (mkF m 35 #[.val (.ref x0), .val (.int ((1 : Int32) + (1 : Int32))), .val (.ref x2), .val (.int (1 : Int32)), .val (.int (2 : Int32)), .val (.int (1 : Int32)), .val (.int c1)] [])) _
    rw [show ((1 : Int32) + (1 : Int32)) = (2 : Int32) from by decide]
    show Steps p.tables e below (T3.setTop (mkF m 35 #[.val (.ref x0), .val (.int (2 : Int32)), .val (.ref x2), .val (.int (1 : Int32)), .val (.int (2 : Int32)), .val (.int (1 : Int32)), .val (.int c1)] [])) _
    refine XS.iinc X3.here hx rfl (hb hby d5_35) rfl (l' := #[.val (.ref x0), .val (.int (2 : Int32)), .val (.ref x2), .val (.int ((1 : Int32) + (1 : Int32))), .val (.int (2 : Int32)), .val (.int (1 : Int32)), .val (.int c1)]) rfl ?_
    show Steps p.tables e below (T3.setTop (mkF m 38 #[.val (.ref x0), .val (.int (2 : Int32)), .val (.ref x2), .val (.int ((1 : Int32) + (1 : Int32))), .val (.int (2 : Int32)), .val (.int (1 : Int32)), .val (.int c1)] [])) _
    rw [show ((1 : Int32) + (1 : Int32)) = (2 : Int32) from by decide]
    show Steps p.tables e below (T3.setTop (mkF m 38 #[.val (.ref x0), .val (.int (2 : Int32)), .val (.ref x2), .val (.int (2 : Int32)), .val (.int (2 : Int32)), .val (.int (1 : Int32)), .val (.int c1)] [])) _
    refine XS.iinc X3.here hx rfl (hb hby d5_38) rfl (l' := #[.val (.ref x0), .val (.int (2 : Int32)), .val (.ref x2), .val (.int (2 : Int32)), .val (.int (2 : Int32)), .val (.int ((1 : Int32) + (1 : Int32))), .val (.int c1)]) rfl ?_
    show Steps p.tables e below (T3.setTop (mkF m 41 #[.val (.ref x0), .val (.int (2 : Int32)), .val (.ref x2), .val (.int (2 : Int32)), .val (.int (2 : Int32)), .val (.int ((1 : Int32) + (1 : Int32))), .val (.int c1)] [])) _
    rw [show ((1 : Int32) + (1 : Int32)) = (2 : Int32) from by decide]
    show Steps p.tables e below (T3.setTop (mkF m 41 #[.val (.ref x0), .val (.int (2 : Int32)), .val (.ref x2), .val (.int (2 : Int32)), .val (.int (2 : Int32)), .val (.int (2 : Int32)), .val (.int c1)] [])) _
    refine XS.goto X3.here hx rfl (pc0 := 41) (pc' := 3) rfl (hb hby d5_41) (by decide) (by decide) ?_
    show Steps p.tables e below (T3.setTop (mkF m 3 #[.val (.ref x0), .val (.int (2 : Int32)), .val (.ref x2), .val (.int (2 : Int32)), .val (.int (2 : Int32)), .val (.int (2 : Int32)), .val (.int c1)] [])) _
    refine XS.iload X3.here hx rfl (hb hby d5_3) rfl ?_
    show Steps p.tables e below (T3.setTop (mkF m 5 #[.val (.ref x0), .val (.int (2 : Int32)), .val (.ref x2), .val (.int (2 : Int32)), .val (.int (2 : Int32)), .val (.int (2 : Int32)), .val (.int c1)] [(.int (2 : Int32))])) _
    refine XS.iload X3.here hx rfl (hb hby d5_5) rfl ?_
    show Steps p.tables e below (T3.setTop (mkF m 7 #[.val (.ref x0), .val (.int (2 : Int32)), .val (.ref x2), .val (.int (2 : Int32)), .val (.int (2 : Int32)), .val (.int (2 : Int32)), .val (.int c1)] [(.int (2 : Int32)), (.int (2 : Int32))])) _
    refine XS.icmpYes X3.here hx rfl (pc0 := 7) (pc' := 44) rfl (hb hby d5_7) rfl (flt (by decide : ¬ ((2 : Int32) < (2 : Int32)))).2.1 (by decide) (by decide) ?_
    show Steps p.tables e below (T3.setTop (mkF m 44 #[.val (.ref x0), .val (.int (2 : Int32)), .val (.ref x2), .val (.int (2 : Int32)), .val (.int (2 : Int32)), .val (.int (2 : Int32)), .val (.int c1)] [])) _
    refine XS.iload X3.here hx rfl (hb hby d5_44) rfl ?_
    show Steps p.tables e below (T3.setTop (mkF m 46 #[.val (.ref x0), .val (.int (2 : Int32)), .val (.ref x2), .val (.int (2 : Int32)), .val (.int (2 : Int32)), .val (.int (2 : Int32)), .val (.int c1)] [(.int (2 : Int32))])) _
    exact retI X3 hx Bd.returns (hb hby d5_46) hr
  · exact (by
      have eT : (T3.setFrames fs).heap = h3 := e3
      rw [eT]; exact ⟨rfl, N3, keep_4, V_x2_3⟩)
theorem pd___CI_BII_I : parseMethodDescriptor "([CI[BII)I" = some ⟨[(.array .char), .int, (.array .byte), .int, .int], some .int⟩ := by decide +kernel
set_option maxRecDepth 65536 in
set_option maxHeartbeats 40000000 in
theorem rm4 (l : Launch) (Z : State) (a0 : Array Value) (hw : ∀ d ∈ tables_1, d.before a0 Z = true) (ws : List Jvm.Cond) (x0 : Addr) (k0 : ClassId) (c0 c1 : Int32) (h0 : Heap) (n0 : Nat) (Z0 : n0 ≤ h0.size) (V_x0 : Arv Z h0 x0 k0 .char (2 : Int32) [(.int c0), (.int c1)] (.int (0 : Int32))) (hc0 : ¬ ((255 : Int32) < c0)) (hc1 : ¬ ((255 : Int32) < c1)) :
    MetFree l (⟨"java/lang/StringUTF16", "compress", "([CII)[B"⟩ : MethodName) (head1 (Jvm.Cond.code (⟨"java/lang/StringUTF16", "compress", "([CII)[B"⟩ : MethodName) jdk_52_method_16_code 6 (some (.array .byte)) :: ws) ({ frames := 1, cells := 1, slots := 2, locals := 18 } : Room)) (fun a U => a = #[(.ref x0), (.int (0 : Int32)), (.int (2 : Int32))] ∧ Z.Warmed39 U.vm ∧ U.heap = h0) (fun _ _ _ _ _ => True) (fun _ U o U' => ∃ v L, o = .returned v ∧ (QC3 Z (own_b c0) (own_b c1) h0 n0 v U'.heap L) ∧ FrameEnd U o U' L ({ frames := 1, cells := 1, slots := 2, locals := 18 } : Room).cells ({ frames := 1, cells := 1, slots := 2, locals := 18 } : Room).slots) := by
  refine MetFree.of_bodySF (plainFor_of_name pn_4) hisR ?_
  intro p e s m args below meth c s₁ Bd hml0 hP hK
  obtain ⟨rfl, hZ, hh⟩ := hP
  have hx := Bd.exec
  have hby := Bd.bytes
  have hml : c.maxLocals = 6 := hml0
  have hown : s.vm.findClass "java/lang/StringUTF16" = some m.cls := findClass_of_methodNamed Bd.named
  have hnm := (name_of_methodNamed Bd.named Bd.method).1
  have X0 : Stand p l e ({ frames := 1, cells := 1, slots := 2, locals := 18 } : Room) s m #[(.ref x0), (.int (0 : Int32)), (.int (2 : Int32))] below meth c s₁ [] 0 0 := Stand.of_body Bd
  have e0 : s₁.heap = h0 := by rw [← hh, Bd.state]; rfl
  have N0 := Fr.nil n0
  have pre0 : ∀ t, Steps p.tables e below (s₁.setTop (mkF m 0 #[.val (.ref x0), .val (.int (0 : Int32)), .val (.int (2 : Int32)), .unset, .unset, .unset] [])) t → Steps p.tables e below (s₁.setTop (entryFrame m #[(.ref x0), (.int (0 : Int32)), (.int (2 : Int32))] 6)) t := fun t k => castTop (ef_4 m x0 (0 : Int32) (2 : Int32)) k
  have K0 : Keep h0 h0 [] := Keep.refl h0 []
  obtain ⟨T1, h1, k1, X1, e1, E1, A1, B1, st1⟩ := newPE X0 hx hZ (hw _ (List.mem_of_getElem? (i := 20) rfl)) e0 (g := (mkF m 1 #[.val (.ref x0), .val (.int (0 : Int32)), .val (.int (2 : Int32)), .unset, .unset, .unset] [(.int (2 : Int32))])) rfl (hb hby d4_1) rfl (by decide) (cap := 2) (by decide) (by decide) (by decide) (by decide) (ad := "[B") (by decide)
  obtain ⟨r, g1⟩ : ∃ z, z = h0.size := ⟨_, rfl⟩
  rw [← g1] at A1 B1 st1
  have E_r_1 : Exa Z h1 r "[B" := B1
  have V_r_1 : Arv Z h1 r k1 .byte (2 : Int32) [(.int (0 : Int32)), (.int (0 : Int32))] (.int (0 : Int32)) := (Arv.new A1 (by decide)).pad (pad_rep [] (.int (0 : Int32)) 2)
  have lt_x0_r : x0 < r := Nat.lt_of_lt_of_le V_x0.lt (Nat.le_of_eq g1.symm)
  have g_r : n0 ≤ r := Nat.le_trans Z0 (Nat.le_of_eq g1.symm)
  have sz_r : h0.size ≤ r := Nat.le_trans K0.1 (Nat.le_of_eq g1.symm)
  have keep_2 : Keep h0 h1 [] := K0.ext E1
  have V_x0_2 : Arv Z h1 x0 k0 .char (2 : Int32) [(.int c0), (.int c1)] (.int (0 : Int32)) := V_x0.ext E1
  have siz_2 : n0 ≤ h1.size := Nat.le_trans Z0 E1.1
  obtain ⟨_, _, ⟨T3, L3, k3, n3⟩, -, X3, ⟨Lc3, hQ3, l3, y3, z3⟩, st3⟩ := Jvm.LawKit.callS X1 hx (y := (⟨"java/lang/StringUTF16", "compress", "([CI[BII)I"⟩ : MethodName)) hown (mvT hZ (hw _ (List.mem_of_getElem? (i := 21) rfl))) (mvT hZ (hw _ (List.mem_of_getElem? (i := 22) rfl))) (mvT hZ (hw _ (List.mem_of_getElem? (i := 18) rfl))) (mvT hZ (hw _ (List.mem_of_getElem? (i := 23) rfl))) (by decide) (backOf (W := 0) (rm5 l Z a0 hw [] x0 r k0 k1 c0 c1 h1 n0 siz_2 V_x0_2 V_r_1 g_r (Nat.ne_of_lt lt_x0_r) hc0 hc1) hZ (hw _ (List.mem_of_getElem? (i := 23) rfl)) (hw _ (List.mem_of_getElem? (i := 18) rfl)) (by decide) (by decide)) (g := (mkF m 9 #[.val (.ref x0), .val (.int (0 : Int32)), .val (.int (2 : Int32)), .val (.ref r), .unset, .unset] [(.int (2 : Int32)), (.int (0 : Int32)), (.ref r), (.int (0 : Int32)), (.ref x0)])) rfl (by rw [hml]; rfl) (argsL := [(.ref x0), (.int (0 : Int32)), (.ref r), (.int (0 : Int32)), (.int (2 : Int32))]) (rest := []) (lenOf pd___CI_BII_I rfl) rfl (by show 2 * 0 + _ ≤ _; exact Nat.le_of_eq rfl) (hb hby d4_9) (fun _ _ => ⟨rfl, e1, (by decide : 1 + 0 ≤ _), (by decide : 2 + 0 ≤ _)⟩)
  dsimp only [Pt.U, Pt.locs, Pt.cells, Pt.slots] at X3 l3 y3 z3 st3 hQ3
  subst l3 y3 z3
  obtain ⟨rfl, N3q, K3, Vq3⟩ := hQ3
  have keep_4 : Keep h0 T3.heap [] := keep_2.trans K3 (allS (Or.inr sz_r) (all0))
  have V_x0_4 : Arv Z T3.heap x0 k0 .char (2 : Int32) [(.int c0), (.int c1)] (.int (0 : Int32)) := V_x0_2.keep K3 (ninS (Nat.ne_of_lt lt_x0_r) nin0)
  have siz_4 : n0 ≤ T3.heap.size := Nat.le_trans siz_2 K3.1
  have E_r_4 : Exa Z T3.heap r "[B" := E_r_1.keep K3
  have N3 := Fr.app N0 N3q
  obtain ⟨fs, hr, hrun, hended, hW, hsame⟩ := X3.leave (v := some (.ref r)) (fun h => by rw [Bd.returns] at h; cases h)
  refine ⟨_, _, pre0 _ ?_, hrun, hended, _, _, rfl, ?_, ⟨_, rfl⟩, hW, hsame.mono (by decide) (by decide)⟩
  · show Steps p.tables e below (s₁.setTop (mkF m 0 #[.val (.ref x0), .val (.int (0 : Int32)), .val (.int (2 : Int32)), .unset, .unset, .unset] [])) _
    refine XS.iloadN X0.here hx rfl (hb hby d4_0) rfl ?_
    show Steps p.tables e below (s₁.setTop (mkF m 1 #[.val (.ref x0), .val (.int (0 : Int32)), .val (.int (2 : Int32)), .unset, .unset, .unset] [(.int (2 : Int32))])) _
    refine st1 _ ?_
    show Steps p.tables e below (T1.setTop (mkF m 3 #[.val (.ref x0), .val (.int (0 : Int32)), .val (.int (2 : Int32)), .unset, .unset, .unset] [(.ref r)])) _
    refine XS.astoreN X1.here hx rfl (hb hby d4_3) rfl rfl (l' := #[.val (.ref x0), .val (.int (0 : Int32)), .val (.int (2 : Int32)), .val (.ref r), .unset, .unset]) rfl ?_
    show Steps p.tables e below (T1.setTop (mkF m 4 #[.val (.ref x0), .val (.int (0 : Int32)), .val (.int (2 : Int32)), .val (.ref r), .unset, .unset] [])) _
    refine XS.aloadN X1.here hx rfl (hb hby d4_4) rfl rfl ?_
    show Steps p.tables e below (T1.setTop (mkF m 5 #[.val (.ref x0), .val (.int (0 : Int32)), .val (.int (2 : Int32)), .val (.ref r), .unset, .unset] [(.ref x0)])) _
    refine XS.iloadN X1.here hx rfl (hb hby d4_5) rfl ?_
    show Steps p.tables e below (T1.setTop (mkF m 6 #[.val (.ref x0), .val (.int (0 : Int32)), .val (.int (2 : Int32)), .val (.ref r), .unset, .unset] [(.int (0 : Int32)), (.ref x0)])) _
    refine XS.aloadN X1.here hx rfl (hb hby d4_6) rfl rfl ?_
    show Steps p.tables e below (T1.setTop (mkF m 7 #[.val (.ref x0), .val (.int (0 : Int32)), .val (.int (2 : Int32)), .val (.ref r), .unset, .unset] [(.ref r), (.int (0 : Int32)), (.ref x0)])) _
    refine XS.iconst X1.here hx rfl (hb hby d4_7) ?_
    show Steps p.tables e below (T1.setTop (mkF m 8 #[.val (.ref x0), .val (.int (0 : Int32)), .val (.int (2 : Int32)), .val (.ref r), .unset, .unset] [(.int (0 : Int32)), (.ref r), (.int (0 : Int32)), (.ref x0)])) _
    refine XS.iloadN X1.here hx rfl (hb hby d4_8) rfl ?_
    show Steps p.tables e below (T1.setTop (mkF m 9 #[.val (.ref x0), .val (.int (0 : Int32)), .val (.int (2 : Int32)), .val (.ref r), .unset, .unset] [(.int (2 : Int32)), (.int (0 : Int32)), (.ref r), (.int (0 : Int32)), (.ref x0)])) _
    refine st3 _ ?_
    show Steps p.tables e below (T3.setTop (mkF m 12 #[.val (.ref x0), .val (.int (0 : Int32)), .val (.int (2 : Int32)), .val (.ref r), .unset, .unset] [(.int (2 : Int32))])) _
    refine XS.istore X3.here hx rfl (hb hby d4_12) rfl (l' := #[.val (.ref x0), .val (.int (0 : Int32)), .val (.int (2 : Int32)), .val (.ref r), .val (.int (2 : Int32)), .unset]) rfl ?_
    show Steps p.tables e below (T3.setTop (mkF m 14 #[.val (.ref x0), .val (.int (0 : Int32)), .val (.int (2 : Int32)), .val (.ref r), .val (.int (2 : Int32)), .unset] [])) _
    refine XS.iload X3.here hx rfl (hb hby d4_14) rfl ?_
    show Steps p.tables e below (T3.setTop (mkF m 16 #[.val (.ref x0), .val (.int (0 : Int32)), .val (.int (2 : Int32)), .val (.ref r), .val (.int (2 : Int32)), .unset] [(.int (2 : Int32))])) _
    refine XS.iloadN X3.here hx rfl (hb hby d4_16) rfl ?_
    show Steps p.tables e below (T3.setTop (mkF m 17 #[.val (.ref x0), .val (.int (0 : Int32)), .val (.int (2 : Int32)), .val (.ref r), .val (.int (2 : Int32)), .unset] [(.int (2 : Int32)), (.int (2 : Int32))])) _
    refine XS.icmpYes X3.here hx rfl (pc0 := 17) (pc' := 57) rfl (hb hby d4_17) rfl (teq (by decide : (2 : Int32) = (2 : Int32))).1 (by decide) (by decide) ?_
    show Steps p.tables e below (T3.setTop (mkF m 57 #[.val (.ref x0), .val (.int (0 : Int32)), .val (.int (2 : Int32)), .val (.ref r), .val (.int (2 : Int32)), .unset] [])) _
    refine XS.aloadN X3.here hx rfl (hb hby d4_57) rfl rfl ?_
    show Steps p.tables e below (T3.setTop (mkF m 58 #[.val (.ref x0), .val (.int (0 : Int32)), .val (.int (2 : Int32)), .val (.ref r), .val (.int (2 : Int32)), .unset] [(.ref r)])) _
    exact retOut X3 hx (t := (.array .byte)) (i := .areturn) Bd.returns rfl (Or.inr (Or.inr (Or.inr (Or.inr ⟨rfl, rfl, rfl⟩)))) (hb hby d4_58) hr
  · exact (by
      have eT : (T3.setFrames fs).heap = T3.heap := rfl
      rw [eT]; exact ⟨r, _, rfl, N3, keep_4, sz_r, Vq3, E_r_4⟩)
set_option maxRecDepth 65536 in
set_option maxHeartbeats 40000000 in
theorem rm6 (l : Launch) (Z : State) (a0 : Array Value) (hw : ∀ d ∈ tables_1, d.before a0 Z = true) (ws : List Jvm.Cond) (x0 : Addr) (k0 : ClassId) (u0 u1 : Int32) (h0 : Heap) (n0 : Nat) (Z0 : n0 ≤ h0.size) (V_x0 : Arv Z h0 x0 k0 .byte (2 : Int32) [(.int u0), (.int u1)] (.int (0 : Int32))) :
    MetFree l (⟨"java/lang/StringUTF16", "coderFromArrayLen", "([BI)B"⟩ : MethodName) (head1 (Jvm.Cond.code (⟨"java/lang/StringUTF16", "coderFromArrayLen", "([BI)B"⟩ : MethodName) jdk_52_method_15_code 2 (some .byte) :: ws) ({ frames := 0, cells := 0, slots := 0, locals := 0 } : Room)) (fun a U => a = #[(.ref x0), (.int (2 : Int32))] ∧ Z.Warmed39 U.vm ∧ U.heap = h0) (fun _ _ _ _ _ => True) (fun _ U o U' => ∃ v L, o = .returned v ∧ (QP (some (.int (0 : Int32))) h0 n0 v U'.heap L) ∧ FrameEnd U o U' L ({ frames := 0, cells := 0, slots := 0, locals := 0 } : Room).cells ({ frames := 0, cells := 0, slots := 0, locals := 0 } : Room).slots) := by
  refine MetFree.of_bodySF (plainFor_of_name pn_6) hisR ?_
  intro p e s m args below meth c s₁ Bd hml0 hP hK
  obtain ⟨rfl, hZ, hh⟩ := hP
  have hx := Bd.exec
  have hby := Bd.bytes
  have hml : c.maxLocals = 2 := hml0
  have hown : s.vm.findClass "java/lang/StringUTF16" = some m.cls := findClass_of_methodNamed Bd.named
  have hnm := (name_of_methodNamed Bd.named Bd.method).1
  have X0 : Stand p l e ({ frames := 0, cells := 0, slots := 0, locals := 0 } : Room) s m #[(.ref x0), (.int (2 : Int32))] below meth c s₁ [] 0 0 := Stand.of_body Bd
  have e0 : s₁.heap = h0 := by rw [← hh, Bd.state]; rfl
  have N0 := Fr.nil n0
  have pre0 : ∀ t, Steps p.tables e below (s₁.setTop (mkF m 0 #[.val (.ref x0), .val (.int (2 : Int32))] [])) t → Steps p.tables e below (s₁.setTop (entryFrame m #[(.ref x0), (.int (2 : Int32))] 2)) t := fun t k => castTop (ef_6 m x0 (2 : Int32)) k
  obtain ⟨fs, hr, hrun, hended, hW, hsame⟩ := X0.leave (v := some (.int (0 : Int32))) (fun h => by rw [Bd.returns] at h; cases h)
  refine ⟨_, _, pre0 _ ?_, hrun, hended, _, _, rfl, ?_, ⟨_, rfl⟩, hW, hsame.mono (by decide) (by decide)⟩
  · show Steps p.tables e below (s₁.setTop (mkF m 0 #[.val (.ref x0), .val (.int (2 : Int32))] [])) _
    refine XS.iloadN X0.here hx rfl (hb hby d6_0) rfl ?_
    show Steps p.tables e below (s₁.setTop (mkF m 1 #[.val (.ref x0), .val (.int (2 : Int32))] [(.int (2 : Int32))])) _
    refine XS.aloadN X0.here hx rfl (hb hby d6_1) rfl rfl ?_
    show Steps p.tables e below (s₁.setTop (mkF m 2 #[.val (.ref x0), .val (.int (2 : Int32))] [(.ref x0), (.int (2 : Int32))])) _
    refine own_len X0 hx hZ e0 V_x0 (g := (mkF m 2 #[.val (.ref x0), .val (.int (2 : Int32))] [(.ref x0), (.int (2 : Int32))])) rfl rfl (hb hby d6_2) ?_
    show Steps p.tables e below (s₁.setTop (mkF m 3 #[.val (.ref x0), .val (.int (2 : Int32))] [(.int (2 : Int32)), (.int (2 : Int32))])) _
    refine XS.isub X0.here hx rfl (hb hby d6_3) rfl ?_
    show Steps p.tables e below (s₁.setTop (mkF m 4 #[.val (.ref x0), .val (.int (2 : Int32))] [(.int ((2 : Int32) - (2 : Int32)))])) _
    rw [show ((2 : Int32) - (2 : Int32)) = (0 : Int32) from by decide]
    show Steps p.tables e below (s₁.setTop (mkF m 4 #[.val (.ref x0), .val (.int (2 : Int32))] [(.int (0 : Int32))])) _
    refine XS.bipush X0.here hx rfl (hb hby d6_4) ?_
    show Steps p.tables e below (s₁.setTop (mkF m 6 #[.val (.ref x0), .val (.int (2 : Int32))] [(.int (31 : Int32)), (.int (0 : Int32))])) _
    refine XS.iushr X0.here hx rfl (hb hby d6_6) rfl ?_
    show Steps p.tables e below (s₁.setTop (mkF m 7 #[.val (.ref x0), .val (.int (2 : Int32))] [(.int (((0 : Int32).toUInt32 >>> ((31 : Int32) &&& 31).toUInt32).toInt32))])) _
    rw [show (((0 : Int32).toUInt32 >>> ((31 : Int32) &&& 31).toUInt32).toInt32) = (0 : Int32) from by decide]
    show Steps p.tables e below (s₁.setTop (mkF m 7 #[.val (.ref x0), .val (.int (2 : Int32))] [(.int (0 : Int32))])) _
    refine XS.i2b X0.here hx rfl (hb hby d6_7) rfl ?_
    show Steps p.tables e below (s₁.setTop (mkF m 8 #[.val (.ref x0), .val (.int (2 : Int32))] [(.int ((0 : Int32).toInt8.toInt32))])) _
    show Steps p.tables e below (s₁.setTop (mkF m 8 #[.val (.ref x0), .val (.int (2 : Int32))] [(.int (0 : Int32))])) _
    exact retN X0 hx (t := .byte) Bd.returns (by simp) (hb hby d6_8) hr
  · exact ⟨rfl, N0, e0⟩
theorem pd___V : parseMethodDescriptor "()V" = some ⟨[], none⟩ := by decide +kernel
theorem pd___CII__B : parseMethodDescriptor "([CII)[B" = some ⟨[(.array .char), .int, .int], some (.array .byte)⟩ := by decide +kernel
theorem pd___BI_B : parseMethodDescriptor "([BI)B" = some ⟨[(.array .byte), .int], some .byte⟩ := by decide +kernel
set_option maxRecDepth 65536 in
set_option maxHeartbeats 40000000 in
theorem rm2 (l : Launch) (Z : State) (a0 : Array Value) (hw : ∀ d ∈ tables_1, d.before a0 Z = true) (ws : List Jvm.Cond) (x0 : Addr) (x1 : Addr) (k1 : ClassId) (c0 c1 cs : Int32) (h0 : Heap) (n0 : Nat) (Z0 : n0 ≤ h0.size) (E_x0 : Exa Z h0 x0 "java/lang/String") (F_value_x0 : Fld Z h0 x0 "java/lang/String" "value" "[B" .null) (F_coder_x0 : Fld Z h0 x0 "java/lang/String" "coder" "B" (.int (0 : Int32))) (V_x1 : Arv Z h0 x1 k1 .char (2 : Int32) [(.int c0), (.int c1)] (.int (0 : Int32))) (g_x0 : n0 ≤ x0) (ne01 : x0 ≠ x1) (hc0 : ¬ ((255 : Int32) < c0)) (hc1 : ¬ ((255 : Int32) < c1)) (O0 : Old Z n0 h0) (S_CS : Sta Z Z.heap "java/lang/String" "COMPACT_STRINGS" "Z" (.int cs)) (hcs : ¬ (cs = (0 : Int32))) :
    MetFree l (⟨"java/lang/String", "<init>", "([CIILjava/lang/Void;)V"⟩ : MethodName) (head1 (Jvm.Cond.code (⟨"java/lang/String", "<init>", "([CIILjava/lang/Void;)V"⟩ : MethodName) jdk_42_method_149_code 6 none :: ws) ({ frames := 2, cells := 1, slots := 2, locals := 35 } : Room)) (fun a U => a = #[(.ref x0), (.ref x1), (.int (0 : Int32)), (.int (2 : Int32)), .null] ∧ Z.Warmed39 U.vm ∧ U.heap = h0) (fun _ _ _ _ _ => True) (fun _ U o U' => ∃ v L, o = .returned v ∧ (QSI Z x0 (own_b c0) (own_b c1) h0 n0 v U'.heap L) ∧ FrameEnd U o U' L ({ frames := 2, cells := 1, slots := 2, locals := 35 } : Room).cells ({ frames := 2, cells := 1, slots := 2, locals := 35 } : Room).slots) := by
  refine MetFree.of_bodySF (plainFor_of_name pn_2) hisR ?_
  intro p e s m args below meth c s₁ Bd hml0 hP hK
  obtain ⟨rfl, hZ, hh⟩ := hP
  have hx := Bd.exec
  have hby := Bd.bytes
  have hml : c.maxLocals = 6 := hml0
  have hown : s.vm.findClass "java/lang/String" = some m.cls := findClass_of_methodNamed Bd.named
  have hnm := (name_of_methodNamed Bd.named Bd.method).1
  have X0 : Stand p l e ({ frames := 2, cells := 1, slots := 2, locals := 35 } : Room) s m #[(.ref x0), (.ref x1), (.int (0 : Int32)), (.int (2 : Int32)), .null] below meth c s₁ [] 0 0 := Stand.of_body Bd
  have e0 : s₁.heap = h0 := by rw [← hh, Bd.state]; rfl
  have N0 := Fr.nil n0
  have pre0 : ∀ t, Steps p.tables e below (s₁.setTop (mkF m 0 #[.val (.ref x0), .val (.ref x1), .val (.int (0 : Int32)), .val (.int (2 : Int32)), .val .null, .unset] [])) t → Steps p.tables e below (s₁.setTop (entryFrame m #[(.ref x0), (.ref x1), (.int (0 : Int32)), (.int (2 : Int32)), .null] 6)) t := fun t k => castTop (ef_2_null m x0 x1 (0 : Int32) (2 : Int32)) k
  have K0 : Keep h0 h0 [x0] := Keep.refl h0 [x0]
  obtain ⟨T1, X1, e1, st1⟩ := initO X0 hx hZ hown (hw _ (List.mem_of_getElem? (i := 12) rfl)) (hw _ (List.mem_of_getElem? (i := 13) rfl)) (hw _ (List.mem_of_getElem? (i := 14) rfl)) e0 (g := (mkF m 1 #[.val (.ref x0), .val (.ref x1), .val (.int (0 : Int32)), .val (.int (2 : Int32)), .val .null, .unset] [(.ref x0)])) rfl (by rw [hml]; rfl) rfl (hb hby d2_1) (by decide) (W := 0) (by show 2 * 0 + _ ≤ _; exact Nat.le_of_eq rfl) (by decide)
  obtain ⟨T2, X2, e2, st2⟩ := getS2 X1 hx hZ hown (host := "") (Or.inl (hw _ (List.mem_of_getElem? (i := 15) rfl))) Via.refl e1 (own_Sta_old S_CS O0) (g := (mkF m 27 #[.val (.ref x0), .val (.ref x1), .val (.int (0 : Int32)), .val (.int (2 : Int32)), .val .null, .unset] [])) rfl (hb hby d2_27)
  obtain ⟨_, _, ⟨T3, L3, k3, n3⟩, -, X3, ⟨Lc3, hQ3, l3, y3, z3⟩, st3⟩ := Jvm.LawKit.callS X2 hx (y := (⟨"java/lang/StringUTF16", "compress", "([CII)[B"⟩ : MethodName)) hown (mvT hZ (hw _ (List.mem_of_getElem? (i := 16) rfl))) (mvT hZ (hw _ (List.mem_of_getElem? (i := 17) rfl))) (mvT hZ (hw _ (List.mem_of_getElem? (i := 18) rfl))) (mvT hZ (hw _ (List.mem_of_getElem? (i := 19) rfl))) (by decide) (backOf (W := 0) (rm4 l Z a0 hw [] x1 k1 c0 c1 h0 n0 Z0 V_x1 hc0 hc1) hZ (hw _ (List.mem_of_getElem? (i := 19) rfl)) (hw _ (List.mem_of_getElem? (i := 18) rfl)) (by decide) (by decide)) (g := (mkF m 36 #[.val (.ref x0), .val (.ref x1), .val (.int (0 : Int32)), .val (.int (2 : Int32)), .val .null, .unset] [(.int (2 : Int32)), (.int (0 : Int32)), (.ref x1)])) rfl (by rw [hml]; rfl) (argsL := [(.ref x1), (.int (0 : Int32)), (.int (2 : Int32))]) (rest := []) (lenOf pd___CII__B rfl) rfl (by show 2 * 0 + _ ≤ _; exact Nat.le_of_eq rfl) (hb hby d2_36) (fun _ _ => ⟨rfl, e2, (by decide : 0 + 1 ≤ _), (by decide : 0 + 2 ≤ _)⟩)
  dsimp only [Pt.U, Pt.locs, Pt.cells, Pt.slots] at X3 l3 y3 z3 st3 hQ3
  subst l3 y3 z3
  obtain ⟨va, kv, rfl, N3q, K3, sv3, Vq3, Eq3⟩ := hQ3
  have lt_x0_va : x0 < va := Nat.lt_of_lt_of_le E_x0.lt sv3
  have lt_x1_va : x1 < va := Nat.lt_of_lt_of_le V_x1.lt sv3
  have sz_va : h0.size ≤ va := Nat.le_trans K0.1 sv3
  have keep_4 : Keep h0 T3.heap [x0] := K0.trans K3 (all0)
  have V_x1_4 : Arv Z T3.heap x1 k1 .char (2 : Int32) [(.int c0), (.int c1)] (.int (0 : Int32)) := V_x1.keep K3 nin0
  have E_x0_4 : Exa Z T3.heap x0 "java/lang/String" := E_x0.keep K3
  have F_value_x0_4 : Fld Z T3.heap x0 "java/lang/String" "value" "[B" .null := F_value_x0.keep K3 nin0
  have F_coder_x0_4 : Fld Z T3.heap x0 "java/lang/String" "coder" "B" (.int (0 : Int32)) := F_coder_x0.keep K3 nin0
  have old_4 : Old Z n0 T3.heap := O0.keep K3 (all0)
  have siz_4 : n0 ≤ T3.heap.size := Nat.le_trans Z0 K3.1
  have N3 := Fr.app N0 N3q
  obtain ⟨_, _, ⟨T5, L5, k5, n5⟩, -, X5, ⟨Lc5, hQ5, l5, y5, z5⟩, st5⟩ := Jvm.LawKit.callS X3 hx (y := (⟨"java/lang/StringUTF16", "coderFromArrayLen", "([BI)B"⟩ : MethodName)) hown (mvT hZ (hw _ (List.mem_of_getElem? (i := 24) rfl))) (mvT hZ (hw _ (List.mem_of_getElem? (i := 25) rfl))) (mvT hZ (hw _ (List.mem_of_getElem? (i := 18) rfl))) (mvT hZ (hw _ (List.mem_of_getElem? (i := 26) rfl))) (by decide) (backOf (W := 1) (rm6 l Z a0 hw [] va kv (own_b c0) (own_b c1) T3.heap n0 siz_4 Vq3) hZ (hw _ (List.mem_of_getElem? (i := 26) rfl)) (hw _ (List.mem_of_getElem? (i := 18) rfl)) (by decide) (by decide)) (g := (mkF m 45 #[.val (.ref x0), .val (.ref x1), .val (.int (0 : Int32)), .val (.int (2 : Int32)), .val .null, .val (.ref va)] [(.int (2 : Int32)), (.ref va), (.ref x0)])) rfl (by rw [hml]; rfl) (argsL := [(.ref va), (.int (2 : Int32))]) (rest := [(.ref x0)]) (lenOf pd___BI_B rfl) rfl (by show 2 * 0 + _ ≤ _; exact Nat.le_of_eq rfl) (hb hby d2_45) (fun _ _ => ⟨rfl, rfl, (by decide : 1 + 0 ≤ _), (by decide : 2 + 0 ≤ _)⟩)
  dsimp only [Pt.U, Pt.locs, Pt.cells, Pt.slots] at X5 l5 y5 z5 st5 hQ5
  subst l5 y5 z5
  obtain ⟨rfl, N5q, e5⟩ := hQ5
  have N5 := Fr.app N3 N5q
  obtain ⟨T6, h6, X6, e6, W6, st6⟩ := putFN X5 hx hZ hown (hw _ (List.mem_of_getElem? (i := 27) rfl)) Via.refl e5 F_coder_x0_4 E_x0_4 (Or.inr ⟨(hw _ (List.mem_of_getElem? (i := 28) rfl)), rfl, hnm⟩) (hw _ (List.mem_of_getElem? (i := 3) rfl)) (ty := .byte) (v' := (.int ((0 : Int32).toInt8.toInt32))) (by decide) rfl (fits_nar_byte _) (g := (mkF m 48 #[.val (.ref x0), .val (.ref x1), .val (.int (0 : Int32)), .val (.int (2 : Int32)), .val .null, .val (.ref va)] [(.int (0 : Int32)), (.ref x0)])) rfl rfl (hb hby d2_48)
  have N6 := Fr.snoc X6 N5 g_x0
  have keep_7 : Keep h0 h6 [x0] := keep_4.wr W6 (Or.inl (List.mem_of_getElem? (i := 0) rfl))
  have V_x1_7 : Arv Z h6 x1 k1 .char (2 : Int32) [(.int c0), (.int c1)] (.int (0 : Int32)) := V_x1_4.other W6 (Ne.symm ne01)
  have E_x0_7 : Exa Z h6 x0 "java/lang/String" := E_x0_4.wr W6
  have old_7 : Old Z n0 h6 := old_4.wr W6 g_x0
  have siz_7 : n0 ≤ h6.size := Nat.le_trans siz_4 (Keep.of_wr W6).1
  have V_va_7 : Arv Z h6 va kv .byte (2 : Int32) [(.int (own_b c0)), (.int (own_b c1))] (.int (0 : Int32)) := Vq3.other W6 (Ne.symm (Nat.ne_of_lt lt_x0_va))
  have E_va_7 : Exa Z h6 va "[B" := Eq3.wr W6
  have F_value_x0_6 : Fld Z h6 x0 "java/lang/String" "value" "[B" .null := F_value_x0_4.other W6 (Or.inr (slot_ne (Or.inr (hw _ (List.mem_of_getElem? (i := 30) rfl))) (Or.inr (hw _ (List.mem_of_getElem? (i := 28) rfl))) (by decide) (t := (.array .byte)) (t' := .byte) (by decide) (by decide)))
  have F_coder_x0_6 : Fld Z h6 x0 "java/lang/String" "coder" "B" (.int ((0 : Int32).toInt8.toInt32)) := F_coder_x0_4.same W6
  obtain ⟨T8, h8, X8, e8, W8, st8⟩ := putF X6 hx hZ hown (host := "") (Or.inl (hw _ (List.mem_of_getElem? (i := 29) rfl))) Via.refl e6 F_value_x0_6 E_x0_7 (Or.inr ⟨(hw _ (List.mem_of_getElem? (i := 30) rfl)), rfl, hnm⟩) (hw _ (List.mem_of_getElem? (i := 3) rfl)) (ty := (.array .byte)) (by decide) rfl rfl (g := (mkF m 54 #[.val (.ref x0), .val (.ref x1), .val (.int (0 : Int32)), .val (.int (2 : Int32)), .val .null, .val (.ref va)] [(.ref va), (.ref x0)])) rfl rfl (hb hby d2_54)
  have N8 := Fr.snoc X8 N6 g_x0
  have keep_9 : Keep h0 h8 [x0] := keep_7.wr W8 (Or.inl (List.mem_of_getElem? (i := 0) rfl))
  have V_x1_9 : Arv Z h8 x1 k1 .char (2 : Int32) [(.int c0), (.int c1)] (.int (0 : Int32)) := V_x1_7.other W8 (Ne.symm ne01)
  have E_x0_9 : Exa Z h8 x0 "java/lang/String" := E_x0_7.wr W8
  have old_9 : Old Z n0 h8 := old_7.wr W8 g_x0
  have siz_9 : n0 ≤ h8.size := Nat.le_trans siz_7 (Keep.of_wr W8).1
  have V_va_9 : Arv Z h8 va kv .byte (2 : Int32) [(.int (own_b c0)), (.int (own_b c1))] (.int (0 : Int32)) := V_va_7.other W8 (Ne.symm (Nat.ne_of_lt lt_x0_va))
  have E_va_9 : Exa Z h8 va "[B" := E_va_7.wr W8
  have F_value_x0_8 : Fld Z h8 x0 "java/lang/String" "value" "[B" (.ref va) := F_value_x0_6.same W8
  have F_coder_x0_8 : Fld Z h8 x0 "java/lang/String" "coder" "B" (.int ((0 : Int32).toInt8.toInt32)) := F_coder_x0_6.other W8 (Or.inr (slot_ne (Or.inr (hw _ (List.mem_of_getElem? (i := 28) rfl))) (Or.inr (hw _ (List.mem_of_getElem? (i := 30) rfl))) (by decide) (t := .byte) (t' := (.array .byte)) (by decide) (by decide)))
  obtain ⟨fs, hr, hrun, hended, hW, hsame⟩ := X8.leave (v := none) (fun _ => rfl)
  refine ⟨_, _, pre0 _ ?_, hrun, hended, _, _, rfl, ?_, ⟨_, rfl⟩, hW, hsame.mono (by decide) (by decide)⟩
  · show Steps p.tables e below (s₁.setTop (mkF m 0 #[.val (.ref x0), .val (.ref x1), .val (.int (0 : Int32)), .val (.int (2 : Int32)), .val .null, .unset] [])) _
    refine XS.aloadN X0.here hx rfl (hb hby d2_0) rfl rfl ?_
    show Steps p.tables e below (s₁.setTop (mkF m 1 #[.val (.ref x0), .val (.ref x1), .val (.int (0 : Int32)), .val (.int (2 : Int32)), .val .null, .unset] [(.ref x0)])) _
    refine st1 _ ?_
    show Steps p.tables e below (T1.setTop (mkF m 4 #[.val (.ref x0), .val (.ref x1), .val (.int (0 : Int32)), .val (.int (2 : Int32)), .val .null, .unset] [])) _
    refine XS.iloadN X1.here hx rfl (hb hby d2_4) rfl ?_
    show Steps p.tables e below (T1.setTop (mkF m 5 #[.val (.ref x0), .val (.ref x1), .val (.int (0 : Int32)), .val (.int (2 : Int32)), .val .null, .unset] [(.int (2 : Int32))])) _
    refine XS.ifYes X1.here hx rfl (pc0 := 5) (pc' := 27) rfl (hb hby d2_5) rfl ((if0 _ _).trans (feq (by decide : ¬ ((2 : Int32) = (0 : Int32)))).2) (by decide) (by decide) ?_
    show Steps p.tables e below (T1.setTop (mkF m 27 #[.val (.ref x0), .val (.ref x1), .val (.int (0 : Int32)), .val (.int (2 : Int32)), .val .null, .unset] [])) _
    refine st2 _ ?_
    show Steps p.tables e below (T2.setTop (mkF m 30 #[.val (.ref x0), .val (.ref x1), .val (.int (0 : Int32)), .val (.int (2 : Int32)), .val .null, .unset] [(.int cs)])) _
    refine XS.ifNo X2.here hx rfl (hb hby d2_30) rfl ((if0 _ _).trans (feq hcs).1) ?_
    show Steps p.tables e below (T2.setTop (mkF m 33 #[.val (.ref x0), .val (.ref x1), .val (.int (0 : Int32)), .val (.int (2 : Int32)), .val .null, .unset] [])) _
    refine XS.aloadN X2.here hx rfl (hb hby d2_33) rfl rfl ?_
    show Steps p.tables e below (T2.setTop (mkF m 34 #[.val (.ref x0), .val (.ref x1), .val (.int (0 : Int32)), .val (.int (2 : Int32)), .val .null, .unset] [(.ref x1)])) _
    refine XS.iloadN X2.here hx rfl (hb hby d2_34) rfl ?_
    show Steps p.tables e below (T2.setTop (mkF m 35 #[.val (.ref x0), .val (.ref x1), .val (.int (0 : Int32)), .val (.int (2 : Int32)), .val .null, .unset] [(.int (0 : Int32)), (.ref x1)])) _
    refine XS.iloadN X2.here hx rfl (hb hby d2_35) rfl ?_
    show Steps p.tables e below (T2.setTop (mkF m 36 #[.val (.ref x0), .val (.ref x1), .val (.int (0 : Int32)), .val (.int (2 : Int32)), .val .null, .unset] [(.int (2 : Int32)), (.int (0 : Int32)), (.ref x1)])) _
    refine st3 _ ?_
    show Steps p.tables e below (T3.setTop (mkF m 39 #[.val (.ref x0), .val (.ref x1), .val (.int (0 : Int32)), .val (.int (2 : Int32)), .val .null, .unset] [(.ref va)])) _
    refine XS.astore X3.here hx rfl (hb hby d2_39) rfl rfl (l' := #[.val (.ref x0), .val (.ref x1), .val (.int (0 : Int32)), .val (.int (2 : Int32)), .val .null, .val (.ref va)]) rfl ?_
    show Steps p.tables e below (T3.setTop (mkF m 41 #[.val (.ref x0), .val (.ref x1), .val (.int (0 : Int32)), .val (.int (2 : Int32)), .val .null, .val (.ref va)] [])) _
    refine XS.aloadN X3.here hx rfl (hb hby d2_41) rfl rfl ?_
    show Steps p.tables e below (T3.setTop (mkF m 42 #[.val (.ref x0), .val (.ref x1), .val (.int (0 : Int32)), .val (.int (2 : Int32)), .val .null, .val (.ref va)] [(.ref x0)])) _
    refine XS.aload X3.here hx rfl (hb hby d2_42) rfl rfl ?_
    show Steps p.tables e below (T3.setTop (mkF m 44 #[.val (.ref x0), .val (.ref x1), .val (.int (0 : Int32)), .val (.int (2 : Int32)), .val .null, .val (.ref va)] [(.ref va), (.ref x0)])) _
    refine XS.iloadN X3.here hx rfl (hb hby d2_44) rfl ?_
    show Steps p.tables e below (T3.setTop (mkF m 45 #[.val (.ref x0), .val (.ref x1), .val (.int (0 : Int32)), .val (.int (2 : Int32)), .val .null, .val (.ref va)] [(.int (2 : Int32)), (.ref va), (.ref x0)])) _
    refine st5 _ ?_
    show Steps p.tables e below (T5.setTop (mkF m 48 #[.val (.ref x0), .val (.ref x1), .val (.int (0 : Int32)), .val (.int (2 : Int32)), .val .null, .val (.ref va)] [(.int (0 : Int32)), (.ref x0)])) _
    refine st6 _ ?_
    show Steps p.tables e below (T6.setTop (mkF m 51 #[.val (.ref x0), .val (.ref x1), .val (.int (0 : Int32)), .val (.int (2 : Int32)), .val .null, .val (.ref va)] [])) _
    refine XS.aloadN X6.here hx rfl (hb hby d2_51) rfl rfl ?_
    show Steps p.tables e below (T6.setTop (mkF m 52 #[.val (.ref x0), .val (.ref x1), .val (.int (0 : Int32)), .val (.int (2 : Int32)), .val .null, .val (.ref va)] [(.ref x0)])) _
    refine XS.aload X6.here hx rfl (hb hby d2_52) rfl rfl ?_
    show Steps p.tables e below (T6.setTop (mkF m 54 #[.val (.ref x0), .val (.ref x1), .val (.int (0 : Int32)), .val (.int (2 : Int32)), .val .null, .val (.ref va)] [(.ref va), (.ref x0)])) _
    refine st8 _ ?_
    show Steps p.tables e below (T8.setTop (mkF m 57 #[.val (.ref x0), .val (.ref x1), .val (.int (0 : Int32)), .val (.int (2 : Int32)), .val .null, .val (.ref va)] [])) _
    exact X8.returnOut hx Bd.returns (hb hby d2_57) hr
  · exact (by
      have eT : (T8.setFrames fs).heap = h8 := e8
      rw [eT]; exact ⟨rfl, N8, keep_9, E_x0_9, va, kv, sz_va, F_value_x0_8, F_coder_x0_8, V_va_9, E_va_9⟩)
theorem pd___CIILjava_lang_Void__V : parseMethodDescriptor "([CIILjava/lang/Void;)V" = some ⟨[(.array .char), .int, .int, (.object "java/lang/Void")], none⟩ := by decide +kernel
set_option maxRecDepth 65536 in
set_option maxHeartbeats 40000000 in
theorem rm1 (l : Launch) (Z : State) (a0 : Array Value) (hw : ∀ d ∈ tables_1, d.before a0 Z = true) (ws : List Jvm.Cond) (x0 : Addr) (x1 : Addr) (k1 : ClassId) (c0 c1 cs : Int32) (h0 : Heap) (n0 : Nat) (Z0 : n0 ≤ h0.size) (E_x0 : Exa Z h0 x0 "java/lang/String") (F_value_x0 : Fld Z h0 x0 "java/lang/String" "value" "[B" .null) (F_coder_x0 : Fld Z h0 x0 "java/lang/String" "coder" "B" (.int (0 : Int32))) (V_x1 : Arv Z h0 x1 k1 .char (2 : Int32) [(.int c0), (.int c1)] (.int (0 : Int32))) (g_x0 : n0 ≤ x0) (ne01 : x0 ≠ x1) (hc0 : ¬ ((255 : Int32) < c0)) (hc1 : ¬ ((255 : Int32) < c1)) (O0 : Old Z n0 h0) (S_CS : Sta Z Z.heap "java/lang/String" "COMPACT_STRINGS" "Z" (.int cs)) (hcs : ¬ (cs = (0 : Int32))) :
    MetFree l (⟨"java/lang/String", "<init>", "([C)V"⟩ : MethodName) (head1 (Jvm.Cond.code (⟨"java/lang/String", "<init>", "([C)V"⟩ : MethodName) jdk_42_method_3_code 2 none :: ws) ({ frames := 3, cells := 1, slots := 2, locals := 52 } : Room)) (fun a U => a = #[(.ref x0), (.ref x1)] ∧ Z.Warmed39 U.vm ∧ U.heap = h0) (fun _ _ _ _ _ => True) (fun _ U o U' => ∃ v L, o = .returned v ∧ (QSI Z x0 (own_b c0) (own_b c1) h0 n0 v U'.heap L) ∧ FrameEnd U o U' L ({ frames := 3, cells := 1, slots := 2, locals := 52 } : Room).cells ({ frames := 3, cells := 1, slots := 2, locals := 52 } : Room).slots) := by
  refine MetFree.of_bodySF (plainFor_of_name pn_1) hisR ?_
  intro p e s m args below meth c s₁ Bd hml0 hP hK
  obtain ⟨rfl, hZ, hh⟩ := hP
  have hx := Bd.exec
  have hby := Bd.bytes
  have hml : c.maxLocals = 2 := hml0
  have hown : s.vm.findClass "java/lang/String" = some m.cls := findClass_of_methodNamed Bd.named
  have hnm := (name_of_methodNamed Bd.named Bd.method).1
  have X0 : Stand p l e ({ frames := 3, cells := 1, slots := 2, locals := 52 } : Room) s m #[(.ref x0), (.ref x1)] below meth c s₁ [] 0 0 := Stand.of_body Bd
  have e0 : s₁.heap = h0 := by rw [← hh, Bd.state]; rfl
  have N0 := Fr.nil n0
  have pre0 : ∀ t, Steps p.tables e below (s₁.setTop (mkF m 0 #[.val (.ref x0), .val (.ref x1)] [])) t → Steps p.tables e below (s₁.setTop (entryFrame m #[(.ref x0), (.ref x1)] 2)) t := fun t k => castTop (ef_1 m x0 x1) k
  have K0 : Keep h0 h0 [x0] := Keep.refl h0 [x0]
  obtain ⟨_, _, ⟨T1, L1, k1, n1⟩, -, X1, ⟨Lc1, hQ1, l1, y1, z1⟩, st1⟩ := X0.specialBack hx (y := (⟨"java/lang/String", "<init>", "([CIILjava/lang/Void;)V"⟩ : MethodName)) rfl hown (mvT hZ (hw _ (List.mem_of_getElem? (i := 8) rfl))) (mvT hZ (hw _ (List.mem_of_getElem? (i := 9) rfl))) (mvT hZ (hw _ (List.mem_of_getElem? (i := 11) rfl))) (by decide) (backOf (W := 0) (rm2 l Z a0 hw [] x0 x1 k1 c0 c1 cs h0 n0 Z0 E_x0 F_value_x0 F_coder_x0 V_x1 g_x0 ne01 hc0 hc1 O0 S_CS hcs) hZ (hw _ (List.mem_of_getElem? (i := 11) rfl)) (hw _ (List.mem_of_getElem? (i := 4) rfl)) (by decide) (by decide)) (g := (mkF m 6 #[.val (.ref x0), .val (.ref x1)] [.null, (.int (2 : Int32)), (.int (0 : Int32)), (.ref x1), (.ref x0)])) rfl (by rw [hml]; rfl) (Steps.refl _) (a := x0) (argsL := [(.ref x1), (.int (0 : Int32)), (.int (2 : Int32)), .null]) (rest := []) (lenOf pd___CIILjava_lang_Void__V rfl) rfl (by show 2 * 0 + _ ≤ _; exact Nat.le_of_eq rfl) (hb hby d1_6) (fun _ _ => ⟨rfl, e0, (by decide : 0 + 1 ≤ _), (by decide : 0 + 2 ≤ _)⟩)
  dsimp only [Pt.U, Pt.locs, Pt.cells, Pt.slots] at X1 l1 y1 z1 st1 hQ1
  subst l1 y1 z1
  obtain ⟨rfl, N1q, K1, Eq1, va, kv, sz_va1, Fq1, Fr1, Vq1, Ev1⟩ := hQ1
  have sz_va := sz_va1
  have keep_2 : Keep h0 T1.heap [x0] := K0.trans K1 (allS (Or.inl (List.mem_of_getElem? (i := 0) rfl)) (all0))
  have V_x1_2 : Arv Z T1.heap x1 k1 .char (2 : Int32) [(.int c0), (.int c1)] (.int (0 : Int32)) := V_x1.keep K1 (ninS (Ne.symm ne01) nin0)
  have old_2 : Old Z n0 T1.heap := O0.keep K1 (allS g_x0 (all0))
  have siz_2 : n0 ≤ T1.heap.size := Nat.le_trans Z0 K1.1
  have N1 := Fr.app N0 N1q
  obtain ⟨fs, hr, hrun, hended, hW, hsame⟩ := X1.leave (v := none) (fun _ => rfl)
  refine ⟨_, _, pre0 _ ?_, hrun, hended, _, _, rfl, ?_, ⟨_, rfl⟩, hW, hsame.mono (by decide) (by decide)⟩
  · show Steps p.tables e below (s₁.setTop (mkF m 0 #[.val (.ref x0), .val (.ref x1)] [])) _
    refine XS.aloadN X0.here hx rfl (hb hby d1_0) rfl rfl ?_
    show Steps p.tables e below (s₁.setTop (mkF m 1 #[.val (.ref x0), .val (.ref x1)] [(.ref x0)])) _
    refine XS.aloadN X0.here hx rfl (hb hby d1_1) rfl rfl ?_
    show Steps p.tables e below (s₁.setTop (mkF m 2 #[.val (.ref x0), .val (.ref x1)] [(.ref x1), (.ref x0)])) _
    refine XS.iconst X0.here hx rfl (hb hby d1_2) ?_
    show Steps p.tables e below (s₁.setTop (mkF m 3 #[.val (.ref x0), .val (.ref x1)] [(.int (0 : Int32)), (.ref x1), (.ref x0)])) _
    refine XS.aloadN X0.here hx rfl (hb hby d1_3) rfl rfl ?_
    show Steps p.tables e below (s₁.setTop (mkF m 4 #[.val (.ref x0), .val (.ref x1)] [(.ref x1), (.int (0 : Int32)), (.ref x1), (.ref x0)])) _
    refine own_len X0 hx hZ e0 V_x1 (g := (mkF m 4 #[.val (.ref x0), .val (.ref x1)] [(.ref x1), (.int (0 : Int32)), (.ref x1), (.ref x0)])) rfl rfl (hb hby d1_4) ?_
    show Steps p.tables e below (s₁.setTop (mkF m 5 #[.val (.ref x0), .val (.ref x1)] [(.int (2 : Int32)), (.int (0 : Int32)), (.ref x1), (.ref x0)])) _
    refine XS.aconstNull X0.here hx rfl (hb hby d1_5) ?_
    show Steps p.tables e below (s₁.setTop (mkF m 6 #[.val (.ref x0), .val (.ref x1)] [.null, (.int (2 : Int32)), (.int (0 : Int32)), (.ref x1), (.ref x0)])) _
    refine st1.trans ?_
    show Steps p.tables e below (T1.setTop (mkF m 9 #[.val (.ref x0), .val (.ref x1)] [])) _
    exact X1.returnOut hx Bd.returns (hb hby d1_9) hr
  · exact (by
      have eT : (T1.setFrames fs).heap = T1.heap := rfl
      rw [eT]; exact ⟨rfl, N1, keep_2, Eq1, va, kv, sz_va, Fq1, Fr1, Vq1, Ev1⟩)
set_option maxRecDepth 65536 in
set_option maxHeartbeats 40000000 in
theorem rm8 (l : Launch) (Z : State) (a0 : Array Value) (hw : ∀ d ∈ tables_1, d.before a0 Z = true) (ws : List Jvm.Cond) (x0 : Int32)  (h0 : Heap) (n0 : Nat) (Z0 : n0 ≤ h0.size) (hc : ¬ ((255 : Int32) < x0)) :
    MetFree l (⟨"java/lang/StringLatin1", "canEncode", "(C)Z"⟩ : MethodName) (head1 (Jvm.Cond.code (⟨"java/lang/StringLatin1", "canEncode", "(C)Z"⟩ : MethodName) jdk_43_method_3_code 1 (some .boolean) :: ws) ({ frames := 0, cells := 0, slots := 0, locals := 0 } : Room)) (fun a U => a = #[(.int x0)] ∧ Z.Warmed39 U.vm ∧ U.heap = h0) (fun _ _ _ _ _ => True) (fun _ U o U' => ∃ v L, o = .returned v ∧ (QP (some (.int (1 : Int32))) h0 n0 v U'.heap L) ∧ FrameEnd U o U' L ({ frames := 0, cells := 0, slots := 0, locals := 0 } : Room).cells ({ frames := 0, cells := 0, slots := 0, locals := 0 } : Room).slots) := by
  refine MetFree.of_bodySF (plainFor_of_name pn_8) hisR ?_
  intro p e s m args below meth c s₁ Bd hml0 hP hK
  obtain ⟨rfl, hZ, hh⟩ := hP
  have hx := Bd.exec
  have hby := Bd.bytes
  have hml : c.maxLocals = 1 := hml0
  have hown : s.vm.findClass "java/lang/StringLatin1" = some m.cls := findClass_of_methodNamed Bd.named
  have hnm := (name_of_methodNamed Bd.named Bd.method).1
  have X0 : Stand p l e ({ frames := 0, cells := 0, slots := 0, locals := 0 } : Room) s m #[(.int x0)] below meth c s₁ [] 0 0 := Stand.of_body Bd
  have e0 : s₁.heap = h0 := by rw [← hh, Bd.state]; rfl
  have N0 := Fr.nil n0
  have pre0 : ∀ t, Steps p.tables e below (s₁.setTop (mkF m 0 #[.val (.int x0)] [])) t → Steps p.tables e below (s₁.setTop (entryFrame m #[(.int x0)] 1)) t := fun t k => castTop (ef_8 m x0) k
  obtain ⟨fs, hr, hrun, hended, hW, hsame⟩ := X0.leave (v := some (.int (1 : Int32))) (fun h => by rw [Bd.returns] at h; cases h)
  refine ⟨_, _, pre0 _ ?_, hrun, hended, _, _, rfl, ?_, ⟨_, rfl⟩, hW, hsame.mono (by decide) (by decide)⟩
  · show Steps p.tables e below (s₁.setTop (mkF m 0 #[.val (.int x0)] [])) _
    refine XS.iloadN X0.here hx rfl (hb hby d8_0) rfl ?_
    show Steps p.tables e below (s₁.setTop (mkF m 1 #[.val (.int x0)] [(.int x0)])) _
    refine XS.sipush X0.here hx rfl (hb hby d8_1) ?_
    show Steps p.tables e below (s₁.setTop (mkF m 4 #[.val (.int x0)] [(.int (255 : Int32)), (.int x0)])) _
    refine XS.icmpNo X0.here hx rfl (hb hby d8_4) rfl (flt hc).2.2.1 ?_
    show Steps p.tables e below (s₁.setTop (mkF m 7 #[.val (.int x0)] [])) _
    refine XS.iconst X0.here hx rfl (hb hby d8_7) ?_
    show Steps p.tables e below (s₁.setTop (mkF m 8 #[.val (.int x0)] [(.int (1 : Int32))])) _
    refine XS.goto X0.here hx rfl (pc0 := 8) (pc' := 12) rfl (hb hby d8_8) (by decide) (by decide) ?_
    show Steps p.tables e below (s₁.setTop (mkF m 12 #[.val (.int x0)] [(.int (1 : Int32))])) _
    exact retN X0 hx (t := .boolean) Bd.returns (by simp) (hb hby d8_12) hr
  · exact ⟨rfl, N0, e0⟩
set_option maxRecDepth 65536 in
set_option maxHeartbeats 40000000 in
theorem rm9 (l : Launch) (Z : State) (a0 : Array Value) (hw : ∀ d ∈ tables_1, d.before a0 Z = true) (ws : List Jvm.Cond) (x0 : Int32)  (h0 : Heap) (n0 : Nat) (Z0 : n0 ≤ h0.size)  :
    MetFree l (⟨"java/lang/StringLatin1", "toBytes", "(C)[B"⟩ : MethodName) (head1 (Jvm.Cond.code (⟨"java/lang/StringLatin1", "toBytes", "(C)[B"⟩ : MethodName) jdk_43_method_46_code 1 (some (.array .byte)) :: ws) ({ frames := 0, cells := 1, slots := 1, locals := 0 } : Room)) (fun a U => a = #[(.int x0)] ∧ Z.Warmed39 U.vm ∧ U.heap = h0) (fun _ _ _ _ _ => True) (fun _ U o U' => ∃ v L, o = .returned v ∧ (QR Z h0 n0 v U'.heap L) ∧ FrameEnd U o U' L ({ frames := 0, cells := 1, slots := 1, locals := 0 } : Room).cells ({ frames := 0, cells := 1, slots := 1, locals := 0 } : Room).slots) := by
  refine MetFree.of_bodySF (plainFor_of_name pn_9) hisR ?_
  intro p e s m args below meth c s₁ Bd hml0 hP hK
  obtain ⟨rfl, hZ, hh⟩ := hP
  have hx := Bd.exec
  have hby := Bd.bytes
  have hml : c.maxLocals = 1 := hml0
  have hown : s.vm.findClass "java/lang/StringLatin1" = some m.cls := findClass_of_methodNamed Bd.named
  have hnm := (name_of_methodNamed Bd.named Bd.method).1
  have X0 : Stand p l e ({ frames := 0, cells := 1, slots := 1, locals := 0 } : Room) s m #[(.int x0)] below meth c s₁ [] 0 0 := Stand.of_body Bd
  have e0 : s₁.heap = h0 := by rw [← hh, Bd.state]; rfl
  have N0 := Fr.nil n0
  have pre0 : ∀ t, Steps p.tables e below (s₁.setTop (mkF m 0 #[.val (.int x0)] [])) t → Steps p.tables e below (s₁.setTop (entryFrame m #[(.int x0)] 1)) t := fun t k => castTop (ef_9 m x0) k
  have K0 : Keep h0 h0 [] := Keep.refl h0 []
  obtain ⟨T1, h1, k1, X1, e1, E1, A1, st1⟩ := newP X0 hx hZ (hw _ (List.mem_of_getElem? (i := 20) rfl)) e0 (g := (mkF m 1 #[.val (.int x0)] [(.int (1 : Int32))])) rfl (hb hby d9_1) rfl (by decide) (cap := 1) (by decide) (by decide) (by decide) (by decide)
  obtain ⟨r, g1⟩ : ∃ z, z = h0.size := ⟨_, rfl⟩
  rw [← g1] at A1 st1
  have V_r_1 : Arv Z h1 r k1 .byte (1 : Int32) [(.int (0 : Int32))] (.int (0 : Int32)) := (Arv.new A1 (by decide)).pad (pad_rep [] (.int (0 : Int32)) 1)
  have g_r : n0 ≤ r := Nat.le_trans Z0 (Nat.le_of_eq g1.symm)
  have sz_r : h0.size ≤ r := Nat.le_trans K0.1 (Nat.le_of_eq g1.symm)
  have keep_2 : Keep h0 h1 [] := K0.ext E1
  have siz_2 : n0 ≤ h1.size := Nat.le_trans Z0 E1.1
  obtain ⟨T3, h3, L3, X3, e3, N3, W3, V3, st3⟩ := own_stB X1 hx hZ e1 V_r_1 (j := (0 : Int32)) ⟨by decide, by decide⟩ (i := 0) rfl (Nat.le_of_ble_eq_true rfl) N0 g_r (g := (mkF m 7 #[.val (.int x0)] [(.int (x0.toInt8.toInt32)), (.int (0 : Int32)), (.ref r), (.ref r)])) rfl rfl (hb hby d9_7)
  have keep_4 : Keep h0 h3 [] := keep_2.wr W3 (Or.inr sz_r)
  have siz_4 : n0 ≤ h3.size := Nat.le_trans siz_2 (Keep.of_wr W3).1
  have V_r_3 : Arv Z h3 r k1 .byte (1 : Int32) [(.int (nar .byte (x0.toInt8.toInt32)))] (.int (0 : Int32)) := V3
  obtain ⟨fs, hr, hrun, hended, hW, hsame⟩ := X3.leave (v := some (.ref r)) (fun h => by rw [Bd.returns] at h; cases h)
  refine ⟨_, _, pre0 _ ?_, hrun, hended, _, _, rfl, ?_, ⟨_, rfl⟩, hW, hsame.mono (by decide) (by decide)⟩
  · show Steps p.tables e below (s₁.setTop (mkF m 0 #[.val (.int x0)] [])) _
    refine XS.iconst X0.here hx rfl (hb hby d9_0) ?_
    show Steps p.tables e below (s₁.setTop (mkF m 1 #[.val (.int x0)] [(.int (1 : Int32))])) _
    refine st1 _ ?_
    show Steps p.tables e below (T1.setTop (mkF m 3 #[.val (.int x0)] [(.ref r)])) _
    refine XS.dup X1.here hx rfl (hb hby d9_3) rfl rfl ?_
    show Steps p.tables e below (T1.setTop (mkF m 4 #[.val (.int x0)] [(.ref r), (.ref r)])) _
    refine XS.iconst X1.here hx rfl (hb hby d9_4) ?_
    show Steps p.tables e below (T1.setTop (mkF m 5 #[.val (.int x0)] [(.int (0 : Int32)), (.ref r), (.ref r)])) _
    refine XS.iloadN X1.here hx rfl (hb hby d9_5) rfl ?_
    show Steps p.tables e below (T1.setTop (mkF m 6 #[.val (.int x0)] [(.int x0), (.int (0 : Int32)), (.ref r), (.ref r)])) _
    refine XS.i2b X1.here hx rfl (hb hby d9_6) rfl ?_
    show Steps p.tables e below (T1.setTop (mkF m 7 #[.val (.int x0)] [(.int (x0.toInt8.toInt32)), (.int (0 : Int32)), (.ref r), (.ref r)])) _
    refine st3 _ ?_
    show Steps p.tables e below (T3.setTop (mkF m 8 #[.val (.int x0)] [(.ref r)])) _
    exact retOut X3 hx (t := (.array .byte)) (i := .areturn) Bd.returns rfl (Or.inr (Or.inr (Or.inr (Or.inr ⟨rfl, rfl, rfl⟩)))) (hb hby d9_8) hr
  · exact (by
      have eT : (T3.setFrames fs).heap = h3 := e3
      rw [eT]; exact ⟨r, rfl, N3, keep_4⟩)
set_option maxRecDepth 65536 in
set_option maxHeartbeats 40000000 in
theorem rm10 (l : Launch) (Z : State) (a0 : Array Value) (hw : ∀ d ∈ tables_1, d.before a0 Z = true) (ws : List Jvm.Cond) (x0 : Addr) (x1 : Addr)  (h0 : Heap) (n0 : Nat) (Z0 : n0 ≤ h0.size) (E_x0 : Exa Z h0 x0 "java/lang/String") (F_value_x0 : Fld Z h0 x0 "java/lang/String" "value" "[B" .null) (F_coder_x0 : Fld Z h0 x0 "java/lang/String" "coder" "B" (.int (0 : Int32))) (g_x0 : n0 ≤ x0) :
    MetFree l (⟨"java/lang/String", "<init>", "([BB)V"⟩ : MethodName) (head1 (Jvm.Cond.code (⟨"java/lang/String", "<init>", "([BB)V"⟩ : MethodName) jdk_42_method_151_code 3 none :: ws) ({ frames := 1, cells := 0, slots := 0, locals := 12 } : Room)) (fun a U => a = #[(.ref x0), (.ref x1), (.int (0 : Int32))] ∧ Z.Warmed39 U.vm ∧ U.heap = h0) (fun _ _ _ _ _ => True) (fun _ U o U' => ∃ v L, o = .returned v ∧ (QK Z x0 h0 n0 v U'.heap L) ∧ FrameEnd U o U' L ({ frames := 1, cells := 0, slots := 0, locals := 12 } : Room).cells ({ frames := 1, cells := 0, slots := 0, locals := 12 } : Room).slots) := by
  refine MetFree.of_bodySF (plainFor_of_name pn_10) hisR ?_
  intro p e s m args below meth c s₁ Bd hml0 hP hK
  obtain ⟨rfl, hZ, hh⟩ := hP
  have hx := Bd.exec
  have hby := Bd.bytes
  have hml : c.maxLocals = 3 := hml0
  have hown : s.vm.findClass "java/lang/String" = some m.cls := findClass_of_methodNamed Bd.named
  have hnm := (name_of_methodNamed Bd.named Bd.method).1
  have X0 : Stand p l e ({ frames := 1, cells := 0, slots := 0, locals := 12 } : Room) s m #[(.ref x0), (.ref x1), (.int (0 : Int32))] below meth c s₁ [] 0 0 := Stand.of_body Bd
  have e0 : s₁.heap = h0 := by rw [← hh, Bd.state]; rfl
  have N0 := Fr.nil n0
  have pre0 : ∀ t, Steps p.tables e below (s₁.setTop (mkF m 0 #[.val (.ref x0), .val (.ref x1), .val (.int (0 : Int32))] [])) t → Steps p.tables e below (s₁.setTop (entryFrame m #[(.ref x0), (.ref x1), (.int (0 : Int32))] 3)) t := fun t k => castTop (ef_10 m x0 x1 (0 : Int32)) k
  have K0 : Keep h0 h0 [x0] := Keep.refl h0 [x0]
  obtain ⟨T1, X1, e1, st1⟩ := initO X0 hx hZ hown (hw _ (List.mem_of_getElem? (i := 12) rfl)) (hw _ (List.mem_of_getElem? (i := 13) rfl)) (hw _ (List.mem_of_getElem? (i := 14) rfl)) e0 (g := (mkF m 1 #[.val (.ref x0), .val (.ref x1), .val (.int (0 : Int32))] [(.ref x0)])) rfl (by rw [hml]; rfl) rfl (hb hby d10_1) (by decide) (W := 0) (by show 2 * 0 + _ ≤ _; exact Nat.le_of_eq rfl) (by decide)
  obtain ⟨T2, h2, X2, e2, W2, st2⟩ := putF X1 hx hZ hown (host := "") (Or.inl (hw _ (List.mem_of_getElem? (i := 29) rfl))) Via.refl e1 F_value_x0 E_x0 (Or.inr ⟨(hw _ (List.mem_of_getElem? (i := 30) rfl)), rfl, hnm⟩) (hw _ (List.mem_of_getElem? (i := 3) rfl)) (ty := (.array .byte)) (by decide) rfl rfl (g := (mkF m 6 #[.val (.ref x0), .val (.ref x1), .val (.int (0 : Int32))] [(.ref x1), (.ref x0)])) rfl rfl (hb hby d10_6)
  have N2 := Fr.snoc X2 N0 g_x0
  have keep_3 : Keep h0 h2 [x0] := K0.wr W2 (Or.inl (List.mem_of_getElem? (i := 0) rfl))
  have E_x0_3 : Exa Z h2 x0 "java/lang/String" := E_x0.wr W2
  have siz_3 : n0 ≤ h2.size := Nat.le_trans Z0 (Keep.of_wr W2).1
  have F_value_x0_2 : Fld Z h2 x0 "java/lang/String" "value" "[B" (.ref x1) := F_value_x0.same W2
  have F_coder_x0_2 : Fld Z h2 x0 "java/lang/String" "coder" "B" (.int (0 : Int32)) := F_coder_x0.other W2 (Or.inr (slot_ne (Or.inr (hw _ (List.mem_of_getElem? (i := 28) rfl))) (Or.inr (hw _ (List.mem_of_getElem? (i := 30) rfl))) (by decide) (t := .byte) (t' := (.array .byte)) (by decide) (by decide)))
  obtain ⟨T4, h4, X4, e4, W4, st4⟩ := putFN X2 hx hZ hown (hw _ (List.mem_of_getElem? (i := 27) rfl)) Via.refl e2 F_coder_x0_2 E_x0_3 (Or.inr ⟨(hw _ (List.mem_of_getElem? (i := 28) rfl)), rfl, hnm⟩) (hw _ (List.mem_of_getElem? (i := 3) rfl)) (ty := .byte) (v' := (.int ((0 : Int32).toInt8.toInt32))) (by decide) rfl (fits_nar_byte _) (g := (mkF m 11 #[.val (.ref x0), .val (.ref x1), .val (.int (0 : Int32))] [(.int (0 : Int32)), (.ref x0)])) rfl rfl (hb hby d10_11)
  have N4 := Fr.snoc X4 N2 g_x0
  have keep_5 : Keep h0 h4 [x0] := keep_3.wr W4 (Or.inl (List.mem_of_getElem? (i := 0) rfl))
  have E_x0_5 : Exa Z h4 x0 "java/lang/String" := E_x0_3.wr W4
  have siz_5 : n0 ≤ h4.size := Nat.le_trans siz_3 (Keep.of_wr W4).1
  have F_value_x0_4 : Fld Z h4 x0 "java/lang/String" "value" "[B" (.ref x1) := F_value_x0_2.other W4 (Or.inr (slot_ne (Or.inr (hw _ (List.mem_of_getElem? (i := 30) rfl))) (Or.inr (hw _ (List.mem_of_getElem? (i := 28) rfl))) (by decide) (t := (.array .byte)) (t' := .byte) (by decide) (by decide)))
  have F_coder_x0_4 : Fld Z h4 x0 "java/lang/String" "coder" "B" (.int ((0 : Int32).toInt8.toInt32)) := F_coder_x0_2.same W4
  obtain ⟨fs, hr, hrun, hended, hW, hsame⟩ := X4.leave (v := none) (fun _ => rfl)
  refine ⟨_, _, pre0 _ ?_, hrun, hended, _, _, rfl, ?_, ⟨_, rfl⟩, hW, hsame.mono (by decide) (by decide)⟩
  · show Steps p.tables e below (s₁.setTop (mkF m 0 #[.val (.ref x0), .val (.ref x1), .val (.int (0 : Int32))] [])) _
    refine XS.aloadN X0.here hx rfl (hb hby d10_0) rfl rfl ?_
    show Steps p.tables e below (s₁.setTop (mkF m 1 #[.val (.ref x0), .val (.ref x1), .val (.int (0 : Int32))] [(.ref x0)])) _
    refine st1 _ ?_
    show Steps p.tables e below (T1.setTop (mkF m 4 #[.val (.ref x0), .val (.ref x1), .val (.int (0 : Int32))] [])) _
    refine XS.aloadN X1.here hx rfl (hb hby d10_4) rfl rfl ?_
    show Steps p.tables e below (T1.setTop (mkF m 5 #[.val (.ref x0), .val (.ref x1), .val (.int (0 : Int32))] [(.ref x0)])) _
    refine XS.aloadN X1.here hx rfl (hb hby d10_5) rfl rfl ?_
    show Steps p.tables e below (T1.setTop (mkF m 6 #[.val (.ref x0), .val (.ref x1), .val (.int (0 : Int32))] [(.ref x1), (.ref x0)])) _
    refine st2 _ ?_
    show Steps p.tables e below (T2.setTop (mkF m 9 #[.val (.ref x0), .val (.ref x1), .val (.int (0 : Int32))] [])) _
    refine XS.aloadN X2.here hx rfl (hb hby d10_9) rfl rfl ?_
    show Steps p.tables e below (T2.setTop (mkF m 10 #[.val (.ref x0), .val (.ref x1), .val (.int (0 : Int32))] [(.ref x0)])) _
    refine XS.iloadN X2.here hx rfl (hb hby d10_10) rfl ?_
    show Steps p.tables e below (T2.setTop (mkF m 11 #[.val (.ref x0), .val (.ref x1), .val (.int (0 : Int32))] [(.int (0 : Int32)), (.ref x0)])) _
    refine st4 _ ?_
    show Steps p.tables e below (T4.setTop (mkF m 14 #[.val (.ref x0), .val (.ref x1), .val (.int (0 : Int32))] [])) _
    exact X4.returnOut hx Bd.returns (hb hby d10_14) hr
  · exact (by
      have eT : (T4.setFrames fs).heap = h4 := e4
      rw [eT]; exact ⟨rfl, N4, keep_5⟩)
theorem pd__C_Z : parseMethodDescriptor "(C)Z" = some ⟨[.char], some .boolean⟩ := by decide +kernel
theorem pd__C__B : parseMethodDescriptor "(C)[B" = some ⟨[.char], some (.array .byte)⟩ := by decide +kernel
theorem pd___BB_V : parseMethodDescriptor "([BB)V" = some ⟨[(.array .byte), .byte], none⟩ := by decide +kernel
set_option maxRecDepth 65536 in
set_option maxHeartbeats 40000000 in
theorem rm7 (l : Launch) (Z : State) (a0 : Array Value) (hw : ∀ d ∈ tables_1, d.before a0 Z = true) (ws : List Jvm.Cond) (x0 : Int32) (cs : Int32) (h0 : Heap) (n0 : Nat) (Z0 : n0 ≤ h0.size) (hc : ¬ ((255 : Int32) < x0)) (O0 : Old Z n0 h0) (S_CS : Sta Z Z.heap "java/lang/String" "COMPACT_STRINGS" "Z" (.int cs)) (hcs : ¬ (cs = (0 : Int32))) :
    MetFree l (⟨"java/lang/String", "valueOf", "(C)Ljava/lang/String;"⟩ : MethodName) (head1 (Jvm.Cond.code (⟨"java/lang/String", "valueOf", "(C)Ljava/lang/String;"⟩ : MethodName) jdk_42_method_139_code 1 (some (.object "java/lang/String")) :: ws) ({ frames := 2, cells := 2, slots := 5, locals := 27 } : Room)) (fun a U => a = #[(.int x0)] ∧ Z.Warmed39 U.vm ∧ U.heap = h0) (fun _ _ _ _ _ => True) (fun _ U o U' => ∃ v L, o = .returned v ∧ (QR Z h0 n0 v U'.heap L) ∧ FrameEnd U o U' L ({ frames := 2, cells := 2, slots := 5, locals := 27 } : Room).cells ({ frames := 2, cells := 2, slots := 5, locals := 27 } : Room).slots) := by
  refine MetFree.of_bodySF (plainFor_of_name pn_7) hisR ?_
  intro p e s m args below meth c s₁ Bd hml0 hP hK
  obtain ⟨rfl, hZ, hh⟩ := hP
  have hx := Bd.exec
  have hby := Bd.bytes
  have hml : c.maxLocals = 1 := hml0
  have hown : s.vm.findClass "java/lang/String" = some m.cls := findClass_of_methodNamed Bd.named
  have hnm := (name_of_methodNamed Bd.named Bd.method).1
  have X0 : Stand p l e ({ frames := 2, cells := 2, slots := 5, locals := 27 } : Room) s m #[(.int x0)] below meth c s₁ [] 0 0 := Stand.of_body Bd
  have e0 : s₁.heap = h0 := by rw [← hh, Bd.state]; rfl
  have N0 := Fr.nil n0
  have pre0 : ∀ t, Steps p.tables e below (s₁.setTop (mkF m 0 #[.val (.int x0)] [])) t → Steps p.tables e below (s₁.setTop (entryFrame m #[(.int x0)] 1)) t := fun t k => castTop (ef_7 m x0) k
  have K0 : Keep h0 h0 [] := Keep.refl h0 []
  obtain ⟨T1, X1, e1, st1⟩ := getS2 X0 hx hZ hown (host := "") (Or.inl (hw _ (List.mem_of_getElem? (i := 15) rfl))) Via.refl e0 (own_Sta_old S_CS O0) (g := (mkF m 0 #[.val (.int x0)] [])) rfl (hb hby d7_0)
  obtain ⟨_, _, ⟨T2, L2, k2, n2⟩, -, X2, ⟨Lc2, hQ2, l2, y2, z2⟩, st2⟩ := Jvm.LawKit.callS X1 hx (y := (⟨"java/lang/StringLatin1", "canEncode", "(C)Z"⟩ : MethodName)) hown (mvT hZ (hw _ (List.mem_of_getElem? (i := 34) rfl))) (mvT hZ (hw _ (List.mem_of_getElem? (i := 35) rfl))) (mvT hZ (hw _ (List.mem_of_getElem? (i := 36) rfl))) (mvT hZ (hw _ (List.mem_of_getElem? (i := 37) rfl))) (by decide) (backOf (W := 0) (rm8 l Z a0 hw [] x0 h0 n0 Z0 hc) hZ (hw _ (List.mem_of_getElem? (i := 37) rfl)) (hw _ (List.mem_of_getElem? (i := 36) rfl)) (by decide) (by decide)) (g := (mkF m 7 #[.val (.int x0)] [(.int x0)])) rfl (by rw [hml]; rfl) (argsL := [(.int x0)]) (rest := []) (lenOf pd__C_Z rfl) rfl (by show 2 * 0 + _ ≤ _; exact Nat.le_of_eq rfl) (hb hby d7_7) (fun _ _ => ⟨rfl, e1, (by decide : 0 + 0 ≤ _), (by decide : 0 + 0 ≤ _)⟩)
  dsimp only [Pt.U, Pt.locs, Pt.cells, Pt.slots] at X2 l2 y2 z2 st2 hQ2
  subst l2 y2 z2
  obtain ⟨rfl, N2q, e2⟩ := hQ2
  have N2 := Fr.app N0 N2q
  obtain ⟨T3, h3, X3, e3, E3, A3, D3, -, st3⟩ := newO X2 hx hZ hown (hw _ (List.mem_of_getElem? (i := 38) rfl)) (hw _ (List.mem_of_getElem? (i := 3) rfl)) (hw _ (List.mem_of_getElem? (i := 4) rfl)) e2 (g := (mkF m 13 #[.val (.int x0)] [])) rfl (hb hby d7_13) (by decide) (by decide)
  obtain ⟨so, g3⟩ : ∃ z, z = h0.size := ⟨_, rfl⟩
  rw [← g3] at A3 D3 st3
  have E_so_3 : Exa Z h3 so "java/lang/String" := A3
  have F_coder_so_3 : Fld Z h3 so "java/lang/String" "coder" "B" (.int (0 : Int32)) := D3 (Or.inr (hw _ (List.mem_of_getElem? (i := 28) rfl))) (ty := .byte) (by decide)
  have F_value_so_3 : Fld Z h3 so "java/lang/String" "value" "[B" .null := D3 (Or.inr (hw _ (List.mem_of_getElem? (i := 30) rfl))) (ty := (.array .byte)) (by decide)
  have g_so : n0 ≤ so := Nat.le_trans Z0 (Nat.le_of_eq g3.symm)
  have sz_so : h0.size ≤ so := Nat.le_trans K0.1 (Nat.le_of_eq g3.symm)
  have keep_4 : Keep h0 h3 [] := K0.ext E3
  have old_4 : Old Z n0 h3 := O0.ext E3
  have siz_4 : n0 ≤ h3.size := Nat.le_trans Z0 E3.1
  obtain ⟨_, _, ⟨T5, L5, k5, n5⟩, -, X5, ⟨Lc5, hQ5, l5, y5, z5⟩, st5⟩ := Jvm.LawKit.callS X3 hx (y := (⟨"java/lang/StringLatin1", "toBytes", "(C)[B"⟩ : MethodName)) hown (mvT hZ (hw _ (List.mem_of_getElem? (i := 39) rfl))) (mvT hZ (hw _ (List.mem_of_getElem? (i := 40) rfl))) (mvT hZ (hw _ (List.mem_of_getElem? (i := 36) rfl))) (mvT hZ (hw _ (List.mem_of_getElem? (i := 41) rfl))) (by decide) (backOf (W := 2) (rm9 l Z a0 hw [] x0 h3 n0 siz_4) hZ (hw _ (List.mem_of_getElem? (i := 41) rfl)) (hw _ (List.mem_of_getElem? (i := 36) rfl)) (by decide) (by decide)) (g := (mkF m 18 #[.val (.int x0)] [(.int x0), (.ref so), (.ref so)])) rfl (by rw [hml]; rfl) (argsL := [(.int x0)]) (rest := [(.ref so), (.ref so)]) (lenOf pd__C__B rfl) rfl (by show 2 * 0 + _ ≤ _; exact Nat.le_of_eq rfl) (hb hby d7_18) (fun _ _ => ⟨rfl, e3, (by decide : 1 + 1 ≤ _), (by decide : 4 + 1 ≤ _)⟩)
  dsimp only [Pt.U, Pt.locs, Pt.cells, Pt.slots] at X5 l5 y5 z5 st5 hQ5
  subst l5 y5 z5
  obtain ⟨rb, rfl, N5q, K5⟩ := hQ5
  have keep_6 : Keep h0 T5.heap [] := keep_4.trans K5 (all0)
  have old_6 : Old Z n0 T5.heap := old_4.keep K5 (all0)
  have siz_6 : n0 ≤ T5.heap.size := Nat.le_trans siz_4 K5.1
  have E_so_6 : Exa Z T5.heap so "java/lang/String" := E_so_3.keep K5
  have F_coder_so_6 : Fld Z T5.heap so "java/lang/String" "coder" "B" (.int (0 : Int32)) := F_coder_so_3.keep K5 nin0
  have F_value_so_6 : Fld Z T5.heap so "java/lang/String" "value" "[B" .null := F_value_so_3.keep K5 nin0
  have N5 := Fr.app N2 N5q
  obtain ⟨_, _, ⟨T7, L7, k7, n7⟩, -, X7, ⟨Lc7, hQ7, l7, y7, z7⟩, st7⟩ := X5.specialBack hx (y := (⟨"java/lang/String", "<init>", "([BB)V"⟩ : MethodName)) rfl hown (mvT hZ (hw _ (List.mem_of_getElem? (i := 42) rfl))) (mvT hZ (hw _ (List.mem_of_getElem? (i := 43) rfl))) (mvT hZ (hw _ (List.mem_of_getElem? (i := 44) rfl))) (by decide) (backOf (W := 1) (rm10 l Z a0 hw [] so rb T5.heap n0 siz_6 E_so_6 F_value_so_6 F_coder_so_6 g_so) hZ (hw _ (List.mem_of_getElem? (i := 44) rfl)) (hw _ (List.mem_of_getElem? (i := 4) rfl)) (by decide) (by decide)) (g := (mkF m 22 #[.val (.int x0)] [(.int (0 : Int32)), (.ref rb), (.ref so), (.ref so)])) rfl (by rw [hml]; rfl) (Steps.refl _) (a := so) (argsL := [(.ref rb), (.int (0 : Int32))]) (rest := [(.ref so)]) (lenOf pd___BB_V rfl) rfl (by show 2 * 0 + _ ≤ _; exact Nat.le_of_eq rfl) (hb hby d7_22) (fun _ _ => ⟨rfl, rfl, (by decide : 2 + 0 ≤ _), (by decide : 5 + 0 ≤ _)⟩)
  dsimp only [Pt.U, Pt.locs, Pt.cells, Pt.slots] at X7 l7 y7 z7 st7 hQ7
  subst l7 y7 z7
  obtain ⟨rfl, N7q, K7⟩ := hQ7
  have keep_8 : Keep h0 T7.heap [] := keep_6.trans K7 (allS (Or.inr sz_so) (all0))
  have old_8 : Old Z n0 T7.heap := old_6.keep K7 (allS g_so (all0))
  have siz_8 : n0 ≤ T7.heap.size := Nat.le_trans siz_6 K7.1
  have N7 := Fr.app N5 N7q
  obtain ⟨fs, hr, hrun, hended, hW, hsame⟩ := X7.leave (v := some (.ref so)) (fun h => by rw [Bd.returns] at h; cases h)
  refine ⟨_, _, pre0 _ ?_, hrun, hended, _, _, rfl, ?_, ⟨_, rfl⟩, hW, hsame.mono (by decide) (by decide)⟩
  · show Steps p.tables e below (s₁.setTop (mkF m 0 #[.val (.int x0)] [])) _
    refine st1 _ ?_
    show Steps p.tables e below (T1.setTop (mkF m 3 #[.val (.int x0)] [(.int cs)])) _
    refine XS.ifNo X1.here hx rfl (hb hby d7_3) rfl ((if0 _ _).trans (feq hcs).1) ?_
    show Steps p.tables e below (T1.setTop (mkF m 6 #[.val (.int x0)] [])) _
    refine XS.iloadN X1.here hx rfl (hb hby d7_6) rfl ?_
    show Steps p.tables e below (T1.setTop (mkF m 7 #[.val (.int x0)] [(.int x0)])) _
    refine st2 _ ?_
    show Steps p.tables e below (T2.setTop (mkF m 10 #[.val (.int x0)] [(.int (1 : Int32))])) _
    refine XS.ifNo X2.here hx rfl (hb hby d7_10) rfl ((if0 _ _).trans (feq (by decide : ¬ ((1 : Int32) = (0 : Int32)))).1) ?_
    show Steps p.tables e below (T2.setTop (mkF m 13 #[.val (.int x0)] [])) _
    refine st3 _ ?_
    show Steps p.tables e below (T3.setTop (mkF m 16 #[.val (.int x0)] [(.ref so)])) _
    refine XS.dup X3.here hx rfl (hb hby d7_16) rfl rfl ?_
    show Steps p.tables e below (T3.setTop (mkF m 17 #[.val (.int x0)] [(.ref so), (.ref so)])) _
    refine XS.iloadN X3.here hx rfl (hb hby d7_17) rfl ?_
    show Steps p.tables e below (T3.setTop (mkF m 18 #[.val (.int x0)] [(.int x0), (.ref so), (.ref so)])) _
    refine st5 _ ?_
    show Steps p.tables e below (T5.setTop (mkF m 21 #[.val (.int x0)] [(.ref rb), (.ref so), (.ref so)])) _
    refine XS.iconst X5.here hx rfl (hb hby d7_21) ?_
    show Steps p.tables e below (T5.setTop (mkF m 22 #[.val (.int x0)] [(.int (0 : Int32)), (.ref rb), (.ref so), (.ref so)])) _
    refine st7.trans ?_
    show Steps p.tables e below (T7.setTop (mkF m 25 #[.val (.int x0)] [(.ref so)])) _
    exact retOut X7 hx (t := (.object "java/lang/String")) (i := .areturn) Bd.returns rfl (Or.inr (Or.inr (Or.inr (Or.inr ⟨rfl, rfl, rfl⟩)))) (hb hby d7_25) hr
  · exact (by
      have eT : (T7.setFrames fs).heap = T7.heap := rfl
      rw [eT]; exact ⟨so, rfl, N7, keep_8⟩)
set_option maxRecDepth 65536 in
set_option maxHeartbeats 40000000 in
theorem rm12 (l : Launch) (Z : State) (a0 : Array Value) (hw : ∀ d ∈ tables_1, d.before a0 Z = true) (ws : List Jvm.Cond) (x0 : Addr)  (h0 : Heap) (n0 : Nat) (Z0 : n0 ≤ h0.size)  :
    MetFree l (⟨"java/lang/Record", "<init>", "()V"⟩ : MethodName) (head1 (Jvm.Cond.code (⟨"java/lang/Record", "<init>", "()V"⟩ : MethodName) jdk_30_method_1_code 1 none :: ws) ({ frames := 1, cells := 0, slots := 0, locals := 12 } : Room)) (fun a U => a = #[(.ref x0)] ∧ Z.Warmed39 U.vm ∧ U.heap = h0) (fun _ _ _ _ _ => True) (fun _ U o U' => ∃ v L, o = .returned v ∧ (QP (none) h0 n0 v U'.heap L) ∧ FrameEnd U o U' L ({ frames := 1, cells := 0, slots := 0, locals := 12 } : Room).cells ({ frames := 1, cells := 0, slots := 0, locals := 12 } : Room).slots) := by
  refine MetFree.of_bodySF (plainFor_of_name pn_12) hisR ?_
  intro p e s m args below meth c s₁ Bd hml0 hP hK
  obtain ⟨rfl, hZ, hh⟩ := hP
  have hx := Bd.exec
  have hby := Bd.bytes
  have hml : c.maxLocals = 1 := hml0
  have hown : s.vm.findClass "java/lang/Record" = some m.cls := findClass_of_methodNamed Bd.named
  have hnm := (name_of_methodNamed Bd.named Bd.method).1
  have X0 : Stand p l e ({ frames := 1, cells := 0, slots := 0, locals := 12 } : Room) s m #[(.ref x0)] below meth c s₁ [] 0 0 := Stand.of_body Bd
  have e0 : s₁.heap = h0 := by rw [← hh, Bd.state]; rfl
  have N0 := Fr.nil n0
  have pre0 : ∀ t, Steps p.tables e below (s₁.setTop (mkF m 0 #[.val (.ref x0)] [])) t → Steps p.tables e below (s₁.setTop (entryFrame m #[(.ref x0)] 1)) t := fun t k => castTop (ef_12 m x0) k
  obtain ⟨T1, X1, e1, st1⟩ := initO X0 hx hZ hown (hw _ (List.mem_of_getElem? (i := 56) rfl)) (hw _ (List.mem_of_getElem? (i := 13) rfl)) (hw _ (List.mem_of_getElem? (i := 14) rfl)) e0 (g := (mkF m 1 #[.val (.ref x0)] [(.ref x0)])) rfl (by rw [hml]; rfl) rfl (hb hby d12_1) (by decide) (W := 0) (by show 2 * 0 + _ ≤ _; exact Nat.le_of_eq rfl) (by decide)
  obtain ⟨fs, hr, hrun, hended, hW, hsame⟩ := X1.leave (v := none) (fun _ => rfl)
  refine ⟨_, _, pre0 _ ?_, hrun, hended, _, _, rfl, ?_, ⟨_, rfl⟩, hW, hsame.mono (by decide) (by decide)⟩
  · show Steps p.tables e below (s₁.setTop (mkF m 0 #[.val (.ref x0)] [])) _
    refine XS.aloadN X0.here hx rfl (hb hby d12_0) rfl rfl ?_
    show Steps p.tables e below (s₁.setTop (mkF m 1 #[.val (.ref x0)] [(.ref x0)])) _
    refine st1 _ ?_
    show Steps p.tables e below (T1.setTop (mkF m 4 #[.val (.ref x0)] [])) _
    exact X1.returnOut hx Bd.returns (hb hby d12_4) hr
  · exact ⟨rfl, N0, e1⟩
set_option maxRecDepth 65536 in
set_option maxHeartbeats 40000000 in
theorem rmj_null (l : Launch) (Z : State) (a0 : Array Value) (hw : ∀ d ∈ tables_1, d.before a0 Z = true) (ws : List Jvm.Cond) (x0 : Addr) (x1 : Addr) (x4 : Int32)  (h0 : Heap) (n0 : Nat) (Z0 : n0 ≤ h0.size) (E_x0 : Exa Z h0 x0 "com/example/wardgate/wardgate/model/JwtSettings") (F_secret_x0 : Fld Z h0 x0 "com/example/wardgate/wardgate/model/JwtSettings" "secret" "Ljava/lang/String;" .null) (F_cipher_x0 : Fld Z h0 x0 "com/example/wardgate/wardgate/model/JwtSettings" "cipher" "Lcom/example/wardgate/wardgate/model/JwtSettings$Cipher;" .null) (F_cryptoKey_x0 : Fld Z h0 x0 "com/example/wardgate/wardgate/model/JwtSettings" "cryptoKey" "Ljava/lang/String;" .null) (F_checkLogout_x0 : Fld Z h0 x0 "com/example/wardgate/wardgate/model/JwtSettings" "checkLogout" "Z" (.int (0 : Int32))) (g_x0 : n0 ≤ x0) :
    MetFree l (⟨"com/example/wardgate/wardgate/model/JwtSettings", "<init>", "(Ljava/lang/String;Lcom/example/wardgate/wardgate/model/JwtSettings$Cipher;Ljava/lang/String;Z)V"⟩ : MethodName) (head1 (Jvm.Cond.code (⟨"com/example/wardgate/wardgate/model/JwtSettings", "<init>", "(Ljava/lang/String;Lcom/example/wardgate/wardgate/model/JwtSettings$Cipher;Ljava/lang/String;Z)V"⟩ : MethodName) prog_19_method_1_code 5 none :: ws) ({ frames := 2, cells := 0, slots := 0, locals := 24 } : Room)) (fun a U => a = #[(.ref x0), (.ref x1), .null, .null, (.int x4)] ∧ Z.Warmed39 U.vm ∧ U.heap = h0) (fun _ _ _ _ _ => True) (fun _ U o U' => ∃ v L, o = .returned v ∧ (QJ Z x0 .null .null h0 n0 v U'.heap L) ∧ FrameEnd U o U' L ({ frames := 2, cells := 0, slots := 0, locals := 24 } : Room).cells ({ frames := 2, cells := 0, slots := 0, locals := 24 } : Room).slots) := by
  refine MetFree.of_bodySF (plainFor_of_name pn_11) hisR ?_
  intro p e s m args below meth c s₁ Bd hml0 hP hK
  obtain ⟨rfl, hZ, hh⟩ := hP
  have hx := Bd.exec
  have hby := Bd.bytes
  have hml : c.maxLocals = 5 := hml0
  have hown : s.vm.findClass "com/example/wardgate/wardgate/model/JwtSettings" = some m.cls := findClass_of_methodNamed Bd.named
  have hnm := (name_of_methodNamed Bd.named Bd.method).1
  have X0 : Stand p l e ({ frames := 2, cells := 0, slots := 0, locals := 24 } : Room) s m #[(.ref x0), (.ref x1), .null, .null, (.int x4)] below meth c s₁ [] 0 0 := Stand.of_body Bd
  have e0 : s₁.heap = h0 := by rw [← hh, Bd.state]; rfl
  have N0 := Fr.nil n0
  have pre0 : ∀ t, Steps p.tables e below (s₁.setTop (mkF m 0 #[.val (.ref x0), .val (.ref x1), .val .null, .val .null, .val (.int x4)] [])) t → Steps p.tables e below (s₁.setTop (entryFrame m #[(.ref x0), (.ref x1), .null, .null, (.int x4)] 5)) t := fun t k => castTop (ef_11_null m x0 x1 x4) k
  have K0 : Keep h0 h0 [x0] := Keep.refl h0 [x0]
  obtain ⟨_, _, ⟨T1, L1, k1, n1⟩, -, X1, ⟨Lc1, hQ1, l1, y1, z1⟩, st1⟩ := X0.specialBack hx (y := (⟨"java/lang/Record", "<init>", "()V"⟩ : MethodName)) rfl hown (mvT hZ (hw _ (List.mem_of_getElem? (i := 51) rfl))) (mvT hZ (hw _ (List.mem_of_getElem? (i := 52) rfl))) (mvT hZ (hw _ (List.mem_of_getElem? (i := 55) rfl))) (by decide) (backOf (W := 0) (rm12 l Z a0 hw [] x0 h0 n0 Z0) hZ (hw _ (List.mem_of_getElem? (i := 55) rfl)) (hw _ (List.mem_of_getElem? (i := 54) rfl)) (by decide) (by decide)) (g := (mkF m 1 #[.val (.ref x0), .val (.ref x1), .val .null, .val .null, .val (.int x4)] [(.ref x0)])) rfl (by rw [hml]; rfl) (Steps.refl _) (a := x0) (argsL := []) (rest := []) (lenOf pd___V rfl) rfl (by show 2 * 0 + _ ≤ _; exact Nat.le_of_eq rfl) (hb hby d11_1) (fun _ _ => ⟨rfl, e0, (by decide : 0 + 0 ≤ _), (by decide : 0 + 0 ≤ _)⟩)
  dsimp only [Pt.U, Pt.locs, Pt.cells, Pt.slots] at X1 l1 y1 z1 st1 hQ1
  subst l1 y1 z1
  obtain ⟨rfl, N1q, e1⟩ := hQ1
  have N1 := Fr.app N0 N1q
  obtain ⟨T2, h2, X2, e2, W2, st2⟩ := putF X1 hx hZ hown (host := "") (Or.inl (hw _ (List.mem_of_getElem? (i := 57) rfl))) Via.refl e1 F_secret_x0 E_x0 (Or.inr ⟨(hw _ (List.mem_of_getElem? (i := 58) rfl)), rfl, hnm⟩) (hw _ (List.mem_of_getElem? (i := 46) rfl)) (ty := (.object "java/lang/String")) (by decide) rfl rfl (g := (mkF m 37 #[.val (.ref x0), .val (.ref x1), .val .null, .val .null, .val (.int x4)] [(.ref x1), (.ref x0)])) rfl rfl (hb hby d11_37)
  have N2 := Fr.snoc X2 N1 g_x0
  have keep_3 : Keep h0 h2 [x0] := K0.wr W2 (Or.inl (List.mem_of_getElem? (i := 0) rfl))
  have E_x0_3 : Exa Z h2 x0 "com/example/wardgate/wardgate/model/JwtSettings" := E_x0.wr W2
  have siz_3 : n0 ≤ h2.size := Nat.le_trans Z0 (Keep.of_wr W2).1
  have F_secret_x0_2 : Fld Z h2 x0 "com/example/wardgate/wardgate/model/JwtSettings" "secret" "Ljava/lang/String;" (.ref x1) := F_secret_x0.same W2
  have F_cipher_x0_2 : Fld Z h2 x0 "com/example/wardgate/wardgate/model/JwtSettings" "cipher" "Lcom/example/wardgate/wardgate/model/JwtSettings$Cipher;" .null := F_cipher_x0.other W2 (Or.inr (slot_ne (Or.inr (hw _ (List.mem_of_getElem? (i := 60) rfl))) (Or.inr (hw _ (List.mem_of_getElem? (i := 58) rfl))) (by decide) (t := (.object "com/example/wardgate/wardgate/model/JwtSettings$Cipher")) (t' := (.object "java/lang/String")) (by decide) (by decide)))
  have F_cryptoKey_x0_2 : Fld Z h2 x0 "com/example/wardgate/wardgate/model/JwtSettings" "cryptoKey" "Ljava/lang/String;" .null := F_cryptoKey_x0.other W2 (Or.inr (slot_ne (Or.inr (hw _ (List.mem_of_getElem? (i := 62) rfl))) (Or.inr (hw _ (List.mem_of_getElem? (i := 58) rfl))) (by decide) (t := (.object "java/lang/String")) (t' := (.object "java/lang/String")) (by decide) (by decide)))
  have F_checkLogout_x0_2 : Fld Z h2 x0 "com/example/wardgate/wardgate/model/JwtSettings" "checkLogout" "Z" (.int (0 : Int32)) := F_checkLogout_x0.other W2 (Or.inr (slot_ne (Or.inr (hw _ (List.mem_of_getElem? (i := 64) rfl))) (Or.inr (hw _ (List.mem_of_getElem? (i := 58) rfl))) (by decide) (t := .boolean) (t' := (.object "java/lang/String")) (by decide) (by decide)))
  obtain ⟨T4, h4, X4, e4, W4, st4⟩ := putF X2 hx hZ hown (host := "") (Or.inl (hw _ (List.mem_of_getElem? (i := 59) rfl))) Via.refl e2 F_cipher_x0_2 E_x0_3 (Or.inr ⟨(hw _ (List.mem_of_getElem? (i := 60) rfl)), rfl, hnm⟩) (hw _ (List.mem_of_getElem? (i := 46) rfl)) (ty := (.object "com/example/wardgate/wardgate/model/JwtSettings$Cipher")) (by decide) rfl rfl (g := (mkF m 42 #[.val (.ref x0), .val (.ref x1), .val .null, .val .null, .val (.int x4)] [.null, (.ref x0)])) rfl rfl (hb hby d11_42)
  have N4 := Fr.snoc X4 N2 g_x0
  have keep_5 : Keep h0 h4 [x0] := keep_3.wr W4 (Or.inl (List.mem_of_getElem? (i := 0) rfl))
  have E_x0_5 : Exa Z h4 x0 "com/example/wardgate/wardgate/model/JwtSettings" := E_x0_3.wr W4
  have siz_5 : n0 ≤ h4.size := Nat.le_trans siz_3 (Keep.of_wr W4).1
  have F_secret_x0_4 : Fld Z h4 x0 "com/example/wardgate/wardgate/model/JwtSettings" "secret" "Ljava/lang/String;" (.ref x1) := F_secret_x0_2.other W4 (Or.inr (slot_ne (Or.inr (hw _ (List.mem_of_getElem? (i := 58) rfl))) (Or.inr (hw _ (List.mem_of_getElem? (i := 60) rfl))) (by decide) (t := (.object "java/lang/String")) (t' := (.object "com/example/wardgate/wardgate/model/JwtSettings$Cipher")) (by decide) (by decide)))
  have F_cipher_x0_4 : Fld Z h4 x0 "com/example/wardgate/wardgate/model/JwtSettings" "cipher" "Lcom/example/wardgate/wardgate/model/JwtSettings$Cipher;" .null := F_cipher_x0_2.same W4
  have F_cryptoKey_x0_4 : Fld Z h4 x0 "com/example/wardgate/wardgate/model/JwtSettings" "cryptoKey" "Ljava/lang/String;" .null := F_cryptoKey_x0_2.other W4 (Or.inr (slot_ne (Or.inr (hw _ (List.mem_of_getElem? (i := 62) rfl))) (Or.inr (hw _ (List.mem_of_getElem? (i := 60) rfl))) (by decide) (t := (.object "java/lang/String")) (t' := (.object "com/example/wardgate/wardgate/model/JwtSettings$Cipher")) (by decide) (by decide)))
  have F_checkLogout_x0_4 : Fld Z h4 x0 "com/example/wardgate/wardgate/model/JwtSettings" "checkLogout" "Z" (.int (0 : Int32)) := F_checkLogout_x0_2.other W4 (Or.inr (slot_ne (Or.inr (hw _ (List.mem_of_getElem? (i := 64) rfl))) (Or.inr (hw _ (List.mem_of_getElem? (i := 60) rfl))) (by decide) (t := .boolean) (t' := (.object "com/example/wardgate/wardgate/model/JwtSettings$Cipher")) (by decide) (by decide)))
  obtain ⟨T6, h6, X6, e6, W6, st6⟩ := putF X4 hx hZ hown (host := "") (Or.inl (hw _ (List.mem_of_getElem? (i := 61) rfl))) Via.refl e4 F_cryptoKey_x0_4 E_x0_5 (Or.inr ⟨(hw _ (List.mem_of_getElem? (i := 62) rfl)), rfl, hnm⟩) (hw _ (List.mem_of_getElem? (i := 46) rfl)) (ty := (.object "java/lang/String")) (by decide) rfl rfl (g := (mkF m 47 #[.val (.ref x0), .val (.ref x1), .val .null, .val .null, .val (.int x4)] [.null, (.ref x0)])) rfl rfl (hb hby d11_47)
  have N6 := Fr.snoc X6 N4 g_x0
  have keep_7 : Keep h0 h6 [x0] := keep_5.wr W6 (Or.inl (List.mem_of_getElem? (i := 0) rfl))
  have E_x0_7 : Exa Z h6 x0 "com/example/wardgate/wardgate/model/JwtSettings" := E_x0_5.wr W6
  have siz_7 : n0 ≤ h6.size := Nat.le_trans siz_5 (Keep.of_wr W6).1
  have F_secret_x0_6 : Fld Z h6 x0 "com/example/wardgate/wardgate/model/JwtSettings" "secret" "Ljava/lang/String;" (.ref x1) := F_secret_x0_4.other W6 (Or.inr (slot_ne (Or.inr (hw _ (List.mem_of_getElem? (i := 58) rfl))) (Or.inr (hw _ (List.mem_of_getElem? (i := 62) rfl))) (by decide) (t := (.object "java/lang/String")) (t' := (.object "java/lang/String")) (by decide) (by decide)))
  have F_cipher_x0_6 : Fld Z h6 x0 "com/example/wardgate/wardgate/model/JwtSettings" "cipher" "Lcom/example/wardgate/wardgate/model/JwtSettings$Cipher;" .null := F_cipher_x0_4.other W6 (Or.inr (slot_ne (Or.inr (hw _ (List.mem_of_getElem? (i := 60) rfl))) (Or.inr (hw _ (List.mem_of_getElem? (i := 62) rfl))) (by decide) (t := (.object "com/example/wardgate/wardgate/model/JwtSettings$Cipher")) (t' := (.object "java/lang/String")) (by decide) (by decide)))
  have F_cryptoKey_x0_6 : Fld Z h6 x0 "com/example/wardgate/wardgate/model/JwtSettings" "cryptoKey" "Ljava/lang/String;" .null := F_cryptoKey_x0_4.same W6
  have F_checkLogout_x0_6 : Fld Z h6 x0 "com/example/wardgate/wardgate/model/JwtSettings" "checkLogout" "Z" (.int (0 : Int32)) := F_checkLogout_x0_4.other W6 (Or.inr (slot_ne (Or.inr (hw _ (List.mem_of_getElem? (i := 64) rfl))) (Or.inr (hw _ (List.mem_of_getElem? (i := 62) rfl))) (by decide) (t := .boolean) (t' := (.object "java/lang/String")) (by decide) (by decide)))
  obtain ⟨T8, h8, X8, e8, W8, st8⟩ := putFN X6 hx hZ hown (hw _ (List.mem_of_getElem? (i := 63) rfl)) Via.refl e6 F_checkLogout_x0_6 E_x0_7 (Or.inr ⟨(hw _ (List.mem_of_getElem? (i := 64) rfl)), rfl, hnm⟩) (hw _ (List.mem_of_getElem? (i := 46) rfl)) (ty := .boolean) (v' := (.int ((x4 &&& 1)))) (by decide) rfl (fits_nar_bool _) (g := (mkF m 53 #[.val (.ref x0), .val (.ref x1), .val .null, .val .null, .val (.int x4)] [(.int x4), (.ref x0)])) rfl rfl (hb hby d11_53)
  have N8 := Fr.snoc X8 N6 g_x0
  have keep_9 : Keep h0 h8 [x0] := keep_7.wr W8 (Or.inl (List.mem_of_getElem? (i := 0) rfl))
  have E_x0_9 : Exa Z h8 x0 "com/example/wardgate/wardgate/model/JwtSettings" := E_x0_7.wr W8
  have siz_9 : n0 ≤ h8.size := Nat.le_trans siz_7 (Keep.of_wr W8).1
  have F_secret_x0_8 : Fld Z h8 x0 "com/example/wardgate/wardgate/model/JwtSettings" "secret" "Ljava/lang/String;" (.ref x1) := F_secret_x0_6.other W8 (Or.inr (slot_ne (Or.inr (hw _ (List.mem_of_getElem? (i := 58) rfl))) (Or.inr (hw _ (List.mem_of_getElem? (i := 64) rfl))) (by decide) (t := (.object "java/lang/String")) (t' := .boolean) (by decide) (by decide)))
  have F_cipher_x0_8 : Fld Z h8 x0 "com/example/wardgate/wardgate/model/JwtSettings" "cipher" "Lcom/example/wardgate/wardgate/model/JwtSettings$Cipher;" .null := F_cipher_x0_6.other W8 (Or.inr (slot_ne (Or.inr (hw _ (List.mem_of_getElem? (i := 60) rfl))) (Or.inr (hw _ (List.mem_of_getElem? (i := 64) rfl))) (by decide) (t := (.object "com/example/wardgate/wardgate/model/JwtSettings$Cipher")) (t' := .boolean) (by decide) (by decide)))
  have F_cryptoKey_x0_8 : Fld Z h8 x0 "com/example/wardgate/wardgate/model/JwtSettings" "cryptoKey" "Ljava/lang/String;" .null := F_cryptoKey_x0_6.other W8 (Or.inr (slot_ne (Or.inr (hw _ (List.mem_of_getElem? (i := 62) rfl))) (Or.inr (hw _ (List.mem_of_getElem? (i := 64) rfl))) (by decide) (t := (.object "java/lang/String")) (t' := .boolean) (by decide) (by decide)))
  have F_checkLogout_x0_8 : Fld Z h8 x0 "com/example/wardgate/wardgate/model/JwtSettings" "checkLogout" "Z" (.int ((x4 &&& 1))) := F_checkLogout_x0_6.same W8
  obtain ⟨fs, hr, hrun, hended, hW, hsame⟩ := X8.leave (v := none) (fun _ => rfl)
  refine ⟨_, _, pre0 _ ?_, hrun, hended, _, _, rfl, ?_, ⟨_, rfl⟩, hW, hsame.mono (by decide) (by decide)⟩
  · show Steps p.tables e below (s₁.setTop (mkF m 0 #[.val (.ref x0), .val (.ref x1), .val .null, .val .null, .val (.int x4)] [])) _
    refine XS.aloadN X0.here hx rfl (hb hby d11_0) rfl rfl ?_
    show Steps p.tables e below (s₁.setTop (mkF m 1 #[.val (.ref x0), .val (.ref x1), .val .null, .val .null, .val (.int x4)] [(.ref x0)])) _
    refine st1.trans ?_
    show Steps p.tables e below (T1.setTop (mkF m 4 #[.val (.ref x0), .val (.ref x1), .val .null, .val .null, .val (.int x4)] [])) _
    refine XS.aloadN X1.here hx rfl (hb hby d11_4) rfl rfl ?_
    show Steps p.tables e below (T1.setTop (mkF m 5 #[.val (.ref x0), .val (.ref x1), .val .null, .val .null, .val (.int x4)] [.null])) _
    refine XS.ifnonnullNo X1.here hx rfl (hb hby d11_5) rfl ?_
    show Steps p.tables e below (T1.setTop (mkF m 8 #[.val (.ref x0), .val (.ref x1), .val .null, .val .null, .val (.int x4)] [])) _
    refine XS.iconst X1.here hx rfl (hb hby d11_8) ?_
    show Steps p.tables e below (T1.setTop (mkF m 9 #[.val (.ref x0), .val (.ref x1), .val .null, .val .null, .val (.int x4)] [(.int (1 : Int32))])) _
    refine XS.goto X1.here hx rfl (pc0 := 9) (pc' := 13) rfl (hb hby d11_9) (by decide) (by decide) ?_
    show Steps p.tables e below (T1.setTop (mkF m 13 #[.val (.ref x0), .val (.ref x1), .val .null, .val .null, .val (.int x4)] [(.int (1 : Int32))])) _
    refine XS.aloadN X1.here hx rfl (hb hby d11_13) rfl rfl ?_
    show Steps p.tables e below (T1.setTop (mkF m 14 #[.val (.ref x0), .val (.ref x1), .val .null, .val .null, .val (.int x4)] [.null, (.int (1 : Int32))])) _
    refine XS.ifnonnullNo X1.here hx rfl (hb hby d11_14) rfl ?_
    show Steps p.tables e below (T1.setTop (mkF m 17 #[.val (.ref x0), .val (.ref x1), .val .null, .val .null, .val (.int x4)] [(.int (1 : Int32))])) _
    refine XS.iconst X1.here hx rfl (hb hby d11_17) ?_
    show Steps p.tables e below (T1.setTop (mkF m 18 #[.val (.ref x0), .val (.ref x1), .val .null, .val .null, .val (.int x4)] [(.int (1 : Int32)), (.int (1 : Int32))])) _
    refine XS.goto X1.here hx rfl (pc0 := 18) (pc' := 22) rfl (hb hby d11_18) (by decide) (by decide) ?_
    show Steps p.tables e below (T1.setTop (mkF m 22 #[.val (.ref x0), .val (.ref x1), .val .null, .val .null, .val (.int x4)] [(.int (1 : Int32)), (.int (1 : Int32))])) _
    refine XS.icmpYes X1.here hx rfl (pc0 := 22) (pc' := 35) rfl (hb hby d11_22) rfl (teq (by decide : (1 : Int32) = (1 : Int32))).1 (by decide) (by decide) ?_
    show Steps p.tables e below (T1.setTop (mkF m 35 #[.val (.ref x0), .val (.ref x1), .val .null, .val .null, .val (.int x4)] [])) _
    refine XS.aloadN X1.here hx rfl (hb hby d11_35) rfl rfl ?_
    show Steps p.tables e below (T1.setTop (mkF m 36 #[.val (.ref x0), .val (.ref x1), .val .null, .val .null, .val (.int x4)] [(.ref x0)])) _
    refine XS.aloadN X1.here hx rfl (hb hby d11_36) rfl rfl ?_
    show Steps p.tables e below (T1.setTop (mkF m 37 #[.val (.ref x0), .val (.ref x1), .val .null, .val .null, .val (.int x4)] [(.ref x1), (.ref x0)])) _
    refine st2 _ ?_
    show Steps p.tables e below (T2.setTop (mkF m 40 #[.val (.ref x0), .val (.ref x1), .val .null, .val .null, .val (.int x4)] [])) _
    refine XS.aloadN X2.here hx rfl (hb hby d11_40) rfl rfl ?_
    show Steps p.tables e below (T2.setTop (mkF m 41 #[.val (.ref x0), .val (.ref x1), .val .null, .val .null, .val (.int x4)] [(.ref x0)])) _
    refine XS.aloadN X2.here hx rfl (hb hby d11_41) rfl rfl ?_
    show Steps p.tables e below (T2.setTop (mkF m 42 #[.val (.ref x0), .val (.ref x1), .val .null, .val .null, .val (.int x4)] [.null, (.ref x0)])) _
    refine st4 _ ?_
    show Steps p.tables e below (T4.setTop (mkF m 45 #[.val (.ref x0), .val (.ref x1), .val .null, .val .null, .val (.int x4)] [])) _
    refine XS.aloadN X4.here hx rfl (hb hby d11_45) rfl rfl ?_
    show Steps p.tables e below (T4.setTop (mkF m 46 #[.val (.ref x0), .val (.ref x1), .val .null, .val .null, .val (.int x4)] [(.ref x0)])) _
    refine XS.aloadN X4.here hx rfl (hb hby d11_46) rfl rfl ?_
    show Steps p.tables e below (T4.setTop (mkF m 47 #[.val (.ref x0), .val (.ref x1), .val .null, .val .null, .val (.int x4)] [.null, (.ref x0)])) _
    refine st6 _ ?_
    show Steps p.tables e below (T6.setTop (mkF m 50 #[.val (.ref x0), .val (.ref x1), .val .null, .val .null, .val (.int x4)] [])) _
    refine XS.aloadN X6.here hx rfl (hb hby d11_50) rfl rfl ?_
    show Steps p.tables e below (T6.setTop (mkF m 51 #[.val (.ref x0), .val (.ref x1), .val .null, .val .null, .val (.int x4)] [(.ref x0)])) _
    refine XS.iload X6.here hx rfl (hb hby d11_51) rfl ?_
    show Steps p.tables e below (T6.setTop (mkF m 53 #[.val (.ref x0), .val (.ref x1), .val .null, .val .null, .val (.int x4)] [(.int x4), (.ref x0)])) _
    refine st8 _ ?_
    show Steps p.tables e below (T8.setTop (mkF m 56 #[.val (.ref x0), .val (.ref x1), .val .null, .val .null, .val (.int x4)] [])) _
    exact X8.returnOut hx Bd.returns (hb hby d11_56) hr
  · exact (by
      have eT : (T8.setFrames fs).heap = h8 := e8
      rw [eT]; exact ⟨rfl, N8, keep_9, E_x0_9, F_cipher_x0_8, F_cryptoKey_x0_8⟩)
set_option maxRecDepth 65536 in
set_option maxHeartbeats 40000000 in
theorem rmj_key (l : Launch) (Z : State) (a0 : Array Value) (hw : ∀ d ∈ tables_1, d.before a0 Z = true) (ws : List Jvm.Cond) (x0 : Addr) (x1 : Addr) (x2 : Addr) (x3 : Addr) (x4 : Int32)  (h0 : Heap) (n0 : Nat) (Z0 : n0 ≤ h0.size) (E_x0 : Exa Z h0 x0 "com/example/wardgate/wardgate/model/JwtSettings") (F_secret_x0 : Fld Z h0 x0 "com/example/wardgate/wardgate/model/JwtSettings" "secret" "Ljava/lang/String;" .null) (F_cipher_x0 : Fld Z h0 x0 "com/example/wardgate/wardgate/model/JwtSettings" "cipher" "Lcom/example/wardgate/wardgate/model/JwtSettings$Cipher;" .null) (F_cryptoKey_x0 : Fld Z h0 x0 "com/example/wardgate/wardgate/model/JwtSettings" "cryptoKey" "Ljava/lang/String;" .null) (F_checkLogout_x0 : Fld Z h0 x0 "com/example/wardgate/wardgate/model/JwtSettings" "checkLogout" "Z" (.int (0 : Int32))) (g_x0 : n0 ≤ x0) :
    MetFree l (⟨"com/example/wardgate/wardgate/model/JwtSettings", "<init>", "(Ljava/lang/String;Lcom/example/wardgate/wardgate/model/JwtSettings$Cipher;Ljava/lang/String;Z)V"⟩ : MethodName) (head1 (Jvm.Cond.code (⟨"com/example/wardgate/wardgate/model/JwtSettings", "<init>", "(Ljava/lang/String;Lcom/example/wardgate/wardgate/model/JwtSettings$Cipher;Ljava/lang/String;Z)V"⟩ : MethodName) prog_19_method_1_code 5 none :: ws) ({ frames := 2, cells := 0, slots := 0, locals := 24 } : Room)) (fun a U => a = #[(.ref x0), (.ref x1), (.ref x2), (.ref x3), (.int x4)] ∧ Z.Warmed39 U.vm ∧ U.heap = h0) (fun _ _ _ _ _ => True) (fun _ U o U' => ∃ v L, o = .returned v ∧ (QJ Z x0 (.ref x2) (.ref x3) h0 n0 v U'.heap L) ∧ FrameEnd U o U' L ({ frames := 2, cells := 0, slots := 0, locals := 24 } : Room).cells ({ frames := 2, cells := 0, slots := 0, locals := 24 } : Room).slots) := by
  refine MetFree.of_bodySF (plainFor_of_name pn_11) hisR ?_
  intro p e s m args below meth c s₁ Bd hml0 hP hK
  obtain ⟨rfl, hZ, hh⟩ := hP
  have hx := Bd.exec
  have hby := Bd.bytes
  have hml : c.maxLocals = 5 := hml0
  have hown : s.vm.findClass "com/example/wardgate/wardgate/model/JwtSettings" = some m.cls := findClass_of_methodNamed Bd.named
  have hnm := (name_of_methodNamed Bd.named Bd.method).1
  have X0 : Stand p l e ({ frames := 2, cells := 0, slots := 0, locals := 24 } : Room) s m #[(.ref x0), (.ref x1), (.ref x2), (.ref x3), (.int x4)] below meth c s₁ [] 0 0 := Stand.of_body Bd
  have e0 : s₁.heap = h0 := by rw [← hh, Bd.state]; rfl
  have N0 := Fr.nil n0
  have pre0 : ∀ t, Steps p.tables e below (s₁.setTop (mkF m 0 #[.val (.ref x0), .val (.ref x1), .val (.ref x2), .val (.ref x3), .val (.int x4)] [])) t → Steps p.tables e below (s₁.setTop (entryFrame m #[(.ref x0), (.ref x1), (.ref x2), (.ref x3), (.int x4)] 5)) t := fun t k => castTop (ef_11 m x0 x1 x2 x3 x4) k
  have K0 : Keep h0 h0 [x0] := Keep.refl h0 [x0]
  obtain ⟨_, _, ⟨T1, L1, k1, n1⟩, -, X1, ⟨Lc1, hQ1, l1, y1, z1⟩, st1⟩ := X0.specialBack hx (y := (⟨"java/lang/Record", "<init>", "()V"⟩ : MethodName)) rfl hown (mvT hZ (hw _ (List.mem_of_getElem? (i := 51) rfl))) (mvT hZ (hw _ (List.mem_of_getElem? (i := 52) rfl))) (mvT hZ (hw _ (List.mem_of_getElem? (i := 55) rfl))) (by decide) (backOf (W := 0) (rm12 l Z a0 hw [] x0 h0 n0 Z0) hZ (hw _ (List.mem_of_getElem? (i := 55) rfl)) (hw _ (List.mem_of_getElem? (i := 54) rfl)) (by decide) (by decide)) (g := (mkF m 1 #[.val (.ref x0), .val (.ref x1), .val (.ref x2), .val (.ref x3), .val (.int x4)] [(.ref x0)])) rfl (by rw [hml]; rfl) (Steps.refl _) (a := x0) (argsL := []) (rest := []) (lenOf pd___V rfl) rfl (by show 2 * 0 + _ ≤ _; exact Nat.le_of_eq rfl) (hb hby d11_1) (fun _ _ => ⟨rfl, e0, (by decide : 0 + 0 ≤ _), (by decide : 0 + 0 ≤ _)⟩)
  dsimp only [Pt.U, Pt.locs, Pt.cells, Pt.slots] at X1 l1 y1 z1 st1 hQ1
  subst l1 y1 z1
  obtain ⟨rfl, N1q, e1⟩ := hQ1
  have N1 := Fr.app N0 N1q
  obtain ⟨T2, h2, X2, e2, W2, st2⟩ := putF X1 hx hZ hown (host := "") (Or.inl (hw _ (List.mem_of_getElem? (i := 57) rfl))) Via.refl e1 F_secret_x0 E_x0 (Or.inr ⟨(hw _ (List.mem_of_getElem? (i := 58) rfl)), rfl, hnm⟩) (hw _ (List.mem_of_getElem? (i := 46) rfl)) (ty := (.object "java/lang/String")) (by decide) rfl rfl (g := (mkF m 37 #[.val (.ref x0), .val (.ref x1), .val (.ref x2), .val (.ref x3), .val (.int x4)] [(.ref x1), (.ref x0)])) rfl rfl (hb hby d11_37)
  have N2 := Fr.snoc X2 N1 g_x0
  have keep_3 : Keep h0 h2 [x0] := K0.wr W2 (Or.inl (List.mem_of_getElem? (i := 0) rfl))
  have E_x0_3 : Exa Z h2 x0 "com/example/wardgate/wardgate/model/JwtSettings" := E_x0.wr W2
  have siz_3 : n0 ≤ h2.size := Nat.le_trans Z0 (Keep.of_wr W2).1
  have F_secret_x0_2 : Fld Z h2 x0 "com/example/wardgate/wardgate/model/JwtSettings" "secret" "Ljava/lang/String;" (.ref x1) := F_secret_x0.same W2
  have F_cipher_x0_2 : Fld Z h2 x0 "com/example/wardgate/wardgate/model/JwtSettings" "cipher" "Lcom/example/wardgate/wardgate/model/JwtSettings$Cipher;" .null := F_cipher_x0.other W2 (Or.inr (slot_ne (Or.inr (hw _ (List.mem_of_getElem? (i := 60) rfl))) (Or.inr (hw _ (List.mem_of_getElem? (i := 58) rfl))) (by decide) (t := (.object "com/example/wardgate/wardgate/model/JwtSettings$Cipher")) (t' := (.object "java/lang/String")) (by decide) (by decide)))
  have F_cryptoKey_x0_2 : Fld Z h2 x0 "com/example/wardgate/wardgate/model/JwtSettings" "cryptoKey" "Ljava/lang/String;" .null := F_cryptoKey_x0.other W2 (Or.inr (slot_ne (Or.inr (hw _ (List.mem_of_getElem? (i := 62) rfl))) (Or.inr (hw _ (List.mem_of_getElem? (i := 58) rfl))) (by decide) (t := (.object "java/lang/String")) (t' := (.object "java/lang/String")) (by decide) (by decide)))
  have F_checkLogout_x0_2 : Fld Z h2 x0 "com/example/wardgate/wardgate/model/JwtSettings" "checkLogout" "Z" (.int (0 : Int32)) := F_checkLogout_x0.other W2 (Or.inr (slot_ne (Or.inr (hw _ (List.mem_of_getElem? (i := 64) rfl))) (Or.inr (hw _ (List.mem_of_getElem? (i := 58) rfl))) (by decide) (t := .boolean) (t' := (.object "java/lang/String")) (by decide) (by decide)))
  obtain ⟨T4, h4, X4, e4, W4, st4⟩ := putF X2 hx hZ hown (host := "") (Or.inl (hw _ (List.mem_of_getElem? (i := 59) rfl))) Via.refl e2 F_cipher_x0_2 E_x0_3 (Or.inr ⟨(hw _ (List.mem_of_getElem? (i := 60) rfl)), rfl, hnm⟩) (hw _ (List.mem_of_getElem? (i := 46) rfl)) (ty := (.object "com/example/wardgate/wardgate/model/JwtSettings$Cipher")) (by decide) rfl rfl (g := (mkF m 42 #[.val (.ref x0), .val (.ref x1), .val (.ref x2), .val (.ref x3), .val (.int x4)] [(.ref x2), (.ref x0)])) rfl rfl (hb hby d11_42)
  have N4 := Fr.snoc X4 N2 g_x0
  have keep_5 : Keep h0 h4 [x0] := keep_3.wr W4 (Or.inl (List.mem_of_getElem? (i := 0) rfl))
  have E_x0_5 : Exa Z h4 x0 "com/example/wardgate/wardgate/model/JwtSettings" := E_x0_3.wr W4
  have siz_5 : n0 ≤ h4.size := Nat.le_trans siz_3 (Keep.of_wr W4).1
  have F_secret_x0_4 : Fld Z h4 x0 "com/example/wardgate/wardgate/model/JwtSettings" "secret" "Ljava/lang/String;" (.ref x1) := F_secret_x0_2.other W4 (Or.inr (slot_ne (Or.inr (hw _ (List.mem_of_getElem? (i := 58) rfl))) (Or.inr (hw _ (List.mem_of_getElem? (i := 60) rfl))) (by decide) (t := (.object "java/lang/String")) (t' := (.object "com/example/wardgate/wardgate/model/JwtSettings$Cipher")) (by decide) (by decide)))
  have F_cipher_x0_4 : Fld Z h4 x0 "com/example/wardgate/wardgate/model/JwtSettings" "cipher" "Lcom/example/wardgate/wardgate/model/JwtSettings$Cipher;" (.ref x2) := F_cipher_x0_2.same W4
  have F_cryptoKey_x0_4 : Fld Z h4 x0 "com/example/wardgate/wardgate/model/JwtSettings" "cryptoKey" "Ljava/lang/String;" .null := F_cryptoKey_x0_2.other W4 (Or.inr (slot_ne (Or.inr (hw _ (List.mem_of_getElem? (i := 62) rfl))) (Or.inr (hw _ (List.mem_of_getElem? (i := 60) rfl))) (by decide) (t := (.object "java/lang/String")) (t' := (.object "com/example/wardgate/wardgate/model/JwtSettings$Cipher")) (by decide) (by decide)))
  have F_checkLogout_x0_4 : Fld Z h4 x0 "com/example/wardgate/wardgate/model/JwtSettings" "checkLogout" "Z" (.int (0 : Int32)) := F_checkLogout_x0_2.other W4 (Or.inr (slot_ne (Or.inr (hw _ (List.mem_of_getElem? (i := 64) rfl))) (Or.inr (hw _ (List.mem_of_getElem? (i := 60) rfl))) (by decide) (t := .boolean) (t' := (.object "com/example/wardgate/wardgate/model/JwtSettings$Cipher")) (by decide) (by decide)))
  obtain ⟨T6, h6, X6, e6, W6, st6⟩ := putF X4 hx hZ hown (host := "") (Or.inl (hw _ (List.mem_of_getElem? (i := 61) rfl))) Via.refl e4 F_cryptoKey_x0_4 E_x0_5 (Or.inr ⟨(hw _ (List.mem_of_getElem? (i := 62) rfl)), rfl, hnm⟩) (hw _ (List.mem_of_getElem? (i := 46) rfl)) (ty := (.object "java/lang/String")) (by decide) rfl rfl (g := (mkF m 47 #[.val (.ref x0), .val (.ref x1), .val (.ref x2), .val (.ref x3), .val (.int x4)] [(.ref x3), (.ref x0)])) rfl rfl (hb hby d11_47)
  have N6 := Fr.snoc X6 N4 g_x0
  have keep_7 : Keep h0 h6 [x0] := keep_5.wr W6 (Or.inl (List.mem_of_getElem? (i := 0) rfl))
  have E_x0_7 : Exa Z h6 x0 "com/example/wardgate/wardgate/model/JwtSettings" := E_x0_5.wr W6
  have siz_7 : n0 ≤ h6.size := Nat.le_trans siz_5 (Keep.of_wr W6).1
  have F_secret_x0_6 : Fld Z h6 x0 "com/example/wardgate/wardgate/model/JwtSettings" "secret" "Ljava/lang/String;" (.ref x1) := F_secret_x0_4.other W6 (Or.inr (slot_ne (Or.inr (hw _ (List.mem_of_getElem? (i := 58) rfl))) (Or.inr (hw _ (List.mem_of_getElem? (i := 62) rfl))) (by decide) (t := (.object "java/lang/String")) (t' := (.object "java/lang/String")) (by decide) (by decide)))
  have F_cipher_x0_6 : Fld Z h6 x0 "com/example/wardgate/wardgate/model/JwtSettings" "cipher" "Lcom/example/wardgate/wardgate/model/JwtSettings$Cipher;" (.ref x2) := F_cipher_x0_4.other W6 (Or.inr (slot_ne (Or.inr (hw _ (List.mem_of_getElem? (i := 60) rfl))) (Or.inr (hw _ (List.mem_of_getElem? (i := 62) rfl))) (by decide) (t := (.object "com/example/wardgate/wardgate/model/JwtSettings$Cipher")) (t' := (.object "java/lang/String")) (by decide) (by decide)))
  have F_cryptoKey_x0_6 : Fld Z h6 x0 "com/example/wardgate/wardgate/model/JwtSettings" "cryptoKey" "Ljava/lang/String;" (.ref x3) := F_cryptoKey_x0_4.same W6
  have F_checkLogout_x0_6 : Fld Z h6 x0 "com/example/wardgate/wardgate/model/JwtSettings" "checkLogout" "Z" (.int (0 : Int32)) := F_checkLogout_x0_4.other W6 (Or.inr (slot_ne (Or.inr (hw _ (List.mem_of_getElem? (i := 64) rfl))) (Or.inr (hw _ (List.mem_of_getElem? (i := 62) rfl))) (by decide) (t := .boolean) (t' := (.object "java/lang/String")) (by decide) (by decide)))
  obtain ⟨T8, h8, X8, e8, W8, st8⟩ := putFN X6 hx hZ hown (hw _ (List.mem_of_getElem? (i := 63) rfl)) Via.refl e6 F_checkLogout_x0_6 E_x0_7 (Or.inr ⟨(hw _ (List.mem_of_getElem? (i := 64) rfl)), rfl, hnm⟩) (hw _ (List.mem_of_getElem? (i := 46) rfl)) (ty := .boolean) (v' := (.int ((x4 &&& 1)))) (by decide) rfl (fits_nar_bool _) (g := (mkF m 53 #[.val (.ref x0), .val (.ref x1), .val (.ref x2), .val (.ref x3), .val (.int x4)] [(.int x4), (.ref x0)])) rfl rfl (hb hby d11_53)
  have N8 := Fr.snoc X8 N6 g_x0
  have keep_9 : Keep h0 h8 [x0] := keep_7.wr W8 (Or.inl (List.mem_of_getElem? (i := 0) rfl))
  have E_x0_9 : Exa Z h8 x0 "com/example/wardgate/wardgate/model/JwtSettings" := E_x0_7.wr W8
  have siz_9 : n0 ≤ h8.size := Nat.le_trans siz_7 (Keep.of_wr W8).1
  have F_secret_x0_8 : Fld Z h8 x0 "com/example/wardgate/wardgate/model/JwtSettings" "secret" "Ljava/lang/String;" (.ref x1) := F_secret_x0_6.other W8 (Or.inr (slot_ne (Or.inr (hw _ (List.mem_of_getElem? (i := 58) rfl))) (Or.inr (hw _ (List.mem_of_getElem? (i := 64) rfl))) (by decide) (t := (.object "java/lang/String")) (t' := .boolean) (by decide) (by decide)))
  have F_cipher_x0_8 : Fld Z h8 x0 "com/example/wardgate/wardgate/model/JwtSettings" "cipher" "Lcom/example/wardgate/wardgate/model/JwtSettings$Cipher;" (.ref x2) := F_cipher_x0_6.other W8 (Or.inr (slot_ne (Or.inr (hw _ (List.mem_of_getElem? (i := 60) rfl))) (Or.inr (hw _ (List.mem_of_getElem? (i := 64) rfl))) (by decide) (t := (.object "com/example/wardgate/wardgate/model/JwtSettings$Cipher")) (t' := .boolean) (by decide) (by decide)))
  have F_cryptoKey_x0_8 : Fld Z h8 x0 "com/example/wardgate/wardgate/model/JwtSettings" "cryptoKey" "Ljava/lang/String;" (.ref x3) := F_cryptoKey_x0_6.other W8 (Or.inr (slot_ne (Or.inr (hw _ (List.mem_of_getElem? (i := 62) rfl))) (Or.inr (hw _ (List.mem_of_getElem? (i := 64) rfl))) (by decide) (t := (.object "java/lang/String")) (t' := .boolean) (by decide) (by decide)))
  have F_checkLogout_x0_8 : Fld Z h8 x0 "com/example/wardgate/wardgate/model/JwtSettings" "checkLogout" "Z" (.int ((x4 &&& 1))) := F_checkLogout_x0_6.same W8
  obtain ⟨fs, hr, hrun, hended, hW, hsame⟩ := X8.leave (v := none) (fun _ => rfl)
  refine ⟨_, _, pre0 _ ?_, hrun, hended, _, _, rfl, ?_, ⟨_, rfl⟩, hW, hsame.mono (by decide) (by decide)⟩
  · show Steps p.tables e below (s₁.setTop (mkF m 0 #[.val (.ref x0), .val (.ref x1), .val (.ref x2), .val (.ref x3), .val (.int x4)] [])) _
    refine XS.aloadN X0.here hx rfl (hb hby d11_0) rfl rfl ?_
    show Steps p.tables e below (s₁.setTop (mkF m 1 #[.val (.ref x0), .val (.ref x1), .val (.ref x2), .val (.ref x3), .val (.int x4)] [(.ref x0)])) _
    refine st1.trans ?_
    show Steps p.tables e below (T1.setTop (mkF m 4 #[.val (.ref x0), .val (.ref x1), .val (.ref x2), .val (.ref x3), .val (.int x4)] [])) _
    refine XS.aloadN X1.here hx rfl (hb hby d11_4) rfl rfl ?_
    show Steps p.tables e below (T1.setTop (mkF m 5 #[.val (.ref x0), .val (.ref x1), .val (.ref x2), .val (.ref x3), .val (.int x4)] [(.ref x2)])) _
    refine XS.ifnonnullYes X1.here hx rfl (pc0 := 5) (pc' := 12) rfl (hb hby d11_5) rfl (by decide) (by decide) ?_
    show Steps p.tables e below (T1.setTop (mkF m 12 #[.val (.ref x0), .val (.ref x1), .val (.ref x2), .val (.ref x3), .val (.int x4)] [])) _
    refine XS.iconst X1.here hx rfl (hb hby d11_12) ?_
    show Steps p.tables e below (T1.setTop (mkF m 13 #[.val (.ref x0), .val (.ref x1), .val (.ref x2), .val (.ref x3), .val (.int x4)] [(.int (0 : Int32))])) _
    refine XS.aloadN X1.here hx rfl (hb hby d11_13) rfl rfl ?_
    show Steps p.tables e below (T1.setTop (mkF m 14 #[.val (.ref x0), .val (.ref x1), .val (.ref x2), .val (.ref x3), .val (.int x4)] [(.ref x3), (.int (0 : Int32))])) _
    refine XS.ifnonnullYes X1.here hx rfl (pc0 := 14) (pc' := 21) rfl (hb hby d11_14) rfl (by decide) (by decide) ?_
    show Steps p.tables e below (T1.setTop (mkF m 21 #[.val (.ref x0), .val (.ref x1), .val (.ref x2), .val (.ref x3), .val (.int x4)] [(.int (0 : Int32))])) _
    refine XS.iconst X1.here hx rfl (hb hby d11_21) ?_
    show Steps p.tables e below (T1.setTop (mkF m 22 #[.val (.ref x0), .val (.ref x1), .val (.ref x2), .val (.ref x3), .val (.int x4)] [(.int (0 : Int32)), (.int (0 : Int32))])) _
    refine XS.icmpYes X1.here hx rfl (pc0 := 22) (pc' := 35) rfl (hb hby d11_22) rfl (teq (by decide : (0 : Int32) = (0 : Int32))).1 (by decide) (by decide) ?_
    show Steps p.tables e below (T1.setTop (mkF m 35 #[.val (.ref x0), .val (.ref x1), .val (.ref x2), .val (.ref x3), .val (.int x4)] [])) _
    refine XS.aloadN X1.here hx rfl (hb hby d11_35) rfl rfl ?_
    show Steps p.tables e below (T1.setTop (mkF m 36 #[.val (.ref x0), .val (.ref x1), .val (.ref x2), .val (.ref x3), .val (.int x4)] [(.ref x0)])) _
    refine XS.aloadN X1.here hx rfl (hb hby d11_36) rfl rfl ?_
    show Steps p.tables e below (T1.setTop (mkF m 37 #[.val (.ref x0), .val (.ref x1), .val (.ref x2), .val (.ref x3), .val (.int x4)] [(.ref x1), (.ref x0)])) _
    refine st2 _ ?_
    show Steps p.tables e below (T2.setTop (mkF m 40 #[.val (.ref x0), .val (.ref x1), .val (.ref x2), .val (.ref x3), .val (.int x4)] [])) _
    refine XS.aloadN X2.here hx rfl (hb hby d11_40) rfl rfl ?_
    show Steps p.tables e below (T2.setTop (mkF m 41 #[.val (.ref x0), .val (.ref x1), .val (.ref x2), .val (.ref x3), .val (.int x4)] [(.ref x0)])) _
    refine XS.aloadN X2.here hx rfl (hb hby d11_41) rfl rfl ?_
    show Steps p.tables e below (T2.setTop (mkF m 42 #[.val (.ref x0), .val (.ref x1), .val (.ref x2), .val (.ref x3), .val (.int x4)] [(.ref x2), (.ref x0)])) _
    refine st4 _ ?_
    show Steps p.tables e below (T4.setTop (mkF m 45 #[.val (.ref x0), .val (.ref x1), .val (.ref x2), .val (.ref x3), .val (.int x4)] [])) _
    refine XS.aloadN X4.here hx rfl (hb hby d11_45) rfl rfl ?_
    show Steps p.tables e below (T4.setTop (mkF m 46 #[.val (.ref x0), .val (.ref x1), .val (.ref x2), .val (.ref x3), .val (.int x4)] [(.ref x0)])) _
    refine XS.aloadN X4.here hx rfl (hb hby d11_46) rfl rfl ?_
    show Steps p.tables e below (T4.setTop (mkF m 47 #[.val (.ref x0), .val (.ref x1), .val (.ref x2), .val (.ref x3), .val (.int x4)] [(.ref x3), (.ref x0)])) _
    refine st6 _ ?_
    show Steps p.tables e below (T6.setTop (mkF m 50 #[.val (.ref x0), .val (.ref x1), .val (.ref x2), .val (.ref x3), .val (.int x4)] [])) _
    refine XS.aloadN X6.here hx rfl (hb hby d11_50) rfl rfl ?_
    show Steps p.tables e below (T6.setTop (mkF m 51 #[.val (.ref x0), .val (.ref x1), .val (.ref x2), .val (.ref x3), .val (.int x4)] [(.ref x0)])) _
    refine XS.iload X6.here hx rfl (hb hby d11_51) rfl ?_
    show Steps p.tables e below (T6.setTop (mkF m 53 #[.val (.ref x0), .val (.ref x1), .val (.ref x2), .val (.ref x3), .val (.int x4)] [(.int x4), (.ref x0)])) _
    refine st8 _ ?_
    show Steps p.tables e below (T8.setTop (mkF m 56 #[.val (.ref x0), .val (.ref x1), .val (.ref x2), .val (.ref x3), .val (.int x4)] [])) _
    exact X8.returnOut hx Bd.returns (hb hby d11_56) hr
  · exact (by
      have eT : (T8.setFrames fs).heap = h8 := e8
      rw [eT]; exact ⟨rfl, N8, keep_9, E_x0_9, F_cipher_x0_8, F_cryptoKey_x0_8⟩)
set_option maxRecDepth 65536 in
set_option maxHeartbeats 40000000 in
theorem rms_null (l : Launch) (Z : State) (a0 : Array Value) (hw : ∀ d ∈ tables_1, d.before a0 Z = true) (ws : List Jvm.Cond) (x0 : Addr)  (h0 : Heap) (n0 : Nat) (Z0 : n0 ≤ h0.size) (F_cipher_x0 : Fld Z h0 x0 "com/example/wardgate/wardgate/model/JwtSettings" "cipher" "Lcom/example/wardgate/wardgate/model/JwtSettings$Cipher;" .null) :
    MetFree l (⟨"com/example/wardgate/wardgate/model/JwtSettings", "sealsSessions", "()Z"⟩ : MethodName) (head1 (Jvm.Cond.code (⟨"com/example/wardgate/wardgate/model/JwtSettings", "sealsSessions", "()Z"⟩ : MethodName) prog_19_method_3_code 1 (some .boolean) :: ws) ({ frames := 0, cells := 0, slots := 0, locals := 0 } : Room)) (fun a U => a = #[(.ref x0)] ∧ Z.Warmed39 U.vm ∧ U.heap = h0) (fun _ _ _ _ _ => True) (fun _ U o U' => ∃ v L, o = .returned v ∧ (QP (some (.int (0 : Int32))) h0 n0 v U'.heap L) ∧ FrameEnd U o U' L ({ frames := 0, cells := 0, slots := 0, locals := 0 } : Room).cells ({ frames := 0, cells := 0, slots := 0, locals := 0 } : Room).slots) := by
  refine MetFree.of_bodySF (plainFor_of_name pn_13) hisR ?_
  intro p e s m args below meth c s₁ Bd hml0 hP hK
  obtain ⟨rfl, hZ, hh⟩ := hP
  have hx := Bd.exec
  have hby := Bd.bytes
  have hml : c.maxLocals = 1 := hml0
  have hown : s.vm.findClass "com/example/wardgate/wardgate/model/JwtSettings" = some m.cls := findClass_of_methodNamed Bd.named
  have hnm := (name_of_methodNamed Bd.named Bd.method).1
  have X0 : Stand p l e ({ frames := 0, cells := 0, slots := 0, locals := 0 } : Room) s m #[(.ref x0)] below meth c s₁ [] 0 0 := Stand.of_body Bd
  have e0 : s₁.heap = h0 := by rw [← hh, Bd.state]; rfl
  have N0 := Fr.nil n0
  have pre0 : ∀ t, Steps p.tables e below (s₁.setTop (mkF m 0 #[.val (.ref x0)] [])) t → Steps p.tables e below (s₁.setTop (entryFrame m #[(.ref x0)] 1)) t := fun t k => castTop (ef_13 m x0) k
  obtain ⟨T1, X1, e1, st1⟩ := getF X0 hx hZ hown (host := "") (Or.inl (hw _ (List.mem_of_getElem? (i := 59) rfl))) Via.refl e0 F_cipher_x0 (g := (mkF m 1 #[.val (.ref x0)] [(.ref x0)])) rfl rfl (hb hby d13_1)
  obtain ⟨fs, hr, hrun, hended, hW, hsame⟩ := X1.leave (v := some (.int (0 : Int32))) (fun h => by rw [Bd.returns] at h; cases h)
  refine ⟨_, _, pre0 _ ?_, hrun, hended, _, _, rfl, ?_, ⟨_, rfl⟩, hW, hsame.mono (by decide) (by decide)⟩
  · show Steps p.tables e below (s₁.setTop (mkF m 0 #[.val (.ref x0)] [])) _
    refine XS.aloadN X0.here hx rfl (hb hby d13_0) rfl rfl ?_
    show Steps p.tables e below (s₁.setTop (mkF m 1 #[.val (.ref x0)] [(.ref x0)])) _
    refine st1 _ ?_
    show Steps p.tables e below (T1.setTop (mkF m 4 #[.val (.ref x0)] [.null])) _
    refine XS.ifnullYes X1.here hx rfl (pc0 := 4) (pc' := 11) rfl (hb hby d13_4) rfl (by decide) (by decide) ?_
    show Steps p.tables e below (T1.setTop (mkF m 11 #[.val (.ref x0)] [])) _
    refine XS.iconst X1.here hx rfl (hb hby d13_11) ?_
    show Steps p.tables e below (T1.setTop (mkF m 12 #[.val (.ref x0)] [(.int (0 : Int32))])) _
    exact retN X1 hx (t := .boolean) Bd.returns (by simp) (hb hby d13_12) hr
  · exact ⟨rfl, N0, e1⟩
set_option maxRecDepth 65536 in
set_option maxHeartbeats 40000000 in
theorem rms_key (l : Launch) (Z : State) (a0 : Array Value) (hw : ∀ d ∈ tables_1, d.before a0 Z = true) (ws : List Jvm.Cond) (x0 : Addr) (ci : Addr) (h0 : Heap) (n0 : Nat) (Z0 : n0 ≤ h0.size) (F_cipher_x0 : Fld Z h0 x0 "com/example/wardgate/wardgate/model/JwtSettings" "cipher" "Lcom/example/wardgate/wardgate/model/JwtSettings$Cipher;" (.ref ci)) :
    MetFree l (⟨"com/example/wardgate/wardgate/model/JwtSettings", "sealsSessions", "()Z"⟩ : MethodName) (head1 (Jvm.Cond.code (⟨"com/example/wardgate/wardgate/model/JwtSettings", "sealsSessions", "()Z"⟩ : MethodName) prog_19_method_3_code 1 (some .boolean) :: ws) ({ frames := 0, cells := 0, slots := 0, locals := 0 } : Room)) (fun a U => a = #[(.ref x0)] ∧ Z.Warmed39 U.vm ∧ U.heap = h0) (fun _ _ _ _ _ => True) (fun _ U o U' => ∃ v L, o = .returned v ∧ (QP (some (.int (1 : Int32))) h0 n0 v U'.heap L) ∧ FrameEnd U o U' L ({ frames := 0, cells := 0, slots := 0, locals := 0 } : Room).cells ({ frames := 0, cells := 0, slots := 0, locals := 0 } : Room).slots) := by
  refine MetFree.of_bodySF (plainFor_of_name pn_13) hisR ?_
  intro p e s m args below meth c s₁ Bd hml0 hP hK
  obtain ⟨rfl, hZ, hh⟩ := hP
  have hx := Bd.exec
  have hby := Bd.bytes
  have hml : c.maxLocals = 1 := hml0
  have hown : s.vm.findClass "com/example/wardgate/wardgate/model/JwtSettings" = some m.cls := findClass_of_methodNamed Bd.named
  have hnm := (name_of_methodNamed Bd.named Bd.method).1
  have X0 : Stand p l e ({ frames := 0, cells := 0, slots := 0, locals := 0 } : Room) s m #[(.ref x0)] below meth c s₁ [] 0 0 := Stand.of_body Bd
  have e0 : s₁.heap = h0 := by rw [← hh, Bd.state]; rfl
  have N0 := Fr.nil n0
  have pre0 : ∀ t, Steps p.tables e below (s₁.setTop (mkF m 0 #[.val (.ref x0)] [])) t → Steps p.tables e below (s₁.setTop (entryFrame m #[(.ref x0)] 1)) t := fun t k => castTop (ef_13 m x0) k
  obtain ⟨T1, X1, e1, st1⟩ := getF X0 hx hZ hown (host := "") (Or.inl (hw _ (List.mem_of_getElem? (i := 59) rfl))) Via.refl e0 F_cipher_x0 (g := (mkF m 1 #[.val (.ref x0)] [(.ref x0)])) rfl rfl (hb hby d13_1)
  obtain ⟨fs, hr, hrun, hended, hW, hsame⟩ := X1.leave (v := some (.int (1 : Int32))) (fun h => by rw [Bd.returns] at h; cases h)
  refine ⟨_, _, pre0 _ ?_, hrun, hended, _, _, rfl, ?_, ⟨_, rfl⟩, hW, hsame.mono (by decide) (by decide)⟩
  · show Steps p.tables e below (s₁.setTop (mkF m 0 #[.val (.ref x0)] [])) _
    refine XS.aloadN X0.here hx rfl (hb hby d13_0) rfl rfl ?_
    show Steps p.tables e below (s₁.setTop (mkF m 1 #[.val (.ref x0)] [(.ref x0)])) _
    refine st1 _ ?_
    show Steps p.tables e below (T1.setTop (mkF m 4 #[.val (.ref x0)] [(.ref ci)])) _
    refine XS.ifnullNo X1.here hx rfl (hb hby d13_4) rfl ?_
    show Steps p.tables e below (T1.setTop (mkF m 7 #[.val (.ref x0)] [])) _
    refine XS.iconst X1.here hx rfl (hb hby d13_7) ?_
    show Steps p.tables e below (T1.setTop (mkF m 8 #[.val (.ref x0)] [(.int (1 : Int32))])) _
    refine XS.goto X1.here hx rfl (pc0 := 8) (pc' := 12) rfl (hb hby d13_8) (by decide) (by decide) ?_
    show Steps p.tables e below (T1.setTop (mkF m 12 #[.val (.ref x0)] [(.int (1 : Int32))])) _
    exact retN X1 hx (t := .boolean) Bd.returns (by simp) (hb hby d13_12) hr
  · exact ⟨rfl, N0, e1⟩
set_option maxRecDepth 65536 in
set_option maxHeartbeats 40000000 in
theorem rmk_null (l : Launch) (Z : State) (a0 : Array Value) (hw : ∀ d ∈ tables_1, d.before a0 Z = true) (ws : List Jvm.Cond) (x0 : Addr)  (h0 : Heap) (n0 : Nat) (Z0 : n0 ≤ h0.size) (F_cryptoKey_x0 : Fld Z h0 x0 "com/example/wardgate/wardgate/model/JwtSettings" "cryptoKey" "Ljava/lang/String;" .null) :
    MetFree l (⟨"com/example/wardgate/wardgate/model/JwtSettings", "sealingKey", "()[B"⟩ : MethodName) (head1 (Jvm.Cond.code (⟨"com/example/wardgate/wardgate/model/JwtSettings", "sealingKey", "()[B"⟩ : MethodName) prog_19_method_4_code 1 (some (.array .byte)) :: ws) ({ frames := 0, cells := 0, slots := 0, locals := 0 } : Room)) (fun a U => a = #[(.ref x0)] ∧ Z.Warmed39 U.vm ∧ U.heap = h0) (fun _ _ _ _ _ => True) (fun _ U o U' => ∃ v L, o = .returned v ∧ (QP (some .null) h0 n0 v U'.heap L) ∧ FrameEnd U o U' L ({ frames := 0, cells := 0, slots := 0, locals := 0 } : Room).cells ({ frames := 0, cells := 0, slots := 0, locals := 0 } : Room).slots) := by
  refine MetFree.of_bodySF (plainFor_of_name pn_14) hisR ?_
  intro p e s m args below meth c s₁ Bd hml0 hP hK
  obtain ⟨rfl, hZ, hh⟩ := hP
  have hx := Bd.exec
  have hby := Bd.bytes
  have hml : c.maxLocals = 1 := hml0
  have hown : s.vm.findClass "com/example/wardgate/wardgate/model/JwtSettings" = some m.cls := findClass_of_methodNamed Bd.named
  have hnm := (name_of_methodNamed Bd.named Bd.method).1
  have X0 : Stand p l e ({ frames := 0, cells := 0, slots := 0, locals := 0 } : Room) s m #[(.ref x0)] below meth c s₁ [] 0 0 := Stand.of_body Bd
  have e0 : s₁.heap = h0 := by rw [← hh, Bd.state]; rfl
  have N0 := Fr.nil n0
  have pre0 : ∀ t, Steps p.tables e below (s₁.setTop (mkF m 0 #[.val (.ref x0)] [])) t → Steps p.tables e below (s₁.setTop (entryFrame m #[(.ref x0)] 1)) t := fun t k => castTop (ef_14 m x0) k
  obtain ⟨T1, X1, e1, st1⟩ := getF X0 hx hZ hown (host := "") (Or.inl (hw _ (List.mem_of_getElem? (i := 61) rfl))) Via.refl e0 F_cryptoKey_x0 (g := (mkF m 1 #[.val (.ref x0)] [(.ref x0)])) rfl rfl (hb hby d14_1)
  obtain ⟨fs, hr, hrun, hended, hW, hsame⟩ := X1.leave (v := some .null) (fun h => by rw [Bd.returns] at h; cases h)
  refine ⟨_, _, pre0 _ ?_, hrun, hended, _, _, rfl, ?_, ⟨_, rfl⟩, hW, hsame.mono (by decide) (by decide)⟩
  · show Steps p.tables e below (s₁.setTop (mkF m 0 #[.val (.ref x0)] [])) _
    refine XS.aloadN X0.here hx rfl (hb hby d14_0) rfl rfl ?_
    show Steps p.tables e below (s₁.setTop (mkF m 1 #[.val (.ref x0)] [(.ref x0)])) _
    refine st1 _ ?_
    show Steps p.tables e below (T1.setTop (mkF m 4 #[.val (.ref x0)] [.null])) _
    refine XS.ifnonnullNo X1.here hx rfl (hb hby d14_4) rfl ?_
    show Steps p.tables e below (T1.setTop (mkF m 7 #[.val (.ref x0)] [])) _
    refine XS.aconstNull X1.here hx rfl (hb hby d14_7) ?_
    show Steps p.tables e below (T1.setTop (mkF m 8 #[.val (.ref x0)] [.null])) _
    refine XS.goto X1.here hx rfl (pc0 := 8) (pc' := 21) rfl (hb hby d14_8) (by decide) (by decide) ?_
    show Steps p.tables e below (T1.setTop (mkF m 21 #[.val (.ref x0)] [.null])) _
    exact retOut X1 hx (t := (.array .byte)) (i := .areturn) Bd.returns rfl (Or.inr (Or.inr (Or.inr (Or.inr ⟨rfl, rfl, rfl⟩)))) (hb hby d14_21) hr
  · exact ⟨rfl, N0, e1⟩
set_option maxRecDepth 65536 in
set_option maxHeartbeats 40000000 in
theorem rm20 (l : Launch) (Z : State) (a0 : Array Value) (hw : ∀ d ∈ tables_1, d.before a0 Z = true) (ws : List Jvm.Cond) (x0 : Addr) (k0 : ClassId) (u0 u1 : Int32) (h0 : Heap) (n0 : Nat) (Z0 : n0 ≤ h0.size) (V_x0 : Arv Z h0 x0 k0 .byte (2 : Int32) [(.int u0), (.int u1)] (.int (0 : Int32))) :
    MetFree l (⟨"java/lang/StringCoding", "countPositives", "([BII)I"⟩ : MethodName) (head1 (Jvm.Cond.code (⟨"java/lang/StringCoding", "countPositives", "([BII)I"⟩ : MethodName) jdk_123_method_3_code 5 (some .int) :: ws) ({ frames := 0, cells := 0, slots := 0, locals := 0 } : Room)) (fun a U => a = #[(.ref x0), (.int (0 : Int32)), (.int (2 : Int32))] ∧ Z.Warmed39 U.vm ∧ U.heap = h0) (fun _ _ _ _ _ => True) (fun _ U o U' => ∃ v L, o = .returned v ∧ (QP (some (.int (own_cp u0 u1))) h0 n0 v U'.heap L) ∧ FrameEnd U o U' L ({ frames := 0, cells := 0, slots := 0, locals := 0 } : Room).cells ({ frames := 0, cells := 0, slots := 0, locals := 0 } : Room).slots) := by
  refine MetFree.of_bodySF (plainFor_of_name pn_20) hisR ?_
  intro p e s m args below meth c s₁ Bd hml0 hP hK
  obtain ⟨rfl, hZ, hh⟩ := hP
  have hx := Bd.exec
  have hby := Bd.bytes
  have hml : c.maxLocals = 5 := hml0
  have hown : s.vm.findClass "java/lang/StringCoding" = some m.cls := findClass_of_methodNamed Bd.named
  have hnm := (name_of_methodNamed Bd.named Bd.method).1
  have X0 : Stand p l e ({ frames := 0, cells := 0, slots := 0, locals := 0 } : Room) s m #[(.ref x0), (.int (0 : Int32)), (.int (2 : Int32))] below meth c s₁ [] 0 0 := Stand.of_body Bd
  have e0 : s₁.heap = h0 := by rw [← hh, Bd.state]; rfl
  have N0 := Fr.nil n0
  have pre0 : ∀ t, Steps p.tables e below (s₁.setTop (mkF m 0 #[.val (.ref x0), .val (.int (0 : Int32)), .val (.int (2 : Int32)), .unset, .unset] [])) t → Steps p.tables e below (s₁.setTop (entryFrame m #[(.ref x0), (.int (0 : Int32)), (.int (2 : Int32))] 5)) t := fun t k => castTop (ef_20 m x0 (0 : Int32) (2 : Int32)) k
  obtain ⟨fs, hr, hrun, hended, hW, hsame⟩ := X0.leave (v := some (.int (own_cp u0 u1))) (fun h => by rw [Bd.returns] at h; cases h)
  refine ⟨_, _, pre0 _ ?_, hrun, hended, _, _, rfl, ?_, ⟨_, rfl⟩, hW, hsame.mono (by decide) (by decide)⟩
  · show Steps p.tables e below (s₁.setTop (mkF m 0 #[.val (.ref x0), .val (.int (0 : Int32)), .val (.int (2 : Int32)), .unset, .unset] [])) _
    refine XS.iloadN X0.here hx rfl (hb hby d20_0) rfl ?_
    show Steps p.tables e below (s₁.setTop (mkF m 1 #[.val (.ref x0), .val (.int (0 : Int32)), .val (.int (2 : Int32)), .unset, .unset] [(.int (0 : Int32))])) _
    refine XS.iloadN X0.here hx rfl (hb hby d20_1) rfl ?_
    show Steps p.tables e below (s₁.setTop (mkF m 2 #[.val (.ref x0), .val (.int (0 : Int32)), .val (.int (2 : Int32)), .unset, .unset] [(.int (2 : Int32)), (.int (0 : Int32))])) _
    refine XS.iadd X0.here hx rfl (hb hby d20_2) rfl ?_
    show Steps p.tables e below (s₁.setTop (mkF m 3 #[.val (.ref x0), .val (.int (0 : Int32)), .val (.int (2 : Int32)), .unset, .unset] [(.int ((0 : Int32) + (2 : Int32)))])) _
    rw [show ((0 : Int32) + (2 : Int32)) = (2 : Int32) from by decide]
    show Steps p.tables e below (s₁.setTop (mkF m 3 #[.val (.ref x0), .val (.int (0 : Int32)), .val (.int (2 : Int32)), .unset, .unset] [(.int (2 : Int32))])) _
    refine XS.istoreN X0.here hx rfl (hb hby d20_3) rfl (l' := #[.val (.ref x0), .val (.int (0 : Int32)), .val (.int (2 : Int32)), .val (.int (2 : Int32)), .unset]) rfl ?_
    show Steps p.tables e below (s₁.setTop (mkF m 4 #[.val (.ref x0), .val (.int (0 : Int32)), .val (.int (2 : Int32)), .val (.int (2 : Int32)), .unset] [])) _
    refine XS.iloadN X0.here hx rfl (hb hby d20_4) rfl ?_
    show Steps p.tables e below (s₁.setTop (mkF m 5 #[.val (.ref x0), .val (.int (0 : Int32)), .val (.int (2 : Int32)), .val (.int (2 : Int32)), .unset] [(.int (0 : Int32))])) _
    refine XS.istore X0.here hx rfl (hb hby d20_5) rfl (l' := #[.val (.ref x0), .val (.int (0 : Int32)), .val (.int (2 : Int32)), .val (.int (2 : Int32)), .val (.int (0 : Int32))]) rfl ?_
    show Steps p.tables e below (s₁.setTop (mkF m 7 #[.val (.ref x0), .val (.int (0 : Int32)), .val (.int (2 : Int32)), .val (.int (2 : Int32)), .val (.int (0 : Int32))] [])) _
    refine XS.iload X0.here hx rfl (hb hby d20_7) rfl ?_
    show Steps p.tables e below (s₁.setTop (mkF m 9 #[.val (.ref x0), .val (.int (0 : Int32)), .val (.int (2 : Int32)), .val (.int (2 : Int32)), .val (.int (0 : Int32))] [(.int (0 : Int32))])) _
    refine XS.iloadN X0.here hx rfl (hb hby d20_9) rfl ?_
    show Steps p.tables e below (s₁.setTop (mkF m 10 #[.val (.ref x0), .val (.int (0 : Int32)), .val (.int (2 : Int32)), .val (.int (2 : Int32)), .val (.int (0 : Int32))] [(.int (2 : Int32)), (.int (0 : Int32))])) _
    refine XS.icmpNo X0.here hx rfl (hb hby d20_10) rfl (tlt (by decide : (0 : Int32) < (2 : Int32))).2.1 ?_
    show Steps p.tables e below (s₁.setTop (mkF m 13 #[.val (.ref x0), .val (.int (0 : Int32)), .val (.int (2 : Int32)), .val (.int (2 : Int32)), .val (.int (0 : Int32))] [])) _
    refine XS.aloadN X0.here hx rfl (hb hby d20_13) rfl rfl ?_
    show Steps p.tables e below (s₁.setTop (mkF m 14 #[.val (.ref x0), .val (.int (0 : Int32)), .val (.int (2 : Int32)), .val (.int (2 : Int32)), .val (.int (0 : Int32))] [(.ref x0)])) _
    refine XS.iload X0.here hx rfl (hb hby d20_14) rfl ?_
    show Steps p.tables e below (s₁.setTop (mkF m 16 #[.val (.ref x0), .val (.int (0 : Int32)), .val (.int (2 : Int32)), .val (.int (2 : Int32)), .val (.int (0 : Int32))] [(.int (0 : Int32)), (.ref x0)])) _
    refine own_ldB X0 hx hZ e0 V_x0 (j := (0 : Int32)) (w := u0) ⟨by decide, by decide⟩ rfl (g := (mkF m 16 #[.val (.ref x0), .val (.int (0 : Int32)), .val (.int (2 : Int32)), .val (.int (2 : Int32)), .val (.int (0 : Int32))] [(.int (0 : Int32)), (.ref x0)])) rfl rfl (hb hby d20_16) ?_
    show Steps p.tables e below (s₁.setTop (mkF m 17 #[.val (.ref x0), .val (.int (0 : Int32)), .val (.int (2 : Int32)), .val (.int (2 : Int32)), .val (.int (0 : Int32))] [(.int u0)])) _
    by_cases hc17 : u0 < (0 : Int32)
    · refine XS.ifNo X0.here hx rfl (hb hby d20_17) rfl ((if0 _ _).trans (tlt hc17).2.1) ?_
      show Steps p.tables e below (s₁.setTop (mkF m 20 #[.val (.ref x0), .val (.int (0 : Int32)), .val (.int (2 : Int32)), .val (.int (2 : Int32)), .val (.int (0 : Int32))] [])) _
      refine XS.iload X0.here hx rfl (hb hby d20_20) rfl ?_
      show Steps p.tables e below (s₁.setTop (mkF m 22 #[.val (.ref x0), .val (.int (0 : Int32)), .val (.int (2 : Int32)), .val (.int (2 : Int32)), .val (.int (0 : Int32))] [(.int (0 : Int32))])) _
      refine XS.iloadN X0.here hx rfl (hb hby d20_22) rfl ?_
      show Steps p.tables e below (s₁.setTop (mkF m 23 #[.val (.ref x0), .val (.int (0 : Int32)), .val (.int (2 : Int32)), .val (.int (2 : Int32)), .val (.int (0 : Int32))] [(.int (0 : Int32)), (.int (0 : Int32))])) _
      refine XS.isub X0.here hx rfl (hb hby d20_23) rfl ?_
      show Steps p.tables e below (s₁.setTop (mkF m 24 #[.val (.ref x0), .val (.int (0 : Int32)), .val (.int (2 : Int32)), .val (.int (2 : Int32)), .val (.int (0 : Int32))] [(.int ((0 : Int32) - (0 : Int32)))])) _
      rw [show ((0 : Int32) - (0 : Int32)) = (0 : Int32) from by decide]
      show Steps p.tables e below (s₁.setTop (mkF m 24 #[.val (.ref x0), .val (.int (0 : Int32)), .val (.int (2 : Int32)), .val (.int (2 : Int32)), .val (.int (0 : Int32))] [(.int (0 : Int32))])) _
      have hv : own_cp u0 u1 = (0 : Int32) := by unfold own_cp; rw [if_pos hc17]
      rw [hv] at hr
      exact retI X0 hx Bd.returns (hb hby d20_24) hr
    · refine XS.ifYes X0.here hx rfl (pc0 := 17) (pc' := 25) rfl (hb hby d20_17) rfl ((if0 _ _).trans (flt hc17).2.1) (by decide) (by decide) ?_
      show Steps p.tables e below (s₁.setTop (mkF m 25 #[.val (.ref x0), .val (.int (0 : Int32)), .val (.int (2 : Int32)), .val (.int (2 : Int32)), .val (.int (0 : Int32))] [])) _
      refine XS.iinc X0.here hx rfl (hb hby d20_25) rfl (l' := #[.val (.ref x0), .val (.int (0 : Int32)), .val (.int (2 : Int32)), .val (.int (2 : Int32)), .val (.int ((0 : Int32) + (1 : Int32)))]) rfl ?_
      show Steps p.tables e below (s₁.setTop (mkF m 28 #[.val (.ref x0), .val (.int (0 : Int32)), .val (.int (2 : Int32)), .val (.int (2 : Int32)), .val (.int ((0 : Int32) + (1 : Int32)))] [])) _
      rw [show ((0 : Int32) + (1 : Int32)) = (1 : Int32) from by decide]
      show Steps p.tables e below (s₁.setTop (mkF m 28 #[.val (.ref x0), .val (.int (0 : Int32)), .val (.int (2 : Int32)), .val (.int (2 : Int32)), .val (.int (1 : Int32))] [])) _
      refine XS.goto X0.here hx rfl (pc0 := 28) (pc' := 7) rfl (hb hby d20_28) (by decide) (by decide) ?_
      show Steps p.tables e below (s₁.setTop (mkF m 7 #[.val (.ref x0), .val (.int (0 : Int32)), .val (.int (2 : Int32)), .val (.int (2 : Int32)), .val (.int (1 : Int32))] [])) _
      refine XS.iload X0.here hx rfl (hb hby d20_7) rfl ?_
      show Steps p.tables e below (s₁.setTop (mkF m 9 #[.val (.ref x0), .val (.int (0 : Int32)), .val (.int (2 : Int32)), .val (.int (2 : Int32)), .val (.int (1 : Int32))] [(.int (1 : Int32))])) _
      refine XS.iloadN X0.here hx rfl (hb hby d20_9) rfl ?_
      show Steps p.tables e below (s₁.setTop (mkF m 10 #[.val (.ref x0), .val (.int (0 : Int32)), .val (.int (2 : Int32)), .val (.int (2 : Int32)), .val (.int (1 : Int32))] [(.int (2 : Int32)), (.int (1 : Int32))])) _
      refine XS.icmpNo X0.here hx rfl (hb hby d20_10) rfl (tlt (by decide : (1 : Int32) < (2 : Int32))).2.1 ?_
      show Steps p.tables e below (s₁.setTop (mkF m 13 #[.val (.ref x0), .val (.int (0 : Int32)), .val (.int (2 : Int32)), .val (.int (2 : Int32)), .val (.int (1 : Int32))] [])) _
      refine XS.aloadN X0.here hx rfl (hb hby d20_13) rfl rfl ?_
      show Steps p.tables e below (s₁.setTop (mkF m 14 #[.val (.ref x0), .val (.int (0 : Int32)), .val (.int (2 : Int32)), .val (.int (2 : Int32)), .val (.int (1 : Int32))] [(.ref x0)])) _
      refine XS.iload X0.here hx rfl (hb hby d20_14) rfl ?_
      show Steps p.tables e below (s₁.setTop (mkF m 16 #[.val (.ref x0), .val (.int (0 : Int32)), .val (.int (2 : Int32)), .val (.int (2 : Int32)), .val (.int (1 : Int32))] [(.int (1 : Int32)), (.ref x0)])) _
      refine own_ldB X0 hx hZ e0 V_x0 (j := (1 : Int32)) (w := u1) ⟨by decide, by decide⟩ rfl (g := (mkF m 16 #[.val (.ref x0), .val (.int (0 : Int32)), .val (.int (2 : Int32)), .val (.int (2 : Int32)), .val (.int (1 : Int32))] [(.int (1 : Int32)), (.ref x0)])) rfl rfl (hb hby d20_16) ?_
      show Steps p.tables e below (s₁.setTop (mkF m 17 #[.val (.ref x0), .val (.int (0 : Int32)), .val (.int (2 : Int32)), .val (.int (2 : Int32)), .val (.int (1 : Int32))] [(.int u1)])) _
      by_cases hc17_ : u1 < (0 : Int32)
      · refine XS.ifNo X0.here hx rfl (hb hby d20_17) rfl ((if0 _ _).trans (tlt hc17_).2.1) ?_
        show Steps p.tables e below (s₁.setTop (mkF m 20 #[.val (.ref x0), .val (.int (0 : Int32)), .val (.int (2 : Int32)), .val (.int (2 : Int32)), .val (.int (1 : Int32))] [])) _
        refine XS.iload X0.here hx rfl (hb hby d20_20) rfl ?_
        show Steps p.tables e below (s₁.setTop (mkF m 22 #[.val (.ref x0), .val (.int (0 : Int32)), .val (.int (2 : Int32)), .val (.int (2 : Int32)), .val (.int (1 : Int32))] [(.int (1 : Int32))])) _
        refine XS.iloadN X0.here hx rfl (hb hby d20_22) rfl ?_
        show Steps p.tables e below (s₁.setTop (mkF m 23 #[.val (.ref x0), .val (.int (0 : Int32)), .val (.int (2 : Int32)), .val (.int (2 : Int32)), .val (.int (1 : Int32))] [(.int (0 : Int32)), (.int (1 : Int32))])) _
        refine XS.isub X0.here hx rfl (hb hby d20_23) rfl ?_
        show Steps p.tables e below (s₁.setTop (mkF m 24 #[.val (.ref x0), .val (.int (0 : Int32)), .val (.int (2 : Int32)), .val (.int (2 : Int32)), .val (.int (1 : Int32))] [(.int ((1 : Int32) - (0 : Int32)))])) _
        rw [show ((1 : Int32) - (0 : Int32)) = (1 : Int32) from by decide]
        show Steps p.tables e below (s₁.setTop (mkF m 24 #[.val (.ref x0), .val (.int (0 : Int32)), .val (.int (2 : Int32)), .val (.int (2 : Int32)), .val (.int (1 : Int32))] [(.int (1 : Int32))])) _
        have hv : own_cp u0 u1 = (1 : Int32) := by unfold own_cp; rw [if_neg hc17, if_pos hc17_]
        rw [hv] at hr
        exact retI X0 hx Bd.returns (hb hby d20_24) hr
      · refine XS.ifYes X0.here hx rfl (pc0 := 17) (pc' := 25) rfl (hb hby d20_17) rfl ((if0 _ _).trans (flt hc17_).2.1) (by decide) (by decide) ?_
        show Steps p.tables e below (s₁.setTop (mkF m 25 #[.val (.ref x0), .val (.int (0 : Int32)), .val (.int (2 : Int32)), .val (.int (2 : Int32)), .val (.int (1 : Int32))] [])) _
        refine XS.iinc X0.here hx rfl (hb hby d20_25) rfl (l' := #[.val (.ref x0), .val (.int (0 : Int32)), .val (.int (2 : Int32)), .val (.int (2 : Int32)), .val (.int ((1 : Int32) + (1 : Int32)))]) rfl ?_
        show Steps p.tables e below (s₁.setTop (mkF m 28 #[.val (.ref x0), .val (.int (0 : Int32)), .val (.int (2 : Int32)), .val (.int (2 : Int32)), .val (.int ((1 : Int32) + (1 : Int32)))] [])) _
        rw [show ((1 : Int32) + (1 : Int32)) = (2 : Int32) from by decide]
        show Steps p.tables e below (s₁.setTop (mkF m 28 #[.val (.ref x0), .val (.int (0 : Int32)), .val (.int (2 : Int32)), .val (.int (2 : Int32)), .val (.int (2 : Int32))] [])) _
        refine XS.goto X0.here hx rfl (pc0 := 28) (pc' := 7) rfl (hb hby d20_28) (by decide) (by decide) ?_
        show Steps p.tables e below (s₁.setTop (mkF m 7 #[.val (.ref x0), .val (.int (0 : Int32)), .val (.int (2 : Int32)), .val (.int (2 : Int32)), .val (.int (2 : Int32))] [])) _
        refine XS.iload X0.here hx rfl (hb hby d20_7) rfl ?_
        show Steps p.tables e below (s₁.setTop (mkF m 9 #[.val (.ref x0), .val (.int (0 : Int32)), .val (.int (2 : Int32)), .val (.int (2 : Int32)), .val (.int (2 : Int32))] [(.int (2 : Int32))])) _
        refine XS.iloadN X0.here hx rfl (hb hby d20_9) rfl ?_
        show Steps p.tables e below (s₁.setTop (mkF m 10 #[.val (.ref x0), .val (.int (0 : Int32)), .val (.int (2 : Int32)), .val (.int (2 : Int32)), .val (.int (2 : Int32))] [(.int (2 : Int32)), (.int (2 : Int32))])) _
        refine XS.icmpYes X0.here hx rfl (pc0 := 10) (pc' := 31) rfl (hb hby d20_10) rfl (flt (by decide : ¬ ((2 : Int32) < (2 : Int32)))).2.1 (by decide) (by decide) ?_
        show Steps p.tables e below (s₁.setTop (mkF m 31 #[.val (.ref x0), .val (.int (0 : Int32)), .val (.int (2 : Int32)), .val (.int (2 : Int32)), .val (.int (2 : Int32))] [])) _
        refine XS.iloadN X0.here hx rfl (hb hby d20_31) rfl ?_
        show Steps p.tables e below (s₁.setTop (mkF m 32 #[.val (.ref x0), .val (.int (0 : Int32)), .val (.int (2 : Int32)), .val (.int (2 : Int32)), .val (.int (2 : Int32))] [(.int (2 : Int32))])) _
        have hv : own_cp u0 u1 = (2 : Int32) := by unfold own_cp; rw [if_neg hc17, if_neg hc17_]
        rw [hv] at hr
        exact retI X0 hx Bd.returns (hb hby d20_32) hr
  · exact ⟨rfl, N0, e0⟩
theorem pd___BII_I : parseMethodDescriptor "([BII)I" = some ⟨[(.array .byte), .int, .int], some .int⟩ := by decide +kernel
set_option maxRecDepth 65536 in
set_option maxHeartbeats 40000000 in
theorem rm19 (l : Launch) (Z : State) (a0 : Array Value) (hw : ∀ d ∈ tables_1, d.before a0 Z = true) (ws : List Jvm.Cond) (x0 : Addr) (k0 : ClassId) (u0 u1 : Int32) (h0 : Heap) (n0 : Nat) (Z0 : n0 ≤ h0.size) (V_x0 : Arv Z h0 x0 k0 .byte (2 : Int32) [(.int u0), (.int u1)] (.int (0 : Int32))) :
    MetFree l (⟨"java/lang/StringCoding", "hasNegatives", "([BII)Z"⟩ : MethodName) (head1 (Jvm.Cond.code (⟨"java/lang/StringCoding", "hasNegatives", "([BII)Z"⟩ : MethodName) jdk_123_method_2_code 3 (some .boolean) :: ws) ({ frames := 1, cells := 0, slots := 0, locals := 16 } : Room)) (fun a U => a = #[(.ref x0), (.int (0 : Int32)), (.int (2 : Int32))] ∧ Z.Warmed39 U.vm ∧ U.heap = h0) (fun _ _ _ _ _ => True) (fun _ U o U' => ∃ v L, o = .returned v ∧ (QP (some (.int (own_hn u0 u1))) h0 n0 v U'.heap L) ∧ FrameEnd U o U' L ({ frames := 1, cells := 0, slots := 0, locals := 16 } : Room).cells ({ frames := 1, cells := 0, slots := 0, locals := 16 } : Room).slots) := by
  refine MetFree.of_bodySF (plainFor_of_name pn_19) hisR ?_
  intro p e s m args below meth c s₁ Bd hml0 hP hK
  obtain ⟨rfl, hZ, hh⟩ := hP
  have hx := Bd.exec
  have hby := Bd.bytes
  have hml : c.maxLocals = 3 := hml0
  have hown : s.vm.findClass "java/lang/StringCoding" = some m.cls := findClass_of_methodNamed Bd.named
  have hnm := (name_of_methodNamed Bd.named Bd.method).1
  have X0 : Stand p l e ({ frames := 1, cells := 0, slots := 0, locals := 16 } : Room) s m #[(.ref x0), (.int (0 : Int32)), (.int (2 : Int32))] below meth c s₁ [] 0 0 := Stand.of_body Bd
  have e0 : s₁.heap = h0 := by rw [← hh, Bd.state]; rfl
  have N0 := Fr.nil n0
  have pre0 : ∀ t, Steps p.tables e below (s₁.setTop (mkF m 0 #[.val (.ref x0), .val (.int (0 : Int32)), .val (.int (2 : Int32))] [])) t → Steps p.tables e below (s₁.setTop (entryFrame m #[(.ref x0), (.int (0 : Int32)), (.int (2 : Int32))] 3)) t := fun t k => castTop (ef_19 m x0 (0 : Int32) (2 : Int32)) k
  obtain ⟨_, _, ⟨T1, L1, k1, n1⟩, -, X1, ⟨Lc1, hQ1, l1, y1, z1⟩, st1⟩ := Jvm.LawKit.callS X0 hx (y := (⟨"java/lang/StringCoding", "countPositives", "([BII)I"⟩ : MethodName)) hown (mvT hZ (hw _ (List.mem_of_getElem? (i := 102) rfl))) (mvT hZ (hw _ (List.mem_of_getElem? (i := 103) rfl))) (mvT hZ (hw _ (List.mem_of_getElem? (i := 100) rfl))) (mvT hZ (hw _ (List.mem_of_getElem? (i := 104) rfl))) (by decide) (backOf (W := 0) (rm20 l Z a0 hw [] x0 k0 u0 u1 h0 n0 Z0 V_x0) hZ (hw _ (List.mem_of_getElem? (i := 104) rfl)) (hw _ (List.mem_of_getElem? (i := 100) rfl)) (by decide) (by decide)) (g := (mkF m 3 #[.val (.ref x0), .val (.int (0 : Int32)), .val (.int (2 : Int32))] [(.int (2 : Int32)), (.int (0 : Int32)), (.ref x0)])) rfl (by rw [hml]; rfl) (argsL := [(.ref x0), (.int (0 : Int32)), (.int (2 : Int32))]) (rest := []) (lenOf pd___BII_I rfl) rfl (by show 2 * 0 + _ ≤ _; exact Nat.le_of_eq rfl) (hb hby d19_3) (fun _ _ => ⟨rfl, e0, (by decide : 0 + 0 ≤ _), (by decide : 0 + 0 ≤ _)⟩)
  dsimp only [Pt.U, Pt.locs, Pt.cells, Pt.slots] at X1 l1 y1 z1 st1 hQ1
  subst l1 y1 z1
  obtain ⟨rfl, N1q, e1⟩ := hQ1
  have N1 := Fr.app N0 N1q
  obtain ⟨m2_s0, em2_s0⟩ : ∃ z : Int32, z = (if (own_cp u0 u1) = (2 : Int32) then (0 : Int32) else (1 : Int32)) := ⟨_, rfl⟩
  obtain ⟨fs, hr, hrun, hended, hW, hsame⟩ := X1.leave (v := some (.int (own_hn u0 u1))) (fun h => by rw [Bd.returns] at h; cases h)
  refine ⟨_, _, pre0 _ ?_, hrun, hended, _, _, rfl, ?_, ⟨_, rfl⟩, hW, hsame.mono (by decide) (by decide)⟩
  · show Steps p.tables e below (s₁.setTop (mkF m 0 #[.val (.ref x0), .val (.int (0 : Int32)), .val (.int (2 : Int32))] [])) _
    refine XS.aloadN X0.here hx rfl (hb hby d19_0) rfl rfl ?_
    show Steps p.tables e below (s₁.setTop (mkF m 1 #[.val (.ref x0), .val (.int (0 : Int32)), .val (.int (2 : Int32))] [(.ref x0)])) _
    refine XS.iloadN X0.here hx rfl (hb hby d19_1) rfl ?_
    show Steps p.tables e below (s₁.setTop (mkF m 2 #[.val (.ref x0), .val (.int (0 : Int32)), .val (.int (2 : Int32))] [(.int (0 : Int32)), (.ref x0)])) _
    refine XS.iloadN X0.here hx rfl (hb hby d19_2) rfl ?_
    show Steps p.tables e below (s₁.setTop (mkF m 3 #[.val (.ref x0), .val (.int (0 : Int32)), .val (.int (2 : Int32))] [(.int (2 : Int32)), (.int (0 : Int32)), (.ref x0)])) _
    refine st1 _ ?_
    show Steps p.tables e below (T1.setTop (mkF m 6 #[.val (.ref x0), .val (.int (0 : Int32)), .val (.int (2 : Int32))] [(.int (own_cp u0 u1))])) _
    refine XS.iloadN X1.here hx rfl (hb hby d19_6) rfl ?_
    show Steps p.tables e below (T1.setTop (mkF m 7 #[.val (.ref x0), .val (.int (0 : Int32)), .val (.int (2 : Int32))] [(.int (2 : Int32)), (.int (own_cp u0 u1))])) _
    have k2 : ∀ (m2_s0 : Int32) t, ((own_cp u0 u1) = (2 : Int32) → m2_s0 = (0 : Int32)) → (¬ ((own_cp u0 u1) = (2 : Int32)) → m2_s0 = (1 : Int32)) → Steps p.tables e below (T1.setTop (mkF m 15 #[.val (.ref x0), .val (.int (0 : Int32)), .val (.int (2 : Int32))] [(.int m2_s0)])) t → Steps p.tables e below (T1.setTop (mkF m 7 #[.val (.ref x0), .val (.int (0 : Int32)), .val (.int (2 : Int32))] [(.int (2 : Int32)), (.int (own_cp u0 u1))])) t := by
      intro m2_s0 t hAm2_s0 hBm2_s0 kk
      by_cases hq7 : (own_cp u0 u1) = (2 : Int32)
      · rw [hAm2_s0 hq7] at kk
        refine XS.icmpYes X1.here hx rfl (pc0 := 7) (pc' := 14) rfl (hb hby d19_7) rfl (teq hq7).1 (by decide) (by decide) ?_
        show Steps p.tables e below (T1.setTop (mkF m 14 #[.val (.ref x0), .val (.int (0 : Int32)), .val (.int (2 : Int32))] [])) _
        refine XS.iconst X1.here hx rfl (hb hby d19_14) ?_
        exact kk
      · rw [hBm2_s0 hq7] at kk
        refine XS.icmpNo X1.here hx rfl (hb hby d19_7) rfl (feq hq7).1 ?_
        show Steps p.tables e below (T1.setTop (mkF m 10 #[.val (.ref x0), .val (.int (0 : Int32)), .val (.int (2 : Int32))] [])) _
        refine XS.iconst X1.here hx rfl (hb hby d19_10) ?_
        show Steps p.tables e below (T1.setTop (mkF m 11 #[.val (.ref x0), .val (.int (0 : Int32)), .val (.int (2 : Int32))] [(.int (1 : Int32))])) _
        refine XS.goto X1.here hx rfl (pc0 := 11) (pc' := 15) rfl (hb hby d19_11) (by decide) (by decide) ?_
        exact kk
    refine k2 m2_s0 _ (fun h => by rw [em2_s0, if_pos h]) (fun h => by rw [em2_s0, if_neg h]) ?_
    show Steps p.tables e below (T1.setTop (mkF m 15 #[.val (.ref x0), .val (.int (0 : Int32)), .val (.int (2 : Int32))] [(.int m2_s0)])) _
    have hv : own_hn u0 u1 = m2_s0 := by rw [em2_s0]; rfl
    rw [← own_hnb u0 u1, hv] at hr
    exact retN X1 hx (t := .boolean) Bd.returns (by simp) (hb hby d19_15) hr
  · exact ⟨rfl, N1, e1⟩
set_option maxRecDepth 65536 in
set_option maxHeartbeats 40000000 in
theorem rm22 (l : Launch) (Z : State) (a0 : Array Value) (hw : ∀ d ∈ tables_1, d.before a0 Z = true) (ws : List Jvm.Cond)  (h0 : Heap) (n0 : Nat) (Z0 : n0 ≤ h0.size)  :
    MetFree l (⟨"java/lang/StringUTF16", "newBytesLength", "(I)I"⟩ : MethodName) (head1 (Jvm.Cond.code (⟨"java/lang/StringUTF16", "newBytesLength", "(I)I"⟩ : MethodName) jdk_52_method_3_code 1 (some .int) :: ws) ({ frames := 0, cells := 0, slots := 0, locals := 0 } : Room)) (fun a U => a = #[(.int (2 : Int32))] ∧ Z.Warmed39 U.vm ∧ U.heap = h0) (fun _ _ _ _ _ => True) (fun _ U o U' => ∃ v L, o = .returned v ∧ (QP (some (.int (4 : Int32))) h0 n0 v U'.heap L) ∧ FrameEnd U o U' L ({ frames := 0, cells := 0, slots := 0, locals := 0 } : Room).cells ({ frames := 0, cells := 0, slots := 0, locals := 0 } : Room).slots) := by
  refine MetFree.of_bodySF (plainFor_of_name pn_22) hisR ?_
  intro p e s m args below meth c s₁ Bd hml0 hP hK
  obtain ⟨rfl, hZ, hh⟩ := hP
  have hx := Bd.exec
  have hby := Bd.bytes
  have hml : c.maxLocals = 1 := hml0
  have hown : s.vm.findClass "java/lang/StringUTF16" = some m.cls := findClass_of_methodNamed Bd.named
  have hnm := (name_of_methodNamed Bd.named Bd.method).1
  have X0 : Stand p l e ({ frames := 0, cells := 0, slots := 0, locals := 0 } : Room) s m #[(.int (2 : Int32))] below meth c s₁ [] 0 0 := Stand.of_body Bd
  have e0 : s₁.heap = h0 := by rw [← hh, Bd.state]; rfl
  have N0 := Fr.nil n0
  have pre0 : ∀ t, Steps p.tables e below (s₁.setTop (mkF m 0 #[.val (.int (2 : Int32))] [])) t → Steps p.tables e below (s₁.setTop (entryFrame m #[(.int (2 : Int32))] 1)) t := fun t k => castTop (ef_22 m (2 : Int32)) k
  obtain ⟨fs, hr, hrun, hended, hW, hsame⟩ := X0.leave (v := some (.int (4 : Int32))) (fun h => by rw [Bd.returns] at h; cases h)
  refine ⟨_, _, pre0 _ ?_, hrun, hended, _, _, rfl, ?_, ⟨_, rfl⟩, hW, hsame.mono (by decide) (by decide)⟩
  · show Steps p.tables e below (s₁.setTop (mkF m 0 #[.val (.int (2 : Int32))] [])) _
    refine XS.iloadN X0.here hx rfl (hb hby d22_0) rfl ?_
    show Steps p.tables e below (s₁.setTop (mkF m 1 #[.val (.int (2 : Int32))] [(.int (2 : Int32))])) _
    refine XS.ifYes X0.here hx rfl (pc0 := 1) (pc' := 12) rfl (hb hby d22_1) rfl ((if0 _ _).trans (flt (by decide : ¬ ((2 : Int32) < (0 : Int32)))).2.1) (by decide) (by decide) ?_
    show Steps p.tables e below (s₁.setTop (mkF m 12 #[.val (.int (2 : Int32))] [])) _
    refine XS.iloadN X0.here hx rfl (hb hby d22_12) rfl ?_
    show Steps p.tables e below (s₁.setTop (mkF m 13 #[.val (.int (2 : Int32))] [(.int (2 : Int32))])) _
    refine X0.ldcInt hx hown (mvT hZ (hw _ (List.mem_of_getElem? (i := 111) rfl))) (g := (mkF m 13 #[.val (.int (2 : Int32))] [(.int (2 : Int32))])) rfl (hb hby d22_13) _ ?_
    show Steps p.tables e below (s₁.setTop (mkF m 15 #[.val (.int (2 : Int32))] [(.int (1073741823 : Int32)), (.int (2 : Int32))])) _
    refine XS.icmpYes X0.here hx rfl (pc0 := 15) (pc' := 55) rfl (hb hby d22_15) rfl (tlt (by decide : (2 : Int32) < (1073741823 : Int32))).1 (by decide) (by decide) ?_
    show Steps p.tables e below (s₁.setTop (mkF m 55 #[.val (.int (2 : Int32))] [])) _
    refine XS.iloadN X0.here hx rfl (hb hby d22_55) rfl ?_
    show Steps p.tables e below (s₁.setTop (mkF m 56 #[.val (.int (2 : Int32))] [(.int (2 : Int32))])) _
    refine XS.iconst X0.here hx rfl (hb hby d22_56) ?_
    show Steps p.tables e below (s₁.setTop (mkF m 57 #[.val (.int (2 : Int32))] [(.int (1 : Int32)), (.int (2 : Int32))])) _
    refine XS.ishl X0.here hx rfl (hb hby d22_57) rfl ?_
    show Steps p.tables e below (s₁.setTop (mkF m 58 #[.val (.int (2 : Int32))] [(.int ((2 : Int32) <<< ((1 : Int32) &&& 31)))])) _
    show Steps p.tables e below (s₁.setTop (mkF m 58 #[.val (.int (2 : Int32))] [(.int (4 : Int32))])) _
    exact retI X0 hx Bd.returns (hb hby d22_58) hr
  · exact ⟨rfl, N0, e0⟩
theorem pd__I_I : parseMethodDescriptor "(I)I" = some ⟨[.int], some .int⟩ := by decide +kernel
set_option maxRecDepth 65536 in
set_option maxHeartbeats 40000000 in
theorem rm21 (l : Launch) (Z : State) (a0 : Array Value) (hw : ∀ d ∈ tables_1, d.before a0 Z = true) (ws : List Jvm.Cond)  (h0 : Heap) (n0 : Nat) (Z0 : n0 ≤ h0.size)  :
    MetFree l (⟨"java/lang/StringUTF16", "newBytesFor", "(I)[B"⟩ : MethodName) (head1 (Jvm.Cond.code (⟨"java/lang/StringUTF16", "newBytesFor", "(I)[B"⟩ : MethodName) jdk_52_method_2_code 1 (some (.array .byte)) :: ws) ({ frames := 1, cells := 1, slots := 4, locals := 12 } : Room)) (fun a U => a = #[(.int (2 : Int32))] ∧ Z.Warmed39 U.vm ∧ U.heap = h0) (fun _ _ _ _ _ => True) (fun _ U o U' => ∃ v L, o = .returned v ∧ (QN Z 4 h0 n0 v U'.heap L) ∧ FrameEnd U o U' L ({ frames := 1, cells := 1, slots := 4, locals := 12 } : Room).cells ({ frames := 1, cells := 1, slots := 4, locals := 12 } : Room).slots) := by
  refine MetFree.of_bodySF (plainFor_of_name pn_21) hisR ?_
  intro p e s m args below meth c s₁ Bd hml0 hP hK
  obtain ⟨rfl, hZ, hh⟩ := hP
  have hx := Bd.exec
  have hby := Bd.bytes
  have hml : c.maxLocals = 1 := hml0
  have hown : s.vm.findClass "java/lang/StringUTF16" = some m.cls := findClass_of_methodNamed Bd.named
  have hnm := (name_of_methodNamed Bd.named Bd.method).1
  have X0 : Stand p l e ({ frames := 1, cells := 1, slots := 4, locals := 12 } : Room) s m #[(.int (2 : Int32))] below meth c s₁ [] 0 0 := Stand.of_body Bd
  have e0 : s₁.heap = h0 := by rw [← hh, Bd.state]; rfl
  have N0 := Fr.nil n0
  have pre0 : ∀ t, Steps p.tables e below (s₁.setTop (mkF m 0 #[.val (.int (2 : Int32))] [])) t → Steps p.tables e below (s₁.setTop (entryFrame m #[(.int (2 : Int32))] 1)) t := fun t k => castTop (ef_21 m (2 : Int32)) k
  have K0 : Keep h0 h0 [] := Keep.refl h0 []
  obtain ⟨_, _, ⟨T1, L1, k1, n1⟩, -, X1, ⟨Lc1, hQ1, l1, y1, z1⟩, st1⟩ := Jvm.LawKit.callS X0 hx (y := (⟨"java/lang/StringUTF16", "newBytesLength", "(I)I"⟩ : MethodName)) hown (mvT hZ (hw _ (List.mem_of_getElem? (i := 108) rfl))) (mvT hZ (hw _ (List.mem_of_getElem? (i := 109) rfl))) (mvT hZ (hw _ (List.mem_of_getElem? (i := 18) rfl))) (mvT hZ (hw _ (List.mem_of_getElem? (i := 110) rfl))) (by decide) (backOf (W := 0) (rm22 l Z a0 hw []  h0 n0 Z0) hZ (hw _ (List.mem_of_getElem? (i := 110) rfl)) (hw _ (List.mem_of_getElem? (i := 18) rfl)) (by decide) (by decide)) (g := (mkF m 1 #[.val (.int (2 : Int32))] [(.int (2 : Int32))])) rfl (by rw [hml]; rfl) (argsL := [(.int (2 : Int32))]) (rest := []) (lenOf pd__I_I rfl) rfl (by show 2 * 0 + _ ≤ _; exact Nat.le_of_eq rfl) (hb hby d21_1) (fun _ _ => ⟨rfl, e0, (by decide : 0 + 0 ≤ _), (by decide : 0 + 0 ≤ _)⟩)
  dsimp only [Pt.U, Pt.locs, Pt.cells, Pt.slots] at X1 l1 y1 z1 st1 hQ1
  subst l1 y1 z1
  obtain ⟨rfl, N1q, e1⟩ := hQ1
  have N1 := Fr.app N0 N1q
  obtain ⟨T2, h2, k2, X2, e2, E2, A2, st2⟩ := newP X1 hx hZ (hw _ (List.mem_of_getElem? (i := 20) rfl)) e1 (g := (mkF m 4 #[.val (.int (2 : Int32))] [(.int (4 : Int32))])) rfl (hb hby d21_4) rfl (by decide) (cap := 4) (by decide) (by decide) (by decide) (by decide)
  obtain ⟨r, g2⟩ : ∃ z, z = h0.size := ⟨_, rfl⟩
  rw [← g2] at A2 st2
  have V_r_2 : Arv Z h2 r k2 .byte (4 : Int32) [(.int (0 : Int32)), (.int (0 : Int32)), (.int (0 : Int32)), (.int (0 : Int32))] (.int (0 : Int32)) := (Arv.new A2 (by decide)).pad (pad_rep [] (.int (0 : Int32)) 4)
  have g_r : n0 ≤ r := Nat.le_trans Z0 (Nat.le_of_eq g2.symm)
  have sz_r : h0.size ≤ r := Nat.le_trans K0.1 (Nat.le_of_eq g2.symm)
  have keep_3 : Keep h0 h2 [] := K0.ext E2
  have siz_3 : n0 ≤ h2.size := Nat.le_trans Z0 E2.1
  obtain ⟨fs, hr, hrun, hended, hW, hsame⟩ := X2.leave (v := some (.ref r)) (fun h => by rw [Bd.returns] at h; cases h)
  refine ⟨_, _, pre0 _ ?_, hrun, hended, _, _, rfl, ?_, ⟨_, rfl⟩, hW, hsame.mono (by decide) (by decide)⟩
  · show Steps p.tables e below (s₁.setTop (mkF m 0 #[.val (.int (2 : Int32))] [])) _
    refine XS.iloadN X0.here hx rfl (hb hby d21_0) rfl ?_
    show Steps p.tables e below (s₁.setTop (mkF m 1 #[.val (.int (2 : Int32))] [(.int (2 : Int32))])) _
    refine st1 _ ?_
    show Steps p.tables e below (T1.setTop (mkF m 4 #[.val (.int (2 : Int32))] [(.int (4 : Int32))])) _
    refine st2 _ ?_
    show Steps p.tables e below (T2.setTop (mkF m 6 #[.val (.int (2 : Int32))] [(.ref r)])) _
    exact retOut X2 hx (t := (.array .byte)) (i := .areturn) Bd.returns rfl (Or.inr (Or.inr (Or.inr (Or.inr ⟨rfl, rfl, rfl⟩)))) (hb hby d21_6) hr
  · exact (by
      have eT : (T2.setFrames fs).heap = h2 := e2
      rw [eT]; exact ⟨r, _, rfl, N1, keep_3, sz_r, V_r_2⟩)
set_option maxRecDepth 65536 in
set_option maxHeartbeats 40000000 in
theorem rm24 (l : Launch) (Z : State) (a0 : Array Value) (hw : ∀ d ∈ tables_1, d.before a0 Z = true) (ws : List Jvm.Cond)  (h0 : Heap) (n0 : Nat) (Z0 : n0 ≤ h0.size)  :
    MetFree l (⟨"java/lang/Math", "min", "(II)I"⟩ : MethodName) (head1 (Jvm.Cond.code (⟨"java/lang/Math", "min", "(II)I"⟩ : MethodName) jdk_29_method_69_code 2 (some .int) :: ws) ({ frames := 0, cells := 0, slots := 0, locals := 0 } : Room)) (fun a U => a = #[(.int (4 : Int32)), (.int (3 : Int32))] ∧ Z.Warmed39 U.vm ∧ U.heap = h0) (fun _ _ _ _ _ => True) (fun _ U o U' => ∃ v L, o = .returned v ∧ (QP (some (.int (3 : Int32))) h0 n0 v U'.heap L) ∧ FrameEnd U o U' L ({ frames := 0, cells := 0, slots := 0, locals := 0 } : Room).cells ({ frames := 0, cells := 0, slots := 0, locals := 0 } : Room).slots) := by
  refine MetFree.of_bodySF (Jvm.Free.JP.mathPlain rfl (by decide +kernel)) hisR ?_
  intro p e s m args below meth c s₁ Bd hml0 hP hK
  obtain ⟨rfl, hZ, hh⟩ := hP
  have hx := Bd.exec
  have hby := Bd.bytes
  have hml : c.maxLocals = 2 := hml0
  have hown : s.vm.findClass "java/lang/Math" = some m.cls := findClass_of_methodNamed Bd.named
  have hnm := (name_of_methodNamed Bd.named Bd.method).1
  have X0 : Stand p l e ({ frames := 0, cells := 0, slots := 0, locals := 0 } : Room) s m #[(.int (4 : Int32)), (.int (3 : Int32))] below meth c s₁ [] 0 0 := Stand.of_body Bd
  have e0 : s₁.heap = h0 := by rw [← hh, Bd.state]; rfl
  have N0 := Fr.nil n0
  have pre0 : ∀ t, Steps p.tables e below (s₁.setTop (mkF m 0 #[.val (.int (4 : Int32)), .val (.int (3 : Int32))] [])) t → Steps p.tables e below (s₁.setTop (entryFrame m #[(.int (4 : Int32)), (.int (3 : Int32))] 2)) t := fun t k => castTop (ef_24 m (4 : Int32) (3 : Int32)) k
  obtain ⟨fs, hr, hrun, hended, hW, hsame⟩ := X0.leave (v := some (.int (3 : Int32))) (fun h => by rw [Bd.returns] at h; cases h)
  refine ⟨_, _, pre0 _ ?_, hrun, hended, _, _, rfl, ?_, ⟨_, rfl⟩, hW, hsame.mono (by decide) (by decide)⟩
  · show Steps p.tables e below (s₁.setTop (mkF m 0 #[.val (.int (4 : Int32)), .val (.int (3 : Int32))] [])) _
    refine XS.iloadN X0.here hx rfl (hb hby d24_0) rfl ?_
    show Steps p.tables e below (s₁.setTop (mkF m 1 #[.val (.int (4 : Int32)), .val (.int (3 : Int32))] [(.int (4 : Int32))])) _
    refine XS.iloadN X0.here hx rfl (hb hby d24_1) rfl ?_
    show Steps p.tables e below (s₁.setTop (mkF m 2 #[.val (.int (4 : Int32)), .val (.int (3 : Int32))] [(.int (3 : Int32)), (.int (4 : Int32))])) _
    refine XS.icmpYes X0.here hx rfl (pc0 := 2) (pc' := 9) rfl (hb hby d24_2) rfl (tlt (by decide : (3 : Int32) < (4 : Int32))).2.2.1 (by decide) (by decide) ?_
    show Steps p.tables e below (s₁.setTop (mkF m 9 #[.val (.int (4 : Int32)), .val (.int (3 : Int32))] [])) _
    refine XS.iloadN X0.here hx rfl (hb hby d24_9) rfl ?_
    show Steps p.tables e below (s₁.setTop (mkF m 10 #[.val (.int (4 : Int32)), .val (.int (3 : Int32))] [(.int (3 : Int32))])) _
    exact retI X0 hx Bd.returns (hb hby d24_10) hr
  · exact ⟨rfl, N0, e0⟩
theorem pd__II_I : parseMethodDescriptor "(II)I" = some ⟨[.int, .int], some .int⟩ := by decide +kernel
theorem pd__Ljava_lang_Object_ILjava_lang_Object_II_V : parseMethodDescriptor "(Ljava/lang/Object;ILjava/lang/Object;II)V" = some ⟨[(.object "java/lang/Object"), .int, (.object "java/lang/Object"), .int, .int], none⟩ := by decide +kernel
set_option maxRecDepth 65536 in
set_option maxHeartbeats 40000000 in
theorem rm23 (l : Launch) (Z : State) (a0 : Array Value) (hw : ∀ d ∈ tables_1, d.before a0 Z = true) (ws : List Jvm.Cond) (x0 : Addr) (k0 : ClassId) (u0 u1 u2 u3 : Int32) (h0 : Heap) (n0 : Nat) (Z0 : n0 ≤ h0.size) (V_x0 : Arv Z h0 x0 k0 .byte (4 : Int32) [(.int u0), (.int u1), (.int u2), (.int u3)] (.int (0 : Int32))) :
    MetFree l (⟨"java/util/Arrays", "copyOf", "([BI)[B"⟩ : MethodName) (head1 (Jvm.Cond.code (⟨"java/util/Arrays", "copyOf", "([BI)[B"⟩ : MethodName) jdk_65_method_121_code 3 (some (.array .byte)) :: ws) ({ frames := 1, cells := 1, slots := 3, locals := 60 } : Room)) (fun a U => a = #[(.ref x0), (.int (3 : Int32))] ∧ Z.Warmed39 U.vm ∧ U.heap = h0) (fun _ _ _ _ _ => True) (fun _ U o U' => ∃ v L, o = .returned v ∧ (QR Z h0 n0 v U'.heap L) ∧ FrameEnd U o U' L ({ frames := 1, cells := 1, slots := 3, locals := 60 } : Room).cells ({ frames := 1, cells := 1, slots := 3, locals := 60 } : Room).slots) := by
  refine MetFree.of_bodySF (plainFor_of_name pn_23) hisR ?_
  intro p e s m args below meth c s₁ Bd hml0 hP hK
  obtain ⟨rfl, hZ, hh⟩ := hP
  have hx := Bd.exec
  have hby := Bd.bytes
  have hml : c.maxLocals = 3 := hml0
  have hown : s.vm.findClass "java/util/Arrays" = some m.cls := findClass_of_methodNamed Bd.named
  have hnm := (name_of_methodNamed Bd.named Bd.method).1
  have X0 : Stand p l e ({ frames := 1, cells := 1, slots := 3, locals := 60 } : Room) s m #[(.ref x0), (.int (3 : Int32))] below meth c s₁ [] 0 0 := Stand.of_body Bd
  have e0 : s₁.heap = h0 := by rw [← hh, Bd.state]; rfl
  have N0 := Fr.nil n0
  have pre0 : ∀ t, Steps p.tables e below (s₁.setTop (mkF m 0 #[.val (.ref x0), .val (.int (3 : Int32)), .unset] [])) t → Steps p.tables e below (s₁.setTop (entryFrame m #[(.ref x0), (.int (3 : Int32))] 3)) t := fun t k => castTop (ef_23 m x0 (3 : Int32)) k
  have K0 : Keep h0 h0 [] := Keep.refl h0 []
  obtain ⟨T1, h1, k1, X1, e1, E1, A1, st1⟩ := newP X0 hx hZ (hw _ (List.mem_of_getElem? (i := 20) rfl)) e0 (g := (mkF m 15 #[.val (.ref x0), .val (.int (3 : Int32)), .unset] [(.int (3 : Int32))])) rfl (hb hby d23_15) rfl (by decide) (cap := 3) (by decide) (by decide) (by decide) (by decide)
  obtain ⟨r, g1⟩ : ∃ z, z = h0.size := ⟨_, rfl⟩
  rw [← g1] at A1 st1
  have V_r_1 : Arv Z h1 r k1 .byte (3 : Int32) [(.int (0 : Int32)), (.int (0 : Int32)), (.int (0 : Int32))] (.int (0 : Int32)) := (Arv.new A1 (by decide)).pad (pad_rep [] (.int (0 : Int32)) 3)
  have lt_x0_r : x0 < r := Nat.lt_of_lt_of_le V_x0.lt (Nat.le_of_eq g1.symm)
  have g_r : n0 ≤ r := Nat.le_trans Z0 (Nat.le_of_eq g1.symm)
  have sz_r : h0.size ≤ r := Nat.le_trans K0.1 (Nat.le_of_eq g1.symm)
  have keep_2 : Keep h0 h1 [] := K0.ext E1
  have V_x0_2 : Arv Z h1 x0 k0 .byte (4 : Int32) [(.int u0), (.int u1), (.int u2), (.int u3)] (.int (0 : Int32)) := V_x0.ext E1
  have siz_2 : n0 ≤ h1.size := Nat.le_trans Z0 E1.1
  obtain ⟨_, _, ⟨T3, L3, k3, n3⟩, -, X3, ⟨Lc3, hQ3, l3, y3, z3⟩, st3⟩ := Jvm.LawKit.callS X1 hx (y := (⟨"java/lang/Math", "min", "(II)I"⟩ : MethodName)) hown (mvT hZ (hw _ (List.mem_of_getElem? (i := 125) rfl))) (mvT hZ (hw _ (List.mem_of_getElem? (i := 126) rfl))) (mvT hZ (hw _ (List.mem_of_getElem? (i := 127) rfl))) (mvT hZ (hw _ (List.mem_of_getElem? (i := 128) rfl))) (by decide) (backOf (W := 4) (rm24 l Z a0 hw []  h1 n0 siz_2) hZ (hw _ (List.mem_of_getElem? (i := 128) rfl)) (hw _ (List.mem_of_getElem? (i := 127) rfl)) (by decide) (by decide)) (g := (mkF m 25 #[.val (.ref x0), .val (.int (3 : Int32)), .val (.ref r)] [(.int (3 : Int32)), (.int (4 : Int32)), (.int (0 : Int32)), (.ref r), (.int (0 : Int32)), (.ref x0)])) rfl (by rw [hml]; rfl) (argsL := [(.int (4 : Int32)), (.int (3 : Int32))]) (rest := [(.int (0 : Int32)), (.ref r), (.int (0 : Int32)), (.ref x0)]) (lenOf pd__II_I rfl) rfl (by show 2 * 0 + _ ≤ _; exact Nat.le_of_eq rfl) (hb hby d23_25) (fun _ _ => ⟨rfl, e1, (by decide : 1 + 0 ≤ _), (by decide : 3 + 0 ≤ _)⟩)
  dsimp only [Pt.U, Pt.locs, Pt.cells, Pt.slots] at X3 l3 y3 z3 st3 hQ3
  subst l3 y3 z3
  obtain ⟨rfl, N3q, e3⟩ := hQ3
  have N3 := Fr.app N0 N3q
  obtain ⟨T4, h4, L4, X4, e4, N4, K4, A4, st4⟩ := cpA X3 hx hZ hown (hw _ (List.mem_of_getElem? (i := 129) rfl)) (hw _ (List.mem_of_getElem? (i := 132) rfl)) (hw _ (List.mem_of_getElem? (i := 130) rfl)) (hw _ (List.mem_of_getElem? (i := 131) rfl)) e3 (us := [(.int u0), (.int u1), (.int u2)]) V_x0_2 V_r_1 (Or.inl ⟨rfl, rfl⟩) (by decide) (by decide) (by decide) (by decide) (by decide) rfl (by decide) N3 g_r (g := (mkF m 28 #[.val (.ref x0), .val (.int (3 : Int32)), .val (.ref r)] [(.int (3 : Int32)), (.int (0 : Int32)), (.ref r), (.int (0 : Int32)), (.ref x0)])) rfl (by rw [hml]; rfl) rfl (hb hby d23_28) (by decide) (W := 0) (by show 2 * 0 + _ ≤ _; exact Nat.le_of_eq rfl) (by decide)
  have keep_5 : Keep h0 h4 [] := keep_2.trans K4 (allS (Or.inr sz_r) (all0))
  have V_x0_5 : Arv Z h4 x0 k0 .byte (4 : Int32) [(.int u0), (.int u1), (.int u2), (.int u3)] (.int (0 : Int32)) := V_x0_2.keep K4 (ninS (Nat.ne_of_lt lt_x0_r) nin0)
  have siz_5 : n0 ≤ h4.size := Nat.le_trans siz_2 K4.1
  obtain ⟨fs, hr, hrun, hended, hW, hsame⟩ := X4.leave (v := some (.ref r)) (fun h => by rw [Bd.returns] at h; cases h)
  refine ⟨_, _, pre0 _ ?_, hrun, hended, _, _, rfl, ?_, ⟨_, rfl⟩, hW, hsame.mono (by decide) (by decide)⟩
  · show Steps p.tables e below (s₁.setTop (mkF m 0 #[.val (.ref x0), .val (.int (3 : Int32)), .unset] [])) _
    refine XS.iloadN X0.here hx rfl (hb hby d23_0) rfl ?_
    show Steps p.tables e below (s₁.setTop (mkF m 1 #[.val (.ref x0), .val (.int (3 : Int32)), .unset] [(.int (3 : Int32))])) _
    refine XS.aloadN X0.here hx rfl (hb hby d23_1) rfl rfl ?_
    show Steps p.tables e below (s₁.setTop (mkF m 2 #[.val (.ref x0), .val (.int (3 : Int32)), .unset] [(.ref x0), (.int (3 : Int32))])) _
    refine own_len X0 hx hZ e0 V_x0 (g := (mkF m 2 #[.val (.ref x0), .val (.int (3 : Int32)), .unset] [(.ref x0), (.int (3 : Int32))])) rfl rfl (hb hby d23_2) ?_
    show Steps p.tables e below (s₁.setTop (mkF m 3 #[.val (.ref x0), .val (.int (3 : Int32)), .unset] [(.int (4 : Int32)), (.int (3 : Int32))])) _
    refine XS.icmpYes X0.here hx rfl (pc0 := 3) (pc' := 14) rfl (hb hby d23_3) rfl (feq (by decide : ¬ ((3 : Int32) = (4 : Int32)))).2 (by decide) (by decide) ?_
    show Steps p.tables e below (s₁.setTop (mkF m 14 #[.val (.ref x0), .val (.int (3 : Int32)), .unset] [])) _
    refine XS.iloadN X0.here hx rfl (hb hby d23_14) rfl ?_
    show Steps p.tables e below (s₁.setTop (mkF m 15 #[.val (.ref x0), .val (.int (3 : Int32)), .unset] [(.int (3 : Int32))])) _
    refine st1 _ ?_
    show Steps p.tables e below (T1.setTop (mkF m 17 #[.val (.ref x0), .val (.int (3 : Int32)), .unset] [(.ref r)])) _
    refine XS.astoreN X1.here hx rfl (hb hby d23_17) rfl rfl (l' := #[.val (.ref x0), .val (.int (3 : Int32)), .val (.ref r)]) rfl ?_
    show Steps p.tables e below (T1.setTop (mkF m 18 #[.val (.ref x0), .val (.int (3 : Int32)), .val (.ref r)] [])) _
    refine XS.aloadN X1.here hx rfl (hb hby d23_18) rfl rfl ?_
    show Steps p.tables e below (T1.setTop (mkF m 19 #[.val (.ref x0), .val (.int (3 : Int32)), .val (.ref r)] [(.ref x0)])) _
    refine XS.iconst X1.here hx rfl (hb hby d23_19) ?_
    show Steps p.tables e below (T1.setTop (mkF m 20 #[.val (.ref x0), .val (.int (3 : Int32)), .val (.ref r)] [(.int (0 : Int32)), (.ref x0)])) _
    refine XS.aloadN X1.here hx rfl (hb hby d23_20) rfl rfl ?_
    show Steps p.tables e below (T1.setTop (mkF m 21 #[.val (.ref x0), .val (.int (3 : Int32)), .val (.ref r)] [(.ref r), (.int (0 : Int32)), (.ref x0)])) _
    refine XS.iconst X1.here hx rfl (hb hby d23_21) ?_
    show Steps p.tables e below (T1.setTop (mkF m 22 #[.val (.ref x0), .val (.int (3 : Int32)), .val (.ref r)] [(.int (0 : Int32)), (.ref r), (.int (0 : Int32)), (.ref x0)])) _
    refine XS.aloadN X1.here hx rfl (hb hby d23_22) rfl rfl ?_
    show Steps p.tables e below (T1.setTop (mkF m 23 #[.val (.ref x0), .val (.int (3 : Int32)), .val (.ref r)] [(.ref x0), (.int (0 : Int32)), (.ref r), (.int (0 : Int32)), (.ref x0)])) _
    refine own_len X1 hx hZ e1 V_x0_2 (g := (mkF m 23 #[.val (.ref x0), .val (.int (3 : Int32)), .val (.ref r)] [(.ref x0), (.int (0 : Int32)), (.ref r), (.int (0 : Int32)), (.ref x0)])) rfl rfl (hb hby d23_23) ?_
    show Steps p.tables e below (T1.setTop (mkF m 24 #[.val (.ref x0), .val (.int (3 : Int32)), .val (.ref r)] [(.int (4 : Int32)), (.int (0 : Int32)), (.ref r), (.int (0 : Int32)), (.ref x0)])) _
    refine XS.iloadN X1.here hx rfl (hb hby d23_24) rfl ?_
    show Steps p.tables e below (T1.setTop (mkF m 25 #[.val (.ref x0), .val (.int (3 : Int32)), .val (.ref r)] [(.int (3 : Int32)), (.int (4 : Int32)), (.int (0 : Int32)), (.ref r), (.int (0 : Int32)), (.ref x0)])) _
    refine st3 _ ?_
    show Steps p.tables e below (T3.setTop (mkF m 28 #[.val (.ref x0), .val (.int (3 : Int32)), .val (.ref r)] [(.int (3 : Int32)), (.int (0 : Int32)), (.ref r), (.int (0 : Int32)), (.ref x0)])) _
    refine st4 _ ?_
    show Steps p.tables e below (T4.setTop (mkF m 31 #[.val (.ref x0), .val (.int (3 : Int32)), .val (.ref r)] [])) _
    refine XS.aloadN X4.here hx rfl (hb hby d23_31) rfl rfl ?_
    show Steps p.tables e below (T4.setTop (mkF m 32 #[.val (.ref x0), .val (.int (3 : Int32)), .val (.ref r)] [(.ref r)])) _
    exact retOut X4 hx (t := (.array .byte)) (i := .areturn) Bd.returns rfl (Or.inr (Or.inr (Or.inr (Or.inr ⟨rfl, rfl, rfl⟩)))) (hb hby d23_32) hr
  · exact (by
      have eT : (T4.setFrames fs).heap = h4 := e4
      rw [eT]; exact ⟨r, rfl, N4, keep_5⟩)
theorem pd___BII_Z : parseMethodDescriptor "([BII)Z" = some ⟨[(.array .byte), .int, .int], some .boolean⟩ := by decide +kernel
theorem pd___Ljava_lang_Object_ : parseMethodDescriptor "()Ljava/lang/Object;" = some ⟨[], some (.object "java/lang/Object")⟩ := by decide +kernel
set_option maxRecDepth 65536 in
set_option maxHeartbeats 40000000 in
theorem rmu_00 (l : Launch) (Z : State) (a0 : Array Value) (hw : ∀ d ∈ tables_1, d.before a0 Z = true) (ws : List Jvm.Cond) (x1 : Addr) (k1 : ClassId) (u0 u1 : Int32) (h0 : Heap) (n0 : Nat) (Z0 : n0 ≤ h0.size) (V_x1 : Arv Z h0 x1 k1 .byte (2 : Int32) [(.int u0), (.int u1)] (.int (0 : Int32))) (E_x1 : Exa Z h0 x1 "[B") (hs0 : ¬ (u0 < (0 : Int32))) (hs1 : ¬ (u1 < (0 : Int32))) :
    MetFree l (⟨"java/lang/String", "encodeUTF8", "(B[BZ)[B"⟩ : MethodName) (head1 (Jvm.Cond.code (⟨"java/lang/String", "encodeUTF8", "(B[BZ)[B"⟩ : MethodName) jdk_42_method_46_code 9 (some (.array .byte)) :: ws) ({ frames := 2, cells := 2, slots := 7, locals := 74 } : Room)) (fun a U => a = #[(.int (0 : Int32)), (.ref x1), (.int (1 : Int32))] ∧ Z.Warmed39 U.vm ∧ U.heap = h0) (fun _ _ _ _ _ => True) (fun _ U o U' => ∃ v L, o = .returned v ∧ (QR Z h0 n0 v U'.heap L) ∧ FrameEnd U o U' L ({ frames := 2, cells := 2, slots := 7, locals := 74 } : Room).cells ({ frames := 2, cells := 2, slots := 7, locals := 74 } : Room).slots) := by
  refine MetFree.of_bodySF (plainFor_of_name pn_18) hisR ?_
  intro p e s m args below meth c s₁ Bd hml0 hP hK
  obtain ⟨rfl, hZ, hh⟩ := hP
  have hx := Bd.exec
  have hby := Bd.bytes
  have hml : c.maxLocals = 9 := hml0
  have hown : s.vm.findClass "java/lang/String" = some m.cls := findClass_of_methodNamed Bd.named
  have hnm := (name_of_methodNamed Bd.named Bd.method).1
  have X0 : Stand p l e ({ frames := 2, cells := 2, slots := 7, locals := 74 } : Room) s m #[(.int (0 : Int32)), (.ref x1), (.int (1 : Int32))] below meth c s₁ [] 0 0 := Stand.of_body Bd
  have e0 : s₁.heap = h0 := by rw [← hh, Bd.state]; rfl
  have N0 := Fr.nil n0
  have pre0 : ∀ t, Steps p.tables e below (s₁.setTop (mkF m 0 #[.val (.int (0 : Int32)), .val (.ref x1), .val (.int (1 : Int32)), .unset, .unset, .unset, .unset, .unset, .unset] [])) t → Steps p.tables e below (s₁.setTop (entryFrame m #[(.int (0 : Int32)), (.ref x1), (.int (1 : Int32))] 9)) t := fun t k => castTop (ef_18 m (0 : Int32) x1 (1 : Int32)) k
  have K0 : Keep h0 h0 [] := Keep.refl h0 []
  have hcp : own_cp u0 u1 = (2 : Int32) := by unfold own_cp; rw [if_neg hs0, if_neg hs1]
  have hhn : own_hn u0 u1 = (0 : Int32) := by unfold own_hn; rw [hcp]; rfl
  obtain ⟨_, _, ⟨T1, L1, k1, n1⟩, -, X1, ⟨Lc1, hQ1, l1, y1, z1⟩, st1⟩ := Jvm.LawKit.callS X0 hx (y := (⟨"java/lang/StringCoding", "hasNegatives", "([BII)Z"⟩ : MethodName)) hown (mvT hZ (hw _ (List.mem_of_getElem? (i := 98) rfl))) (mvT hZ (hw _ (List.mem_of_getElem? (i := 99) rfl))) (mvT hZ (hw _ (List.mem_of_getElem? (i := 100) rfl))) (mvT hZ (hw _ (List.mem_of_getElem? (i := 101) rfl))) (by decide) (backOf (W := 0) (rm19 l Z a0 hw [] x1 k1 u0 u1 h0 n0 Z0 V_x1) hZ (hw _ (List.mem_of_getElem? (i := 101) rfl)) (hw _ (List.mem_of_getElem? (i := 100) rfl)) (by decide) (by decide)) (g := (mkF m 15 #[.val (.int (0 : Int32)), .val (.ref x1), .val (.int (1 : Int32)), .unset, .unset, .unset, .unset, .unset, .unset] [(.int (2 : Int32)), (.int (0 : Int32)), (.ref x1)])) rfl (by rw [hml]; rfl) (argsL := [(.ref x1), (.int (0 : Int32)), (.int (2 : Int32))]) (rest := []) (lenOf pd___BII_Z rfl) rfl (by show 2 * 0 + _ ≤ _; exact Nat.le_of_eq rfl) (hb hby d18_15) (fun _ _ => ⟨rfl, e0, (by decide : 0 + 0 ≤ _), (by decide : 0 + 0 ≤ _)⟩)
  dsimp only [Pt.U, Pt.locs, Pt.cells, Pt.slots] at X1 l1 y1 z1 st1 hQ1
  subst l1 y1 z1
  obtain ⟨rfl, N1q, e1⟩ := hQ1
  have N1 := Fr.app N0 N1q
  obtain ⟨T2, h2, X2, e2, E2, A2, B2, st2⟩ := cloneH X1 hx hZ hown (hw _ (List.mem_of_getElem? (i := 112) rfl)) (hw _ (List.mem_of_getElem? (i := 113) rfl)) (hw _ (List.mem_of_getElem? (i := 117) rfl)) (hw _ (List.mem_of_getElem? (i := 115) rfl)) (hw _ (List.mem_of_getElem? (i := 116) rfl)) (hw _ (List.mem_of_getElem? (i := 118) rfl)) e1 (Arv.arh V_x1) E_x1 (g := (mkF m 22 #[.val (.int (0 : Int32)), .val (.ref x1), .val (.int (1 : Int32)), .unset, .unset, .unset, .unset, .unset, .unset] [(.ref x1)])) rfl (by rw [hml]; rfl) rfl (hb hby d18_22) (by decide) (W := 0) (cap := 2) (by show 2 * 0 + _ ≤ _; exact Nat.le_of_eq rfl) (by decide) (by decide) (by decide) (by decide)
  obtain ⟨rc, g2⟩ : ∃ z, z = h0.size := ⟨_, rfl⟩
  rw [← g2] at A2 B2 st2
  have lt_x1_rc : x1 < rc := Nat.lt_of_lt_of_le V_x1.lt (Nat.le_of_eq g2.symm)
  have g_rc : n0 ≤ rc := Nat.le_trans Z0 (Nat.le_of_eq g2.symm)
  have sz_rc : h0.size ≤ rc := Nat.le_trans K0.1 (Nat.le_of_eq g2.symm)
  have keep_3 : Keep h0 h2 [] := K0.ext E2
  have V_x1_3 : Arv Z h2 x1 k1 .byte (2 : Int32) [(.int u0), (.int u1)] (.int (0 : Int32)) := V_x1.ext E2
  have E_x1_3 : Exa Z h2 x1 "[B" := E_x1.ext E2
  have siz_3 : n0 ≤ h2.size := Nat.le_trans Z0 E2.1
  obtain ⟨T4, X4, e4, st4⟩ := castY X2 hx hZ hown (hw _ (List.mem_of_getElem? (i := 119) rfl)) e2 (Ins.self B2) (g := (mkF m 25 #[.val (.int (0 : Int32)), .val (.ref x1), .val (.int (1 : Int32)), .unset, .unset, .unset, .unset, .unset, .unset] [(.ref rc)])) rfl rfl (hb hby d18_25)
  obtain ⟨fs, hr, hrun, hended, hW, hsame⟩ := X4.leave (v := some (.ref rc)) (fun h => by rw [Bd.returns] at h; cases h)
  refine ⟨_, _, pre0 _ ?_, hrun, hended, _, _, rfl, ?_, ⟨_, rfl⟩, hW, hsame.mono (by decide) (by decide)⟩
  · show Steps p.tables e below (s₁.setTop (mkF m 0 #[.val (.int (0 : Int32)), .val (.ref x1), .val (.int (1 : Int32)), .unset, .unset, .unset, .unset, .unset, .unset] [])) _
    refine XS.iloadN X0.here hx rfl (hb hby d18_0) rfl ?_
    show Steps p.tables e below (s₁.setTop (mkF m 1 #[.val (.int (0 : Int32)), .val (.ref x1), .val (.int (1 : Int32)), .unset, .unset, .unset, .unset, .unset, .unset] [(.int (0 : Int32))])) _
    refine XS.iconst X0.here hx rfl (hb hby d18_1) ?_
    show Steps p.tables e below (s₁.setTop (mkF m 2 #[.val (.int (0 : Int32)), .val (.ref x1), .val (.int (1 : Int32)), .unset, .unset, .unset, .unset, .unset, .unset] [(.int (1 : Int32)), (.int (0 : Int32))])) _
    refine XS.icmpYes X0.here hx rfl (pc0 := 2) (pc' := 11) rfl (hb hby d18_2) rfl (feq (by decide : ¬ ((0 : Int32) = (1 : Int32)))).2 (by decide) (by decide) ?_
    show Steps p.tables e below (s₁.setTop (mkF m 11 #[.val (.int (0 : Int32)), .val (.ref x1), .val (.int (1 : Int32)), .unset, .unset, .unset, .unset, .unset, .unset] [])) _
    refine XS.aloadN X0.here hx rfl (hb hby d18_11) rfl rfl ?_
    show Steps p.tables e below (s₁.setTop (mkF m 12 #[.val (.int (0 : Int32)), .val (.ref x1), .val (.int (1 : Int32)), .unset, .unset, .unset, .unset, .unset, .unset] [(.ref x1)])) _
    refine XS.iconst X0.here hx rfl (hb hby d18_12) ?_
    show Steps p.tables e below (s₁.setTop (mkF m 13 #[.val (.int (0 : Int32)), .val (.ref x1), .val (.int (1 : Int32)), .unset, .unset, .unset, .unset, .unset, .unset] [(.int (0 : Int32)), (.ref x1)])) _
    refine XS.aloadN X0.here hx rfl (hb hby d18_13) rfl rfl ?_
    show Steps p.tables e below (s₁.setTop (mkF m 14 #[.val (.int (0 : Int32)), .val (.ref x1), .val (.int (1 : Int32)), .unset, .unset, .unset, .unset, .unset, .unset] [(.ref x1), (.int (0 : Int32)), (.ref x1)])) _
    refine own_len X0 hx hZ e0 V_x1 (g := (mkF m 14 #[.val (.int (0 : Int32)), .val (.ref x1), .val (.int (1 : Int32)), .unset, .unset, .unset, .unset, .unset, .unset] [(.ref x1), (.int (0 : Int32)), (.ref x1)])) rfl rfl (hb hby d18_14) ?_
    show Steps p.tables e below (s₁.setTop (mkF m 15 #[.val (.int (0 : Int32)), .val (.ref x1), .val (.int (1 : Int32)), .unset, .unset, .unset, .unset, .unset, .unset] [(.int (2 : Int32)), (.int (0 : Int32)), (.ref x1)])) _
    refine st1 _ ?_
    show Steps p.tables e below (T1.setTop (mkF m 18 #[.val (.int (0 : Int32)), .val (.ref x1), .val (.int (1 : Int32)), .unset, .unset, .unset, .unset, .unset, .unset] [(.int (own_hn u0 u1))])) _
    refine XS.ifNo X1.here hx rfl (hb hby d18_18) rfl ((if0 _ _).trans (teq hhn).2) ?_
    show Steps p.tables e below (T1.setTop (mkF m 21 #[.val (.int (0 : Int32)), .val (.ref x1), .val (.int (1 : Int32)), .unset, .unset, .unset, .unset, .unset, .unset] [])) _
    refine XS.aloadN X1.here hx rfl (hb hby d18_21) rfl rfl ?_
    show Steps p.tables e below (T1.setTop (mkF m 22 #[.val (.int (0 : Int32)), .val (.ref x1), .val (.int (1 : Int32)), .unset, .unset, .unset, .unset, .unset, .unset] [(.ref x1)])) _
    refine st2 _ ?_
    show Steps p.tables e below (T2.setTop (mkF m 25 #[.val (.int (0 : Int32)), .val (.ref x1), .val (.int (1 : Int32)), .unset, .unset, .unset, .unset, .unset, .unset] [(.ref rc)])) _
    refine st4 _ ?_
    show Steps p.tables e below (T4.setTop (mkF m 28 #[.val (.int (0 : Int32)), .val (.ref x1), .val (.int (1 : Int32)), .unset, .unset, .unset, .unset, .unset, .unset] [(.ref rc)])) _
    exact retOut X4 hx (t := (.array .byte)) (i := .areturn) Bd.returns rfl (Or.inr (Or.inr (Or.inr (Or.inr ⟨rfl, rfl, rfl⟩)))) (hb hby d18_28) hr
  · exact (by
      have eT : (T4.setFrames fs).heap = h2 := e4
      rw [eT]; exact ⟨rc, rfl, N1, keep_3⟩)
theorem pd__I__B : parseMethodDescriptor "(I)[B" = some ⟨[.int], some (.array .byte)⟩ := by decide +kernel
theorem pd___BI__B : parseMethodDescriptor "([BI)[B" = some ⟨[(.array .byte), .int], some (.array .byte)⟩ := by decide +kernel
set_option maxRecDepth 65536 in
set_option maxHeartbeats 40000000 in
theorem rmu_01 (l : Launch) (Z : State) (a0 : Array Value) (hw : ∀ d ∈ tables_1, d.before a0 Z = true) (ws : List Jvm.Cond) (x1 : Addr) (k1 : ClassId) (u0 u1 : Int32) (h0 : Heap) (n0 : Nat) (Z0 : n0 ≤ h0.size) (V_x1 : Arv Z h0 x1 k1 .byte (2 : Int32) [(.int u0), (.int u1)] (.int (0 : Int32))) (E_x1 : Exa Z h0 x1 "[B") (hs0 : ¬ (u0 < (0 : Int32))) (hs1 : u1 < (0 : Int32)) :
    MetFree l (⟨"java/lang/String", "encodeUTF8", "(B[BZ)[B"⟩ : MethodName) (head1 (Jvm.Cond.code (⟨"java/lang/String", "encodeUTF8", "(B[BZ)[B"⟩ : MethodName) jdk_42_method_46_code 9 (some (.array .byte)) :: ws) ({ frames := 2, cells := 2, slots := 7, locals := 74 } : Room)) (fun a U => a = #[(.int (0 : Int32)), (.ref x1), (.int (1 : Int32))] ∧ Z.Warmed39 U.vm ∧ U.heap = h0) (fun _ _ _ _ _ => True) (fun _ U o U' => ∃ v L, o = .returned v ∧ (QR Z h0 n0 v U'.heap L) ∧ FrameEnd U o U' L ({ frames := 2, cells := 2, slots := 7, locals := 74 } : Room).cells ({ frames := 2, cells := 2, slots := 7, locals := 74 } : Room).slots) := by
  refine MetFree.of_bodySF (plainFor_of_name pn_18) hisR ?_
  intro p e s m args below meth c s₁ Bd hml0 hP hK
  obtain ⟨rfl, hZ, hh⟩ := hP
  have hx := Bd.exec
  have hby := Bd.bytes
  have hml : c.maxLocals = 9 := hml0
  have hown : s.vm.findClass "java/lang/String" = some m.cls := findClass_of_methodNamed Bd.named
  have hnm := (name_of_methodNamed Bd.named Bd.method).1
  have X0 : Stand p l e ({ frames := 2, cells := 2, slots := 7, locals := 74 } : Room) s m #[(.int (0 : Int32)), (.ref x1), (.int (1 : Int32))] below meth c s₁ [] 0 0 := Stand.of_body Bd
  have e0 : s₁.heap = h0 := by rw [← hh, Bd.state]; rfl
  have N0 := Fr.nil n0
  have pre0 : ∀ t, Steps p.tables e below (s₁.setTop (mkF m 0 #[.val (.int (0 : Int32)), .val (.ref x1), .val (.int (1 : Int32)), .unset, .unset, .unset, .unset, .unset, .unset] [])) t → Steps p.tables e below (s₁.setTop (entryFrame m #[(.int (0 : Int32)), (.ref x1), (.int (1 : Int32))] 9)) t := fun t k => castTop (ef_18 m (0 : Int32) x1 (1 : Int32)) k
  have K0 : Keep h0 h0 [] := Keep.refl h0 []
  have hcp : own_cp u0 u1 = (1 : Int32) := by unfold own_cp; rw [if_neg hs0, if_pos hs1]
  have hhn : own_hn u0 u1 = (1 : Int32) := by unfold own_hn; rw [hcp]; rfl
  obtain ⟨_, _, ⟨T1, L1, k1, n1⟩, -, X1, ⟨Lc1, hQ1, l1, y1, z1⟩, st1⟩ := Jvm.LawKit.callS X0 hx (y := (⟨"java/lang/StringCoding", "hasNegatives", "([BII)Z"⟩ : MethodName)) hown (mvT hZ (hw _ (List.mem_of_getElem? (i := 98) rfl))) (mvT hZ (hw _ (List.mem_of_getElem? (i := 99) rfl))) (mvT hZ (hw _ (List.mem_of_getElem? (i := 100) rfl))) (mvT hZ (hw _ (List.mem_of_getElem? (i := 101) rfl))) (by decide) (backOf (W := 0) (rm19 l Z a0 hw [] x1 k1 u0 u1 h0 n0 Z0 V_x1) hZ (hw _ (List.mem_of_getElem? (i := 101) rfl)) (hw _ (List.mem_of_getElem? (i := 100) rfl)) (by decide) (by decide)) (g := (mkF m 15 #[.val (.int (0 : Int32)), .val (.ref x1), .val (.int (1 : Int32)), .unset, .unset, .unset, .unset, .unset, .unset] [(.int (2 : Int32)), (.int (0 : Int32)), (.ref x1)])) rfl (by rw [hml]; rfl) (argsL := [(.ref x1), (.int (0 : Int32)), (.int (2 : Int32))]) (rest := []) (lenOf pd___BII_Z rfl) rfl (by show 2 * 0 + _ ≤ _; exact Nat.le_of_eq rfl) (hb hby d18_15) (fun _ _ => ⟨rfl, e0, (by decide : 0 + 0 ≤ _), (by decide : 0 + 0 ≤ _)⟩)
  dsimp only [Pt.U, Pt.locs, Pt.cells, Pt.slots] at X1 l1 y1 z1 st1 hQ1
  subst l1 y1 z1
  obtain ⟨rfl, N1q, e1⟩ := hQ1
  have N1 := Fr.app N0 N1q
  obtain ⟨_, _, ⟨T2, L2, k2, n2⟩, -, X2, ⟨Lc2, hQ2, l2, y2, z2⟩, st2⟩ := Jvm.LawKit.callS X1 hx (y := (⟨"java/lang/StringUTF16", "newBytesFor", "(I)[B"⟩ : MethodName)) hown (mvT hZ (hw _ (List.mem_of_getElem? (i := 105) rfl))) (mvT hZ (hw _ (List.mem_of_getElem? (i := 106) rfl))) (mvT hZ (hw _ (List.mem_of_getElem? (i := 18) rfl))) (mvT hZ (hw _ (List.mem_of_getElem? (i := 107) rfl))) (by decide) (backOf (W := 0) (rm21 l Z a0 hw []  h0 n0 Z0) hZ (hw _ (List.mem_of_getElem? (i := 107) rfl)) (hw _ (List.mem_of_getElem? (i := 18) rfl)) (by decide) (by decide)) (g := (mkF m 33 #[.val (.int (0 : Int32)), .val (.ref x1), .val (.int (1 : Int32)), .val (.int (0 : Int32)), .unset, .unset, .unset, .unset, .unset] [(.int (2 : Int32))])) rfl (by rw [hml]; rfl) (argsL := [(.int (2 : Int32))]) (rest := []) (lenOf pd__I__B rfl) rfl (by show 2 * 0 + _ ≤ _; exact Nat.le_of_eq rfl) (hb hby d18_33) (fun _ _ => ⟨rfl, e1, (by decide : 0 + 1 ≤ _), (by decide : 0 + 4 ≤ _)⟩)
  dsimp only [Pt.U, Pt.locs, Pt.cells, Pt.slots] at X2 l2 y2 z2 st2 hQ2
  subst l2 y2 z2
  obtain ⟨ds, kd, rfl, N2q, K2, sd2, Vq2⟩ := hQ2
  have g_ds : n0 ≤ ds := Nat.le_trans Z0 sd2
  have lt_x1_ds : x1 < ds := Nat.lt_of_lt_of_le V_x1.lt sd2
  have sz_ds : h0.size ≤ ds := Nat.le_trans K0.1 sd2
  have keep_3 : Keep h0 T2.heap [] := K0.trans K2 (all0)
  have V_x1_3 : Arv Z T2.heap x1 k1 .byte (2 : Int32) [(.int u0), (.int u1)] (.int (0 : Int32)) := V_x1.keep K2 nin0
  have E_x1_3 : Exa Z T2.heap x1 "[B" := E_x1.keep K2
  have siz_3 : n0 ≤ T2.heap.size := Nat.le_trans Z0 K2.1
  have N2 := Fr.app N1 N2q
  obtain ⟨T4, h4, L4, X4, e4, N4, W4, V4, st4⟩ := own_stB X2 hx hZ rfl Vq2 (j := (0 : Int32)) ⟨by decide, by decide⟩ (i := 0) rfl (Nat.le_of_ble_eq_true rfl) N2 g_ds (g := (mkF m 117 #[.val (.int (0 : Int32)), .val (.ref x1), .val (.int (1 : Int32)), .val (.int (1 : Int32)), .val (.ref ds), .val (.ref x1), .val (.int (2 : Int32)), .val (.int (0 : Int32)), .val (.int u0)] [(.int u0), (.int (0 : Int32)), (.ref ds)])) rfl rfl (hb hby d18_117)
  have keep_5 : Keep h0 h4 [] := keep_3.wr W4 (Or.inr sz_ds)
  have V_x1_5 : Arv Z h4 x1 k1 .byte (2 : Int32) [(.int u0), (.int u1)] (.int (0 : Int32)) := V_x1_3.other W4 (Nat.ne_of_lt lt_x1_ds)
  have E_x1_5 : Exa Z h4 x1 "[B" := E_x1_3.wr W4
  have siz_5 : n0 ≤ h4.size := Nat.le_trans siz_3 (Keep.of_wr W4).1
  have V_ds_4 : Arv Z h4 ds kd .byte (4 : Int32) [(.int (nar .byte u0)), (.int (0 : Int32)), (.int (0 : Int32)), (.int (0 : Int32))] (.int (0 : Int32)) := V4
  obtain ⟨T6, h6, L6, X6, e6, N6, W6, V6, st6⟩ := own_stB X4 hx hZ e4 V_ds_4 (j := (1 : Int32)) ⟨by decide, by decide⟩ (i := 1) rfl (Nat.le_of_ble_eq_true rfl) N4 g_ds (g := (mkF m 88 #[.val (.int (0 : Int32)), .val (.ref x1), .val (.int (1 : Int32)), .val (.int (2 : Int32)), .val (.ref ds), .val (.ref x1), .val (.int (2 : Int32)), .val (.int (1 : Int32)), .val (.int u1)] [(.int (((192 : Int32) ||| ((u1 &&& (255 : Int32)) >>> ((6 : Int32) &&& 31))).toInt8.toInt32)), (.int (1 : Int32)), (.ref ds)])) rfl rfl (hb hby d18_88)
  have keep_7 : Keep h0 h6 [] := keep_5.wr W6 (Or.inr sz_ds)
  have V_x1_7 : Arv Z h6 x1 k1 .byte (2 : Int32) [(.int u0), (.int u1)] (.int (0 : Int32)) := V_x1_5.other W6 (Nat.ne_of_lt lt_x1_ds)
  have E_x1_7 : Exa Z h6 x1 "[B" := E_x1_5.wr W6
  have siz_7 : n0 ≤ h6.size := Nat.le_trans siz_5 (Keep.of_wr W6).1
  have V_ds_6 : Arv Z h6 ds kd .byte (4 : Int32) [(.int (nar .byte u0)), (.int (nar .byte (((192 : Int32) ||| ((u1 &&& (255 : Int32)) >>> ((6 : Int32) &&& 31))).toInt8.toInt32))), (.int (0 : Int32)), (.int (0 : Int32))] (.int (0 : Int32)) := V6
  obtain ⟨T8, h8, L8, X8, e8, N8, W8, V8, st8⟩ := own_stB X6 hx hZ e6 V_ds_6 (j := (2 : Int32)) ⟨by decide, by decide⟩ (i := 2) rfl (Nat.le_of_ble_eq_true rfl) N6 g_ds (g := (mkF m 105 #[.val (.int (0 : Int32)), .val (.ref x1), .val (.int (1 : Int32)), .val (.int (3 : Int32)), .val (.ref ds), .val (.ref x1), .val (.int (2 : Int32)), .val (.int (1 : Int32)), .val (.int u1)] [(.int (((128 : Int32) ||| (u1 &&& (63 : Int32))).toInt8.toInt32)), (.int (2 : Int32)), (.ref ds)])) rfl rfl (hb hby d18_105)
  have keep_9 : Keep h0 h8 [] := keep_7.wr W8 (Or.inr sz_ds)
  have V_x1_9 : Arv Z h8 x1 k1 .byte (2 : Int32) [(.int u0), (.int u1)] (.int (0 : Int32)) := V_x1_7.other W8 (Nat.ne_of_lt lt_x1_ds)
  have E_x1_9 : Exa Z h8 x1 "[B" := E_x1_7.wr W8
  have siz_9 : n0 ≤ h8.size := Nat.le_trans siz_7 (Keep.of_wr W8).1
  have V_ds_8 : Arv Z h8 ds kd .byte (4 : Int32) [(.int (nar .byte u0)), (.int (nar .byte (((192 : Int32) ||| ((u1 &&& (255 : Int32)) >>> ((6 : Int32) &&& 31))).toInt8.toInt32))), (.int (nar .byte (((128 : Int32) ||| (u1 &&& (63 : Int32))).toInt8.toInt32))), (.int (0 : Int32))] (.int (0 : Int32)) := V8
  obtain ⟨_, _, ⟨T10, L10, k10, n10⟩, -, X10, ⟨Lc10, hQ10, l10, y10, z10⟩, st10⟩ := Jvm.LawKit.callS X8 hx (y := (⟨"java/util/Arrays", "copyOf", "([BI)[B"⟩ : MethodName)) hown (mvT hZ (hw _ (List.mem_of_getElem? (i := 121) rfl))) (mvT hZ (hw _ (List.mem_of_getElem? (i := 122) rfl))) (mvT hZ (hw _ (List.mem_of_getElem? (i := 123) rfl))) (mvT hZ (hw _ (List.mem_of_getElem? (i := 124) rfl))) (by decide) (backOf (W := 0) (rm23 l Z a0 hw [] ds kd (nar .byte u0) (nar .byte (((192 : Int32) ||| ((u1 &&& (255 : Int32)) >>> ((6 : Int32) &&& 31))).toInt8.toInt32)) (nar .byte (((128 : Int32) ||| (u1 &&& (63 : Int32))).toInt8.toInt32)) (0 : Int32) h8 n0 siz_9 V_ds_8) hZ (hw _ (List.mem_of_getElem? (i := 124) rfl)) (hw _ (List.mem_of_getElem? (i := 123) rfl)) (by decide) (by decide)) (g := (mkF m 137 #[.val (.int (0 : Int32)), .val (.ref x1), .val (.int (1 : Int32)), .val (.int (3 : Int32)), .val (.ref ds), .val (.ref x1), .val (.int (2 : Int32)), .val (.int (2 : Int32)), .val (.int u1)] [(.int (3 : Int32)), (.ref ds)])) rfl (by rw [hml]; rfl) (argsL := [(.ref ds), (.int (3 : Int32))]) (rest := []) (lenOf pd___BI__B rfl) rfl (by show 2 * 0 + _ ≤ _; exact Nat.le_of_eq rfl) (hb hby d18_137) (fun _ _ => ⟨rfl, e8, (by decide : 1 + 1 ≤ _), (by decide : 4 + 3 ≤ _)⟩)
  dsimp only [Pt.U, Pt.locs, Pt.cells, Pt.slots] at X10 l10 y10 z10 st10 hQ10
  subst l10 y10 z10
  obtain ⟨rc, rfl, N10q, K10⟩ := hQ10
  have keep_11 : Keep h0 T10.heap [] := keep_9.trans K10 (all0)
  have V_x1_11 : Arv Z T10.heap x1 k1 .byte (2 : Int32) [(.int u0), (.int u1)] (.int (0 : Int32)) := V_x1_9.keep K10 nin0
  have E_x1_11 : Exa Z T10.heap x1 "[B" := E_x1_9.keep K10
  have siz_11 : n0 ≤ T10.heap.size := Nat.le_trans siz_9 K10.1
  have V_ds_11 : Arv Z T10.heap ds kd .byte (4 : Int32) [(.int (nar .byte u0)), (.int (nar .byte (((192 : Int32) ||| ((u1 &&& (255 : Int32)) >>> ((6 : Int32) &&& 31))).toInt8.toInt32))), (.int (nar .byte (((128 : Int32) ||| (u1 &&& (63 : Int32))).toInt8.toInt32))), (.int (0 : Int32))] (.int (0 : Int32)) := V_ds_8.keep K10 nin0
  have N10 := Fr.app N8 N10q
  obtain ⟨fs, hr, hrun, hended, hW, hsame⟩ := X10.leave (v := some (.ref rc)) (fun h => by rw [Bd.returns] at h; cases h)
  refine ⟨_, _, pre0 _ ?_, hrun, hended, _, _, rfl, ?_, ⟨_, rfl⟩, hW, hsame.mono (by decide) (by decide)⟩
  · show Steps p.tables e below (s₁.setTop (mkF m 0 #[.val (.int (0 : Int32)), .val (.ref x1), .val (.int (1 : Int32)), .unset, .unset, .unset, .unset, .unset, .unset] [])) _
    refine XS.iloadN X0.here hx rfl (hb hby d18_0) rfl ?_
    show Steps p.tables e below (s₁.setTop (mkF m 1 #[.val (.int (0 : Int32)), .val (.ref x1), .val (.int (1 : Int32)), .unset, .unset, .unset, .unset, .unset, .unset] [(.int (0 : Int32))])) _
    refine XS.iconst X0.here hx rfl (hb hby d18_1) ?_
    show Steps p.tables e below (s₁.setTop (mkF m 2 #[.val (.int (0 : Int32)), .val (.ref x1), .val (.int (1 : Int32)), .unset, .unset, .unset, .unset, .unset, .unset] [(.int (1 : Int32)), (.int (0 : Int32))])) _
    refine XS.icmpYes X0.here hx rfl (pc0 := 2) (pc' := 11) rfl (hb hby d18_2) rfl (feq (by decide : ¬ ((0 : Int32) = (1 : Int32)))).2 (by decide) (by decide) ?_
    show Steps p.tables e below (s₁.setTop (mkF m 11 #[.val (.int (0 : Int32)), .val (.ref x1), .val (.int (1 : Int32)), .unset, .unset, .unset, .unset, .unset, .unset] [])) _
    refine XS.aloadN X0.here hx rfl (hb hby d18_11) rfl rfl ?_
    show Steps p.tables e below (s₁.setTop (mkF m 12 #[.val (.int (0 : Int32)), .val (.ref x1), .val (.int (1 : Int32)), .unset, .unset, .unset, .unset, .unset, .unset] [(.ref x1)])) _
    refine XS.iconst X0.here hx rfl (hb hby d18_12) ?_
    show Steps p.tables e below (s₁.setTop (mkF m 13 #[.val (.int (0 : Int32)), .val (.ref x1), .val (.int (1 : Int32)), .unset, .unset, .unset, .unset, .unset, .unset] [(.int (0 : Int32)), (.ref x1)])) _
    refine XS.aloadN X0.here hx rfl (hb hby d18_13) rfl rfl ?_
    show Steps p.tables e below (s₁.setTop (mkF m 14 #[.val (.int (0 : Int32)), .val (.ref x1), .val (.int (1 : Int32)), .unset, .unset, .unset, .unset, .unset, .unset] [(.ref x1), (.int (0 : Int32)), (.ref x1)])) _
    refine own_len X0 hx hZ e0 V_x1 (g := (mkF m 14 #[.val (.int (0 : Int32)), .val (.ref x1), .val (.int (1 : Int32)), .unset, .unset, .unset, .unset, .unset, .unset] [(.ref x1), (.int (0 : Int32)), (.ref x1)])) rfl rfl (hb hby d18_14) ?_
    show Steps p.tables e below (s₁.setTop (mkF m 15 #[.val (.int (0 : Int32)), .val (.ref x1), .val (.int (1 : Int32)), .unset, .unset, .unset, .unset, .unset, .unset] [(.int (2 : Int32)), (.int (0 : Int32)), (.ref x1)])) _
    refine st1 _ ?_
    show Steps p.tables e below (T1.setTop (mkF m 18 #[.val (.int (0 : Int32)), .val (.ref x1), .val (.int (1 : Int32)), .unset, .unset, .unset, .unset, .unset, .unset] [(.int (own_hn u0 u1))])) _
    refine XS.ifYes X1.here hx rfl (pc0 := 18) (pc' := 29) rfl (hb hby d18_18) rfl ((if0 _ _).trans (feq (by rw [hhn]; decide)).2) (by decide) (by decide) ?_
    show Steps p.tables e below (T1.setTop (mkF m 29 #[.val (.int (0 : Int32)), .val (.ref x1), .val (.int (1 : Int32)), .unset, .unset, .unset, .unset, .unset, .unset] [])) _
    refine XS.iconst X1.here hx rfl (hb hby d18_29) ?_
    show Steps p.tables e below (T1.setTop (mkF m 30 #[.val (.int (0 : Int32)), .val (.ref x1), .val (.int (1 : Int32)), .unset, .unset, .unset, .unset, .unset, .unset] [(.int (0 : Int32))])) _
    refine XS.istoreN X1.here hx rfl (hb hby d18_30) rfl (l' := #[.val (.int (0 : Int32)), .val (.ref x1), .val (.int (1 : Int32)), .val (.int (0 : Int32)), .unset, .unset, .unset, .unset, .unset]) rfl ?_
    show Steps p.tables e below (T1.setTop (mkF m 31 #[.val (.int (0 : Int32)), .val (.ref x1), .val (.int (1 : Int32)), .val (.int (0 : Int32)), .unset, .unset, .unset, .unset, .unset] [])) _
    refine XS.aloadN X1.here hx rfl (hb hby d18_31) rfl rfl ?_
    show Steps p.tables e below (T1.setTop (mkF m 32 #[.val (.int (0 : Int32)), .val (.ref x1), .val (.int (1 : Int32)), .val (.int (0 : Int32)), .unset, .unset, .unset, .unset, .unset] [(.ref x1)])) _
    refine own_len X1 hx hZ e1 V_x1 (g := (mkF m 32 #[.val (.int (0 : Int32)), .val (.ref x1), .val (.int (1 : Int32)), .val (.int (0 : Int32)), .unset, .unset, .unset, .unset, .unset] [(.ref x1)])) rfl rfl (hb hby d18_32) ?_
    show Steps p.tables e below (T1.setTop (mkF m 33 #[.val (.int (0 : Int32)), .val (.ref x1), .val (.int (1 : Int32)), .val (.int (0 : Int32)), .unset, .unset, .unset, .unset, .unset] [(.int (2 : Int32))])) _
    refine st2 _ ?_
    show Steps p.tables e below (T2.setTop (mkF m 36 #[.val (.int (0 : Int32)), .val (.ref x1), .val (.int (1 : Int32)), .val (.int (0 : Int32)), .unset, .unset, .unset, .unset, .unset] [(.ref ds)])) _
    refine XS.astore X2.here hx rfl (hb hby d18_36) rfl rfl (l' := #[.val (.int (0 : Int32)), .val (.ref x1), .val (.int (1 : Int32)), .val (.int (0 : Int32)), .val (.ref ds), .unset, .unset, .unset, .unset]) rfl ?_
    show Steps p.tables e below (T2.setTop (mkF m 38 #[.val (.int (0 : Int32)), .val (.ref x1), .val (.int (1 : Int32)), .val (.int (0 : Int32)), .val (.ref ds), .unset, .unset, .unset, .unset] [])) _
    refine XS.aloadN X2.here hx rfl (hb hby d18_38) rfl rfl ?_
    show Steps p.tables e below (T2.setTop (mkF m 39 #[.val (.int (0 : Int32)), .val (.ref x1), .val (.int (1 : Int32)), .val (.int (0 : Int32)), .val (.ref ds), .unset, .unset, .unset, .unset] [(.ref x1)])) _
    refine XS.astore X2.here hx rfl (hb hby d18_39) rfl rfl (l' := #[.val (.int (0 : Int32)), .val (.ref x1), .val (.int (1 : Int32)), .val (.int (0 : Int32)), .val (.ref ds), .val (.ref x1), .unset, .unset, .unset]) rfl ?_
    show Steps p.tables e below (T2.setTop (mkF m 41 #[.val (.int (0 : Int32)), .val (.ref x1), .val (.int (1 : Int32)), .val (.int (0 : Int32)), .val (.ref ds), .val (.ref x1), .unset, .unset, .unset] [])) _
    refine XS.aload X2.here hx rfl (hb hby d18_41) rfl rfl ?_
    show Steps p.tables e below (T2.setTop (mkF m 43 #[.val (.int (0 : Int32)), .val (.ref x1), .val (.int (1 : Int32)), .val (.int (0 : Int32)), .val (.ref ds), .val (.ref x1), .unset, .unset, .unset] [(.ref x1)])) _
    refine own_len X2 hx hZ rfl V_x1_3 (g := (mkF m 43 #[.val (.int (0 : Int32)), .val (.ref x1), .val (.int (1 : Int32)), .val (.int (0 : Int32)), .val (.ref ds), .val (.ref x1), .unset, .unset, .unset] [(.ref x1)])) rfl rfl (hb hby d18_43) ?_
    show Steps p.tables e below (T2.setTop (mkF m 44 #[.val (.int (0 : Int32)), .val (.ref x1), .val (.int (1 : Int32)), .val (.int (0 : Int32)), .val (.ref ds), .val (.ref x1), .unset, .unset, .unset] [(.int (2 : Int32))])) _
    refine XS.istore X2.here hx rfl (hb hby d18_44) rfl (l' := #[.val (.int (0 : Int32)), .val (.ref x1), .val (.int (1 : Int32)), .val (.int (0 : Int32)), .val (.ref ds), .val (.ref x1), .val (.int (2 : Int32)), .unset, .unset]) rfl ?_
    show Steps p.tables e below (T2.setTop (mkF m 46 #[.val (.int (0 : Int32)), .val (.ref x1), .val (.int (1 : Int32)), .val (.int (0 : Int32)), .val (.ref ds), .val (.ref x1), .val (.int (2 : Int32)), .unset, .unset] [])) _
    refine XS.iconst X2.here hx rfl (hb hby d18_46) ?_
    show Steps p.tables e below (T2.setTop (mkF m 47 #[.val (.int (0 : Int32)), .val (.ref x1), .val (.int (1 : Int32)), .val (.int (0 : Int32)), .val (.ref ds), .val (.ref x1), .val (.int (2 : Int32)), .unset, .unset] [(.int (0 : Int32))])) _
    refine XS.istore X2.here hx rfl (hb hby d18_47) rfl (l' := #[.val (.int (0 : Int32)), .val (.ref x1), .val (.int (1 : Int32)), .val (.int (0 : Int32)), .val (.ref ds), .val (.ref x1), .val (.int (2 : Int32)), .val (.int (0 : Int32)), .unset]) rfl ?_
    show Steps p.tables e below (T2.setTop (mkF m 49 #[.val (.int (0 : Int32)), .val (.ref x1), .val (.int (1 : Int32)), .val (.int (0 : Int32)), .val (.ref ds), .val (.ref x1), .val (.int (2 : Int32)), .val (.int (0 : Int32)), .unset] [])) _
    refine XS.iload X2.here hx rfl (hb hby d18_49) rfl ?_
    show Steps p.tables e below (T2.setTop (mkF m 51 #[.val (.int (0 : Int32)), .val (.ref x1), .val (.int (1 : Int32)), .val (.int (0 : Int32)), .val (.ref ds), .val (.ref x1), .val (.int (2 : Int32)), .val (.int (0 : Int32)), .unset] [(.int (0 : Int32))])) _
    refine XS.iload X2.here hx rfl (hb hby d18_51) rfl ?_
    show Steps p.tables e below (T2.setTop (mkF m 53 #[.val (.int (0 : Int32)), .val (.ref x1), .val (.int (1 : Int32)), .val (.int (0 : Int32)), .val (.ref ds), .val (.ref x1), .val (.int (2 : Int32)), .val (.int (0 : Int32)), .unset] [(.int (2 : Int32)), (.int (0 : Int32))])) _
    refine XS.icmpNo X2.here hx rfl (hb hby d18_53) rfl (tlt (by decide : (0 : Int32) < (2 : Int32))).2.1 ?_
    show Steps p.tables e below (T2.setTop (mkF m 56 #[.val (.int (0 : Int32)), .val (.ref x1), .val (.int (1 : Int32)), .val (.int (0 : Int32)), .val (.ref ds), .val (.ref x1), .val (.int (2 : Int32)), .val (.int (0 : Int32)), .unset] [])) _
    refine XS.aload X2.here hx rfl (hb hby d18_56) rfl rfl ?_
    show Steps p.tables e below (T2.setTop (mkF m 58 #[.val (.int (0 : Int32)), .val (.ref x1), .val (.int (1 : Int32)), .val (.int (0 : Int32)), .val (.ref ds), .val (.ref x1), .val (.int (2 : Int32)), .val (.int (0 : Int32)), .unset] [(.ref x1)])) _
    refine XS.iload X2.here hx rfl (hb hby d18_58) rfl ?_
    show Steps p.tables e below (T2.setTop (mkF m 60 #[.val (.int (0 : Int32)), .val (.ref x1), .val (.int (1 : Int32)), .val (.int (0 : Int32)), .val (.ref ds), .val (.ref x1), .val (.int (2 : Int32)), .val (.int (0 : Int32)), .unset] [(.int (0 : Int32)), (.ref x1)])) _
    refine own_ldB X2 hx hZ rfl V_x1_3 (j := (0 : Int32)) (w := u0) ⟨by decide, by decide⟩ rfl (g := (mkF m 60 #[.val (.int (0 : Int32)), .val (.ref x1), .val (.int (1 : Int32)), .val (.int (0 : Int32)), .val (.ref ds), .val (.ref x1), .val (.int (2 : Int32)), .val (.int (0 : Int32)), .unset] [(.int (0 : Int32)), (.ref x1)])) rfl rfl (hb hby d18_60) ?_
    show Steps p.tables e below (T2.setTop (mkF m 61 #[.val (.int (0 : Int32)), .val (.ref x1), .val (.int (1 : Int32)), .val (.int (0 : Int32)), .val (.ref ds), .val (.ref x1), .val (.int (2 : Int32)), .val (.int (0 : Int32)), .unset] [(.int u0)])) _
    refine XS.istore X2.here hx rfl (hb hby d18_61) rfl (l' := #[.val (.int (0 : Int32)), .val (.ref x1), .val (.int (1 : Int32)), .val (.int (0 : Int32)), .val (.ref ds), .val (.ref x1), .val (.int (2 : Int32)), .val (.int (0 : Int32)), .val (.int u0)]) rfl ?_
    show Steps p.tables e below (T2.setTop (mkF m 63 #[.val (.int (0 : Int32)), .val (.ref x1), .val (.int (1 : Int32)), .val (.int (0 : Int32)), .val (.ref ds), .val (.ref x1), .val (.int (2 : Int32)), .val (.int (0 : Int32)), .val (.int u0)] [])) _
    refine XS.iload X2.here hx rfl (hb hby d18_63) rfl ?_
    show Steps p.tables e below (T2.setTop (mkF m 65 #[.val (.int (0 : Int32)), .val (.ref x1), .val (.int (1 : Int32)), .val (.int (0 : Int32)), .val (.ref ds), .val (.ref x1), .val (.int (2 : Int32)), .val (.int (0 : Int32)), .val (.int u0)] [(.int u0)])) _
    refine XS.ifYes X2.here hx rfl (pc0 := 65) (pc' := 109) rfl (hb hby d18_65) rfl ((if0 _ _).trans (flt hs0).2.1) (by decide) (by decide) ?_
    show Steps p.tables e below (T2.setTop (mkF m 109 #[.val (.int (0 : Int32)), .val (.ref x1), .val (.int (1 : Int32)), .val (.int (0 : Int32)), .val (.ref ds), .val (.ref x1), .val (.int (2 : Int32)), .val (.int (0 : Int32)), .val (.int u0)] [])) _
    refine XS.aload X2.here hx rfl (hb hby d18_109) rfl rfl ?_
    show Steps p.tables e below (T2.setTop (mkF m 111 #[.val (.int (0 : Int32)), .val (.ref x1), .val (.int (1 : Int32)), .val (.int (0 : Int32)), .val (.ref ds), .val (.ref x1), .val (.int (2 : Int32)), .val (.int (0 : Int32)), .val (.int u0)] [(.ref ds)])) _
    refine XS.iloadN X2.here hx rfl (hb hby d18_111) rfl ?_
    show Steps p.tables e below (T2.setTop (mkF m 112 #[.val (.int (0 : Int32)), .val (.ref x1), .val (.int (1 : Int32)), .val (.int (0 : Int32)), .val (.ref ds), .val (.ref x1), .val (.int (2 : Int32)), .val (.int (0 : Int32)), .val (.int u0)] [(.int (0 : Int32)), (.ref ds)])) _
    refine XS.iinc X2.here hx rfl (hb hby d18_112) rfl (l' := #[.val (.int (0 : Int32)), .val (.ref x1), .val (.int (1 : Int32)), .val (.int ((0 : Int32) + (1 : Int32))), .val (.ref ds), .val (.ref x1), .val (.int (2 : Int32)), .val (.int (0 : Int32)), .val (.int u0)]) rfl ?_
    show Steps p.tables e below (T2.setTop (mkF m 115 #[.val (.int (0 : Int32)), .val (.ref x1), .val (.int (1 : Int32)), .val (.int ((0 : Int32) + (1 : Int32))), .val (.ref ds), .val (.ref x1), .val (.int (2 : Int32)), .val (.int (0 : Int32)), .val (.int u0)] [(.int (0 : Int32)), (.ref ds)])) _
    rw [show ((0 : Int32) + (1 : Int32)) = (1 : Int32) from by decide]
    show Steps p.tables e below (T2.setTop (mkF m 115 #[.val (.int (0 : Int32)), .val (.ref x1), .val (.int (1 : Int32)), .val (.int (1 : Int32)), .val (.ref ds), .val (.ref x1), .val (.int (2 : Int32)), .val (.int (0 : Int32)), .val (.int u0)] [(.int (0 : Int32)), (.ref ds)])) _
    refine XS.iload X2.here hx rfl (hb hby d18_115) rfl ?_
    show Steps p.tables e below (T2.setTop (mkF m 117 #[.val (.int (0 : Int32)), .val (.ref x1), .val (.int (1 : Int32)), .val (.int (1 : Int32)), .val (.ref ds), .val (.ref x1), .val (.int (2 : Int32)), .val (.int (0 : Int32)), .val (.int u0)] [(.int u0), (.int (0 : Int32)), (.ref ds)])) _
    refine st4 _ ?_
    show Steps p.tables e below (T4.setTop (mkF m 118 #[.val (.int (0 : Int32)), .val (.ref x1), .val (.int (1 : Int32)), .val (.int (1 : Int32)), .val (.ref ds), .val (.ref x1), .val (.int (2 : Int32)), .val (.int (0 : Int32)), .val (.int u0)] [])) _
    refine XS.iinc X4.here hx rfl (hb hby d18_118) rfl (l' := #[.val (.int (0 : Int32)), .val (.ref x1), .val (.int (1 : Int32)), .val (.int (1 : Int32)), .val (.ref ds), .val (.ref x1), .val (.int (2 : Int32)), .val (.int ((0 : Int32) + (1 : Int32))), .val (.int u0)]) rfl ?_
    show Steps p.tables e below (T4.setTop (mkF m 121 #[.val (.int (0 : Int32)), .val (.ref x1), .val (.int (1 : Int32)), .val (.int (1 : Int32)), .val (.ref ds), .val (.ref x1), .val (.int (2 : Int32)), .val (.int ((0 : Int32) + (1 : Int32))), .val (.int u0)] [])) _
    rw [show ((0 : Int32) + (1 : Int32)) = (1 : Int32) from by decide]
    show Steps p.tables e below (T4.setTop (mkF m 121 #[.val (.int (0 : Int32)), .val (.ref x1), .val (.int (1 : Int32)), .val (.int (1 : Int32)), .val (.ref ds), .val (.ref x1), .val (.int (2 : Int32)), .val (.int (1 : Int32)), .val (.int u0)] [])) _
    refine XS.goto X4.here hx rfl (pc0 := 121) (pc' := 49) rfl (hb hby d18_121) (by decide) (by decide) ?_
    show Steps p.tables e below (T4.setTop (mkF m 49 #[.val (.int (0 : Int32)), .val (.ref x1), .val (.int (1 : Int32)), .val (.int (1 : Int32)), .val (.ref ds), .val (.ref x1), .val (.int (2 : Int32)), .val (.int (1 : Int32)), .val (.int u0)] [])) _
    refine XS.iload X4.here hx rfl (hb hby d18_49) rfl ?_
    show Steps p.tables e below (T4.setTop (mkF m 51 #[.val (.int (0 : Int32)), .val (.ref x1), .val (.int (1 : Int32)), .val (.int (1 : Int32)), .val (.ref ds), .val (.ref x1), .val (.int (2 : Int32)), .val (.int (1 : Int32)), .val (.int u0)] [(.int (1 : Int32))])) _
    refine XS.iload X4.here hx rfl (hb hby d18_51) rfl ?_
    show Steps p.tables e below (T4.setTop (mkF m 53 #[.val (.int (0 : Int32)), .val (.ref x1), .val (.int (1 : Int32)), .val (.int (1 : Int32)), .val (.ref ds), .val (.ref x1), .val (.int (2 : Int32)), .val (.int (1 : Int32)), .val (.int u0)] [(.int (2 : Int32)), (.int (1 : Int32))])) _
    refine XS.icmpNo X4.here hx rfl (hb hby d18_53) rfl (tlt (by decide : (1 : Int32) < (2 : Int32))).2.1 ?_
    show Steps p.tables e below (T4.setTop (mkF m 56 #[.val (.int (0 : Int32)), .val (.ref x1), .val (.int (1 : Int32)), .val (.int (1 : Int32)), .val (.ref ds), .val (.ref x1), .val (.int (2 : Int32)), .val (.int (1 : Int32)), .val (.int u0)] [])) _
    refine XS.aload X4.here hx rfl (hb hby d18_56) rfl rfl ?_
    show Steps p.tables e below (T4.setTop (mkF m 58 #[.val (.int (0 : Int32)), .val (.ref x1), .val (.int (1 : Int32)), .val (.int (1 : Int32)), .val (.ref ds), .val (.ref x1), .val (.int (2 : Int32)), .val (.int (1 : Int32)), .val (.int u0)] [(.ref x1)])) _
    refine XS.iload X4.here hx rfl (hb hby d18_58) rfl ?_
    show Steps p.tables e below (T4.setTop (mkF m 60 #[.val (.int (0 : Int32)), .val (.ref x1), .val (.int (1 : Int32)), .val (.int (1 : Int32)), .val (.ref ds), .val (.ref x1), .val (.int (2 : Int32)), .val (.int (1 : Int32)), .val (.int u0)] [(.int (1 : Int32)), (.ref x1)])) _
    refine own_ldB X4 hx hZ e4 V_x1_5 (j := (1 : Int32)) (w := u1) ⟨by decide, by decide⟩ rfl (g := (mkF m 60 #[.val (.int (0 : Int32)), .val (.ref x1), .val (.int (1 : Int32)), .val (.int (1 : Int32)), .val (.ref ds), .val (.ref x1), .val (.int (2 : Int32)), .val (.int (1 : Int32)), .val (.int u0)] [(.int (1 : Int32)), (.ref x1)])) rfl rfl (hb hby d18_60) ?_
    show Steps p.tables e below (T4.setTop (mkF m 61 #[.val (.int (0 : Int32)), .val (.ref x1), .val (.int (1 : Int32)), .val (.int (1 : Int32)), .val (.ref ds), .val (.ref x1), .val (.int (2 : Int32)), .val (.int (1 : Int32)), .val (.int u0)] [(.int u1)])) _
    refine XS.istore X4.here hx rfl (hb hby d18_61) rfl (l' := #[.val (.int (0 : Int32)), .val (.ref x1), .val (.int (1 : Int32)), .val (.int (1 : Int32)), .val (.ref ds), .val (.ref x1), .val (.int (2 : Int32)), .val (.int (1 : Int32)), .val (.int u1)]) rfl ?_
    show Steps p.tables e below (T4.setTop (mkF m 63 #[.val (.int (0 : Int32)), .val (.ref x1), .val (.int (1 : Int32)), .val (.int (1 : Int32)), .val (.ref ds), .val (.ref x1), .val (.int (2 : Int32)), .val (.int (1 : Int32)), .val (.int u1)] [])) _
    refine XS.iload X4.here hx rfl (hb hby d18_63) rfl ?_
    show Steps p.tables e below (T4.setTop (mkF m 65 #[.val (.int (0 : Int32)), .val (.ref x1), .val (.int (1 : Int32)), .val (.int (1 : Int32)), .val (.ref ds), .val (.ref x1), .val (.int (2 : Int32)), .val (.int (1 : Int32)), .val (.int u1)] [(.int u1)])) _
    refine XS.ifNo X4.here hx rfl (hb hby d18_65) rfl ((if0 _ _).trans (tlt hs1).2.1) ?_
    show Steps p.tables e below (T4.setTop (mkF m 68 #[.val (.int (0 : Int32)), .val (.ref x1), .val (.int (1 : Int32)), .val (.int (1 : Int32)), .val (.ref ds), .val (.ref x1), .val (.int (2 : Int32)), .val (.int (1 : Int32)), .val (.int u1)] [])) _
    refine XS.aload X4.here hx rfl (hb hby d18_68) rfl rfl ?_
    show Steps p.tables e below (T4.setTop (mkF m 70 #[.val (.int (0 : Int32)), .val (.ref x1), .val (.int (1 : Int32)), .val (.int (1 : Int32)), .val (.ref ds), .val (.ref x1), .val (.int (2 : Int32)), .val (.int (1 : Int32)), .val (.int u1)] [(.ref ds)])) _
    refine XS.iloadN X4.here hx rfl (hb hby d18_70) rfl ?_
    show Steps p.tables e below (T4.setTop (mkF m 71 #[.val (.int (0 : Int32)), .val (.ref x1), .val (.int (1 : Int32)), .val (.int (1 : Int32)), .val (.ref ds), .val (.ref x1), .val (.int (2 : Int32)), .val (.int (1 : Int32)), .val (.int u1)] [(.int (1 : Int32)), (.ref ds)])) _
    refine XS.iinc X4.here hx rfl (hb hby d18_71) rfl (l' := #[.val (.int (0 : Int32)), .val (.ref x1), .val (.int (1 : Int32)), .val (.int ((1 : Int32) + (1 : Int32))), .val (.ref ds), .val (.ref x1), .val (.int (2 : Int32)), .val (.int (1 : Int32)), .val (.int u1)]) rfl ?_
    show Steps p.tables e below (T4.setTop (mkF m 74 #[.val (.int (0 : Int32)), .val (.ref x1), .val (.int (1 : Int32)), .val (.int ((1 : Int32) + (1 : Int32))), .val (.ref ds), .val (.ref x1), .val (.int (2 : Int32)), .val (.int (1 : Int32)), .val (.int u1)] [(.int (1 : Int32)), (.ref ds)])) _
    rw [show ((1 : Int32) + (1 : Int32)) = (2 : Int32) from by decide]
    show Steps p.tables e below (T4.setTop (mkF m 74 #[.val (.int (0 : Int32)), .val (.ref x1), .val (.int (1 : Int32)), .val (.int (2 : Int32)), .val (.ref ds), .val (.ref x1), .val (.int (2 : Int32)), .val (.int (1 : Int32)), .val (.int u1)] [(.int (1 : Int32)), (.ref ds)])) _
    refine XS.sipush X4.here hx rfl (hb hby d18_74) ?_
    show Steps p.tables e below (T4.setTop (mkF m 77 #[.val (.int (0 : Int32)), .val (.ref x1), .val (.int (1 : Int32)), .val (.int (2 : Int32)), .val (.ref ds), .val (.ref x1), .val (.int (2 : Int32)), .val (.int (1 : Int32)), .val (.int u1)] [(.int (192 : Int32)), (.int (1 : Int32)), (.ref ds)])) _
    refine XS.iload X4.here hx rfl (hb hby d18_77) rfl ?_
    show Steps p.tables e below (T4.setTop (mkF m 79 #[.val (.int (0 : Int32)), .val (.ref x1), .val (.int (1 : Int32)), .val (.int (2 : Int32)), .val (.ref ds), .val (.ref x1), .val (.int (2 : Int32)), .val (.int (1 : Int32)), .val (.int u1)] [(.int u1), (.int (192 : Int32)), (.int (1 : Int32)), (.ref ds)])) _
    refine XS.sipush X4.here hx rfl (hb hby d18_79) ?_
    show Steps p.tables e below (T4.setTop (mkF m 82 #[.val (.int (0 : Int32)), .val (.ref x1), .val (.int (1 : Int32)), .val (.int (2 : Int32)), .val (.ref ds), .val (.ref x1), .val (.int (2 : Int32)), .val (.int (1 : Int32)), .val (.int u1)] [(.int (255 : Int32)), (.int u1), (.int (192 : Int32)), (.int (1 : Int32)), (.ref ds)])) _
    refine XS.iand X4.here hx rfl (hb hby d18_82) rfl ?_
    show Steps p.tables e below (T4.setTop (mkF m 83 #[.val (.int (0 : Int32)), .val (.ref x1), .val (.int (1 : Int32)), .val (.int (2 : Int32)), .val (.ref ds), .val (.ref x1), .val (.int (2 : Int32)), .val (.int (1 : Int32)), .val (.int u1)] [(.int (u1 &&& (255 : Int32))), (.int (192 : Int32)), (.int (1 : Int32)), (.ref ds)])) _
    refine XS.bipush X4.here hx rfl (hb hby d18_83) ?_
    show Steps p.tables e below (T4.setTop (mkF m 85 #[.val (.int (0 : Int32)), .val (.ref x1), .val (.int (1 : Int32)), .val (.int (2 : Int32)), .val (.ref ds), .val (.ref x1), .val (.int (2 : Int32)), .val (.int (1 : Int32)), .val (.int u1)] [(.int (6 : Int32)), (.int (u1 &&& (255 : Int32))), (.int (192 : Int32)), (.int (1 : Int32)), (.ref ds)])) _
    refine XS.ishr X4.here hx rfl (hb hby d18_85) rfl ?_
    show Steps p.tables e below (T4.setTop (mkF m 86 #[.val (.int (0 : Int32)), .val (.ref x1), .val (.int (1 : Int32)), .val (.int (2 : Int32)), .val (.ref ds), .val (.ref x1), .val (.int (2 : Int32)), .val (.int (1 : Int32)), .val (.int u1)] [(.int ((u1 &&& (255 : Int32)) >>> ((6 : Int32) &&& 31))), (.int (192 : Int32)), (.int (1 : Int32)), (.ref ds)])) _
    refine XS.ior X4.here hx rfl (hb hby d18_86) rfl ?_
    show Steps p.tables e below (T4.setTop (mkF m 87 #[.val (.int (0 : Int32)), .val (.ref x1), .val (.int (1 : Int32)), .val (.int (2 : Int32)), .val (.ref ds), .val (.ref x1), .val (.int (2 : Int32)), .val (.int (1 : Int32)), .val (.int u1)] [(.int ((192 : Int32) ||| ((u1 &&& (255 : Int32)) >>> ((6 : Int32) &&& 31)))), (.int (1 : Int32)), (.ref ds)])) _
    refine XS.i2b X4.here hx rfl (hb hby d18_87) rfl ?_
    show Steps p.tables e below (T4.setTop (mkF m 88 #[.val (.int (0 : Int32)), .val (.ref x1), .val (.int (1 : Int32)), .val (.int (2 : Int32)), .val (.ref ds), .val (.ref x1), .val (.int (2 : Int32)), .val (.int (1 : Int32)), .val (.int u1)] [(.int (((192 : Int32) ||| ((u1 &&& (255 : Int32)) >>> ((6 : Int32) &&& 31))).toInt8.toInt32)), (.int (1 : Int32)), (.ref ds)])) _
    refine st6 _ ?_
    show Steps p.tables e below (T6.setTop (mkF m 89 #[.val (.int (0 : Int32)), .val (.ref x1), .val (.int (1 : Int32)), .val (.int (2 : Int32)), .val (.ref ds), .val (.ref x1), .val (.int (2 : Int32)), .val (.int (1 : Int32)), .val (.int u1)] [])) _
    refine XS.aload X6.here hx rfl (hb hby d18_89) rfl rfl ?_
    show Steps p.tables e below (T6.setTop (mkF m 91 #[.val (.int (0 : Int32)), .val (.ref x1), .val (.int (1 : Int32)), .val (.int (2 : Int32)), .val (.ref ds), .val (.ref x1), .val (.int (2 : Int32)), .val (.int (1 : Int32)), .val (.int u1)] [(.ref ds)])) _
    refine XS.iloadN X6.here hx rfl (hb hby d18_91) rfl ?_
    show Steps p.tables e below (T6.setTop (mkF m 92 #[.val (.int (0 : Int32)), .val (.ref x1), .val (.int (1 : Int32)), .val (.int (2 : Int32)), .val (.ref ds), .val (.ref x1), .val (.int (2 : Int32)), .val (.int (1 : Int32)), .val (.int u1)] [(.int (2 : Int32)), (.ref ds)])) _
    refine XS.iinc X6.here hx rfl (hb hby d18_92) rfl (l' := #[.val (.int (0 : Int32)), .val (.ref x1), .val (.int (1 : Int32)), .val (.int ((2 : Int32) + (1 : Int32))), .val (.ref ds), .val (.ref x1), .val (.int (2 : Int32)), .val (.int (1 : Int32)), .val (.int u1)]) rfl ?_
    show Steps p.tables e below (T6.setTop (mkF m 95 #[.val (.int (0 : Int32)), .val (.ref x1), .val (.int (1 : Int32)), .val (.int ((2 : Int32) + (1 : Int32))), .val (.ref ds), .val (.ref x1), .val (.int (2 : Int32)), .val (.int (1 : Int32)), .val (.int u1)] [(.int (2 : Int32)), (.ref ds)])) _
    rw [show ((2 : Int32) + (1 : Int32)) = (3 : Int32) from by decide]
    show Steps p.tables e below (T6.setTop (mkF m 95 #[.val (.int (0 : Int32)), .val (.ref x1), .val (.int (1 : Int32)), .val (.int (3 : Int32)), .val (.ref ds), .val (.ref x1), .val (.int (2 : Int32)), .val (.int (1 : Int32)), .val (.int u1)] [(.int (2 : Int32)), (.ref ds)])) _
    refine XS.sipush X6.here hx rfl (hb hby d18_95) ?_
    show Steps p.tables e below (T6.setTop (mkF m 98 #[.val (.int (0 : Int32)), .val (.ref x1), .val (.int (1 : Int32)), .val (.int (3 : Int32)), .val (.ref ds), .val (.ref x1), .val (.int (2 : Int32)), .val (.int (1 : Int32)), .val (.int u1)] [(.int (128 : Int32)), (.int (2 : Int32)), (.ref ds)])) _
    refine XS.iload X6.here hx rfl (hb hby d18_98) rfl ?_
    show Steps p.tables e below (T6.setTop (mkF m 100 #[.val (.int (0 : Int32)), .val (.ref x1), .val (.int (1 : Int32)), .val (.int (3 : Int32)), .val (.ref ds), .val (.ref x1), .val (.int (2 : Int32)), .val (.int (1 : Int32)), .val (.int u1)] [(.int u1), (.int (128 : Int32)), (.int (2 : Int32)), (.ref ds)])) _
    refine XS.bipush X6.here hx rfl (hb hby d18_100) ?_
    show Steps p.tables e below (T6.setTop (mkF m 102 #[.val (.int (0 : Int32)), .val (.ref x1), .val (.int (1 : Int32)), .val (.int (3 : Int32)), .val (.ref ds), .val (.ref x1), .val (.int (2 : Int32)), .val (.int (1 : Int32)), .val (.int u1)] [(.int (63 : Int32)), (.int u1), (.int (128 : Int32)), (.int (2 : Int32)), (.ref ds)])) _
    refine XS.iand X6.here hx rfl (hb hby d18_102) rfl ?_
    show Steps p.tables e below (T6.setTop (mkF m 103 #[.val (.int (0 : Int32)), .val (.ref x1), .val (.int (1 : Int32)), .val (.int (3 : Int32)), .val (.ref ds), .val (.ref x1), .val (.int (2 : Int32)), .val (.int (1 : Int32)), .val (.int u1)] [(.int (u1 &&& (63 : Int32))), (.int (128 : Int32)), (.int (2 : Int32)), (.ref ds)])) _
    refine XS.ior X6.here hx rfl (hb hby d18_103) rfl ?_
    show Steps p.tables e below (T6.setTop (mkF m 104 #[.val (.int (0 : Int32)), .val (.ref x1), .val (.int (1 : Int32)), .val (.int (3 : Int32)), .val (.ref ds), .val (.ref x1), .val (.int (2 : Int32)), .val (.int (1 : Int32)), .val (.int u1)] [(.int ((128 : Int32) ||| (u1 &&& (63 : Int32)))), (.int (2 : Int32)), (.ref ds)])) _
    refine XS.i2b X6.here hx rfl (hb hby d18_104) rfl ?_
    show Steps p.tables e below (T6.setTop (mkF m 105 #[.val (.int (0 : Int32)), .val (.ref x1), .val (.int (1 : Int32)), .val (.int (3 : Int32)), .val (.ref ds), .val (.ref x1), .val (.int (2 : Int32)), .val (.int (1 : Int32)), .val (.int u1)] [(.int (((128 : Int32) ||| (u1 &&& (63 : Int32))).toInt8.toInt32)), (.int (2 : Int32)), (.ref ds)])) _
    refine st8 _ ?_
    show Steps p.tables e below (T8.setTop (mkF m 106 #[.val (.int (0 : Int32)), .val (.ref x1), .val (.int (1 : Int32)), .val (.int (3 : Int32)), .val (.ref ds), .val (.ref x1), .val (.int (2 : Int32)), .val (.int (1 : Int32)), .val (.int u1)] [])) _
    refine XS.goto X8.here hx rfl (pc0 := 106) (pc' := 118) rfl (hb hby d18_106) (by decide) (by decide) ?_
    show Steps p.tables e below (T8.setTop (mkF m 118 #[.val (.int (0 : Int32)), .val (.ref x1), .val (.int (1 : Int32)), .val (.int (3 : Int32)), .val (.ref ds), .val (.ref x1), .val (.int (2 : Int32)), .val (.int (1 : Int32)), .val (.int u1)] [])) _
    refine XS.iinc X8.here hx rfl (hb hby d18_118) rfl (l' := #[.val (.int (0 : Int32)), .val (.ref x1), .val (.int (1 : Int32)), .val (.int (3 : Int32)), .val (.ref ds), .val (.ref x1), .val (.int (2 : Int32)), .val (.int ((1 : Int32) + (1 : Int32))), .val (.int u1)]) rfl ?_
    show Steps p.tables e below (T8.setTop (mkF m 121 #[.val (.int (0 : Int32)), .val (.ref x1), .val (.int (1 : Int32)), .val (.int (3 : Int32)), .val (.ref ds), .val (.ref x1), .val (.int (2 : Int32)), .val (.int ((1 : Int32) + (1 : Int32))), .val (.int u1)] [])) _
    rw [show ((1 : Int32) + (1 : Int32)) = (2 : Int32) from by decide]
    show Steps p.tables e below (T8.setTop (mkF m 121 #[.val (.int (0 : Int32)), .val (.ref x1), .val (.int (1 : Int32)), .val (.int (3 : Int32)), .val (.ref ds), .val (.ref x1), .val (.int (2 : Int32)), .val (.int (2 : Int32)), .val (.int u1)] [])) _
    refine XS.goto X8.here hx rfl (pc0 := 121) (pc' := 49) rfl (hb hby d18_121) (by decide) (by decide) ?_
    show Steps p.tables e below (T8.setTop (mkF m 49 #[.val (.int (0 : Int32)), .val (.ref x1), .val (.int (1 : Int32)), .val (.int (3 : Int32)), .val (.ref ds), .val (.ref x1), .val (.int (2 : Int32)), .val (.int (2 : Int32)), .val (.int u1)] [])) _
    refine XS.iload X8.here hx rfl (hb hby d18_49) rfl ?_
    show Steps p.tables e below (T8.setTop (mkF m 51 #[.val (.int (0 : Int32)), .val (.ref x1), .val (.int (1 : Int32)), .val (.int (3 : Int32)), .val (.ref ds), .val (.ref x1), .val (.int (2 : Int32)), .val (.int (2 : Int32)), .val (.int u1)] [(.int (2 : Int32))])) _
    refine XS.iload X8.here hx rfl (hb hby d18_51) rfl ?_
    show Steps p.tables e below (T8.setTop (mkF m 53 #[.val (.int (0 : Int32)), .val (.ref x1), .val (.int (1 : Int32)), .val (.int (3 : Int32)), .val (.ref ds), .val (.ref x1), .val (.int (2 : Int32)), .val (.int (2 : Int32)), .val (.int u1)] [(.int (2 : Int32)), (.int (2 : Int32))])) _
    refine XS.icmpYes X8.here hx rfl (pc0 := 53) (pc' := 124) rfl (hb hby d18_53) rfl (flt (by decide : ¬ ((2 : Int32) < (2 : Int32)))).2.1 (by decide) (by decide) ?_
    show Steps p.tables e below (T8.setTop (mkF m 124 #[.val (.int (0 : Int32)), .val (.ref x1), .val (.int (1 : Int32)), .val (.int (3 : Int32)), .val (.ref ds), .val (.ref x1), .val (.int (2 : Int32)), .val (.int (2 : Int32)), .val (.int u1)] [])) _
    refine XS.iloadN X8.here hx rfl (hb hby d18_124) rfl ?_
    show Steps p.tables e below (T8.setTop (mkF m 125 #[.val (.int (0 : Int32)), .val (.ref x1), .val (.int (1 : Int32)), .val (.int (3 : Int32)), .val (.ref ds), .val (.ref x1), .val (.int (2 : Int32)), .val (.int (2 : Int32)), .val (.int u1)] [(.int (3 : Int32))])) _
    refine XS.aload X8.here hx rfl (hb hby d18_125) rfl rfl ?_
    show Steps p.tables e below (T8.setTop (mkF m 127 #[.val (.int (0 : Int32)), .val (.ref x1), .val (.int (1 : Int32)), .val (.int (3 : Int32)), .val (.ref ds), .val (.ref x1), .val (.int (2 : Int32)), .val (.int (2 : Int32)), .val (.int u1)] [(.ref ds), (.int (3 : Int32))])) _
    refine own_len X8 hx hZ e8 V_ds_8 (g := (mkF m 127 #[.val (.int (0 : Int32)), .val (.ref x1), .val (.int (1 : Int32)), .val (.int (3 : Int32)), .val (.ref ds), .val (.ref x1), .val (.int (2 : Int32)), .val (.int (2 : Int32)), .val (.int u1)] [(.ref ds), (.int (3 : Int32))])) rfl rfl (hb hby d18_127) ?_
    show Steps p.tables e below (T8.setTop (mkF m 128 #[.val (.int (0 : Int32)), .val (.ref x1), .val (.int (1 : Int32)), .val (.int (3 : Int32)), .val (.ref ds), .val (.ref x1), .val (.int (2 : Int32)), .val (.int (2 : Int32)), .val (.int u1)] [(.int (4 : Int32)), (.int (3 : Int32))])) _
    refine XS.icmpYes X8.here hx rfl (pc0 := 128) (pc' := 134) rfl (hb hby d18_128) rfl (feq (by decide : ¬ ((3 : Int32) = (4 : Int32)))).2 (by decide) (by decide) ?_
    show Steps p.tables e below (T8.setTop (mkF m 134 #[.val (.int (0 : Int32)), .val (.ref x1), .val (.int (1 : Int32)), .val (.int (3 : Int32)), .val (.ref ds), .val (.ref x1), .val (.int (2 : Int32)), .val (.int (2 : Int32)), .val (.int u1)] [])) _
    refine XS.aload X8.here hx rfl (hb hby d18_134) rfl rfl ?_
    show Steps p.tables e below (T8.setTop (mkF m 136 #[.val (.int (0 : Int32)), .val (.ref x1), .val (.int (1 : Int32)), .val (.int (3 : Int32)), .val (.ref ds), .val (.ref x1), .val (.int (2 : Int32)), .val (.int (2 : Int32)), .val (.int u1)] [(.ref ds)])) _
    refine XS.iloadN X8.here hx rfl (hb hby d18_136) rfl ?_
    show Steps p.tables e below (T8.setTop (mkF m 137 #[.val (.int (0 : Int32)), .val (.ref x1), .val (.int (1 : Int32)), .val (.int (3 : Int32)), .val (.ref ds), .val (.ref x1), .val (.int (2 : Int32)), .val (.int (2 : Int32)), .val (.int u1)] [(.int (3 : Int32)), (.ref ds)])) _
    refine st10 _ ?_
    show Steps p.tables e below (T10.setTop (mkF m 140 #[.val (.int (0 : Int32)), .val (.ref x1), .val (.int (1 : Int32)), .val (.int (3 : Int32)), .val (.ref ds), .val (.ref x1), .val (.int (2 : Int32)), .val (.int (2 : Int32)), .val (.int u1)] [(.ref rc)])) _
    exact retOut X10 hx (t := (.array .byte)) (i := .areturn) Bd.returns rfl (Or.inr (Or.inr (Or.inr (Or.inr ⟨rfl, rfl, rfl⟩)))) (hb hby d18_140) hr
  · exact (by
      have eT : (T10.setFrames fs).heap = T10.heap := rfl
      rw [eT]; exact ⟨rc, rfl, N10, keep_11⟩)
set_option maxRecDepth 65536 in
set_option maxHeartbeats 40000000 in
theorem rmu_10 (l : Launch) (Z : State) (a0 : Array Value) (hw : ∀ d ∈ tables_1, d.before a0 Z = true) (ws : List Jvm.Cond) (x1 : Addr) (k1 : ClassId) (u0 u1 : Int32) (h0 : Heap) (n0 : Nat) (Z0 : n0 ≤ h0.size) (V_x1 : Arv Z h0 x1 k1 .byte (2 : Int32) [(.int u0), (.int u1)] (.int (0 : Int32))) (E_x1 : Exa Z h0 x1 "[B") (hs0 : u0 < (0 : Int32)) (hs1 : ¬ (u1 < (0 : Int32))) :
    MetFree l (⟨"java/lang/String", "encodeUTF8", "(B[BZ)[B"⟩ : MethodName) (head1 (Jvm.Cond.code (⟨"java/lang/String", "encodeUTF8", "(B[BZ)[B"⟩ : MethodName) jdk_42_method_46_code 9 (some (.array .byte)) :: ws) ({ frames := 2, cells := 2, slots := 7, locals := 74 } : Room)) (fun a U => a = #[(.int (0 : Int32)), (.ref x1), (.int (1 : Int32))] ∧ Z.Warmed39 U.vm ∧ U.heap = h0) (fun _ _ _ _ _ => True) (fun _ U o U' => ∃ v L, o = .returned v ∧ (QR Z h0 n0 v U'.heap L) ∧ FrameEnd U o U' L ({ frames := 2, cells := 2, slots := 7, locals := 74 } : Room).cells ({ frames := 2, cells := 2, slots := 7, locals := 74 } : Room).slots) := by
  refine MetFree.of_bodySF (plainFor_of_name pn_18) hisR ?_
  intro p e s m args below meth c s₁ Bd hml0 hP hK
  obtain ⟨rfl, hZ, hh⟩ := hP
  have hx := Bd.exec
  have hby := Bd.bytes
  have hml : c.maxLocals = 9 := hml0
  have hown : s.vm.findClass "java/lang/String" = some m.cls := findClass_of_methodNamed Bd.named
  have hnm := (name_of_methodNamed Bd.named Bd.method).1
  have X0 : Stand p l e ({ frames := 2, cells := 2, slots := 7, locals := 74 } : Room) s m #[(.int (0 : Int32)), (.ref x1), (.int (1 : Int32))] below meth c s₁ [] 0 0 := Stand.of_body Bd
  have e0 : s₁.heap = h0 := by rw [← hh, Bd.state]; rfl
  have N0 := Fr.nil n0
  have pre0 : ∀ t, Steps p.tables e below (s₁.setTop (mkF m 0 #[.val (.int (0 : Int32)), .val (.ref x1), .val (.int (1 : Int32)), .unset, .unset, .unset, .unset, .unset, .unset] [])) t → Steps p.tables e below (s₁.setTop (entryFrame m #[(.int (0 : Int32)), (.ref x1), (.int (1 : Int32))] 9)) t := fun t k => castTop (ef_18 m (0 : Int32) x1 (1 : Int32)) k
  have K0 : Keep h0 h0 [] := Keep.refl h0 []
  have hcp : own_cp u0 u1 = (0 : Int32) := by unfold own_cp; rw [if_pos hs0]
  have hhn : own_hn u0 u1 = (1 : Int32) := by unfold own_hn; rw [hcp]; rfl
  obtain ⟨_, _, ⟨T1, L1, k1, n1⟩, -, X1, ⟨Lc1, hQ1, l1, y1, z1⟩, st1⟩ := Jvm.LawKit.callS X0 hx (y := (⟨"java/lang/StringCoding", "hasNegatives", "([BII)Z"⟩ : MethodName)) hown (mvT hZ (hw _ (List.mem_of_getElem? (i := 98) rfl))) (mvT hZ (hw _ (List.mem_of_getElem? (i := 99) rfl))) (mvT hZ (hw _ (List.mem_of_getElem? (i := 100) rfl))) (mvT hZ (hw _ (List.mem_of_getElem? (i := 101) rfl))) (by decide) (backOf (W := 0) (rm19 l Z a0 hw [] x1 k1 u0 u1 h0 n0 Z0 V_x1) hZ (hw _ (List.mem_of_getElem? (i := 101) rfl)) (hw _ (List.mem_of_getElem? (i := 100) rfl)) (by decide) (by decide)) (g := (mkF m 15 #[.val (.int (0 : Int32)), .val (.ref x1), .val (.int (1 : Int32)), .unset, .unset, .unset, .unset, .unset, .unset] [(.int (2 : Int32)), (.int (0 : Int32)), (.ref x1)])) rfl (by rw [hml]; rfl) (argsL := [(.ref x1), (.int (0 : Int32)), (.int (2 : Int32))]) (rest := []) (lenOf pd___BII_Z rfl) rfl (by show 2 * 0 + _ ≤ _; exact Nat.le_of_eq rfl) (hb hby d18_15) (fun _ _ => ⟨rfl, e0, (by decide : 0 + 0 ≤ _), (by decide : 0 + 0 ≤ _)⟩)
  dsimp only [Pt.U, Pt.locs, Pt.cells, Pt.slots] at X1 l1 y1 z1 st1 hQ1
  subst l1 y1 z1
  obtain ⟨rfl, N1q, e1⟩ := hQ1
  have N1 := Fr.app N0 N1q
  obtain ⟨_, _, ⟨T2, L2, k2, n2⟩, -, X2, ⟨Lc2, hQ2, l2, y2, z2⟩, st2⟩ := Jvm.LawKit.callS X1 hx (y := (⟨"java/lang/StringUTF16", "newBytesFor", "(I)[B"⟩ : MethodName)) hown (mvT hZ (hw _ (List.mem_of_getElem? (i := 105) rfl))) (mvT hZ (hw _ (List.mem_of_getElem? (i := 106) rfl))) (mvT hZ (hw _ (List.mem_of_getElem? (i := 18) rfl))) (mvT hZ (hw _ (List.mem_of_getElem? (i := 107) rfl))) (by decide) (backOf (W := 0) (rm21 l Z a0 hw []  h0 n0 Z0) hZ (hw _ (List.mem_of_getElem? (i := 107) rfl)) (hw _ (List.mem_of_getElem? (i := 18) rfl)) (by decide) (by decide)) (g := (mkF m 33 #[.val (.int (0 : Int32)), .val (.ref x1), .val (.int (1 : Int32)), .val (.int (0 : Int32)), .unset, .unset, .unset, .unset, .unset] [(.int (2 : Int32))])) rfl (by rw [hml]; rfl) (argsL := [(.int (2 : Int32))]) (rest := []) (lenOf pd__I__B rfl) rfl (by show 2 * 0 + _ ≤ _; exact Nat.le_of_eq rfl) (hb hby d18_33) (fun _ _ => ⟨rfl, e1, (by decide : 0 + 1 ≤ _), (by decide : 0 + 4 ≤ _)⟩)
  dsimp only [Pt.U, Pt.locs, Pt.cells, Pt.slots] at X2 l2 y2 z2 st2 hQ2
  subst l2 y2 z2
  obtain ⟨ds, kd, rfl, N2q, K2, sd2, Vq2⟩ := hQ2
  have g_ds : n0 ≤ ds := Nat.le_trans Z0 sd2
  have lt_x1_ds : x1 < ds := Nat.lt_of_lt_of_le V_x1.lt sd2
  have sz_ds : h0.size ≤ ds := Nat.le_trans K0.1 sd2
  have keep_3 : Keep h0 T2.heap [] := K0.trans K2 (all0)
  have V_x1_3 : Arv Z T2.heap x1 k1 .byte (2 : Int32) [(.int u0), (.int u1)] (.int (0 : Int32)) := V_x1.keep K2 nin0
  have E_x1_3 : Exa Z T2.heap x1 "[B" := E_x1.keep K2
  have siz_3 : n0 ≤ T2.heap.size := Nat.le_trans Z0 K2.1
  have N2 := Fr.app N1 N2q
  obtain ⟨T4, h4, L4, X4, e4, N4, W4, V4, st4⟩ := own_stB X2 hx hZ rfl Vq2 (j := (0 : Int32)) ⟨by decide, by decide⟩ (i := 0) rfl (Nat.le_of_ble_eq_true rfl) N2 g_ds (g := (mkF m 88 #[.val (.int (0 : Int32)), .val (.ref x1), .val (.int (1 : Int32)), .val (.int (1 : Int32)), .val (.ref ds), .val (.ref x1), .val (.int (2 : Int32)), .val (.int (0 : Int32)), .val (.int u0)] [(.int (((192 : Int32) ||| ((u0 &&& (255 : Int32)) >>> ((6 : Int32) &&& 31))).toInt8.toInt32)), (.int (0 : Int32)), (.ref ds)])) rfl rfl (hb hby d18_88)
  have keep_5 : Keep h0 h4 [] := keep_3.wr W4 (Or.inr sz_ds)
  have V_x1_5 : Arv Z h4 x1 k1 .byte (2 : Int32) [(.int u0), (.int u1)] (.int (0 : Int32)) := V_x1_3.other W4 (Nat.ne_of_lt lt_x1_ds)
  have E_x1_5 : Exa Z h4 x1 "[B" := E_x1_3.wr W4
  have siz_5 : n0 ≤ h4.size := Nat.le_trans siz_3 (Keep.of_wr W4).1
  have V_ds_4 : Arv Z h4 ds kd .byte (4 : Int32) [(.int (nar .byte (((192 : Int32) ||| ((u0 &&& (255 : Int32)) >>> ((6 : Int32) &&& 31))).toInt8.toInt32))), (.int (0 : Int32)), (.int (0 : Int32)), (.int (0 : Int32))] (.int (0 : Int32)) := V4
  obtain ⟨T6, h6, L6, X6, e6, N6, W6, V6, st6⟩ := own_stB X4 hx hZ e4 V_ds_4 (j := (1 : Int32)) ⟨by decide, by decide⟩ (i := 1) rfl (Nat.le_of_ble_eq_true rfl) N4 g_ds (g := (mkF m 105 #[.val (.int (0 : Int32)), .val (.ref x1), .val (.int (1 : Int32)), .val (.int (2 : Int32)), .val (.ref ds), .val (.ref x1), .val (.int (2 : Int32)), .val (.int (0 : Int32)), .val (.int u0)] [(.int (((128 : Int32) ||| (u0 &&& (63 : Int32))).toInt8.toInt32)), (.int (1 : Int32)), (.ref ds)])) rfl rfl (hb hby d18_105)
  have keep_7 : Keep h0 h6 [] := keep_5.wr W6 (Or.inr sz_ds)
  have V_x1_7 : Arv Z h6 x1 k1 .byte (2 : Int32) [(.int u0), (.int u1)] (.int (0 : Int32)) := V_x1_5.other W6 (Nat.ne_of_lt lt_x1_ds)
  have E_x1_7 : Exa Z h6 x1 "[B" := E_x1_5.wr W6
  have siz_7 : n0 ≤ h6.size := Nat.le_trans siz_5 (Keep.of_wr W6).1
  have V_ds_6 : Arv Z h6 ds kd .byte (4 : Int32) [(.int (nar .byte (((192 : Int32) ||| ((u0 &&& (255 : Int32)) >>> ((6 : Int32) &&& 31))).toInt8.toInt32))), (.int (nar .byte (((128 : Int32) ||| (u0 &&& (63 : Int32))).toInt8.toInt32))), (.int (0 : Int32)), (.int (0 : Int32))] (.int (0 : Int32)) := V6
  obtain ⟨T8, h8, L8, X8, e8, N8, W8, V8, st8⟩ := own_stB X6 hx hZ e6 V_ds_6 (j := (2 : Int32)) ⟨by decide, by decide⟩ (i := 2) rfl (Nat.le_of_ble_eq_true rfl) N6 g_ds (g := (mkF m 117 #[.val (.int (0 : Int32)), .val (.ref x1), .val (.int (1 : Int32)), .val (.int (3 : Int32)), .val (.ref ds), .val (.ref x1), .val (.int (2 : Int32)), .val (.int (1 : Int32)), .val (.int u1)] [(.int u1), (.int (2 : Int32)), (.ref ds)])) rfl rfl (hb hby d18_117)
  have keep_9 : Keep h0 h8 [] := keep_7.wr W8 (Or.inr sz_ds)
  have V_x1_9 : Arv Z h8 x1 k1 .byte (2 : Int32) [(.int u0), (.int u1)] (.int (0 : Int32)) := V_x1_7.other W8 (Nat.ne_of_lt lt_x1_ds)
  have E_x1_9 : Exa Z h8 x1 "[B" := E_x1_7.wr W8
  have siz_9 : n0 ≤ h8.size := Nat.le_trans siz_7 (Keep.of_wr W8).1
  have V_ds_8 : Arv Z h8 ds kd .byte (4 : Int32) [(.int (nar .byte (((192 : Int32) ||| ((u0 &&& (255 : Int32)) >>> ((6 : Int32) &&& 31))).toInt8.toInt32))), (.int (nar .byte (((128 : Int32) ||| (u0 &&& (63 : Int32))).toInt8.toInt32))), (.int (nar .byte u1)), (.int (0 : Int32))] (.int (0 : Int32)) := V8
  obtain ⟨_, _, ⟨T10, L10, k10, n10⟩, -, X10, ⟨Lc10, hQ10, l10, y10, z10⟩, st10⟩ := Jvm.LawKit.callS X8 hx (y := (⟨"java/util/Arrays", "copyOf", "([BI)[B"⟩ : MethodName)) hown (mvT hZ (hw _ (List.mem_of_getElem? (i := 121) rfl))) (mvT hZ (hw _ (List.mem_of_getElem? (i := 122) rfl))) (mvT hZ (hw _ (List.mem_of_getElem? (i := 123) rfl))) (mvT hZ (hw _ (List.mem_of_getElem? (i := 124) rfl))) (by decide) (backOf (W := 0) (rm23 l Z a0 hw [] ds kd (nar .byte (((192 : Int32) ||| ((u0 &&& (255 : Int32)) >>> ((6 : Int32) &&& 31))).toInt8.toInt32)) (nar .byte (((128 : Int32) ||| (u0 &&& (63 : Int32))).toInt8.toInt32)) (nar .byte u1) (0 : Int32) h8 n0 siz_9 V_ds_8) hZ (hw _ (List.mem_of_getElem? (i := 124) rfl)) (hw _ (List.mem_of_getElem? (i := 123) rfl)) (by decide) (by decide)) (g := (mkF m 137 #[.val (.int (0 : Int32)), .val (.ref x1), .val (.int (1 : Int32)), .val (.int (3 : Int32)), .val (.ref ds), .val (.ref x1), .val (.int (2 : Int32)), .val (.int (2 : Int32)), .val (.int u1)] [(.int (3 : Int32)), (.ref ds)])) rfl (by rw [hml]; rfl) (argsL := [(.ref ds), (.int (3 : Int32))]) (rest := []) (lenOf pd___BI__B rfl) rfl (by show 2 * 0 + _ ≤ _; exact Nat.le_of_eq rfl) (hb hby d18_137) (fun _ _ => ⟨rfl, e8, (by decide : 1 + 1 ≤ _), (by decide : 4 + 3 ≤ _)⟩)
  dsimp only [Pt.U, Pt.locs, Pt.cells, Pt.slots] at X10 l10 y10 z10 st10 hQ10
  subst l10 y10 z10
  obtain ⟨rc, rfl, N10q, K10⟩ := hQ10
  have keep_11 : Keep h0 T10.heap [] := keep_9.trans K10 (all0)
  have V_x1_11 : Arv Z T10.heap x1 k1 .byte (2 : Int32) [(.int u0), (.int u1)] (.int (0 : Int32)) := V_x1_9.keep K10 nin0
  have E_x1_11 : Exa Z T10.heap x1 "[B" := E_x1_9.keep K10
  have siz_11 : n0 ≤ T10.heap.size := Nat.le_trans siz_9 K10.1
  have V_ds_11 : Arv Z T10.heap ds kd .byte (4 : Int32) [(.int (nar .byte (((192 : Int32) ||| ((u0 &&& (255 : Int32)) >>> ((6 : Int32) &&& 31))).toInt8.toInt32))), (.int (nar .byte (((128 : Int32) ||| (u0 &&& (63 : Int32))).toInt8.toInt32))), (.int (nar .byte u1)), (.int (0 : Int32))] (.int (0 : Int32)) := V_ds_8.keep K10 nin0
  have N10 := Fr.app N8 N10q
  obtain ⟨fs, hr, hrun, hended, hW, hsame⟩ := X10.leave (v := some (.ref rc)) (fun h => by rw [Bd.returns] at h; cases h)
  refine ⟨_, _, pre0 _ ?_, hrun, hended, _, _, rfl, ?_, ⟨_, rfl⟩, hW, hsame.mono (by decide) (by decide)⟩
  · show Steps p.tables e below (s₁.setTop (mkF m 0 #[.val (.int (0 : Int32)), .val (.ref x1), .val (.int (1 : Int32)), .unset, .unset, .unset, .unset, .unset, .unset] [])) _
    refine XS.iloadN X0.here hx rfl (hb hby d18_0) rfl ?_
    show Steps p.tables e below (s₁.setTop (mkF m 1 #[.val (.int (0 : Int32)), .val (.ref x1), .val (.int (1 : Int32)), .unset, .unset, .unset, .unset, .unset, .unset] [(.int (0 : Int32))])) _
    refine XS.iconst X0.here hx rfl (hb hby d18_1) ?_
    show Steps p.tables e below (s₁.setTop (mkF m 2 #[.val (.int (0 : Int32)), .val (.ref x1), .val (.int (1 : Int32)), .unset, .unset, .unset, .unset, .unset, .unset] [(.int (1 : Int32)), (.int (0 : Int32))])) _
    refine XS.icmpYes X0.here hx rfl (pc0 := 2) (pc' := 11) rfl (hb hby d18_2) rfl (feq (by decide : ¬ ((0 : Int32) = (1 : Int32)))).2 (by decide) (by decide) ?_
    show Steps p.tables e below (s₁.setTop (mkF m 11 #[.val (.int (0 : Int32)), .val (.ref x1), .val (.int (1 : Int32)), .unset, .unset, .unset, .unset, .unset, .unset] [])) _
    refine XS.aloadN X0.here hx rfl (hb hby d18_11) rfl rfl ?_
    show Steps p.tables e below (s₁.setTop (mkF m 12 #[.val (.int (0 : Int32)), .val (.ref x1), .val (.int (1 : Int32)), .unset, .unset, .unset, .unset, .unset, .unset] [(.ref x1)])) _
    refine XS.iconst X0.here hx rfl (hb hby d18_12) ?_
    show Steps p.tables e below (s₁.setTop (mkF m 13 #[.val (.int (0 : Int32)), .val (.ref x1), .val (.int (1 : Int32)), .unset, .unset, .unset, .unset, .unset, .unset] [(.int (0 : Int32)), (.ref x1)])) _
    refine XS.aloadN X0.here hx rfl (hb hby d18_13) rfl rfl ?_
    show Steps p.tables e below (s₁.setTop (mkF m 14 #[.val (.int (0 : Int32)), .val (.ref x1), .val (.int (1 : Int32)), .unset, .unset, .unset, .unset, .unset, .unset] [(.ref x1), (.int (0 : Int32)), (.ref x1)])) _
    refine own_len X0 hx hZ e0 V_x1 (g := (mkF m 14 #[.val (.int (0 : Int32)), .val (.ref x1), .val (.int (1 : Int32)), .unset, .unset, .unset, .unset, .unset, .unset] [(.ref x1), (.int (0 : Int32)), (.ref x1)])) rfl rfl (hb hby d18_14) ?_
    show Steps p.tables e below (s₁.setTop (mkF m 15 #[.val (.int (0 : Int32)), .val (.ref x1), .val (.int (1 : Int32)), .unset, .unset, .unset, .unset, .unset, .unset] [(.int (2 : Int32)), (.int (0 : Int32)), (.ref x1)])) _
    refine st1 _ ?_
    show Steps p.tables e below (T1.setTop (mkF m 18 #[.val (.int (0 : Int32)), .val (.ref x1), .val (.int (1 : Int32)), .unset, .unset, .unset, .unset, .unset, .unset] [(.int (own_hn u0 u1))])) _
    refine XS.ifYes X1.here hx rfl (pc0 := 18) (pc' := 29) rfl (hb hby d18_18) rfl ((if0 _ _).trans (feq (by rw [hhn]; decide)).2) (by decide) (by decide) ?_
    show Steps p.tables e below (T1.setTop (mkF m 29 #[.val (.int (0 : Int32)), .val (.ref x1), .val (.int (1 : Int32)), .unset, .unset, .unset, .unset, .unset, .unset] [])) _
    refine XS.iconst X1.here hx rfl (hb hby d18_29) ?_
    show Steps p.tables e below (T1.setTop (mkF m 30 #[.val (.int (0 : Int32)), .val (.ref x1), .val (.int (1 : Int32)), .unset, .unset, .unset, .unset, .unset, .unset] [(.int (0 : Int32))])) _
    refine XS.istoreN X1.here hx rfl (hb hby d18_30) rfl (l' := #[.val (.int (0 : Int32)), .val (.ref x1), .val (.int (1 : Int32)), .val (.int (0 : Int32)), .unset, .unset, .unset, .unset, .unset]) rfl ?_
    show Steps p.tables e below (T1.setTop (mkF m 31 #[.val (.int (0 : Int32)), .val (.ref x1), .val (.int (1 : Int32)), .val (.int (0 : Int32)), .unset, .unset, .unset, .unset, .unset] [])) _
    refine XS.aloadN X1.here hx rfl (hb hby d18_31) rfl rfl ?_
    show Steps p.tables e below (T1.setTop (mkF m 32 #[.val (.int (0 : Int32)), .val (.ref x1), .val (.int (1 : Int32)), .val (.int (0 : Int32)), .unset, .unset, .unset, .unset, .unset] [(.ref x1)])) _
    refine own_len X1 hx hZ e1 V_x1 (g := (mkF m 32 #[.val (.int (0 : Int32)), .val (.ref x1), .val (.int (1 : Int32)), .val (.int (0 : Int32)), .unset, .unset, .unset, .unset, .unset] [(.ref x1)])) rfl rfl (hb hby d18_32) ?_
    show Steps p.tables e below (T1.setTop (mkF m 33 #[.val (.int (0 : Int32)), .val (.ref x1), .val (.int (1 : Int32)), .val (.int (0 : Int32)), .unset, .unset, .unset, .unset, .unset] [(.int (2 : Int32))])) _
    refine st2 _ ?_
    show Steps p.tables e below (T2.setTop (mkF m 36 #[.val (.int (0 : Int32)), .val (.ref x1), .val (.int (1 : Int32)), .val (.int (0 : Int32)), .unset, .unset, .unset, .unset, .unset] [(.ref ds)])) _
    refine XS.astore X2.here hx rfl (hb hby d18_36) rfl rfl (l' := #[.val (.int (0 : Int32)), .val (.ref x1), .val (.int (1 : Int32)), .val (.int (0 : Int32)), .val (.ref ds), .unset, .unset, .unset, .unset]) rfl ?_
    show Steps p.tables e below (T2.setTop (mkF m 38 #[.val (.int (0 : Int32)), .val (.ref x1), .val (.int (1 : Int32)), .val (.int (0 : Int32)), .val (.ref ds), .unset, .unset, .unset, .unset] [])) _
    refine XS.aloadN X2.here hx rfl (hb hby d18_38) rfl rfl ?_
    show Steps p.tables e below (T2.setTop (mkF m 39 #[.val (.int (0 : Int32)), .val (.ref x1), .val (.int (1 : Int32)), .val (.int (0 : Int32)), .val (.ref ds), .unset, .unset, .unset, .unset] [(.ref x1)])) _
    refine XS.astore X2.here hx rfl (hb hby d18_39) rfl rfl (l' := #[.val (.int (0 : Int32)), .val (.ref x1), .val (.int (1 : Int32)), .val (.int (0 : Int32)), .val (.ref ds), .val (.ref x1), .unset, .unset, .unset]) rfl ?_
    show Steps p.tables e below (T2.setTop (mkF m 41 #[.val (.int (0 : Int32)), .val (.ref x1), .val (.int (1 : Int32)), .val (.int (0 : Int32)), .val (.ref ds), .val (.ref x1), .unset, .unset, .unset] [])) _
    refine XS.aload X2.here hx rfl (hb hby d18_41) rfl rfl ?_
    show Steps p.tables e below (T2.setTop (mkF m 43 #[.val (.int (0 : Int32)), .val (.ref x1), .val (.int (1 : Int32)), .val (.int (0 : Int32)), .val (.ref ds), .val (.ref x1), .unset, .unset, .unset] [(.ref x1)])) _
    refine own_len X2 hx hZ rfl V_x1_3 (g := (mkF m 43 #[.val (.int (0 : Int32)), .val (.ref x1), .val (.int (1 : Int32)), .val (.int (0 : Int32)), .val (.ref ds), .val (.ref x1), .unset, .unset, .unset] [(.ref x1)])) rfl rfl (hb hby d18_43) ?_
    show Steps p.tables e below (T2.setTop (mkF m 44 #[.val (.int (0 : Int32)), .val (.ref x1), .val (.int (1 : Int32)), .val (.int (0 : Int32)), .val (.ref ds), .val (.ref x1), .unset, .unset, .unset] [(.int (2 : Int32))])) _
    refine XS.istore X2.here hx rfl (hb hby d18_44) rfl (l' := #[.val (.int (0 : Int32)), .val (.ref x1), .val (.int (1 : Int32)), .val (.int (0 : Int32)), .val (.ref ds), .val (.ref x1), .val (.int (2 : Int32)), .unset, .unset]) rfl ?_
    show Steps p.tables e below (T2.setTop (mkF m 46 #[.val (.int (0 : Int32)), .val (.ref x1), .val (.int (1 : Int32)), .val (.int (0 : Int32)), .val (.ref ds), .val (.ref x1), .val (.int (2 : Int32)), .unset, .unset] [])) _
    refine XS.iconst X2.here hx rfl (hb hby d18_46) ?_
    show Steps p.tables e below (T2.setTop (mkF m 47 #[.val (.int (0 : Int32)), .val (.ref x1), .val (.int (1 : Int32)), .val (.int (0 : Int32)), .val (.ref ds), .val (.ref x1), .val (.int (2 : Int32)), .unset, .unset] [(.int (0 : Int32))])) _
    refine XS.istore X2.here hx rfl (hb hby d18_47) rfl (l' := #[.val (.int (0 : Int32)), .val (.ref x1), .val (.int (1 : Int32)), .val (.int (0 : Int32)), .val (.ref ds), .val (.ref x1), .val (.int (2 : Int32)), .val (.int (0 : Int32)), .unset]) rfl ?_
    show Steps p.tables e below (T2.setTop (mkF m 49 #[.val (.int (0 : Int32)), .val (.ref x1), .val (.int (1 : Int32)), .val (.int (0 : Int32)), .val (.ref ds), .val (.ref x1), .val (.int (2 : Int32)), .val (.int (0 : Int32)), .unset] [])) _
    refine XS.iload X2.here hx rfl (hb hby d18_49) rfl ?_
    show Steps p.tables e below (T2.setTop (mkF m 51 #[.val (.int (0 : Int32)), .val (.ref x1), .val (.int (1 : Int32)), .val (.int (0 : Int32)), .val (.ref ds), .val (.ref x1), .val (.int (2 : Int32)), .val (.int (0 : Int32)), .unset] [(.int (0 : Int32))])) _
    refine XS.iload X2.here hx rfl (hb hby d18_51) rfl ?_
    show Steps p.tables e below (T2.setTop (mkF m 53 #[.val (.int (0 : Int32)), .val (.ref x1), .val (.int (1 : Int32)), .val (.int (0 : Int32)), .val (.ref ds), .val (.ref x1), .val (.int (2 : Int32)), .val (.int (0 : Int32)), .unset] [(.int (2 : Int32)), (.int (0 : Int32))])) _
    refine XS.icmpNo X2.here hx rfl (hb hby d18_53) rfl (tlt (by decide : (0 : Int32) < (2 : Int32))).2.1 ?_
    show Steps p.tables e below (T2.setTop (mkF m 56 #[.val (.int (0 : Int32)), .val (.ref x1), .val (.int (1 : Int32)), .val (.int (0 : Int32)), .val (.ref ds), .val (.ref x1), .val (.int (2 : Int32)), .val (.int (0 : Int32)), .unset] [])) _
    refine XS.aload X2.here hx rfl (hb hby d18_56) rfl rfl ?_
    show Steps p.tables e below (T2.setTop (mkF m 58 #[.val (.int (0 : Int32)), .val (.ref x1), .val (.int (1 : Int32)), .val (.int (0 : Int32)), .val (.ref ds), .val (.ref x1), .val (.int (2 : Int32)), .val (.int (0 : Int32)), .unset] [(.ref x1)])) _
    refine XS.iload X2.here hx rfl (hb hby d18_58) rfl ?_
    show Steps p.tables e below (T2.setTop (mkF m 60 #[.val (.int (0 : Int32)), .val (.ref x1), .val (.int (1 : Int32)), .val (.int (0 : Int32)), .val (.ref ds), .val (.ref x1), .val (.int (2 : Int32)), .val (.int (0 : Int32)), .unset] [(.int (0 : Int32)), (.ref x1)])) _
    refine own_ldB X2 hx hZ rfl V_x1_3 (j := (0 : Int32)) (w := u0) ⟨by decide, by decide⟩ rfl (g := (mkF m 60 #[.val (.int (0 : Int32)), .val (.ref x1), .val (.int (1 : Int32)), .val (.int (0 : Int32)), .val (.ref ds), .val (.ref x1), .val (.int (2 : Int32)), .val (.int (0 : Int32)), .unset] [(.int (0 : Int32)), (.ref x1)])) rfl rfl (hb hby d18_60) ?_
    show Steps p.tables e below (T2.setTop (mkF m 61 #[.val (.int (0 : Int32)), .val (.ref x1), .val (.int (1 : Int32)), .val (.int (0 : Int32)), .val (.ref ds), .val (.ref x1), .val (.int (2 : Int32)), .val (.int (0 : Int32)), .unset] [(.int u0)])) _
    refine XS.istore X2.here hx rfl (hb hby d18_61) rfl (l' := #[.val (.int (0 : Int32)), .val (.ref x1), .val (.int (1 : Int32)), .val (.int (0 : Int32)), .val (.ref ds), .val (.ref x1), .val (.int (2 : Int32)), .val (.int (0 : Int32)), .val (.int u0)]) rfl ?_
    show Steps p.tables e below (T2.setTop (mkF m 63 #[.val (.int (0 : Int32)), .val (.ref x1), .val (.int (1 : Int32)), .val (.int (0 : Int32)), .val (.ref ds), .val (.ref x1), .val (.int (2 : Int32)), .val (.int (0 : Int32)), .val (.int u0)] [])) _
    refine XS.iload X2.here hx rfl (hb hby d18_63) rfl ?_
    show Steps p.tables e below (T2.setTop (mkF m 65 #[.val (.int (0 : Int32)), .val (.ref x1), .val (.int (1 : Int32)), .val (.int (0 : Int32)), .val (.ref ds), .val (.ref x1), .val (.int (2 : Int32)), .val (.int (0 : Int32)), .val (.int u0)] [(.int u0)])) _
    refine XS.ifNo X2.here hx rfl (hb hby d18_65) rfl ((if0 _ _).trans (tlt hs0).2.1) ?_
    show Steps p.tables e below (T2.setTop (mkF m 68 #[.val (.int (0 : Int32)), .val (.ref x1), .val (.int (1 : Int32)), .val (.int (0 : Int32)), .val (.ref ds), .val (.ref x1), .val (.int (2 : Int32)), .val (.int (0 : Int32)), .val (.int u0)] [])) _
    refine XS.aload X2.here hx rfl (hb hby d18_68) rfl rfl ?_
    show Steps p.tables e below (T2.setTop (mkF m 70 #[.val (.int (0 : Int32)), .val (.ref x1), .val (.int (1 : Int32)), .val (.int (0 : Int32)), .val (.ref ds), .val (.ref x1), .val (.int (2 : Int32)), .val (.int (0 : Int32)), .val (.int u0)] [(.ref ds)])) _
    refine XS.iloadN X2.here hx rfl (hb hby d18_70) rfl ?_
    show Steps p.tables e below (T2.setTop (mkF m 71 #[.val (.int (0 : Int32)), .val (.ref x1), .val (.int (1 : Int32)), .val (.int (0 : Int32)), .val (.ref ds), .val (.ref x1), .val (.int (2 : Int32)), .val (.int (0 : Int32)), .val (.int u0)] [(.int (0 : Int32)), (.ref ds)])) _
    refine XS.iinc X2.here hx rfl (hb hby d18_71) rfl (l' := #[.val (.int (0 : Int32)), .val (.ref x1), .val (.int (1 : Int32)), .val (.int ((0 : Int32) + (1 : Int32))), .val (.ref ds), .val (.ref x1), .val (.int (2 : Int32)), .val (.int (0 : Int32)), .val (.int u0)]) rfl ?_
    show Steps p.tables e below (T2.setTop (mkF m 74 #[.val (.int (0 : Int32)), .val (.ref x1), .val (.int (1 : Int32)), .val (.int ((0 : Int32) + (1 : Int32))), .val (.ref ds), .val (.ref x1), .val (.int (2 : Int32)), .val (.int (0 : Int32)), .val (.int u0)] [(.int (0 : Int32)), (.ref ds)])) _
    rw [show ((0 : Int32) + (1 : Int32)) = (1 : Int32) from by decide]
    show Steps p.tables e below (T2.setTop (mkF m 74 #[.val (.int (0 : Int32)), .val (.ref x1), .val (.int (1 : Int32)), .val (.int (1 : Int32)), .val (.ref ds), .val (.ref x1), .val (.int (2 : Int32)), .val (.int (0 : Int32)), .val (.int u0)] [(.int (0 : Int32)), (.ref ds)])) _
    refine XS.sipush X2.here hx rfl (hb hby d18_74) ?_
    show Steps p.tables e below (T2.setTop (mkF m 77 #[.val (.int (0 : Int32)), .val (.ref x1), .val (.int (1 : Int32)), .val (.int (1 : Int32)), .val (.ref ds), .val (.ref x1), .val (.int (2 : Int32)), .val (.int (0 : Int32)), .val (.int u0)] [(.int (192 : Int32)), (.int (0 : Int32)), (.ref ds)])) _
    refine XS.iload X2.here hx rfl (hb hby d18_77) rfl ?_
    show Steps p.tables e below (T2.setTop (mkF m 79 #[.val (.int (0 : Int32)), .val (.ref x1), .val (.int (1 : Int32)), .val (.int (1 : Int32)), .val (.ref ds), .val (.ref x1), .val (.int (2 : Int32)), .val (.int (0 : Int32)), .val (.int u0)] [(.int u0), (.int (192 : Int32)), (.int (0 : Int32)), (.ref ds)])) _
    refine XS.sipush X2.here hx rfl (hb hby d18_79) ?_
    show Steps p.tables e below (T2.setTop (mkF m 82 #[.val (.int (0 : Int32)), .val (.ref x1), .val (.int (1 : Int32)), .val (.int (1 : Int32)), .val (.ref ds), .val (.ref x1), .val (.int (2 : Int32)), .val (.int (0 : Int32)), .val (.int u0)] [(.int (255 : Int32)), (.int u0), (.int (192 : Int32)), (.int (0 : Int32)), (.ref ds)])) _
    refine XS.iand X2.here hx rfl (hb hby d18_82) rfl ?_
    show Steps p.tables e below (T2.setTop (mkF m 83 #[.val (.int (0 : Int32)), .val (.ref x1), .val (.int (1 : Int32)), .val (.int (1 : Int32)), .val (.ref ds), .val (.ref x1), .val (.int (2 : Int32)), .val (.int (0 : Int32)), .val (.int u0)] [(.int (u0 &&& (255 : Int32))), (.int (192 : Int32)), (.int (0 : Int32)), (.ref ds)])) _
    refine XS.bipush X2.here hx rfl (hb hby d18_83) ?_
    show Steps p.tables e below (T2.setTop (mkF m 85 #[.val (.int (0 : Int32)), .val (.ref x1), .val (.int (1 : Int32)), .val (.int (1 : Int32)), .val (.ref ds), .val (.ref x1), .val (.int (2 : Int32)), .val (.int (0 : Int32)), .val (.int u0)] [(.int (6 : Int32)), (.int (u0 &&& (255 : Int32))), (.int (192 : Int32)), (.int (0 : Int32)), (.ref ds)])) _
    refine XS.ishr X2.here hx rfl (hb hby d18_85) rfl ?_
    show Steps p.tables e below (T2.setTop (mkF m 86 #[.val (.int (0 : Int32)), .val (.ref x1), .val (.int (1 : Int32)), .val (.int (1 : Int32)), .val (.ref ds), .val (.ref x1), .val (.int (2 : Int32)), .val (.int (0 : Int32)), .val (.int u0)] [(.int ((u0 &&& (255 : Int32)) >>> ((6 : Int32) &&& 31))), (.int (192 : Int32)), (.int (0 : Int32)), (.ref ds)])) _
    refine XS.ior X2.here hx rfl (hb hby d18_86) rfl ?_
    show Steps p.tables e below (T2.setTop (mkF m 87 #[.val (.int (0 : Int32)), .val (.ref x1), .val (.int (1 : Int32)), .val (.int (1 : Int32)), .val (.ref ds), .val (.ref x1), .val (.int (2 : Int32)), .val (.int (0 : Int32)), .val (.int u0)] [(.int ((192 : Int32) ||| ((u0 &&& (255 : Int32)) >>> ((6 : Int32) &&& 31)))), (.int (0 : Int32)), (.ref ds)])) _
    refine XS.i2b X2.here hx rfl (hb hby d18_87) rfl ?_
    show Steps p.tables e below (T2.setTop (mkF m 88 #[.val (.int (0 : Int32)), .val (.ref x1), .val (.int (1 : Int32)), .val (.int (1 : Int32)), .val (.ref ds), .val (.ref x1), .val (.int (2 : Int32)), .val (.int (0 : Int32)), .val (.int u0)] [(.int (((192 : Int32) ||| ((u0 &&& (255 : Int32)) >>> ((6 : Int32) &&& 31))).toInt8.toInt32)), (.int (0 : Int32)), (.ref ds)])) _
    refine st4 _ ?_
    show Steps p.tables e below (T4.setTop (mkF m 89 #[.val (.int (0 : Int32)), .val (.ref x1), .val (.int (1 : Int32)), .val (.int (1 : Int32)), .val (.ref ds), .val (.ref x1), .val (.int (2 : Int32)), .val (.int (0 : Int32)), .val (.int u0)] [])) _
    refine XS.aload X4.here hx rfl (hb hby d18_89) rfl rfl ?_
    show Steps p.tables e below (T4.setTop (mkF m 91 #[.val (.int (0 : Int32)), .val (.ref x1), .val (.int (1 : Int32)), .val (.int (1 : Int32)), .val (.ref ds), .val (.ref x1), .val (.int (2 : Int32)), .val (.int (0 : Int32)), .val (.int u0)] [(.ref ds)])) _
    refine XS.iloadN X4.here hx rfl (hb hby d18_91) rfl ?_
    show Steps p.tables e below (T4.setTop (mkF m 92 #[.val (.int (0 : Int32)), .val (.ref x1), .val (.int (1 : Int32)), .val (.int (1 : Int32)), .val (.ref ds), .val (.ref x1), .val (.int (2 : Int32)), .val (.int (0 : Int32)), .val (.int u0)] [(.int (1 : Int32)), (.ref ds)])) _
    refine XS.iinc X4.here hx rfl (hb hby d18_92) rfl (l' := #[.val (.int (0 : Int32)), .val (.ref x1), .val (.int (1 : Int32)), .val (.int ((1 : Int32) + (1 : Int32))), .val (.ref ds), .val (.ref x1), .val (.int (2 : Int32)), .val (.int (0 : Int32)), .val (.int u0)]) rfl ?_
    show Steps p.tables e below (T4.setTop (mkF m 95 #[.val (.int (0 : Int32)), .val (.ref x1), .val (.int (1 : Int32)), .val (.int ((1 : Int32) + (1 : Int32))), .val (.ref ds), .val (.ref x1), .val (.int (2 : Int32)), .val (.int (0 : Int32)), .val (.int u0)] [(.int (1 : Int32)), (.ref ds)])) _
    rw [show ((1 : Int32) + (1 : Int32)) = (2 : Int32) from by decide]
    show Steps p.tables e below (T4.setTop (mkF m 95 #[.val (.int (0 : Int32)), .val (.ref x1), .val (.int (1 : Int32)), .val (.int (2 : Int32)), .val (.ref ds), .val (.ref x1), .val (.int (2 : Int32)), .val (.int (0 : Int32)), .val (.int u0)] [(.int (1 : Int32)), (.ref ds)])) _
    refine XS.sipush X4.here hx rfl (hb hby d18_95) ?_
    show Steps p.tables e below (T4.setTop (mkF m 98 #[.val (.int (0 : Int32)), .val (.ref x1), .val (.int (1 : Int32)), .val (.int (2 : Int32)), .val (.ref ds), .val (.ref x1), .val (.int (2 : Int32)), .val (.int (0 : Int32)), .val (.int u0)] [(.int (128 : Int32)), (.int (1 : Int32)), (.ref ds)])) _
    refine XS.iload X4.here hx rfl (hb hby d18_98) rfl ?_
    show Steps p.tables e below (T4.setTop (mkF m 100 #[.val (.int (0 : Int32)), .val (.ref x1), .val (.int (1 : Int32)), .val (.int (2 : Int32)), .val (.ref ds), .val (.ref x1), .val (.int (2 : Int32)), .val (.int (0 : Int32)), .val (.int u0)] [(.int u0), (.int (128 : Int32)), (.int (1 : Int32)), (.ref ds)])) _
    refine XS.bipush X4.here hx rfl (hb hby d18_100) ?_
    show Steps p.tables e below (T4.setTop (mkF m 102 #[.val (.int (0 : Int32)), .val (.ref x1), .val (.int (1 : Int32)), .val (.int (2 : Int32)), .val (.ref ds), .val (.ref x1), .val (.int (2 : Int32)), .val (.int (0 : Int32)), .val (.int u0)] [(.int (63 : Int32)), (.int u0), (.int (128 : Int32)), (.int (1 : Int32)), (.ref ds)])) _
    refine XS.iand X4.here hx rfl (hb hby d18_102) rfl ?_
    show Steps p.tables e below (T4.setTop (mkF m 103 #[.val (.int (0 : Int32)), .val (.ref x1), .val (.int (1 : Int32)), .val (.int (2 : Int32)), .val (.ref ds), .val (.ref x1), .val (.int (2 : Int32)), .val (.int (0 : Int32)), .val (.int u0)] [(.int (u0 &&& (63 : Int32))), (.int (128 : Int32)), (.int (1 : Int32)), (.ref ds)])) _
    refine XS.ior X4.here hx rfl (hb hby d18_103) rfl ?_
    show Steps p.tables e below (T4.setTop (mkF m 104 #[.val (.int (0 : Int32)), .val (.ref x1), .val (.int (1 : Int32)), .val (.int (2 : Int32)), .val (.ref ds), .val (.ref x1), .val (.int (2 : Int32)), .val (.int (0 : Int32)), .val (.int u0)] [(.int ((128 : Int32) ||| (u0 &&& (63 : Int32)))), (.int (1 : Int32)), (.ref ds)])) _
    refine XS.i2b X4.here hx rfl (hb hby d18_104) rfl ?_
    show Steps p.tables e below (T4.setTop (mkF m 105 #[.val (.int (0 : Int32)), .val (.ref x1), .val (.int (1 : Int32)), .val (.int (2 : Int32)), .val (.ref ds), .val (.ref x1), .val (.int (2 : Int32)), .val (.int (0 : Int32)), .val (.int u0)] [(.int (((128 : Int32) ||| (u0 &&& (63 : Int32))).toInt8.toInt32)), (.int (1 : Int32)), (.ref ds)])) _
    refine st6 _ ?_
    show Steps p.tables e below (T6.setTop (mkF m 106 #[.val (.int (0 : Int32)), .val (.ref x1), .val (.int (1 : Int32)), .val (.int (2 : Int32)), .val (.ref ds), .val (.ref x1), .val (.int (2 : Int32)), .val (.int (0 : Int32)), .val (.int u0)] [])) _
    refine XS.goto X6.here hx rfl (pc0 := 106) (pc' := 118) rfl (hb hby d18_106) (by decide) (by decide) ?_
    show Steps p.tables e below (T6.setTop (mkF m 118 #[.val (.int (0 : Int32)), .val (.ref x1), .val (.int (1 : Int32)), .val (.int (2 : Int32)), .val (.ref ds), .val (.ref x1), .val (.int (2 : Int32)), .val (.int (0 : Int32)), .val (.int u0)] [])) _
    refine XS.iinc X6.here hx rfl (hb hby d18_118) rfl (l' := #[.val (.int (0 : Int32)), .val (.ref x1), .val (.int (1 : Int32)), .val (.int (2 : Int32)), .val (.ref ds), .val (.ref x1), .val (.int (2 : Int32)), .val (.int ((0 : Int32) + (1 : Int32))), .val (.int u0)]) rfl ?_
    show Steps p.tables e below (T6.setTop (mkF m 121 #[.val (.int (0 : Int32)), .val (.ref x1), .val (.int (1 : Int32)), .val (.int (2 : Int32)), .val (.ref ds), .val (.ref x1), .val (.int (2 : Int32)), .val (.int ((0 : Int32) + (1 : Int32))), .val (.int u0)] [])) _
    rw [show ((0 : Int32) + (1 : Int32)) = (1 : Int32) from by decide]
    show Steps p.tables e below (T6.setTop (mkF m 121 #[.val (.int (0 : Int32)), .val (.ref x1), .val (.int (1 : Int32)), .val (.int (2 : Int32)), .val (.ref ds), .val (.ref x1), .val (.int (2 : Int32)), .val (.int (1 : Int32)), .val (.int u0)] [])) _
    refine XS.goto X6.here hx rfl (pc0 := 121) (pc' := 49) rfl (hb hby d18_121) (by decide) (by decide) ?_
    show Steps p.tables e below (T6.setTop (mkF m 49 #[.val (.int (0 : Int32)), .val (.ref x1), .val (.int (1 : Int32)), .val (.int (2 : Int32)), .val (.ref ds), .val (.ref x1), .val (.int (2 : Int32)), .val (.int (1 : Int32)), .val (.int u0)] [])) _
    refine XS.iload X6.here hx rfl (hb hby d18_49) rfl ?_
    show Steps p.tables e below (T6.setTop (mkF m 51 #[.val (.int (0 : Int32)), .val (.ref x1), .val (.int (1 : Int32)), .val (.int (2 : Int32)), .val (.ref ds), .val (.ref x1), .val (.int (2 : Int32)), .val (.int (1 : Int32)), .val (.int u0)] [(.int (1 : Int32))])) _
    refine XS.iload X6.here hx rfl (hb hby d18_51) rfl ?_
    show Steps p.tables e below (T6.setTop (mkF m 53 #[.val (.int (0 : Int32)), .val (.ref x1), .val (.int (1 : Int32)), .val (.int (2 : Int32)), .val (.ref ds), .val (.ref x1), .val (.int (2 : Int32)), .val (.int (1 : Int32)), .val (.int u0)] [(.int (2 : Int32)), (.int (1 : Int32))])) _
    refine XS.icmpNo X6.here hx rfl (hb hby d18_53) rfl (tlt (by decide : (1 : Int32) < (2 : Int32))).2.1 ?_
    show Steps p.tables e below (T6.setTop (mkF m 56 #[.val (.int (0 : Int32)), .val (.ref x1), .val (.int (1 : Int32)), .val (.int (2 : Int32)), .val (.ref ds), .val (.ref x1), .val (.int (2 : Int32)), .val (.int (1 : Int32)), .val (.int u0)] [])) _
    refine XS.aload X6.here hx rfl (hb hby d18_56) rfl rfl ?_
    show Steps p.tables e below (T6.setTop (mkF m 58 #[.val (.int (0 : Int32)), .val (.ref x1), .val (.int (1 : Int32)), .val (.int (2 : Int32)), .val (.ref ds), .val (.ref x1), .val (.int (2 : Int32)), .val (.int (1 : Int32)), .val (.int u0)] [(.ref x1)])) _
    refine XS.iload X6.here hx rfl (hb hby d18_58) rfl ?_
    show Steps p.tables e below (T6.setTop (mkF m 60 #[.val (.int (0 : Int32)), .val (.ref x1), .val (.int (1 : Int32)), .val (.int (2 : Int32)), .val (.ref ds), .val (.ref x1), .val (.int (2 : Int32)), .val (.int (1 : Int32)), .val (.int u0)] [(.int (1 : Int32)), (.ref x1)])) _
    refine own_ldB X6 hx hZ e6 V_x1_7 (j := (1 : Int32)) (w := u1) ⟨by decide, by decide⟩ rfl (g := (mkF m 60 #[.val (.int (0 : Int32)), .val (.ref x1), .val (.int (1 : Int32)), .val (.int (2 : Int32)), .val (.ref ds), .val (.ref x1), .val (.int (2 : Int32)), .val (.int (1 : Int32)), .val (.int u0)] [(.int (1 : Int32)), (.ref x1)])) rfl rfl (hb hby d18_60) ?_
    show Steps p.tables e below (T6.setTop (mkF m 61 #[.val (.int (0 : Int32)), .val (.ref x1), .val (.int (1 : Int32)), .val (.int (2 : Int32)), .val (.ref ds), .val (.ref x1), .val (.int (2 : Int32)), .val (.int (1 : Int32)), .val (.int u0)] [(.int u1)])) _
    refine XS.istore X6.here hx rfl (hb hby d18_61) rfl (l' := #[.val (.int (0 : Int32)), .val (.ref x1), .val (.int (1 : Int32)), .val (.int (2 : Int32)), .val (.ref ds), .val (.ref x1), .val (.int (2 : Int32)), .val (.int (1 : Int32)), .val (.int u1)]) rfl ?_
    show Steps p.tables e below (T6.setTop (mkF m 63 #[.val (.int (0 : Int32)), .val (.ref x1), .val (.int (1 : Int32)), .val (.int (2 : Int32)), .val (.ref ds), .val (.ref x1), .val (.int (2 : Int32)), .val (.int (1 : Int32)), .val (.int u1)] [])) _
    refine XS.iload X6.here hx rfl (hb hby d18_63) rfl ?_
    show Steps p.tables e below (T6.setTop (mkF m 65 #[.val (.int (0 : Int32)), .val (.ref x1), .val (.int (1 : Int32)), .val (.int (2 : Int32)), .val (.ref ds), .val (.ref x1), .val (.int (2 : Int32)), .val (.int (1 : Int32)), .val (.int u1)] [(.int u1)])) _
    refine XS.ifYes X6.here hx rfl (pc0 := 65) (pc' := 109) rfl (hb hby d18_65) rfl ((if0 _ _).trans (flt hs1).2.1) (by decide) (by decide) ?_
    show Steps p.tables e below (T6.setTop (mkF m 109 #[.val (.int (0 : Int32)), .val (.ref x1), .val (.int (1 : Int32)), .val (.int (2 : Int32)), .val (.ref ds), .val (.ref x1), .val (.int (2 : Int32)), .val (.int (1 : Int32)), .val (.int u1)] [])) _
    refine XS.aload X6.here hx rfl (hb hby d18_109) rfl rfl ?_
    show Steps p.tables e below (T6.setTop (mkF m 111 #[.val (.int (0 : Int32)), .val (.ref x1), .val (.int (1 : Int32)), .val (.int (2 : Int32)), .val (.ref ds), .val (.ref x1), .val (.int (2 : Int32)), .val (.int (1 : Int32)), .val (.int u1)] [(.ref ds)])) _
    refine XS.iloadN X6.here hx rfl (hb hby d18_111) rfl ?_
    show Steps p.tables e below (T6.setTop (mkF m 112 #[.val (.int (0 : Int32)), .val (.ref x1), .val (.int (1 : Int32)), .val (.int (2 : Int32)), .val (.ref ds), .val (.ref x1), .val (.int (2 : Int32)), .val (.int (1 : Int32)), .val (.int u1)] [(.int (2 : Int32)), (.ref ds)])) _
    refine XS.iinc X6.here hx rfl (hb hby d18_112) rfl (l' := #[.val (.int (0 : Int32)), .val (.ref x1), .val (.int (1 : Int32)), .val (.int ((2 : Int32) + (1 : Int32))), .val (.ref ds), .val (.ref x1), .val (.int (2 : Int32)), .val (.int (1 : Int32)), .val (.int u1)]) rfl ?_
    show Steps p.tables e below (T6.setTop (mkF m 115 #[.val (.int (0 : Int32)), .val (.ref x1), .val (.int (1 : Int32)), .val (.int ((2 : Int32) + (1 : Int32))), .val (.ref ds), .val (.ref x1), .val (.int (2 : Int32)), .val (.int (1 : Int32)), .val (.int u1)] [(.int (2 : Int32)), (.ref ds)])) _
    rw [show ((2 : Int32) + (1 : Int32)) = (3 : Int32) from by decide]
    show Steps p.tables e below (T6.setTop (mkF m 115 #[.val (.int (0 : Int32)), .val (.ref x1), .val (.int (1 : Int32)), .val (.int (3 : Int32)), .val (.ref ds), .val (.ref x1), .val (.int (2 : Int32)), .val (.int (1 : Int32)), .val (.int u1)] [(.int (2 : Int32)), (.ref ds)])) _
    refine XS.iload X6.here hx rfl (hb hby d18_115) rfl ?_
    show Steps p.tables e below (T6.setTop (mkF m 117 #[.val (.int (0 : Int32)), .val (.ref x1), .val (.int (1 : Int32)), .val (.int (3 : Int32)), .val (.ref ds), .val (.ref x1), .val (.int (2 : Int32)), .val (.int (1 : Int32)), .val (.int u1)] [(.int u1), (.int (2 : Int32)), (.ref ds)])) _
    refine st8 _ ?_
    show Steps p.tables e below (T8.setTop (mkF m 118 #[.val (.int (0 : Int32)), .val (.ref x1), .val (.int (1 : Int32)), .val (.int (3 : Int32)), .val (.ref ds), .val (.ref x1), .val (.int (2 : Int32)), .val (.int (1 : Int32)), .val (.int u1)] [])) _
    refine XS.iinc X8.here hx rfl (hb hby d18_118) rfl (l' := #[.val (.int (0 : Int32)), .val (.ref x1), .val (.int (1 : Int32)), .val (.int (3 : Int32)), .val (.ref ds), .val (.ref x1), .val (.int (2 : Int32)), .val (.int ((1 : Int32) + (1 : Int32))), .val (.int u1)]) rfl ?_
    show Steps p.tables e below (T8.setTop (mkF m 121 #[.val (.int (0 : Int32)), .val (.ref x1), .val (.int (1 : Int32)), .val (.int (3 : Int32)), .val (.ref ds), .val (.ref x1), .val (.int (2 : Int32)), .val (.int ((1 : Int32) + (1 : Int32))), .val (.int u1)] [])) _
    rw [show ((1 : Int32) + (1 : Int32)) = (2 : Int32) from by decide]
    show Steps p.tables e below (T8.setTop (mkF m 121 #[.val (.int (0 : Int32)), .val (.ref x1), .val (.int (1 : Int32)), .val (.int (3 : Int32)), .val (.ref ds), .val (.ref x1), .val (.int (2 : Int32)), .val (.int (2 : Int32)), .val (.int u1)] [])) _
    refine XS.goto X8.here hx rfl (pc0 := 121) (pc' := 49) rfl (hb hby d18_121) (by decide) (by decide) ?_
    show Steps p.tables e below (T8.setTop (mkF m 49 #[.val (.int (0 : Int32)), .val (.ref x1), .val (.int (1 : Int32)), .val (.int (3 : Int32)), .val (.ref ds), .val (.ref x1), .val (.int (2 : Int32)), .val (.int (2 : Int32)), .val (.int u1)] [])) _
    refine XS.iload X8.here hx rfl (hb hby d18_49) rfl ?_
    show Steps p.tables e below (T8.setTop (mkF m 51 #[.val (.int (0 : Int32)), .val (.ref x1), .val (.int (1 : Int32)), .val (.int (3 : Int32)), .val (.ref ds), .val (.ref x1), .val (.int (2 : Int32)), .val (.int (2 : Int32)), .val (.int u1)] [(.int (2 : Int32))])) _
    refine XS.iload X8.here hx rfl (hb hby d18_51) rfl ?_
    show Steps p.tables e below (T8.setTop (mkF m 53 #[.val (.int (0 : Int32)), .val (.ref x1), .val (.int (1 : Int32)), .val (.int (3 : Int32)), .val (.ref ds), .val (.ref x1), .val (.int (2 : Int32)), .val (.int (2 : Int32)), .val (.int u1)] [(.int (2 : Int32)), (.int (2 : Int32))])) _
    refine XS.icmpYes X8.here hx rfl (pc0 := 53) (pc' := 124) rfl (hb hby d18_53) rfl (flt (by decide : ¬ ((2 : Int32) < (2 : Int32)))).2.1 (by decide) (by decide) ?_
    show Steps p.tables e below (T8.setTop (mkF m 124 #[.val (.int (0 : Int32)), .val (.ref x1), .val (.int (1 : Int32)), .val (.int (3 : Int32)), .val (.ref ds), .val (.ref x1), .val (.int (2 : Int32)), .val (.int (2 : Int32)), .val (.int u1)] [])) _
    refine XS.iloadN X8.here hx rfl (hb hby d18_124) rfl ?_
    show Steps p.tables e below (T8.setTop (mkF m 125 #[.val (.int (0 : Int32)), .val (.ref x1), .val (.int (1 : Int32)), .val (.int (3 : Int32)), .val (.ref ds), .val (.ref x1), .val (.int (2 : Int32)), .val (.int (2 : Int32)), .val (.int u1)] [(.int (3 : Int32))])) _
    refine XS.aload X8.here hx rfl (hb hby d18_125) rfl rfl ?_
    show Steps p.tables e below (T8.setTop (mkF m 127 #[.val (.int (0 : Int32)), .val (.ref x1), .val (.int (1 : Int32)), .val (.int (3 : Int32)), .val (.ref ds), .val (.ref x1), .val (.int (2 : Int32)), .val (.int (2 : Int32)), .val (.int u1)] [(.ref ds), (.int (3 : Int32))])) _
    refine own_len X8 hx hZ e8 V_ds_8 (g := (mkF m 127 #[.val (.int (0 : Int32)), .val (.ref x1), .val (.int (1 : Int32)), .val (.int (3 : Int32)), .val (.ref ds), .val (.ref x1), .val (.int (2 : Int32)), .val (.int (2 : Int32)), .val (.int u1)] [(.ref ds), (.int (3 : Int32))])) rfl rfl (hb hby d18_127) ?_
    show Steps p.tables e below (T8.setTop (mkF m 128 #[.val (.int (0 : Int32)), .val (.ref x1), .val (.int (1 : Int32)), .val (.int (3 : Int32)), .val (.ref ds), .val (.ref x1), .val (.int (2 : Int32)), .val (.int (2 : Int32)), .val (.int u1)] [(.int (4 : Int32)), (.int (3 : Int32))])) _
    refine XS.icmpYes X8.here hx rfl (pc0 := 128) (pc' := 134) rfl (hb hby d18_128) rfl (feq (by decide : ¬ ((3 : Int32) = (4 : Int32)))).2 (by decide) (by decide) ?_
    show Steps p.tables e below (T8.setTop (mkF m 134 #[.val (.int (0 : Int32)), .val (.ref x1), .val (.int (1 : Int32)), .val (.int (3 : Int32)), .val (.ref ds), .val (.ref x1), .val (.int (2 : Int32)), .val (.int (2 : Int32)), .val (.int u1)] [])) _
    refine XS.aload X8.here hx rfl (hb hby d18_134) rfl rfl ?_
    show Steps p.tables e below (T8.setTop (mkF m 136 #[.val (.int (0 : Int32)), .val (.ref x1), .val (.int (1 : Int32)), .val (.int (3 : Int32)), .val (.ref ds), .val (.ref x1), .val (.int (2 : Int32)), .val (.int (2 : Int32)), .val (.int u1)] [(.ref ds)])) _
    refine XS.iloadN X8.here hx rfl (hb hby d18_136) rfl ?_
    show Steps p.tables e below (T8.setTop (mkF m 137 #[.val (.int (0 : Int32)), .val (.ref x1), .val (.int (1 : Int32)), .val (.int (3 : Int32)), .val (.ref ds), .val (.ref x1), .val (.int (2 : Int32)), .val (.int (2 : Int32)), .val (.int u1)] [(.int (3 : Int32)), (.ref ds)])) _
    refine st10 _ ?_
    show Steps p.tables e below (T10.setTop (mkF m 140 #[.val (.int (0 : Int32)), .val (.ref x1), .val (.int (1 : Int32)), .val (.int (3 : Int32)), .val (.ref ds), .val (.ref x1), .val (.int (2 : Int32)), .val (.int (2 : Int32)), .val (.int u1)] [(.ref rc)])) _
    exact retOut X10 hx (t := (.array .byte)) (i := .areturn) Bd.returns rfl (Or.inr (Or.inr (Or.inr (Or.inr ⟨rfl, rfl, rfl⟩)))) (hb hby d18_140) hr
  · exact (by
      have eT : (T10.setFrames fs).heap = T10.heap := rfl
      rw [eT]; exact ⟨rc, rfl, N10, keep_11⟩)
set_option maxRecDepth 65536 in
set_option maxHeartbeats 40000000 in
theorem rmu_11 (l : Launch) (Z : State) (a0 : Array Value) (hw : ∀ d ∈ tables_1, d.before a0 Z = true) (ws : List Jvm.Cond) (x1 : Addr) (k1 : ClassId) (u0 u1 : Int32) (h0 : Heap) (n0 : Nat) (Z0 : n0 ≤ h0.size) (V_x1 : Arv Z h0 x1 k1 .byte (2 : Int32) [(.int u0), (.int u1)] (.int (0 : Int32))) (E_x1 : Exa Z h0 x1 "[B") (hs0 : u0 < (0 : Int32)) (hs1 : u1 < (0 : Int32)) :
    MetFree l (⟨"java/lang/String", "encodeUTF8", "(B[BZ)[B"⟩ : MethodName) (head1 (Jvm.Cond.code (⟨"java/lang/String", "encodeUTF8", "(B[BZ)[B"⟩ : MethodName) jdk_42_method_46_code 9 (some (.array .byte)) :: ws) ({ frames := 2, cells := 2, slots := 7, locals := 74 } : Room)) (fun a U => a = #[(.int (0 : Int32)), (.ref x1), (.int (1 : Int32))] ∧ Z.Warmed39 U.vm ∧ U.heap = h0) (fun _ _ _ _ _ => True) (fun _ U o U' => ∃ v L, o = .returned v ∧ (QR Z h0 n0 v U'.heap L) ∧ FrameEnd U o U' L ({ frames := 2, cells := 2, slots := 7, locals := 74 } : Room).cells ({ frames := 2, cells := 2, slots := 7, locals := 74 } : Room).slots) := by
  refine MetFree.of_bodySF (plainFor_of_name pn_18) hisR ?_
  intro p e s m args below meth c s₁ Bd hml0 hP hK
  obtain ⟨rfl, hZ, hh⟩ := hP
  have hx := Bd.exec
  have hby := Bd.bytes
  have hml : c.maxLocals = 9 := hml0
  have hown : s.vm.findClass "java/lang/String" = some m.cls := findClass_of_methodNamed Bd.named
  have hnm := (name_of_methodNamed Bd.named Bd.method).1
  have X0 : Stand p l e ({ frames := 2, cells := 2, slots := 7, locals := 74 } : Room) s m #[(.int (0 : Int32)), (.ref x1), (.int (1 : Int32))] below meth c s₁ [] 0 0 := Stand.of_body Bd
  have e0 : s₁.heap = h0 := by rw [← hh, Bd.state]; rfl
  have N0 := Fr.nil n0
  have pre0 : ∀ t, Steps p.tables e below (s₁.setTop (mkF m 0 #[.val (.int (0 : Int32)), .val (.ref x1), .val (.int (1 : Int32)), .unset, .unset, .unset, .unset, .unset, .unset] [])) t → Steps p.tables e below (s₁.setTop (entryFrame m #[(.int (0 : Int32)), (.ref x1), (.int (1 : Int32))] 9)) t := fun t k => castTop (ef_18 m (0 : Int32) x1 (1 : Int32)) k
  have K0 : Keep h0 h0 [] := Keep.refl h0 []
  have hcp : own_cp u0 u1 = (0 : Int32) := by unfold own_cp; rw [if_pos hs0]
  have hhn : own_hn u0 u1 = (1 : Int32) := by unfold own_hn; rw [hcp]; rfl
  obtain ⟨_, _, ⟨T1, L1, k1, n1⟩, -, X1, ⟨Lc1, hQ1, l1, y1, z1⟩, st1⟩ := Jvm.LawKit.callS X0 hx (y := (⟨"java/lang/StringCoding", "hasNegatives", "([BII)Z"⟩ : MethodName)) hown (mvT hZ (hw _ (List.mem_of_getElem? (i := 98) rfl))) (mvT hZ (hw _ (List.mem_of_getElem? (i := 99) rfl))) (mvT hZ (hw _ (List.mem_of_getElem? (i := 100) rfl))) (mvT hZ (hw _ (List.mem_of_getElem? (i := 101) rfl))) (by decide) (backOf (W := 0) (rm19 l Z a0 hw [] x1 k1 u0 u1 h0 n0 Z0 V_x1) hZ (hw _ (List.mem_of_getElem? (i := 101) rfl)) (hw _ (List.mem_of_getElem? (i := 100) rfl)) (by decide) (by decide)) (g := (mkF m 15 #[.val (.int (0 : Int32)), .val (.ref x1), .val (.int (1 : Int32)), .unset, .unset, .unset, .unset, .unset, .unset] [(.int (2 : Int32)), (.int (0 : Int32)), (.ref x1)])) rfl (by rw [hml]; rfl) (argsL := [(.ref x1), (.int (0 : Int32)), (.int (2 : Int32))]) (rest := []) (lenOf pd___BII_Z rfl) rfl (by show 2 * 0 + _ ≤ _; exact Nat.le_of_eq rfl) (hb hby d18_15) (fun _ _ => ⟨rfl, e0, (by decide : 0 + 0 ≤ _), (by decide : 0 + 0 ≤ _)⟩)
  dsimp only [Pt.U, Pt.locs, Pt.cells, Pt.slots] at X1 l1 y1 z1 st1 hQ1
  subst l1 y1 z1
  obtain ⟨rfl, N1q, e1⟩ := hQ1
  have N1 := Fr.app N0 N1q
  obtain ⟨_, _, ⟨T2, L2, k2, n2⟩, -, X2, ⟨Lc2, hQ2, l2, y2, z2⟩, st2⟩ := Jvm.LawKit.callS X1 hx (y := (⟨"java/lang/StringUTF16", "newBytesFor", "(I)[B"⟩ : MethodName)) hown (mvT hZ (hw _ (List.mem_of_getElem? (i := 105) rfl))) (mvT hZ (hw _ (List.mem_of_getElem? (i := 106) rfl))) (mvT hZ (hw _ (List.mem_of_getElem? (i := 18) rfl))) (mvT hZ (hw _ (List.mem_of_getElem? (i := 107) rfl))) (by decide) (backOf (W := 0) (rm21 l Z a0 hw []  h0 n0 Z0) hZ (hw _ (List.mem_of_getElem? (i := 107) rfl)) (hw _ (List.mem_of_getElem? (i := 18) rfl)) (by decide) (by decide)) (g := (mkF m 33 #[.val (.int (0 : Int32)), .val (.ref x1), .val (.int (1 : Int32)), .val (.int (0 : Int32)), .unset, .unset, .unset, .unset, .unset] [(.int (2 : Int32))])) rfl (by rw [hml]; rfl) (argsL := [(.int (2 : Int32))]) (rest := []) (lenOf pd__I__B rfl) rfl (by show 2 * 0 + _ ≤ _; exact Nat.le_of_eq rfl) (hb hby d18_33) (fun _ _ => ⟨rfl, e1, (by decide : 0 + 1 ≤ _), (by decide : 0 + 4 ≤ _)⟩)
  dsimp only [Pt.U, Pt.locs, Pt.cells, Pt.slots] at X2 l2 y2 z2 st2 hQ2
  subst l2 y2 z2
  obtain ⟨ds, kd, rfl, N2q, K2, sd2, Vq2⟩ := hQ2
  have g_ds : n0 ≤ ds := Nat.le_trans Z0 sd2
  have lt_x1_ds : x1 < ds := Nat.lt_of_lt_of_le V_x1.lt sd2
  have sz_ds : h0.size ≤ ds := Nat.le_trans K0.1 sd2
  have keep_3 : Keep h0 T2.heap [] := K0.trans K2 (all0)
  have V_x1_3 : Arv Z T2.heap x1 k1 .byte (2 : Int32) [(.int u0), (.int u1)] (.int (0 : Int32)) := V_x1.keep K2 nin0
  have E_x1_3 : Exa Z T2.heap x1 "[B" := E_x1.keep K2
  have siz_3 : n0 ≤ T2.heap.size := Nat.le_trans Z0 K2.1
  have N2 := Fr.app N1 N2q
  obtain ⟨T4, h4, L4, X4, e4, N4, W4, V4, st4⟩ := own_stB X2 hx hZ rfl Vq2 (j := (0 : Int32)) ⟨by decide, by decide⟩ (i := 0) rfl (Nat.le_of_ble_eq_true rfl) N2 g_ds (g := (mkF m 88 #[.val (.int (0 : Int32)), .val (.ref x1), .val (.int (1 : Int32)), .val (.int (1 : Int32)), .val (.ref ds), .val (.ref x1), .val (.int (2 : Int32)), .val (.int (0 : Int32)), .val (.int u0)] [(.int (((192 : Int32) ||| ((u0 &&& (255 : Int32)) >>> ((6 : Int32) &&& 31))).toInt8.toInt32)), (.int (0 : Int32)), (.ref ds)])) rfl rfl (hb hby d18_88)
  have keep_5 : Keep h0 h4 [] := keep_3.wr W4 (Or.inr sz_ds)
  have V_x1_5 : Arv Z h4 x1 k1 .byte (2 : Int32) [(.int u0), (.int u1)] (.int (0 : Int32)) := V_x1_3.other W4 (Nat.ne_of_lt lt_x1_ds)
  have E_x1_5 : Exa Z h4 x1 "[B" := E_x1_3.wr W4
  have siz_5 : n0 ≤ h4.size := Nat.le_trans siz_3 (Keep.of_wr W4).1
  have V_ds_4 : Arv Z h4 ds kd .byte (4 : Int32) [(.int (nar .byte (((192 : Int32) ||| ((u0 &&& (255 : Int32)) >>> ((6 : Int32) &&& 31))).toInt8.toInt32))), (.int (0 : Int32)), (.int (0 : Int32)), (.int (0 : Int32))] (.int (0 : Int32)) := V4
  obtain ⟨T6, h6, L6, X6, e6, N6, W6, V6, st6⟩ := own_stB X4 hx hZ e4 V_ds_4 (j := (1 : Int32)) ⟨by decide, by decide⟩ (i := 1) rfl (Nat.le_of_ble_eq_true rfl) N4 g_ds (g := (mkF m 105 #[.val (.int (0 : Int32)), .val (.ref x1), .val (.int (1 : Int32)), .val (.int (2 : Int32)), .val (.ref ds), .val (.ref x1), .val (.int (2 : Int32)), .val (.int (0 : Int32)), .val (.int u0)] [(.int (((128 : Int32) ||| (u0 &&& (63 : Int32))).toInt8.toInt32)), (.int (1 : Int32)), (.ref ds)])) rfl rfl (hb hby d18_105)
  have keep_7 : Keep h0 h6 [] := keep_5.wr W6 (Or.inr sz_ds)
  have V_x1_7 : Arv Z h6 x1 k1 .byte (2 : Int32) [(.int u0), (.int u1)] (.int (0 : Int32)) := V_x1_5.other W6 (Nat.ne_of_lt lt_x1_ds)
  have E_x1_7 : Exa Z h6 x1 "[B" := E_x1_5.wr W6
  have siz_7 : n0 ≤ h6.size := Nat.le_trans siz_5 (Keep.of_wr W6).1
  have V_ds_6 : Arv Z h6 ds kd .byte (4 : Int32) [(.int (nar .byte (((192 : Int32) ||| ((u0 &&& (255 : Int32)) >>> ((6 : Int32) &&& 31))).toInt8.toInt32))), (.int (nar .byte (((128 : Int32) ||| (u0 &&& (63 : Int32))).toInt8.toInt32))), (.int (0 : Int32)), (.int (0 : Int32))] (.int (0 : Int32)) := V6
  obtain ⟨T8, h8, L8, X8, e8, N8, W8, V8, st8⟩ := own_stB X6 hx hZ e6 V_ds_6 (j := (2 : Int32)) ⟨by decide, by decide⟩ (i := 2) rfl (Nat.le_of_ble_eq_true rfl) N6 g_ds (g := (mkF m 88 #[.val (.int (0 : Int32)), .val (.ref x1), .val (.int (1 : Int32)), .val (.int (3 : Int32)), .val (.ref ds), .val (.ref x1), .val (.int (2 : Int32)), .val (.int (1 : Int32)), .val (.int u1)] [(.int (((192 : Int32) ||| ((u1 &&& (255 : Int32)) >>> ((6 : Int32) &&& 31))).toInt8.toInt32)), (.int (2 : Int32)), (.ref ds)])) rfl rfl (hb hby d18_88)
  have keep_9 : Keep h0 h8 [] := keep_7.wr W8 (Or.inr sz_ds)
  have V_x1_9 : Arv Z h8 x1 k1 .byte (2 : Int32) [(.int u0), (.int u1)] (.int (0 : Int32)) := V_x1_7.other W8 (Nat.ne_of_lt lt_x1_ds)
  have E_x1_9 : Exa Z h8 x1 "[B" := E_x1_7.wr W8
  have siz_9 : n0 ≤ h8.size := Nat.le_trans siz_7 (Keep.of_wr W8).1
  have V_ds_8 : Arv Z h8 ds kd .byte (4 : Int32) [(.int (nar .byte (((192 : Int32) ||| ((u0 &&& (255 : Int32)) >>> ((6 : Int32) &&& 31))).toInt8.toInt32))), (.int (nar .byte (((128 : Int32) ||| (u0 &&& (63 : Int32))).toInt8.toInt32))), (.int (nar .byte (((192 : Int32) ||| ((u1 &&& (255 : Int32)) >>> ((6 : Int32) &&& 31))).toInt8.toInt32))), (.int (0 : Int32))] (.int (0 : Int32)) := V8
  obtain ⟨T10, h10, L10, X10, e10, N10, W10, V10, st10⟩ := own_stB X8 hx hZ e8 V_ds_8 (j := (3 : Int32)) ⟨by decide, by decide⟩ (i := 3) rfl (Nat.le_of_ble_eq_true rfl) N8 g_ds (g := (mkF m 105 #[.val (.int (0 : Int32)), .val (.ref x1), .val (.int (1 : Int32)), .val (.int (4 : Int32)), .val (.ref ds), .val (.ref x1), .val (.int (2 : Int32)), .val (.int (1 : Int32)), .val (.int u1)] [(.int (((128 : Int32) ||| (u1 &&& (63 : Int32))).toInt8.toInt32)), (.int (3 : Int32)), (.ref ds)])) rfl rfl (hb hby d18_105)
  have keep_11 : Keep h0 h10 [] := keep_9.wr W10 (Or.inr sz_ds)
  have V_x1_11 : Arv Z h10 x1 k1 .byte (2 : Int32) [(.int u0), (.int u1)] (.int (0 : Int32)) := V_x1_9.other W10 (Nat.ne_of_lt lt_x1_ds)
  have E_x1_11 : Exa Z h10 x1 "[B" := E_x1_9.wr W10
  have siz_11 : n0 ≤ h10.size := Nat.le_trans siz_9 (Keep.of_wr W10).1
  have V_ds_10 : Arv Z h10 ds kd .byte (4 : Int32) [(.int (nar .byte (((192 : Int32) ||| ((u0 &&& (255 : Int32)) >>> ((6 : Int32) &&& 31))).toInt8.toInt32))), (.int (nar .byte (((128 : Int32) ||| (u0 &&& (63 : Int32))).toInt8.toInt32))), (.int (nar .byte (((192 : Int32) ||| ((u1 &&& (255 : Int32)) >>> ((6 : Int32) &&& 31))).toInt8.toInt32))), (.int (nar .byte (((128 : Int32) ||| (u1 &&& (63 : Int32))).toInt8.toInt32)))] (.int (0 : Int32)) := V10
  obtain ⟨fs, hr, hrun, hended, hW, hsame⟩ := X10.leave (v := some (.ref ds)) (fun h => by rw [Bd.returns] at h; cases h)
  refine ⟨_, _, pre0 _ ?_, hrun, hended, _, _, rfl, ?_, ⟨_, rfl⟩, hW, hsame.mono (by decide) (by decide)⟩
  · show Steps p.tables e below (s₁.setTop (mkF m 0 #[.val (.int (0 : Int32)), .val (.ref x1), .val (.int (1 : Int32)), .unset, .unset, .unset, .unset, .unset, .unset] [])) _
    refine XS.iloadN X0.here hx rfl (hb hby d18_0) rfl ?_
    show Steps p.tables e below (s₁.setTop (mkF m 1 #[.val (.int (0 : Int32)), .val (.ref x1), .val (.int (1 : Int32)), .unset, .unset, .unset, .unset, .unset, .unset] [(.int (0 : Int32))])) _
    refine XS.iconst X0.here hx rfl (hb hby d18_1) ?_
    show Steps p.tables e below (s₁.setTop (mkF m 2 #[.val (.int (0 : Int32)), .val (.ref x1), .val (.int (1 : Int32)), .unset, .unset, .unset, .unset, .unset, .unset] [(.int (1 : Int32)), (.int (0 : Int32))])) _
    refine XS.icmpYes X0.here hx rfl (pc0 := 2) (pc' := 11) rfl (hb hby d18_2) rfl (feq (by decide : ¬ ((0 : Int32) = (1 : Int32)))).2 (by decide) (by decide) ?_
    show Steps p.tables e below (s₁.setTop (mkF m 11 #[.val (.int (0 : Int32)), .val (.ref x1), .val (.int (1 : Int32)), .unset, .unset, .unset, .unset, .unset, .unset] [])) _
    refine XS.aloadN X0.here hx rfl (hb hby d18_11) rfl rfl ?_
    show Steps p.tables e below (s₁.setTop (mkF m 12 #[.val (.int (0 : Int32)), .val (.ref x1), .val (.int (1 : Int32)), .unset, .unset, .unset, .unset, .unset, .unset] [(.ref x1)])) _
    refine XS.iconst X0.here hx rfl (hb hby d18_12) ?_
    show Steps p.tables e below (s₁.setTop (mkF m 13 #[.val (.int (0 : Int32)), .val (.ref x1), .val (.int (1 : Int32)), .unset, .unset, .unset, .unset, .unset, .unset] [(.int (0 : Int32)), (.ref x1)])) _
    refine XS.aloadN X0.here hx rfl (hb hby d18_13) rfl rfl ?_
    show Steps p.tables e below (s₁.setTop (mkF m 14 #[.val (.int (0 : Int32)), .val (.ref x1), .val (.int (1 : Int32)), .unset, .unset, .unset, .unset, .unset, .unset] [(.ref x1), (.int (0 : Int32)), (.ref x1)])) _
    refine own_len X0 hx hZ e0 V_x1 (g := (mkF m 14 #[.val (.int (0 : Int32)), .val (.ref x1), .val (.int (1 : Int32)), .unset, .unset, .unset, .unset, .unset, .unset] [(.ref x1), (.int (0 : Int32)), (.ref x1)])) rfl rfl (hb hby d18_14) ?_
    show Steps p.tables e below (s₁.setTop (mkF m 15 #[.val (.int (0 : Int32)), .val (.ref x1), .val (.int (1 : Int32)), .unset, .unset, .unset, .unset, .unset, .unset] [(.int (2 : Int32)), (.int (0 : Int32)), (.ref x1)])) _
    refine st1 _ ?_
    show Steps p.tables e below (T1.setTop (mkF m 18 #[.val (.int (0 : Int32)), .val (.ref x1), .val (.int (1 : Int32)), .unset, .unset, .unset, .unset, .unset, .unset] [(.int (own_hn u0 u1))])) _
    refine XS.ifYes X1.here hx rfl (pc0 := 18) (pc' := 29) rfl (hb hby d18_18) rfl ((if0 _ _).trans (feq (by rw [hhn]; decide)).2) (by decide) (by decide) ?_
    show Steps p.tables e below (T1.setTop (mkF m 29 #[.val (.int (0 : Int32)), .val (.ref x1), .val (.int (1 : Int32)), .unset, .unset, .unset, .unset, .unset, .unset] [])) _
    refine XS.iconst X1.here hx rfl (hb hby d18_29) ?_
    show Steps p.tables e below (T1.setTop (mkF m 30 #[.val (.int (0 : Int32)), .val (.ref x1), .val (.int (1 : Int32)), .unset, .unset, .unset, .unset, .unset, .unset] [(.int (0 : Int32))])) _
    refine XS.istoreN X1.here hx rfl (hb hby d18_30) rfl (l' := #[.val (.int (0 : Int32)), .val (.ref x1), .val (.int (1 : Int32)), .val (.int (0 : Int32)), .unset, .unset, .unset, .unset, .unset]) rfl ?_
    show Steps p.tables e below (T1.setTop (mkF m 31 #[.val (.int (0 : Int32)), .val (.ref x1), .val (.int (1 : Int32)), .val (.int (0 : Int32)), .unset, .unset, .unset, .unset, .unset] [])) _
    refine XS.aloadN X1.here hx rfl (hb hby d18_31) rfl rfl ?_
    show Steps p.tables e below (T1.setTop (mkF m 32 #[.val (.int (0 : Int32)), .val (.ref x1), .val (.int (1 : Int32)), .val (.int (0 : Int32)), .unset, .unset, .unset, .unset, .unset] [(.ref x1)])) _
    refine own_len X1 hx hZ e1 V_x1 (g := (mkF m 32 #[.val (.int (0 : Int32)), .val (.ref x1), .val (.int (1 : Int32)), .val (.int (0 : Int32)), .unset, .unset, .unset, .unset, .unset] [(.ref x1)])) rfl rfl (hb hby d18_32) ?_
    show Steps p.tables e below (T1.setTop (mkF m 33 #[.val (.int (0 : Int32)), .val (.ref x1), .val (.int (1 : Int32)), .val (.int (0 : Int32)), .unset, .unset, .unset, .unset, .unset] [(.int (2 : Int32))])) _
    refine st2 _ ?_
    show Steps p.tables e below (T2.setTop (mkF m 36 #[.val (.int (0 : Int32)), .val (.ref x1), .val (.int (1 : Int32)), .val (.int (0 : Int32)), .unset, .unset, .unset, .unset, .unset] [(.ref ds)])) _
    refine XS.astore X2.here hx rfl (hb hby d18_36) rfl rfl (l' := #[.val (.int (0 : Int32)), .val (.ref x1), .val (.int (1 : Int32)), .val (.int (0 : Int32)), .val (.ref ds), .unset, .unset, .unset, .unset]) rfl ?_
    show Steps p.tables e below (T2.setTop (mkF m 38 #[.val (.int (0 : Int32)), .val (.ref x1), .val (.int (1 : Int32)), .val (.int (0 : Int32)), .val (.ref ds), .unset, .unset, .unset, .unset] [])) _
    refine XS.aloadN X2.here hx rfl (hb hby d18_38) rfl rfl ?_
    show Steps p.tables e below (T2.setTop (mkF m 39 #[.val (.int (0 : Int32)), .val (.ref x1), .val (.int (1 : Int32)), .val (.int (0 : Int32)), .val (.ref ds), .unset, .unset, .unset, .unset] [(.ref x1)])) _
    refine XS.astore X2.here hx rfl (hb hby d18_39) rfl rfl (l' := #[.val (.int (0 : Int32)), .val (.ref x1), .val (.int (1 : Int32)), .val (.int (0 : Int32)), .val (.ref ds), .val (.ref x1), .unset, .unset, .unset]) rfl ?_
    show Steps p.tables e below (T2.setTop (mkF m 41 #[.val (.int (0 : Int32)), .val (.ref x1), .val (.int (1 : Int32)), .val (.int (0 : Int32)), .val (.ref ds), .val (.ref x1), .unset, .unset, .unset] [])) _
    refine XS.aload X2.here hx rfl (hb hby d18_41) rfl rfl ?_
    show Steps p.tables e below (T2.setTop (mkF m 43 #[.val (.int (0 : Int32)), .val (.ref x1), .val (.int (1 : Int32)), .val (.int (0 : Int32)), .val (.ref ds), .val (.ref x1), .unset, .unset, .unset] [(.ref x1)])) _
    refine own_len X2 hx hZ rfl V_x1_3 (g := (mkF m 43 #[.val (.int (0 : Int32)), .val (.ref x1), .val (.int (1 : Int32)), .val (.int (0 : Int32)), .val (.ref ds), .val (.ref x1), .unset, .unset, .unset] [(.ref x1)])) rfl rfl (hb hby d18_43) ?_
    show Steps p.tables e below (T2.setTop (mkF m 44 #[.val (.int (0 : Int32)), .val (.ref x1), .val (.int (1 : Int32)), .val (.int (0 : Int32)), .val (.ref ds), .val (.ref x1), .unset, .unset, .unset] [(.int (2 : Int32))])) _
    refine XS.istore X2.here hx rfl (hb hby d18_44) rfl (l' := #[.val (.int (0 : Int32)), .val (.ref x1), .val (.int (1 : Int32)), .val (.int (0 : Int32)), .val (.ref ds), .val (.ref x1), .val (.int (2 : Int32)), .unset, .unset]) rfl ?_
    show Steps p.tables e below (T2.setTop (mkF m 46 #[.val (.int (0 : Int32)), .val (.ref x1), .val (.int (1 : Int32)), .val (.int (0 : Int32)), .val (.ref ds), .val (.ref x1), .val (.int (2 : Int32)), .unset, .unset] [])) _
    refine XS.iconst X2.here hx rfl (hb hby d18_46) ?_
    show Steps p.tables e below (T2.setTop (mkF m 47 #[.val (.int (0 : Int32)), .val (.ref x1), .val (.int (1 : Int32)), .val (.int (0 : Int32)), .val (.ref ds), .val (.ref x1), .val (.int (2 : Int32)), .unset, .unset] [(.int (0 : Int32))])) _
    refine XS.istore X2.here hx rfl (hb hby d18_47) rfl (l' := #[.val (.int (0 : Int32)), .val (.ref x1), .val (.int (1 : Int32)), .val (.int (0 : Int32)), .val (.ref ds), .val (.ref x1), .val (.int (2 : Int32)), .val (.int (0 : Int32)), .unset]) rfl ?_
    show Steps p.tables e below (T2.setTop (mkF m 49 #[.val (.int (0 : Int32)), .val (.ref x1), .val (.int (1 : Int32)), .val (.int (0 : Int32)), .val (.ref ds), .val (.ref x1), .val (.int (2 : Int32)), .val (.int (0 : Int32)), .unset] [])) _
    refine XS.iload X2.here hx rfl (hb hby d18_49) rfl ?_
    show Steps p.tables e below (T2.setTop (mkF m 51 #[.val (.int (0 : Int32)), .val (.ref x1), .val (.int (1 : Int32)), .val (.int (0 : Int32)), .val (.ref ds), .val (.ref x1), .val (.int (2 : Int32)), .val (.int (0 : Int32)), .unset] [(.int (0 : Int32))])) _
    refine XS.iload X2.here hx rfl (hb hby d18_51) rfl ?_
    show Steps p.tables e below (T2.setTop (mkF m 53 #[.val (.int (0 : Int32)), .val (.ref x1), .val (.int (1 : Int32)), .val (.int (0 : Int32)), .val (.ref ds), .val (.ref x1), .val (.int (2 : Int32)), .val (.int (0 : Int32)), .unset] [(.int (2 : Int32)), (.int (0 : Int32))])) _
    refine XS.icmpNo X2.here hx rfl (hb hby d18_53) rfl (tlt (by decide : (0 : Int32) < (2 : Int32))).2.1 ?_
    show Steps p.tables e below (T2.setTop (mkF m 56 #[.val (.int (0 : Int32)), .val (.ref x1), .val (.int (1 : Int32)), .val (.int (0 : Int32)), .val (.ref ds), .val (.ref x1), .val (.int (2 : Int32)), .val (.int (0 : Int32)), .unset] [])) _
    refine XS.aload X2.here hx rfl (hb hby d18_56) rfl rfl ?_
    show Steps p.tables e below (T2.setTop (mkF m 58 #[.val (.int (0 : Int32)), .val (.ref x1), .val (.int (1 : Int32)), .val (.int (0 : Int32)), .val (.ref ds), .val (.ref x1), .val (.int (2 : Int32)), .val (.int (0 : Int32)), .unset] [(.ref x1)])) _
    refine XS.iload X2.here hx rfl (hb hby d18_58) rfl ?_
    show Steps p.tables e below (T2.setTop (mkF m 60 #[.val (.int (0 : Int32)), .val (.ref x1), .val (.int (1 : Int32)), .val (.int (0 : Int32)), .val (.ref ds), .val (.ref x1), .val (.int (2 : Int32)), .val (.int (0 : Int32)), .unset] [(.int (0 : Int32)), (.ref x1)])) _
    refine own_ldB X2 hx hZ rfl V_x1_3 (j := (0 : Int32)) (w := u0) ⟨by decide, by decide⟩ rfl (g := (mkF m 60 #[.val (.int (0 : Int32)), .val (.ref x1), .val (.int (1 : Int32)), .val (.int (0 : Int32)), .val (.ref ds), .val (.ref x1), .val (.int (2 : Int32)), .val (.int (0 : Int32)), .unset] [(.int (0 : Int32)), (.ref x1)])) rfl rfl (hb hby d18_60) ?_
    show Steps p.tables e below (T2.setTop (mkF m 61 #[.val (.int (0 : Int32)), .val (.ref x1), .val (.int (1 : Int32)), .val (.int (0 : Int32)), .val (.ref ds), .val (.ref x1), .val (.int (2 : Int32)), .val (.int (0 : Int32)), .unset] [(.int u0)])) _
    refine XS.istore X2.here hx rfl (hb hby d18_61) rfl (l' := #[.val (.int (0 : Int32)), .val (.ref x1), .val (.int (1 : Int32)), .val (.int (0 : Int32)), .val (.ref ds), .val (.ref x1), .val (.int (2 : Int32)), .val (.int (0 : Int32)), .val (.int u0)]) rfl ?_
    show Steps p.tables e below (T2.setTop (mkF m 63 #[.val (.int (0 : Int32)), .val (.ref x1), .val (.int (1 : Int32)), .val (.int (0 : Int32)), .val (.ref ds), .val (.ref x1), .val (.int (2 : Int32)), .val (.int (0 : Int32)), .val (.int u0)] [])) _
    refine XS.iload X2.here hx rfl (hb hby d18_63) rfl ?_
    show Steps p.tables e below (T2.setTop (mkF m 65 #[.val (.int (0 : Int32)), .val (.ref x1), .val (.int (1 : Int32)), .val (.int (0 : Int32)), .val (.ref ds), .val (.ref x1), .val (.int (2 : Int32)), .val (.int (0 : Int32)), .val (.int u0)] [(.int u0)])) _
    refine XS.ifNo X2.here hx rfl (hb hby d18_65) rfl ((if0 _ _).trans (tlt hs0).2.1) ?_
    show Steps p.tables e below (T2.setTop (mkF m 68 #[.val (.int (0 : Int32)), .val (.ref x1), .val (.int (1 : Int32)), .val (.int (0 : Int32)), .val (.ref ds), .val (.ref x1), .val (.int (2 : Int32)), .val (.int (0 : Int32)), .val (.int u0)] [])) _
    refine XS.aload X2.here hx rfl (hb hby d18_68) rfl rfl ?_
    show Steps p.tables e below (T2.setTop (mkF m 70 #[.val (.int (0 : Int32)), .val (.ref x1), .val (.int (1 : Int32)), .val (.int (0 : Int32)), .val (.ref ds), .val (.ref x1), .val (.int (2 : Int32)), .val (.int (0 : Int32)), .val (.int u0)] [(.ref ds)])) _
    refine XS.iloadN X2.here hx rfl (hb hby d18_70) rfl ?_
    show Steps p.tables e below (T2.setTop (mkF m 71 #[.val (.int (0 : Int32)), .val (.ref x1), .val (.int (1 : Int32)), .val (.int (0 : Int32)), .val (.ref ds), .val (.ref x1), .val (.int (2 : Int32)), .val (.int (0 : Int32)), .val (.int u0)] [(.int (0 : Int32)), (.ref ds)])) _
    refine XS.iinc X2.here hx rfl (hb hby d18_71) rfl (l' := #[.val (.int (0 : Int32)), .val (.ref x1), .val (.int (1 : Int32)), .val (.int ((0 : Int32) + (1 : Int32))), .val (.ref ds), .val (.ref x1), .val (.int (2 : Int32)), .val (.int (0 : Int32)), .val (.int u0)]) rfl ?_
    show Steps p.tables e below (T2.setTop (mkF m 74 #[.val (.int (0 : Int32)), .val (.ref x1), .val (.int (1 : Int32)), .val (.int ((0 : Int32) + (1 : Int32))), .val (.ref ds), .val (.ref x1), .val (.int (2 : Int32)), .val (.int (0 : Int32)), .val (.int u0)] [(.int (0 : Int32)), (.ref ds)])) _
    rw [show ((0 : Int32) + (1 : Int32)) = (1 : Int32) from by decide]
    show Steps p.tables e below (T2.setTop (mkF m 74 #[.val (.int (0 : Int32)), .val (.ref x1), .val (.int (1 : Int32)), .val (.int (1 : Int32)), .val (.ref ds), .val (.ref x1), .val (.int (2 : Int32)), .val (.int (0 : Int32)), .val (.int u0)] [(.int (0 : Int32)), (.ref ds)])) _
    refine XS.sipush X2.here hx rfl (hb hby d18_74) ?_
    show Steps p.tables e below (T2.setTop (mkF m 77 #[.val (.int (0 : Int32)), .val (.ref x1), .val (.int (1 : Int32)), .val (.int (1 : Int32)), .val (.ref ds), .val (.ref x1), .val (.int (2 : Int32)), .val (.int (0 : Int32)), .val (.int u0)] [(.int (192 : Int32)), (.int (0 : Int32)), (.ref ds)])) _
    refine XS.iload X2.here hx rfl (hb hby d18_77) rfl ?_
    show Steps p.tables e below (T2.setTop (mkF m 79 #[.val (.int (0 : Int32)), .val (.ref x1), .val (.int (1 : Int32)), .val (.int (1 : Int32)), .val (.ref ds), .val (.ref x1), .val (.int (2 : Int32)), .val (.int (0 : Int32)), .val (.int u0)] [(.int u0), (.int (192 : Int32)), (.int (0 : Int32)), (.ref ds)])) _
    refine XS.sipush X2.here hx rfl (hb hby d18_79) ?_
    show Steps p.tables e below (T2.setTop (mkF m 82 #[.val (.int (0 : Int32)), .val (.ref x1), .val (.int (1 : Int32)), .val (.int (1 : Int32)), .val (.ref ds), .val (.ref x1), .val (.int (2 : Int32)), .val (.int (0 : Int32)), .val (.int u0)] [(.int (255 : Int32)), (.int u0), (.int (192 : Int32)), (.int (0 : Int32)), (.ref ds)])) _
    refine XS.iand X2.here hx rfl (hb hby d18_82) rfl ?_
    show Steps p.tables e below (T2.setTop (mkF m 83 #[.val (.int (0 : Int32)), .val (.ref x1), .val (.int (1 : Int32)), .val (.int (1 : Int32)), .val (.ref ds), .val (.ref x1), .val (.int (2 : Int32)), .val (.int (0 : Int32)), .val (.int u0)] [(.int (u0 &&& (255 : Int32))), (.int (192 : Int32)), (.int (0 : Int32)), (.ref ds)])) _
    refine XS.bipush X2.here hx rfl (hb hby d18_83) ?_
    show Steps p.tables e below (T2.setTop (mkF m 85 #[.val (.int (0 : Int32)), .val (.ref x1), .val (.int (1 : Int32)), .val (.int (1 : Int32)), .val (.ref ds), .val (.ref x1), .val (.int (2 : Int32)), .val (.int (0 : Int32)), .val (.int u0)] [(.int (6 : Int32)), (.int (u0 &&& (255 : Int32))), (.int (192 : Int32)), (.int (0 : Int32)), (.ref ds)])) _
    refine XS.ishr X2.here hx rfl (hb hby d18_85) rfl ?_
    show Steps p.tables e below (T2.setTop (mkF m 86 #[.val (.int (0 : Int32)), .val (.ref x1), .val (.int (1 : Int32)), .val (.int (1 : Int32)), .val (.ref ds), .val (.ref x1), .val (.int (2 : Int32)), .val (.int (0 : Int32)), .val (.int u0)] [(.int ((u0 &&& (255 : Int32)) >>> ((6 : Int32) &&& 31))), (.int (192 : Int32)), (.int (0 : Int32)), (.ref ds)])) _
    refine XS.ior X2.here hx rfl (hb hby d18_86) rfl ?_
    show Steps p.tables e below (T2.setTop (mkF m 87 #[.val (.int (0 : Int32)), .val (.ref x1), .val (.int (1 : Int32)), .val (.int (1 : Int32)), .val (.ref ds), .val (.ref x1), .val (.int (2 : Int32)), .val (.int (0 : Int32)), .val (.int u0)] [(.int ((192 : Int32) ||| ((u0 &&& (255 : Int32)) >>> ((6 : Int32) &&& 31)))), (.int (0 : Int32)), (.ref ds)])) _
    refine XS.i2b X2.here hx rfl (hb hby d18_87) rfl ?_
    show Steps p.tables e below (T2.setTop (mkF m 88 #[.val (.int (0 : Int32)), .val (.ref x1), .val (.int (1 : Int32)), .val (.int (1 : Int32)), .val (.ref ds), .val (.ref x1), .val (.int (2 : Int32)), .val (.int (0 : Int32)), .val (.int u0)] [(.int (((192 : Int32) ||| ((u0 &&& (255 : Int32)) >>> ((6 : Int32) &&& 31))).toInt8.toInt32)), (.int (0 : Int32)), (.ref ds)])) _
    refine st4 _ ?_
    show Steps p.tables e below (T4.setTop (mkF m 89 #[.val (.int (0 : Int32)), .val (.ref x1), .val (.int (1 : Int32)), .val (.int (1 : Int32)), .val (.ref ds), .val (.ref x1), .val (.int (2 : Int32)), .val (.int (0 : Int32)), .val (.int u0)] [])) _
    refine XS.aload X4.here hx rfl (hb hby d18_89) rfl rfl ?_
    show Steps p.tables e below (T4.setTop (mkF m 91 #[.val (.int (0 : Int32)), .val (.ref x1), .val (.int (1 : Int32)), .val (.int (1 : Int32)), .val (.ref ds), .val (.ref x1), .val (.int (2 : Int32)), .val (.int (0 : Int32)), .val (.int u0)] [(.ref ds)])) _
    refine XS.iloadN X4.here hx rfl (hb hby d18_91) rfl ?_
    show Steps p.tables e below (T4.setTop (mkF m 92 #[.val (.int (0 : Int32)), .val (.ref x1), .val (.int (1 : Int32)), .val (.int (1 : Int32)), .val (.ref ds), .val (.ref x1), .val (.int (2 : Int32)), .val (.int (0 : Int32)), .val (.int u0)] [(.int (1 : Int32)), (.ref ds)])) _
    refine XS.iinc X4.here hx rfl (hb hby d18_92) rfl (l' := #[.val (.int (0 : Int32)), .val (.ref x1), .val (.int (1 : Int32)), .val (.int ((1 : Int32) + (1 : Int32))), .val (.ref ds), .val (.ref x1), .val (.int (2 : Int32)), .val (.int (0 : Int32)), .val (.int u0)]) rfl ?_
    show Steps p.tables e below (T4.setTop (mkF m 95 #[.val (.int (0 : Int32)), .val (.ref x1), .val (.int (1 : Int32)), .val (.int ((1 : Int32) + (1 : Int32))), .val (.ref ds), .val (.ref x1), .val (.int (2 : Int32)), .val (.int (0 : Int32)), .val (.int u0)] [(.int (1 : Int32)), (.ref ds)])) _
    rw [show ((1 : Int32) + (1 : Int32)) = (2 : Int32) from by decide]
    show Steps p.tables e below (T4.setTop (mkF m 95 #[.val (.int (0 : Int32)), .val (.ref x1), .val (.int (1 : Int32)), .val (.int (2 : Int32)), .val (.ref ds), .val (.ref x1), .val (.int (2 : Int32)), .val (.int (0 : Int32)), .val (.int u0)] [(.int (1 : Int32)), (.ref ds)])) _
    refine XS.sipush X4.here hx rfl (hb hby d18_95) ?_
    show Steps p.tables e below (T4.setTop (mkF m 98 #[.val (.int (0 : Int32)), .val (.ref x1), .val (.int (1 : Int32)), .val (.int (2 : Int32)), .val (.ref ds), .val (.ref x1), .val (.int (2 : Int32)), .val (.int (0 : Int32)), .val (.int u0)] [(.int (128 : Int32)), (.int (1 : Int32)), (.ref ds)])) _
    refine XS.iload X4.here hx rfl (hb hby d18_98) rfl ?_
    show Steps p.tables e below (T4.setTop (mkF m 100 #[.val (.int (0 : Int32)), .val (.ref x1), .val (.int (1 : Int32)), .val (.int (2 : Int32)), .val (.ref ds), .val (.ref x1), .val (.int (2 : Int32)), .val (.int (0 : Int32)), .val (.int u0)] [(.int u0), (.int (128 : Int32)), (.int (1 : Int32)), (.ref ds)])) _
    refine XS.bipush X4.here hx rfl (hb hby d18_100) ?_
    show Steps p.tables e below (T4.setTop (mkF m 102 #[.val (.int (0 : Int32)), .val (.ref x1), .val (.int (1 : Int32)), .val (.int (2 : Int32)), .val (.ref ds), .val (.ref x1), .val (.int (2 : Int32)), .val (.int (0 : Int32)), .val (.int u0)] [(.int (63 : Int32)), (.int u0), (.int (128 : Int32)), (.int (1 : Int32)), (.ref ds)])) _
    refine XS.iand X4.here hx rfl (hb hby d18_102) rfl ?_
    show Steps p.tables e below (T4.setTop (mkF m 103 #[.val (.int (0 : Int32)), .val (.ref x1), .val (.int (1 : Int32)), .val (.int (2 : Int32)), .val (.ref ds), .val (.ref x1), .val (.int (2 : Int32)), .val (.int (0 : Int32)), .val (.int u0)] [(.int (u0 &&& (63 : Int32))), (.int (128 : Int32)), (.int (1 : Int32)), (.ref ds)])) _
    refine XS.ior X4.here hx rfl (hb hby d18_103) rfl ?_
    show Steps p.tables e below (T4.setTop (mkF m 104 #[.val (.int (0 : Int32)), .val (.ref x1), .val (.int (1 : Int32)), .val (.int (2 : Int32)), .val (.ref ds), .val (.ref x1), .val (.int (2 : Int32)), .val (.int (0 : Int32)), .val (.int u0)] [(.int ((128 : Int32) ||| (u0 &&& (63 : Int32)))), (.int (1 : Int32)), (.ref ds)])) _
    refine XS.i2b X4.here hx rfl (hb hby d18_104) rfl ?_
    show Steps p.tables e below (T4.setTop (mkF m 105 #[.val (.int (0 : Int32)), .val (.ref x1), .val (.int (1 : Int32)), .val (.int (2 : Int32)), .val (.ref ds), .val (.ref x1), .val (.int (2 : Int32)), .val (.int (0 : Int32)), .val (.int u0)] [(.int (((128 : Int32) ||| (u0 &&& (63 : Int32))).toInt8.toInt32)), (.int (1 : Int32)), (.ref ds)])) _
    refine st6 _ ?_
    show Steps p.tables e below (T6.setTop (mkF m 106 #[.val (.int (0 : Int32)), .val (.ref x1), .val (.int (1 : Int32)), .val (.int (2 : Int32)), .val (.ref ds), .val (.ref x1), .val (.int (2 : Int32)), .val (.int (0 : Int32)), .val (.int u0)] [])) _
    refine XS.goto X6.here hx rfl (pc0 := 106) (pc' := 118) rfl (hb hby d18_106) (by decide) (by decide) ?_
    show Steps p.tables e below (T6.setTop (mkF m 118 #[.val (.int (0 : Int32)), .val (.ref x1), .val (.int (1 : Int32)), .val (.int (2 : Int32)), .val (.ref ds), .val (.ref x1), .val (.int (2 : Int32)), .val (.int (0 : Int32)), .val (.int u0)] [])) _
    refine XS.iinc X6.here hx rfl (hb hby d18_118) rfl (l' := #[.val (.int (0 : Int32)), .val (.ref x1), .val (.int (1 : Int32)), .val (.int (2 : Int32)), .val (.ref ds), .val (.ref x1), .val (.int (2 : Int32)), .val (.int ((0 : Int32) + (1 : Int32))), .val (.int u0)]) rfl ?_
    show Steps p.tables e below (T6.setTop (mkF m 121 #[.val (.int (0 : Int32)), .val (.ref x1), .val (.int (1 : Int32)), .val (.int (2 : Int32)), .val (.ref ds), .val (.ref x1), .val (.int (2 : Int32)), .val (.int ((0 : Int32) + (1 : Int32))), .val (.int u0)] [])) _
    rw [show ((0 : Int32) + (1 : Int32)) = (1 : Int32) from by decide]
    show Steps p.tables e below (T6.setTop (mkF m 121 #[.val (.int (0 : Int32)), .val (.ref x1), .val (.int (1 : Int32)), .val (.int (2 : Int32)), .val (.ref ds), .val (.ref x1), .val (.int (2 : Int32)), .val (.int (1 : Int32)), .val (.int u0)] [])) _
    refine XS.goto X6.here hx rfl (pc0 := 121) (pc' := 49) rfl (hb hby d18_121) (by decide) (by decide) ?_
    show Steps p.tables e below (T6.setTop (mkF m 49 #[.val (.int (0 : Int32)), .val (.ref x1), .val (.int (1 : Int32)), .val (.int (2 : Int32)), .val (.ref ds), .val (.ref x1), .val (.int (2 : Int32)), .val (.int (1 : Int32)), .val (.int u0)] [])) _
    refine XS.iload X6.here hx rfl (hb hby d18_49) rfl ?_
    show Steps p.tables e below (T6.setTop (mkF m 51 #[.val (.int (0 : Int32)), .val (.ref x1), .val (.int (1 : Int32)), .val (.int (2 : Int32)), .val (.ref ds), .val (.ref x1), .val (.int (2 : Int32)), .val (.int (1 : Int32)), .val (.int u0)] [(.int (1 : Int32))])) _
    refine XS.iload X6.here hx rfl (hb hby d18_51) rfl ?_
    show Steps p.tables e below (T6.setTop (mkF m 53 #[.val (.int (0 : Int32)), .val (.ref x1), .val (.int (1 : Int32)), .val (.int (2 : Int32)), .val (.ref ds), .val (.ref x1), .val (.int (2 : Int32)), .val (.int (1 : Int32)), .val (.int u0)] [(.int (2 : Int32)), (.int (1 : Int32))])) _
    refine XS.icmpNo X6.here hx rfl (hb hby d18_53) rfl (tlt (by decide : (1 : Int32) < (2 : Int32))).2.1 ?_
    show Steps p.tables e below (T6.setTop (mkF m 56 #[.val (.int (0 : Int32)), .val (.ref x1), .val (.int (1 : Int32)), .val (.int (2 : Int32)), .val (.ref ds), .val (.ref x1), .val (.int (2 : Int32)), .val (.int (1 : Int32)), .val (.int u0)] [])) _
    refine XS.aload X6.here hx rfl (hb hby d18_56) rfl rfl ?_
    show Steps p.tables e below (T6.setTop (mkF m 58 #[.val (.int (0 : Int32)), .val (.ref x1), .val (.int (1 : Int32)), .val (.int (2 : Int32)), .val (.ref ds), .val (.ref x1), .val (.int (2 : Int32)), .val (.int (1 : Int32)), .val (.int u0)] [(.ref x1)])) _
    refine XS.iload X6.here hx rfl (hb hby d18_58) rfl ?_
    show Steps p.tables e below (T6.setTop (mkF m 60 #[.val (.int (0 : Int32)), .val (.ref x1), .val (.int (1 : Int32)), .val (.int (2 : Int32)), .val (.ref ds), .val (.ref x1), .val (.int (2 : Int32)), .val (.int (1 : Int32)), .val (.int u0)] [(.int (1 : Int32)), (.ref x1)])) _
    refine own_ldB X6 hx hZ e6 V_x1_7 (j := (1 : Int32)) (w := u1) ⟨by decide, by decide⟩ rfl (g := (mkF m 60 #[.val (.int (0 : Int32)), .val (.ref x1), .val (.int (1 : Int32)), .val (.int (2 : Int32)), .val (.ref ds), .val (.ref x1), .val (.int (2 : Int32)), .val (.int (1 : Int32)), .val (.int u0)] [(.int (1 : Int32)), (.ref x1)])) rfl rfl (hb hby d18_60) ?_
    show Steps p.tables e below (T6.setTop (mkF m 61 #[.val (.int (0 : Int32)), .val (.ref x1), .val (.int (1 : Int32)), .val (.int (2 : Int32)), .val (.ref ds), .val (.ref x1), .val (.int (2 : Int32)), .val (.int (1 : Int32)), .val (.int u0)] [(.int u1)])) _
    refine XS.istore X6.here hx rfl (hb hby d18_61) rfl (l' := #[.val (.int (0 : Int32)), .val (.ref x1), .val (.int (1 : Int32)), .val (.int (2 : Int32)), .val (.ref ds), .val (.ref x1), .val (.int (2 : Int32)), .val (.int (1 : Int32)), .val (.int u1)]) rfl ?_
    show Steps p.tables e below (T6.setTop (mkF m 63 #[.val (.int (0 : Int32)), .val (.ref x1), .val (.int (1 : Int32)), .val (.int (2 : Int32)), .val (.ref ds), .val (.ref x1), .val (.int (2 : Int32)), .val (.int (1 : Int32)), .val (.int u1)] [])) _
    refine XS.iload X6.here hx rfl (hb hby d18_63) rfl ?_
    show Steps p.tables e below (T6.setTop (mkF m 65 #[.val (.int (0 : Int32)), .val (.ref x1), .val (.int (1 : Int32)), .val (.int (2 : Int32)), .val (.ref ds), .val (.ref x1), .val (.int (2 : Int32)), .val (.int (1 : Int32)), .val (.int u1)] [(.int u1)])) _
    refine XS.ifNo X6.here hx rfl (hb hby d18_65) rfl ((if0 _ _).trans (tlt hs1).2.1) ?_
    show Steps p.tables e below (T6.setTop (mkF m 68 #[.val (.int (0 : Int32)), .val (.ref x1), .val (.int (1 : Int32)), .val (.int (2 : Int32)), .val (.ref ds), .val (.ref x1), .val (.int (2 : Int32)), .val (.int (1 : Int32)), .val (.int u1)] [])) _
    refine XS.aload X6.here hx rfl (hb hby d18_68) rfl rfl ?_
    show Steps p.tables e below (T6.setTop (mkF m 70 #[.val (.int (0 : Int32)), .val (.ref x1), .val (.int (1 : Int32)), .val (.int (2 : Int32)), .val (.ref ds), .val (.ref x1), .val (.int (2 : Int32)), .val (.int (1 : Int32)), .val (.int u1)] [(.ref ds)])) _
    refine XS.iloadN X6.here hx rfl (hb hby d18_70) rfl ?_
    show Steps p.tables e below (T6.setTop (mkF m 71 #[.val (.int (0 : Int32)), .val (.ref x1), .val (.int (1 : Int32)), .val (.int (2 : Int32)), .val (.ref ds), .val (.ref x1), .val (.int (2 : Int32)), .val (.int (1 : Int32)), .val (.int u1)] [(.int (2 : Int32)), (.ref ds)])) _
    refine XS.iinc X6.here hx rfl (hb hby d18_71) rfl (l' := #[.val (.int (0 : Int32)), .val (.ref x1), .val (.int (1 : Int32)), .val (.int ((2 : Int32) + (1 : Int32))), .val (.ref ds), .val (.ref x1), .val (.int (2 : Int32)), .val (.int (1 : Int32)), .val (.int u1)]) rfl ?_
    show Steps p.tables e below (T6.setTop (mkF m 74 #[.val (.int (0 : Int32)), .val (.ref x1), .val (.int (1 : Int32)), .val (.int ((2 : Int32) + (1 : Int32))), .val (.ref ds), .val (.ref x1), .val (.int (2 : Int32)), .val (.int (1 : Int32)), .val (.int u1)] [(.int (2 : Int32)), (.ref ds)])) _
    rw [show ((2 : Int32) + (1 : Int32)) = (3 : Int32) from by decide]
    show Steps p.tables e below (T6.setTop (mkF m 74 #[.val (.int (0 : Int32)), .val (.ref x1), .val (.int (1 : Int32)), .val (.int (3 : Int32)), .val (.ref ds), .val (.ref x1), .val (.int (2 : Int32)), .val (.int (1 : Int32)), .val (.int u1)] [(.int (2 : Int32)), (.ref ds)])) _
    refine XS.sipush X6.here hx rfl (hb hby d18_74) ?_
    show Steps p.tables e below (T6.setTop (mkF m 77 #[.val (.int (0 : Int32)), .val (.ref x1), .val (.int (1 : Int32)), .val (.int (3 : Int32)), .val (.ref ds), .val (.ref x1), .val (.int (2 : Int32)), .val (.int (1 : Int32)), .val (.int u1)] [(.int (192 : Int32)), (.int (2 : Int32)), (.ref ds)])) _
    refine XS.iload X6.here hx rfl (hb hby d18_77) rfl ?_
    show Steps p.tables e below (T6.setTop (mkF m 79 #[.val (.int (0 : Int32)), .val (.ref x1), .val (.int (1 : Int32)), .val (.int (3 : Int32)), .val (.ref ds), .val (.ref x1), .val (.int (2 : Int32)), .val (.int (1 : Int32)), .val (.int u1)] [(.int u1), (.int (192 : Int32)), (.int (2 : Int32)), (.ref ds)])) _
    refine XS.sipush X6.here hx rfl (hb hby d18_79) ?_
    show Steps p.tables e below (T6.setTop (mkF m 82 #[.val (.int (0 : Int32)), .val (.ref x1), .val (.int (1 : Int32)), .val (.int (3 : Int32)), .val (.ref ds), .val (.ref x1), .val (.int (2 : Int32)), .val (.int (1 : Int32)), .val (.int u1)] [(.int (255 : Int32)), (.int u1), (.int (192 : Int32)), (.int (2 : Int32)), (.ref ds)])) _
    refine XS.iand X6.here hx rfl (hb hby d18_82) rfl ?_
    show Steps p.tables e below (T6.setTop (mkF m 83 #[.val (.int (0 : Int32)), .val (.ref x1), .val (.int (1 : Int32)), .val (.int (3 : Int32)), .val (.ref ds), .val (.ref x1), .val (.int (2 : Int32)), .val (.int (1 : Int32)), .val (.int u1)] [(.int (u1 &&& (255 : Int32))), (.int (192 : Int32)), (.int (2 : Int32)), (.ref ds)])) _
    refine XS.bipush X6.here hx rfl (hb hby d18_83) ?_
    show Steps p.tables e below (T6.setTop (mkF m 85 #[.val (.int (0 : Int32)), .val (.ref x1), .val (.int (1 : Int32)), .val (.int (3 : Int32)), .val (.ref ds), .val (.ref x1), .val (.int (2 : Int32)), .val (.int (1 : Int32)), .val (.int u1)] [(.int (6 : Int32)), (.int (u1 &&& (255 : Int32))), (.int (192 : Int32)), (.int (2 : Int32)), (.ref ds)])) _
    refine XS.ishr X6.here hx rfl (hb hby d18_85) rfl ?_
    show Steps p.tables e below (T6.setTop (mkF m 86 #[.val (.int (0 : Int32)), .val (.ref x1), .val (.int (1 : Int32)), .val (.int (3 : Int32)), .val (.ref ds), .val (.ref x1), .val (.int (2 : Int32)), .val (.int (1 : Int32)), .val (.int u1)] [(.int ((u1 &&& (255 : Int32)) >>> ((6 : Int32) &&& 31))), (.int (192 : Int32)), (.int (2 : Int32)), (.ref ds)])) _
    refine XS.ior X6.here hx rfl (hb hby d18_86) rfl ?_
    show Steps p.tables e below (T6.setTop (mkF m 87 #[.val (.int (0 : Int32)), .val (.ref x1), .val (.int (1 : Int32)), .val (.int (3 : Int32)), .val (.ref ds), .val (.ref x1), .val (.int (2 : Int32)), .val (.int (1 : Int32)), .val (.int u1)] [(.int ((192 : Int32) ||| ((u1 &&& (255 : Int32)) >>> ((6 : Int32) &&& 31)))), (.int (2 : Int32)), (.ref ds)])) _
    refine XS.i2b X6.here hx rfl (hb hby d18_87) rfl ?_
    show Steps p.tables e below (T6.setTop (mkF m 88 #[.val (.int (0 : Int32)), .val (.ref x1), .val (.int (1 : Int32)), .val (.int (3 : Int32)), .val (.ref ds), .val (.ref x1), .val (.int (2 : Int32)), .val (.int (1 : Int32)), .val (.int u1)] [(.int (((192 : Int32) ||| ((u1 &&& (255 : Int32)) >>> ((6 : Int32) &&& 31))).toInt8.toInt32)), (.int (2 : Int32)), (.ref ds)])) _
    refine st8 _ ?_
    show Steps p.tables e below (T8.setTop (mkF m 89 #[.val (.int (0 : Int32)), .val (.ref x1), .val (.int (1 : Int32)), .val (.int (3 : Int32)), .val (.ref ds), .val (.ref x1), .val (.int (2 : Int32)), .val (.int (1 : Int32)), .val (.int u1)] [])) _
    refine XS.aload X8.here hx rfl (hb hby d18_89) rfl rfl ?_
    show Steps p.tables e below (T8.setTop (mkF m 91 #[.val (.int (0 : Int32)), .val (.ref x1), .val (.int (1 : Int32)), .val (.int (3 : Int32)), .val (.ref ds), .val (.ref x1), .val (.int (2 : Int32)), .val (.int (1 : Int32)), .val (.int u1)] [(.ref ds)])) _
    refine XS.iloadN X8.here hx rfl (hb hby d18_91) rfl ?_
    show Steps p.tables e below (T8.setTop (mkF m 92 #[.val (.int (0 : Int32)), .val (.ref x1), .val (.int (1 : Int32)), .val (.int (3 : Int32)), .val (.ref ds), .val (.ref x1), .val (.int (2 : Int32)), .val (.int (1 : Int32)), .val (.int u1)] [(.int (3 : Int32)), (.ref ds)])) _
    refine XS.iinc X8.here hx rfl (hb hby d18_92) rfl (l' := #[.val (.int (0 : Int32)), .val (.ref x1), .val (.int (1 : Int32)), .val (.int ((3 : Int32) + (1 : Int32))), .val (.ref ds), .val (.ref x1), .val (.int (2 : Int32)), .val (.int (1 : Int32)), .val (.int u1)]) rfl ?_
    show Steps p.tables e below (T8.setTop (mkF m 95 #[.val (.int (0 : Int32)), .val (.ref x1), .val (.int (1 : Int32)), .val (.int ((3 : Int32) + (1 : Int32))), .val (.ref ds), .val (.ref x1), .val (.int (2 : Int32)), .val (.int (1 : Int32)), .val (.int u1)] [(.int (3 : Int32)), (.ref ds)])) _
    rw [show ((3 : Int32) + (1 : Int32)) = (4 : Int32) from by decide]
    show Steps p.tables e below (T8.setTop (mkF m 95 #[.val (.int (0 : Int32)), .val (.ref x1), .val (.int (1 : Int32)), .val (.int (4 : Int32)), .val (.ref ds), .val (.ref x1), .val (.int (2 : Int32)), .val (.int (1 : Int32)), .val (.int u1)] [(.int (3 : Int32)), (.ref ds)])) _
    refine XS.sipush X8.here hx rfl (hb hby d18_95) ?_
    show Steps p.tables e below (T8.setTop (mkF m 98 #[.val (.int (0 : Int32)), .val (.ref x1), .val (.int (1 : Int32)), .val (.int (4 : Int32)), .val (.ref ds), .val (.ref x1), .val (.int (2 : Int32)), .val (.int (1 : Int32)), .val (.int u1)] [(.int (128 : Int32)), (.int (3 : Int32)), (.ref ds)])) _
    refine XS.iload X8.here hx rfl (hb hby d18_98) rfl ?_
    show Steps p.tables e below (T8.setTop (mkF m 100 #[.val (.int (0 : Int32)), .val (.ref x1), .val (.int (1 : Int32)), .val (.int (4 : Int32)), .val (.ref ds), .val (.ref x1), .val (.int (2 : Int32)), .val (.int (1 : Int32)), .val (.int u1)] [(.int u1), (.int (128 : Int32)), (.int (3 : Int32)), (.ref ds)])) _
    refine XS.bipush X8.here hx rfl (hb hby d18_100) ?_
    show Steps p.tables e below (T8.setTop (mkF m 102 #[.val (.int (0 : Int32)), .val (.ref x1), .val (.int (1 : Int32)), .val (.int (4 : Int32)), .val (.ref ds), .val (.ref x1), .val (.int (2 : Int32)), .val (.int (1 : Int32)), .val (.int u1)] [(.int (63 : Int32)), (.int u1), (.int (128 : Int32)), (.int (3 : Int32)), (.ref ds)])) _
    refine XS.iand X8.here hx rfl (hb hby d18_102) rfl ?_
    show Steps p.tables e below (T8.setTop (mkF m 103 #[.val (.int (0 : Int32)), .val (.ref x1), .val (.int (1 : Int32)), .val (.int (4 : Int32)), .val (.ref ds), .val (.ref x1), .val (.int (2 : Int32)), .val (.int (1 : Int32)), .val (.int u1)] [(.int (u1 &&& (63 : Int32))), (.int (128 : Int32)), (.int (3 : Int32)), (.ref ds)])) _
    refine XS.ior X8.here hx rfl (hb hby d18_103) rfl ?_
    show Steps p.tables e below (T8.setTop (mkF m 104 #[.val (.int (0 : Int32)), .val (.ref x1), .val (.int (1 : Int32)), .val (.int (4 : Int32)), .val (.ref ds), .val (.ref x1), .val (.int (2 : Int32)), .val (.int (1 : Int32)), .val (.int u1)] [(.int ((128 : Int32) ||| (u1 &&& (63 : Int32)))), (.int (3 : Int32)), (.ref ds)])) _
    refine XS.i2b X8.here hx rfl (hb hby d18_104) rfl ?_
    show Steps p.tables e below (T8.setTop (mkF m 105 #[.val (.int (0 : Int32)), .val (.ref x1), .val (.int (1 : Int32)), .val (.int (4 : Int32)), .val (.ref ds), .val (.ref x1), .val (.int (2 : Int32)), .val (.int (1 : Int32)), .val (.int u1)] [(.int (((128 : Int32) ||| (u1 &&& (63 : Int32))).toInt8.toInt32)), (.int (3 : Int32)), (.ref ds)])) _
    refine st10 _ ?_
    show Steps p.tables e below (T10.setTop (mkF m 106 #[.val (.int (0 : Int32)), .val (.ref x1), .val (.int (1 : Int32)), .val (.int (4 : Int32)), .val (.ref ds), .val (.ref x1), .val (.int (2 : Int32)), .val (.int (1 : Int32)), .val (.int u1)] [])) _
    refine XS.goto X10.here hx rfl (pc0 := 106) (pc' := 118) rfl (hb hby d18_106) (by decide) (by decide) ?_
    show Steps p.tables e below (T10.setTop (mkF m 118 #[.val (.int (0 : Int32)), .val (.ref x1), .val (.int (1 : Int32)), .val (.int (4 : Int32)), .val (.ref ds), .val (.ref x1), .val (.int (2 : Int32)), .val (.int (1 : Int32)), .val (.int u1)] [])) _
    refine XS.iinc X10.here hx rfl (hb hby d18_118) rfl (l' := #[.val (.int (0 : Int32)), .val (.ref x1), .val (.int (1 : Int32)), .val (.int (4 : Int32)), .val (.ref ds), .val (.ref x1), .val (.int (2 : Int32)), .val (.int ((1 : Int32) + (1 : Int32))), .val (.int u1)]) rfl ?_
    show Steps p.tables e below (T10.setTop (mkF m 121 #[.val (.int (0 : Int32)), .val (.ref x1), .val (.int (1 : Int32)), .val (.int (4 : Int32)), .val (.ref ds), .val (.ref x1), .val (.int (2 : Int32)), .val (.int ((1 : Int32) + (1 : Int32))), .val (.int u1)] [])) _
    rw [show ((1 : Int32) + (1 : Int32)) = (2 : Int32) from by decide]
    show Steps p.tables e below (T10.setTop (mkF m 121 #[.val (.int (0 : Int32)), .val (.ref x1), .val (.int (1 : Int32)), .val (.int (4 : Int32)), .val (.ref ds), .val (.ref x1), .val (.int (2 : Int32)), .val (.int (2 : Int32)), .val (.int u1)] [])) _
    refine XS.goto X10.here hx rfl (pc0 := 121) (pc' := 49) rfl (hb hby d18_121) (by decide) (by decide) ?_
    show Steps p.tables e below (T10.setTop (mkF m 49 #[.val (.int (0 : Int32)), .val (.ref x1), .val (.int (1 : Int32)), .val (.int (4 : Int32)), .val (.ref ds), .val (.ref x1), .val (.int (2 : Int32)), .val (.int (2 : Int32)), .val (.int u1)] [])) _
    refine XS.iload X10.here hx rfl (hb hby d18_49) rfl ?_
    show Steps p.tables e below (T10.setTop (mkF m 51 #[.val (.int (0 : Int32)), .val (.ref x1), .val (.int (1 : Int32)), .val (.int (4 : Int32)), .val (.ref ds), .val (.ref x1), .val (.int (2 : Int32)), .val (.int (2 : Int32)), .val (.int u1)] [(.int (2 : Int32))])) _
    refine XS.iload X10.here hx rfl (hb hby d18_51) rfl ?_
    show Steps p.tables e below (T10.setTop (mkF m 53 #[.val (.int (0 : Int32)), .val (.ref x1), .val (.int (1 : Int32)), .val (.int (4 : Int32)), .val (.ref ds), .val (.ref x1), .val (.int (2 : Int32)), .val (.int (2 : Int32)), .val (.int u1)] [(.int (2 : Int32)), (.int (2 : Int32))])) _
    refine XS.icmpYes X10.here hx rfl (pc0 := 53) (pc' := 124) rfl (hb hby d18_53) rfl (flt (by decide : ¬ ((2 : Int32) < (2 : Int32)))).2.1 (by decide) (by decide) ?_
    show Steps p.tables e below (T10.setTop (mkF m 124 #[.val (.int (0 : Int32)), .val (.ref x1), .val (.int (1 : Int32)), .val (.int (4 : Int32)), .val (.ref ds), .val (.ref x1), .val (.int (2 : Int32)), .val (.int (2 : Int32)), .val (.int u1)] [])) _
    refine XS.iloadN X10.here hx rfl (hb hby d18_124) rfl ?_
    show Steps p.tables e below (T10.setTop (mkF m 125 #[.val (.int (0 : Int32)), .val (.ref x1), .val (.int (1 : Int32)), .val (.int (4 : Int32)), .val (.ref ds), .val (.ref x1), .val (.int (2 : Int32)), .val (.int (2 : Int32)), .val (.int u1)] [(.int (4 : Int32))])) _
    refine XS.aload X10.here hx rfl (hb hby d18_125) rfl rfl ?_
    show Steps p.tables e below (T10.setTop (mkF m 127 #[.val (.int (0 : Int32)), .val (.ref x1), .val (.int (1 : Int32)), .val (.int (4 : Int32)), .val (.ref ds), .val (.ref x1), .val (.int (2 : Int32)), .val (.int (2 : Int32)), .val (.int u1)] [(.ref ds), (.int (4 : Int32))])) _
    refine own_len X10 hx hZ e10 V_ds_10 (g := (mkF m 127 #[.val (.int (0 : Int32)), .val (.ref x1), .val (.int (1 : Int32)), .val (.int (4 : Int32)), .val (.ref ds), .val (.ref x1), .val (.int (2 : Int32)), .val (.int (2 : Int32)), .val (.int u1)] [(.ref ds), (.int (4 : Int32))])) rfl rfl (hb hby d18_127) ?_
    show Steps p.tables e below (T10.setTop (mkF m 128 #[.val (.int (0 : Int32)), .val (.ref x1), .val (.int (1 : Int32)), .val (.int (4 : Int32)), .val (.ref ds), .val (.ref x1), .val (.int (2 : Int32)), .val (.int (2 : Int32)), .val (.int u1)] [(.int (4 : Int32)), (.int (4 : Int32))])) _
    refine XS.icmpNo X10.here hx rfl (hb hby d18_128) rfl (teq (by decide : (4 : Int32) = (4 : Int32))).2 ?_
    show Steps p.tables e below (T10.setTop (mkF m 131 #[.val (.int (0 : Int32)), .val (.ref x1), .val (.int (1 : Int32)), .val (.int (4 : Int32)), .val (.ref ds), .val (.ref x1), .val (.int (2 : Int32)), .val (.int (2 : Int32)), .val (.int u1)] [])) _
    refine XS.aload X10.here hx rfl (hb hby d18_131) rfl rfl ?_
    show Steps p.tables e below (T10.setTop (mkF m 133 #[.val (.int (0 : Int32)), .val (.ref x1), .val (.int (1 : Int32)), .val (.int (4 : Int32)), .val (.ref ds), .val (.ref x1), .val (.int (2 : Int32)), .val (.int (2 : Int32)), .val (.int u1)] [(.ref ds)])) _
    exact retOut X10 hx (t := (.array .byte)) (i := .areturn) Bd.returns rfl (Or.inr (Or.inr (Or.inr (Or.inr ⟨rfl, rfl, rfl⟩)))) (hb hby d18_133) hr
  · exact (by
      have eT : (T10.setFrames fs).heap = h10 := e10
      rw [eT]; exact ⟨ds, rfl, N10, keep_11⟩)
theorem rmu (l : Launch) (Z : State) (a0 : Array Value) (hw : ∀ d ∈ tables_1, d.before a0 Z = true) (ws : List Jvm.Cond) (x1 : Addr) (k1 : ClassId) (u0 u1 : Int32) (h0 : Heap) (n0 : Nat) (Z0 : n0 ≤ h0.size) (V_x1 : Arv Z h0 x1 k1 .byte (2 : Int32) [(.int u0), (.int u1)] (.int (0 : Int32))) (E_x1 : Exa Z h0 x1 "[B") :
    MetFree l (⟨"java/lang/String", "encodeUTF8", "(B[BZ)[B"⟩ : MethodName) (head1 (Jvm.Cond.code (⟨"java/lang/String", "encodeUTF8", "(B[BZ)[B"⟩ : MethodName) jdk_42_method_46_code 9 (some (.array .byte)) :: ws) ({ frames := 2, cells := 2, slots := 7, locals := 74 } : Room)) (fun a U => a = #[(.int (0 : Int32)), (.ref x1), (.int (1 : Int32))] ∧ Z.Warmed39 U.vm ∧ U.heap = h0) (fun _ _ _ _ _ => True) (fun _ U o U' => ∃ v L, o = .returned v ∧ (QR Z h0 n0 v U'.heap L) ∧ FrameEnd U o U' L ({ frames := 2, cells := 2, slots := 7, locals := 74 } : Room).cells ({ frames := 2, cells := 2, slots := 7, locals := 74 } : Room).slots) := by
  by_cases q0 : u0 < (0 : Int32)
  · by_cases q1 : u1 < (0 : Int32)
    · exact rmu_11 l Z a0 hw ws x1 k1 u0 u1 h0 n0 Z0 V_x1 E_x1 q0 q1
    · exact rmu_10 l Z a0 hw ws x1 k1 u0 u1 h0 n0 Z0 V_x1 E_x1 q0 q1
  · by_cases q1 : u1 < (0 : Int32)
    · exact rmu_01 l Z a0 hw ws x1 k1 u0 u1 h0 n0 Z0 V_x1 E_x1 q0 q1
    · exact rmu_00 l Z a0 hw ws x1 k1 u0 u1 h0 n0 Z0 V_x1 E_x1 q0 q1
theorem pd__B_BZ__B : parseMethodDescriptor "(B[BZ)[B" = some ⟨[.byte, (.array .byte), .boolean], some (.array .byte)⟩ := by decide +kernel
set_option maxRecDepth 65536 in
set_option maxHeartbeats 40000000 in
theorem rm17 (l : Launch) (Z : State) (a0 : Array Value) (hw : ∀ d ∈ tables_1, d.before a0 Z = true) (ws : List Jvm.Cond) (x2 : Addr) (u8 : Addr) (k2 : ClassId) (u0 u1 : Int32) (h0 : Heap) (n0 : Nat) (Z0 : n0 ≤ h0.size) (V_x2 : Arv Z h0 x2 k2 .byte (2 : Int32) [(.int u0), (.int u1)] (.int (0 : Int32))) (E_x2 : Exa Z h0 x2 "[B") (O0 : Old Z n0 h0) (S_IN : Sta Z Z.heap "sun/nio/cs/UTF_8" "INSTANCE" "Lsun/nio/cs/UTF_8;" (.ref u8)) :
    MetFree l (⟨"java/lang/String", "encode", "(Ljava/nio/charset/Charset;B[B)[B"⟩ : MethodName) (head1 (Jvm.Cond.code (⟨"java/lang/String", "encode", "(Ljava/nio/charset/Charset;B[B)[B"⟩ : MethodName) jdk_42_method_18_code 3 (some (.array .byte)) :: ws) ({ frames := 3, cells := 2, slots := 7, locals := 94 } : Room)) (fun a U => a = #[(.ref u8), (.int (0 : Int32)), (.ref x2)] ∧ Z.Warmed39 U.vm ∧ U.heap = h0) (fun _ _ _ _ _ => True) (fun _ U o U' => ∃ v L, o = .returned v ∧ (QR Z h0 n0 v U'.heap L) ∧ FrameEnd U o U' L ({ frames := 3, cells := 2, slots := 7, locals := 94 } : Room).cells ({ frames := 3, cells := 2, slots := 7, locals := 94 } : Room).slots) := by
  refine MetFree.of_bodySF (plainFor_of_name pn_17) hisR ?_
  intro p e s m args below meth c s₁ Bd hml0 hP hK
  obtain ⟨rfl, hZ, hh⟩ := hP
  have hx := Bd.exec
  have hby := Bd.bytes
  have hml : c.maxLocals = 3 := hml0
  have hown : s.vm.findClass "java/lang/String" = some m.cls := findClass_of_methodNamed Bd.named
  have hnm := (name_of_methodNamed Bd.named Bd.method).1
  have X0 : Stand p l e ({ frames := 3, cells := 2, slots := 7, locals := 94 } : Room) s m #[(.ref u8), (.int (0 : Int32)), (.ref x2)] below meth c s₁ [] 0 0 := Stand.of_body Bd
  have e0 : s₁.heap = h0 := by rw [← hh, Bd.state]; rfl
  have N0 := Fr.nil n0
  have pre0 : ∀ t, Steps p.tables e below (s₁.setTop (mkF m 0 #[.val (.ref u8), .val (.int (0 : Int32)), .val (.ref x2)] [])) t → Steps p.tables e below (s₁.setTop (entryFrame m #[(.ref u8), (.int (0 : Int32)), (.ref x2)] 3)) t := fun t k => castTop (ef_17 m u8 (0 : Int32) x2) k
  have K0 : Keep h0 h0 [] := Keep.refl h0 []
  obtain ⟨T1, X1, e1, st1⟩ := getS2 X0 hx hZ hown (host := "") (Or.inl (hw _ (List.mem_of_getElem? (i := 93) rfl))) Via.refl e0 (own_Sta_old S_IN O0) (g := (mkF m 1 #[.val (.ref u8), .val (.int (0 : Int32)), .val (.ref x2)] [(.ref u8)])) rfl (hb hby d17_1)
  obtain ⟨_, _, ⟨T2, L2, k2, n2⟩, -, X2, ⟨Lc2, hQ2, l2, y2, z2⟩, st2⟩ := Jvm.LawKit.callS X1 hx (y := (⟨"java/lang/String", "encodeUTF8", "(B[BZ)[B"⟩ : MethodName)) hown (mvT hZ (hw _ (List.mem_of_getElem? (i := 95) rfl))) (mvT hZ (hw _ (List.mem_of_getElem? (i := 96) rfl))) (mvT hZ (hw _ (List.mem_of_getElem? (i := 4) rfl))) (mvT hZ (hw _ (List.mem_of_getElem? (i := 97) rfl))) (by decide) (backOf (W := 0) (rmu l Z a0 hw [] x2 k2 u0 u1 h0 n0 Z0 V_x2 E_x2) hZ (hw _ (List.mem_of_getElem? (i := 97) rfl)) (hw _ (List.mem_of_getElem? (i := 4) rfl)) (by decide) (by decide)) (g := (mkF m 10 #[.val (.ref u8), .val (.int (0 : Int32)), .val (.ref x2)] [(.int (1 : Int32)), (.ref x2), (.int (0 : Int32))])) rfl (by rw [hml]; rfl) (argsL := [(.int (0 : Int32)), (.ref x2), (.int (1 : Int32))]) (rest := []) (lenOf pd__B_BZ__B rfl) rfl (by show 2 * 0 + _ ≤ _; exact Nat.le_of_eq rfl) (hb hby d17_10) (fun _ _ => ⟨rfl, e1, (by decide : 0 + 2 ≤ _), (by decide : 0 + 7 ≤ _)⟩)
  dsimp only [Pt.U, Pt.locs, Pt.cells, Pt.slots] at X2 l2 y2 z2 st2 hQ2
  subst l2 y2 z2
  obtain ⟨rr, rfl, N2q, K2⟩ := hQ2
  have keep_3 : Keep h0 T2.heap [] := K0.trans K2 (all0)
  have V_x2_3 : Arv Z T2.heap x2 k2 .byte (2 : Int32) [(.int u0), (.int u1)] (.int (0 : Int32)) := V_x2.keep K2 nin0
  have E_x2_3 : Exa Z T2.heap x2 "[B" := E_x2.keep K2
  have old_3 : Old Z n0 T2.heap := O0.keep K2 (all0)
  have siz_3 : n0 ≤ T2.heap.size := Nat.le_trans Z0 K2.1
  have N2 := Fr.app N0 N2q
  obtain ⟨fs, hr, hrun, hended, hW, hsame⟩ := X2.leave (v := some (.ref rr)) (fun h => by rw [Bd.returns] at h; cases h)
  refine ⟨_, _, pre0 _ ?_, hrun, hended, _, _, rfl, ?_, ⟨_, rfl⟩, hW, hsame.mono (by decide) (by decide)⟩
  · show Steps p.tables e below (s₁.setTop (mkF m 0 #[.val (.ref u8), .val (.int (0 : Int32)), .val (.ref x2)] [])) _
    refine XS.aloadN X0.here hx rfl (hb hby d17_0) rfl rfl ?_
    show Steps p.tables e below (s₁.setTop (mkF m 1 #[.val (.ref u8), .val (.int (0 : Int32)), .val (.ref x2)] [(.ref u8)])) _
    refine st1 _ ?_
    show Steps p.tables e below (T1.setTop (mkF m 4 #[.val (.ref u8), .val (.int (0 : Int32)), .val (.ref x2)] [(.ref u8), (.ref u8)])) _
    refine Jvm.RoadKit.acmp (g := (mkF m 4 #[.val (.ref u8), .val (.int (0 : Int32)), .val (.ref x2)] [(.ref u8), (.ref u8)])) X1 hx rfl rfl rfl (pc0 := 4) (pc' := 7) (same := true) rfl (hb hby d17_4) rfl (decide_eq_true rfl) (by decide) (by decide) ?_
    show Steps p.tables e below (T1.setTop (mkF m 7 #[.val (.ref u8), .val (.int (0 : Int32)), .val (.ref x2)] [])) _
    refine XS.iloadN X1.here hx rfl (hb hby d17_7) rfl ?_
    show Steps p.tables e below (T1.setTop (mkF m 8 #[.val (.ref u8), .val (.int (0 : Int32)), .val (.ref x2)] [(.int (0 : Int32))])) _
    refine XS.aloadN X1.here hx rfl (hb hby d17_8) rfl rfl ?_
    show Steps p.tables e below (T1.setTop (mkF m 9 #[.val (.ref u8), .val (.int (0 : Int32)), .val (.ref x2)] [(.ref x2), (.int (0 : Int32))])) _
    refine XS.iconst X1.here hx rfl (hb hby d17_9) ?_
    show Steps p.tables e below (T1.setTop (mkF m 10 #[.val (.ref u8), .val (.int (0 : Int32)), .val (.ref x2)] [(.int (1 : Int32)), (.ref x2), (.int (0 : Int32))])) _
    refine st2 _ ?_
    show Steps p.tables e below (T2.setTop (mkF m 13 #[.val (.ref u8), .val (.int (0 : Int32)), .val (.ref x2)] [(.ref rr)])) _
    exact retOut X2 hx (t := (.array .byte)) (i := .areturn) Bd.returns rfl (Or.inr (Or.inr (Or.inr (Or.inr ⟨rfl, rfl, rfl⟩)))) (hb hby d17_13) hr
  · exact (by
      have eT : (T2.setFrames fs).heap = T2.heap := rfl
      rw [eT]; exact ⟨rr, rfl, N2, keep_3⟩)
set_option maxRecDepth 65536 in
set_option maxHeartbeats 40000000 in
theorem rm16 (l : Launch) (Z : State) (a0 : Array Value) (hw : ∀ d ∈ tables_1, d.before a0 Z = true) (ws : List Jvm.Cond) (x0 : Addr) (cs : Int32) (h0 : Heap) (n0 : Nat) (Z0 : n0 ≤ h0.size) (F_coder_x0 : Fld Z h0 x0 "java/lang/String" "coder" "B" (.int (0 : Int32))) (O0 : Old Z n0 h0) (S_CS : Sta Z Z.heap "java/lang/String" "COMPACT_STRINGS" "Z" (.int cs)) (hcs : ¬ (cs = (0 : Int32))) :
    MetFree l (⟨"java/lang/String", "coder", "()B"⟩ : MethodName) (head1 (Jvm.Cond.code (⟨"java/lang/String", "coder", "()B"⟩ : MethodName) jdk_42_method_152_code 1 (some .byte) :: ws) ({ frames := 0, cells := 0, slots := 0, locals := 0 } : Room)) (fun a U => a = #[(.ref x0)] ∧ Z.Warmed39 U.vm ∧ U.heap = h0) (fun _ _ _ _ _ => True) (fun _ U o U' => ∃ v L, o = .returned v ∧ (QP (some (.int (0 : Int32))) h0 n0 v U'.heap L) ∧ FrameEnd U o U' L ({ frames := 0, cells := 0, slots := 0, locals := 0 } : Room).cells ({ frames := 0, cells := 0, slots := 0, locals := 0 } : Room).slots) := by
  refine MetFree.of_bodySF (plainFor_of_name pn_16) hisR ?_
  intro p e s m args below meth c s₁ Bd hml0 hP hK
  obtain ⟨rfl, hZ, hh⟩ := hP
  have hx := Bd.exec
  have hby := Bd.bytes
  have hml : c.maxLocals = 1 := hml0
  have hown : s.vm.findClass "java/lang/String" = some m.cls := findClass_of_methodNamed Bd.named
  have hnm := (name_of_methodNamed Bd.named Bd.method).1
  have X0 : Stand p l e ({ frames := 0, cells := 0, slots := 0, locals := 0 } : Room) s m #[(.ref x0)] below meth c s₁ [] 0 0 := Stand.of_body Bd
  have e0 : s₁.heap = h0 := by rw [← hh, Bd.state]; rfl
  have N0 := Fr.nil n0
  have pre0 : ∀ t, Steps p.tables e below (s₁.setTop (mkF m 0 #[.val (.ref x0)] [])) t → Steps p.tables e below (s₁.setTop (entryFrame m #[(.ref x0)] 1)) t := fun t k => castTop (ef_16 m x0) k
  obtain ⟨T1, X1, e1, st1⟩ := getS2 X0 hx hZ hown (host := "") (Or.inl (hw _ (List.mem_of_getElem? (i := 15) rfl))) Via.refl e0 (own_Sta_old S_CS O0) (g := (mkF m 0 #[.val (.ref x0)] [])) rfl (hb hby d16_0)
  obtain ⟨T2, X2, e2, st2⟩ := getF X1 hx hZ hown (host := "") (Or.inl (hw _ (List.mem_of_getElem? (i := 27) rfl))) Via.refl e1 F_coder_x0 (g := (mkF m 7 #[.val (.ref x0)] [(.ref x0)])) rfl rfl (hb hby d16_7)
  obtain ⟨fs, hr, hrun, hended, hW, hsame⟩ := X2.leave (v := some (.int (0 : Int32))) (fun h => by rw [Bd.returns] at h; cases h)
  refine ⟨_, _, pre0 _ ?_, hrun, hended, _, _, rfl, ?_, ⟨_, rfl⟩, hW, hsame.mono (by decide) (by decide)⟩
  · show Steps p.tables e below (s₁.setTop (mkF m 0 #[.val (.ref x0)] [])) _
    refine st1 _ ?_
    show Steps p.tables e below (T1.setTop (mkF m 3 #[.val (.ref x0)] [(.int cs)])) _
    refine XS.ifNo X1.here hx rfl (hb hby d16_3) rfl ((if0 _ _).trans (feq hcs).1) ?_
    show Steps p.tables e below (T1.setTop (mkF m 6 #[.val (.ref x0)] [])) _
    refine XS.aloadN X1.here hx rfl (hb hby d16_6) rfl rfl ?_
    show Steps p.tables e below (T1.setTop (mkF m 7 #[.val (.ref x0)] [(.ref x0)])) _
    refine st2 _ ?_
    show Steps p.tables e below (T2.setTop (mkF m 10 #[.val (.ref x0)] [(.int (0 : Int32))])) _
    refine XS.goto X2.here hx rfl (pc0 := 10) (pc' := 14) rfl (hb hby d16_10) (by decide) (by decide) ?_
    show Steps p.tables e below (T2.setTop (mkF m 14 #[.val (.ref x0)] [(.int (0 : Int32))])) _
    exact retN X2 hx (t := .byte) Bd.returns (by simp) (hb hby d16_14) hr
  · exact ⟨rfl, N0, e2⟩
theorem pd___B : parseMethodDescriptor "()B" = some ⟨[], some .byte⟩ := by decide +kernel
theorem pd__Ljava_nio_charset_Charset_B_B__B : parseMethodDescriptor "(Ljava/nio/charset/Charset;B[B)[B" = some ⟨[(.object "java/nio/charset/Charset"), .byte, (.array .byte)], some (.array .byte)⟩ := by decide +kernel
set_option maxRecDepth 65536 in
set_option maxHeartbeats 40000000 in
theorem rm15 (l : Launch) (Z : State) (a0 : Array Value) (hw : ∀ d ∈ tables_1, d.before a0 Z = true) (ws : List Jvm.Cond) (x0 : Addr) (u8 va : Addr) (kv : ClassId) (u0 u1 cs : Int32) (h0 : Heap) (n0 : Nat) (Z0 : n0 ≤ h0.size) (E_x0 : Exa Z h0 x0 "java/lang/String") (F_value_x0 : Fld Z h0 x0 "java/lang/String" "value" "[B" (.ref va)) (F_coder_x0 : Fld Z h0 x0 "java/lang/String" "coder" "B" (.int (0 : Int32))) (V_va : Arv Z h0 va kv .byte (2 : Int32) [(.int u0), (.int u1)] (.int (0 : Int32))) (E_va : Exa Z h0 va "[B") (O0 : Old Z n0 h0) (S_CS : Sta Z Z.heap "java/lang/String" "COMPACT_STRINGS" "Z" (.int cs)) (hcs : ¬ (cs = (0 : Int32))) (S_IN : Sta Z Z.heap "sun/nio/cs/UTF_8" "INSTANCE" "Lsun/nio/cs/UTF_8;" (.ref u8)) :
    MetFree l (⟨"java/lang/String", "getBytes", "(Ljava/nio/charset/Charset;)[B"⟩ : MethodName) (head1 (Jvm.Cond.code (⟨"java/lang/String", "getBytes", "(Ljava/nio/charset/Charset;)[B"⟩ : MethodName) jdk_42_method_64_code 2 (some (.array .byte)) :: ws) ({ frames := 4, cells := 2, slots := 7, locals := 110 } : Room)) (fun a U => a = #[(.ref x0), (.ref u8)] ∧ Z.Warmed39 U.vm ∧ U.heap = h0) (fun _ _ _ _ _ => True) (fun _ U o U' => ∃ v L, o = .returned v ∧ (QR Z h0 n0 v U'.heap L) ∧ FrameEnd U o U' L ({ frames := 4, cells := 2, slots := 7, locals := 110 } : Room).cells ({ frames := 4, cells := 2, slots := 7, locals := 110 } : Room).slots) := by
  refine MetFree.of_bodySF (plainFor_of_name pn_15) hisR ?_
  intro p e s m args below meth c s₁ Bd hml0 hP hK
  obtain ⟨rfl, hZ, hh⟩ := hP
  have hx := Bd.exec
  have hby := Bd.bytes
  have hml : c.maxLocals = 2 := hml0
  have hown : s.vm.findClass "java/lang/String" = some m.cls := findClass_of_methodNamed Bd.named
  have hnm := (name_of_methodNamed Bd.named Bd.method).1
  have X0 : Stand p l e ({ frames := 4, cells := 2, slots := 7, locals := 110 } : Room) s m #[(.ref x0), (.ref u8)] below meth c s₁ [] 0 0 := Stand.of_body Bd
  have e0 : s₁.heap = h0 := by rw [← hh, Bd.state]; rfl
  have N0 := Fr.nil n0
  have pre0 : ∀ t, Steps p.tables e below (s₁.setTop (mkF m 0 #[.val (.ref x0), .val (.ref u8)] [])) t → Steps p.tables e below (s₁.setTop (entryFrame m #[(.ref x0), (.ref u8)] 2)) t := fun t k => castTop (ef_15 m x0 u8) k
  have K0 : Keep h0 h0 [] := Keep.refl h0 []
  obtain ⟨cq1, kq1, q1a, q1b, q1c⟩ := isOf hZ e0 E_x0
  obtain ⟨_, _, ⟨T1, L1, k1, n1⟩, -, X1, ⟨Lc1, hQ1, l1, y1, z1⟩, st1⟩ := X0.virtualBack hx (y := (⟨"java/lang/String", "coder", "()B"⟩ : MethodName)) (z := (⟨"java/lang/String", "coder", "()B"⟩ : MethodName)) hown (mvT hZ (hw _ (List.mem_of_getElem? (i := 85) rfl))) (mvT hZ (hw _ (List.mem_of_getElem? (i := 86) rfl))) (notFace_of_selects (args := #[]) (mvT hZ (hw _ (List.mem_of_getElem? (i := 88) rfl)))) (mvT hZ (hw _ (List.mem_of_getElem? (i := 88) rfl))) (mvT hZ (hw _ (List.mem_of_getElem? (i := 87) rfl))) (by decide) (backOf (W := 1) (rm16 l Z a0 hw [] x0 cs h0 n0 Z0 F_coder_x0 O0 S_CS hcs) hZ (hw _ (List.mem_of_getElem? (i := 89) rfl)) (hw _ (List.mem_of_getElem? (i := 4) rfl)) (by decide) (by decide)) q1a q1c (g := (mkF m 14 #[.val (.ref x0), .val (.ref u8)] [(.ref x0), (.ref u8)])) rfl (by rw [hml]; rfl) (Steps.refl _) (argsL := []) (rest := [(.ref u8)]) (lenOf pd___B rfl) rfl (by show 2 * 0 + _ ≤ _; exact Nat.le_of_eq rfl) (hb hby d15_14) (fun _ _ => ⟨rfl, e0, (by decide : 0 + 0 ≤ _), (by decide : 0 + 0 ≤ _)⟩)
  dsimp only [Pt.U, Pt.locs, Pt.cells, Pt.slots] at X1 l1 y1 z1 st1 hQ1
  subst l1 y1 z1
  obtain ⟨rfl, N1q, e1⟩ := hQ1
  have N1 := Fr.app N0 N1q
  obtain ⟨T2, X2, e2, st2⟩ := getF X1 hx hZ hown (host := "") (Or.inl (hw _ (List.mem_of_getElem? (i := 29) rfl))) Via.refl e1 F_value_x0 (g := (mkF m 18 #[.val (.ref x0), .val (.ref u8)] [(.ref x0), (.int (0 : Int32)), (.ref u8)])) rfl rfl (hb hby d15_18)
  obtain ⟨_, _, ⟨T3, L3, k3, n3⟩, -, X3, ⟨Lc3, hQ3, l3, y3, z3⟩, st3⟩ := Jvm.LawKit.callS X2 hx (y := (⟨"java/lang/String", "encode", "(Ljava/nio/charset/Charset;B[B)[B"⟩ : MethodName)) hown (mvT hZ (hw _ (List.mem_of_getElem? (i := 90) rfl))) (mvT hZ (hw _ (List.mem_of_getElem? (i := 91) rfl))) (mvT hZ (hw _ (List.mem_of_getElem? (i := 4) rfl))) (mvT hZ (hw _ (List.mem_of_getElem? (i := 92) rfl))) (by decide) (backOf (W := 0) (rm17 l Z a0 hw [] va u8 kv u0 u1 h0 n0 Z0 V_va E_va O0 S_IN) hZ (hw _ (List.mem_of_getElem? (i := 92) rfl)) (hw _ (List.mem_of_getElem? (i := 4) rfl)) (by decide) (by decide)) (g := (mkF m 21 #[.val (.ref x0), .val (.ref u8)] [(.ref va), (.int (0 : Int32)), (.ref u8)])) rfl (by rw [hml]; rfl) (argsL := [(.ref u8), (.int (0 : Int32)), (.ref va)]) (rest := []) (lenOf pd__Ljava_nio_charset_Charset_B_B__B rfl) rfl (by show 2 * 0 + _ ≤ _; exact Nat.le_of_eq rfl) (hb hby d15_21) (fun _ _ => ⟨rfl, e2, (by decide : 0 + 2 ≤ _), (by decide : 0 + 7 ≤ _)⟩)
  dsimp only [Pt.U, Pt.locs, Pt.cells, Pt.slots] at X3 l3 y3 z3 st3 hQ3
  subst l3 y3 z3
  obtain ⟨rr, rfl, N3q, K3⟩ := hQ3
  have keep_4 : Keep h0 T3.heap [] := K0.trans K3 (all0)
  have V_va_4 : Arv Z T3.heap va kv .byte (2 : Int32) [(.int u0), (.int u1)] (.int (0 : Int32)) := V_va.keep K3 nin0
  have E_va_4 : Exa Z T3.heap va "[B" := E_va.keep K3
  have E_x0_4 : Exa Z T3.heap x0 "java/lang/String" := E_x0.keep K3
  have F_value_x0_4 : Fld Z T3.heap x0 "java/lang/String" "value" "[B" (.ref va) := F_value_x0.keep K3 nin0
  have F_coder_x0_4 : Fld Z T3.heap x0 "java/lang/String" "coder" "B" (.int (0 : Int32)) := F_coder_x0.keep K3 nin0
  have old_4 : Old Z n0 T3.heap := O0.keep K3 (all0)
  have siz_4 : n0 ≤ T3.heap.size := Nat.le_trans Z0 K3.1
  have N3 := Fr.app N1 N3q
  obtain ⟨fs, hr, hrun, hended, hW, hsame⟩ := X3.leave (v := some (.ref rr)) (fun h => by rw [Bd.returns] at h; cases h)
  refine ⟨_, _, pre0 _ ?_, hrun, hended, _, _, rfl, ?_, ⟨_, rfl⟩, hW, hsame.mono (by decide) (by decide)⟩
  · show Steps p.tables e below (s₁.setTop (mkF m 0 #[.val (.ref x0), .val (.ref u8)] [])) _
    refine XS.aloadN X0.here hx rfl (hb hby d15_0) rfl rfl ?_
    show Steps p.tables e below (s₁.setTop (mkF m 1 #[.val (.ref x0), .val (.ref u8)] [(.ref u8)])) _
    refine XS.ifnonnullYes X0.here hx rfl (pc0 := 1) (pc' := 12) rfl (hb hby d15_1) rfl (by decide) (by decide) ?_
    show Steps p.tables e below (s₁.setTop (mkF m 12 #[.val (.ref x0), .val (.ref u8)] [])) _
    refine XS.aloadN X0.here hx rfl (hb hby d15_12) rfl rfl ?_
    show Steps p.tables e below (s₁.setTop (mkF m 13 #[.val (.ref x0), .val (.ref u8)] [(.ref u8)])) _
    refine XS.aloadN X0.here hx rfl (hb hby d15_13) rfl rfl ?_
    show Steps p.tables e below (s₁.setTop (mkF m 14 #[.val (.ref x0), .val (.ref u8)] [(.ref x0), (.ref u8)])) _
    refine st1.trans ?_
    show Steps p.tables e below (T1.setTop (mkF m 17 #[.val (.ref x0), .val (.ref u8)] [(.int (0 : Int32)), (.ref u8)])) _
    refine XS.aloadN X1.here hx rfl (hb hby d15_17) rfl rfl ?_
    show Steps p.tables e below (T1.setTop (mkF m 18 #[.val (.ref x0), .val (.ref u8)] [(.ref x0), (.int (0 : Int32)), (.ref u8)])) _
    refine st2 _ ?_
    show Steps p.tables e below (T2.setTop (mkF m 21 #[.val (.ref x0), .val (.ref u8)] [(.ref va), (.int (0 : Int32)), (.ref u8)])) _
    refine st3 _ ?_
    show Steps p.tables e below (T3.setTop (mkF m 24 #[.val (.ref x0), .val (.ref u8)] [(.ref rr)])) _
    exact retOut X3 hx (t := (.array .byte)) (i := .areturn) Bd.returns rfl (Or.inr (Or.inr (Or.inr (Or.inr ⟨rfl, rfl, rfl⟩)))) (hb hby d15_24) hr
  · exact (by
      have eT : (T3.setFrames fs).heap = T3.heap := rfl
      rw [eT]; exact ⟨rr, rfl, N3, keep_4⟩)
theorem pd__Ljava_nio_charset_Charset___B : parseMethodDescriptor "(Ljava/nio/charset/Charset;)[B" = some ⟨[(.object "java/nio/charset/Charset")], some (.array .byte)⟩ := by decide +kernel
set_option maxRecDepth 65536 in
set_option maxHeartbeats 40000000 in
theorem rmk_key (l : Launch) (Z : State) (a0 : Array Value) (hw : ∀ d ∈ tables_1, d.before a0 Z = true) (ws : List Jvm.Cond) (x0 : Addr) (ke u8 va : Addr) (kv : ClassId) (u0 u1 cs : Int32) (h0 : Heap) (n0 : Nat) (Z0 : n0 ≤ h0.size) (F_cryptoKey_x0 : Fld Z h0 x0 "com/example/wardgate/wardgate/model/JwtSettings" "cryptoKey" "Ljava/lang/String;" (.ref ke)) (E_ke : Exa Z h0 ke "java/lang/String") (F_value_ke : Fld Z h0 ke "java/lang/String" "value" "[B" (.ref va)) (F_coder_ke : Fld Z h0 ke "java/lang/String" "coder" "B" (.int (0 : Int32))) (V_va : Arv Z h0 va kv .byte (2 : Int32) [(.int u0), (.int u1)] (.int (0 : Int32))) (E_va : Exa Z h0 va "[B") (O0 : Old Z n0 h0) (S_CS : Sta Z Z.heap "java/lang/String" "COMPACT_STRINGS" "Z" (.int cs)) (hcs : ¬ (cs = (0 : Int32))) (S_IN : Sta Z Z.heap "sun/nio/cs/UTF_8" "INSTANCE" "Lsun/nio/cs/UTF_8;" (.ref u8)) (S_U8 : Sta Z Z.heap "java/nio/charset/StandardCharsets" "UTF_8" "Ljava/nio/charset/Charset;" (.ref u8)) :
    MetFree l (⟨"com/example/wardgate/wardgate/model/JwtSettings", "sealingKey", "()[B"⟩ : MethodName) (head1 (Jvm.Cond.code (⟨"com/example/wardgate/wardgate/model/JwtSettings", "sealingKey", "()[B"⟩ : MethodName) prog_19_method_4_code 1 (some (.array .byte)) :: ws) ({ frames := 5, cells := 2, slots := 7, locals := 125 } : Room)) (fun a U => a = #[(.ref x0)] ∧ Z.Warmed39 U.vm ∧ U.heap = h0) (fun _ _ _ _ _ => True) (fun _ U o U' => ∃ v L, o = .returned v ∧ (QR Z h0 n0 v U'.heap L) ∧ FrameEnd U o U' L ({ frames := 5, cells := 2, slots := 7, locals := 125 } : Room).cells ({ frames := 5, cells := 2, slots := 7, locals := 125 } : Room).slots) := by
  refine MetFree.of_bodySF (plainFor_of_name pn_14) hisR ?_
  intro p e s m args below meth c s₁ Bd hml0 hP hK
  obtain ⟨rfl, hZ, hh⟩ := hP
  have hx := Bd.exec
  have hby := Bd.bytes
  have hml : c.maxLocals = 1 := hml0
  have hown : s.vm.findClass "com/example/wardgate/wardgate/model/JwtSettings" = some m.cls := findClass_of_methodNamed Bd.named
  have hnm := (name_of_methodNamed Bd.named Bd.method).1
  have X0 : Stand p l e ({ frames := 5, cells := 2, slots := 7, locals := 125 } : Room) s m #[(.ref x0)] below meth c s₁ [] 0 0 := Stand.of_body Bd
  have e0 : s₁.heap = h0 := by rw [← hh, Bd.state]; rfl
  have N0 := Fr.nil n0
  have pre0 : ∀ t, Steps p.tables e below (s₁.setTop (mkF m 0 #[.val (.ref x0)] [])) t → Steps p.tables e below (s₁.setTop (entryFrame m #[(.ref x0)] 1)) t := fun t k => castTop (ef_14 m x0) k
  have K0 : Keep h0 h0 [] := Keep.refl h0 []
  obtain ⟨T1, X1, e1, st1⟩ := getF X0 hx hZ hown (host := "") (Or.inl (hw _ (List.mem_of_getElem? (i := 61) rfl))) Via.refl e0 F_cryptoKey_x0 (g := (mkF m 1 #[.val (.ref x0)] [(.ref x0)])) rfl rfl (hb hby d14_1)
  obtain ⟨T2, X2, e2, st2⟩ := getF X1 hx hZ hown (host := "") (Or.inl (hw _ (List.mem_of_getElem? (i := 61) rfl))) Via.refl e1 F_cryptoKey_x0 (g := (mkF m 12 #[.val (.ref x0)] [(.ref x0)])) rfl rfl (hb hby d14_12)
  obtain ⟨T3, X3, e3, st3⟩ := getS2 X2 hx hZ hown (host := "") (Or.inl (hw _ (List.mem_of_getElem? (i := 78) rfl))) Via.refl e2 (own_Sta_old S_U8 O0) (g := (mkF m 15 #[.val (.ref x0)] [(.ref ke)])) rfl (hb hby d14_15)
  obtain ⟨cq4, kq4, q4a, q4b, q4c⟩ := isOf hZ e3 E_ke
  obtain ⟨_, _, ⟨T4, L4, k4, n4⟩, -, X4, ⟨Lc4, hQ4, l4, y4, z4⟩, st4⟩ := X3.virtualBack hx (y := (⟨"java/lang/String", "getBytes", "(Ljava/nio/charset/Charset;)[B"⟩ : MethodName)) (z := (⟨"java/lang/String", "getBytes", "(Ljava/nio/charset/Charset;)[B"⟩ : MethodName)) hown (mvT hZ (hw _ (List.mem_of_getElem? (i := 80) rfl))) (mvT hZ (hw _ (List.mem_of_getElem? (i := 81) rfl))) (notFace_of_selects (args := #[]) (mvT hZ (hw _ (List.mem_of_getElem? (i := 83) rfl)))) (mvT hZ (hw _ (List.mem_of_getElem? (i := 83) rfl))) (mvT hZ (hw _ (List.mem_of_getElem? (i := 82) rfl))) (by decide) (backOf (W := 0) (rm15 l Z a0 hw [] ke u8 va kv u0 u1 cs h0 n0 Z0 E_ke F_value_ke F_coder_ke V_va E_va O0 S_CS hcs S_IN) hZ (hw _ (List.mem_of_getElem? (i := 84) rfl)) (hw _ (List.mem_of_getElem? (i := 4) rfl)) (by decide) (by decide)) q4a q4c (g := (mkF m 18 #[.val (.ref x0)] [(.ref u8), (.ref ke)])) rfl (by rw [hml]; rfl) (Steps.refl _) (argsL := [(.ref u8)]) (rest := []) (lenOf pd__Ljava_nio_charset_Charset___B rfl) rfl (by show 2 * 0 + _ ≤ _; exact Nat.le_of_eq rfl) (hb hby d14_18) (fun _ _ => ⟨rfl, e3, (by decide : 0 + 2 ≤ _), (by decide : 0 + 7 ≤ _)⟩)
  dsimp only [Pt.U, Pt.locs, Pt.cells, Pt.slots] at X4 l4 y4 z4 st4 hQ4
  subst l4 y4 z4
  obtain ⟨rr, rfl, N4q, K4⟩ := hQ4
  have keep_5 : Keep h0 T4.heap [] := K0.trans K4 (all0)
  have V_va_5 : Arv Z T4.heap va kv .byte (2 : Int32) [(.int u0), (.int u1)] (.int (0 : Int32)) := V_va.keep K4 nin0
  have E_va_5 : Exa Z T4.heap va "[B" := E_va.keep K4
  have F_cryptoKey_x0_5 : Fld Z T4.heap x0 "com/example/wardgate/wardgate/model/JwtSettings" "cryptoKey" "Ljava/lang/String;" (.ref ke) := F_cryptoKey_x0.keep K4 nin0
  have E_ke_5 : Exa Z T4.heap ke "java/lang/String" := E_ke.keep K4
  have F_value_ke_5 : Fld Z T4.heap ke "java/lang/String" "value" "[B" (.ref va) := F_value_ke.keep K4 nin0
  have F_coder_ke_5 : Fld Z T4.heap ke "java/lang/String" "coder" "B" (.int (0 : Int32)) := F_coder_ke.keep K4 nin0
  have old_5 : Old Z n0 T4.heap := O0.keep K4 (all0)
  have siz_5 : n0 ≤ T4.heap.size := Nat.le_trans Z0 K4.1
  have N4 := Fr.app N0 N4q
  obtain ⟨fs, hr, hrun, hended, hW, hsame⟩ := X4.leave (v := some (.ref rr)) (fun h => by rw [Bd.returns] at h; cases h)
  refine ⟨_, _, pre0 _ ?_, hrun, hended, _, _, rfl, ?_, ⟨_, rfl⟩, hW, hsame.mono (by decide) (by decide)⟩
  · show Steps p.tables e below (s₁.setTop (mkF m 0 #[.val (.ref x0)] [])) _
    refine XS.aloadN X0.here hx rfl (hb hby d14_0) rfl rfl ?_
    show Steps p.tables e below (s₁.setTop (mkF m 1 #[.val (.ref x0)] [(.ref x0)])) _
    refine st1 _ ?_
    show Steps p.tables e below (T1.setTop (mkF m 4 #[.val (.ref x0)] [(.ref ke)])) _
    refine XS.ifnonnullYes X1.here hx rfl (pc0 := 4) (pc' := 11) rfl (hb hby d14_4) rfl (by decide) (by decide) ?_
    show Steps p.tables e below (T1.setTop (mkF m 11 #[.val (.ref x0)] [])) _
    refine XS.aloadN X1.here hx rfl (hb hby d14_11) rfl rfl ?_
    show Steps p.tables e below (T1.setTop (mkF m 12 #[.val (.ref x0)] [(.ref x0)])) _
    refine st2 _ ?_
    show Steps p.tables e below (T2.setTop (mkF m 15 #[.val (.ref x0)] [(.ref ke)])) _
    refine st3 _ ?_
    show Steps p.tables e below (T3.setTop (mkF m 18 #[.val (.ref x0)] [(.ref u8), (.ref ke)])) _
    refine st4.trans ?_
    show Steps p.tables e below (T4.setTop (mkF m 21 #[.val (.ref x0)] [(.ref rr)])) _
    exact retOut X4 hx (t := (.array .byte)) (i := .areturn) Bd.returns rfl (Or.inr (Or.inr (Or.inr (Or.inr ⟨rfl, rfl, rfl⟩)))) (hb hby d14_21) hr
  · exact (by
      have eT : (T4.setFrames fs).heap = T4.heap := rfl
      rw [eT]; exact ⟨rr, rfl, N4, keep_5⟩)
theorem pd___C_V : parseMethodDescriptor "([C)V" = some ⟨[(.array .char)], none⟩ := by decide +kernel
theorem pd__C_Ljava_lang_String_ : parseMethodDescriptor "(C)Ljava/lang/String;" = some ⟨[.char], some (.object "java/lang/String")⟩ := by decide +kernel
theorem pd__Ljava_lang_String_Lcom_example_wardgate_wardgate_model_JwtSettings_Cipher_Ljava_lang_String_Z_V : parseMethodDescriptor "(Ljava/lang/String;Lcom/example/wardgate/wardgate/model/JwtSettings$Cipher;Ljava/lang/String;Z)V" = some ⟨[(.object "java/lang/String"), (.object "com/example/wardgate/wardgate/model/JwtSettings$Cipher"), (.object "java/lang/String"), .boolean], none⟩ := by decide +kernel
theorem pd___Z : parseMethodDescriptor "()Z" = some ⟨[], some .boolean⟩ := by decide +kernel
theorem pd____B : parseMethodDescriptor "()[B" = some ⟨[], some (.array .byte)⟩ := by decide +kernel
set_option maxRecDepth 65536 in
set_option maxHeartbeats 40000000 in
theorem rm0_0 (l : Launch) (Z : State) (a0 : Array Value) (hw : ∀ d ∈ tables_1, d.before a0 Z = true) (ws : List Jvm.Cond) (x0 : Int32) (x1 : Int32) (x2 : Int32) (x3 : Int32) (cs : Int32) (u8 d3 s4 : Addr) (h0 : Heap) (n0 : Nat) (Z0 : n0 ≤ h0.size) (hk : ((x0 &&& (2147483647 : Int32)) % (3 : Int32)) = (0 : Int32)) (O0 : Old Z n0 h0) (S_CS : Sta Z Z.heap "java/lang/String" "COMPACT_STRINGS" "Z" (.int cs)) (hcs : ¬ (cs = (0 : Int32))) (S_IN : Sta Z Z.heap "sun/nio/cs/UTF_8" "INSTANCE" "Lsun/nio/cs/UTF_8;" (.ref u8)) (S_U8 : Sta Z Z.heap "java/nio/charset/StandardCharsets" "UTF_8" "Ljava/nio/charset/Charset;" (.ref u8)) (S_D3 : Sta Z Z.heap "com/example/wardgate/wardgate/model/JwtSettings$Cipher" "DES3" "Lcom/example/wardgate/wardgate/model/JwtSettings$Cipher;" (.ref d3)) (S_S4 : Sta Z Z.heap "com/example/wardgate/wardgate/model/JwtSettings$Cipher" "SM4" "Lcom/example/wardgate/wardgate/model/JwtSettings$Cipher;" (.ref s4)) :
    MetFree l x (head1 (Jvm.Cond.code x code maxLocals ret :: ws) room_1) (fun a U => a = #[(.int x0), (.int x1), (.int x2), (.int x3)] ∧ Z.Warmed39 U.vm ∧ U.heap = h0) (fun _ _ _ _ _ => True) (fun _ U o U' => ∃ v L, o = .returned v ∧ (QL n0 v U'.heap L) ∧ FrameEnd U o U' L room_1.cells room_1.slots) := by
  refine MetFree.of_bodySF (plainFor_of_name pn_0) hisR ?_
  intro p e s m args below meth c s₁ Bd hml0 hP hK
  obtain ⟨rfl, hZ, hh⟩ := hP
  have hx := Bd.exec
  have hby := Bd.bytes
  have hml : c.maxLocals = 15 := hml0
  have hown : s.vm.findClass "com/example/wardgate/wardgate/model/JwtSettingsSealsSessionsPinLaw" = some m.cls := findClass_of_methodNamed Bd.named
  have hnm := (name_of_methodNamed Bd.named Bd.method).1
  have X0 : Stand p l e room_1 s m #[(.int x0), (.int x1), (.int x2), (.int x3)] below meth c s₁ [] 0 0 := Stand.of_body Bd
  have e0 : s₁.heap = h0 := by rw [← hh, Bd.state]; rfl
  have N0 := Fr.nil n0
  have pre0 : ∀ t, Steps p.tables e below (s₁.setTop (mkF m 0 #[.val (.int x0), .val (.int x1), .val (.int x2), .val (.int x3), .unset, .unset, .unset, .unset, .unset, .unset, .unset, .unset, .unset, .unset, .unset] [])) t → Steps p.tables e below (s₁.setTop (entryFrame m #[(.int x0), (.int x1), (.int x2), (.int x3)] maxLocals)) t := fun t k => castTop (ef_0 m x0 x1 x2 x3) k
  obtain ⟨T1, h1, k1, X1, e1, E1, A1, st1⟩ := newP X0 hx hZ (hw _ (List.mem_of_getElem? (i := 1) rfl)) e0 (g := (mkF m 9 #[.val (.int x0), .val (.int x1), .val (.int x2), .val (.int x3), .val (.int (0 : Int32)), .unset, .unset, .unset, .unset, .unset, .unset, .unset, .unset, .unset, .unset] [(.int (2 : Int32))])) rfl (hb hby at_9) rfl (by decide) (cap := 2) (by decide) (by decide) (by decide) (by decide)
  obtain ⟨ch, g1⟩ : ∃ z, z = h0.size := ⟨_, rfl⟩
  rw [← g1] at A1 st1
  have V_ch_1 : Arv Z h1 ch k1 .char (2 : Int32) [(.int (0 : Int32)), (.int (0 : Int32))] (.int (0 : Int32)) := (Arv.new A1 (by decide)).pad (pad_rep [] (.int (0 : Int32)) 2)
  have g_ch : n0 ≤ ch := Nat.le_trans Z0 (Nat.le_of_eq g1.symm)
  have old_2 : Old Z n0 h1 := O0.ext E1
  have siz_2 : n0 ≤ h1.size := Nat.le_trans Z0 E1.1
  obtain ⟨C0, e_C0⟩ : ∃ z : Int32, z = ((x1 &&& (255 : Int32)).toUInt32.toUInt16.toUInt32.toInt32) := ⟨_, rfl⟩
  have hC0 : ¬ ((255 : Int32) < C0) := by
    have q1 := c_mask x1 (255 : Int32) 8 (by decide) (by decide)
    have q2 := c_i2c (x1 &&& (255 : Int32))
    have q3 : (255 : Int32).toInt = 255 := rfl
    rw [Int32.lt_iff_toInt_lt, e_C0]; rw [show ((2 ^ 8 : Nat) : Int) = 256 from rfl] at q1; omega
  obtain ⟨T3, h3, L3, X3, e3, N3, W3, V3, st3⟩ := own_stC X1 hx hZ e1 V_ch_1 (j := (0 : Int32)) ⟨by decide, by decide⟩ (i := 0) rfl (Nat.le_of_ble_eq_true rfl) N0 g_ch (g := (mkF m 19 #[.val (.int x0), .val (.int x1), .val (.int x2), .val (.int x3), .val (.int (0 : Int32)), .unset, .unset, .unset, .unset, .unset, .unset, .unset, .unset, .unset, .unset] [(.int C0), (.int (0 : Int32)), (.ref ch), (.ref ch)])) rfl rfl (hb hby at_19)
  have old_4 : Old Z n0 h3 := old_2.wr W3 g_ch
  have siz_4 : n0 ≤ h3.size := Nat.le_trans siz_2 (Keep.of_wr W3).1
  have V_ch_3 : Arv Z h3 ch k1 .char (2 : Int32) [(.int (nar .char C0)), (.int (0 : Int32))] (.int (0 : Int32)) := V3
  have hnC0 : nar .char C0 = C0 := by
    have q4 := c_i2c C0
    have q5 := c_i2c (x1 &&& (255 : Int32))
    rw [← e_C0] at q5
    show C0.toUInt32.toUInt16.toUInt32.toInt32 = C0
    rw [← Int32.toInt_inj]; omega
  rw [hnC0] at V_ch_3
  obtain ⟨C1, e_C1⟩ : ∃ z : Int32, z = ((x2 &&& (255 : Int32)).toUInt32.toUInt16.toUInt32.toInt32) := ⟨_, rfl⟩
  have hC1 : ¬ ((255 : Int32) < C1) := by
    have q1 := c_mask x2 (255 : Int32) 8 (by decide) (by decide)
    have q2 := c_i2c (x2 &&& (255 : Int32))
    have q3 : (255 : Int32).toInt = 255 := rfl
    rw [Int32.lt_iff_toInt_lt, e_C1]; rw [show ((2 ^ 8 : Nat) : Int) = 256 from rfl] at q1; omega
  obtain ⟨T5, h5, L5, X5, e5, N5, W5, V5, st5⟩ := own_stC X3 hx hZ e3 V_ch_3 (j := (1 : Int32)) ⟨by decide, by decide⟩ (i := 1) rfl (Nat.le_of_ble_eq_true rfl) N3 g_ch (g := (mkF m 28 #[.val (.int x0), .val (.int x1), .val (.int x2), .val (.int x3), .val (.int (0 : Int32)), .unset, .unset, .unset, .unset, .unset, .unset, .unset, .unset, .unset, .unset] [(.int C1), (.int (1 : Int32)), (.ref ch), (.ref ch)])) rfl rfl (hb hby at_28)
  have old_6 : Old Z n0 h5 := old_4.wr W5 g_ch
  have siz_6 : n0 ≤ h5.size := Nat.le_trans siz_4 (Keep.of_wr W5).1
  have V_ch_5 : Arv Z h5 ch k1 .char (2 : Int32) [(.int C0), (.int (nar .char C1))] (.int (0 : Int32)) := V5
  have hnC1 : nar .char C1 = C1 := by
    have q4 := c_i2c C1
    have q5 := c_i2c (x2 &&& (255 : Int32))
    rw [← e_C1] at q5
    show C1.toUInt32.toUInt16.toUInt32.toInt32 = C1
    rw [← Int32.toInt_inj]; omega
  rw [hnC1] at V_ch_5
  obtain ⟨T7, h7, X7, e7, E7, A7, D7, -, st7⟩ := newO X5 hx hZ hown (hw _ (List.mem_of_getElem? (i := 2) rfl)) (hw _ (List.mem_of_getElem? (i := 3) rfl)) (hw _ (List.mem_of_getElem? (i := 4) rfl)) e5 (g := (mkF m 31 #[.val (.int x0), .val (.int x1), .val (.int x2), .val (.int x3), .val (.int (0 : Int32)), .val (.ref ch), .unset, .unset, .unset, .unset, .unset, .unset, .unset, .unset, .unset] [])) rfl (hb hby at_31) (by decide) (by decide)
  obtain ⟨so, g7⟩ : ∃ z, z = h5.size := ⟨_, rfl⟩
  rw [← g7] at A7 D7 st7
  have E_so_7 : Exa Z h7 so "java/lang/String" := A7
  have F_coder_so_7 : Fld Z h7 so "java/lang/String" "coder" "B" (.int (0 : Int32)) := D7 (Or.inr (hw _ (List.mem_of_getElem? (i := 28) rfl))) (ty := .byte) (by decide)
  have F_value_so_7 : Fld Z h7 so "java/lang/String" "value" "[B" .null := D7 (Or.inr (hw _ (List.mem_of_getElem? (i := 30) rfl))) (ty := (.array .byte)) (by decide)
  have lt_ch_so : ch < so := Nat.lt_of_lt_of_le V_ch_5.lt (Nat.le_of_eq g7.symm)
  have g_so : n0 ≤ so := Nat.le_trans siz_6 (Nat.le_of_eq g7.symm)
  have old_8 : Old Z n0 h7 := old_6.ext E7
  have siz_8 : n0 ≤ h7.size := Nat.le_trans siz_6 E7.1
  have V_ch_8 : Arv Z h7 ch k1 .char (2 : Int32) [(.int C0), (.int C1)] (.int (0 : Int32)) := V_ch_5.ext E7
  obtain ⟨_, _, ⟨T9, L9, k9, n9⟩, -, X9, ⟨Lc9, hQ9, l9, y9, z9⟩, st9⟩ := X7.specialBack hx (y := (⟨"java/lang/String", "<init>", "([C)V"⟩ : MethodName)) rfl hown (mvT hZ (hw _ (List.mem_of_getElem? (i := 5) rfl))) (mvT hZ (hw _ (List.mem_of_getElem? (i := 6) rfl))) (mvT hZ (hw _ (List.mem_of_getElem? (i := 7) rfl))) (by decide) (backOf (W := 1) (rm1 l Z a0 hw [] so ch k1 C0 C1 cs h7 n0 siz_8 E_so_7 F_value_so_7 F_coder_so_7 V_ch_8 g_so (Ne.symm (Nat.ne_of_lt lt_ch_so)) hC0 hC1 old_8 S_CS hcs) hZ (hw _ (List.mem_of_getElem? (i := 7) rfl)) (hw _ (List.mem_of_getElem? (i := 4) rfl)) (by decide) (by decide)) (g := (mkF m 37 #[.val (.int x0), .val (.int x1), .val (.int x2), .val (.int x3), .val (.int (0 : Int32)), .val (.ref ch), .unset, .unset, .unset, .unset, .unset, .unset, .unset, .unset, .unset] [(.ref ch), (.ref so), (.ref so)])) rfl (by rw [hml]; rfl) (Steps.refl _) (a := so) (argsL := [(.ref ch)]) (rest := [(.ref so)]) (lenOf pd___C_V rfl) rfl (by show 2 * 0 + _ ≤ _; exact Nat.le_of_eq rfl) (hb hby at_37) (fun _ _ => ⟨rfl, e7, (by decide : 2 + 1 ≤ _), (by decide : 6 + 2 ≤ _)⟩)
  dsimp only [Pt.U, Pt.locs, Pt.cells, Pt.slots] at X9 l9 y9 z9 st9 hQ9
  subst l9 y9 z9
  obtain ⟨rfl, N9q, K9, Eq9, va, kv, sv9, Fq9, Fc9, Vq9, Ev9⟩ := hQ9
  have lt_so_va : so < va := Nat.lt_of_lt_of_le E_so_7.lt sv9
  have lt_ch_va : ch < va := Nat.lt_of_lt_of_le V_ch_8.lt sv9
  have old_10 : Old Z n0 T9.heap := old_8.keep K9 (allS g_so (all0))
  have siz_10 : n0 ≤ T9.heap.size := Nat.le_trans siz_8 K9.1
  have V_ch_10 : Arv Z T9.heap ch k1 .char (2 : Int32) [(.int C0), (.int C1)] (.int (0 : Int32)) := V_ch_8.keep K9 (ninS (Nat.ne_of_lt lt_ch_so) nin0)
  have N9 := Fr.app N5 N9q
  obtain ⟨SC, e_SC⟩ : ∃ z : Int32, z = ((((x1.toUInt32 >>> ((8 : Int32) &&& 31).toUInt32).toInt32) &&& (255 : Int32)).toUInt32.toUInt16.toUInt32.toInt32) := ⟨_, rfl⟩
  have hSC : ¬ ((255 : Int32) < SC) := by
    have q1 := c_mask ((x1.toUInt32 >>> ((8 : Int32) &&& 31).toUInt32).toInt32) (255 : Int32) 8 (by decide) (by decide)
    have q2 := c_i2c (((x1.toUInt32 >>> ((8 : Int32) &&& 31).toUInt32).toInt32) &&& (255 : Int32))
    have q3 : (255 : Int32).toInt = 255 := rfl
    rw [Int32.lt_iff_toInt_lt, e_SC]; rw [show ((2 ^ 8 : Nat) : Int) = 256 from rfl] at q1; omega
  obtain ⟨_, _, ⟨T11, L11, k11, n11⟩, -, X11, ⟨Lc11, hQ11, l11, y11, z11⟩, st11⟩ := Jvm.LawKit.callS X9 hx (y := (⟨"java/lang/String", "valueOf", "(C)Ljava/lang/String;"⟩ : MethodName)) hown (mvT hZ (hw _ (List.mem_of_getElem? (i := 31) rfl))) (mvT hZ (hw _ (List.mem_of_getElem? (i := 32) rfl))) (mvT hZ (hw _ (List.mem_of_getElem? (i := 4) rfl))) (mvT hZ (hw _ (List.mem_of_getElem? (i := 33) rfl))) (by decide) (backOf (W := 0) (rm7 l Z a0 hw [] SC cs T9.heap n0 siz_10 hSC old_10 S_CS hcs) hZ (hw _ (List.mem_of_getElem? (i := 33) rfl)) (hw _ (List.mem_of_getElem? (i := 4) rfl)) (by decide) (by decide)) (g := (mkF m 51 #[.val (.int x0), .val (.int x1), .val (.int x2), .val (.int x3), .val (.int (0 : Int32)), .val (.ref ch), .val (.ref so), .unset, .unset, .unset, .unset, .unset, .unset, .unset, .unset] [(.int SC)])) rfl (by rw [hml]; rfl) (argsL := [(.int SC)]) (rest := []) (lenOf pd__C_Ljava_lang_String_ rfl) rfl (by show 2 * 0 + _ ≤ _; exact Nat.le_of_eq rfl) (hb hby at_51) (fun _ _ => ⟨rfl, rfl, (by decide : 3 + 2 ≤ _), (by decide : 8 + 5 ≤ _)⟩)
  dsimp only [Pt.U, Pt.locs, Pt.cells, Pt.slots] at X11 l11 y11 z11 st11 hQ11
  subst l11 y11 z11
  obtain ⟨se, rfl, N11q, K11⟩ := hQ11
  have old_12 : Old Z n0 T11.heap := old_10.keep K11 (all0)
  have siz_12 : n0 ≤ T11.heap.size := Nat.le_trans siz_10 K11.1
  have E_so_12 : Exa Z T11.heap so "java/lang/String" := Eq9.keep K11
  have F_coder_so_12 : Fld Z T11.heap so "java/lang/String" "coder" "B" (.int (0 : Int32)) := Fc9.keep K11 nin0
  have F_value_so_12 : Fld Z T11.heap so "java/lang/String" "value" "[B" (.ref va) := Fq9.keep K11 nin0
  have V_va_12 : Arv Z T11.heap va kv .byte (2 : Int32) [(.int (own_b C0)), (.int (own_b C1))] (.int (0 : Int32)) := Vq9.keep K11 nin0
  have E_va_12 : Exa Z T11.heap va "[B" := Ev9.keep K11
  have N11 := Fr.app N9 N11q
  obtain ⟨m13_s0, em13_s0⟩ : ∃ z : Int32, z = (if (x3 &&& (1 : Int32)) = (0 : Int32) then (0 : Int32) else (1 : Int32)) := ⟨_, rfl⟩
  obtain ⟨T14, h14, X14, e14, E14, A14, D14, -, st14⟩ := newO X11 hx hZ hown (hw _ (List.mem_of_getElem? (i := 45) rfl)) (hw _ (List.mem_of_getElem? (i := 46) rfl)) (hw _ (List.mem_of_getElem? (i := 47) rfl)) rfl (g := (mkF m 108 #[.val (.int x0), .val (.int x1), .val (.int x2), .val (.int x3), .val (.int (0 : Int32)), .val (.ref ch), .val (.ref so), .val (.ref se), .val .null, .val .null, .val (.int m13_s0), .unset, .unset, .unset, .unset] [])) rfl (hb hby at_108) (by decide) (by decide)
  obtain ⟨js, g14⟩ : ∃ z, z = T11.heap.size := ⟨_, rfl⟩
  rw [← g14] at A14 D14 st14
  have E_js_14 : Exa Z h14 js "com/example/wardgate/wardgate/model/JwtSettings" := A14
  have F_secret_js_14 : Fld Z h14 js "com/example/wardgate/wardgate/model/JwtSettings" "secret" "Ljava/lang/String;" .null := D14 (Or.inr (hw _ (List.mem_of_getElem? (i := 58) rfl))) (ty := (.object "java/lang/String")) (by decide)
  have F_cipher_js_14 : Fld Z h14 js "com/example/wardgate/wardgate/model/JwtSettings" "cipher" "Lcom/example/wardgate/wardgate/model/JwtSettings$Cipher;" .null := D14 (Or.inr (hw _ (List.mem_of_getElem? (i := 60) rfl))) (ty := (.object "com/example/wardgate/wardgate/model/JwtSettings$Cipher")) (by decide)
  have F_cryptoKey_js_14 : Fld Z h14 js "com/example/wardgate/wardgate/model/JwtSettings" "cryptoKey" "Ljava/lang/String;" .null := D14 (Or.inr (hw _ (List.mem_of_getElem? (i := 62) rfl))) (ty := (.object "java/lang/String")) (by decide)
  have F_checkLogout_js_14 : Fld Z h14 js "com/example/wardgate/wardgate/model/JwtSettings" "checkLogout" "Z" (.int (0 : Int32)) := D14 (Or.inr (hw _ (List.mem_of_getElem? (i := 64) rfl))) (ty := .boolean) (by decide)
  have lt_so_js : so < js := Nat.lt_of_lt_of_le E_so_12.lt (Nat.le_of_eq g14.symm)
  have lt_va_js : va < js := Nat.lt_of_lt_of_le V_va_12.lt (Nat.le_of_eq g14.symm)
  have g_js : n0 ≤ js := Nat.le_trans siz_12 (Nat.le_of_eq g14.symm)
  have old_15 : Old Z n0 h14 := old_12.ext E14
  have siz_15 : n0 ≤ h14.size := Nat.le_trans siz_12 E14.1
  have E_so_15 : Exa Z h14 so "java/lang/String" := E_so_12.ext E14
  have F_coder_so_15 : Fld Z h14 so "java/lang/String" "coder" "B" (.int (0 : Int32)) := F_coder_so_12.ext E14
  have F_value_so_15 : Fld Z h14 so "java/lang/String" "value" "[B" (.ref va) := F_value_so_12.ext E14
  have V_va_15 : Arv Z h14 va kv .byte (2 : Int32) [(.int (own_b C0)), (.int (own_b C1))] (.int (0 : Int32)) := V_va_12.ext E14
  have E_va_15 : Exa Z h14 va "[B" := E_va_12.ext E14
  obtain ⟨_, _, ⟨T16, L16, k16, n16⟩, -, X16, ⟨Lc16, hQ16, l16, y16, z16⟩, st16⟩ := X14.specialBack hx (y := (⟨"com/example/wardgate/wardgate/model/JwtSettings", "<init>", "(Ljava/lang/String;Lcom/example/wardgate/wardgate/model/JwtSettings$Cipher;Ljava/lang/String;Z)V"⟩ : MethodName)) rfl hown (mvT hZ (hw _ (List.mem_of_getElem? (i := 48) rfl))) (mvT hZ (hw _ (List.mem_of_getElem? (i := 49) rfl))) (mvT hZ (hw _ (List.mem_of_getElem? (i := 50) rfl))) (by decide) (backOf (W := 1) (rmj_null l Z a0 hw [] js se  m13_s0 h14 n0 siz_15 E_js_14 F_secret_js_14 F_cipher_js_14 F_cryptoKey_js_14 F_checkLogout_js_14 g_js) hZ (hw _ (List.mem_of_getElem? (i := 50) rfl)) (hw _ (List.mem_of_getElem? (i := 47) rfl)) (by decide) (by decide)) (g := (mkF m 120 #[.val (.int x0), .val (.int x1), .val (.int x2), .val (.int x3), .val (.int (0 : Int32)), .val (.ref ch), .val (.ref so), .val (.ref se), .val .null, .val .null, .val (.int m13_s0), .unset, .unset, .unset, .unset] [(.int m13_s0), .null, .null, (.ref se), (.ref js), (.ref js)])) rfl (by rw [hml]; rfl) (Steps.refl _) (a := js) (argsL := [(.ref se), .null, .null, (.int m13_s0)]) (rest := [(.ref js)]) (lenOf pd__Ljava_lang_String_Lcom_example_wardgate_wardgate_model_JwtSettings_Cipher_Ljava_lang_String_Z_V rfl) rfl (by show 2 * 0 + _ ≤ _; exact Nat.le_of_eq rfl) (hb hby at_120) (fun _ _ => ⟨rfl, e14, (by decide : 6 + 0 ≤ _), (by decide : 17 + 0 ≤ _)⟩)
  dsimp only [Pt.U, Pt.locs, Pt.cells, Pt.slots] at X16 l16 y16 z16 st16 hQ16
  subst l16 y16 z16
  obtain ⟨rfl, N16q, K16, Ej16, Fi16, Fk16⟩ := hQ16
  have old_17 : Old Z n0 T16.heap := old_15.keep K16 (allS g_js (all0))
  have siz_17 : n0 ≤ T16.heap.size := Nat.le_trans siz_15 K16.1
  have E_so_17 : Exa Z T16.heap so "java/lang/String" := E_so_15.keep K16
  have F_coder_so_17 : Fld Z T16.heap so "java/lang/String" "coder" "B" (.int (0 : Int32)) := F_coder_so_15.keep K16 (ninS (Nat.ne_of_lt lt_so_js) nin0)
  have F_value_so_17 : Fld Z T16.heap so "java/lang/String" "value" "[B" (.ref va) := F_value_so_15.keep K16 (ninS (Nat.ne_of_lt lt_so_js) nin0)
  have V_va_17 : Arv Z T16.heap va kv .byte (2 : Int32) [(.int (own_b C0)), (.int (own_b C1))] (.int (0 : Int32)) := V_va_15.keep K16 (ninS (Nat.ne_of_lt lt_va_js) nin0)
  have E_va_17 : Exa Z T16.heap va "[B" := E_va_15.keep K16
  have N16 := Fr.app N11 N16q
  obtain ⟨cq18, kq18, q18a, q18b, q18c⟩ := isOf hZ rfl Ej16
  obtain ⟨_, _, ⟨T18, L18, k18, n18⟩, -, X18, ⟨Lc18, hQ18, l18, y18, z18⟩, st18⟩ := X16.virtualBack hx (y := (⟨"com/example/wardgate/wardgate/model/JwtSettings", "sealsSessions", "()Z"⟩ : MethodName)) (z := (⟨"com/example/wardgate/wardgate/model/JwtSettings", "sealsSessions", "()Z"⟩ : MethodName)) hown (mvT hZ (hw _ (List.mem_of_getElem? (i := 65) rfl))) (mvT hZ (hw _ (List.mem_of_getElem? (i := 66) rfl))) (notFace_of_selects (args := #[]) (mvT hZ (hw _ (List.mem_of_getElem? (i := 68) rfl)))) (mvT hZ (hw _ (List.mem_of_getElem? (i := 68) rfl))) (mvT hZ (hw _ (List.mem_of_getElem? (i := 67) rfl))) (by decide) (backOf (W := 0) (rms_null l Z a0 hw [] js T16.heap n0 siz_17 Fi16) hZ (hw _ (List.mem_of_getElem? (i := 69) rfl)) (hw _ (List.mem_of_getElem? (i := 47) rfl)) (by decide) (by decide)) q18a q18c (g := (mkF m 127 #[.val (.int x0), .val (.int x1), .val (.int x2), .val (.int x3), .val (.int (0 : Int32)), .val (.ref ch), .val (.ref so), .val (.ref se), .val .null, .val .null, .val (.int m13_s0), .val (.ref js), .unset, .unset, .unset] [(.ref js)])) rfl (by rw [hml]; rfl) (Steps.refl _) (argsL := []) (rest := []) (lenOf pd___Z rfl) rfl (by show 2 * 0 + _ ≤ _; exact Nat.le_of_eq rfl) (hb hby at_127) (fun _ _ => ⟨rfl, rfl, (by decide : 6 + 0 ≤ _), (by decide : 17 + 0 ≤ _)⟩)
  dsimp only [Pt.U, Pt.locs, Pt.cells, Pt.slots] at X18 l18 y18 z18 st18 hQ18
  subst l18 y18 z18
  obtain ⟨rfl, N18q, e18⟩ := hQ18
  have N18 := Fr.app N16 N18q
  obtain ⟨cq19, kq19, q19a, q19b, q19c⟩ := isOf hZ e18 Ej16
  obtain ⟨_, _, ⟨T19, L19, k19, n19⟩, -, X19, ⟨Lc19, hQ19, l19, y19, z19⟩, st19⟩ := X18.virtualBack hx (y := (⟨"com/example/wardgate/wardgate/model/JwtSettings", "sealingKey", "()[B"⟩ : MethodName)) (z := (⟨"com/example/wardgate/wardgate/model/JwtSettings", "sealingKey", "()[B"⟩ : MethodName)) hown (mvT hZ (hw _ (List.mem_of_getElem? (i := 70) rfl))) (mvT hZ (hw _ (List.mem_of_getElem? (i := 71) rfl))) (notFace_of_selects (args := #[]) (mvT hZ (hw _ (List.mem_of_getElem? (i := 73) rfl)))) (mvT hZ (hw _ (List.mem_of_getElem? (i := 73) rfl))) (mvT hZ (hw _ (List.mem_of_getElem? (i := 72) rfl))) (by decide) (backOf (W := 0) (rmk_null l Z a0 hw [] js T16.heap n0 siz_17 Fk16) hZ (hw _ (List.mem_of_getElem? (i := 74) rfl)) (hw _ (List.mem_of_getElem? (i := 47) rfl)) (by decide) (by decide)) q19a q19c (g := (mkF m 146 #[.val (.int x0), .val (.int x1), .val (.int x2), .val (.int x3), .val (.int (0 : Int32)), .val (.ref ch), .val (.ref so), .val (.ref se), .val .null, .val .null, .val (.int m13_s0), .val (.ref js), .val (.int (0 : Int32)), .val (.int (0 : Int32)), .unset] [(.ref js)])) rfl (by rw [hml]; rfl) (Steps.refl _) (argsL := []) (rest := []) (lenOf pd____B rfl) rfl (by show 2 * 0 + _ ≤ _; exact Nat.le_of_eq rfl) (hb hby at_146) (fun _ _ => ⟨rfl, e18, (by decide : 6 + 0 ≤ _), (by decide : 17 + 0 ≤ _)⟩)
  dsimp only [Pt.U, Pt.locs, Pt.cells, Pt.slots] at X19 l19 y19 z19 st19 hQ19
  subst l19 y19 z19
  obtain ⟨rfl, N19q, e19⟩ := hQ19
  have N19 := Fr.app N18 N19q
  obtain ⟨fs, hr, hrun, hended, hW, hsame⟩ := X19.leave (v := some (.int (1 : Int32))) (fun h => by rw [Bd.returns] at h; cases h)
  refine ⟨_, _, pre0 _ ?_, hrun, hended, _, _, rfl, ?_, ⟨_, rfl⟩, hW, hsame.mono (by decide) (by decide)⟩
  · show Steps p.tables e below (s₁.setTop (mkF m 0 #[.val (.int x0), .val (.int x1), .val (.int x2), .val (.int x3), .unset, .unset, .unset, .unset, .unset, .unset, .unset, .unset, .unset, .unset, .unset] [])) _
    refine XS.iloadN X0.here hx rfl (hb hby at_0) rfl ?_
    show Steps p.tables e below (s₁.setTop (mkF m 1 #[.val (.int x0), .val (.int x1), .val (.int x2), .val (.int x3), .unset, .unset, .unset, .unset, .unset, .unset, .unset, .unset, .unset, .unset, .unset] [(.int x0)])) _
    refine X0.ldcInt hx hown (mvT hZ (hw _ (List.mem_of_getElem? (i := 0) rfl))) (g := (mkF m 1 #[.val (.int x0), .val (.int x1), .val (.int x2), .val (.int x3), .unset, .unset, .unset, .unset, .unset, .unset, .unset, .unset, .unset, .unset, .unset] [(.int x0)])) rfl (hb hby at_1) _ ?_
    show Steps p.tables e below (s₁.setTop (mkF m 3 #[.val (.int x0), .val (.int x1), .val (.int x2), .val (.int x3), .unset, .unset, .unset, .unset, .unset, .unset, .unset, .unset, .unset, .unset, .unset] [(.int (2147483647 : Int32)), (.int x0)])) _
    refine XS.iand X0.here hx rfl (hb hby at_3) rfl ?_
    show Steps p.tables e below (s₁.setTop (mkF m 4 #[.val (.int x0), .val (.int x1), .val (.int x2), .val (.int x3), .unset, .unset, .unset, .unset, .unset, .unset, .unset, .unset, .unset, .unset, .unset] [(.int (x0 &&& (2147483647 : Int32)))])) _
    refine XS.iconst X0.here hx rfl (hb hby at_4) ?_
    show Steps p.tables e below (s₁.setTop (mkF m 5 #[.val (.int x0), .val (.int x1), .val (.int x2), .val (.int x3), .unset, .unset, .unset, .unset, .unset, .unset, .unset, .unset, .unset, .unset, .unset] [(.int (3 : Int32)), (.int (x0 &&& (2147483647 : Int32)))])) _
    refine iremM X0 hx rfl (hb hby at_5) rfl (by decide) ?_
    show Steps p.tables e below (s₁.setTop (mkF m 6 #[.val (.int x0), .val (.int x1), .val (.int x2), .val (.int x3), .unset, .unset, .unset, .unset, .unset, .unset, .unset, .unset, .unset, .unset, .unset] [(.int ((x0 &&& (2147483647 : Int32)) % (3 : Int32)))])) _
    rw [hk]
    show Steps p.tables e below (s₁.setTop (mkF m 6 #[.val (.int x0), .val (.int x1), .val (.int x2), .val (.int x3), .unset, .unset, .unset, .unset, .unset, .unset, .unset, .unset, .unset, .unset, .unset] [(.int (0 : Int32))])) _
    refine XS.istore X0.here hx rfl (hb hby at_6) rfl (l' := #[.val (.int x0), .val (.int x1), .val (.int x2), .val (.int x3), .val (.int (0 : Int32)), .unset, .unset, .unset, .unset, .unset, .unset, .unset, .unset, .unset, .unset]) rfl ?_
    show Steps p.tables e below (s₁.setTop (mkF m 8 #[.val (.int x0), .val (.int x1), .val (.int x2), .val (.int x3), .val (.int (0 : Int32)), .unset, .unset, .unset, .unset, .unset, .unset, .unset, .unset, .unset, .unset] [])) _
    refine XS.iconst X0.here hx rfl (hb hby at_8) ?_
    show Steps p.tables e below (s₁.setTop (mkF m 9 #[.val (.int x0), .val (.int x1), .val (.int x2), .val (.int x3), .val (.int (0 : Int32)), .unset, .unset, .unset, .unset, .unset, .unset, .unset, .unset, .unset, .unset] [(.int (2 : Int32))])) _
    refine st1 _ ?_
    show Steps p.tables e below (T1.setTop (mkF m 11 #[.val (.int x0), .val (.int x1), .val (.int x2), .val (.int x3), .val (.int (0 : Int32)), .unset, .unset, .unset, .unset, .unset, .unset, .unset, .unset, .unset, .unset] [(.ref ch)])) _
    refine XS.dup X1.here hx rfl (hb hby at_11) rfl rfl ?_
    show Steps p.tables e below (T1.setTop (mkF m 12 #[.val (.int x0), .val (.int x1), .val (.int x2), .val (.int x3), .val (.int (0 : Int32)), .unset, .unset, .unset, .unset, .unset, .unset, .unset, .unset, .unset, .unset] [(.ref ch), (.ref ch)])) _
    refine XS.iconst X1.here hx rfl (hb hby at_12) ?_
    show Steps p.tables e below (T1.setTop (mkF m 13 #[.val (.int x0), .val (.int x1), .val (.int x2), .val (.int x3), .val (.int (0 : Int32)), .unset, .unset, .unset, .unset, .unset, .unset, .unset, .unset, .unset, .unset] [(.int (0 : Int32)), (.ref ch), (.ref ch)])) _
    refine XS.iloadN X1.here hx rfl (hb hby at_13) rfl ?_
    show Steps p.tables e below (T1.setTop (mkF m 14 #[.val (.int x0), .val (.int x1), .val (.int x2), .val (.int x3), .val (.int (0 : Int32)), .unset, .unset, .unset, .unset, .unset, .unset, .unset, .unset, .unset, .unset] [(.int x1), (.int (0 : Int32)), (.ref ch), (.ref ch)])) _
    refine XS.sipush X1.here hx rfl (hb hby at_14) ?_
    show Steps p.tables e below (T1.setTop (mkF m 17 #[.val (.int x0), .val (.int x1), .val (.int x2), .val (.int x3), .val (.int (0 : Int32)), .unset, .unset, .unset, .unset, .unset, .unset, .unset, .unset, .unset, .unset] [(.int (255 : Int32)), (.int x1), (.int (0 : Int32)), (.ref ch), (.ref ch)])) _
    refine XS.iand X1.here hx rfl (hb hby at_17) rfl ?_
    show Steps p.tables e below (T1.setTop (mkF m 18 #[.val (.int x0), .val (.int x1), .val (.int x2), .val (.int x3), .val (.int (0 : Int32)), .unset, .unset, .unset, .unset, .unset, .unset, .unset, .unset, .unset, .unset] [(.int (x1 &&& (255 : Int32))), (.int (0 : Int32)), (.ref ch), (.ref ch)])) _
    refine XS.i2c X1.here hx rfl (hb hby at_18) rfl ?_
    show Steps p.tables e below (T1.setTop (mkF m 19 #[.val (.int x0), .val (.int x1), .val (.int x2), .val (.int x3), .val (.int (0 : Int32)), .unset, .unset, .unset, .unset, .unset, .unset, .unset, .unset, .unset, .unset] [(.int ((x1 &&& (255 : Int32)).toUInt32.toUInt16.toUInt32.toInt32)), (.int (0 : Int32)), (.ref ch), (.ref ch)])) _
    rw [← e_C0]
    show Steps p.tables e below (T1.setTop (mkF m 19 #[.val (.int x0), .val (.int x1), .val (.int x2), .val (.int x3), .val (.int (0 : Int32)), .unset, .unset, .unset, .unset, .unset, .unset, .unset, .unset, .unset, .unset] [(.int C0), (.int (0 : Int32)), (.ref ch), (.ref ch)])) _
    refine st3 _ ?_
    show Steps p.tables e below (T3.setTop (mkF m 20 #[.val (.int x0), .val (.int x1), .val (.int x2), .val (.int x3), .val (.int (0 : Int32)), .unset, .unset, .unset, .unset, .unset, .unset, .unset, .unset, .unset, .unset] [(.ref ch)])) _
    refine XS.dup X3.here hx rfl (hb hby at_20) rfl rfl ?_
    show Steps p.tables e below (T3.setTop (mkF m 21 #[.val (.int x0), .val (.int x1), .val (.int x2), .val (.int x3), .val (.int (0 : Int32)), .unset, .unset, .unset, .unset, .unset, .unset, .unset, .unset, .unset, .unset] [(.ref ch), (.ref ch)])) _
    refine XS.iconst X3.here hx rfl (hb hby at_21) ?_
    show Steps p.tables e below (T3.setTop (mkF m 22 #[.val (.int x0), .val (.int x1), .val (.int x2), .val (.int x3), .val (.int (0 : Int32)), .unset, .unset, .unset, .unset, .unset, .unset, .unset, .unset, .unset, .unset] [(.int (1 : Int32)), (.ref ch), (.ref ch)])) _
    refine XS.iloadN X3.here hx rfl (hb hby at_22) rfl ?_
    show Steps p.tables e below (T3.setTop (mkF m 23 #[.val (.int x0), .val (.int x1), .val (.int x2), .val (.int x3), .val (.int (0 : Int32)), .unset, .unset, .unset, .unset, .unset, .unset, .unset, .unset, .unset, .unset] [(.int x2), (.int (1 : Int32)), (.ref ch), (.ref ch)])) _
    refine XS.sipush X3.here hx rfl (hb hby at_23) ?_
    show Steps p.tables e below (T3.setTop (mkF m 26 #[.val (.int x0), .val (.int x1), .val (.int x2), .val (.int x3), .val (.int (0 : Int32)), .unset, .unset, .unset, .unset, .unset, .unset, .unset, .unset, .unset, .unset] [(.int (255 : Int32)), (.int x2), (.int (1 : Int32)), (.ref ch), (.ref ch)])) _
    refine XS.iand X3.here hx rfl (hb hby at_26) rfl ?_
    show Steps p.tables e below (T3.setTop (mkF m 27 #[.val (.int x0), .val (.int x1), .val (.int x2), .val (.int x3), .val (.int (0 : Int32)), .unset, .unset, .unset, .unset, .unset, .unset, .unset, .unset, .unset, .unset] [(.int (x2 &&& (255 : Int32))), (.int (1 : Int32)), (.ref ch), (.ref ch)])) _
    refine XS.i2c X3.here hx rfl (hb hby at_27) rfl ?_
    show Steps p.tables e below (T3.setTop (mkF m 28 #[.val (.int x0), .val (.int x1), .val (.int x2), .val (.int x3), .val (.int (0 : Int32)), .unset, .unset, .unset, .unset, .unset, .unset, .unset, .unset, .unset, .unset] [(.int ((x2 &&& (255 : Int32)).toUInt32.toUInt16.toUInt32.toInt32)), (.int (1 : Int32)), (.ref ch), (.ref ch)])) _
    rw [← e_C1]
    show Steps p.tables e below (T3.setTop (mkF m 28 #[.val (.int x0), .val (.int x1), .val (.int x2), .val (.int x3), .val (.int (0 : Int32)), .unset, .unset, .unset, .unset, .unset, .unset, .unset, .unset, .unset, .unset] [(.int C1), (.int (1 : Int32)), (.ref ch), (.ref ch)])) _
    refine st5 _ ?_
    show Steps p.tables e below (T5.setTop (mkF m 29 #[.val (.int x0), .val (.int x1), .val (.int x2), .val (.int x3), .val (.int (0 : Int32)), .unset, .unset, .unset, .unset, .unset, .unset, .unset, .unset, .unset, .unset] [(.ref ch)])) _
    refine XS.astore X5.here hx rfl (hb hby at_29) rfl rfl (l' := #[.val (.int x0), .val (.int x1), .val (.int x2), .val (.int x3), .val (.int (0 : Int32)), .val (.ref ch), .unset, .unset, .unset, .unset, .unset, .unset, .unset, .unset, .unset]) rfl ?_
    show Steps p.tables e below (T5.setTop (mkF m 31 #[.val (.int x0), .val (.int x1), .val (.int x2), .val (.int x3), .val (.int (0 : Int32)), .val (.ref ch), .unset, .unset, .unset, .unset, .unset, .unset, .unset, .unset, .unset] [])) _
    refine st7 _ ?_
    show Steps p.tables e below (T7.setTop (mkF m 34 #[.val (.int x0), .val (.int x1), .val (.int x2), .val (.int x3), .val (.int (0 : Int32)), .val (.ref ch), .unset, .unset, .unset, .unset, .unset, .unset, .unset, .unset, .unset] [(.ref so)])) _
    refine XS.dup X7.here hx rfl (hb hby at_34) rfl rfl ?_
    show Steps p.tables e below (T7.setTop (mkF m 35 #[.val (.int x0), .val (.int x1), .val (.int x2), .val (.int x3), .val (.int (0 : Int32)), .val (.ref ch), .unset, .unset, .unset, .unset, .unset, .unset, .unset, .unset, .unset] [(.ref so), (.ref so)])) _
    refine XS.aload X7.here hx rfl (hb hby at_35) rfl rfl ?_
    show Steps p.tables e below (T7.setTop (mkF m 37 #[.val (.int x0), .val (.int x1), .val (.int x2), .val (.int x3), .val (.int (0 : Int32)), .val (.ref ch), .unset, .unset, .unset, .unset, .unset, .unset, .unset, .unset, .unset] [(.ref ch), (.ref so), (.ref so)])) _
    refine st9.trans ?_
    show Steps p.tables e below (T9.setTop (mkF m 40 #[.val (.int x0), .val (.int x1), .val (.int x2), .val (.int x3), .val (.int (0 : Int32)), .val (.ref ch), .unset, .unset, .unset, .unset, .unset, .unset, .unset, .unset, .unset] [(.ref so)])) _
    refine XS.astore X9.here hx rfl (hb hby at_40) rfl rfl (l' := #[.val (.int x0), .val (.int x1), .val (.int x2), .val (.int x3), .val (.int (0 : Int32)), .val (.ref ch), .val (.ref so), .unset, .unset, .unset, .unset, .unset, .unset, .unset, .unset]) rfl ?_
    show Steps p.tables e below (T9.setTop (mkF m 42 #[.val (.int x0), .val (.int x1), .val (.int x2), .val (.int x3), .val (.int (0 : Int32)), .val (.ref ch), .val (.ref so), .unset, .unset, .unset, .unset, .unset, .unset, .unset, .unset] [])) _
    refine XS.iloadN X9.here hx rfl (hb hby at_42) rfl ?_
    show Steps p.tables e below (T9.setTop (mkF m 43 #[.val (.int x0), .val (.int x1), .val (.int x2), .val (.int x3), .val (.int (0 : Int32)), .val (.ref ch), .val (.ref so), .unset, .unset, .unset, .unset, .unset, .unset, .unset, .unset] [(.int x1)])) _
    refine XS.bipush X9.here hx rfl (hb hby at_43) ?_
    show Steps p.tables e below (T9.setTop (mkF m 45 #[.val (.int x0), .val (.int x1), .val (.int x2), .val (.int x3), .val (.int (0 : Int32)), .val (.ref ch), .val (.ref so), .unset, .unset, .unset, .unset, .unset, .unset, .unset, .unset] [(.int (8 : Int32)), (.int x1)])) _
    refine XS.iushr X9.here hx rfl (hb hby at_45) rfl ?_
    show Steps p.tables e below (T9.setTop (mkF m 46 #[.val (.int x0), .val (.int x1), .val (.int x2), .val (.int x3), .val (.int (0 : Int32)), .val (.ref ch), .val (.ref so), .unset, .unset, .unset, .unset, .unset, .unset, .unset, .unset] [(.int ((x1.toUInt32 >>> ((8 : Int32) &&& 31).toUInt32).toInt32))])) _
    refine XS.sipush X9.here hx rfl (hb hby at_46) ?_
    show Steps p.tables e below (T9.setTop (mkF m 49 #[.val (.int x0), .val (.int x1), .val (.int x2), .val (.int x3), .val (.int (0 : Int32)), .val (.ref ch), .val (.ref so), .unset, .unset, .unset, .unset, .unset, .unset, .unset, .unset] [(.int (255 : Int32)), (.int ((x1.toUInt32 >>> ((8 : Int32) &&& 31).toUInt32).toInt32))])) _
    refine XS.iand X9.here hx rfl (hb hby at_49) rfl ?_
    show Steps p.tables e below (T9.setTop (mkF m 50 #[.val (.int x0), .val (.int x1), .val (.int x2), .val (.int x3), .val (.int (0 : Int32)), .val (.ref ch), .val (.ref so), .unset, .unset, .unset, .unset, .unset, .unset, .unset, .unset] [(.int (((x1.toUInt32 >>> ((8 : Int32) &&& 31).toUInt32).toInt32) &&& (255 : Int32)))])) _
    refine XS.i2c X9.here hx rfl (hb hby at_50) rfl ?_
    show Steps p.tables e below (T9.setTop (mkF m 51 #[.val (.int x0), .val (.int x1), .val (.int x2), .val (.int x3), .val (.int (0 : Int32)), .val (.ref ch), .val (.ref so), .unset, .unset, .unset, .unset, .unset, .unset, .unset, .unset] [(.int ((((x1.toUInt32 >>> ((8 : Int32) &&& 31).toUInt32).toInt32) &&& (255 : Int32)).toUInt32.toUInt16.toUInt32.toInt32))])) _
    rw [← e_SC]
    show Steps p.tables e below (T9.setTop (mkF m 51 #[.val (.int x0), .val (.int x1), .val (.int x2), .val (.int x3), .val (.int (0 : Int32)), .val (.ref ch), .val (.ref so), .unset, .unset, .unset, .unset, .unset, .unset, .unset, .unset] [(.int SC)])) _
    refine st11 _ ?_
    show Steps p.tables e below (T11.setTop (mkF m 54 #[.val (.int x0), .val (.int x1), .val (.int x2), .val (.int x3), .val (.int (0 : Int32)), .val (.ref ch), .val (.ref so), .unset, .unset, .unset, .unset, .unset, .unset, .unset, .unset] [(.ref se)])) _
    refine XS.astore X11.here hx rfl (hb hby at_54) rfl rfl (l' := #[.val (.int x0), .val (.int x1), .val (.int x2), .val (.int x3), .val (.int (0 : Int32)), .val (.ref ch), .val (.ref so), .val (.ref se), .unset, .unset, .unset, .unset, .unset, .unset, .unset]) rfl ?_
    show Steps p.tables e below (T11.setTop (mkF m 56 #[.val (.int x0), .val (.int x1), .val (.int x2), .val (.int x3), .val (.int (0 : Int32)), .val (.ref ch), .val (.ref so), .val (.ref se), .unset, .unset, .unset, .unset, .unset, .unset, .unset] [])) _
    refine XS.aconstNull X11.here hx rfl (hb hby at_56) ?_
    show Steps p.tables e below (T11.setTop (mkF m 57 #[.val (.int x0), .val (.int x1), .val (.int x2), .val (.int x3), .val (.int (0 : Int32)), .val (.ref ch), .val (.ref so), .val (.ref se), .unset, .unset, .unset, .unset, .unset, .unset, .unset] [.null])) _
    refine XS.astore X11.here hx rfl (hb hby at_57) rfl rfl (l' := #[.val (.int x0), .val (.int x1), .val (.int x2), .val (.int x3), .val (.int (0 : Int32)), .val (.ref ch), .val (.ref so), .val (.ref se), .val .null, .unset, .unset, .unset, .unset, .unset, .unset]) rfl ?_
    show Steps p.tables e below (T11.setTop (mkF m 59 #[.val (.int x0), .val (.int x1), .val (.int x2), .val (.int x3), .val (.int (0 : Int32)), .val (.ref ch), .val (.ref so), .val (.ref se), .val .null, .unset, .unset, .unset, .unset, .unset, .unset] [])) _
    refine XS.aconstNull X11.here hx rfl (hb hby at_59) ?_
    show Steps p.tables e below (T11.setTop (mkF m 60 #[.val (.int x0), .val (.int x1), .val (.int x2), .val (.int x3), .val (.int (0 : Int32)), .val (.ref ch), .val (.ref so), .val (.ref se), .val .null, .unset, .unset, .unset, .unset, .unset, .unset] [.null])) _
    refine XS.astore X11.here hx rfl (hb hby at_60) rfl rfl (l' := #[.val (.int x0), .val (.int x1), .val (.int x2), .val (.int x3), .val (.int (0 : Int32)), .val (.ref ch), .val (.ref so), .val (.ref se), .val .null, .val .null, .unset, .unset, .unset, .unset, .unset]) rfl ?_
    show Steps p.tables e below (T11.setTop (mkF m 62 #[.val (.int x0), .val (.int x1), .val (.int x2), .val (.int x3), .val (.int (0 : Int32)), .val (.ref ch), .val (.ref so), .val (.ref se), .val .null, .val .null, .unset, .unset, .unset, .unset, .unset] [])) _
    refine XS.iload X11.here hx rfl (hb hby at_62) rfl ?_
    show Steps p.tables e below (T11.setTop (mkF m 64 #[.val (.int x0), .val (.int x1), .val (.int x2), .val (.int x3), .val (.int (0 : Int32)), .val (.ref ch), .val (.ref so), .val (.ref se), .val .null, .val .null, .unset, .unset, .unset, .unset, .unset] [(.int (0 : Int32))])) _
    refine XS.iconst X11.here hx rfl (hb hby at_64) ?_
    show Steps p.tables e below (T11.setTop (mkF m 65 #[.val (.int x0), .val (.int x1), .val (.int x2), .val (.int x3), .val (.int (0 : Int32)), .val (.ref ch), .val (.ref so), .val (.ref se), .val .null, .val .null, .unset, .unset, .unset, .unset, .unset] [(.int (1 : Int32)), (.int (0 : Int32))])) _
    refine XS.icmpYes X11.here hx rfl (pc0 := 65) (pc' := 80) rfl (hb hby at_65) rfl (feq (by decide : ¬ ((0 : Int32) = (1 : Int32)))).2 (by decide) (by decide) ?_
    show Steps p.tables e below (T11.setTop (mkF m 80 #[.val (.int x0), .val (.int x1), .val (.int x2), .val (.int x3), .val (.int (0 : Int32)), .val (.ref ch), .val (.ref so), .val (.ref se), .val .null, .val .null, .unset, .unset, .unset, .unset, .unset] [])) _
    refine XS.iload X11.here hx rfl (hb hby at_80) rfl ?_
    show Steps p.tables e below (T11.setTop (mkF m 82 #[.val (.int x0), .val (.int x1), .val (.int x2), .val (.int x3), .val (.int (0 : Int32)), .val (.ref ch), .val (.ref so), .val (.ref se), .val .null, .val .null, .unset, .unset, .unset, .unset, .unset] [(.int (0 : Int32))])) _
    refine XS.iconst X11.here hx rfl (hb hby at_82) ?_
    show Steps p.tables e below (T11.setTop (mkF m 83 #[.val (.int x0), .val (.int x1), .val (.int x2), .val (.int x3), .val (.int (0 : Int32)), .val (.ref ch), .val (.ref so), .val (.ref se), .val .null, .val .null, .unset, .unset, .unset, .unset, .unset] [(.int (2 : Int32)), (.int (0 : Int32))])) _
    refine XS.icmpYes X11.here hx rfl (pc0 := 83) (pc' := 95) rfl (hb hby at_83) rfl (feq (by decide : ¬ ((0 : Int32) = (2 : Int32)))).2 (by decide) (by decide) ?_
    show Steps p.tables e below (T11.setTop (mkF m 95 #[.val (.int x0), .val (.int x1), .val (.int x2), .val (.int x3), .val (.int (0 : Int32)), .val (.ref ch), .val (.ref so), .val (.ref se), .val .null, .val .null, .unset, .unset, .unset, .unset, .unset] [])) _
    refine XS.iloadN X11.here hx rfl (hb hby at_95) rfl ?_
    show Steps p.tables e below (T11.setTop (mkF m 96 #[.val (.int x0), .val (.int x1), .val (.int x2), .val (.int x3), .val (.int (0 : Int32)), .val (.ref ch), .val (.ref so), .val (.ref se), .val .null, .val .null, .unset, .unset, .unset, .unset, .unset] [(.int x3)])) _
    refine XS.iconst X11.here hx rfl (hb hby at_96) ?_
    show Steps p.tables e below (T11.setTop (mkF m 97 #[.val (.int x0), .val (.int x1), .val (.int x2), .val (.int x3), .val (.int (0 : Int32)), .val (.ref ch), .val (.ref so), .val (.ref se), .val .null, .val .null, .unset, .unset, .unset, .unset, .unset] [(.int (1 : Int32)), (.int x3)])) _
    refine XS.iand X11.here hx rfl (hb hby at_97) rfl ?_
    show Steps p.tables e below (T11.setTop (mkF m 98 #[.val (.int x0), .val (.int x1), .val (.int x2), .val (.int x3), .val (.int (0 : Int32)), .val (.ref ch), .val (.ref so), .val (.ref se), .val .null, .val .null, .unset, .unset, .unset, .unset, .unset] [(.int (x3 &&& (1 : Int32)))])) _
    have k13 : ∀ (m13_s0 : Int32) t, ((x3 &&& (1 : Int32)) = (0 : Int32) → m13_s0 = (0 : Int32)) → (¬ ((x3 &&& (1 : Int32)) = (0 : Int32)) → m13_s0 = (1 : Int32)) → Steps p.tables e below (T11.setTop (mkF m 106 #[.val (.int x0), .val (.int x1), .val (.int x2), .val (.int x3), .val (.int (0 : Int32)), .val (.ref ch), .val (.ref so), .val (.ref se), .val .null, .val .null, .unset, .unset, .unset, .unset, .unset] [(.int m13_s0)])) t → Steps p.tables e below (T11.setTop (mkF m 98 #[.val (.int x0), .val (.int x1), .val (.int x2), .val (.int x3), .val (.int (0 : Int32)), .val (.ref ch), .val (.ref so), .val (.ref se), .val .null, .val .null, .unset, .unset, .unset, .unset, .unset] [(.int (x3 &&& (1 : Int32)))])) t := by
      intro m13_s0 t hAm13_s0 hBm13_s0 kk
      by_cases hq98 : (x3 &&& (1 : Int32)) = (0 : Int32)
      · rw [hAm13_s0 hq98] at kk
        refine XS.ifYes X11.here hx rfl (pc0 := 98) (pc' := 105) rfl (hb hby at_98) rfl ((if0 _ _).trans (teq hq98).1) (by decide) (by decide) ?_
        show Steps p.tables e below (T11.setTop (mkF m 105 #[.val (.int x0), .val (.int x1), .val (.int x2), .val (.int x3), .val (.int (0 : Int32)), .val (.ref ch), .val (.ref so), .val (.ref se), .val .null, .val .null, .unset, .unset, .unset, .unset, .unset] [])) _
        refine XS.iconst X11.here hx rfl (hb hby at_105) ?_
        exact kk
      · rw [hBm13_s0 hq98] at kk
        refine XS.ifNo X11.here hx rfl (hb hby at_98) rfl ((if0 _ _).trans (feq hq98).1) ?_
        show Steps p.tables e below (T11.setTop (mkF m 101 #[.val (.int x0), .val (.int x1), .val (.int x2), .val (.int x3), .val (.int (0 : Int32)), .val (.ref ch), .val (.ref so), .val (.ref se), .val .null, .val .null, .unset, .unset, .unset, .unset, .unset] [])) _
        refine XS.iconst X11.here hx rfl (hb hby at_101) ?_
        show Steps p.tables e below (T11.setTop (mkF m 102 #[.val (.int x0), .val (.int x1), .val (.int x2), .val (.int x3), .val (.int (0 : Int32)), .val (.ref ch), .val (.ref so), .val (.ref se), .val .null, .val .null, .unset, .unset, .unset, .unset, .unset] [(.int (1 : Int32))])) _
        refine XS.goto X11.here hx rfl (pc0 := 102) (pc' := 106) rfl (hb hby at_102) (by decide) (by decide) ?_
        exact kk
    refine k13 m13_s0 _ (fun h => by rw [em13_s0, if_pos h]) (fun h => by rw [em13_s0, if_neg h]) ?_
    show Steps p.tables e below (T11.setTop (mkF m 106 #[.val (.int x0), .val (.int x1), .val (.int x2), .val (.int x3), .val (.int (0 : Int32)), .val (.ref ch), .val (.ref so), .val (.ref se), .val .null, .val .null, .unset, .unset, .unset, .unset, .unset] [(.int m13_s0)])) _
    refine XS.istore X11.here hx rfl (hb hby at_106) rfl (l' := #[.val (.int x0), .val (.int x1), .val (.int x2), .val (.int x3), .val (.int (0 : Int32)), .val (.ref ch), .val (.ref so), .val (.ref se), .val .null, .val .null, .val (.int m13_s0), .unset, .unset, .unset, .unset]) rfl ?_
    show Steps p.tables e below (T11.setTop (mkF m 108 #[.val (.int x0), .val (.int x1), .val (.int x2), .val (.int x3), .val (.int (0 : Int32)), .val (.ref ch), .val (.ref so), .val (.ref se), .val .null, .val .null, .val (.int m13_s0), .unset, .unset, .unset, .unset] [])) _
    refine st14 _ ?_
    show Steps p.tables e below (T14.setTop (mkF m 111 #[.val (.int x0), .val (.int x1), .val (.int x2), .val (.int x3), .val (.int (0 : Int32)), .val (.ref ch), .val (.ref so), .val (.ref se), .val .null, .val .null, .val (.int m13_s0), .unset, .unset, .unset, .unset] [(.ref js)])) _
    refine XS.dup X14.here hx rfl (hb hby at_111) rfl rfl ?_
    show Steps p.tables e below (T14.setTop (mkF m 112 #[.val (.int x0), .val (.int x1), .val (.int x2), .val (.int x3), .val (.int (0 : Int32)), .val (.ref ch), .val (.ref so), .val (.ref se), .val .null, .val .null, .val (.int m13_s0), .unset, .unset, .unset, .unset] [(.ref js), (.ref js)])) _
    refine XS.aload X14.here hx rfl (hb hby at_112) rfl rfl ?_
    show Steps p.tables e below (T14.setTop (mkF m 114 #[.val (.int x0), .val (.int x1), .val (.int x2), .val (.int x3), .val (.int (0 : Int32)), .val (.ref ch), .val (.ref so), .val (.ref se), .val .null, .val .null, .val (.int m13_s0), .unset, .unset, .unset, .unset] [(.ref se), (.ref js), (.ref js)])) _
    refine XS.aload X14.here hx rfl (hb hby at_114) rfl rfl ?_
    show Steps p.tables e below (T14.setTop (mkF m 116 #[.val (.int x0), .val (.int x1), .val (.int x2), .val (.int x3), .val (.int (0 : Int32)), .val (.ref ch), .val (.ref so), .val (.ref se), .val .null, .val .null, .val (.int m13_s0), .unset, .unset, .unset, .unset] [.null, (.ref se), (.ref js), (.ref js)])) _
    refine XS.aload X14.here hx rfl (hb hby at_116) rfl rfl ?_
    show Steps p.tables e below (T14.setTop (mkF m 118 #[.val (.int x0), .val (.int x1), .val (.int x2), .val (.int x3), .val (.int (0 : Int32)), .val (.ref ch), .val (.ref so), .val (.ref se), .val .null, .val .null, .val (.int m13_s0), .unset, .unset, .unset, .unset] [.null, .null, (.ref se), (.ref js), (.ref js)])) _
    refine XS.iload X14.here hx rfl (hb hby at_118) rfl ?_
    show Steps p.tables e below (T14.setTop (mkF m 120 #[.val (.int x0), .val (.int x1), .val (.int x2), .val (.int x3), .val (.int (0 : Int32)), .val (.ref ch), .val (.ref so), .val (.ref se), .val .null, .val .null, .val (.int m13_s0), .unset, .unset, .unset, .unset] [(.int m13_s0), .null, .null, (.ref se), (.ref js), (.ref js)])) _
    refine st16.trans ?_
    show Steps p.tables e below (T16.setTop (mkF m 123 #[.val (.int x0), .val (.int x1), .val (.int x2), .val (.int x3), .val (.int (0 : Int32)), .val (.ref ch), .val (.ref so), .val (.ref se), .val .null, .val .null, .val (.int m13_s0), .unset, .unset, .unset, .unset] [(.ref js)])) _
    refine XS.astore X16.here hx rfl (hb hby at_123) rfl rfl (l' := #[.val (.int x0), .val (.int x1), .val (.int x2), .val (.int x3), .val (.int (0 : Int32)), .val (.ref ch), .val (.ref so), .val (.ref se), .val .null, .val .null, .val (.int m13_s0), .val (.ref js), .unset, .unset, .unset]) rfl ?_
    show Steps p.tables e below (T16.setTop (mkF m 125 #[.val (.int x0), .val (.int x1), .val (.int x2), .val (.int x3), .val (.int (0 : Int32)), .val (.ref ch), .val (.ref so), .val (.ref se), .val .null, .val .null, .val (.int m13_s0), .val (.ref js), .unset, .unset, .unset] [])) _
    refine XS.aload X16.here hx rfl (hb hby at_125) rfl rfl ?_
    show Steps p.tables e below (T16.setTop (mkF m 127 #[.val (.int x0), .val (.int x1), .val (.int x2), .val (.int x3), .val (.int (0 : Int32)), .val (.ref ch), .val (.ref so), .val (.ref se), .val .null, .val .null, .val (.int m13_s0), .val (.ref js), .unset, .unset, .unset] [(.ref js)])) _
    refine st18.trans ?_
    show Steps p.tables e below (T18.setTop (mkF m 130 #[.val (.int x0), .val (.int x1), .val (.int x2), .val (.int x3), .val (.int (0 : Int32)), .val (.ref ch), .val (.ref so), .val (.ref se), .val .null, .val .null, .val (.int m13_s0), .val (.ref js), .unset, .unset, .unset] [(.int (0 : Int32))])) _
    refine XS.istore X18.here hx rfl (hb hby at_130) rfl (l' := #[.val (.int x0), .val (.int x1), .val (.int x2), .val (.int x3), .val (.int (0 : Int32)), .val (.ref ch), .val (.ref so), .val (.ref se), .val .null, .val .null, .val (.int m13_s0), .val (.ref js), .val (.int (0 : Int32)), .unset, .unset]) rfl ?_
    show Steps p.tables e below (T18.setTop (mkF m 132 #[.val (.int x0), .val (.int x1), .val (.int x2), .val (.int x3), .val (.int (0 : Int32)), .val (.ref ch), .val (.ref so), .val (.ref se), .val .null, .val .null, .val (.int m13_s0), .val (.ref js), .val (.int (0 : Int32)), .unset, .unset] [])) _
    refine XS.iload X18.here hx rfl (hb hby at_132) rfl ?_
    show Steps p.tables e below (T18.setTop (mkF m 134 #[.val (.int x0), .val (.int x1), .val (.int x2), .val (.int x3), .val (.int (0 : Int32)), .val (.ref ch), .val (.ref so), .val (.ref se), .val .null, .val .null, .val (.int m13_s0), .val (.ref js), .val (.int (0 : Int32)), .unset, .unset] [(.int (0 : Int32))])) _
    refine XS.ifYes X18.here hx rfl (pc0 := 134) (pc' := 141) rfl (hb hby at_134) rfl ((if0 _ _).trans (teq (by decide : (0 : Int32) = (0 : Int32))).1) (by decide) (by decide) ?_
    show Steps p.tables e below (T18.setTop (mkF m 141 #[.val (.int x0), .val (.int x1), .val (.int x2), .val (.int x3), .val (.int (0 : Int32)), .val (.ref ch), .val (.ref so), .val (.ref se), .val .null, .val .null, .val (.int m13_s0), .val (.ref js), .val (.int (0 : Int32)), .unset, .unset] [])) _
    refine XS.iconst X18.here hx rfl (hb hby at_141) ?_
    show Steps p.tables e below (T18.setTop (mkF m 142 #[.val (.int x0), .val (.int x1), .val (.int x2), .val (.int x3), .val (.int (0 : Int32)), .val (.ref ch), .val (.ref so), .val (.ref se), .val .null, .val .null, .val (.int m13_s0), .val (.ref js), .val (.int (0 : Int32)), .unset, .unset] [(.int (0 : Int32))])) _
    refine XS.istore X18.here hx rfl (hb hby at_142) rfl (l' := #[.val (.int x0), .val (.int x1), .val (.int x2), .val (.int x3), .val (.int (0 : Int32)), .val (.ref ch), .val (.ref so), .val (.ref se), .val .null, .val .null, .val (.int m13_s0), .val (.ref js), .val (.int (0 : Int32)), .val (.int (0 : Int32)), .unset]) rfl ?_
    show Steps p.tables e below (T18.setTop (mkF m 144 #[.val (.int x0), .val (.int x1), .val (.int x2), .val (.int x3), .val (.int (0 : Int32)), .val (.ref ch), .val (.ref so), .val (.ref se), .val .null, .val .null, .val (.int m13_s0), .val (.ref js), .val (.int (0 : Int32)), .val (.int (0 : Int32)), .unset] [])) _
    refine XS.aload X18.here hx rfl (hb hby at_144) rfl rfl ?_
    show Steps p.tables e below (T18.setTop (mkF m 146 #[.val (.int x0), .val (.int x1), .val (.int x2), .val (.int x3), .val (.int (0 : Int32)), .val (.ref ch), .val (.ref so), .val (.ref se), .val .null, .val .null, .val (.int m13_s0), .val (.ref js), .val (.int (0 : Int32)), .val (.int (0 : Int32)), .unset] [(.ref js)])) _
    refine st19.trans ?_
    show Steps p.tables e below (T19.setTop (mkF m 149 #[.val (.int x0), .val (.int x1), .val (.int x2), .val (.int x3), .val (.int (0 : Int32)), .val (.ref ch), .val (.ref so), .val (.ref se), .val .null, .val .null, .val (.int m13_s0), .val (.ref js), .val (.int (0 : Int32)), .val (.int (0 : Int32)), .unset] [.null])) _
    refine XS.astore X19.here hx rfl (hb hby at_149) rfl rfl (l' := #[.val (.int x0), .val (.int x1), .val (.int x2), .val (.int x3), .val (.int (0 : Int32)), .val (.ref ch), .val (.ref so), .val (.ref se), .val .null, .val .null, .val (.int m13_s0), .val (.ref js), .val (.int (0 : Int32)), .val (.int (0 : Int32)), .val .null]) rfl ?_
    show Steps p.tables e below (T19.setTop (mkF m 151 #[.val (.int x0), .val (.int x1), .val (.int x2), .val (.int x3), .val (.int (0 : Int32)), .val (.ref ch), .val (.ref so), .val (.ref se), .val .null, .val .null, .val (.int m13_s0), .val (.ref js), .val (.int (0 : Int32)), .val (.int (0 : Int32)), .val .null] [])) _
    refine XS.iload X19.here hx rfl (hb hby at_151) rfl ?_
    show Steps p.tables e below (T19.setTop (mkF m 153 #[.val (.int x0), .val (.int x1), .val (.int x2), .val (.int x3), .val (.int (0 : Int32)), .val (.ref ch), .val (.ref so), .val (.ref se), .val .null, .val .null, .val (.int m13_s0), .val (.ref js), .val (.int (0 : Int32)), .val (.int (0 : Int32)), .val .null] [(.int (0 : Int32))])) _
    refine XS.iload X19.here hx rfl (hb hby at_153) rfl ?_
    show Steps p.tables e below (T19.setTop (mkF m 155 #[.val (.int x0), .val (.int x1), .val (.int x2), .val (.int x3), .val (.int (0 : Int32)), .val (.ref ch), .val (.ref so), .val (.ref se), .val .null, .val .null, .val (.int m13_s0), .val (.ref js), .val (.int (0 : Int32)), .val (.int (0 : Int32)), .val .null] [(.int (0 : Int32)), (.int (0 : Int32))])) _
    refine XS.icmpNo X19.here hx rfl (hb hby at_155) rfl (teq (by decide : (0 : Int32) = (0 : Int32))).2 ?_
    show Steps p.tables e below (T19.setTop (mkF m 158 #[.val (.int x0), .val (.int x1), .val (.int x2), .val (.int x3), .val (.int (0 : Int32)), .val (.ref ch), .val (.ref so), .val (.ref se), .val .null, .val .null, .val (.int m13_s0), .val (.ref js), .val (.int (0 : Int32)), .val (.int (0 : Int32)), .val .null] [])) _
    refine XS.iload X19.here hx rfl (hb hby at_158) rfl ?_
    show Steps p.tables e below (T19.setTop (mkF m 160 #[.val (.int x0), .val (.int x1), .val (.int x2), .val (.int x3), .val (.int (0 : Int32)), .val (.ref ch), .val (.ref so), .val (.ref se), .val .null, .val .null, .val (.int m13_s0), .val (.ref js), .val (.int (0 : Int32)), .val (.int (0 : Int32)), .val .null] [(.int (0 : Int32))])) _
    refine XS.aload X19.here hx rfl (hb hby at_160) rfl rfl ?_
    show Steps p.tables e below (T19.setTop (mkF m 162 #[.val (.int x0), .val (.int x1), .val (.int x2), .val (.int x3), .val (.int (0 : Int32)), .val (.ref ch), .val (.ref so), .val (.ref se), .val .null, .val .null, .val (.int m13_s0), .val (.ref js), .val (.int (0 : Int32)), .val (.int (0 : Int32)), .val .null] [.null, (.int (0 : Int32))])) _
    refine XS.ifnullYes X19.here hx rfl (pc0 := 162) (pc' := 169) rfl (hb hby at_162) rfl (by decide) (by decide) ?_
    show Steps p.tables e below (T19.setTop (mkF m 169 #[.val (.int x0), .val (.int x1), .val (.int x2), .val (.int x3), .val (.int (0 : Int32)), .val (.ref ch), .val (.ref so), .val (.ref se), .val .null, .val .null, .val (.int m13_s0), .val (.ref js), .val (.int (0 : Int32)), .val (.int (0 : Int32)), .val .null] [(.int (0 : Int32))])) _
    refine XS.iconst X19.here hx rfl (hb hby at_169) ?_
    show Steps p.tables e below (T19.setTop (mkF m 170 #[.val (.int x0), .val (.int x1), .val (.int x2), .val (.int x3), .val (.int (0 : Int32)), .val (.ref ch), .val (.ref so), .val (.ref se), .val .null, .val .null, .val (.int m13_s0), .val (.ref js), .val (.int (0 : Int32)), .val (.int (0 : Int32)), .val .null] [(.int (0 : Int32)), (.int (0 : Int32))])) _
    refine XS.icmpNo X19.here hx rfl (hb hby at_170) rfl (teq (by decide : (0 : Int32) = (0 : Int32))).2 ?_
    show Steps p.tables e below (T19.setTop (mkF m 173 #[.val (.int x0), .val (.int x1), .val (.int x2), .val (.int x3), .val (.int (0 : Int32)), .val (.ref ch), .val (.ref so), .val (.ref se), .val .null, .val .null, .val (.int m13_s0), .val (.ref js), .val (.int (0 : Int32)), .val (.int (0 : Int32)), .val .null] [])) _
    refine XS.iconst X19.here hx rfl (hb hby at_173) ?_
    show Steps p.tables e below (T19.setTop (mkF m 174 #[.val (.int x0), .val (.int x1), .val (.int x2), .val (.int x3), .val (.int (0 : Int32)), .val (.ref ch), .val (.ref so), .val (.ref se), .val .null, .val .null, .val (.int m13_s0), .val (.ref js), .val (.int (0 : Int32)), .val (.int (0 : Int32)), .val .null] [(.int (1 : Int32))])) _
    refine XS.goto X19.here hx rfl (pc0 := 174) (pc' := 178) rfl (hb hby at_174) (by decide) (by decide) ?_
    show Steps p.tables e below (T19.setTop (mkF m 178 #[.val (.int x0), .val (.int x1), .val (.int x2), .val (.int x3), .val (.int (0 : Int32)), .val (.ref ch), .val (.ref so), .val (.ref se), .val .null, .val .null, .val (.int m13_s0), .val (.ref js), .val (.int (0 : Int32)), .val (.int (0 : Int32)), .val .null] [(.int (1 : Int32))])) _
    exact retN X19 hx (t := .boolean) Bd.returns (by simp) (hb hby at_178) hr
  · exact ⟨rfl, N19⟩
set_option maxRecDepth 65536 in
set_option maxHeartbeats 40000000 in
theorem rm0_1 (l : Launch) (Z : State) (a0 : Array Value) (hw : ∀ d ∈ tables_1, d.before a0 Z = true) (ws : List Jvm.Cond) (x0 : Int32) (x1 : Int32) (x2 : Int32) (x3 : Int32) (cs : Int32) (u8 d3 s4 : Addr) (h0 : Heap) (n0 : Nat) (Z0 : n0 ≤ h0.size) (hk : ((x0 &&& (2147483647 : Int32)) % (3 : Int32)) = (1 : Int32)) (O0 : Old Z n0 h0) (S_CS : Sta Z Z.heap "java/lang/String" "COMPACT_STRINGS" "Z" (.int cs)) (hcs : ¬ (cs = (0 : Int32))) (S_IN : Sta Z Z.heap "sun/nio/cs/UTF_8" "INSTANCE" "Lsun/nio/cs/UTF_8;" (.ref u8)) (S_U8 : Sta Z Z.heap "java/nio/charset/StandardCharsets" "UTF_8" "Ljava/nio/charset/Charset;" (.ref u8)) (S_D3 : Sta Z Z.heap "com/example/wardgate/wardgate/model/JwtSettings$Cipher" "DES3" "Lcom/example/wardgate/wardgate/model/JwtSettings$Cipher;" (.ref d3)) (S_S4 : Sta Z Z.heap "com/example/wardgate/wardgate/model/JwtSettings$Cipher" "SM4" "Lcom/example/wardgate/wardgate/model/JwtSettings$Cipher;" (.ref s4)) :
    MetFree l x (head1 (Jvm.Cond.code x code maxLocals ret :: ws) room_1) (fun a U => a = #[(.int x0), (.int x1), (.int x2), (.int x3)] ∧ Z.Warmed39 U.vm ∧ U.heap = h0) (fun _ _ _ _ _ => True) (fun _ U o U' => ∃ v L, o = .returned v ∧ (QL n0 v U'.heap L) ∧ FrameEnd U o U' L room_1.cells room_1.slots) := by
  refine MetFree.of_bodySF (plainFor_of_name pn_0) hisR ?_
  intro p e s m args below meth c s₁ Bd hml0 hP hK
  obtain ⟨rfl, hZ, hh⟩ := hP
  have hx := Bd.exec
  have hby := Bd.bytes
  have hml : c.maxLocals = 15 := hml0
  have hown : s.vm.findClass "com/example/wardgate/wardgate/model/JwtSettingsSealsSessionsPinLaw" = some m.cls := findClass_of_methodNamed Bd.named
  have hnm := (name_of_methodNamed Bd.named Bd.method).1
  have X0 : Stand p l e room_1 s m #[(.int x0), (.int x1), (.int x2), (.int x3)] below meth c s₁ [] 0 0 := Stand.of_body Bd
  have e0 : s₁.heap = h0 := by rw [← hh, Bd.state]; rfl
  have N0 := Fr.nil n0
  have pre0 : ∀ t, Steps p.tables e below (s₁.setTop (mkF m 0 #[.val (.int x0), .val (.int x1), .val (.int x2), .val (.int x3), .unset, .unset, .unset, .unset, .unset, .unset, .unset, .unset, .unset, .unset, .unset] [])) t → Steps p.tables e below (s₁.setTop (entryFrame m #[(.int x0), (.int x1), (.int x2), (.int x3)] maxLocals)) t := fun t k => castTop (ef_0 m x0 x1 x2 x3) k
  obtain ⟨T1, h1, k1, X1, e1, E1, A1, st1⟩ := newP X0 hx hZ (hw _ (List.mem_of_getElem? (i := 1) rfl)) e0 (g := (mkF m 9 #[.val (.int x0), .val (.int x1), .val (.int x2), .val (.int x3), .val (.int (1 : Int32)), .unset, .unset, .unset, .unset, .unset, .unset, .unset, .unset, .unset, .unset] [(.int (2 : Int32))])) rfl (hb hby at_9) rfl (by decide) (cap := 2) (by decide) (by decide) (by decide) (by decide)
  obtain ⟨ch, g1⟩ : ∃ z, z = h0.size := ⟨_, rfl⟩
  rw [← g1] at A1 st1
  have V_ch_1 : Arv Z h1 ch k1 .char (2 : Int32) [(.int (0 : Int32)), (.int (0 : Int32))] (.int (0 : Int32)) := (Arv.new A1 (by decide)).pad (pad_rep [] (.int (0 : Int32)) 2)
  have g_ch : n0 ≤ ch := Nat.le_trans Z0 (Nat.le_of_eq g1.symm)
  have old_2 : Old Z n0 h1 := O0.ext E1
  have siz_2 : n0 ≤ h1.size := Nat.le_trans Z0 E1.1
  obtain ⟨C0, e_C0⟩ : ∃ z : Int32, z = ((x1 &&& (255 : Int32)).toUInt32.toUInt16.toUInt32.toInt32) := ⟨_, rfl⟩
  have hC0 : ¬ ((255 : Int32) < C0) := by
    have q1 := c_mask x1 (255 : Int32) 8 (by decide) (by decide)
    have q2 := c_i2c (x1 &&& (255 : Int32))
    have q3 : (255 : Int32).toInt = 255 := rfl
    rw [Int32.lt_iff_toInt_lt, e_C0]; rw [show ((2 ^ 8 : Nat) : Int) = 256 from rfl] at q1; omega
  obtain ⟨T3, h3, L3, X3, e3, N3, W3, V3, st3⟩ := own_stC X1 hx hZ e1 V_ch_1 (j := (0 : Int32)) ⟨by decide, by decide⟩ (i := 0) rfl (Nat.le_of_ble_eq_true rfl) N0 g_ch (g := (mkF m 19 #[.val (.int x0), .val (.int x1), .val (.int x2), .val (.int x3), .val (.int (1 : Int32)), .unset, .unset, .unset, .unset, .unset, .unset, .unset, .unset, .unset, .unset] [(.int C0), (.int (0 : Int32)), (.ref ch), (.ref ch)])) rfl rfl (hb hby at_19)
  have old_4 : Old Z n0 h3 := old_2.wr W3 g_ch
  have siz_4 : n0 ≤ h3.size := Nat.le_trans siz_2 (Keep.of_wr W3).1
  have V_ch_3 : Arv Z h3 ch k1 .char (2 : Int32) [(.int (nar .char C0)), (.int (0 : Int32))] (.int (0 : Int32)) := V3
  have hnC0 : nar .char C0 = C0 := by
    have q4 := c_i2c C0
    have q5 := c_i2c (x1 &&& (255 : Int32))
    rw [← e_C0] at q5
    show C0.toUInt32.toUInt16.toUInt32.toInt32 = C0
    rw [← Int32.toInt_inj]; omega
  rw [hnC0] at V_ch_3
  obtain ⟨C1, e_C1⟩ : ∃ z : Int32, z = ((x2 &&& (255 : Int32)).toUInt32.toUInt16.toUInt32.toInt32) := ⟨_, rfl⟩
  have hC1 : ¬ ((255 : Int32) < C1) := by
    have q1 := c_mask x2 (255 : Int32) 8 (by decide) (by decide)
    have q2 := c_i2c (x2 &&& (255 : Int32))
    have q3 : (255 : Int32).toInt = 255 := rfl
    rw [Int32.lt_iff_toInt_lt, e_C1]; rw [show ((2 ^ 8 : Nat) : Int) = 256 from rfl] at q1; omega
  obtain ⟨T5, h5, L5, X5, e5, N5, W5, V5, st5⟩ := own_stC X3 hx hZ e3 V_ch_3 (j := (1 : Int32)) ⟨by decide, by decide⟩ (i := 1) rfl (Nat.le_of_ble_eq_true rfl) N3 g_ch (g := (mkF m 28 #[.val (.int x0), .val (.int x1), .val (.int x2), .val (.int x3), .val (.int (1 : Int32)), .unset, .unset, .unset, .unset, .unset, .unset, .unset, .unset, .unset, .unset] [(.int C1), (.int (1 : Int32)), (.ref ch), (.ref ch)])) rfl rfl (hb hby at_28)
  have old_6 : Old Z n0 h5 := old_4.wr W5 g_ch
  have siz_6 : n0 ≤ h5.size := Nat.le_trans siz_4 (Keep.of_wr W5).1
  have V_ch_5 : Arv Z h5 ch k1 .char (2 : Int32) [(.int C0), (.int (nar .char C1))] (.int (0 : Int32)) := V5
  have hnC1 : nar .char C1 = C1 := by
    have q4 := c_i2c C1
    have q5 := c_i2c (x2 &&& (255 : Int32))
    rw [← e_C1] at q5
    show C1.toUInt32.toUInt16.toUInt32.toInt32 = C1
    rw [← Int32.toInt_inj]; omega
  rw [hnC1] at V_ch_5
  obtain ⟨T7, h7, X7, e7, E7, A7, D7, -, st7⟩ := newO X5 hx hZ hown (hw _ (List.mem_of_getElem? (i := 2) rfl)) (hw _ (List.mem_of_getElem? (i := 3) rfl)) (hw _ (List.mem_of_getElem? (i := 4) rfl)) e5 (g := (mkF m 31 #[.val (.int x0), .val (.int x1), .val (.int x2), .val (.int x3), .val (.int (1 : Int32)), .val (.ref ch), .unset, .unset, .unset, .unset, .unset, .unset, .unset, .unset, .unset] [])) rfl (hb hby at_31) (by decide) (by decide)
  obtain ⟨so, g7⟩ : ∃ z, z = h5.size := ⟨_, rfl⟩
  rw [← g7] at A7 D7 st7
  have E_so_7 : Exa Z h7 so "java/lang/String" := A7
  have F_coder_so_7 : Fld Z h7 so "java/lang/String" "coder" "B" (.int (0 : Int32)) := D7 (Or.inr (hw _ (List.mem_of_getElem? (i := 28) rfl))) (ty := .byte) (by decide)
  have F_value_so_7 : Fld Z h7 so "java/lang/String" "value" "[B" .null := D7 (Or.inr (hw _ (List.mem_of_getElem? (i := 30) rfl))) (ty := (.array .byte)) (by decide)
  have lt_ch_so : ch < so := Nat.lt_of_lt_of_le V_ch_5.lt (Nat.le_of_eq g7.symm)
  have g_so : n0 ≤ so := Nat.le_trans siz_6 (Nat.le_of_eq g7.symm)
  have old_8 : Old Z n0 h7 := old_6.ext E7
  have siz_8 : n0 ≤ h7.size := Nat.le_trans siz_6 E7.1
  have V_ch_8 : Arv Z h7 ch k1 .char (2 : Int32) [(.int C0), (.int C1)] (.int (0 : Int32)) := V_ch_5.ext E7
  obtain ⟨_, _, ⟨T9, L9, k9, n9⟩, -, X9, ⟨Lc9, hQ9, l9, y9, z9⟩, st9⟩ := X7.specialBack hx (y := (⟨"java/lang/String", "<init>", "([C)V"⟩ : MethodName)) rfl hown (mvT hZ (hw _ (List.mem_of_getElem? (i := 5) rfl))) (mvT hZ (hw _ (List.mem_of_getElem? (i := 6) rfl))) (mvT hZ (hw _ (List.mem_of_getElem? (i := 7) rfl))) (by decide) (backOf (W := 1) (rm1 l Z a0 hw [] so ch k1 C0 C1 cs h7 n0 siz_8 E_so_7 F_value_so_7 F_coder_so_7 V_ch_8 g_so (Ne.symm (Nat.ne_of_lt lt_ch_so)) hC0 hC1 old_8 S_CS hcs) hZ (hw _ (List.mem_of_getElem? (i := 7) rfl)) (hw _ (List.mem_of_getElem? (i := 4) rfl)) (by decide) (by decide)) (g := (mkF m 37 #[.val (.int x0), .val (.int x1), .val (.int x2), .val (.int x3), .val (.int (1 : Int32)), .val (.ref ch), .unset, .unset, .unset, .unset, .unset, .unset, .unset, .unset, .unset] [(.ref ch), (.ref so), (.ref so)])) rfl (by rw [hml]; rfl) (Steps.refl _) (a := so) (argsL := [(.ref ch)]) (rest := [(.ref so)]) (lenOf pd___C_V rfl) rfl (by show 2 * 0 + _ ≤ _; exact Nat.le_of_eq rfl) (hb hby at_37) (fun _ _ => ⟨rfl, e7, (by decide : 2 + 1 ≤ _), (by decide : 6 + 2 ≤ _)⟩)
  dsimp only [Pt.U, Pt.locs, Pt.cells, Pt.slots] at X9 l9 y9 z9 st9 hQ9
  subst l9 y9 z9
  obtain ⟨rfl, N9q, K9, Eq9, va, kv, sv9, Fq9, Fc9, Vq9, Ev9⟩ := hQ9
  have lt_so_va : so < va := Nat.lt_of_lt_of_le E_so_7.lt sv9
  have lt_ch_va : ch < va := Nat.lt_of_lt_of_le V_ch_8.lt sv9
  have old_10 : Old Z n0 T9.heap := old_8.keep K9 (allS g_so (all0))
  have siz_10 : n0 ≤ T9.heap.size := Nat.le_trans siz_8 K9.1
  have V_ch_10 : Arv Z T9.heap ch k1 .char (2 : Int32) [(.int C0), (.int C1)] (.int (0 : Int32)) := V_ch_8.keep K9 (ninS (Nat.ne_of_lt lt_ch_so) nin0)
  have N9 := Fr.app N5 N9q
  obtain ⟨SC, e_SC⟩ : ∃ z : Int32, z = ((((x1.toUInt32 >>> ((8 : Int32) &&& 31).toUInt32).toInt32) &&& (255 : Int32)).toUInt32.toUInt16.toUInt32.toInt32) := ⟨_, rfl⟩
  have hSC : ¬ ((255 : Int32) < SC) := by
    have q1 := c_mask ((x1.toUInt32 >>> ((8 : Int32) &&& 31).toUInt32).toInt32) (255 : Int32) 8 (by decide) (by decide)
    have q2 := c_i2c (((x1.toUInt32 >>> ((8 : Int32) &&& 31).toUInt32).toInt32) &&& (255 : Int32))
    have q3 : (255 : Int32).toInt = 255 := rfl
    rw [Int32.lt_iff_toInt_lt, e_SC]; rw [show ((2 ^ 8 : Nat) : Int) = 256 from rfl] at q1; omega
  obtain ⟨_, _, ⟨T11, L11, k11, n11⟩, -, X11, ⟨Lc11, hQ11, l11, y11, z11⟩, st11⟩ := Jvm.LawKit.callS X9 hx (y := (⟨"java/lang/String", "valueOf", "(C)Ljava/lang/String;"⟩ : MethodName)) hown (mvT hZ (hw _ (List.mem_of_getElem? (i := 31) rfl))) (mvT hZ (hw _ (List.mem_of_getElem? (i := 32) rfl))) (mvT hZ (hw _ (List.mem_of_getElem? (i := 4) rfl))) (mvT hZ (hw _ (List.mem_of_getElem? (i := 33) rfl))) (by decide) (backOf (W := 0) (rm7 l Z a0 hw [] SC cs T9.heap n0 siz_10 hSC old_10 S_CS hcs) hZ (hw _ (List.mem_of_getElem? (i := 33) rfl)) (hw _ (List.mem_of_getElem? (i := 4) rfl)) (by decide) (by decide)) (g := (mkF m 51 #[.val (.int x0), .val (.int x1), .val (.int x2), .val (.int x3), .val (.int (1 : Int32)), .val (.ref ch), .val (.ref so), .unset, .unset, .unset, .unset, .unset, .unset, .unset, .unset] [(.int SC)])) rfl (by rw [hml]; rfl) (argsL := [(.int SC)]) (rest := []) (lenOf pd__C_Ljava_lang_String_ rfl) rfl (by show 2 * 0 + _ ≤ _; exact Nat.le_of_eq rfl) (hb hby at_51) (fun _ _ => ⟨rfl, rfl, (by decide : 3 + 2 ≤ _), (by decide : 8 + 5 ≤ _)⟩)
  dsimp only [Pt.U, Pt.locs, Pt.cells, Pt.slots] at X11 l11 y11 z11 st11 hQ11
  subst l11 y11 z11
  obtain ⟨se, rfl, N11q, K11⟩ := hQ11
  have old_12 : Old Z n0 T11.heap := old_10.keep K11 (all0)
  have siz_12 : n0 ≤ T11.heap.size := Nat.le_trans siz_10 K11.1
  have E_so_12 : Exa Z T11.heap so "java/lang/String" := Eq9.keep K11
  have F_coder_so_12 : Fld Z T11.heap so "java/lang/String" "coder" "B" (.int (0 : Int32)) := Fc9.keep K11 nin0
  have F_value_so_12 : Fld Z T11.heap so "java/lang/String" "value" "[B" (.ref va) := Fq9.keep K11 nin0
  have V_va_12 : Arv Z T11.heap va kv .byte (2 : Int32) [(.int (own_b C0)), (.int (own_b C1))] (.int (0 : Int32)) := Vq9.keep K11 nin0
  have E_va_12 : Exa Z T11.heap va "[B" := Ev9.keep K11
  have N11 := Fr.app N9 N11q
  obtain ⟨T13, X13, e13, st13⟩ := getS2 X11 hx hZ hown (host := "") (Or.inl (hw _ (List.mem_of_getElem? (i := 75) rfl))) Via.refl rfl (own_Sta_old S_D3 old_12) (g := (mkF m 68 #[.val (.int x0), .val (.int x1), .val (.int x2), .val (.int x3), .val (.int (1 : Int32)), .val (.ref ch), .val (.ref so), .val (.ref se), .val .null, .val .null, .unset, .unset, .unset, .unset, .unset] [])) rfl (hb hby at_68)
  obtain ⟨m14_s0, em14_s0⟩ : ∃ z : Int32, z = (if (x3 &&& (1 : Int32)) = (0 : Int32) then (0 : Int32) else (1 : Int32)) := ⟨_, rfl⟩
  obtain ⟨T15, h15, X15, e15, E15, A15, D15, -, st15⟩ := newO X13 hx hZ hown (hw _ (List.mem_of_getElem? (i := 45) rfl)) (hw _ (List.mem_of_getElem? (i := 46) rfl)) (hw _ (List.mem_of_getElem? (i := 47) rfl)) e13 (g := (mkF m 108 #[.val (.int x0), .val (.int x1), .val (.int x2), .val (.int x3), .val (.int (1 : Int32)), .val (.ref ch), .val (.ref so), .val (.ref se), .val (.ref d3), .val (.ref so), .val (.int m14_s0), .unset, .unset, .unset, .unset] [])) rfl (hb hby at_108) (by decide) (by decide)
  obtain ⟨js, g15⟩ : ∃ z, z = T11.heap.size := ⟨_, rfl⟩
  rw [← g15] at A15 D15 st15
  have E_js_15 : Exa Z h15 js "com/example/wardgate/wardgate/model/JwtSettings" := A15
  have F_secret_js_15 : Fld Z h15 js "com/example/wardgate/wardgate/model/JwtSettings" "secret" "Ljava/lang/String;" .null := D15 (Or.inr (hw _ (List.mem_of_getElem? (i := 58) rfl))) (ty := (.object "java/lang/String")) (by decide)
  have F_cipher_js_15 : Fld Z h15 js "com/example/wardgate/wardgate/model/JwtSettings" "cipher" "Lcom/example/wardgate/wardgate/model/JwtSettings$Cipher;" .null := D15 (Or.inr (hw _ (List.mem_of_getElem? (i := 60) rfl))) (ty := (.object "com/example/wardgate/wardgate/model/JwtSettings$Cipher")) (by decide)
  have F_cryptoKey_js_15 : Fld Z h15 js "com/example/wardgate/wardgate/model/JwtSettings" "cryptoKey" "Ljava/lang/String;" .null := D15 (Or.inr (hw _ (List.mem_of_getElem? (i := 62) rfl))) (ty := (.object "java/lang/String")) (by decide)
  have F_checkLogout_js_15 : Fld Z h15 js "com/example/wardgate/wardgate/model/JwtSettings" "checkLogout" "Z" (.int (0 : Int32)) := D15 (Or.inr (hw _ (List.mem_of_getElem? (i := 64) rfl))) (ty := .boolean) (by decide)
  have lt_so_js : so < js := Nat.lt_of_lt_of_le E_so_12.lt (Nat.le_of_eq g15.symm)
  have lt_va_js : va < js := Nat.lt_of_lt_of_le V_va_12.lt (Nat.le_of_eq g15.symm)
  have g_js : n0 ≤ js := Nat.le_trans siz_12 (Nat.le_of_eq g15.symm)
  have old_16 : Old Z n0 h15 := old_12.ext E15
  have siz_16 : n0 ≤ h15.size := Nat.le_trans siz_12 E15.1
  have E_so_16 : Exa Z h15 so "java/lang/String" := E_so_12.ext E15
  have F_coder_so_16 : Fld Z h15 so "java/lang/String" "coder" "B" (.int (0 : Int32)) := F_coder_so_12.ext E15
  have F_value_so_16 : Fld Z h15 so "java/lang/String" "value" "[B" (.ref va) := F_value_so_12.ext E15
  have V_va_16 : Arv Z h15 va kv .byte (2 : Int32) [(.int (own_b C0)), (.int (own_b C1))] (.int (0 : Int32)) := V_va_12.ext E15
  have E_va_16 : Exa Z h15 va "[B" := E_va_12.ext E15
  obtain ⟨_, _, ⟨T17, L17, k17, n17⟩, -, X17, ⟨Lc17, hQ17, l17, y17, z17⟩, st17⟩ := X15.specialBack hx (y := (⟨"com/example/wardgate/wardgate/model/JwtSettings", "<init>", "(Ljava/lang/String;Lcom/example/wardgate/wardgate/model/JwtSettings$Cipher;Ljava/lang/String;Z)V"⟩ : MethodName)) rfl hown (mvT hZ (hw _ (List.mem_of_getElem? (i := 48) rfl))) (mvT hZ (hw _ (List.mem_of_getElem? (i := 49) rfl))) (mvT hZ (hw _ (List.mem_of_getElem? (i := 50) rfl))) (by decide) (backOf (W := 1) (rmj_key l Z a0 hw [] js se d3 so m14_s0 h15 n0 siz_16 E_js_15 F_secret_js_15 F_cipher_js_15 F_cryptoKey_js_15 F_checkLogout_js_15 g_js) hZ (hw _ (List.mem_of_getElem? (i := 50) rfl)) (hw _ (List.mem_of_getElem? (i := 47) rfl)) (by decide) (by decide)) (g := (mkF m 120 #[.val (.int x0), .val (.int x1), .val (.int x2), .val (.int x3), .val (.int (1 : Int32)), .val (.ref ch), .val (.ref so), .val (.ref se), .val (.ref d3), .val (.ref so), .val (.int m14_s0), .unset, .unset, .unset, .unset] [(.int m14_s0), (.ref so), (.ref d3), (.ref se), (.ref js), (.ref js)])) rfl (by rw [hml]; rfl) (Steps.refl _) (a := js) (argsL := [(.ref se), (.ref d3), (.ref so), (.int m14_s0)]) (rest := [(.ref js)]) (lenOf pd__Ljava_lang_String_Lcom_example_wardgate_wardgate_model_JwtSettings_Cipher_Ljava_lang_String_Z_V rfl) rfl (by show 2 * 0 + _ ≤ _; exact Nat.le_of_eq rfl) (hb hby at_120) (fun _ _ => ⟨rfl, e15, (by decide : 6 + 0 ≤ _), (by decide : 17 + 0 ≤ _)⟩)
  dsimp only [Pt.U, Pt.locs, Pt.cells, Pt.slots] at X17 l17 y17 z17 st17 hQ17
  subst l17 y17 z17
  obtain ⟨rfl, N17q, K17, Ej17, Fi17, Fk17⟩ := hQ17
  have old_18 : Old Z n0 T17.heap := old_16.keep K17 (allS g_js (all0))
  have siz_18 : n0 ≤ T17.heap.size := Nat.le_trans siz_16 K17.1
  have E_so_18 : Exa Z T17.heap so "java/lang/String" := E_so_16.keep K17
  have F_coder_so_18 : Fld Z T17.heap so "java/lang/String" "coder" "B" (.int (0 : Int32)) := F_coder_so_16.keep K17 (ninS (Nat.ne_of_lt lt_so_js) nin0)
  have F_value_so_18 : Fld Z T17.heap so "java/lang/String" "value" "[B" (.ref va) := F_value_so_16.keep K17 (ninS (Nat.ne_of_lt lt_so_js) nin0)
  have V_va_18 : Arv Z T17.heap va kv .byte (2 : Int32) [(.int (own_b C0)), (.int (own_b C1))] (.int (0 : Int32)) := V_va_16.keep K17 (ninS (Nat.ne_of_lt lt_va_js) nin0)
  have E_va_18 : Exa Z T17.heap va "[B" := E_va_16.keep K17
  have N17 := Fr.app N11 N17q
  obtain ⟨cq19, kq19, q19a, q19b, q19c⟩ := isOf hZ rfl Ej17
  obtain ⟨_, _, ⟨T19, L19, k19, n19⟩, -, X19, ⟨Lc19, hQ19, l19, y19, z19⟩, st19⟩ := X17.virtualBack hx (y := (⟨"com/example/wardgate/wardgate/model/JwtSettings", "sealsSessions", "()Z"⟩ : MethodName)) (z := (⟨"com/example/wardgate/wardgate/model/JwtSettings", "sealsSessions", "()Z"⟩ : MethodName)) hown (mvT hZ (hw _ (List.mem_of_getElem? (i := 65) rfl))) (mvT hZ (hw _ (List.mem_of_getElem? (i := 66) rfl))) (notFace_of_selects (args := #[]) (mvT hZ (hw _ (List.mem_of_getElem? (i := 68) rfl)))) (mvT hZ (hw _ (List.mem_of_getElem? (i := 68) rfl))) (mvT hZ (hw _ (List.mem_of_getElem? (i := 67) rfl))) (by decide) (backOf (W := 0) (rms_key l Z a0 hw [] js d3 T17.heap n0 siz_18 Fi17) hZ (hw _ (List.mem_of_getElem? (i := 69) rfl)) (hw _ (List.mem_of_getElem? (i := 47) rfl)) (by decide) (by decide)) q19a q19c (g := (mkF m 127 #[.val (.int x0), .val (.int x1), .val (.int x2), .val (.int x3), .val (.int (1 : Int32)), .val (.ref ch), .val (.ref so), .val (.ref se), .val (.ref d3), .val (.ref so), .val (.int m14_s0), .val (.ref js), .unset, .unset, .unset] [(.ref js)])) rfl (by rw [hml]; rfl) (Steps.refl _) (argsL := []) (rest := []) (lenOf pd___Z rfl) rfl (by show 2 * 0 + _ ≤ _; exact Nat.le_of_eq rfl) (hb hby at_127) (fun _ _ => ⟨rfl, rfl, (by decide : 6 + 0 ≤ _), (by decide : 17 + 0 ≤ _)⟩)
  dsimp only [Pt.U, Pt.locs, Pt.cells, Pt.slots] at X19 l19 y19 z19 st19 hQ19
  subst l19 y19 z19
  obtain ⟨rfl, N19q, e19⟩ := hQ19
  have N19 := Fr.app N17 N19q
  obtain ⟨cq20, kq20, q20a, q20b, q20c⟩ := isOf hZ e19 Ej17
  obtain ⟨_, _, ⟨T20, L20, k20, n20⟩, -, X20, ⟨Lc20, hQ20, l20, y20, z20⟩, st20⟩ := X19.virtualBack hx (y := (⟨"com/example/wardgate/wardgate/model/JwtSettings", "sealingKey", "()[B"⟩ : MethodName)) (z := (⟨"com/example/wardgate/wardgate/model/JwtSettings", "sealingKey", "()[B"⟩ : MethodName)) hown (mvT hZ (hw _ (List.mem_of_getElem? (i := 70) rfl))) (mvT hZ (hw _ (List.mem_of_getElem? (i := 71) rfl))) (notFace_of_selects (args := #[]) (mvT hZ (hw _ (List.mem_of_getElem? (i := 73) rfl)))) (mvT hZ (hw _ (List.mem_of_getElem? (i := 73) rfl))) (mvT hZ (hw _ (List.mem_of_getElem? (i := 72) rfl))) (by decide) (backOf (W := 0) (rmk_key l Z a0 hw [] js so u8 va kv (own_b C0) (own_b C1) cs T17.heap n0 siz_18 Fk17 E_so_18 F_value_so_18 F_coder_so_18 V_va_18 E_va_18 old_18 S_CS hcs S_IN S_U8) hZ (hw _ (List.mem_of_getElem? (i := 74) rfl)) (hw _ (List.mem_of_getElem? (i := 47) rfl)) (by decide) (by decide)) q20a q20c (g := (mkF m 146 #[.val (.int x0), .val (.int x1), .val (.int x2), .val (.int x3), .val (.int (1 : Int32)), .val (.ref ch), .val (.ref so), .val (.ref se), .val (.ref d3), .val (.ref so), .val (.int m14_s0), .val (.ref js), .val (.int (1 : Int32)), .val (.int (1 : Int32)), .unset] [(.ref js)])) rfl (by rw [hml]; rfl) (Steps.refl _) (argsL := []) (rest := []) (lenOf pd____B rfl) rfl (by show 2 * 0 + _ ≤ _; exact Nat.le_of_eq rfl) (hb hby at_146) (fun _ _ => ⟨rfl, e19, (by decide : 6 + 2 ≤ _), (by decide : 17 + 7 ≤ _)⟩)
  dsimp only [Pt.U, Pt.locs, Pt.cells, Pt.slots] at X20 l20 y20 z20 st20 hQ20
  subst l20 y20 z20
  obtain ⟨rk, rfl, N20q, K20⟩ := hQ20
  have old_21 : Old Z n0 T20.heap := old_18.keep K20 (all0)
  have siz_21 : n0 ≤ T20.heap.size := Nat.le_trans siz_18 K20.1
  have E_so_21 : Exa Z T20.heap so "java/lang/String" := E_so_18.keep K20
  have F_coder_so_21 : Fld Z T20.heap so "java/lang/String" "coder" "B" (.int (0 : Int32)) := F_coder_so_18.keep K20 nin0
  have F_value_so_21 : Fld Z T20.heap so "java/lang/String" "value" "[B" (.ref va) := F_value_so_18.keep K20 nin0
  have V_va_21 : Arv Z T20.heap va kv .byte (2 : Int32) [(.int (own_b C0)), (.int (own_b C1))] (.int (0 : Int32)) := V_va_18.keep K20 nin0
  have E_va_21 : Exa Z T20.heap va "[B" := E_va_18.keep K20
  have E_js_21 : Exa Z T20.heap js "com/example/wardgate/wardgate/model/JwtSettings" := Ej17.keep K20
  have F_cipher_js_21 : Fld Z T20.heap js "com/example/wardgate/wardgate/model/JwtSettings" "cipher" "Lcom/example/wardgate/wardgate/model/JwtSettings$Cipher;" (.ref d3) := Fi17.keep K20 nin0
  have F_cryptoKey_js_21 : Fld Z T20.heap js "com/example/wardgate/wardgate/model/JwtSettings" "cryptoKey" "Ljava/lang/String;" (.ref so) := Fk17.keep K20 nin0
  have N20 := Fr.app N19 N20q
  obtain ⟨fs, hr, hrun, hended, hW, hsame⟩ := X20.leave (v := some (.int (1 : Int32))) (fun h => by rw [Bd.returns] at h; cases h)
  refine ⟨_, _, pre0 _ ?_, hrun, hended, _, _, rfl, ?_, ⟨_, rfl⟩, hW, hsame.mono (by decide) (by decide)⟩
  · show Steps p.tables e below (s₁.setTop (mkF m 0 #[.val (.int x0), .val (.int x1), .val (.int x2), .val (.int x3), .unset, .unset, .unset, .unset, .unset, .unset, .unset, .unset, .unset, .unset, .unset] [])) _
    refine XS.iloadN X0.here hx rfl (hb hby at_0) rfl ?_
    show Steps p.tables e below (s₁.setTop (mkF m 1 #[.val (.int x0), .val (.int x1), .val (.int x2), .val (.int x3), .unset, .unset, .unset, .unset, .unset, .unset, .unset, .unset, .unset, .unset, .unset] [(.int x0)])) _
    refine X0.ldcInt hx hown (mvT hZ (hw _ (List.mem_of_getElem? (i := 0) rfl))) (g := (mkF m 1 #[.val (.int x0), .val (.int x1), .val (.int x2), .val (.int x3), .unset, .unset, .unset, .unset, .unset, .unset, .unset, .unset, .unset, .unset, .unset] [(.int x0)])) rfl (hb hby at_1) _ ?_
    show Steps p.tables e below (s₁.setTop (mkF m 3 #[.val (.int x0), .val (.int x1), .val (.int x2), .val (.int x3), .unset, .unset, .unset, .unset, .unset, .unset, .unset, .unset, .unset, .unset, .unset] [(.int (2147483647 : Int32)), (.int x0)])) _
    refine XS.iand X0.here hx rfl (hb hby at_3) rfl ?_
    show Steps p.tables e below (s₁.setTop (mkF m 4 #[.val (.int x0), .val (.int x1), .val (.int x2), .val (.int x3), .unset, .unset, .unset, .unset, .unset, .unset, .unset, .unset, .unset, .unset, .unset] [(.int (x0 &&& (2147483647 : Int32)))])) _
    refine XS.iconst X0.here hx rfl (hb hby at_4) ?_
    show Steps p.tables e below (s₁.setTop (mkF m 5 #[.val (.int x0), .val (.int x1), .val (.int x2), .val (.int x3), .unset, .unset, .unset, .unset, .unset, .unset, .unset, .unset, .unset, .unset, .unset] [(.int (3 : Int32)), (.int (x0 &&& (2147483647 : Int32)))])) _
    refine iremM X0 hx rfl (hb hby at_5) rfl (by decide) ?_
    show Steps p.tables e below (s₁.setTop (mkF m 6 #[.val (.int x0), .val (.int x1), .val (.int x2), .val (.int x3), .unset, .unset, .unset, .unset, .unset, .unset, .unset, .unset, .unset, .unset, .unset] [(.int ((x0 &&& (2147483647 : Int32)) % (3 : Int32)))])) _
    rw [hk]
    show Steps p.tables e below (s₁.setTop (mkF m 6 #[.val (.int x0), .val (.int x1), .val (.int x2), .val (.int x3), .unset, .unset, .unset, .unset, .unset, .unset, .unset, .unset, .unset, .unset, .unset] [(.int (1 : Int32))])) _
    refine XS.istore X0.here hx rfl (hb hby at_6) rfl (l' := #[.val (.int x0), .val (.int x1), .val (.int x2), .val (.int x3), .val (.int (1 : Int32)), .unset, .unset, .unset, .unset, .unset, .unset, .unset, .unset, .unset, .unset]) rfl ?_
    show Steps p.tables e below (s₁.setTop (mkF m 8 #[.val (.int x0), .val (.int x1), .val (.int x2), .val (.int x3), .val (.int (1 : Int32)), .unset, .unset, .unset, .unset, .unset, .unset, .unset, .unset, .unset, .unset] [])) _
    refine XS.iconst X0.here hx rfl (hb hby at_8) ?_
    show Steps p.tables e below (s₁.setTop (mkF m 9 #[.val (.int x0), .val (.int x1), .val (.int x2), .val (.int x3), .val (.int (1 : Int32)), .unset, .unset, .unset, .unset, .unset, .unset, .unset, .unset, .unset, .unset] [(.int (2 : Int32))])) _
    refine st1 _ ?_
    show Steps p.tables e below (T1.setTop (mkF m 11 #[.val (.int x0), .val (.int x1), .val (.int x2), .val (.int x3), .val (.int (1 : Int32)), .unset, .unset, .unset, .unset, .unset, .unset, .unset, .unset, .unset, .unset] [(.ref ch)])) _
    refine XS.dup X1.here hx rfl (hb hby at_11) rfl rfl ?_
    show Steps p.tables e below (T1.setTop (mkF m 12 #[.val (.int x0), .val (.int x1), .val (.int x2), .val (.int x3), .val (.int (1 : Int32)), .unset, .unset, .unset, .unset, .unset, .unset, .unset, .unset, .unset, .unset] [(.ref ch), (.ref ch)])) _
    refine XS.iconst X1.here hx rfl (hb hby at_12) ?_
    show Steps p.tables e below (T1.setTop (mkF m 13 #[.val (.int x0), .val (.int x1), .val (.int x2), .val (.int x3), .val (.int (1 : Int32)), .unset, .unset, .unset, .unset, .unset, .unset, .unset, .unset, .unset, .unset] [(.int (0 : Int32)), (.ref ch), (.ref ch)])) _
    refine XS.iloadN X1.here hx rfl (hb hby at_13) rfl ?_
    show Steps p.tables e below (T1.setTop (mkF m 14 #[.val (.int x0), .val (.int x1), .val (.int x2), .val (.int x3), .val (.int (1 : Int32)), .unset, .unset, .unset, .unset, .unset, .unset, .unset, .unset, .unset, .unset] [(.int x1), (.int (0 : Int32)), (.ref ch), (.ref ch)])) _
    refine XS.sipush X1.here hx rfl (hb hby at_14) ?_
    show Steps p.tables e below (T1.setTop (mkF m 17 #[.val (.int x0), .val (.int x1), .val (.int x2), .val (.int x3), .val (.int (1 : Int32)), .unset, .unset, .unset, .unset, .unset, .unset, .unset, .unset, .unset, .unset] [(.int (255 : Int32)), (.int x1), (.int (0 : Int32)), (.ref ch), (.ref ch)])) _
    refine XS.iand X1.here hx rfl (hb hby at_17) rfl ?_
    show Steps p.tables e below (T1.setTop (mkF m 18 #[.val (.int x0), .val (.int x1), .val (.int x2), .val (.int x3), .val (.int (1 : Int32)), .unset, .unset, .unset, .unset, .unset, .unset, .unset, .unset, .unset, .unset] [(.int (x1 &&& (255 : Int32))), (.int (0 : Int32)), (.ref ch), (.ref ch)])) _
    refine XS.i2c X1.here hx rfl (hb hby at_18) rfl ?_
    show Steps p.tables e below (T1.setTop (mkF m 19 #[.val (.int x0), .val (.int x1), .val (.int x2), .val (.int x3), .val (.int (1 : Int32)), .unset, .unset, .unset, .unset, .unset, .unset, .unset, .unset, .unset, .unset] [(.int ((x1 &&& (255 : Int32)).toUInt32.toUInt16.toUInt32.toInt32)), (.int (0 : Int32)), (.ref ch), (.ref ch)])) _
    rw [← e_C0]
    show Steps p.tables e below (T1.setTop (mkF m 19 #[.val (.int x0), .val (.int x1), .val (.int x2), .val (.int x3), .val (.int (1 : Int32)), .unset, .unset, .unset, .unset, .unset, .unset, .unset, .unset, .unset, .unset] [(.int C0), (.int (0 : Int32)), (.ref ch), (.ref ch)])) _
    refine st3 _ ?_
    show Steps p.tables e below (T3.setTop (mkF m 20 #[.val (.int x0), .val (.int x1), .val (.int x2), .val (.int x3), .val (.int (1 : Int32)), .unset, .unset, .unset, .unset, .unset, .unset, .unset, .unset, .unset, .unset] [(.ref ch)])) _
    refine XS.dup X3.here hx rfl (hb hby at_20) rfl rfl ?_
    show Steps p.tables e below (T3.setTop (mkF m 21 #[.val (.int x0), .val (.int x1), .val (.int x2), .val (.int x3), .val (.int (1 : Int32)), .unset, .unset, .unset, .unset, .unset, .unset, .unset, .unset, .unset, .unset] [(.ref ch), (.ref ch)])) _
    refine XS.iconst X3.here hx rfl (hb hby at_21) ?_
    show Steps p.tables e below (T3.setTop (mkF m 22 #[.val (.int x0), .val (.int x1), .val (.int x2), .val (.int x3), .val (.int (1 : Int32)), .unset, .unset, .unset, .unset, .unset, .unset, .unset, .unset, .unset, .unset] [(.int (1 : Int32)), (.ref ch), (.ref ch)])) _
    refine XS.iloadN X3.here hx rfl (hb hby at_22) rfl ?_
    show Steps p.tables e below (T3.setTop (mkF m 23 #[.val (.int x0), .val (.int x1), .val (.int x2), .val (.int x3), .val (.int (1 : Int32)), .unset, .unset, .unset, .unset, .unset, .unset, .unset, .unset, .unset, .unset] [(.int x2), (.int (1 : Int32)), (.ref ch), (.ref ch)])) _
    refine XS.sipush X3.here hx rfl (hb hby at_23) ?_
    show Steps p.tables e below (T3.setTop (mkF m 26 #[.val (.int x0), .val (.int x1), .val (.int x2), .val (.int x3), .val (.int (1 : Int32)), .unset, .unset, .unset, .unset, .unset, .unset, .unset, .unset, .unset, .unset] [(.int (255 : Int32)), (.int x2), (.int (1 : Int32)), (.ref ch), (.ref ch)])) _
    refine XS.iand X3.here hx rfl (hb hby at_26) rfl ?_
    show Steps p.tables e below (T3.setTop (mkF m 27 #[.val (.int x0), .val (.int x1), .val (.int x2), .val (.int x3), .val (.int (1 : Int32)), .unset, .unset, .unset, .unset, .unset, .unset, .unset, .unset, .unset, .unset] [(.int (x2 &&& (255 : Int32))), (.int (1 : Int32)), (.ref ch), (.ref ch)])) _
    refine XS.i2c X3.here hx rfl (hb hby at_27) rfl ?_
    show Steps p.tables e below (T3.setTop (mkF m 28 #[.val (.int x0), .val (.int x1), .val (.int x2), .val (.int x3), .val (.int (1 : Int32)), .unset, .unset, .unset, .unset, .unset, .unset, .unset, .unset, .unset, .unset] [(.int ((x2 &&& (255 : Int32)).toUInt32.toUInt16.toUInt32.toInt32)), (.int (1 : Int32)), (.ref ch), (.ref ch)])) _
    rw [← e_C1]
    show Steps p.tables e below (T3.setTop (mkF m 28 #[.val (.int x0), .val (.int x1), .val (.int x2), .val (.int x3), .val (.int (1 : Int32)), .unset, .unset, .unset, .unset, .unset, .unset, .unset, .unset, .unset, .unset] [(.int C1), (.int (1 : Int32)), (.ref ch), (.ref ch)])) _
    refine st5 _ ?_
    show Steps p.tables e below (T5.setTop (mkF m 29 #[.val (.int x0), .val (.int x1), .val (.int x2), .val (.int x3), .val (.int (1 : Int32)), .unset, .unset, .unset, .unset, .unset, .unset, .unset, .unset, .unset, .unset] [(.ref ch)])) _
    refine XS.astore X5.here hx rfl (hb hby at_29) rfl rfl (l' := #[.val (.int x0), .val (.int x1), .val (.int x2), .val (.int x3), .val (.int (1 : Int32)), .val (.ref ch), .unset, .unset, .unset, .unset, .unset, .unset, .unset, .unset, .unset]) rfl ?_
    show Steps p.tables e below (T5.setTop (mkF m 31 #[.val (.int x0), .val (.int x1), .val (.int x2), .val (.int x3), .val (.int (1 : Int32)), .val (.ref ch), .unset, .unset, .unset, .unset, .unset, .unset, .unset, .unset, .unset] [])) _
    refine st7 _ ?_
    show Steps p.tables e below (T7.setTop (mkF m 34 #[.val (.int x0), .val (.int x1), .val (.int x2), .val (.int x3), .val (.int (1 : Int32)), .val (.ref ch), .unset, .unset, .unset, .unset, .unset, .unset, .unset, .unset, .unset] [(.ref so)])) _
    refine XS.dup X7.here hx rfl (hb hby at_34) rfl rfl ?_
    show Steps p.tables e below (T7.setTop (mkF m 35 #[.val (.int x0), .val (.int x1), .val (.int x2), .val (.int x3), .val (.int (1 : Int32)), .val (.ref ch), .unset, .unset, .unset, .unset, .unset, .unset, .unset, .unset, .unset] [(.ref so), (.ref so)])) _
    refine XS.aload X7.here hx rfl (hb hby at_35) rfl rfl ?_
    show Steps p.tables e below (T7.setTop (mkF m 37 #[.val (.int x0), .val (.int x1), .val (.int x2), .val (.int x3), .val (.int (1 : Int32)), .val (.ref ch), .unset, .unset, .unset, .unset, .unset, .unset, .unset, .unset, .unset] [(.ref ch), (.ref so), (.ref so)])) _
    refine st9.trans ?_
    show Steps p.tables e below (T9.setTop (mkF m 40 #[.val (.int x0), .val (.int x1), .val (.int x2), .val (.int x3), .val (.int (1 : Int32)), .val (.ref ch), .unset, .unset, .unset, .unset, .unset, .unset, .unset, .unset, .unset] [(.ref so)])) _
    refine XS.astore X9.here hx rfl (hb hby at_40) rfl rfl (l' := #[.val (.int x0), .val (.int x1), .val (.int x2), .val (.int x3), .val (.int (1 : Int32)), .val (.ref ch), .val (.ref so), .unset, .unset, .unset, .unset, .unset, .unset, .unset, .unset]) rfl ?_
    show Steps p.tables e below (T9.setTop (mkF m 42 #[.val (.int x0), .val (.int x1), .val (.int x2), .val (.int x3), .val (.int (1 : Int32)), .val (.ref ch), .val (.ref so), .unset, .unset, .unset, .unset, .unset, .unset, .unset, .unset] [])) _
    refine XS.iloadN X9.here hx rfl (hb hby at_42) rfl ?_
    show Steps p.tables e below (T9.setTop (mkF m 43 #[.val (.int x0), .val (.int x1), .val (.int x2), .val (.int x3), .val (.int (1 : Int32)), .val (.ref ch), .val (.ref so), .unset, .unset, .unset, .unset, .unset, .unset, .unset, .unset] [(.int x1)])) _
    refine XS.bipush X9.here hx rfl (hb hby at_43) ?_
    show Steps p.tables e below (T9.setTop (mkF m 45 #[.val (.int x0), .val (.int x1), .val (.int x2), .val (.int x3), .val (.int (1 : Int32)), .val (.ref ch), .val (.ref so), .unset, .unset, .unset, .unset, .unset, .unset, .unset, .unset] [(.int (8 : Int32)), (.int x1)])) _
    refine XS.iushr X9.here hx rfl (hb hby at_45) rfl ?_
    show Steps p.tables e below (T9.setTop (mkF m 46 #[.val (.int x0), .val (.int x1), .val (.int x2), .val (.int x3), .val (.int (1 : Int32)), .val (.ref ch), .val (.ref so), .unset, .unset, .unset, .unset, .unset, .unset, .unset, .unset] [(.int ((x1.toUInt32 >>> ((8 : Int32) &&& 31).toUInt32).toInt32))])) _
    refine XS.sipush X9.here hx rfl (hb hby at_46) ?_
    show Steps p.tables e below (T9.setTop (mkF m 49 #[.val (.int x0), .val (.int x1), .val (.int x2), .val (.int x3), .val (.int (1 : Int32)), .val (.ref ch), .val (.ref so), .unset, .unset, .unset, .unset, .unset, .unset, .unset, .unset] [(.int (255 : Int32)), (.int ((x1.toUInt32 >>> ((8 : Int32) &&& 31).toUInt32).toInt32))])) _
    refine XS.iand X9.here hx rfl (hb hby at_49) rfl ?_
    show Steps p.tables e below (T9.setTop (mkF m 50 #[.val (.int x0), .val (.int x1), .val (.int x2), .val (.int x3), .val (.int (1 : Int32)), .val (.ref ch), .val (.ref so), .unset, .unset, .unset, .unset, .unset, .unset, .unset, .unset] [(.int (((x1.toUInt32 >>> ((8 : Int32) &&& 31).toUInt32).toInt32) &&& (255 : Int32)))])) _
    refine XS.i2c X9.here hx rfl (hb hby at_50) rfl ?_
    show Steps p.tables e below (T9.setTop (mkF m 51 #[.val (.int x0), .val (.int x1), .val (.int x2), .val (.int x3), .val (.int (1 : Int32)), .val (.ref ch), .val (.ref so), .unset, .unset, .unset, .unset, .unset, .unset, .unset, .unset] [(.int ((((x1.toUInt32 >>> ((8 : Int32) &&& 31).toUInt32).toInt32) &&& (255 : Int32)).toUInt32.toUInt16.toUInt32.toInt32))])) _
    rw [← e_SC]
    show Steps p.tables e below (T9.setTop (mkF m 51 #[.val (.int x0), .val (.int x1), .val (.int x2), .val (.int x3), .val (.int (1 : Int32)), .val (.ref ch), .val (.ref so), .unset, .unset, .unset, .unset, .unset, .unset, .unset, .unset] [(.int SC)])) _
    refine st11 _ ?_
    show Steps p.tables e below (T11.setTop (mkF m 54 #[.val (.int x0), .val (.int x1), .val (.int x2), .val (.int x3), .val (.int (1 : Int32)), .val (.ref ch), .val (.ref so), .unset, .unset, .unset, .unset, .unset, .unset, .unset, .unset] [(.ref se)])) _
    refine XS.astore X11.here hx rfl (hb hby at_54) rfl rfl (l' := #[.val (.int x0), .val (.int x1), .val (.int x2), .val (.int x3), .val (.int (1 : Int32)), .val (.ref ch), .val (.ref so), .val (.ref se), .unset, .unset, .unset, .unset, .unset, .unset, .unset]) rfl ?_
    show Steps p.tables e below (T11.setTop (mkF m 56 #[.val (.int x0), .val (.int x1), .val (.int x2), .val (.int x3), .val (.int (1 : Int32)), .val (.ref ch), .val (.ref so), .val (.ref se), .unset, .unset, .unset, .unset, .unset, .unset, .unset] [])) _
    refine XS.aconstNull X11.here hx rfl (hb hby at_56) ?_
    show Steps p.tables e below (T11.setTop (mkF m 57 #[.val (.int x0), .val (.int x1), .val (.int x2), .val (.int x3), .val (.int (1 : Int32)), .val (.ref ch), .val (.ref so), .val (.ref se), .unset, .unset, .unset, .unset, .unset, .unset, .unset] [.null])) _
    refine XS.astore X11.here hx rfl (hb hby at_57) rfl rfl (l' := #[.val (.int x0), .val (.int x1), .val (.int x2), .val (.int x3), .val (.int (1 : Int32)), .val (.ref ch), .val (.ref so), .val (.ref se), .val .null, .unset, .unset, .unset, .unset, .unset, .unset]) rfl ?_
    show Steps p.tables e below (T11.setTop (mkF m 59 #[.val (.int x0), .val (.int x1), .val (.int x2), .val (.int x3), .val (.int (1 : Int32)), .val (.ref ch), .val (.ref so), .val (.ref se), .val .null, .unset, .unset, .unset, .unset, .unset, .unset] [])) _
    refine XS.aconstNull X11.here hx rfl (hb hby at_59) ?_
    show Steps p.tables e below (T11.setTop (mkF m 60 #[.val (.int x0), .val (.int x1), .val (.int x2), .val (.int x3), .val (.int (1 : Int32)), .val (.ref ch), .val (.ref so), .val (.ref se), .val .null, .unset, .unset, .unset, .unset, .unset, .unset] [.null])) _
    refine XS.astore X11.here hx rfl (hb hby at_60) rfl rfl (l' := #[.val (.int x0), .val (.int x1), .val (.int x2), .val (.int x3), .val (.int (1 : Int32)), .val (.ref ch), .val (.ref so), .val (.ref se), .val .null, .val .null, .unset, .unset, .unset, .unset, .unset]) rfl ?_
    show Steps p.tables e below (T11.setTop (mkF m 62 #[.val (.int x0), .val (.int x1), .val (.int x2), .val (.int x3), .val (.int (1 : Int32)), .val (.ref ch), .val (.ref so), .val (.ref se), .val .null, .val .null, .unset, .unset, .unset, .unset, .unset] [])) _
    refine XS.iload X11.here hx rfl (hb hby at_62) rfl ?_
    show Steps p.tables e below (T11.setTop (mkF m 64 #[.val (.int x0), .val (.int x1), .val (.int x2), .val (.int x3), .val (.int (1 : Int32)), .val (.ref ch), .val (.ref so), .val (.ref se), .val .null, .val .null, .unset, .unset, .unset, .unset, .unset] [(.int (1 : Int32))])) _
    refine XS.iconst X11.here hx rfl (hb hby at_64) ?_
    show Steps p.tables e below (T11.setTop (mkF m 65 #[.val (.int x0), .val (.int x1), .val (.int x2), .val (.int x3), .val (.int (1 : Int32)), .val (.ref ch), .val (.ref so), .val (.ref se), .val .null, .val .null, .unset, .unset, .unset, .unset, .unset] [(.int (1 : Int32)), (.int (1 : Int32))])) _
    refine XS.icmpNo X11.here hx rfl (hb hby at_65) rfl (teq (by decide : (1 : Int32) = (1 : Int32))).2 ?_
    show Steps p.tables e below (T11.setTop (mkF m 68 #[.val (.int x0), .val (.int x1), .val (.int x2), .val (.int x3), .val (.int (1 : Int32)), .val (.ref ch), .val (.ref so), .val (.ref se), .val .null, .val .null, .unset, .unset, .unset, .unset, .unset] [])) _
    refine st13 _ ?_
    show Steps p.tables e below (T13.setTop (mkF m 71 #[.val (.int x0), .val (.int x1), .val (.int x2), .val (.int x3), .val (.int (1 : Int32)), .val (.ref ch), .val (.ref so), .val (.ref se), .val .null, .val .null, .unset, .unset, .unset, .unset, .unset] [(.ref d3)])) _
    refine XS.astore X13.here hx rfl (hb hby at_71) rfl rfl (l' := #[.val (.int x0), .val (.int x1), .val (.int x2), .val (.int x3), .val (.int (1 : Int32)), .val (.ref ch), .val (.ref so), .val (.ref se), .val (.ref d3), .val .null, .unset, .unset, .unset, .unset, .unset]) rfl ?_
    show Steps p.tables e below (T13.setTop (mkF m 73 #[.val (.int x0), .val (.int x1), .val (.int x2), .val (.int x3), .val (.int (1 : Int32)), .val (.ref ch), .val (.ref so), .val (.ref se), .val (.ref d3), .val .null, .unset, .unset, .unset, .unset, .unset] [])) _
    refine XS.aload X13.here hx rfl (hb hby at_73) rfl rfl ?_
    show Steps p.tables e below (T13.setTop (mkF m 75 #[.val (.int x0), .val (.int x1), .val (.int x2), .val (.int x3), .val (.int (1 : Int32)), .val (.ref ch), .val (.ref so), .val (.ref se), .val (.ref d3), .val .null, .unset, .unset, .unset, .unset, .unset] [(.ref so)])) _
    refine XS.astore X13.here hx rfl (hb hby at_75) rfl rfl (l' := #[.val (.int x0), .val (.int x1), .val (.int x2), .val (.int x3), .val (.int (1 : Int32)), .val (.ref ch), .val (.ref so), .val (.ref se), .val (.ref d3), .val (.ref so), .unset, .unset, .unset, .unset, .unset]) rfl ?_
    show Steps p.tables e below (T13.setTop (mkF m 77 #[.val (.int x0), .val (.int x1), .val (.int x2), .val (.int x3), .val (.int (1 : Int32)), .val (.ref ch), .val (.ref so), .val (.ref se), .val (.ref d3), .val (.ref so), .unset, .unset, .unset, .unset, .unset] [])) _
    refine XS.goto X13.here hx rfl (pc0 := 77) (pc' := 95) rfl (hb hby at_77) (by decide) (by decide) ?_
    show Steps p.tables e below (T13.setTop (mkF m 95 #[.val (.int x0), .val (.int x1), .val (.int x2), .val (.int x3), .val (.int (1 : Int32)), .val (.ref ch), .val (.ref so), .val (.ref se), .val (.ref d3), .val (.ref so), .unset, .unset, .unset, .unset, .unset] [])) _
    refine XS.iloadN X13.here hx rfl (hb hby at_95) rfl ?_
    show Steps p.tables e below (T13.setTop (mkF m 96 #[.val (.int x0), .val (.int x1), .val (.int x2), .val (.int x3), .val (.int (1 : Int32)), .val (.ref ch), .val (.ref so), .val (.ref se), .val (.ref d3), .val (.ref so), .unset, .unset, .unset, .unset, .unset] [(.int x3)])) _
    refine XS.iconst X13.here hx rfl (hb hby at_96) ?_
    show Steps p.tables e below (T13.setTop (mkF m 97 #[.val (.int x0), .val (.int x1), .val (.int x2), .val (.int x3), .val (.int (1 : Int32)), .val (.ref ch), .val (.ref so), .val (.ref se), .val (.ref d3), .val (.ref so), .unset, .unset, .unset, .unset, .unset] [(.int (1 : Int32)), (.int x3)])) _
    refine XS.iand X13.here hx rfl (hb hby at_97) rfl ?_
    show Steps p.tables e below (T13.setTop (mkF m 98 #[.val (.int x0), .val (.int x1), .val (.int x2), .val (.int x3), .val (.int (1 : Int32)), .val (.ref ch), .val (.ref so), .val (.ref se), .val (.ref d3), .val (.ref so), .unset, .unset, .unset, .unset, .unset] [(.int (x3 &&& (1 : Int32)))])) _
    have k14 : ∀ (m14_s0 : Int32) t, ((x3 &&& (1 : Int32)) = (0 : Int32) → m14_s0 = (0 : Int32)) → (¬ ((x3 &&& (1 : Int32)) = (0 : Int32)) → m14_s0 = (1 : Int32)) → Steps p.tables e below (T13.setTop (mkF m 106 #[.val (.int x0), .val (.int x1), .val (.int x2), .val (.int x3), .val (.int (1 : Int32)), .val (.ref ch), .val (.ref so), .val (.ref se), .val (.ref d3), .val (.ref so), .unset, .unset, .unset, .unset, .unset] [(.int m14_s0)])) t → Steps p.tables e below (T13.setTop (mkF m 98 #[.val (.int x0), .val (.int x1), .val (.int x2), .val (.int x3), .val (.int (1 : Int32)), .val (.ref ch), .val (.ref so), .val (.ref se), .val (.ref d3), .val (.ref so), .unset, .unset, .unset, .unset, .unset] [(.int (x3 &&& (1 : Int32)))])) t := by
      intro m14_s0 t hAm14_s0 hBm14_s0 kk
      by_cases hq98 : (x3 &&& (1 : Int32)) = (0 : Int32)
      · rw [hAm14_s0 hq98] at kk
        refine XS.ifYes X13.here hx rfl (pc0 := 98) (pc' := 105) rfl (hb hby at_98) rfl ((if0 _ _).trans (teq hq98).1) (by decide) (by decide) ?_
        show Steps p.tables e below (T13.setTop (mkF m 105 #[.val (.int x0), .val (.int x1), .val (.int x2), .val (.int x3), .val (.int (1 : Int32)), .val (.ref ch), .val (.ref so), .val (.ref se), .val (.ref d3), .val (.ref so), .unset, .unset, .unset, .unset, .unset] [])) _
        refine XS.iconst X13.here hx rfl (hb hby at_105) ?_
        exact kk
      · rw [hBm14_s0 hq98] at kk
        refine XS.ifNo X13.here hx rfl (hb hby at_98) rfl ((if0 _ _).trans (feq hq98).1) ?_
        show Steps p.tables e below (T13.setTop (mkF m 101 #[.val (.int x0), .val (.int x1), .val (.int x2), .val (.int x3), .val (.int (1 : Int32)), .val (.ref ch), .val (.ref so), .val (.ref se), .val (.ref d3), .val (.ref so), .unset, .unset, .unset, .unset, .unset] [])) _
        refine XS.iconst X13.here hx rfl (hb hby at_101) ?_
        show Steps p.tables e below (T13.setTop (mkF m 102 #[.val (.int x0), .val (.int x1), .val (.int x2), .val (.int x3), .val (.int (1 : Int32)), .val (.ref ch), .val (.ref so), .val (.ref se), .val (.ref d3), .val (.ref so), .unset, .unset, .unset, .unset, .unset] [(.int (1 : Int32))])) _
        refine XS.goto X13.here hx rfl (pc0 := 102) (pc' := 106) rfl (hb hby at_102) (by decide) (by decide) ?_
        exact kk
    refine k14 m14_s0 _ (fun h => by rw [em14_s0, if_pos h]) (fun h => by rw [em14_s0, if_neg h]) ?_
    show Steps p.tables e below (T13.setTop (mkF m 106 #[.val (.int x0), .val (.int x1), .val (.int x2), .val (.int x3), .val (.int (1 : Int32)), .val (.ref ch), .val (.ref so), .val (.ref se), .val (.ref d3), .val (.ref so), .unset, .unset, .unset, .unset, .unset] [(.int m14_s0)])) _
    refine XS.istore X13.here hx rfl (hb hby at_106) rfl (l' := #[.val (.int x0), .val (.int x1), .val (.int x2), .val (.int x3), .val (.int (1 : Int32)), .val (.ref ch), .val (.ref so), .val (.ref se), .val (.ref d3), .val (.ref so), .val (.int m14_s0), .unset, .unset, .unset, .unset]) rfl ?_
    show Steps p.tables e below (T13.setTop (mkF m 108 #[.val (.int x0), .val (.int x1), .val (.int x2), .val (.int x3), .val (.int (1 : Int32)), .val (.ref ch), .val (.ref so), .val (.ref se), .val (.ref d3), .val (.ref so), .val (.int m14_s0), .unset, .unset, .unset, .unset] [])) _
    refine st15 _ ?_
    show Steps p.tables e below (T15.setTop (mkF m 111 #[.val (.int x0), .val (.int x1), .val (.int x2), .val (.int x3), .val (.int (1 : Int32)), .val (.ref ch), .val (.ref so), .val (.ref se), .val (.ref d3), .val (.ref so), .val (.int m14_s0), .unset, .unset, .unset, .unset] [(.ref js)])) _
    refine XS.dup X15.here hx rfl (hb hby at_111) rfl rfl ?_
    show Steps p.tables e below (T15.setTop (mkF m 112 #[.val (.int x0), .val (.int x1), .val (.int x2), .val (.int x3), .val (.int (1 : Int32)), .val (.ref ch), .val (.ref so), .val (.ref se), .val (.ref d3), .val (.ref so), .val (.int m14_s0), .unset, .unset, .unset, .unset] [(.ref js), (.ref js)])) _
    refine XS.aload X15.here hx rfl (hb hby at_112) rfl rfl ?_
    show Steps p.tables e below (T15.setTop (mkF m 114 #[.val (.int x0), .val (.int x1), .val (.int x2), .val (.int x3), .val (.int (1 : Int32)), .val (.ref ch), .val (.ref so), .val (.ref se), .val (.ref d3), .val (.ref so), .val (.int m14_s0), .unset, .unset, .unset, .unset] [(.ref se), (.ref js), (.ref js)])) _
    refine XS.aload X15.here hx rfl (hb hby at_114) rfl rfl ?_
    show Steps p.tables e below (T15.setTop (mkF m 116 #[.val (.int x0), .val (.int x1), .val (.int x2), .val (.int x3), .val (.int (1 : Int32)), .val (.ref ch), .val (.ref so), .val (.ref se), .val (.ref d3), .val (.ref so), .val (.int m14_s0), .unset, .unset, .unset, .unset] [(.ref d3), (.ref se), (.ref js), (.ref js)])) _
    refine XS.aload X15.here hx rfl (hb hby at_116) rfl rfl ?_
    show Steps p.tables e below (T15.setTop (mkF m 118 #[.val (.int x0), .val (.int x1), .val (.int x2), .val (.int x3), .val (.int (1 : Int32)), .val (.ref ch), .val (.ref so), .val (.ref se), .val (.ref d3), .val (.ref so), .val (.int m14_s0), .unset, .unset, .unset, .unset] [(.ref so), (.ref d3), (.ref se), (.ref js), (.ref js)])) _
    refine XS.iload X15.here hx rfl (hb hby at_118) rfl ?_
    show Steps p.tables e below (T15.setTop (mkF m 120 #[.val (.int x0), .val (.int x1), .val (.int x2), .val (.int x3), .val (.int (1 : Int32)), .val (.ref ch), .val (.ref so), .val (.ref se), .val (.ref d3), .val (.ref so), .val (.int m14_s0), .unset, .unset, .unset, .unset] [(.int m14_s0), (.ref so), (.ref d3), (.ref se), (.ref js), (.ref js)])) _
    refine st17.trans ?_
    show Steps p.tables e below (T17.setTop (mkF m 123 #[.val (.int x0), .val (.int x1), .val (.int x2), .val (.int x3), .val (.int (1 : Int32)), .val (.ref ch), .val (.ref so), .val (.ref se), .val (.ref d3), .val (.ref so), .val (.int m14_s0), .unset, .unset, .unset, .unset] [(.ref js)])) _
    refine XS.astore X17.here hx rfl (hb hby at_123) rfl rfl (l' := #[.val (.int x0), .val (.int x1), .val (.int x2), .val (.int x3), .val (.int (1 : Int32)), .val (.ref ch), .val (.ref so), .val (.ref se), .val (.ref d3), .val (.ref so), .val (.int m14_s0), .val (.ref js), .unset, .unset, .unset]) rfl ?_
    show Steps p.tables e below (T17.setTop (mkF m 125 #[.val (.int x0), .val (.int x1), .val (.int x2), .val (.int x3), .val (.int (1 : Int32)), .val (.ref ch), .val (.ref so), .val (.ref se), .val (.ref d3), .val (.ref so), .val (.int m14_s0), .val (.ref js), .unset, .unset, .unset] [])) _
    refine XS.aload X17.here hx rfl (hb hby at_125) rfl rfl ?_
    show Steps p.tables e below (T17.setTop (mkF m 127 #[.val (.int x0), .val (.int x1), .val (.int x2), .val (.int x3), .val (.int (1 : Int32)), .val (.ref ch), .val (.ref so), .val (.ref se), .val (.ref d3), .val (.ref so), .val (.int m14_s0), .val (.ref js), .unset, .unset, .unset] [(.ref js)])) _
    refine st19.trans ?_
    show Steps p.tables e below (T19.setTop (mkF m 130 #[.val (.int x0), .val (.int x1), .val (.int x2), .val (.int x3), .val (.int (1 : Int32)), .val (.ref ch), .val (.ref so), .val (.ref se), .val (.ref d3), .val (.ref so), .val (.int m14_s0), .val (.ref js), .unset, .unset, .unset] [(.int (1 : Int32))])) _
    refine XS.istore X19.here hx rfl (hb hby at_130) rfl (l' := #[.val (.int x0), .val (.int x1), .val (.int x2), .val (.int x3), .val (.int (1 : Int32)), .val (.ref ch), .val (.ref so), .val (.ref se), .val (.ref d3), .val (.ref so), .val (.int m14_s0), .val (.ref js), .val (.int (1 : Int32)), .unset, .unset]) rfl ?_
    show Steps p.tables e below (T19.setTop (mkF m 132 #[.val (.int x0), .val (.int x1), .val (.int x2), .val (.int x3), .val (.int (1 : Int32)), .val (.ref ch), .val (.ref so), .val (.ref se), .val (.ref d3), .val (.ref so), .val (.int m14_s0), .val (.ref js), .val (.int (1 : Int32)), .unset, .unset] [])) _
    refine XS.iload X19.here hx rfl (hb hby at_132) rfl ?_
    show Steps p.tables e below (T19.setTop (mkF m 134 #[.val (.int x0), .val (.int x1), .val (.int x2), .val (.int x3), .val (.int (1 : Int32)), .val (.ref ch), .val (.ref so), .val (.ref se), .val (.ref d3), .val (.ref so), .val (.int m14_s0), .val (.ref js), .val (.int (1 : Int32)), .unset, .unset] [(.int (1 : Int32))])) _
    refine XS.ifNo X19.here hx rfl (hb hby at_134) rfl ((if0 _ _).trans (feq (by decide : ¬ ((1 : Int32) = (0 : Int32)))).1) ?_
    show Steps p.tables e below (T19.setTop (mkF m 137 #[.val (.int x0), .val (.int x1), .val (.int x2), .val (.int x3), .val (.int (1 : Int32)), .val (.ref ch), .val (.ref so), .val (.ref se), .val (.ref d3), .val (.ref so), .val (.int m14_s0), .val (.ref js), .val (.int (1 : Int32)), .unset, .unset] [])) _
    refine XS.iconst X19.here hx rfl (hb hby at_137) ?_
    show Steps p.tables e below (T19.setTop (mkF m 138 #[.val (.int x0), .val (.int x1), .val (.int x2), .val (.int x3), .val (.int (1 : Int32)), .val (.ref ch), .val (.ref so), .val (.ref se), .val (.ref d3), .val (.ref so), .val (.int m14_s0), .val (.ref js), .val (.int (1 : Int32)), .unset, .unset] [(.int (1 : Int32))])) _
    refine XS.goto X19.here hx rfl (pc0 := 138) (pc' := 142) rfl (hb hby at_138) (by decide) (by decide) ?_
    show Steps p.tables e below (T19.setTop (mkF m 142 #[.val (.int x0), .val (.int x1), .val (.int x2), .val (.int x3), .val (.int (1 : Int32)), .val (.ref ch), .val (.ref so), .val (.ref se), .val (.ref d3), .val (.ref so), .val (.int m14_s0), .val (.ref js), .val (.int (1 : Int32)), .unset, .unset] [(.int (1 : Int32))])) _
    refine XS.istore X19.here hx rfl (hb hby at_142) rfl (l' := #[.val (.int x0), .val (.int x1), .val (.int x2), .val (.int x3), .val (.int (1 : Int32)), .val (.ref ch), .val (.ref so), .val (.ref se), .val (.ref d3), .val (.ref so), .val (.int m14_s0), .val (.ref js), .val (.int (1 : Int32)), .val (.int (1 : Int32)), .unset]) rfl ?_
    show Steps p.tables e below (T19.setTop (mkF m 144 #[.val (.int x0), .val (.int x1), .val (.int x2), .val (.int x3), .val (.int (1 : Int32)), .val (.ref ch), .val (.ref so), .val (.ref se), .val (.ref d3), .val (.ref so), .val (.int m14_s0), .val (.ref js), .val (.int (1 : Int32)), .val (.int (1 : Int32)), .unset] [])) _
    refine XS.aload X19.here hx rfl (hb hby at_144) rfl rfl ?_
    show Steps p.tables e below (T19.setTop (mkF m 146 #[.val (.int x0), .val (.int x1), .val (.int x2), .val (.int x3), .val (.int (1 : Int32)), .val (.ref ch), .val (.ref so), .val (.ref se), .val (.ref d3), .val (.ref so), .val (.int m14_s0), .val (.ref js), .val (.int (1 : Int32)), .val (.int (1 : Int32)), .unset] [(.ref js)])) _
    refine st20.trans ?_
    show Steps p.tables e below (T20.setTop (mkF m 149 #[.val (.int x0), .val (.int x1), .val (.int x2), .val (.int x3), .val (.int (1 : Int32)), .val (.ref ch), .val (.ref so), .val (.ref se), .val (.ref d3), .val (.ref so), .val (.int m14_s0), .val (.ref js), .val (.int (1 : Int32)), .val (.int (1 : Int32)), .unset] [(.ref rk)])) _
    refine XS.astore X20.here hx rfl (hb hby at_149) rfl rfl (l' := #[.val (.int x0), .val (.int x1), .val (.int x2), .val (.int x3), .val (.int (1 : Int32)), .val (.ref ch), .val (.ref so), .val (.ref se), .val (.ref d3), .val (.ref so), .val (.int m14_s0), .val (.ref js), .val (.int (1 : Int32)), .val (.int (1 : Int32)), .val (.ref rk)]) rfl ?_
    show Steps p.tables e below (T20.setTop (mkF m 151 #[.val (.int x0), .val (.int x1), .val (.int x2), .val (.int x3), .val (.int (1 : Int32)), .val (.ref ch), .val (.ref so), .val (.ref se), .val (.ref d3), .val (.ref so), .val (.int m14_s0), .val (.ref js), .val (.int (1 : Int32)), .val (.int (1 : Int32)), .val (.ref rk)] [])) _
    refine XS.iload X20.here hx rfl (hb hby at_151) rfl ?_
    show Steps p.tables e below (T20.setTop (mkF m 153 #[.val (.int x0), .val (.int x1), .val (.int x2), .val (.int x3), .val (.int (1 : Int32)), .val (.ref ch), .val (.ref so), .val (.ref se), .val (.ref d3), .val (.ref so), .val (.int m14_s0), .val (.ref js), .val (.int (1 : Int32)), .val (.int (1 : Int32)), .val (.ref rk)] [(.int (1 : Int32))])) _
    refine XS.iload X20.here hx rfl (hb hby at_153) rfl ?_
    show Steps p.tables e below (T20.setTop (mkF m 155 #[.val (.int x0), .val (.int x1), .val (.int x2), .val (.int x3), .val (.int (1 : Int32)), .val (.ref ch), .val (.ref so), .val (.ref se), .val (.ref d3), .val (.ref so), .val (.int m14_s0), .val (.ref js), .val (.int (1 : Int32)), .val (.int (1 : Int32)), .val (.ref rk)] [(.int (1 : Int32)), (.int (1 : Int32))])) _
    refine XS.icmpNo X20.here hx rfl (hb hby at_155) rfl (teq (by decide : (1 : Int32) = (1 : Int32))).2 ?_
    show Steps p.tables e below (T20.setTop (mkF m 158 #[.val (.int x0), .val (.int x1), .val (.int x2), .val (.int x3), .val (.int (1 : Int32)), .val (.ref ch), .val (.ref so), .val (.ref se), .val (.ref d3), .val (.ref so), .val (.int m14_s0), .val (.ref js), .val (.int (1 : Int32)), .val (.int (1 : Int32)), .val (.ref rk)] [])) _
    refine XS.iload X20.here hx rfl (hb hby at_158) rfl ?_
    show Steps p.tables e below (T20.setTop (mkF m 160 #[.val (.int x0), .val (.int x1), .val (.int x2), .val (.int x3), .val (.int (1 : Int32)), .val (.ref ch), .val (.ref so), .val (.ref se), .val (.ref d3), .val (.ref so), .val (.int m14_s0), .val (.ref js), .val (.int (1 : Int32)), .val (.int (1 : Int32)), .val (.ref rk)] [(.int (1 : Int32))])) _
    refine XS.aload X20.here hx rfl (hb hby at_160) rfl rfl ?_
    show Steps p.tables e below (T20.setTop (mkF m 162 #[.val (.int x0), .val (.int x1), .val (.int x2), .val (.int x3), .val (.int (1 : Int32)), .val (.ref ch), .val (.ref so), .val (.ref se), .val (.ref d3), .val (.ref so), .val (.int m14_s0), .val (.ref js), .val (.int (1 : Int32)), .val (.int (1 : Int32)), .val (.ref rk)] [(.ref rk), (.int (1 : Int32))])) _
    refine XS.ifnullNo X20.here hx rfl (hb hby at_162) rfl ?_
    show Steps p.tables e below (T20.setTop (mkF m 165 #[.val (.int x0), .val (.int x1), .val (.int x2), .val (.int x3), .val (.int (1 : Int32)), .val (.ref ch), .val (.ref so), .val (.ref se), .val (.ref d3), .val (.ref so), .val (.int m14_s0), .val (.ref js), .val (.int (1 : Int32)), .val (.int (1 : Int32)), .val (.ref rk)] [(.int (1 : Int32))])) _
    refine XS.iconst X20.here hx rfl (hb hby at_165) ?_
    show Steps p.tables e below (T20.setTop (mkF m 166 #[.val (.int x0), .val (.int x1), .val (.int x2), .val (.int x3), .val (.int (1 : Int32)), .val (.ref ch), .val (.ref so), .val (.ref se), .val (.ref d3), .val (.ref so), .val (.int m14_s0), .val (.ref js), .val (.int (1 : Int32)), .val (.int (1 : Int32)), .val (.ref rk)] [(.int (1 : Int32)), (.int (1 : Int32))])) _
    refine XS.goto X20.here hx rfl (pc0 := 166) (pc' := 170) rfl (hb hby at_166) (by decide) (by decide) ?_
    show Steps p.tables e below (T20.setTop (mkF m 170 #[.val (.int x0), .val (.int x1), .val (.int x2), .val (.int x3), .val (.int (1 : Int32)), .val (.ref ch), .val (.ref so), .val (.ref se), .val (.ref d3), .val (.ref so), .val (.int m14_s0), .val (.ref js), .val (.int (1 : Int32)), .val (.int (1 : Int32)), .val (.ref rk)] [(.int (1 : Int32)), (.int (1 : Int32))])) _
    refine XS.icmpNo X20.here hx rfl (hb hby at_170) rfl (teq (by decide : (1 : Int32) = (1 : Int32))).2 ?_
    show Steps p.tables e below (T20.setTop (mkF m 173 #[.val (.int x0), .val (.int x1), .val (.int x2), .val (.int x3), .val (.int (1 : Int32)), .val (.ref ch), .val (.ref so), .val (.ref se), .val (.ref d3), .val (.ref so), .val (.int m14_s0), .val (.ref js), .val (.int (1 : Int32)), .val (.int (1 : Int32)), .val (.ref rk)] [])) _
    refine XS.iconst X20.here hx rfl (hb hby at_173) ?_
    show Steps p.tables e below (T20.setTop (mkF m 174 #[.val (.int x0), .val (.int x1), .val (.int x2), .val (.int x3), .val (.int (1 : Int32)), .val (.ref ch), .val (.ref so), .val (.ref se), .val (.ref d3), .val (.ref so), .val (.int m14_s0), .val (.ref js), .val (.int (1 : Int32)), .val (.int (1 : Int32)), .val (.ref rk)] [(.int (1 : Int32))])) _
    refine XS.goto X20.here hx rfl (pc0 := 174) (pc' := 178) rfl (hb hby at_174) (by decide) (by decide) ?_
    show Steps p.tables e below (T20.setTop (mkF m 178 #[.val (.int x0), .val (.int x1), .val (.int x2), .val (.int x3), .val (.int (1 : Int32)), .val (.ref ch), .val (.ref so), .val (.ref se), .val (.ref d3), .val (.ref so), .val (.int m14_s0), .val (.ref js), .val (.int (1 : Int32)), .val (.int (1 : Int32)), .val (.ref rk)] [(.int (1 : Int32))])) _
    exact retN X20 hx (t := .boolean) Bd.returns (by simp) (hb hby at_178) hr
  · exact ⟨rfl, N20⟩
set_option maxRecDepth 65536 in
set_option maxHeartbeats 40000000 in
theorem rm0_2 (l : Launch) (Z : State) (a0 : Array Value) (hw : ∀ d ∈ tables_1, d.before a0 Z = true) (ws : List Jvm.Cond) (x0 : Int32) (x1 : Int32) (x2 : Int32) (x3 : Int32) (cs : Int32) (u8 d3 s4 : Addr) (h0 : Heap) (n0 : Nat) (Z0 : n0 ≤ h0.size) (hk : ((x0 &&& (2147483647 : Int32)) % (3 : Int32)) = (2 : Int32)) (O0 : Old Z n0 h0) (S_CS : Sta Z Z.heap "java/lang/String" "COMPACT_STRINGS" "Z" (.int cs)) (hcs : ¬ (cs = (0 : Int32))) (S_IN : Sta Z Z.heap "sun/nio/cs/UTF_8" "INSTANCE" "Lsun/nio/cs/UTF_8;" (.ref u8)) (S_U8 : Sta Z Z.heap "java/nio/charset/StandardCharsets" "UTF_8" "Ljava/nio/charset/Charset;" (.ref u8)) (S_D3 : Sta Z Z.heap "com/example/wardgate/wardgate/model/JwtSettings$Cipher" "DES3" "Lcom/example/wardgate/wardgate/model/JwtSettings$Cipher;" (.ref d3)) (S_S4 : Sta Z Z.heap "com/example/wardgate/wardgate/model/JwtSettings$Cipher" "SM4" "Lcom/example/wardgate/wardgate/model/JwtSettings$Cipher;" (.ref s4)) :
    MetFree l x (head1 (Jvm.Cond.code x code maxLocals ret :: ws) room_1) (fun a U => a = #[(.int x0), (.int x1), (.int x2), (.int x3)] ∧ Z.Warmed39 U.vm ∧ U.heap = h0) (fun _ _ _ _ _ => True) (fun _ U o U' => ∃ v L, o = .returned v ∧ (QL n0 v U'.heap L) ∧ FrameEnd U o U' L room_1.cells room_1.slots) := by
  refine MetFree.of_bodySF (plainFor_of_name pn_0) hisR ?_
  intro p e s m args below meth c s₁ Bd hml0 hP hK
  obtain ⟨rfl, hZ, hh⟩ := hP
  have hx := Bd.exec
  have hby := Bd.bytes
  have hml : c.maxLocals = 15 := hml0
  have hown : s.vm.findClass "com/example/wardgate/wardgate/model/JwtSettingsSealsSessionsPinLaw" = some m.cls := findClass_of_methodNamed Bd.named
  have hnm := (name_of_methodNamed Bd.named Bd.method).1
  have X0 : Stand p l e room_1 s m #[(.int x0), (.int x1), (.int x2), (.int x3)] below meth c s₁ [] 0 0 := Stand.of_body Bd
  have e0 : s₁.heap = h0 := by rw [← hh, Bd.state]; rfl
  have N0 := Fr.nil n0
  have pre0 : ∀ t, Steps p.tables e below (s₁.setTop (mkF m 0 #[.val (.int x0), .val (.int x1), .val (.int x2), .val (.int x3), .unset, .unset, .unset, .unset, .unset, .unset, .unset, .unset, .unset, .unset, .unset] [])) t → Steps p.tables e below (s₁.setTop (entryFrame m #[(.int x0), (.int x1), (.int x2), (.int x3)] maxLocals)) t := fun t k => castTop (ef_0 m x0 x1 x2 x3) k
  obtain ⟨T1, h1, k1, X1, e1, E1, A1, st1⟩ := newP X0 hx hZ (hw _ (List.mem_of_getElem? (i := 1) rfl)) e0 (g := (mkF m 9 #[.val (.int x0), .val (.int x1), .val (.int x2), .val (.int x3), .val (.int (2 : Int32)), .unset, .unset, .unset, .unset, .unset, .unset, .unset, .unset, .unset, .unset] [(.int (2 : Int32))])) rfl (hb hby at_9) rfl (by decide) (cap := 2) (by decide) (by decide) (by decide) (by decide)
  obtain ⟨ch, g1⟩ : ∃ z, z = h0.size := ⟨_, rfl⟩
  rw [← g1] at A1 st1
  have V_ch_1 : Arv Z h1 ch k1 .char (2 : Int32) [(.int (0 : Int32)), (.int (0 : Int32))] (.int (0 : Int32)) := (Arv.new A1 (by decide)).pad (pad_rep [] (.int (0 : Int32)) 2)
  have g_ch : n0 ≤ ch := Nat.le_trans Z0 (Nat.le_of_eq g1.symm)
  have old_2 : Old Z n0 h1 := O0.ext E1
  have siz_2 : n0 ≤ h1.size := Nat.le_trans Z0 E1.1
  obtain ⟨C0, e_C0⟩ : ∃ z : Int32, z = ((x1 &&& (255 : Int32)).toUInt32.toUInt16.toUInt32.toInt32) := ⟨_, rfl⟩
  have hC0 : ¬ ((255 : Int32) < C0) := by
    have q1 := c_mask x1 (255 : Int32) 8 (by decide) (by decide)
    have q2 := c_i2c (x1 &&& (255 : Int32))
    have q3 : (255 : Int32).toInt = 255 := rfl
    rw [Int32.lt_iff_toInt_lt, e_C0]; rw [show ((2 ^ 8 : Nat) : Int) = 256 from rfl] at q1; omega
  obtain ⟨T3, h3, L3, X3, e3, N3, W3, V3, st3⟩ := own_stC X1 hx hZ e1 V_ch_1 (j := (0 : Int32)) ⟨by decide, by decide⟩ (i := 0) rfl (Nat.le_of_ble_eq_true rfl) N0 g_ch (g := (mkF m 19 #[.val (.int x0), .val (.int x1), .val (.int x2), .val (.int x3), .val (.int (2 : Int32)), .unset, .unset, .unset, .unset, .unset, .unset, .unset, .unset, .unset, .unset] [(.int C0), (.int (0 : Int32)), (.ref ch), (.ref ch)])) rfl rfl (hb hby at_19)
  have old_4 : Old Z n0 h3 := old_2.wr W3 g_ch
  have siz_4 : n0 ≤ h3.size := Nat.le_trans siz_2 (Keep.of_wr W3).1
  have V_ch_3 : Arv Z h3 ch k1 .char (2 : Int32) [(.int (nar .char C0)), (.int (0 : Int32))] (.int (0 : Int32)) := V3
  have hnC0 : nar .char C0 = C0 := by
    have q4 := c_i2c C0
    have q5 := c_i2c (x1 &&& (255 : Int32))
    rw [← e_C0] at q5
    show C0.toUInt32.toUInt16.toUInt32.toInt32 = C0
    rw [← Int32.toInt_inj]; omega
  rw [hnC0] at V_ch_3
  obtain ⟨C1, e_C1⟩ : ∃ z : Int32, z = ((x2 &&& (255 : Int32)).toUInt32.toUInt16.toUInt32.toInt32) := ⟨_, rfl⟩
  have hC1 : ¬ ((255 : Int32) < C1) := by
    have q1 := c_mask x2 (255 : Int32) 8 (by decide) (by decide)
    have q2 := c_i2c (x2 &&& (255 : Int32))
    have q3 : (255 : Int32).toInt = 255 := rfl
    rw [Int32.lt_iff_toInt_lt, e_C1]; rw [show ((2 ^ 8 : Nat) : Int) = 256 from rfl] at q1; omega
  obtain ⟨T5, h5, L5, X5, e5, N5, W5, V5, st5⟩ := own_stC X3 hx hZ e3 V_ch_3 (j := (1 : Int32)) ⟨by decide, by decide⟩ (i := 1) rfl (Nat.le_of_ble_eq_true rfl) N3 g_ch (g := (mkF m 28 #[.val (.int x0), .val (.int x1), .val (.int x2), .val (.int x3), .val (.int (2 : Int32)), .unset, .unset, .unset, .unset, .unset, .unset, .unset, .unset, .unset, .unset] [(.int C1), (.int (1 : Int32)), (.ref ch), (.ref ch)])) rfl rfl (hb hby at_28)
  have old_6 : Old Z n0 h5 := old_4.wr W5 g_ch
  have siz_6 : n0 ≤ h5.size := Nat.le_trans siz_4 (Keep.of_wr W5).1
  have V_ch_5 : Arv Z h5 ch k1 .char (2 : Int32) [(.int C0), (.int (nar .char C1))] (.int (0 : Int32)) := V5
  have hnC1 : nar .char C1 = C1 := by
    have q4 := c_i2c C1
    have q5 := c_i2c (x2 &&& (255 : Int32))
    rw [← e_C1] at q5
    show C1.toUInt32.toUInt16.toUInt32.toInt32 = C1
    rw [← Int32.toInt_inj]; omega
  rw [hnC1] at V_ch_5
  obtain ⟨T7, h7, X7, e7, E7, A7, D7, -, st7⟩ := newO X5 hx hZ hown (hw _ (List.mem_of_getElem? (i := 2) rfl)) (hw _ (List.mem_of_getElem? (i := 3) rfl)) (hw _ (List.mem_of_getElem? (i := 4) rfl)) e5 (g := (mkF m 31 #[.val (.int x0), .val (.int x1), .val (.int x2), .val (.int x3), .val (.int (2 : Int32)), .val (.ref ch), .unset, .unset, .unset, .unset, .unset, .unset, .unset, .unset, .unset] [])) rfl (hb hby at_31) (by decide) (by decide)
  obtain ⟨so, g7⟩ : ∃ z, z = h5.size := ⟨_, rfl⟩
  rw [← g7] at A7 D7 st7
  have E_so_7 : Exa Z h7 so "java/lang/String" := A7
  have F_coder_so_7 : Fld Z h7 so "java/lang/String" "coder" "B" (.int (0 : Int32)) := D7 (Or.inr (hw _ (List.mem_of_getElem? (i := 28) rfl))) (ty := .byte) (by decide)
  have F_value_so_7 : Fld Z h7 so "java/lang/String" "value" "[B" .null := D7 (Or.inr (hw _ (List.mem_of_getElem? (i := 30) rfl))) (ty := (.array .byte)) (by decide)
  have lt_ch_so : ch < so := Nat.lt_of_lt_of_le V_ch_5.lt (Nat.le_of_eq g7.symm)
  have g_so : n0 ≤ so := Nat.le_trans siz_6 (Nat.le_of_eq g7.symm)
  have old_8 : Old Z n0 h7 := old_6.ext E7
  have siz_8 : n0 ≤ h7.size := Nat.le_trans siz_6 E7.1
  have V_ch_8 : Arv Z h7 ch k1 .char (2 : Int32) [(.int C0), (.int C1)] (.int (0 : Int32)) := V_ch_5.ext E7
  obtain ⟨_, _, ⟨T9, L9, k9, n9⟩, -, X9, ⟨Lc9, hQ9, l9, y9, z9⟩, st9⟩ := X7.specialBack hx (y := (⟨"java/lang/String", "<init>", "([C)V"⟩ : MethodName)) rfl hown (mvT hZ (hw _ (List.mem_of_getElem? (i := 5) rfl))) (mvT hZ (hw _ (List.mem_of_getElem? (i := 6) rfl))) (mvT hZ (hw _ (List.mem_of_getElem? (i := 7) rfl))) (by decide) (backOf (W := 1) (rm1 l Z a0 hw [] so ch k1 C0 C1 cs h7 n0 siz_8 E_so_7 F_value_so_7 F_coder_so_7 V_ch_8 g_so (Ne.symm (Nat.ne_of_lt lt_ch_so)) hC0 hC1 old_8 S_CS hcs) hZ (hw _ (List.mem_of_getElem? (i := 7) rfl)) (hw _ (List.mem_of_getElem? (i := 4) rfl)) (by decide) (by decide)) (g := (mkF m 37 #[.val (.int x0), .val (.int x1), .val (.int x2), .val (.int x3), .val (.int (2 : Int32)), .val (.ref ch), .unset, .unset, .unset, .unset, .unset, .unset, .unset, .unset, .unset] [(.ref ch), (.ref so), (.ref so)])) rfl (by rw [hml]; rfl) (Steps.refl _) (a := so) (argsL := [(.ref ch)]) (rest := [(.ref so)]) (lenOf pd___C_V rfl) rfl (by show 2 * 0 + _ ≤ _; exact Nat.le_of_eq rfl) (hb hby at_37) (fun _ _ => ⟨rfl, e7, (by decide : 2 + 1 ≤ _), (by decide : 6 + 2 ≤ _)⟩)
  dsimp only [Pt.U, Pt.locs, Pt.cells, Pt.slots] at X9 l9 y9 z9 st9 hQ9
  subst l9 y9 z9
  obtain ⟨rfl, N9q, K9, Eq9, va, kv, sv9, Fq9, Fc9, Vq9, Ev9⟩ := hQ9
  have lt_so_va : so < va := Nat.lt_of_lt_of_le E_so_7.lt sv9
  have lt_ch_va : ch < va := Nat.lt_of_lt_of_le V_ch_8.lt sv9
  have old_10 : Old Z n0 T9.heap := old_8.keep K9 (allS g_so (all0))
  have siz_10 : n0 ≤ T9.heap.size := Nat.le_trans siz_8 K9.1
  have V_ch_10 : Arv Z T9.heap ch k1 .char (2 : Int32) [(.int C0), (.int C1)] (.int (0 : Int32)) := V_ch_8.keep K9 (ninS (Nat.ne_of_lt lt_ch_so) nin0)
  have N9 := Fr.app N5 N9q
  obtain ⟨SC, e_SC⟩ : ∃ z : Int32, z = ((((x1.toUInt32 >>> ((8 : Int32) &&& 31).toUInt32).toInt32) &&& (255 : Int32)).toUInt32.toUInt16.toUInt32.toInt32) := ⟨_, rfl⟩
  have hSC : ¬ ((255 : Int32) < SC) := by
    have q1 := c_mask ((x1.toUInt32 >>> ((8 : Int32) &&& 31).toUInt32).toInt32) (255 : Int32) 8 (by decide) (by decide)
    have q2 := c_i2c (((x1.toUInt32 >>> ((8 : Int32) &&& 31).toUInt32).toInt32) &&& (255 : Int32))
    have q3 : (255 : Int32).toInt = 255 := rfl
    rw [Int32.lt_iff_toInt_lt, e_SC]; rw [show ((2 ^ 8 : Nat) : Int) = 256 from rfl] at q1; omega
  obtain ⟨_, _, ⟨T11, L11, k11, n11⟩, -, X11, ⟨Lc11, hQ11, l11, y11, z11⟩, st11⟩ := Jvm.LawKit.callS X9 hx (y := (⟨"java/lang/String", "valueOf", "(C)Ljava/lang/String;"⟩ : MethodName)) hown (mvT hZ (hw _ (List.mem_of_getElem? (i := 31) rfl))) (mvT hZ (hw _ (List.mem_of_getElem? (i := 32) rfl))) (mvT hZ (hw _ (List.mem_of_getElem? (i := 4) rfl))) (mvT hZ (hw _ (List.mem_of_getElem? (i := 33) rfl))) (by decide) (backOf (W := 0) (rm7 l Z a0 hw [] SC cs T9.heap n0 siz_10 hSC old_10 S_CS hcs) hZ (hw _ (List.mem_of_getElem? (i := 33) rfl)) (hw _ (List.mem_of_getElem? (i := 4) rfl)) (by decide) (by decide)) (g := (mkF m 51 #[.val (.int x0), .val (.int x1), .val (.int x2), .val (.int x3), .val (.int (2 : Int32)), .val (.ref ch), .val (.ref so), .unset, .unset, .unset, .unset, .unset, .unset, .unset, .unset] [(.int SC)])) rfl (by rw [hml]; rfl) (argsL := [(.int SC)]) (rest := []) (lenOf pd__C_Ljava_lang_String_ rfl) rfl (by show 2 * 0 + _ ≤ _; exact Nat.le_of_eq rfl) (hb hby at_51) (fun _ _ => ⟨rfl, rfl, (by decide : 3 + 2 ≤ _), (by decide : 8 + 5 ≤ _)⟩)
  dsimp only [Pt.U, Pt.locs, Pt.cells, Pt.slots] at X11 l11 y11 z11 st11 hQ11
  subst l11 y11 z11
  obtain ⟨se, rfl, N11q, K11⟩ := hQ11
  have old_12 : Old Z n0 T11.heap := old_10.keep K11 (all0)
  have siz_12 : n0 ≤ T11.heap.size := Nat.le_trans siz_10 K11.1
  have E_so_12 : Exa Z T11.heap so "java/lang/String" := Eq9.keep K11
  have F_coder_so_12 : Fld Z T11.heap so "java/lang/String" "coder" "B" (.int (0 : Int32)) := Fc9.keep K11 nin0
  have F_value_so_12 : Fld Z T11.heap so "java/lang/String" "value" "[B" (.ref va) := Fq9.keep K11 nin0
  have V_va_12 : Arv Z T11.heap va kv .byte (2 : Int32) [(.int (own_b C0)), (.int (own_b C1))] (.int (0 : Int32)) := Vq9.keep K11 nin0
  have E_va_12 : Exa Z T11.heap va "[B" := Ev9.keep K11
  have N11 := Fr.app N9 N11q
  obtain ⟨T13, X13, e13, st13⟩ := getS2 X11 hx hZ hown (host := "") (Or.inl (hw _ (List.mem_of_getElem? (i := 133) rfl))) Via.refl rfl (own_Sta_old S_S4 old_12) (g := (mkF m 86 #[.val (.int x0), .val (.int x1), .val (.int x2), .val (.int x3), .val (.int (2 : Int32)), .val (.ref ch), .val (.ref so), .val (.ref se), .val .null, .val .null, .unset, .unset, .unset, .unset, .unset] [])) rfl (hb hby at_86)
  obtain ⟨m14_s0, em14_s0⟩ : ∃ z : Int32, z = (if (x3 &&& (1 : Int32)) = (0 : Int32) then (0 : Int32) else (1 : Int32)) := ⟨_, rfl⟩
  obtain ⟨T15, h15, X15, e15, E15, A15, D15, -, st15⟩ := newO X13 hx hZ hown (hw _ (List.mem_of_getElem? (i := 45) rfl)) (hw _ (List.mem_of_getElem? (i := 46) rfl)) (hw _ (List.mem_of_getElem? (i := 47) rfl)) e13 (g := (mkF m 108 #[.val (.int x0), .val (.int x1), .val (.int x2), .val (.int x3), .val (.int (2 : Int32)), .val (.ref ch), .val (.ref so), .val (.ref se), .val (.ref s4), .val (.ref so), .val (.int m14_s0), .unset, .unset, .unset, .unset] [])) rfl (hb hby at_108) (by decide) (by decide)
  obtain ⟨js, g15⟩ : ∃ z, z = T11.heap.size := ⟨_, rfl⟩
  rw [← g15] at A15 D15 st15
  have E_js_15 : Exa Z h15 js "com/example/wardgate/wardgate/model/JwtSettings" := A15
  have F_secret_js_15 : Fld Z h15 js "com/example/wardgate/wardgate/model/JwtSettings" "secret" "Ljava/lang/String;" .null := D15 (Or.inr (hw _ (List.mem_of_getElem? (i := 58) rfl))) (ty := (.object "java/lang/String")) (by decide)
  have F_cipher_js_15 : Fld Z h15 js "com/example/wardgate/wardgate/model/JwtSettings" "cipher" "Lcom/example/wardgate/wardgate/model/JwtSettings$Cipher;" .null := D15 (Or.inr (hw _ (List.mem_of_getElem? (i := 60) rfl))) (ty := (.object "com/example/wardgate/wardgate/model/JwtSettings$Cipher")) (by decide)
  have F_cryptoKey_js_15 : Fld Z h15 js "com/example/wardgate/wardgate/model/JwtSettings" "cryptoKey" "Ljava/lang/String;" .null := D15 (Or.inr (hw _ (List.mem_of_getElem? (i := 62) rfl))) (ty := (.object "java/lang/String")) (by decide)
  have F_checkLogout_js_15 : Fld Z h15 js "com/example/wardgate/wardgate/model/JwtSettings" "checkLogout" "Z" (.int (0 : Int32)) := D15 (Or.inr (hw _ (List.mem_of_getElem? (i := 64) rfl))) (ty := .boolean) (by decide)
  have lt_so_js : so < js := Nat.lt_of_lt_of_le E_so_12.lt (Nat.le_of_eq g15.symm)
  have lt_va_js : va < js := Nat.lt_of_lt_of_le V_va_12.lt (Nat.le_of_eq g15.symm)
  have g_js : n0 ≤ js := Nat.le_trans siz_12 (Nat.le_of_eq g15.symm)
  have old_16 : Old Z n0 h15 := old_12.ext E15
  have siz_16 : n0 ≤ h15.size := Nat.le_trans siz_12 E15.1
  have E_so_16 : Exa Z h15 so "java/lang/String" := E_so_12.ext E15
  have F_coder_so_16 : Fld Z h15 so "java/lang/String" "coder" "B" (.int (0 : Int32)) := F_coder_so_12.ext E15
  have F_value_so_16 : Fld Z h15 so "java/lang/String" "value" "[B" (.ref va) := F_value_so_12.ext E15
  have V_va_16 : Arv Z h15 va kv .byte (2 : Int32) [(.int (own_b C0)), (.int (own_b C1))] (.int (0 : Int32)) := V_va_12.ext E15
  have E_va_16 : Exa Z h15 va "[B" := E_va_12.ext E15
  obtain ⟨_, _, ⟨T17, L17, k17, n17⟩, -, X17, ⟨Lc17, hQ17, l17, y17, z17⟩, st17⟩ := X15.specialBack hx (y := (⟨"com/example/wardgate/wardgate/model/JwtSettings", "<init>", "(Ljava/lang/String;Lcom/example/wardgate/wardgate/model/JwtSettings$Cipher;Ljava/lang/String;Z)V"⟩ : MethodName)) rfl hown (mvT hZ (hw _ (List.mem_of_getElem? (i := 48) rfl))) (mvT hZ (hw _ (List.mem_of_getElem? (i := 49) rfl))) (mvT hZ (hw _ (List.mem_of_getElem? (i := 50) rfl))) (by decide) (backOf (W := 1) (rmj_key l Z a0 hw [] js se s4 so m14_s0 h15 n0 siz_16 E_js_15 F_secret_js_15 F_cipher_js_15 F_cryptoKey_js_15 F_checkLogout_js_15 g_js) hZ (hw _ (List.mem_of_getElem? (i := 50) rfl)) (hw _ (List.mem_of_getElem? (i := 47) rfl)) (by decide) (by decide)) (g := (mkF m 120 #[.val (.int x0), .val (.int x1), .val (.int x2), .val (.int x3), .val (.int (2 : Int32)), .val (.ref ch), .val (.ref so), .val (.ref se), .val (.ref s4), .val (.ref so), .val (.int m14_s0), .unset, .unset, .unset, .unset] [(.int m14_s0), (.ref so), (.ref s4), (.ref se), (.ref js), (.ref js)])) rfl (by rw [hml]; rfl) (Steps.refl _) (a := js) (argsL := [(.ref se), (.ref s4), (.ref so), (.int m14_s0)]) (rest := [(.ref js)]) (lenOf pd__Ljava_lang_String_Lcom_example_wardgate_wardgate_model_JwtSettings_Cipher_Ljava_lang_String_Z_V rfl) rfl (by show 2 * 0 + _ ≤ _; exact Nat.le_of_eq rfl) (hb hby at_120) (fun _ _ => ⟨rfl, e15, (by decide : 6 + 0 ≤ _), (by decide : 17 + 0 ≤ _)⟩)
  dsimp only [Pt.U, Pt.locs, Pt.cells, Pt.slots] at X17 l17 y17 z17 st17 hQ17
  subst l17 y17 z17
  obtain ⟨rfl, N17q, K17, Ej17, Fi17, Fk17⟩ := hQ17
  have old_18 : Old Z n0 T17.heap := old_16.keep K17 (allS g_js (all0))
  have siz_18 : n0 ≤ T17.heap.size := Nat.le_trans siz_16 K17.1
  have E_so_18 : Exa Z T17.heap so "java/lang/String" := E_so_16.keep K17
  have F_coder_so_18 : Fld Z T17.heap so "java/lang/String" "coder" "B" (.int (0 : Int32)) := F_coder_so_16.keep K17 (ninS (Nat.ne_of_lt lt_so_js) nin0)
  have F_value_so_18 : Fld Z T17.heap so "java/lang/String" "value" "[B" (.ref va) := F_value_so_16.keep K17 (ninS (Nat.ne_of_lt lt_so_js) nin0)
  have V_va_18 : Arv Z T17.heap va kv .byte (2 : Int32) [(.int (own_b C0)), (.int (own_b C1))] (.int (0 : Int32)) := V_va_16.keep K17 (ninS (Nat.ne_of_lt lt_va_js) nin0)
  have E_va_18 : Exa Z T17.heap va "[B" := E_va_16.keep K17
  have N17 := Fr.app N11 N17q
  obtain ⟨cq19, kq19, q19a, q19b, q19c⟩ := isOf hZ rfl Ej17
  obtain ⟨_, _, ⟨T19, L19, k19, n19⟩, -, X19, ⟨Lc19, hQ19, l19, y19, z19⟩, st19⟩ := X17.virtualBack hx (y := (⟨"com/example/wardgate/wardgate/model/JwtSettings", "sealsSessions", "()Z"⟩ : MethodName)) (z := (⟨"com/example/wardgate/wardgate/model/JwtSettings", "sealsSessions", "()Z"⟩ : MethodName)) hown (mvT hZ (hw _ (List.mem_of_getElem? (i := 65) rfl))) (mvT hZ (hw _ (List.mem_of_getElem? (i := 66) rfl))) (notFace_of_selects (args := #[]) (mvT hZ (hw _ (List.mem_of_getElem? (i := 68) rfl)))) (mvT hZ (hw _ (List.mem_of_getElem? (i := 68) rfl))) (mvT hZ (hw _ (List.mem_of_getElem? (i := 67) rfl))) (by decide) (backOf (W := 0) (rms_key l Z a0 hw [] js s4 T17.heap n0 siz_18 Fi17) hZ (hw _ (List.mem_of_getElem? (i := 69) rfl)) (hw _ (List.mem_of_getElem? (i := 47) rfl)) (by decide) (by decide)) q19a q19c (g := (mkF m 127 #[.val (.int x0), .val (.int x1), .val (.int x2), .val (.int x3), .val (.int (2 : Int32)), .val (.ref ch), .val (.ref so), .val (.ref se), .val (.ref s4), .val (.ref so), .val (.int m14_s0), .val (.ref js), .unset, .unset, .unset] [(.ref js)])) rfl (by rw [hml]; rfl) (Steps.refl _) (argsL := []) (rest := []) (lenOf pd___Z rfl) rfl (by show 2 * 0 + _ ≤ _; exact Nat.le_of_eq rfl) (hb hby at_127) (fun _ _ => ⟨rfl, rfl, (by decide : 6 + 0 ≤ _), (by decide : 17 + 0 ≤ _)⟩)
  dsimp only [Pt.U, Pt.locs, Pt.cells, Pt.slots] at X19 l19 y19 z19 st19 hQ19
  subst l19 y19 z19
  obtain ⟨rfl, N19q, e19⟩ := hQ19
  have N19 := Fr.app N17 N19q
  obtain ⟨cq20, kq20, q20a, q20b, q20c⟩ := isOf hZ e19 Ej17
  obtain ⟨_, _, ⟨T20, L20, k20, n20⟩, -, X20, ⟨Lc20, hQ20, l20, y20, z20⟩, st20⟩ := X19.virtualBack hx (y := (⟨"com/example/wardgate/wardgate/model/JwtSettings", "sealingKey", "()[B"⟩ : MethodName)) (z := (⟨"com/example/wardgate/wardgate/model/JwtSettings", "sealingKey", "()[B"⟩ : MethodName)) hown (mvT hZ (hw _ (List.mem_of_getElem? (i := 70) rfl))) (mvT hZ (hw _ (List.mem_of_getElem? (i := 71) rfl))) (notFace_of_selects (args := #[]) (mvT hZ (hw _ (List.mem_of_getElem? (i := 73) rfl)))) (mvT hZ (hw _ (List.mem_of_getElem? (i := 73) rfl))) (mvT hZ (hw _ (List.mem_of_getElem? (i := 72) rfl))) (by decide) (backOf (W := 0) (rmk_key l Z a0 hw [] js so u8 va kv (own_b C0) (own_b C1) cs T17.heap n0 siz_18 Fk17 E_so_18 F_value_so_18 F_coder_so_18 V_va_18 E_va_18 old_18 S_CS hcs S_IN S_U8) hZ (hw _ (List.mem_of_getElem? (i := 74) rfl)) (hw _ (List.mem_of_getElem? (i := 47) rfl)) (by decide) (by decide)) q20a q20c (g := (mkF m 146 #[.val (.int x0), .val (.int x1), .val (.int x2), .val (.int x3), .val (.int (2 : Int32)), .val (.ref ch), .val (.ref so), .val (.ref se), .val (.ref s4), .val (.ref so), .val (.int m14_s0), .val (.ref js), .val (.int (1 : Int32)), .val (.int (1 : Int32)), .unset] [(.ref js)])) rfl (by rw [hml]; rfl) (Steps.refl _) (argsL := []) (rest := []) (lenOf pd____B rfl) rfl (by show 2 * 0 + _ ≤ _; exact Nat.le_of_eq rfl) (hb hby at_146) (fun _ _ => ⟨rfl, e19, (by decide : 6 + 2 ≤ _), (by decide : 17 + 7 ≤ _)⟩)
  dsimp only [Pt.U, Pt.locs, Pt.cells, Pt.slots] at X20 l20 y20 z20 st20 hQ20
  subst l20 y20 z20
  obtain ⟨rk, rfl, N20q, K20⟩ := hQ20
  have old_21 : Old Z n0 T20.heap := old_18.keep K20 (all0)
  have siz_21 : n0 ≤ T20.heap.size := Nat.le_trans siz_18 K20.1
  have E_so_21 : Exa Z T20.heap so "java/lang/String" := E_so_18.keep K20
  have F_coder_so_21 : Fld Z T20.heap so "java/lang/String" "coder" "B" (.int (0 : Int32)) := F_coder_so_18.keep K20 nin0
  have F_value_so_21 : Fld Z T20.heap so "java/lang/String" "value" "[B" (.ref va) := F_value_so_18.keep K20 nin0
  have V_va_21 : Arv Z T20.heap va kv .byte (2 : Int32) [(.int (own_b C0)), (.int (own_b C1))] (.int (0 : Int32)) := V_va_18.keep K20 nin0
  have E_va_21 : Exa Z T20.heap va "[B" := E_va_18.keep K20
  have E_js_21 : Exa Z T20.heap js "com/example/wardgate/wardgate/model/JwtSettings" := Ej17.keep K20
  have F_cipher_js_21 : Fld Z T20.heap js "com/example/wardgate/wardgate/model/JwtSettings" "cipher" "Lcom/example/wardgate/wardgate/model/JwtSettings$Cipher;" (.ref s4) := Fi17.keep K20 nin0
  have F_cryptoKey_js_21 : Fld Z T20.heap js "com/example/wardgate/wardgate/model/JwtSettings" "cryptoKey" "Ljava/lang/String;" (.ref so) := Fk17.keep K20 nin0
  have N20 := Fr.app N19 N20q
  obtain ⟨fs, hr, hrun, hended, hW, hsame⟩ := X20.leave (v := some (.int (1 : Int32))) (fun h => by rw [Bd.returns] at h; cases h)
  refine ⟨_, _, pre0 _ ?_, hrun, hended, _, _, rfl, ?_, ⟨_, rfl⟩, hW, hsame.mono (by decide) (by decide)⟩
  · show Steps p.tables e below (s₁.setTop (mkF m 0 #[.val (.int x0), .val (.int x1), .val (.int x2), .val (.int x3), .unset, .unset, .unset, .unset, .unset, .unset, .unset, .unset, .unset, .unset, .unset] [])) _
    refine XS.iloadN X0.here hx rfl (hb hby at_0) rfl ?_
    show Steps p.tables e below (s₁.setTop (mkF m 1 #[.val (.int x0), .val (.int x1), .val (.int x2), .val (.int x3), .unset, .unset, .unset, .unset, .unset, .unset, .unset, .unset, .unset, .unset, .unset] [(.int x0)])) _
    refine X0.ldcInt hx hown (mvT hZ (hw _ (List.mem_of_getElem? (i := 0) rfl))) (g := (mkF m 1 #[.val (.int x0), .val (.int x1), .val (.int x2), .val (.int x3), .unset, .unset, .unset, .unset, .unset, .unset, .unset, .unset, .unset, .unset, .unset] [(.int x0)])) rfl (hb hby at_1) _ ?_
    show Steps p.tables e below (s₁.setTop (mkF m 3 #[.val (.int x0), .val (.int x1), .val (.int x2), .val (.int x3), .unset, .unset, .unset, .unset, .unset, .unset, .unset, .unset, .unset, .unset, .unset] [(.int (2147483647 : Int32)), (.int x0)])) _
    refine XS.iand X0.here hx rfl (hb hby at_3) rfl ?_
    show Steps p.tables e below (s₁.setTop (mkF m 4 #[.val (.int x0), .val (.int x1), .val (.int x2), .val (.int x3), .unset, .unset, .unset, .unset, .unset, .unset, .unset, .unset, .unset, .unset, .unset] [(.int (x0 &&& (2147483647 : Int32)))])) _
    refine XS.iconst X0.here hx rfl (hb hby at_4) ?_
    show Steps p.tables e below (s₁.setTop (mkF m 5 #[.val (.int x0), .val (.int x1), .val (.int x2), .val (.int x3), .unset, .unset, .unset, .unset, .unset, .unset, .unset, .unset, .unset, .unset, .unset] [(.int (3 : Int32)), (.int (x0 &&& (2147483647 : Int32)))])) _
    refine iremM X0 hx rfl (hb hby at_5) rfl (by decide) ?_
    show Steps p.tables e below (s₁.setTop (mkF m 6 #[.val (.int x0), .val (.int x1), .val (.int x2), .val (.int x3), .unset, .unset, .unset, .unset, .unset, .unset, .unset, .unset, .unset, .unset, .unset] [(.int ((x0 &&& (2147483647 : Int32)) % (3 : Int32)))])) _
    rw [hk]
    show Steps p.tables e below (s₁.setTop (mkF m 6 #[.val (.int x0), .val (.int x1), .val (.int x2), .val (.int x3), .unset, .unset, .unset, .unset, .unset, .unset, .unset, .unset, .unset, .unset, .unset] [(.int (2 : Int32))])) _
    refine XS.istore X0.here hx rfl (hb hby at_6) rfl (l' := #[.val (.int x0), .val (.int x1), .val (.int x2), .val (.int x3), .val (.int (2 : Int32)), .unset, .unset, .unset, .unset, .unset, .unset, .unset, .unset, .unset, .unset]) rfl ?_
    show Steps p.tables e below (s₁.setTop (mkF m 8 #[.val (.int x0), .val (.int x1), .val (.int x2), .val (.int x3), .val (.int (2 : Int32)), .unset, .unset, .unset, .unset, .unset, .unset, .unset, .unset, .unset, .unset] [])) _
    refine XS.iconst X0.here hx rfl (hb hby at_8) ?_
    show Steps p.tables e below (s₁.setTop (mkF m 9 #[.val (.int x0), .val (.int x1), .val (.int x2), .val (.int x3), .val (.int (2 : Int32)), .unset, .unset, .unset, .unset, .unset, .unset, .unset, .unset, .unset, .unset] [(.int (2 : Int32))])) _
    refine st1 _ ?_
    show Steps p.tables e below (T1.setTop (mkF m 11 #[.val (.int x0), .val (.int x1), .val (.int x2), .val (.int x3), .val (.int (2 : Int32)), .unset, .unset, .unset, .unset, .unset, .unset, .unset, .unset, .unset, .unset] [(.ref ch)])) _
    refine XS.dup X1.here hx rfl (hb hby at_11) rfl rfl ?_
    show Steps p.tables e below (T1.setTop (mkF m 12 #[.val (.int x0), .val (.int x1), .val (.int x2), .val (.int x3), .val (.int (2 : Int32)), .unset, .unset, .unset, .unset, .unset, .unset, .unset, .unset, .unset, .unset] [(.ref ch), (.ref ch)])) _
    refine XS.iconst X1.here hx rfl (hb hby at_12) ?_
    show Steps p.tables e below (T1.setTop (mkF m 13 #[.val (.int x0), .val (.int x1), .val (.int x2), .val (.int x3), .val (.int (2 : Int32)), .unset, .unset, .unset, .unset, .unset, .unset, .unset, .unset, .unset, .unset] [(.int (0 : Int32)), (.ref ch), (.ref ch)])) _
    refine XS.iloadN X1.here hx rfl (hb hby at_13) rfl ?_
    show Steps p.tables e below (T1.setTop (mkF m 14 #[.val (.int x0), .val (.int x1), .val (.int x2), .val (.int x3), .val (.int (2 : Int32)), .unset, .unset, .unset, .unset, .unset, .unset, .unset, .unset, .unset, .unset] [(.int x1), (.int (0 : Int32)), (.ref ch), (.ref ch)])) _
    refine XS.sipush X1.here hx rfl (hb hby at_14) ?_
    show Steps p.tables e below (T1.setTop (mkF m 17 #[.val (.int x0), .val (.int x1), .val (.int x2), .val (.int x3), .val (.int (2 : Int32)), .unset, .unset, .unset, .unset, .unset, .unset, .unset, .unset, .unset, .unset] [(.int (255 : Int32)), (.int x1), (.int (0 : Int32)), (.ref ch), (.ref ch)])) _
    refine XS.iand X1.here hx rfl (hb hby at_17) rfl ?_
    show Steps p.tables e below (T1.setTop (mkF m 18 #[.val (.int x0), .val (.int x1), .val (.int x2), .val (.int x3), .val (.int (2 : Int32)), .unset, .unset, .unset, .unset, .unset, .unset, .unset, .unset, .unset, .unset] [(.int (x1 &&& (255 : Int32))), (.int (0 : Int32)), (.ref ch), (.ref ch)])) _
    refine XS.i2c X1.here hx rfl (hb hby at_18) rfl ?_
    show Steps p.tables e below (T1.setTop (mkF m 19 #[.val (.int x0), .val (.int x1), .val (.int x2), .val (.int x3), .val (.int (2 : Int32)), .unset, .unset, .unset, .unset, .unset, .unset, .unset, .unset, .unset, .unset] [(.int ((x1 &&& (255 : Int32)).toUInt32.toUInt16.toUInt32.toInt32)), (.int (0 : Int32)), (.ref ch), (.ref ch)])) _
    rw [← e_C0]
    show Steps p.tables e below (T1.setTop (mkF m 19 #[.val (.int x0), .val (.int x1), .val (.int x2), .val (.int x3), .val (.int (2 : Int32)), .unset, .unset, .unset, .unset, .unset, .unset, .unset, .unset, .unset, .unset] [(.int C0), (.int (0 : Int32)), (.ref ch), (.ref ch)])) _
    refine st3 _ ?_
    show Steps p.tables e below (T3.setTop (mkF m 20 #[.val (.int x0), .val (.int x1), .val (.int x2), .val (.int x3), .val (.int (2 : Int32)), .unset, .unset, .unset, .unset, .unset, .unset, .unset, .unset, .unset, .unset] [(.ref ch)])) _
    refine XS.dup X3.here hx rfl (hb hby at_20) rfl rfl ?_
    show Steps p.tables e below (T3.setTop (mkF m 21 #[.val (.int x0), .val (.int x1), .val (.int x2), .val (.int x3), .val (.int (2 : Int32)), .unset, .unset, .unset, .unset, .unset, .unset, .unset, .unset, .unset, .unset] [(.ref ch), (.ref ch)])) _
    refine XS.iconst X3.here hx rfl (hb hby at_21) ?_
    show Steps p.tables e below (T3.setTop (mkF m 22 #[.val (.int x0), .val (.int x1), .val (.int x2), .val (.int x3), .val (.int (2 : Int32)), .unset, .unset, .unset, .unset, .unset, .unset, .unset, .unset, .unset, .unset] [(.int (1 : Int32)), (.ref ch), (.ref ch)])) _
    refine XS.iloadN X3.here hx rfl (hb hby at_22) rfl ?_
    show Steps p.tables e below (T3.setTop (mkF m 23 #[.val (.int x0), .val (.int x1), .val (.int x2), .val (.int x3), .val (.int (2 : Int32)), .unset, .unset, .unset, .unset, .unset, .unset, .unset, .unset, .unset, .unset] [(.int x2), (.int (1 : Int32)), (.ref ch), (.ref ch)])) _
    refine XS.sipush X3.here hx rfl (hb hby at_23) ?_
    show Steps p.tables e below (T3.setTop (mkF m 26 #[.val (.int x0), .val (.int x1), .val (.int x2), .val (.int x3), .val (.int (2 : Int32)), .unset, .unset, .unset, .unset, .unset, .unset, .unset, .unset, .unset, .unset] [(.int (255 : Int32)), (.int x2), (.int (1 : Int32)), (.ref ch), (.ref ch)])) _
    refine XS.iand X3.here hx rfl (hb hby at_26) rfl ?_
    show Steps p.tables e below (T3.setTop (mkF m 27 #[.val (.int x0), .val (.int x1), .val (.int x2), .val (.int x3), .val (.int (2 : Int32)), .unset, .unset, .unset, .unset, .unset, .unset, .unset, .unset, .unset, .unset] [(.int (x2 &&& (255 : Int32))), (.int (1 : Int32)), (.ref ch), (.ref ch)])) _
    refine XS.i2c X3.here hx rfl (hb hby at_27) rfl ?_
    show Steps p.tables e below (T3.setTop (mkF m 28 #[.val (.int x0), .val (.int x1), .val (.int x2), .val (.int x3), .val (.int (2 : Int32)), .unset, .unset, .unset, .unset, .unset, .unset, .unset, .unset, .unset, .unset] [(.int ((x2 &&& (255 : Int32)).toUInt32.toUInt16.toUInt32.toInt32)), (.int (1 : Int32)), (.ref ch), (.ref ch)])) _
    rw [← e_C1]
    show Steps p.tables e below (T3.setTop (mkF m 28 #[.val (.int x0), .val (.int x1), .val (.int x2), .val (.int x3), .val (.int (2 : Int32)), .unset, .unset, .unset, .unset, .unset, .unset, .unset, .unset, .unset, .unset] [(.int C1), (.int (1 : Int32)), (.ref ch), (.ref ch)])) _
    refine st5 _ ?_
    show Steps p.tables e below (T5.setTop (mkF m 29 #[.val (.int x0), .val (.int x1), .val (.int x2), .val (.int x3), .val (.int (2 : Int32)), .unset, .unset, .unset, .unset, .unset, .unset, .unset, .unset, .unset, .unset] [(.ref ch)])) _
    refine XS.astore X5.here hx rfl (hb hby at_29) rfl rfl (l' := #[.val (.int x0), .val (.int x1), .val (.int x2), .val (.int x3), .val (.int (2 : Int32)), .val (.ref ch), .unset, .unset, .unset, .unset, .unset, .unset, .unset, .unset, .unset]) rfl ?_
    show Steps p.tables e below (T5.setTop (mkF m 31 #[.val (.int x0), .val (.int x1), .val (.int x2), .val (.int x3), .val (.int (2 : Int32)), .val (.ref ch), .unset, .unset, .unset, .unset, .unset, .unset, .unset, .unset, .unset] [])) _
    refine st7 _ ?_
    show Steps p.tables e below (T7.setTop (mkF m 34 #[.val (.int x0), .val (.int x1), .val (.int x2), .val (.int x3), .val (.int (2 : Int32)), .val (.ref ch), .unset, .unset, .unset, .unset, .unset, .unset, .unset, .unset, .unset] [(.ref so)])) _
    refine XS.dup X7.here hx rfl (hb hby at_34) rfl rfl ?_
    show Steps p.tables e below (T7.setTop (mkF m 35 #[.val (.int x0), .val (.int x1), .val (.int x2), .val (.int x3), .val (.int (2 : Int32)), .val (.ref ch), .unset, .unset, .unset, .unset, .unset, .unset, .unset, .unset, .unset] [(.ref so), (.ref so)])) _
    refine XS.aload X7.here hx rfl (hb hby at_35) rfl rfl ?_
    show Steps p.tables e below (T7.setTop (mkF m 37 #[.val (.int x0), .val (.int x1), .val (.int x2), .val (.int x3), .val (.int (2 : Int32)), .val (.ref ch), .unset, .unset, .unset, .unset, .unset, .unset, .unset, .unset, .unset] [(.ref ch), (.ref so), (.ref so)])) _
    refine st9.trans ?_
    show Steps p.tables e below (T9.setTop (mkF m 40 #[.val (.int x0), .val (.int x1), .val (.int x2), .val (.int x3), .val (.int (2 : Int32)), .val (.ref ch), .unset, .unset, .unset, .unset, .unset, .unset, .unset, .unset, .unset] [(.ref so)])) _
    refine XS.astore X9.here hx rfl (hb hby at_40) rfl rfl (l' := #[.val (.int x0), .val (.int x1), .val (.int x2), .val (.int x3), .val (.int (2 : Int32)), .val (.ref ch), .val (.ref so), .unset, .unset, .unset, .unset, .unset, .unset, .unset, .unset]) rfl ?_
    show Steps p.tables e below (T9.setTop (mkF m 42 #[.val (.int x0), .val (.int x1), .val (.int x2), .val (.int x3), .val (.int (2 : Int32)), .val (.ref ch), .val (.ref so), .unset, .unset, .unset, .unset, .unset, .unset, .unset, .unset] [])) _
    refine XS.iloadN X9.here hx rfl (hb hby at_42) rfl ?_
    show Steps p.tables e below (T9.setTop (mkF m 43 #[.val (.int x0), .val (.int x1), .val (.int x2), .val (.int x3), .val (.int (2 : Int32)), .val (.ref ch), .val (.ref so), .unset, .unset, .unset, .unset, .unset, .unset, .unset, .unset] [(.int x1)])) _
    refine XS.bipush X9.here hx rfl (hb hby at_43) ?_
    show Steps p.tables e below (T9.setTop (mkF m 45 #[.val (.int x0), .val (.int x1), .val (.int x2), .val (.int x3), .val (.int (2 : Int32)), .val (.ref ch), .val (.ref so), .unset, .unset, .unset, .unset, .unset, .unset, .unset, .unset] [(.int (8 : Int32)), (.int x1)])) _
    refine XS.iushr X9.here hx rfl (hb hby at_45) rfl ?_
    show Steps p.tables e below (T9.setTop (mkF m 46 #[.val (.int x0), .val (.int x1), .val (.int x2), .val (.int x3), .val (.int (2 : Int32)), .val (.ref ch), .val (.ref so), .unset, .unset, .unset, .unset, .unset, .unset, .unset, .unset] [(.int ((x1.toUInt32 >>> ((8 : Int32) &&& 31).toUInt32).toInt32))])) _
    refine XS.sipush X9.here hx rfl (hb hby at_46) ?_
    show Steps p.tables e below (T9.setTop (mkF m 49 #[.val (.int x0), .val (.int x1), .val (.int x2), .val (.int x3), .val (.int (2 : Int32)), .val (.ref ch), .val (.ref so), .unset, .unset, .unset, .unset, .unset, .unset, .unset, .unset] [(.int (255 : Int32)), (.int ((x1.toUInt32 >>> ((8 : Int32) &&& 31).toUInt32).toInt32))])) _
    refine XS.iand X9.here hx rfl (hb hby at_49) rfl ?_
    show Steps p.tables e below (T9.setTop (mkF m 50 #[.val (.int x0), .val (.int x1), .val (.int x2), .val (.int x3), .val (.int (2 : Int32)), .val (.ref ch), .val (.ref so), .unset, .unset, .unset, .unset, .unset, .unset, .unset, .unset] [(.int (((x1.toUInt32 >>> ((8 : Int32) &&& 31).toUInt32).toInt32) &&& (255 : Int32)))])) _
    refine XS.i2c X9.here hx rfl (hb hby at_50) rfl ?_
    show Steps p.tables e below (T9.setTop (mkF m 51 #[.val (.int x0), .val (.int x1), .val (.int x2), .val (.int x3), .val (.int (2 : Int32)), .val (.ref ch), .val (.ref so), .unset, .unset, .unset, .unset, .unset, .unset, .unset, .unset] [(.int ((((x1.toUInt32 >>> ((8 : Int32) &&& 31).toUInt32).toInt32) &&& (255 : Int32)).toUInt32.toUInt16.toUInt32.toInt32))])) _
    rw [← e_SC]
    show Steps p.tables e below (T9.setTop (mkF m 51 #[.val (.int x0), .val (.int x1), .val (.int x2), .val (.int x3), .val (.int (2 : Int32)), .val (.ref ch), .val (.ref so), .unset, .unset, .unset, .unset, .unset, .unset, .unset, .unset] [(.int SC)])) _
    refine st11 _ ?_
    show Steps p.tables e below (T11.setTop (mkF m 54 #[.val (.int x0), .val (.int x1), .val (.int x2), .val (.int x3), .val (.int (2 : Int32)), .val (.ref ch), .val (.ref so), .unset, .unset, .unset, .unset, .unset, .unset, .unset, .unset] [(.ref se)])) _
    refine XS.astore X11.here hx rfl (hb hby at_54) rfl rfl (l' := #[.val (.int x0), .val (.int x1), .val (.int x2), .val (.int x3), .val (.int (2 : Int32)), .val (.ref ch), .val (.ref so), .val (.ref se), .unset, .unset, .unset, .unset, .unset, .unset, .unset]) rfl ?_
    show Steps p.tables e below (T11.setTop (mkF m 56 #[.val (.int x0), .val (.int x1), .val (.int x2), .val (.int x3), .val (.int (2 : Int32)), .val (.ref ch), .val (.ref so), .val (.ref se), .unset, .unset, .unset, .unset, .unset, .unset, .unset] [])) _
    refine XS.aconstNull X11.here hx rfl (hb hby at_56) ?_
    show Steps p.tables e below (T11.setTop (mkF m 57 #[.val (.int x0), .val (.int x1), .val (.int x2), .val (.int x3), .val (.int (2 : Int32)), .val (.ref ch), .val (.ref so), .val (.ref se), .unset, .unset, .unset, .unset, .unset, .unset, .unset] [.null])) _
    refine XS.astore X11.here hx rfl (hb hby at_57) rfl rfl (l' := #[.val (.int x0), .val (.int x1), .val (.int x2), .val (.int x3), .val (.int (2 : Int32)), .val (.ref ch), .val (.ref so), .val (.ref se), .val .null, .unset, .unset, .unset, .unset, .unset, .unset]) rfl ?_
    show Steps p.tables e below (T11.setTop (mkF m 59 #[.val (.int x0), .val (.int x1), .val (.int x2), .val (.int x3), .val (.int (2 : Int32)), .val (.ref ch), .val (.ref so), .val (.ref se), .val .null, .unset, .unset, .unset, .unset, .unset, .unset] [])) _
    refine XS.aconstNull X11.here hx rfl (hb hby at_59) ?_
    show Steps p.tables e below (T11.setTop (mkF m 60 #[.val (.int x0), .val (.int x1), .val (.int x2), .val (.int x3), .val (.int (2 : Int32)), .val (.ref ch), .val (.ref so), .val (.ref se), .val .null, .unset, .unset, .unset, .unset, .unset, .unset] [.null])) _
    refine XS.astore X11.here hx rfl (hb hby at_60) rfl rfl (l' := #[.val (.int x0), .val (.int x1), .val (.int x2), .val (.int x3), .val (.int (2 : Int32)), .val (.ref ch), .val (.ref so), .val (.ref se), .val .null, .val .null, .unset, .unset, .unset, .unset, .unset]) rfl ?_
    show Steps p.tables e below (T11.setTop (mkF m 62 #[.val (.int x0), .val (.int x1), .val (.int x2), .val (.int x3), .val (.int (2 : Int32)), .val (.ref ch), .val (.ref so), .val (.ref se), .val .null, .val .null, .unset, .unset, .unset, .unset, .unset] [])) _
    refine XS.iload X11.here hx rfl (hb hby at_62) rfl ?_
    show Steps p.tables e below (T11.setTop (mkF m 64 #[.val (.int x0), .val (.int x1), .val (.int x2), .val (.int x3), .val (.int (2 : Int32)), .val (.ref ch), .val (.ref so), .val (.ref se), .val .null, .val .null, .unset, .unset, .unset, .unset, .unset] [(.int (2 : Int32))])) _
    refine XS.iconst X11.here hx rfl (hb hby at_64) ?_
    show Steps p.tables e below (T11.setTop (mkF m 65 #[.val (.int x0), .val (.int x1), .val (.int x2), .val (.int x3), .val (.int (2 : Int32)), .val (.ref ch), .val (.ref so), .val (.ref se), .val .null, .val .null, .unset, .unset, .unset, .unset, .unset] [(.int (1 : Int32)), (.int (2 : Int32))])) _
    refine XS.icmpYes X11.here hx rfl (pc0 := 65) (pc' := 80) rfl (hb hby at_65) rfl (feq (by decide : ¬ ((2 : Int32) = (1 : Int32)))).2 (by decide) (by decide) ?_
    show Steps p.tables e below (T11.setTop (mkF m 80 #[.val (.int x0), .val (.int x1), .val (.int x2), .val (.int x3), .val (.int (2 : Int32)), .val (.ref ch), .val (.ref so), .val (.ref se), .val .null, .val .null, .unset, .unset, .unset, .unset, .unset] [])) _
    refine XS.iload X11.here hx rfl (hb hby at_80) rfl ?_
    show Steps p.tables e below (T11.setTop (mkF m 82 #[.val (.int x0), .val (.int x1), .val (.int x2), .val (.int x3), .val (.int (2 : Int32)), .val (.ref ch), .val (.ref so), .val (.ref se), .val .null, .val .null, .unset, .unset, .unset, .unset, .unset] [(.int (2 : Int32))])) _
    refine XS.iconst X11.here hx rfl (hb hby at_82) ?_
    show Steps p.tables e below (T11.setTop (mkF m 83 #[.val (.int x0), .val (.int x1), .val (.int x2), .val (.int x3), .val (.int (2 : Int32)), .val (.ref ch), .val (.ref so), .val (.ref se), .val .null, .val .null, .unset, .unset, .unset, .unset, .unset] [(.int (2 : Int32)), (.int (2 : Int32))])) _
    refine XS.icmpNo X11.here hx rfl (hb hby at_83) rfl (teq (by decide : (2 : Int32) = (2 : Int32))).2 ?_
    show Steps p.tables e below (T11.setTop (mkF m 86 #[.val (.int x0), .val (.int x1), .val (.int x2), .val (.int x3), .val (.int (2 : Int32)), .val (.ref ch), .val (.ref so), .val (.ref se), .val .null, .val .null, .unset, .unset, .unset, .unset, .unset] [])) _
    refine st13 _ ?_
    show Steps p.tables e below (T13.setTop (mkF m 89 #[.val (.int x0), .val (.int x1), .val (.int x2), .val (.int x3), .val (.int (2 : Int32)), .val (.ref ch), .val (.ref so), .val (.ref se), .val .null, .val .null, .unset, .unset, .unset, .unset, .unset] [(.ref s4)])) _
    refine XS.astore X13.here hx rfl (hb hby at_89) rfl rfl (l' := #[.val (.int x0), .val (.int x1), .val (.int x2), .val (.int x3), .val (.int (2 : Int32)), .val (.ref ch), .val (.ref so), .val (.ref se), .val (.ref s4), .val .null, .unset, .unset, .unset, .unset, .unset]) rfl ?_
    show Steps p.tables e below (T13.setTop (mkF m 91 #[.val (.int x0), .val (.int x1), .val (.int x2), .val (.int x3), .val (.int (2 : Int32)), .val (.ref ch), .val (.ref so), .val (.ref se), .val (.ref s4), .val .null, .unset, .unset, .unset, .unset, .unset] [])) _
    refine XS.aload X13.here hx rfl (hb hby at_91) rfl rfl ?_
    show Steps p.tables e below (T13.setTop (mkF m 93 #[.val (.int x0), .val (.int x1), .val (.int x2), .val (.int x3), .val (.int (2 : Int32)), .val (.ref ch), .val (.ref so), .val (.ref se), .val (.ref s4), .val .null, .unset, .unset, .unset, .unset, .unset] [(.ref so)])) _
    refine XS.astore X13.here hx rfl (hb hby at_93) rfl rfl (l' := #[.val (.int x0), .val (.int x1), .val (.int x2), .val (.int x3), .val (.int (2 : Int32)), .val (.ref ch), .val (.ref so), .val (.ref se), .val (.ref s4), .val (.ref so), .unset, .unset, .unset, .unset, .unset]) rfl ?_
    show Steps p.tables e below (T13.setTop (mkF m 95 #[.val (.int x0), .val (.int x1), .val (.int x2), .val (.int x3), .val (.int (2 : Int32)), .val (.ref ch), .val (.ref so), .val (.ref se), .val (.ref s4), .val (.ref so), .unset, .unset, .unset, .unset, .unset] [])) _
    refine XS.iloadN X13.here hx rfl (hb hby at_95) rfl ?_
    show Steps p.tables e below (T13.setTop (mkF m 96 #[.val (.int x0), .val (.int x1), .val (.int x2), .val (.int x3), .val (.int (2 : Int32)), .val (.ref ch), .val (.ref so), .val (.ref se), .val (.ref s4), .val (.ref so), .unset, .unset, .unset, .unset, .unset] [(.int x3)])) _
    refine XS.iconst X13.here hx rfl (hb hby at_96) ?_
    show Steps p.tables e below (T13.setTop (mkF m 97 #[.val (.int x0), .val (.int x1), .val (.int x2), .val (.int x3), .val (.int (2 : Int32)), .val (.ref ch), .val (.ref so), .val (.ref se), .val (.ref s4), .val (.ref so), .unset, .unset, .unset, .unset, .unset] [(.int (1 : Int32)), (.int x3)])) _
    refine XS.iand X13.here hx rfl (hb hby at_97) rfl ?_
    show Steps p.tables e below (T13.setTop (mkF m 98 #[.val (.int x0), .val (.int x1), .val (.int x2), .val (.int x3), .val (.int (2 : Int32)), .val (.ref ch), .val (.ref so), .val (.ref se), .val (.ref s4), .val (.ref so), .unset, .unset, .unset, .unset, .unset] [(.int (x3 &&& (1 : Int32)))])) _
    have k14 : ∀ (m14_s0 : Int32) t, ((x3 &&& (1 : Int32)) = (0 : Int32) → m14_s0 = (0 : Int32)) → (¬ ((x3 &&& (1 : Int32)) = (0 : Int32)) → m14_s0 = (1 : Int32)) → Steps p.tables e below (T13.setTop (mkF m 106 #[.val (.int x0), .val (.int x1), .val (.int x2), .val (.int x3), .val (.int (2 : Int32)), .val (.ref ch), .val (.ref so), .val (.ref se), .val (.ref s4), .val (.ref so), .unset, .unset, .unset, .unset, .unset] [(.int m14_s0)])) t → Steps p.tables e below (T13.setTop (mkF m 98 #[.val (.int x0), .val (.int x1), .val (.int x2), .val (.int x3), .val (.int (2 : Int32)), .val (.ref ch), .val (.ref so), .val (.ref se), .val (.ref s4), .val (.ref so), .unset, .unset, .unset, .unset, .unset] [(.int (x3 &&& (1 : Int32)))])) t := by
      intro m14_s0 t hAm14_s0 hBm14_s0 kk
      by_cases hq98 : (x3 &&& (1 : Int32)) = (0 : Int32)
      · rw [hAm14_s0 hq98] at kk
        refine XS.ifYes X13.here hx rfl (pc0 := 98) (pc' := 105) rfl (hb hby at_98) rfl ((if0 _ _).trans (teq hq98).1) (by decide) (by decide) ?_
        show Steps p.tables e below (T13.setTop (mkF m 105 #[.val (.int x0), .val (.int x1), .val (.int x2), .val (.int x3), .val (.int (2 : Int32)), .val (.ref ch), .val (.ref so), .val (.ref se), .val (.ref s4), .val (.ref so), .unset, .unset, .unset, .unset, .unset] [])) _
        refine XS.iconst X13.here hx rfl (hb hby at_105) ?_
        exact kk
      · rw [hBm14_s0 hq98] at kk
        refine XS.ifNo X13.here hx rfl (hb hby at_98) rfl ((if0 _ _).trans (feq hq98).1) ?_
        show Steps p.tables e below (T13.setTop (mkF m 101 #[.val (.int x0), .val (.int x1), .val (.int x2), .val (.int x3), .val (.int (2 : Int32)), .val (.ref ch), .val (.ref so), .val (.ref se), .val (.ref s4), .val (.ref so), .unset, .unset, .unset, .unset, .unset] [])) _
        refine XS.iconst X13.here hx rfl (hb hby at_101) ?_
        show Steps p.tables e below (T13.setTop (mkF m 102 #[.val (.int x0), .val (.int x1), .val (.int x2), .val (.int x3), .val (.int (2 : Int32)), .val (.ref ch), .val (.ref so), .val (.ref se), .val (.ref s4), .val (.ref so), .unset, .unset, .unset, .unset, .unset] [(.int (1 : Int32))])) _
        refine XS.goto X13.here hx rfl (pc0 := 102) (pc' := 106) rfl (hb hby at_102) (by decide) (by decide) ?_
        exact kk
    refine k14 m14_s0 _ (fun h => by rw [em14_s0, if_pos h]) (fun h => by rw [em14_s0, if_neg h]) ?_
    show Steps p.tables e below (T13.setTop (mkF m 106 #[.val (.int x0), .val (.int x1), .val (.int x2), .val (.int x3), .val (.int (2 : Int32)), .val (.ref ch), .val (.ref so), .val (.ref se), .val (.ref s4), .val (.ref so), .unset, .unset, .unset, .unset, .unset] [(.int m14_s0)])) _
    refine XS.istore X13.here hx rfl (hb hby at_106) rfl (l' := #[.val (.int x0), .val (.int x1), .val (.int x2), .val (.int x3), .val (.int (2 : Int32)), .val (.ref ch), .val (.ref so), .val (.ref se), .val (.ref s4), .val (.ref so), .val (.int m14_s0), .unset, .unset, .unset, .unset]) rfl ?_
    show Steps p.tables e below (T13.setTop (mkF m 108 #[.val (.int x0), .val (.int x1), .val (.int x2), .val (.int x3), .val (.int (2 : Int32)), .val (.ref ch), .val (.ref so), .val (.ref se), .val (.ref s4), .val (.ref so), .val (.int m14_s0), .unset, .unset, .unset, .unset] [])) _
    refine st15 _ ?_
    show Steps p.tables e below (T15.setTop (mkF m 111 #[.val (.int x0), .val (.int x1), .val (.int x2), .val (.int x3), .val (.int (2 : Int32)), .val (.ref ch), .val (.ref so), .val (.ref se), .val (.ref s4), .val (.ref so), .val (.int m14_s0), .unset, .unset, .unset, .unset] [(.ref js)])) _
    refine XS.dup X15.here hx rfl (hb hby at_111) rfl rfl ?_
    show Steps p.tables e below (T15.setTop (mkF m 112 #[.val (.int x0), .val (.int x1), .val (.int x2), .val (.int x3), .val (.int (2 : Int32)), .val (.ref ch), .val (.ref so), .val (.ref se), .val (.ref s4), .val (.ref so), .val (.int m14_s0), .unset, .unset, .unset, .unset] [(.ref js), (.ref js)])) _
    refine XS.aload X15.here hx rfl (hb hby at_112) rfl rfl ?_
    show Steps p.tables e below (T15.setTop (mkF m 114 #[.val (.int x0), .val (.int x1), .val (.int x2), .val (.int x3), .val (.int (2 : Int32)), .val (.ref ch), .val (.ref so), .val (.ref se), .val (.ref s4), .val (.ref so), .val (.int m14_s0), .unset, .unset, .unset, .unset] [(.ref se), (.ref js), (.ref js)])) _
    refine XS.aload X15.here hx rfl (hb hby at_114) rfl rfl ?_
    show Steps p.tables e below (T15.setTop (mkF m 116 #[.val (.int x0), .val (.int x1), .val (.int x2), .val (.int x3), .val (.int (2 : Int32)), .val (.ref ch), .val (.ref so), .val (.ref se), .val (.ref s4), .val (.ref so), .val (.int m14_s0), .unset, .unset, .unset, .unset] [(.ref s4), (.ref se), (.ref js), (.ref js)])) _
    refine XS.aload X15.here hx rfl (hb hby at_116) rfl rfl ?_
    show Steps p.tables e below (T15.setTop (mkF m 118 #[.val (.int x0), .val (.int x1), .val (.int x2), .val (.int x3), .val (.int (2 : Int32)), .val (.ref ch), .val (.ref so), .val (.ref se), .val (.ref s4), .val (.ref so), .val (.int m14_s0), .unset, .unset, .unset, .unset] [(.ref so), (.ref s4), (.ref se), (.ref js), (.ref js)])) _
    refine XS.iload X15.here hx rfl (hb hby at_118) rfl ?_
    show Steps p.tables e below (T15.setTop (mkF m 120 #[.val (.int x0), .val (.int x1), .val (.int x2), .val (.int x3), .val (.int (2 : Int32)), .val (.ref ch), .val (.ref so), .val (.ref se), .val (.ref s4), .val (.ref so), .val (.int m14_s0), .unset, .unset, .unset, .unset] [(.int m14_s0), (.ref so), (.ref s4), (.ref se), (.ref js), (.ref js)])) _
    refine st17.trans ?_
    show Steps p.tables e below (T17.setTop (mkF m 123 #[.val (.int x0), .val (.int x1), .val (.int x2), .val (.int x3), .val (.int (2 : Int32)), .val (.ref ch), .val (.ref so), .val (.ref se), .val (.ref s4), .val (.ref so), .val (.int m14_s0), .unset, .unset, .unset, .unset] [(.ref js)])) _
    refine XS.astore X17.here hx rfl (hb hby at_123) rfl rfl (l' := #[.val (.int x0), .val (.int x1), .val (.int x2), .val (.int x3), .val (.int (2 : Int32)), .val (.ref ch), .val (.ref so), .val (.ref se), .val (.ref s4), .val (.ref so), .val (.int m14_s0), .val (.ref js), .unset, .unset, .unset]) rfl ?_
    show Steps p.tables e below (T17.setTop (mkF m 125 #[.val (.int x0), .val (.int x1), .val (.int x2), .val (.int x3), .val (.int (2 : Int32)), .val (.ref ch), .val (.ref so), .val (.ref se), .val (.ref s4), .val (.ref so), .val (.int m14_s0), .val (.ref js), .unset, .unset, .unset] [])) _
    refine XS.aload X17.here hx rfl (hb hby at_125) rfl rfl ?_
    show Steps p.tables e below (T17.setTop (mkF m 127 #[.val (.int x0), .val (.int x1), .val (.int x2), .val (.int x3), .val (.int (2 : Int32)), .val (.ref ch), .val (.ref so), .val (.ref se), .val (.ref s4), .val (.ref so), .val (.int m14_s0), .val (.ref js), .unset, .unset, .unset] [(.ref js)])) _
    refine st19.trans ?_
    show Steps p.tables e below (T19.setTop (mkF m 130 #[.val (.int x0), .val (.int x1), .val (.int x2), .val (.int x3), .val (.int (2 : Int32)), .val (.ref ch), .val (.ref so), .val (.ref se), .val (.ref s4), .val (.ref so), .val (.int m14_s0), .val (.ref js), .unset, .unset, .unset] [(.int (1 : Int32))])) _
    refine XS.istore X19.here hx rfl (hb hby at_130) rfl (l' := #[.val (.int x0), .val (.int x1), .val (.int x2), .val (.int x3), .val (.int (2 : Int32)), .val (.ref ch), .val (.ref so), .val (.ref se), .val (.ref s4), .val (.ref so), .val (.int m14_s0), .val (.ref js), .val (.int (1 : Int32)), .unset, .unset]) rfl ?_
    show Steps p.tables e below (T19.setTop (mkF m 132 #[.val (.int x0), .val (.int x1), .val (.int x2), .val (.int x3), .val (.int (2 : Int32)), .val (.ref ch), .val (.ref so), .val (.ref se), .val (.ref s4), .val (.ref so), .val (.int m14_s0), .val (.ref js), .val (.int (1 : Int32)), .unset, .unset] [])) _
    refine XS.iload X19.here hx rfl (hb hby at_132) rfl ?_
    show Steps p.tables e below (T19.setTop (mkF m 134 #[.val (.int x0), .val (.int x1), .val (.int x2), .val (.int x3), .val (.int (2 : Int32)), .val (.ref ch), .val (.ref so), .val (.ref se), .val (.ref s4), .val (.ref so), .val (.int m14_s0), .val (.ref js), .val (.int (1 : Int32)), .unset, .unset] [(.int (2 : Int32))])) _
    refine XS.ifNo X19.here hx rfl (hb hby at_134) rfl ((if0 _ _).trans (feq (by decide : ¬ ((2 : Int32) = (0 : Int32)))).1) ?_
    show Steps p.tables e below (T19.setTop (mkF m 137 #[.val (.int x0), .val (.int x1), .val (.int x2), .val (.int x3), .val (.int (2 : Int32)), .val (.ref ch), .val (.ref so), .val (.ref se), .val (.ref s4), .val (.ref so), .val (.int m14_s0), .val (.ref js), .val (.int (1 : Int32)), .unset, .unset] [])) _
    refine XS.iconst X19.here hx rfl (hb hby at_137) ?_
    show Steps p.tables e below (T19.setTop (mkF m 138 #[.val (.int x0), .val (.int x1), .val (.int x2), .val (.int x3), .val (.int (2 : Int32)), .val (.ref ch), .val (.ref so), .val (.ref se), .val (.ref s4), .val (.ref so), .val (.int m14_s0), .val (.ref js), .val (.int (1 : Int32)), .unset, .unset] [(.int (1 : Int32))])) _
    refine XS.goto X19.here hx rfl (pc0 := 138) (pc' := 142) rfl (hb hby at_138) (by decide) (by decide) ?_
    show Steps p.tables e below (T19.setTop (mkF m 142 #[.val (.int x0), .val (.int x1), .val (.int x2), .val (.int x3), .val (.int (2 : Int32)), .val (.ref ch), .val (.ref so), .val (.ref se), .val (.ref s4), .val (.ref so), .val (.int m14_s0), .val (.ref js), .val (.int (1 : Int32)), .unset, .unset] [(.int (1 : Int32))])) _
    refine XS.istore X19.here hx rfl (hb hby at_142) rfl (l' := #[.val (.int x0), .val (.int x1), .val (.int x2), .val (.int x3), .val (.int (2 : Int32)), .val (.ref ch), .val (.ref so), .val (.ref se), .val (.ref s4), .val (.ref so), .val (.int m14_s0), .val (.ref js), .val (.int (1 : Int32)), .val (.int (1 : Int32)), .unset]) rfl ?_
    show Steps p.tables e below (T19.setTop (mkF m 144 #[.val (.int x0), .val (.int x1), .val (.int x2), .val (.int x3), .val (.int (2 : Int32)), .val (.ref ch), .val (.ref so), .val (.ref se), .val (.ref s4), .val (.ref so), .val (.int m14_s0), .val (.ref js), .val (.int (1 : Int32)), .val (.int (1 : Int32)), .unset] [])) _
    refine XS.aload X19.here hx rfl (hb hby at_144) rfl rfl ?_
    show Steps p.tables e below (T19.setTop (mkF m 146 #[.val (.int x0), .val (.int x1), .val (.int x2), .val (.int x3), .val (.int (2 : Int32)), .val (.ref ch), .val (.ref so), .val (.ref se), .val (.ref s4), .val (.ref so), .val (.int m14_s0), .val (.ref js), .val (.int (1 : Int32)), .val (.int (1 : Int32)), .unset] [(.ref js)])) _
    refine st20.trans ?_
    show Steps p.tables e below (T20.setTop (mkF m 149 #[.val (.int x0), .val (.int x1), .val (.int x2), .val (.int x3), .val (.int (2 : Int32)), .val (.ref ch), .val (.ref so), .val (.ref se), .val (.ref s4), .val (.ref so), .val (.int m14_s0), .val (.ref js), .val (.int (1 : Int32)), .val (.int (1 : Int32)), .unset] [(.ref rk)])) _
    refine XS.astore X20.here hx rfl (hb hby at_149) rfl rfl (l' := #[.val (.int x0), .val (.int x1), .val (.int x2), .val (.int x3), .val (.int (2 : Int32)), .val (.ref ch), .val (.ref so), .val (.ref se), .val (.ref s4), .val (.ref so), .val (.int m14_s0), .val (.ref js), .val (.int (1 : Int32)), .val (.int (1 : Int32)), .val (.ref rk)]) rfl ?_
    show Steps p.tables e below (T20.setTop (mkF m 151 #[.val (.int x0), .val (.int x1), .val (.int x2), .val (.int x3), .val (.int (2 : Int32)), .val (.ref ch), .val (.ref so), .val (.ref se), .val (.ref s4), .val (.ref so), .val (.int m14_s0), .val (.ref js), .val (.int (1 : Int32)), .val (.int (1 : Int32)), .val (.ref rk)] [])) _
    refine XS.iload X20.here hx rfl (hb hby at_151) rfl ?_
    show Steps p.tables e below (T20.setTop (mkF m 153 #[.val (.int x0), .val (.int x1), .val (.int x2), .val (.int x3), .val (.int (2 : Int32)), .val (.ref ch), .val (.ref so), .val (.ref se), .val (.ref s4), .val (.ref so), .val (.int m14_s0), .val (.ref js), .val (.int (1 : Int32)), .val (.int (1 : Int32)), .val (.ref rk)] [(.int (1 : Int32))])) _
    refine XS.iload X20.here hx rfl (hb hby at_153) rfl ?_
    show Steps p.tables e below (T20.setTop (mkF m 155 #[.val (.int x0), .val (.int x1), .val (.int x2), .val (.int x3), .val (.int (2 : Int32)), .val (.ref ch), .val (.ref so), .val (.ref se), .val (.ref s4), .val (.ref so), .val (.int m14_s0), .val (.ref js), .val (.int (1 : Int32)), .val (.int (1 : Int32)), .val (.ref rk)] [(.int (1 : Int32)), (.int (1 : Int32))])) _
    refine XS.icmpNo X20.here hx rfl (hb hby at_155) rfl (teq (by decide : (1 : Int32) = (1 : Int32))).2 ?_
    show Steps p.tables e below (T20.setTop (mkF m 158 #[.val (.int x0), .val (.int x1), .val (.int x2), .val (.int x3), .val (.int (2 : Int32)), .val (.ref ch), .val (.ref so), .val (.ref se), .val (.ref s4), .val (.ref so), .val (.int m14_s0), .val (.ref js), .val (.int (1 : Int32)), .val (.int (1 : Int32)), .val (.ref rk)] [])) _
    refine XS.iload X20.here hx rfl (hb hby at_158) rfl ?_
    show Steps p.tables e below (T20.setTop (mkF m 160 #[.val (.int x0), .val (.int x1), .val (.int x2), .val (.int x3), .val (.int (2 : Int32)), .val (.ref ch), .val (.ref so), .val (.ref se), .val (.ref s4), .val (.ref so), .val (.int m14_s0), .val (.ref js), .val (.int (1 : Int32)), .val (.int (1 : Int32)), .val (.ref rk)] [(.int (1 : Int32))])) _
    refine XS.aload X20.here hx rfl (hb hby at_160) rfl rfl ?_
    show Steps p.tables e below (T20.setTop (mkF m 162 #[.val (.int x0), .val (.int x1), .val (.int x2), .val (.int x3), .val (.int (2 : Int32)), .val (.ref ch), .val (.ref so), .val (.ref se), .val (.ref s4), .val (.ref so), .val (.int m14_s0), .val (.ref js), .val (.int (1 : Int32)), .val (.int (1 : Int32)), .val (.ref rk)] [(.ref rk), (.int (1 : Int32))])) _
    refine XS.ifnullNo X20.here hx rfl (hb hby at_162) rfl ?_
    show Steps p.tables e below (T20.setTop (mkF m 165 #[.val (.int x0), .val (.int x1), .val (.int x2), .val (.int x3), .val (.int (2 : Int32)), .val (.ref ch), .val (.ref so), .val (.ref se), .val (.ref s4), .val (.ref so), .val (.int m14_s0), .val (.ref js), .val (.int (1 : Int32)), .val (.int (1 : Int32)), .val (.ref rk)] [(.int (1 : Int32))])) _
    refine XS.iconst X20.here hx rfl (hb hby at_165) ?_
    show Steps p.tables e below (T20.setTop (mkF m 166 #[.val (.int x0), .val (.int x1), .val (.int x2), .val (.int x3), .val (.int (2 : Int32)), .val (.ref ch), .val (.ref so), .val (.ref se), .val (.ref s4), .val (.ref so), .val (.int m14_s0), .val (.ref js), .val (.int (1 : Int32)), .val (.int (1 : Int32)), .val (.ref rk)] [(.int (1 : Int32)), (.int (1 : Int32))])) _
    refine XS.goto X20.here hx rfl (pc0 := 166) (pc' := 170) rfl (hb hby at_166) (by decide) (by decide) ?_
    show Steps p.tables e below (T20.setTop (mkF m 170 #[.val (.int x0), .val (.int x1), .val (.int x2), .val (.int x3), .val (.int (2 : Int32)), .val (.ref ch), .val (.ref so), .val (.ref se), .val (.ref s4), .val (.ref so), .val (.int m14_s0), .val (.ref js), .val (.int (1 : Int32)), .val (.int (1 : Int32)), .val (.ref rk)] [(.int (1 : Int32)), (.int (1 : Int32))])) _
    refine XS.icmpNo X20.here hx rfl (hb hby at_170) rfl (teq (by decide : (1 : Int32) = (1 : Int32))).2 ?_
    show Steps p.tables e below (T20.setTop (mkF m 173 #[.val (.int x0), .val (.int x1), .val (.int x2), .val (.int x3), .val (.int (2 : Int32)), .val (.ref ch), .val (.ref so), .val (.ref se), .val (.ref s4), .val (.ref so), .val (.int m14_s0), .val (.ref js), .val (.int (1 : Int32)), .val (.int (1 : Int32)), .val (.ref rk)] [])) _
    refine XS.iconst X20.here hx rfl (hb hby at_173) ?_
    show Steps p.tables e below (T20.setTop (mkF m 174 #[.val (.int x0), .val (.int x1), .val (.int x2), .val (.int x3), .val (.int (2 : Int32)), .val (.ref ch), .val (.ref so), .val (.ref se), .val (.ref s4), .val (.ref so), .val (.int m14_s0), .val (.ref js), .val (.int (1 : Int32)), .val (.int (1 : Int32)), .val (.ref rk)] [(.int (1 : Int32))])) _
    refine XS.goto X20.here hx rfl (pc0 := 174) (pc' := 178) rfl (hb hby at_174) (by decide) (by decide) ?_
    show Steps p.tables e below (T20.setTop (mkF m 178 #[.val (.int x0), .val (.int x1), .val (.int x2), .val (.int x3), .val (.int (2 : Int32)), .val (.ref ch), .val (.ref so), .val (.ref se), .val (.ref s4), .val (.ref so), .val (.int m14_s0), .val (.ref js), .val (.int (1 : Int32)), .val (.int (1 : Int32)), .val (.ref rk)] [(.int (1 : Int32))])) _
    exact retN X20 hx (t := .boolean) Bd.returns (by simp) (hb hby at_178) hr
  · exact ⟨rfl, N20⟩
theorem own_three (x : Int32) : ((x &&& (2147483647 : Int32)) % (3 : Int32)) = (0 : Int32) ∨ ((x &&& (2147483647 : Int32)) % (3 : Int32)) = (1 : Int32) ∨ ((x &&& (2147483647 : Int32)) % (3 : Int32)) = (2 : Int32) := by
  have h1 := c_mask x (2147483647 : Int32) 31 (by decide) (by decide)
  have h2 := c_irem (x &&& (2147483647 : Int32)) (3 : Int32) 3 rfl
  have c0 : (0 : Int32).toInt = 0 := rfl
  have c1 : (1 : Int32).toInt = 1 := rfl
  have c2 : (2 : Int32).toInt = 2 := rfl
  rw [← Int32.toInt_inj, ← Int32.toInt_inj, ← Int32.toInt_inj]; omega
theorem rm0 (l : Launch) (Z : State) (a0 : Array Value) (hw : ∀ d ∈ tables_1, d.before a0 Z = true) (ws : List Jvm.Cond) (x0 : Int32) (x1 : Int32) (x2 : Int32) (x3 : Int32) (cs : Int32) (u8 d3 s4 : Addr) (h0 : Heap) (n0 : Nat) (Z0 : n0 ≤ h0.size) (O0 : Old Z n0 h0) (S_CS : Sta Z Z.heap "java/lang/String" "COMPACT_STRINGS" "Z" (.int cs)) (hcs : ¬ (cs = (0 : Int32))) (S_IN : Sta Z Z.heap "sun/nio/cs/UTF_8" "INSTANCE" "Lsun/nio/cs/UTF_8;" (.ref u8)) (S_U8 : Sta Z Z.heap "java/nio/charset/StandardCharsets" "UTF_8" "Ljava/nio/charset/Charset;" (.ref u8)) (S_D3 : Sta Z Z.heap "com/example/wardgate/wardgate/model/JwtSettings$Cipher" "DES3" "Lcom/example/wardgate/wardgate/model/JwtSettings$Cipher;" (.ref d3)) (S_S4 : Sta Z Z.heap "com/example/wardgate/wardgate/model/JwtSettings$Cipher" "SM4" "Lcom/example/wardgate/wardgate/model/JwtSettings$Cipher;" (.ref s4)) :
    MetFree l x (head1 (Jvm.Cond.code x code maxLocals ret :: ws) room_1) (fun a U => a = #[(.int x0), (.int x1), (.int x2), (.int x3)] ∧ Z.Warmed39 U.vm ∧ U.heap = h0) (fun _ _ _ _ _ => True) (fun _ U o U' => ∃ v L, o = .returned v ∧ (QL n0 v U'.heap L) ∧ FrameEnd U o U' L room_1.cells room_1.slots) := by
  rcases own_three x0 with q | q | q
  · exact rm0_0 l Z a0 hw ws x0 x1 x2 x3 cs u8 d3 s4 h0 n0 Z0 q O0 S_CS hcs S_IN S_U8 S_D3 S_S4
  · exact rm0_1 l Z a0 hw ws x0 x1 x2 x3 cs u8 d3 s4 h0 n0 Z0 q O0 S_CS hcs S_IN S_U8 S_D3 S_S4
  · exact rm0_2 l Z a0 hw ws x0 x1 x2 x3 cs u8 d3 s4 h0 n0 Z0 q O0 S_CS hcs S_IN S_U8 S_D3 S_S4
set_option maxRecDepth 65536 in
set_option maxHeartbeats 40000000 in
theorem comes_1 {Post : Tables → Env → Array Value → State → Outcome → State → Prop} (hpost : ∀ tb e args s v u, (limb_1_1.after args s (.returned v) u = true ∧ limb_1_2.after args s (.returned v) u = true ∧ True) → FrameEnd s (.returned v) u (Jvm.fieldLocs frame_1_writes args s ++ Jvm.arrayLocs frame_1_arrays args s ++ Jvm.staticLocs frame_1_statics s) 24 128 → Post tb e args s (.returned v) u) :
    ArmFor flags0 classFile x code maxLocals ret World_1 tables_1 room_1 Calls_1 rest_1 Pre_1 Post := by
  intro l hfl _ _ p e ha hc hk s m args below hf hA hF happ hP
  obtain ⟨hcalls, hrest, hpre⟩ := hP
  obtain ⟨-, -, -, hnamed, -, -, -, hat⟩ := (Spec.applies_iff hf).mp happ
  obtain ⟨hg, hn⟩ := and_e (Cond.before_iff.mp (show (Jvm.Cond.and given_1 narrow_1).before args s = true from hpre))
  obtain ⟨g1, g2⟩ := and_e hg
  obtain ⟨g3, g4⟩ := and_e g2
  obtain ⟨g5, g6⟩ := and_e g4
  obtain ⟨g7, g8⟩ := and_e g6
  obtain ⟨w0, w1, w2, w3, rfl⟩ : ∃ w0 w1 w2 w3 : Value, args = #[w0, w1, w2, w3] := by
    have hs : args.size = 4 := by simpa [Cond.value, given_1] using g1
    obtain ⟨L⟩ := args
    match L, hs with
    | [w0, w1, w2, w3], _ => exact ⟨w0, w1, w2, w3, rfl⟩
  have hw := fun d (hd : d ∈ tables_1) => atoms_spec (ws := Jvm.Cond.code x code maxLocals ret :: tables_1) hat d (List.mem_cons_of_mem _ hd)
  have hfit : Fit s := fun {y c} hc i hi => by
    obtain ⟨ha, rfl⟩ := Array.getElem?_eq_some_iff.mp hc
    have q := List.all_eq_true.mp ((Array.all_eq_true_iff_forall_mem.mp hF) _ (Array.getElem_mem ha)) i (List.mem_range.mpr hi)
    simpa [Array.getElem?_eq_getElem hi] using q
  obtain ⟨hsets, hown0⟩ := atoms_of _ (rest_1_c_eq ▸ (show rest_1_c.before _ s = true from hrest))
  have hr0 := Cond.before_iff.mp hown0
  obtain ⟨i0, ei0⟩ := is_v g3
  obtain rfl : w0 = (.int i0) := Option.some.inj ei0
  obtain ⟨i1, ei1⟩ := is_v g5
  obtain rfl : w1 = (.int i1) := Option.some.inj ei1
  obtain ⟨i2, ei2⟩ := is_v g7
  obtain rfl : w2 = (.int i2) := Option.some.inj ei2
  obtain ⟨i3, ei3⟩ := is_v g8
  obtain rfl : w3 = (.int i3) := Option.some.inj ei3
  obtain ⟨n1, n2⟩ := and_e hn
  obtain ⟨d3, ed3⟩ := exa_v n1
  obtain ⟨s4, es4⟩ := exa_v n2
  have S_D3 : Sta s s.heap "com/example/wardgate/wardgate/model/JwtSettings$Cipher" "DES3" "Lcom/example/wardgate/wardgate/model/JwtSettings$Cipher;" (.ref d3) := Sta.start ed3 (Or.inr ⟨(hw _ (List.mem_of_getElem? (i := 76) rfl)), (hw _ (List.mem_of_getElem? (i := 77) rfl))⟩)
  have S_S4 : Sta s s.heap "com/example/wardgate/wardgate/model/JwtSettings$Cipher" "SM4" "Lcom/example/wardgate/wardgate/model/JwtSettings$Cipher;" (.ref s4) := Sta.start es4 (Or.inr ⟨(hw _ (List.mem_of_getElem? (i := 76) rfl)), (hw _ (List.mem_of_getElem? (i := 134) rfl))⟩)
  obtain ⟨cs, ecs⟩ := is_v (Cond.before_iff.mp (hsets _ (List.mem_of_getElem? (i := 1) rfl)))
  have S_CS : Sta s s.heap "java/lang/String" "COMPACT_STRINGS" "Z" (.int cs) := Sta.start ecs (Or.inl (hsets _ (List.mem_of_getElem? (i := 0) rfl)))
  have hcs : ¬ (cs = (0 : Int32)) := gotF (Cond.eq_ints ecs (Term.int_eval (0))) (not_v (Cond.before_iff.mp (hsets _ (List.mem_of_getElem? (i := 2) rfl))))
  obtain ⟨u8, eu8⟩ := exa_v (Cond.before_iff.mp (hsets _ (List.mem_of_getElem? (i := 17) rfl)))
  obtain ⟨u9, eu9⟩ := exa_v (Cond.before_iff.mp (hsets _ (List.mem_of_getElem? (i := 14) rfl)))
  have e89 := gotT (eq_R eu9 eu8 rfl rfl) (Cond.before_iff.mp (hsets _ (List.mem_of_getElem? (i := 13) rfl)))
  cases e89
  have S_IN : Sta s s.heap "sun/nio/cs/UTF_8" "INSTANCE" "Lsun/nio/cs/UTF_8;" (.ref u8) := Sta.start eu8 (Or.inl (hsets _ (List.mem_of_getElem? (i := 12) rfl)))
  have S_U8 : Sta s s.heap "java/nio/charset/StandardCharsets" "UTF_8" "Ljava/nio/charset/Charset;" (.ref u8) := Sta.start eu9 (Or.inl (hsets _ (List.mem_of_getElem? (i := 10) rfl)))
  obtain ⟨n, o, h1, h2, h3, _, L, rfl, ⟨rfl, N⟩, hq⟩ := rm0 l s _ hw tables_1 i0 i1 i2 i3 cs u8 d3 s4 s.heap s.heap.size (Nat.le_refl _) (Old.start s) S_CS hcs S_IN S_U8 S_D3 S_S4 p e ha hc hk s m _ below hf ((Spec.applies_iff_loose hf).mp happ).1 ⟨rfl, State.Warmed39.refl s, rfl⟩ trivial
  refine ⟨n, _, h1, h2, h3, hpost _ _ _ _ _ _ ⟨Cond.after_iff.mpr rfl, Cond.after_iff.mpr (eq_i res_at (Term.int_eval (1)) rfl), trivial⟩ ⟨hq.1, hq.2.1, (hq.2.2.sift fun y hy => Or.inr (N y hy)).mono (by decide) (by decide)⟩⟩
theorem main_1_1 : Claimed_1_1 := comes_1 fun _ _ _ _ _ _ h hF => ⟨h.1, hF⟩
theorem main_1_2 : Claimed_1_2 := comes_1 fun _ _ _ _ _ _ h hF => ⟨h.2.1, hF⟩
end Jvm.Pilot.@@N@@
namespace Jvm.Pilot.@@N@@
open Jvm Jvm.ClassFile Sem Op Lib Jvm.Free Jvm.Stand Jvm.Pilot.@@N@@.Jvm.D
/-! MADE BY PROGRAM (witnessworld.py) out of the Statement's table words and the real class files: 32 classes; the members and pool entries that the words name. The judged class is class 1, her method 1. -/
namespace start1
open Jvm.ClassFile
def u (s : String) : CpInfo := .utf8 (stringToUtf16 s)
/-- a pool by its gaps: so many unusable entries, then the entry; so many at the end -/
def gap : Nat → List CpInfo → List CpInfo
  | 0, r => r
  | n + 1, r => .unusable :: gap n r
def poolList (es : List (Nat × CpInfo)) (last : Nat) : List CpInfo := es.foldr (fun e r => gap e.1 (e.2 :: r)) (gap last [])
def pool (es : List (Nat × CpInfo)) (last : Nat) : Array CpInfo := ⟨poolList es last⟩
def fileOf (pool : Array CpInfo) (this : Nat) (attrs : Array Attribute := #[]) (ms : Array MethodInfo := #[]) (fl : Nat := 33) (sup : Nat := 0) (ifs : Array Nat := #[]) (fds : Array FieldInfo := #[]) : ClassFile where
  minorVersion := 0
  majorVersion := 65
  constantPool := pool
  accessFlags := fl
  thisClass := this
  superClass := sup
  interfaces := ifs
  fields := fds
  methods := ms
  attributes := attrs
def plain (name : String) (sup : Option ClassId) : Class where
  name := name
  kind := .ordinary
  loader := none
  accessFlags := 33
  super := sup
  interfaces := #[]
  cf := none
  fields := #[]
  methods := #[]
  instanceTypes := #[]
  staticTypes := #[]
  resolved := #[]
  callSites := []
  init := .initialized
  statics := none
  mirror := none

def pool0 : Array CpInfo := pool [(5, u "<init>"), (0, u "()V"), (1, .class_ 10), (1, u "java/lang/Object"), (85, u "clone"), (0, u "()Ljava/lang/Object;")] 26

def k0c0 : Code := { maxStack := 0, maxLocals := 1, code := object_method_1_code, exceptionTable := #[], attributes := #[] }
def k0m0 : Method := { name := "<init>", desc := "()V", sig := { parameters := [], returnType := none }, accessFlags := 1, code := some k0c0 }
def k0m1 : Method := { name := "clone", desc := "()Ljava/lang/Object;", sig := { parameters := [], returnType := some (.object "java/lang/Object") }, accessFlags := 260, code := none }
/-- java/lang/Object -/
def k0 : Class := { plain "java/lang/Object" none with
  accessFlags := 33
  interfaces := #[]
  cf := some (fileOf pool0 8 #[] #[{ accessFlags := 1, nameIndex := 5, descriptorIndex := 6, attributes := #[] }, { accessFlags := 260, nameIndex := 96, descriptorIndex := 97, attributes := #[] }] 33 0 #[] #[])
  fields := #[]
  methods := #[k0m0, k0m1]
  instanceTypes := #[]
  staticTypes := #[]
  resolved := Array.replicate 124 none
  statics := none }

def pool1 : Array CpInfo := pool [(2, .class_ 4), (1, u "java/lang/Object"), (0, u "<init>"), (0, u "()V"), (0, .integer 2147483647), (0, .class_ 9), (0, u "java/lang/String"), (0, .methodref 8 11), (0, .nameAndType 5 12), (0, u "([C)V"), (0, .methodref 8 14), (0, .nameAndType 15 16), (0, u "valueOf"), (0, u "(C)Ljava/lang/String;"), (0, .fieldref 18 19), (0, .class_ 20), (0, .nameAndType 21 22), (0, u "com/example/wardgate/wardgate/model/JwtSettings$Cipher"), (0, u "DES3"), (0, u "Lcom/example/wardgate/wardgate/model/JwtSettings$Cipher;"), (0, .fieldref 18 24), (0, .nameAndType 25 22), (0, u "SM4"), (0, .class_ 27), (0, u "com/example/wardgate/wardgate/model/JwtSettings"), (0, .methodref 26 29), (0, .nameAndType 5 30), (0, u "(Ljava/lang/String;Lcom/example/wardgate/wardgate/model/JwtSettings$Cipher;Ljava/lang/String;Z)V"), (0, .methodref 26 32), (0, .nameAndType 33 34), (0, u "sealsSessions"), (0, u "()Z"), (0, .methodref 26 36), (0, .nameAndType 37 38), (0, u "sealingKey"), (0, u "()[B"), (0, .class_ 40), (0, u "com/example/wardgate/wardgate/model/JwtSettingsSealsSessionsPinLaw"), (2, u "law"), (0, u "(IIII)Z")] 9

def k1m0 : Method := { name := "<init>", desc := "()V", sig := { parameters := [], returnType := none }, accessFlags := 1, code := none }
def k1c1 : Code := { maxStack := 6, maxLocals := 15, code := code, exceptionTable := #[], attributes := #[] }
def k1m1 : Method := { name := "law", desc := "(IIII)Z", sig := { parameters := [.int, .int, .int, .int], returnType := some .boolean }, accessFlags := 9, code := some k1c1 }
/-- com/example/wardgate/wardgate/model/JwtSettingsSealsSessionsPinLaw -/
def k1 : Class := { plain "com/example/wardgate/wardgate/model/JwtSettingsSealsSessionsPinLaw" (some 0) with
  accessFlags := 49
  interfaces := #[]
  cf := some (fileOf pool1 39 #[] #[{ accessFlags := 1, nameIndex := 5, descriptorIndex := 6, attributes := #[] }, { accessFlags := 9, nameIndex := 43, descriptorIndex := 44, attributes := #[] }] 49 2 #[] #[])
  fields := #[]
  methods := #[k1m0, k1m1]
  instanceTypes := #[]
  staticTypes := #[]
  resolved := Array.replicate 54 none
  statics := none }

def pool2 : Array CpInfo := pool [(1, .class_ 2), (0, u "java/io/Serializable"), (0, .class_ 4), (0, u "java/lang/Object")] 2

/-- java/io/Serializable -/
def k2 : Class := { plain "java/io/Serializable" (some 0) with
  accessFlags := 1537
  interfaces := #[]
  cf := some (fileOf pool2 1 #[] #[] 1537 3 #[] #[])
  fields := #[]
  methods := #[]
  instanceTypes := #[]
  staticTypes := #[]
  resolved := Array.replicate 7 none
  statics := none }

def pool3 : Array CpInfo := pool [(1, .class_ 2), (0, u "java/lang/Comparable"), (0, .class_ 4), (0, u "java/lang/Object")] 7

/-- java/lang/Comparable -/
def k3 : Class := { plain "java/lang/Comparable" (some 0) with
  accessFlags := 1537
  interfaces := #[]
  cf := some (fileOf pool3 1 #[] #[] 1537 3 #[] #[])
  fields := #[]
  methods := #[]
  instanceTypes := #[]
  staticTypes := #[]
  resolved := Array.replicate 12 none
  statics := none }

def pool4 : Array CpInfo := pool [(2, .class_ 4), (1, u "java/lang/CharSequence"), (42, .class_ 48), (0, u "java/lang/CharSequence$1CodePointIterator"), (10, .class_ 60), (0, u "java/lang/CharSequence$1CharIterator"), (5, .class_ 67), (0, u "java/lang/Object")] 63

/-- java/lang/CharSequence -/
def k4 : Class := { plain "java/lang/CharSequence" (some 0) with
  accessFlags := 1537
  interfaces := #[]
  cf := some (fileOf pool4 2 #[.nestMembers #[47, 59]] #[] 1537 66 #[] #[])
  fields := #[]
  methods := #[]
  instanceTypes := #[]
  staticTypes := #[]
  resolved := Array.replicate 131 none
  statics := none }

def pool5 : Array CpInfo := pool [(1, .class_ 2), (0, u "java/lang/constant/Constable"), (0, .class_ 4), (0, u "java/lang/Object")] 6

/-- java/lang/constant/Constable -/
def k5 : Class := { plain "java/lang/constant/Constable" (some 0) with
  accessFlags := 1537
  interfaces := #[]
  cf := some (fileOf pool5 1 #[] #[] 1537 3 #[] #[])
  fields := #[]
  methods := #[]
  instanceTypes := #[]
  staticTypes := #[]
  resolved := Array.replicate 11 none
  statics := none }

def pool6 : Array CpInfo := pool [(1, .class_ 2), (0, u "java/lang/constant/ConstantDesc"), (0, .class_ 4), (0, u "java/lang/Object")] 32

/-- java/lang/constant/ConstantDesc -/
def k6 : Class := { plain "java/lang/constant/ConstantDesc" (some 0) with
  accessFlags := 1537
  interfaces := #[]
  cf := some (fileOf pool6 1 #[] #[] 1537 3 #[] #[])
  fields := #[]
  methods := #[]
  instanceTypes := #[]
  staticTypes := #[]
  resolved := Array.replicate 37 none
  statics := none }

def pool7 : Array CpInfo := pool [(1, .methodref 2 3), (0, .class_ 4), (0, .nameAndType 5 6), (0, u "java/lang/Object"), (0, u "<init>"), (0, u "()V"), (2, .fieldref 10 11), (0, .class_ 12), (0, .nameAndType 13 14), (0, u "java/lang/String"), (0, u "value"), (0, u "[B"), (0, .fieldref 10 16), (0, .nameAndType 17 18), (0, u "coder"), (0, u "B"), (2, u "hash"), (0, u "I"), (2, u "hashIsZero"), (0, u "Z"), (0, .methodref 10 28), (0, .nameAndType 5 29), (0, u "([CIILjava/lang/Void;)V"), (8, .fieldref 10 39), (0, .nameAndType 40 26), (0, u "COMPACT_STRINGS"), (1, .class_ 44), (1, u "java/lang/StringUTF16"), (0, u "compress"), (1, .methodref 42 48), (0, .nameAndType 49 50), (0, u "coderFromArrayLen"), (0, u "([BI)B"), (2, u "toBytes"), (1, .class_ 57), (1, u "java/util/Arrays"), (2, .methodref 42 61), (0, .nameAndType 62 63), (0, u "newBytesFor"), (0, u "(I)[B"), (22, .fieldref 87 88), (0, .class_ 89), (0, .nameAndType 90 91), (0, u "sun/nio/cs/UTF_8"), (0, u "INSTANCE"), (0, u "Lsun/nio/cs/UTF_8;"), (1, .class_ 95), (1, u "java/lang/StringCoding"), (6, .methodref 55 103), (0, .nameAndType 104 105), (0, u "copyOf"), (0, u "([BI)[B"), (1, .class_ 109), (1, u "java/lang/StringLatin1"), (18, .methodref 93 129), (0, .nameAndType 130 131), (0, u "hasNegatives"), (0, u "([BII)Z"), (45, .methodref 42 178), (0, .nameAndType 45 179), (0, u "([CII)[B"), (29, .methodref 10 210), (0, .nameAndType 5 211), (0, u "([BB)V"), (40, .methodref 10 253), (0, .nameAndType 254 255), (0, u "encodeUTF8"), (0, u "(B[BZ)[B"), (23, .methodref 280 281), (0, .class_ 14), (0, .nameAndType 282 283), (0, u "clone"), (0, u "()Ljava/lang/Object;"), (33, u "encode"), (17, .methodref 10 336), (0, .nameAndType 17 337), (0, u "()B"), (31, u "(C)Z"), (162, u "getBytes"), (2, .methodref 10 536), (0, .nameAndType 317 537), (0, u "(Ljava/nio/charset/Charset;B[B)[B"), (37, .class_ 576), (0, u "java/lang/CharSequence"), (22, u "CASE_INSENSITIVE_ORDER"), (0, u "Ljava/util/Comparator;"), (181, u "valueOf"), (0, u "(C)Ljava/lang/String;"), (226, u "([C)V"), (4, .methodref 107 1016), (0, .nameAndType 1017 369), (0, u "canEncode"), (0, .methodref 107 1019), (0, .nameAndType 53 1020), (0, u "(C)[B"), (80, u "serialPersistentFields"), (0, u "[Ljava/io/ObjectStreamField;"), (0, .class_ 1104), (0, u "java/lang/String$CaseInsensitiveComparator"), (1, .class_ 1107), (0, u "java/io/Serializable"), (0, .class_ 1109), (0, u "java/lang/Comparable"), (0, .class_ 1111), (0, u "java/lang/constant/Constable"), (0, .class_ 1113), (0, u "java/lang/constant/ConstantDesc"), (2, u "serialVersionUID"), (0, u "J"), (3, u "REPL"), (0, u "C"), (2, u "LATIN1"), (1, u "UTF16"), (117, u "(Ljava/nio/charset/Charset;)[B")] 205

def k7m0 : Method := { name := "<init>", desc := "()V", sig := { parameters := [], returnType := none }, accessFlags := 1, code := none }
def k7c1 : Code := { maxStack := 5, maxLocals := 2, code := jdk_42_method_3_code, exceptionTable := #[], attributes := #[] }
def k7m1 : Method := { name := "<init>", desc := "([C)V", sig := { parameters := [(.array .char)], returnType := none }, accessFlags := 1, code := some k7c1 }
def k7c2 : Code := { maxStack := 4, maxLocals := 3, code := jdk_42_method_18_code, exceptionTable := #[], attributes := #[] }
def k7m2 : Method := { name := "encode", desc := "(Ljava/nio/charset/Charset;B[B)[B", sig := { parameters := [(.object "java/nio/charset/Charset"), .byte, (.array .byte)], returnType := some (.array .byte) }, accessFlags := 10, code := some k7c2 }
def k7c3 : Code := { maxStack := 5, maxLocals := 9, code := jdk_42_method_46_code, exceptionTable := #[], attributes := #[] }
def k7m3 : Method := { name := "encodeUTF8", desc := "(B[BZ)[B", sig := { parameters := [.byte, (.array .byte), .boolean], returnType := some (.array .byte) }, accessFlags := 10, code := some k7c3 }
def k7c4 : Code := { maxStack := 3, maxLocals := 2, code := jdk_42_method_64_code, exceptionTable := #[], attributes := #[] }
def k7m4 : Method := { name := "getBytes", desc := "(Ljava/nio/charset/Charset;)[B", sig := { parameters := [(.object "java/nio/charset/Charset")], returnType := some (.array .byte) }, accessFlags := 1, code := some k7c4 }
def k7c5 : Code := { maxStack := 4, maxLocals := 1, code := jdk_42_method_139_code, exceptionTable := #[], attributes := #[] }
def k7m5 : Method := { name := "valueOf", desc := "(C)Ljava/lang/String;", sig := { parameters := [.char], returnType := some (.object "java/lang/String") }, accessFlags := 9, code := some k7c5 }
def k7c6 : Code := { maxStack := 4, maxLocals := 6, code := jdk_42_method_149_code, exceptionTable := #[], attributes := #[] }
def k7m6 : Method := { name := "<init>", desc := "([CIILjava/lang/Void;)V", sig := { parameters := [(.array .char), .int, .int, (.object "java/lang/Void")], returnType := none }, accessFlags := 2, code := some k7c6 }
def k7c7 : Code := { maxStack := 2, maxLocals := 3, code := jdk_42_method_151_code, exceptionTable := #[], attributes := #[] }
def k7m7 : Method := { name := "<init>", desc := "([BB)V", sig := { parameters := [(.array .byte), .byte], returnType := none }, accessFlags := 0, code := some k7c7 }
def k7c8 : Code := { maxStack := 1, maxLocals := 1, code := jdk_42_method_152_code, exceptionTable := #[], attributes := #[] }
def k7m8 : Method := { name := "coder", desc := "()B", sig := { parameters := [], returnType := some .byte }, accessFlags := 0, code := some k7c8 }
/-- java/lang/String -/
def k7 : Class := { plain "java/lang/String" (some 0) with
  accessFlags := 49
  interfaces := #[2, 3, 4, 5, 6]
  cf := some (fileOf pool7 10 #[.nestMembers #[1103]] #[{ accessFlags := 1, nameIndex := 5, descriptorIndex := 6, attributes := #[] }, { accessFlags := 1, nameIndex := 5, descriptorIndex := 1010, attributes := #[] }, { accessFlags := 10, nameIndex := 317, descriptorIndex := 537, attributes := #[] }, { accessFlags := 10, nameIndex := 254, descriptorIndex := 255, attributes := #[] }, { accessFlags := 1, nameIndex := 532, descriptorIndex := 1245, attributes := #[] }, { accessFlags := 9, nameIndex := 782, descriptorIndex := 783, attributes := #[] }, { accessFlags := 2, nameIndex := 5, descriptorIndex := 29, attributes := #[] }, { accessFlags := 0, nameIndex := 5, descriptorIndex := 211, attributes := #[] }, { accessFlags := 0, nameIndex := 17, descriptorIndex := 337, attributes := #[] }] 49 2 #[1106, 1108, 575, 1110, 1112] #[{ accessFlags := 18, nameIndex := 13, descriptorIndex := 14, attributes := #[] }, { accessFlags := 18, nameIndex := 17, descriptorIndex := 18, attributes := #[] }, { accessFlags := 2, nameIndex := 21, descriptorIndex := 22, attributes := #[] }, { accessFlags := 2, nameIndex := 25, descriptorIndex := 26, attributes := #[] }, { accessFlags := 26, nameIndex := 1116, descriptorIndex := 1117, attributes := #[] }, { accessFlags := 24, nameIndex := 40, descriptorIndex := 26, attributes := #[] }, { accessFlags := 26, nameIndex := 1101, descriptorIndex := 1102, attributes := #[] }, { accessFlags := 26, nameIndex := 1121, descriptorIndex := 1122, attributes := #[] }, { accessFlags := 25, nameIndex := 599, descriptorIndex := 600, attributes := #[] }, { accessFlags := 24, nameIndex := 1125, descriptorIndex := 18, attributes := #[] }, { accessFlags := 24, nameIndex := 1127, descriptorIndex := 18, attributes := #[] }])
  fields := #[{ name := "value", type := (.array .byte), accessFlags := 18, slot := 0, constantValue := 0 }, { name := "coder", type := .byte, accessFlags := 18, slot := 1, constantValue := 0 }, { name := "hash", type := .int, accessFlags := 2, slot := 2, constantValue := 0 }, { name := "hashIsZero", type := .boolean, accessFlags := 2, slot := 3, constantValue := 0 }, { name := "serialVersionUID", type := .long, accessFlags := 26, slot := 0, constantValue := 0 }, { name := "COMPACT_STRINGS", type := .boolean, accessFlags := 24, slot := 1, constantValue := 0 }, { name := "serialPersistentFields", type := (.array (.object "java/io/ObjectStreamField")), accessFlags := 26, slot := 2, constantValue := 0 }, { name := "REPL", type := .char, accessFlags := 26, slot := 3, constantValue := 0 }, { name := "CASE_INSENSITIVE_ORDER", type := (.object "java/util/Comparator"), accessFlags := 25, slot := 4, constantValue := 0 }, { name := "LATIN1", type := .byte, accessFlags := 24, slot := 5, constantValue := 0 }, { name := "UTF16", type := .byte, accessFlags := 24, slot := 6, constantValue := 0 }]
  methods := #[k7m0, k7m1, k7m2, k7m3, k7m4, k7m5, k7m6, k7m7, k7m8]
  instanceTypes := #[(.array .byte), .byte, .int, .boolean]
  staticTypes := #[.long, .boolean, (.array (.object "java/io/ObjectStreamField")), .char, (.object "java/util/Comparator"), .byte, .byte]
  resolved := Array.replicate 1451 none
  statics := some 0 }

def pool8 : Array CpInfo := pool [(6, .class_ 8), (1, u "java/lang/Object"), (0, u "<init>"), (0, u "()V"), (0, .methodref 12 13), (0, .class_ 14), (0, .nameAndType 15 16), (0, u "java/lang/StringUTF16"), (0, u "newBytesLength"), (0, u "(I)I"), (3, .integer 1073741823), (25, u "$assertionsDisabled"), (0, u "Z"), (13, u "HI_BYTE_SHIFT"), (0, u "I"), (2, u "LO_BYTE_SHIFT"), (43, u "newBytesFor"), (0, u "(I)[B"), (4, .methodref 12 116), (0, .nameAndType 117 118), (0, u "compress"), (0, u "([CI[BII)I"), (3, u "([CII)[B"), (138, u "coderFromArrayLen"), (0, u "([BI)B"), (106, .class_ 371), (1, u "java/lang/StringUTF16$LinesSpliterator"), (58, u "MAX_LENGTH"), (196, .class_ 628), (0, u "java/lang/StringUTF16$CodePointsSpliterator"), (0, .class_ 630), (0, u "java/lang/StringUTF16$CharsSpliterator")] 4

def k8m0 : Method := { name := "<init>", desc := "()V", sig := { parameters := [], returnType := none }, accessFlags := 0, code := none }
def k8c1 : Code := { maxStack := 1, maxLocals := 1, code := jdk_52_method_2_code, exceptionTable := #[], attributes := #[] }
def k8m1 : Method := { name := "newBytesFor", desc := "(I)[B", sig := { parameters := [.int], returnType := some (.array .byte) }, accessFlags := 9, code := some k8c1 }
def k8c2 : Code := { maxStack := 4, maxLocals := 1, code := jdk_52_method_3_code, exceptionTable := #[], attributes := #[] }
def k8m2 : Method := { name := "newBytesLength", desc := "(I)I", sig := { parameters := [.int], returnType := some .int }, accessFlags := 9, code := some k8c2 }
def k8c3 : Code := { maxStack := 2, maxLocals := 2, code := jdk_52_method_15_code, exceptionTable := #[], attributes := #[] }
def k8m3 : Method := { name := "coderFromArrayLen", desc := "([BI)B", sig := { parameters := [(.array .byte), .int], returnType := some .byte }, accessFlags := 8, code := some k8c3 }
def k8c4 : Code := { maxStack := 5, maxLocals := 6, code := jdk_52_method_16_code, exceptionTable := #[], attributes := #[] }
def k8m4 : Method := { name := "compress", desc := "([CII)[B", sig := { parameters := [(.array .char), .int, .int], returnType := some (.array .byte) }, accessFlags := 9, code := some k8c4 }
def k8c5 : Code := { maxStack := 3, maxLocals := 7, code := jdk_52_method_21_code, exceptionTable := #[], attributes := #[] }
def k8m5 : Method := { name := "compress", desc := "([CI[BII)I", sig := { parameters := [(.array .char), .int, (.array .byte), .int, .int], returnType := some .int }, accessFlags := 9, code := some k8c5 }
/-- java/lang/StringUTF16 -/
def k8 : Class := { plain "java/lang/StringUTF16" (some 0) with
  accessFlags := 48
  interfaces := #[]
  cf := some (fileOf pool8 12 #[.nestMembers #[627, 629, 369]] #[{ accessFlags := 0, nameIndex := 9, descriptorIndex := 10, attributes := #[] }, { accessFlags := 9, nameIndex := 109, descriptorIndex := 110, attributes := #[] }, { accessFlags := 9, nameIndex := 15, descriptorIndex := 16, attributes := #[] }, { accessFlags := 8, nameIndex := 261, descriptorIndex := 262, attributes := #[] }, { accessFlags := 9, nameIndex := 117, descriptorIndex := 122, attributes := #[] }, { accessFlags := 9, nameIndex := 117, descriptorIndex := 118, attributes := #[] }] 48 6 #[] #[{ accessFlags := 26, nameIndex := 61, descriptorIndex := 62, attributes := #[] }, { accessFlags := 26, nameIndex := 65, descriptorIndex := 62, attributes := #[] }, { accessFlags := 24, nameIndex := 430, descriptorIndex := 62, attributes := #[] }, { accessFlags := 4120, nameIndex := 46, descriptorIndex := 47, attributes := #[] }])
  fields := #[{ name := "HI_BYTE_SHIFT", type := .int, accessFlags := 26, slot := 0, constantValue := 0 }, { name := "LO_BYTE_SHIFT", type := .int, accessFlags := 26, slot := 1, constantValue := 0 }, { name := "MAX_LENGTH", type := .int, accessFlags := 24, slot := 2, constantValue := 0 }, { name := "$assertionsDisabled", type := .boolean, accessFlags := 4120, slot := 3, constantValue := 0 }]
  methods := #[k8m0, k8m1, k8m2, k8m3, k8m4, k8m5]
  instanceTypes := #[]
  staticTypes := #[.int, .int, .int, .boolean]
  resolved := Array.replicate 635 none
  statics := none }

def pool9 : Array CpInfo := pool [(4, .class_ 6), (1, u "java/lang/Object"), (0, u "<init>"), (0, u "()V"), (5, .class_ 16), (1, u "java/lang/StringLatin1"), (73, u "canEncode"), (14, u "(C)Z"), (15, u "$assertionsDisabled"), (0, u "Z"), (98, .class_ 223), (1, u "java/lang/StringLatin1$LinesSpliterator"), (156, u "toBytes"), (1, u "(C)[B"), (7, .class_ 391), (0, u "java/lang/StringLatin1$CharsSpliterator")] 3

def k9m0 : Method := { name := "<init>", desc := "()V", sig := { parameters := [], returnType := none }, accessFlags := 0, code := none }
def k9c1 : Code := { maxStack := 2, maxLocals := 1, code := jdk_43_method_3_code, exceptionTable := #[], attributes := #[] }
def k9m1 : Method := { name := "canEncode", desc := "(C)Z", sig := { parameters := [.char], returnType := some .boolean }, accessFlags := 9, code := some k9c1 }
def k9c2 : Code := { maxStack := 4, maxLocals := 1, code := jdk_43_method_46_code, exceptionTable := #[], attributes := #[] }
def k9m2 : Method := { name := "toBytes", desc := "(C)[B", sig := { parameters := [.char], returnType := some (.array .byte) }, accessFlags := 9, code := some k9c2 }
/-- java/lang/StringLatin1 -/
def k9 : Class := { plain "java/lang/StringLatin1" (some 0) with
  accessFlags := 48
  interfaces := #[]
  cf := some (fileOf pool9 14 #[.nestMembers #[390, 221]] #[{ accessFlags := 0, nameIndex := 7, descriptorIndex := 8, attributes := #[] }, { accessFlags := 9, nameIndex := 90, descriptorIndex := 105, attributes := #[] }, { accessFlags := 9, nameIndex := 380, descriptorIndex := 382, attributes := #[] }] 48 4 #[] #[{ accessFlags := 4120, nameIndex := 121, descriptorIndex := 122, attributes := #[] }])
  fields := #[{ name := "$assertionsDisabled", type := .boolean, accessFlags := 4120, slot := 0, constantValue := 0 }]
  methods := #[k9m0, k9m1, k9m2]
  instanceTypes := #[]
  staticTypes := #[.boolean]
  resolved := Array.replicate 395 none
  statics := none }

def pool10 : Array CpInfo := pool [(1, .methodref 2 3), (0, .class_ 4), (0, .nameAndType 5 6), (0, u "java/lang/Object"), (0, u "<init>"), (0, u "()V"), (0, .class_ 8), (0, u "java/lang/Record")] 13

def k10c0 : Code := { maxStack := 1, maxLocals := 1, code := jdk_30_method_1_code, exceptionTable := #[], attributes := #[] }
def k10m0 : Method := { name := "<init>", desc := "()V", sig := { parameters := [], returnType := none }, accessFlags := 4, code := some k10c0 }
/-- java/lang/Record -/
def k10 : Class := { plain "java/lang/Record" (some 0) with
  accessFlags := 1057
  interfaces := #[]
  cf := some (fileOf pool10 7 #[] #[{ accessFlags := 4, nameIndex := 5, descriptorIndex := 6, attributes := #[] }] 1057 2 #[] #[])
  fields := #[]
  methods := #[k10m0]
  instanceTypes := #[]
  staticTypes := #[]
  resolved := Array.replicate 22 none
  statics := none }

def pool11 : Array CpInfo := pool [(1, .methodref 2 3), (0, .class_ 4), (0, .nameAndType 5 6), (0, u "java/lang/Record"), (0, u "<init>"), (0, u "()V"), (7, .fieldref 15 16), (0, .class_ 17), (0, .nameAndType 18 19), (0, u "com/example/wardgate/wardgate/model/JwtSettings"), (0, u "secret"), (0, u "Ljava/lang/String;"), (0, .fieldref 15 21), (0, .nameAndType 22 23), (0, u "cipher"), (0, u "Lcom/example/wardgate/wardgate/model/JwtSettings$Cipher;"), (0, .fieldref 15 25), (0, .nameAndType 26 19), (0, u "cryptoKey"), (0, .fieldref 15 28), (0, .nameAndType 29 30), (0, u "checkLogout"), (0, u "Z"), (0, .fieldref 32 33), (0, .class_ 34), (0, .nameAndType 35 36), (0, u "java/nio/charset/StandardCharsets"), (0, u "UTF_8"), (0, u "Ljava/nio/charset/Charset;"), (0, .methodref 38 39), (0, .class_ 40), (0, .nameAndType 41 42), (0, u "java/lang/String"), (0, u "getBytes"), (0, u "(Ljava/nio/charset/Charset;)[B"), (2, u "sealsSessions"), (0, u "()Z"), (23, u "MIN_KEY_BYTES"), (0, u "I"), (2, u "(Ljava/lang/String;Lcom/example/wardgate/wardgate/model/JwtSettings$Cipher;Ljava/lang/String;Z)V"), (3, .class_ 79), (0, u "com/example/wardgate/wardgate/model/JwtSettings$Cipher"), (2, u "()[B"), (0, u "sealingKey")] 42

def k11c0 : Code := { maxStack := 3, maxLocals := 5, code := prog_19_method_1_code, exceptionTable := #[], attributes := #[] }
def k11m0 : Method := { name := "<init>", desc := "(Ljava/lang/String;Lcom/example/wardgate/wardgate/model/JwtSettings$Cipher;Ljava/lang/String;Z)V", sig := { parameters := [(.object "java/lang/String"), (.object "com/example/wardgate/wardgate/model/JwtSettings$Cipher"), (.object "java/lang/String"), .boolean], returnType := none }, accessFlags := 1, code := some k11c0 }
def k11c1 : Code := { maxStack := 1, maxLocals := 1, code := prog_19_method_3_code, exceptionTable := #[], attributes := #[] }
def k11m1 : Method := { name := "sealsSessions", desc := "()Z", sig := { parameters := [], returnType := some .boolean }, accessFlags := 1, code := some k11c1 }
def k11c2 : Code := { maxStack := 2, maxLocals := 1, code := prog_19_method_4_code, exceptionTable := #[], attributes := #[] }
def k11m2 : Method := { name := "sealingKey", desc := "()[B", sig := { parameters := [], returnType := some (.array .byte) }, accessFlags := 1, code := some k11c2 }
/-- com/example/wardgate/wardgate/model/JwtSettings -/
def k11 : Class := { plain "com/example/wardgate/wardgate/model/JwtSettings" (some 10) with
  accessFlags := 49
  interfaces := #[]
  cf := some (fileOf pool11 15 #[.nestMembers #[78]] #[{ accessFlags := 1, nameIndex := 5, descriptorIndex := 74, attributes := #[] }, { accessFlags := 1, nameIndex := 45, descriptorIndex := 46, attributes := #[] }, { accessFlags := 1, nameIndex := 83, descriptorIndex := 82, attributes := #[] }] 49 2 #[] #[{ accessFlags := 18, nameIndex := 18, descriptorIndex := 19, attributes := #[] }, { accessFlags := 18, nameIndex := 22, descriptorIndex := 23, attributes := #[] }, { accessFlags := 18, nameIndex := 26, descriptorIndex := 19, attributes := #[] }, { accessFlags := 18, nameIndex := 29, descriptorIndex := 30, attributes := #[] }, { accessFlags := 25, nameIndex := 70, descriptorIndex := 71, attributes := #[] }])
  fields := #[{ name := "secret", type := (.object "java/lang/String"), accessFlags := 18, slot := 0, constantValue := 0 }, { name := "cipher", type := (.object "com/example/wardgate/wardgate/model/JwtSettings$Cipher"), accessFlags := 18, slot := 1, constantValue := 0 }, { name := "cryptoKey", type := (.object "java/lang/String"), accessFlags := 18, slot := 2, constantValue := 0 }, { name := "checkLogout", type := .boolean, accessFlags := 18, slot := 3, constantValue := 0 }, { name := "MIN_KEY_BYTES", type := .int, accessFlags := 25, slot := 0, constantValue := 0 }]
  methods := #[k11m0, k11m1, k11m2]
  instanceTypes := #[(.object "java/lang/String"), (.object "com/example/wardgate/wardgate/model/JwtSettings$Cipher"), (.object "java/lang/String"), .boolean]
  staticTypes := #[.int]
  resolved := Array.replicate 126 none
  statics := none }

def pool12 : Array CpInfo := pool [(2, .class_ 4), (1, u "java/lang/Enum"), (0, u "name"), (0, u "Ljava/lang/String;"), (2, u "ordinal"), (0, u "I"), (1, .class_ 14), (1, u "java/lang/Object"), (4, u "hash"), (86, .class_ 108), (1, u "java/lang/Enum$EnumDesc"), (2, .class_ 112), (0, u "java/lang/constant/Constable"), (0, .class_ 114), (0, u "java/lang/Comparable"), (0, .class_ 116), (0, u "java/io/Serializable")] 87

/-- java/lang/Enum -/
def k12 : Class := { plain "java/lang/Enum" (some 0) with
  accessFlags := 1057
  interfaces := #[5, 3, 2]
  cf := some (fileOf pool12 2 #[.nestMembers #[106]] #[] 1057 12 #[111, 113, 115] #[{ accessFlags := 18, nameIndex := 5, descriptorIndex := 6, attributes := #[] }, { accessFlags := 18, nameIndex := 9, descriptorIndex := 10, attributes := #[] }, { accessFlags := 2, nameIndex := 19, descriptorIndex := 10, attributes := #[] }])
  fields := #[{ name := "name", type := (.object "java/lang/String"), accessFlags := 18, slot := 0, constantValue := 0 }, { name := "ordinal", type := .int, accessFlags := 18, slot := 1, constantValue := 0 }, { name := "hash", type := .int, accessFlags := 2, slot := 2, constantValue := 0 }]
  methods := #[]
  instanceTypes := #[(.object "java/lang/String"), .int, .int]
  staticTypes := #[]
  resolved := Array.replicate 204 none
  statics := none }

def pool13 : Array CpInfo := pool [(1, .class_ 2), (0, u "com/example/wardgate/wardgate/model/JwtSettings$Cipher"), (2, u "DES3"), (0, u "Lcom/example/wardgate/wardgate/model/JwtSettings$Cipher;"), (2, u "SM4"), (2, u "$VALUES"), (0, u "[Lcom/example/wardgate/wardgate/model/JwtSettings$Cipher;"), (6, .class_ 22), (1, u "java/lang/Enum"), (8, u "keyBytes"), (0, u "I"), (34, u "DES_KEY_BYTES"), (2, u "DES_PARITY_BIT"), (18, .class_ 90), (0, u "com/example/wardgate/wardgate/model/JwtSettings")] 16

/-- com/example/wardgate/wardgate/model/JwtSettings$Cipher -/
def k13 : Class := { plain "com/example/wardgate/wardgate/model/JwtSettings$Cipher" (some 12) with
  accessFlags := 16433
  interfaces := #[]
  cf := some (fileOf pool13 1 #[.nestHost 89] #[] 16433 20 #[] #[{ accessFlags := 16409, nameIndex := 5, descriptorIndex := 6, attributes := #[] }, { accessFlags := 16409, nameIndex := 9, descriptorIndex := 6, attributes := #[] }, { accessFlags := 26, nameIndex := 67, descriptorIndex := 32, attributes := #[] }, { accessFlags := 26, nameIndex := 70, descriptorIndex := 32, attributes := #[] }, { accessFlags := 18, nameIndex := 31, descriptorIndex := 32, attributes := #[] }, { accessFlags := 4122, nameIndex := 12, descriptorIndex := 13, attributes := #[] }])
  fields := #[{ name := "DES3", type := (.object "com/example/wardgate/wardgate/model/JwtSettings$Cipher"), accessFlags := 16409, slot := 0, constantValue := 0 }, { name := "SM4", type := (.object "com/example/wardgate/wardgate/model/JwtSettings$Cipher"), accessFlags := 16409, slot := 1, constantValue := 0 }, { name := "DES_KEY_BYTES", type := .int, accessFlags := 26, slot := 2, constantValue := 0 }, { name := "DES_PARITY_BIT", type := .int, accessFlags := 26, slot := 3, constantValue := 0 }, { name := "keyBytes", type := .int, accessFlags := 18, slot := 3, constantValue := 0 }, { name := "$VALUES", type := (.array (.object "com/example/wardgate/wardgate/model/JwtSettings$Cipher")), accessFlags := 4122, slot := 4, constantValue := 0 }]
  methods := #[]
  instanceTypes := #[(.object "java/lang/String"), .int, .int, .int]
  staticTypes := #[(.object "com/example/wardgate/wardgate/model/JwtSettings$Cipher"), (.object "com/example/wardgate/wardgate/model/JwtSettings$Cipher"), .int, .int, (.array (.object "com/example/wardgate/wardgate/model/JwtSettings$Cipher"))]
  resolved := Array.replicate 107 none
  statics := some 1 }

def pool14 : Array CpInfo := pool [(2, .class_ 4), (1, u "java/lang/Object"), (0, u "<init>"), (0, u "()V"), (14, .class_ 23), (1, u "java/nio/charset/StandardCharsets"), (0, u "US_ASCII"), (0, u "Ljava/nio/charset/Charset;"), (7, u "ISO_8859_1"), (7, u "UTF_8"), (5, u "UTF_16BE"), (5, u "UTF_16LE"), (5, u "UTF_16")] 8

def k14m0 : Method := { name := "<init>", desc := "()V", sig := { parameters := [], returnType := none }, accessFlags := 2, code := none }
/-- java/nio/charset/StandardCharsets -/
def k14 : Class := { plain "java/nio/charset/StandardCharsets" (some 0) with
  accessFlags := 49
  interfaces := #[]
  cf := some (fileOf pool14 21 #[] #[{ accessFlags := 2, nameIndex := 5, descriptorIndex := 6, attributes := #[] }] 49 2 #[] #[{ accessFlags := 25, nameIndex := 24, descriptorIndex := 25, attributes := #[] }, { accessFlags := 25, nameIndex := 33, descriptorIndex := 25, attributes := #[] }, { accessFlags := 25, nameIndex := 41, descriptorIndex := 25, attributes := #[] }, { accessFlags := 25, nameIndex := 47, descriptorIndex := 25, attributes := #[] }, { accessFlags := 25, nameIndex := 53, descriptorIndex := 25, attributes := #[] }, { accessFlags := 25, nameIndex := 59, descriptorIndex := 25, attributes := #[] }])
  fields := #[{ name := "US_ASCII", type := (.object "java/nio/charset/Charset"), accessFlags := 25, slot := 0, constantValue := 0 }, { name := "ISO_8859_1", type := (.object "java/nio/charset/Charset"), accessFlags := 25, slot := 1, constantValue := 0 }, { name := "UTF_8", type := (.object "java/nio/charset/Charset"), accessFlags := 25, slot := 2, constantValue := 0 }, { name := "UTF_16BE", type := (.object "java/nio/charset/Charset"), accessFlags := 25, slot := 3, constantValue := 0 }, { name := "UTF_16LE", type := (.object "java/nio/charset/Charset"), accessFlags := 25, slot := 4, constantValue := 0 }, { name := "UTF_16", type := (.object "java/nio/charset/Charset"), accessFlags := 25, slot := 5, constantValue := 0 }]
  methods := #[k14m0]
  instanceTypes := #[]
  staticTypes := #[(.object "java/nio/charset/Charset"), (.object "java/nio/charset/Charset"), (.object "java/nio/charset/Charset"), (.object "java/nio/charset/Charset"), (.object "java/nio/charset/Charset"), (.object "java/nio/charset/Charset")]
  resolved := Array.replicate 68 none
  statics := some 2 }

def pool15 : Array CpInfo := pool [(18, .class_ 20), (1, u "java/nio/charset/Charset"), (0, u "cache1"), (0, u "[Ljava/lang/Object;"), (2, u "cache2"), (0, .class_ 27), (0, u "java/lang/Object"), (0, .class_ 29), (0, u "java/nio/charset/Charset$1"), (4, .class_ 36), (1, u "java/nio/charset/Charset$ThreadTrackHolder"), (21, .class_ 59), (0, u "java/nio/charset/Charset$2"), (11, .class_ 73), (1, u "java/nio/charset/Charset$ExtendedProviderHolder"), (22, u "standardProvider"), (0, u "Ljava/nio/charset/spi/CharsetProvider;"), (29, u "name"), (7, .class_ 136), (0, u "java/nio/charset/Charset$3"), (5, u "defaultCharset"), (0, u "Ljava/nio/charset/Charset;"), (14, u "zeroAliases"), (0, u "[Ljava/lang/String;"), (29, u "Ljava/lang/String;"), (2, u "aliases"), (2, u "aliasSet"), (0, u "Ljava/util/Set;"), (82, .class_ 280), (0, u "java/lang/Comparable"), (84, .class_ 366), (0, u "java/nio/charset/Charset$ExtendedProviderHolder$1")] 3

/-- java/nio/charset/Charset -/
def k15 : Class := { plain "java/nio/charset/Charset" (some 0) with
  accessFlags := 1057
  interfaces := #[3]
  cf := some (fileOf pool15 18 #[.nestMembers #[71, 365, 34, 135, 58, 28]] #[] 1057 26 #[279] #[{ accessFlags := 26, nameIndex := 96, descriptorIndex := 97, attributes := #[] }, { accessFlags := 26, nameIndex := 158, descriptorIndex := 159, attributes := #[] }, { accessFlags := 74, nameIndex := 21, descriptorIndex := 22, attributes := #[] }, { accessFlags := 74, nameIndex := 25, descriptorIndex := 22, attributes := #[] }, { accessFlags := 10, nameIndex := 142, descriptorIndex := 143, attributes := #[] }, { accessFlags := 18, nameIndex := 127, descriptorIndex := 189, attributes := #[] }, { accessFlags := 18, nameIndex := 192, descriptorIndex := 159, attributes := #[] }, { accessFlags := 2, nameIndex := 195, descriptorIndex := 196, attributes := #[] }])
  fields := #[{ name := "standardProvider", type := (.object "java/nio/charset/spi/CharsetProvider"), accessFlags := 26, slot := 0, constantValue := 0 }, { name := "zeroAliases", type := (.array (.object "java/lang/String")), accessFlags := 26, slot := 1, constantValue := 0 }, { name := "cache1", type := (.array (.object "java/lang/Object")), accessFlags := 74, slot := 2, constantValue := 0 }, { name := "cache2", type := (.array (.object "java/lang/Object")), accessFlags := 74, slot := 3, constantValue := 0 }, { name := "defaultCharset", type := (.object "java/nio/charset/Charset"), accessFlags := 10, slot := 4, constantValue := 0 }, { name := "name", type := (.object "java/lang/String"), accessFlags := 18, slot := 0, constantValue := 0 }, { name := "aliases", type := (.array (.object "java/lang/String")), accessFlags := 18, slot := 1, constantValue := 0 }, { name := "aliasSet", type := (.object "java/util/Set"), accessFlags := 2, slot := 2, constantValue := 0 }]
  methods := #[]
  instanceTypes := #[(.object "java/lang/String"), (.array (.object "java/lang/String")), (.object "java/util/Set")]
  staticTypes := #[(.object "java/nio/charset/spi/CharsetProvider"), (.array (.object "java/lang/String")), (.array (.object "java/lang/Object")), (.array (.object "java/lang/Object")), (.object "java/nio/charset/Charset")]
  resolved := Array.replicate 370 none
  statics := none }

def pool16 : Array CpInfo := pool [(1, .class_ 2), (0, u "sun/nio/cs/HistoricallyNamedCharset"), (0, .class_ 4), (0, u "java/lang/Object")] 4

/-- sun/nio/cs/HistoricallyNamedCharset -/
def k16 : Class := { plain "sun/nio/cs/HistoricallyNamedCharset" (some 0) with
  accessFlags := 1537
  interfaces := #[]
  cf := some (fileOf pool16 1 #[] #[] 1537 3 #[] #[])
  fields := #[]
  methods := #[]
  instanceTypes := #[]
  staticTypes := #[]
  resolved := Array.replicate 9 none
  statics := none }

def pool17 : Array CpInfo := pool [(2, .class_ 4), (1, u "java/nio/charset/Charset"), (130, .class_ 136), (0, u "sun/nio/cs/Unicode"), (0, .class_ 138), (0, u "sun/nio/cs/HistoricallyNamedCharset")] 15

/-- sun/nio/cs/Unicode -/
def k17 : Class := { plain "sun/nio/cs/Unicode" (some 15) with
  accessFlags := 1056
  interfaces := #[16]
  cf := some (fileOf pool17 135 #[] #[] 1056 2 #[137] #[])
  fields := #[]
  methods := #[]
  instanceTypes := #[(.object "java/lang/String"), (.array (.object "java/lang/String")), (.object "java/util/Set")]
  staticTypes := #[]
  resolved := Array.replicate 154 none
  statics := none }

def pool18 : Array CpInfo := pool [(10, .class_ 12), (1, u "sun/nio/cs/Unicode"), (0, u "<init>"), (3, .class_ 18), (0, u "sun/nio/cs/UTF_8$Decoder"), (3, .class_ 23), (0, u "sun/nio/cs/UTF_8$Encoder"), (15, .class_ 40), (0, u "sun/nio/cs/UTF_8"), (2, u "()V"), (2, u "INSTANCE"), (0, u "Lsun/nio/cs/UTF_8;"), (8, u "JLA"), (0, u "Ljdk/internal/access/JavaLangAccess;")] 26

def k18m0 : Method := { name := "<init>", desc := "()V", sig := { parameters := [], returnType := none }, accessFlags := 1, code := none }
/-- sun/nio/cs/UTF_8 -/
def k18 : Class := { plain "sun/nio/cs/UTF_8" (some 17) with
  accessFlags := 49
  interfaces := #[]
  cf := some (fileOf pool18 39 #[.nestMembers #[22, 17]] #[{ accessFlags := 1, nameIndex := 13, descriptorIndex := 43, attributes := #[] }] 49 10 #[] #[{ accessFlags := 25, nameIndex := 46, descriptorIndex := 47, attributes := #[] }, { accessFlags := 26, nameIndex := 56, descriptorIndex := 57, attributes := #[] }])
  fields := #[{ name := "INSTANCE", type := (.object "sun/nio/cs/UTF_8"), accessFlags := 25, slot := 0, constantValue := 0 }, { name := "JLA", type := (.object "jdk/internal/access/JavaLangAccess"), accessFlags := 26, slot := 1, constantValue := 0 }]
  methods := #[k18m0]
  instanceTypes := #[(.object "java/lang/String"), (.array (.object "java/lang/String")), (.object "java/util/Set")]
  staticTypes := #[(.object "sun/nio/cs/UTF_8"), (.object "jdk/internal/access/JavaLangAccess")]
  resolved := Array.replicate 84 none
  statics := some 3 }

def pool19 : Array CpInfo := pool [(2, .class_ 4), (1, u "java/lang/Object"), (0, u "<init>"), (0, u "()V"), (0, .methodref 8 9), (0, .class_ 10), (0, .nameAndType 11 12), (0, u "java/lang/StringCoding"), (0, u "countPositives"), (0, u "([BII)I"), (11, u "hasNegatives"), (0, u "([BII)Z")] 23

def k19m0 : Method := { name := "<init>", desc := "()V", sig := { parameters := [], returnType := none }, accessFlags := 2, code := none }
def k19c1 : Code := { maxStack := 3, maxLocals := 3, code := jdk_123_method_2_code, exceptionTable := #[], attributes := #[] }
def k19m1 : Method := { name := "hasNegatives", desc := "([BII)Z", sig := { parameters := [(.array .byte), .int, .int], returnType := some .boolean }, accessFlags := 9, code := some k19c1 }
def k19c2 : Code := { maxStack := 2, maxLocals := 5, code := jdk_123_method_3_code, exceptionTable := #[], attributes := #[] }
def k19m2 : Method := { name := "countPositives", desc := "([BII)I", sig := { parameters := [(.array .byte), .int, .int], returnType := some .int }, accessFlags := 9, code := some k19c2 }
/-- java/lang/StringCoding -/
def k19 : Class := { plain "java/lang/StringCoding" (some 0) with
  accessFlags := 32
  interfaces := #[]
  cf := some (fileOf pool19 8 #[] #[{ accessFlags := 2, nameIndex := 5, descriptorIndex := 6, attributes := #[] }, { accessFlags := 9, nameIndex := 24, descriptorIndex := 25, attributes := #[] }, { accessFlags := 9, nameIndex := 11, descriptorIndex := 12, attributes := #[] }] 32 2 #[] #[])
  fields := #[]
  methods := #[k19m0, k19m1, k19m2]
  instanceTypes := #[]
  staticTypes := #[]
  resolved := Array.replicate 49 none
  statics := none }

def pool20 : Array CpInfo := pool [(1, .class_ 2), (0, u "java/lang/Cloneable"), (0, .class_ 4), (0, u "java/lang/Object")] 2

/-- java/lang/Cloneable -/
def k20 : Class := { plain "java/lang/Cloneable" (some 0) with
  accessFlags := 1537
  interfaces := #[]
  cf := some (fileOf pool20 1 #[] #[] 1537 3 #[] #[])
  fields := #[]
  methods := #[]
  instanceTypes := #[]
  staticTypes := #[]
  resolved := Array.replicate 7 none
  statics := none }

def pool21 : Array CpInfo := pool [(2, .class_ 4), (1, u "java/lang/Object"), (0, u "<init>"), (0, u "()V"), (7, .class_ 16), (1, u "java/util/Arrays"), (57, .class_ 76), (1, u "java/util/Arrays$NaturalOrder"), (36, .class_ 115), (1, u "java/util/Arrays$LegacyMergeSort"), (1, u "Z"), (32, .methodref 151 152), (0, .class_ 153), (0, .nameAndType 154 155), (0, u "java/lang/System"), (0, u "arraycopy"), (0, u "(Ljava/lang/Object;ILjava/lang/Object;II)V"), (146, u "copyOf"), (1, .methodref 305 306), (0, .class_ 307), (0, .nameAndType 308 309), (0, u "java/lang/Math"), (0, u "min"), (0, u "(II)I"), (65, .class_ 376), (0, u "java/util/Arrays$ArrayList"), (68, u "$assertionsDisabled"), (269, u "MIN_ARRAY_SORT_GRAN"), (0, u "I"), (2, u "INSERTIONSORT_THRESHOLD"), (149, u "([BI)[B"), (105, .class_ 976), (0, u "java/util/Arrays$ArrayItr")] 52

def k21m0 : Method := { name := "<init>", desc := "()V", sig := { parameters := [], returnType := none }, accessFlags := 2, code := none }
def k21c1 : Code := { maxStack := 6, maxLocals := 3, code := jdk_65_method_121_code, exceptionTable := #[], attributes := #[] }
def k21m1 : Method := { name := "copyOf", desc := "([BI)[B", sig := { parameters := [(.array .byte), .int], returnType := some (.array .byte) }, accessFlags := 9, code := some k21c1 }
/-- java/util/Arrays -/
def k21 : Class := { plain "java/util/Arrays" (some 0) with
  accessFlags := 49
  interfaces := #[]
  cf := some (fileOf pool21 14 #[.nestMembers #[975, 375, 113, 74]] #[{ accessFlags := 2, nameIndex := 5, descriptorIndex := 6, attributes := #[] }, { accessFlags := 9, nameIndex := 302, descriptorIndex := 869, attributes := #[] }] 49 2 #[] #[{ accessFlags := 26, nameIndex := 715, descriptorIndex := 716, attributes := #[] }, { accessFlags := 26, nameIndex := 719, descriptorIndex := 716, attributes := #[] }, { accessFlags := 4120, nameIndex := 445, descriptorIndex := 117, attributes := #[] }])
  fields := #[{ name := "MIN_ARRAY_SORT_GRAN", type := .int, accessFlags := 26, slot := 0, constantValue := 0 }, { name := "INSERTIONSORT_THRESHOLD", type := .int, accessFlags := 26, slot := 1, constantValue := 0 }, { name := "$assertionsDisabled", type := .boolean, accessFlags := 4120, slot := 2, constantValue := 0 }]
  methods := #[k21m0, k21m1]
  instanceTypes := #[]
  staticTypes := #[.int, .int, .boolean]
  resolved := Array.replicate 1029 none
  statics := none }

def pool22 : Array CpInfo := pool [(1, .class_ 2), (0, u "java/lang/Math"), (1, .class_ 6), (1, u "java/lang/Object"), (0, u "<init>"), (0, u "()V"), (89, .class_ 100), (1, u "java/lang/Math$RandomNumberGeneratorHolder"), (71, u "negativeZeroFloatBits"), (0, u "J"), (2, u "negativeZeroDoubleBits"), (24, u "min"), (43, u "$assertionsDisabled"), (0, u "Z"), (88, u "(II)I"), (2, u "twoToTheDoubleScaleDown"), (0, u "D"), (4, u "twoToTheDoubleScaleUp"), (9, u "E"), (3, u "PI"), (2, u "TAU"), (2, u "DEGREES_TO_RADIANS"), (0, u "RADIANS_TO_DEGREES")] 94

def k22m0 : Method := { name := "<init>", desc := "()V", sig := { parameters := [], returnType := none }, accessFlags := 2, code := none }
def k22c1 : Code := { maxStack := 2, maxLocals := 2, code := jdk_29_method_69_code, exceptionTable := #[], attributes := #[] }
def k22m1 : Method := { name := "min", desc := "(II)I", sig := { parameters := [.int, .int], returnType := some .int }, accessFlags := 9, code := some k22c1 }
/-- java/lang/Math -/
def k22 : Class := { plain "java/lang/Math" (some 0) with
  accessFlags := 49
  interfaces := #[]
  cf := some (fileOf pool22 1 #[.nestMembers #[98]] #[{ accessFlags := 2, nameIndex := 7, descriptorIndex := 8, attributes := #[] }, { accessFlags := 9, nameIndex := 201, descriptorIndex := 335, attributes := #[] }] 49 4 #[] #[{ accessFlags := 25, nameIndex := 354, descriptorIndex := 339, attributes := #[] }, { accessFlags := 25, nameIndex := 358, descriptorIndex := 339, attributes := #[] }, { accessFlags := 25, nameIndex := 361, descriptorIndex := 339, attributes := #[] }, { accessFlags := 26, nameIndex := 364, descriptorIndex := 339, attributes := #[] }, { accessFlags := 26, nameIndex := 365, descriptorIndex := 339, attributes := #[] }, { accessFlags := 26, nameIndex := 172, descriptorIndex := 173, attributes := #[] }, { accessFlags := 26, nameIndex := 176, descriptorIndex := 173, attributes := #[] }, { accessFlags := 8, nameIndex := 344, descriptorIndex := 339, attributes := #[] }, { accessFlags := 8, nameIndex := 338, descriptorIndex := 339, attributes := #[] }, { accessFlags := 4120, nameIndex := 245, descriptorIndex := 246, attributes := #[] }])
  fields := #[{ name := "E", type := .double, accessFlags := 25, slot := 0, constantValue := 0 }, { name := "PI", type := .double, accessFlags := 25, slot := 1, constantValue := 0 }, { name := "TAU", type := .double, accessFlags := 25, slot := 2, constantValue := 0 }, { name := "DEGREES_TO_RADIANS", type := .double, accessFlags := 26, slot := 3, constantValue := 0 }, { name := "RADIANS_TO_DEGREES", type := .double, accessFlags := 26, slot := 4, constantValue := 0 }, { name := "negativeZeroFloatBits", type := .long, accessFlags := 26, slot := 5, constantValue := 0 }, { name := "negativeZeroDoubleBits", type := .long, accessFlags := 26, slot := 6, constantValue := 0 }, { name := "twoToTheDoubleScaleUp", type := .double, accessFlags := 8, slot := 7, constantValue := 0 }, { name := "twoToTheDoubleScaleDown", type := .double, accessFlags := 8, slot := 8, constantValue := 0 }, { name := "$assertionsDisabled", type := .boolean, accessFlags := 4120, slot := 9, constantValue := 0 }]
  methods := #[k22m0, k22m1]
  instanceTypes := #[]
  staticTypes := #[.double, .double, .double, .double, .double, .long, .long, .double, .double, .boolean]
  resolved := Array.replicate 460 none
  statics := none }

def pool23 : Array CpInfo := pool [(2, .class_ 4), (1, u "java/lang/Object"), (0, u "<init>"), (0, u "()V"), (1, .class_ 10), (1, u "java/lang/System"), (0, u "allowSecurityManager"), (0, u "I"), (16, u "cons"), (0, u "Ljava/io/Console;"), (77, .class_ 110), (1, u "java/lang/System$CallersHolder"), (43, u "initialErrStream"), (0, u "Ljava/io/PrintStream;"), (19, u "security"), (0, u "Ljava/lang/SecurityManager;"), (31, .class_ 209), (0, u "java/lang/System$1"), (7, u "props"), (0, u "Ljava/util/Properties;"), (2, u "lineSeparator"), (0, u "Ljava/lang/String;"), (96, .class_ 321), (1, u "java/lang/System$LoggerFinder"), (5, .class_ 328), (0, u "java/lang/System$Logger"), (67, u "err"), (2, u "out"), (91, u "notSupportedJnuEncoding"), (15, u "in"), (17, u "initialIn"), (0, u "Ljava/io/InputStream;"), (35, u "bootLayer"), (0, u "Ljava/lang/ModuleLayer;"), (99, .class_ 664), (0, u "java/lang/System$2"), (9, u "NEVER"), (2, u "MAYBE"), (49, u "arraycopy"), (0, u "(Ljava/lang/Object;ILjava/lang/Object;II)V"), (72, .class_ 802), (0, u "java/lang/System$Logger$Level")] 31

def k23m0 : Method := { name := "<init>", desc := "()V", sig := { parameters := [], returnType := none }, accessFlags := 2, code := none }
def k23m1 : Method := { name := "arraycopy", desc := "(Ljava/lang/Object;ILjava/lang/Object;II)V", sig := { parameters := [(.object "java/lang/Object"), .int, (.object "java/lang/Object"), .int, .int], returnType := none }, accessFlags := 265, code := none }
/-- java/lang/System -/
def k23 : Class := { plain "java/lang/System" (some 0) with
  accessFlags := 49
  interfaces := #[]
  cf := some (fileOf pool23 8 #[.nestMembers #[319, 327, 801, 108, 663, 208]] #[{ accessFlags := 2, nameIndex := 5, descriptorIndex := 6, attributes := #[] }, { accessFlags := 265, nameIndex := 727, descriptorIndex := 728, attributes := #[] }] 49 2 #[] #[{ accessFlags := 25, nameIndex := 507, descriptorIndex := 526, attributes := #[] }, { accessFlags := 25, nameIndex := 399, descriptorIndex := 155, attributes := #[] }, { accessFlags := 25, nameIndex := 396, descriptorIndex := 155, attributes := #[] }, { accessFlags := 10, nameIndex := 525, descriptorIndex := 526, attributes := #[] }, { accessFlags := 26, nameIndex := 674, descriptorIndex := 12, attributes := #[] }, { accessFlags := 26, nameIndex := 677, descriptorIndex := 12, attributes := #[] }, { accessFlags := 10, nameIndex := 11, descriptorIndex := 12, attributes := #[] }, { accessFlags := 74, nameIndex := 175, descriptorIndex := 176, attributes := #[] }, { accessFlags := 10, nameIndex := 491, descriptorIndex := 222, attributes := #[] }, { accessFlags := 74, nameIndex := 29, descriptorIndex := 30, attributes := #[] }, { accessFlags := 74, nameIndex := 154, descriptorIndex := 155, attributes := #[] }, { accessFlags := 10, nameIndex := 217, descriptorIndex := 218, attributes := #[] }, { accessFlags := 10, nameIndex := 221, descriptorIndex := 222, attributes := #[] }, { accessFlags := 8, nameIndex := 562, descriptorIndex := 563, attributes := #[] }])
  fields := #[{ name := "in", type := (.object "java/io/InputStream"), accessFlags := 25, slot := 0, constantValue := 0 }, { name := "out", type := (.object "java/io/PrintStream"), accessFlags := 25, slot := 1, constantValue := 0 }, { name := "err", type := (.object "java/io/PrintStream"), accessFlags := 25, slot := 2, constantValue := 0 }, { name := "initialIn", type := (.object "java/io/InputStream"), accessFlags := 10, slot := 3, constantValue := 0 }, { name := "NEVER", type := .int, accessFlags := 26, slot := 4, constantValue := 0 }, { name := "MAYBE", type := .int, accessFlags := 26, slot := 5, constantValue := 0 }, { name := "allowSecurityManager", type := .int, accessFlags := 10, slot := 6, constantValue := 0 }, { name := "security", type := (.object "java/lang/SecurityManager"), accessFlags := 74, slot := 7, constantValue := 0 }, { name := "notSupportedJnuEncoding", type := (.object "java/lang/String"), accessFlags := 10, slot := 8, constantValue := 0 }, { name := "cons", type := (.object "java/io/Console"), accessFlags := 74, slot := 9, constantValue := 0 }, { name := "initialErrStream", type := (.object "java/io/PrintStream"), accessFlags := 74, slot := 10, constantValue := 0 }, { name := "props", type := (.object "java/util/Properties"), accessFlags := 10, slot := 11, constantValue := 0 }, { name := "lineSeparator", type := (.object "java/lang/String"), accessFlags := 10, slot := 12, constantValue := 0 }, { name := "bootLayer", type := (.object "java/lang/ModuleLayer"), accessFlags := 8, slot := 13, constantValue := 0 }]
  methods := #[k23m0, k23m1]
  instanceTypes := #[]
  staticTypes := #[(.object "java/io/InputStream"), (.object "java/io/PrintStream"), (.object "java/io/PrintStream"), (.object "java/io/InputStream"), .int, .int, .int, (.object "java/lang/SecurityManager"), (.object "java/lang/String"), (.object "java/io/Console"), (.object "java/io/PrintStream"), (.object "java/util/Properties"), (.object "java/lang/String"), (.object "java/lang/ModuleLayer")]
  resolved := Array.replicate 834 none
  statics := none }

def pool24 : Array CpInfo := pool [(2, .class_ 4), (1, u "java/lang/Object"), (0, u "<init>"), (0, u "()V"), (17, .class_ 26), (1, u "jdk/internal/util/Preconditions"), (28, .class_ 56), (0, u "jdk/internal/util/Preconditions$4"), (57, .class_ 115), (0, u "jdk/internal/util/Preconditions$1"), (7, u "SIOOBE_FORMATTER"), (0, u "Ljava/util/function/BiFunction;"), (0, .class_ 126), (0, u "jdk/internal/util/Preconditions$2"), (3, u "AIOOBE_FORMATTER"), (0, .class_ 132), (0, u "jdk/internal/util/Preconditions$3"), (3, u "IOOBE_FORMATTER")] 57

def k24m0 : Method := { name := "<init>", desc := "()V", sig := { parameters := [], returnType := none }, accessFlags := 1, code := none }
/-- jdk/internal/util/Preconditions -/
def k24 : Class := { plain "jdk/internal/util/Preconditions" (some 0) with
  accessFlags := 33
  interfaces := #[]
  cf := some (fileOf pool24 24 #[.nestMembers #[55, 131, 125, 114]] #[{ accessFlags := 1, nameIndex := 5, descriptorIndex := 6, attributes := #[] }] 33 2 #[] #[{ accessFlags := 25, nameIndex := 123, descriptorIndex := 124, attributes := #[] }, { accessFlags := 25, nameIndex := 130, descriptorIndex := 124, attributes := #[] }, { accessFlags := 25, nameIndex := 136, descriptorIndex := 124, attributes := #[] }])
  fields := #[{ name := "SIOOBE_FORMATTER", type := (.object "java/util/function/BiFunction"), accessFlags := 25, slot := 0, constantValue := 0 }, { name := "AIOOBE_FORMATTER", type := (.object "java/util/function/BiFunction"), accessFlags := 25, slot := 1, constantValue := 0 }, { name := "IOOBE_FORMATTER", type := (.object "java/util/function/BiFunction"), accessFlags := 25, slot := 2, constantValue := 0 }]
  methods := #[k24m0]
  instanceTypes := #[]
  staticTypes := #[(.object "java/util/function/BiFunction"), (.object "java/util/function/BiFunction"), (.object "java/util/function/BiFunction")]
  resolved := Array.replicate 194 none
  statics := some 4 }

def pool25 : Array CpInfo := pool [(9, u "<init>"), (6, .class_ 18), (1, u "java/lang/Object"), (0, u "()V"), (1, .class_ 23), (1, u "jdk/internal/util/ArraysSupport"), (0, u "LOG2_ARRAY_LONG_INDEX_SCALE"), (0, u "I"), (2, u "U"), (0, u "Ljdk/internal/misc/Unsafe;"), (8, u "BIG_ENDIAN"), (0, u "Z"), (8, u "LOG2_BYTE_BIT_SIZE"), (4, u "LOG2_ARRAY_INT_INDEX_SCALE"), (54, u "JLA"), (0, u "Ljdk/internal/access/JavaLangAccess;"), (11, u "LOG2_ARRAY_BOOLEAN_INDEX_SCALE"), (9, u "LOG2_ARRAY_BYTE_INDEX_SCALE"), (5, u "LOG2_ARRAY_CHAR_INDEX_SCALE"), (5, u "LOG2_ARRAY_SHORT_INDEX_SCALE"), (18, u "LOG2_ARRAY_FLOAT_INDEX_SCALE"), (24, u "LOG2_ARRAY_DOUBLE_INDEX_SCALE"), (89, u "T_BOOLEAN"), (2, u "T_CHAR"), (1, u "T_FLOAT"), (1, u "T_DOUBLE"), (1, u "T_BYTE"), (1, u "T_SHORT"), (1, u "T_INT"), (1, u "T_LONG"), (1, u "SOFT_MAX_ARRAY_LENGTH")] 83

def k25m0 : Method := { name := "<init>", desc := "()V", sig := { parameters := [], returnType := none }, accessFlags := 2, code := none }
/-- jdk/internal/util/ArraysSupport -/
def k25 : Class := { plain "jdk/internal/util/ArraysSupport" (some 0) with
  accessFlags := 33
  interfaces := #[]
  cf := some (fileOf pool25 21 #[] #[{ accessFlags := 2, nameIndex := 9, descriptorIndex := 19, attributes := #[] }] 33 16 #[] #[{ accessFlags := 24, nameIndex := 28, descriptorIndex := 29, attributes := #[] }, { accessFlags := 26, nameIndex := 38, descriptorIndex := 39, attributes := #[] }, { accessFlags := 25, nameIndex := 121, descriptorIndex := 25, attributes := #[] }, { accessFlags := 25, nameIndex := 131, descriptorIndex := 25, attributes := #[] }, { accessFlags := 25, nameIndex := 137, descriptorIndex := 25, attributes := #[] }, { accessFlags := 25, nameIndex := 143, descriptorIndex := 25, attributes := #[] }, { accessFlags := 25, nameIndex := 53, descriptorIndex := 25, attributes := #[] }, { accessFlags := 25, nameIndex := 24, descriptorIndex := 25, attributes := #[] }, { accessFlags := 25, nameIndex := 162, descriptorIndex := 25, attributes := #[] }, { accessFlags := 25, nameIndex := 187, descriptorIndex := 25, attributes := #[] }, { accessFlags := 26, nameIndex := 48, descriptorIndex := 25, attributes := #[] }, { accessFlags := 25, nameIndex := 277, descriptorIndex := 25, attributes := #[] }, { accessFlags := 25, nameIndex := 280, descriptorIndex := 25, attributes := #[] }, { accessFlags := 25, nameIndex := 282, descriptorIndex := 25, attributes := #[] }, { accessFlags := 25, nameIndex := 284, descriptorIndex := 25, attributes := #[] }, { accessFlags := 25, nameIndex := 286, descriptorIndex := 25, attributes := #[] }, { accessFlags := 25, nameIndex := 288, descriptorIndex := 25, attributes := #[] }, { accessFlags := 25, nameIndex := 290, descriptorIndex := 25, attributes := #[] }, { accessFlags := 25, nameIndex := 292, descriptorIndex := 25, attributes := #[] }, { accessFlags := 26, nameIndex := 108, descriptorIndex := 109, attributes := #[] }, { accessFlags := 25, nameIndex := 294, descriptorIndex := 25, attributes := #[] }])
  fields := #[{ name := "U", type := (.object "jdk/internal/misc/Unsafe"), accessFlags := 24, slot := 0, constantValue := 0 }, { name := "BIG_ENDIAN", type := .boolean, accessFlags := 26, slot := 1, constantValue := 0 }, { name := "LOG2_ARRAY_BOOLEAN_INDEX_SCALE", type := .int, accessFlags := 25, slot := 2, constantValue := 0 }, { name := "LOG2_ARRAY_BYTE_INDEX_SCALE", type := .int, accessFlags := 25, slot := 3, constantValue := 0 }, { name := "LOG2_ARRAY_CHAR_INDEX_SCALE", type := .int, accessFlags := 25, slot := 4, constantValue := 0 }, { name := "LOG2_ARRAY_SHORT_INDEX_SCALE", type := .int, accessFlags := 25, slot := 5, constantValue := 0 }, { name := "LOG2_ARRAY_INT_INDEX_SCALE", type := .int, accessFlags := 25, slot := 6, constantValue := 0 }, { name := "LOG2_ARRAY_LONG_INDEX_SCALE", type := .int, accessFlags := 25, slot := 7, constantValue := 0 }, { name := "LOG2_ARRAY_FLOAT_INDEX_SCALE", type := .int, accessFlags := 25, slot := 8, constantValue := 0 }, { name := "LOG2_ARRAY_DOUBLE_INDEX_SCALE", type := .int, accessFlags := 25, slot := 9, constantValue := 0 }, { name := "LOG2_BYTE_BIT_SIZE", type := .int, accessFlags := 26, slot := 10, constantValue := 0 }, { name := "T_BOOLEAN", type := .int, accessFlags := 25, slot := 11, constantValue := 0 }, { name := "T_CHAR", type := .int, accessFlags := 25, slot := 12, constantValue := 0 }, { name := "T_FLOAT", type := .int, accessFlags := 25, slot := 13, constantValue := 0 }, { name := "T_DOUBLE", type := .int, accessFlags := 25, slot := 14, constantValue := 0 }, { name := "T_BYTE", type := .int, accessFlags := 25, slot := 15, constantValue := 0 }, { name := "T_SHORT", type := .int, accessFlags := 25, slot := 16, constantValue := 0 }, { name := "T_INT", type := .int, accessFlags := 25, slot := 17, constantValue := 0 }, { name := "T_LONG", type := .int, accessFlags := 25, slot := 18, constantValue := 0 }, { name := "JLA", type := (.object "jdk/internal/access/JavaLangAccess"), accessFlags := 26, slot := 19, constantValue := 0 }, { name := "SOFT_MAX_ARRAY_LENGTH", type := .int, accessFlags := 25, slot := 20, constantValue := 0 }]
  methods := #[k25m0]
  instanceTypes := #[]
  staticTypes := #[(.object "jdk/internal/misc/Unsafe"), .boolean, .int, .int, .int, .int, .int, .int, .int, .int, .int, .int, .int, .int, .int, .int, .int, .int, .int, (.object "jdk/internal/access/JavaLangAccess"), .int]
  resolved := Array.replicate 378 none
  statics := none }

/-- the primitive byte -/
def k26 : Class := { plain "byte" none with kind := .primitive 'B', accessFlags := 0x411 }
/-- [B -/
def k27 : Class := { plain "[B" (some 0) with kind := .array 26 .byte, interfaces := #[20, 2], accessFlags := 1041 }

/-- the primitive char -/
def k28 : Class := { plain "char" none with kind := .primitive 'C', accessFlags := 0x411 }
/-- [C -/
def k29 : Class := { plain "[C" (some 0) with kind := .array 28 .char, interfaces := #[20, 2], accessFlags := 1041 }

/-- the primitive int -/
def k30 : Class := { plain "int" none with kind := .primitive 'I', accessFlags := 0x411 }
/-- [I -/
def k31 : Class := { plain "[I" (some 0) with kind := .array 30 .int, interfaces := #[20, 2], accessFlags := 1041 }

def heap : Heap := #[{ cls := 7, slots := #[.long 0, .int 1, .null, .int 0, .null, .int 0, .int 0], vm := .statics 7 },
  { cls := 13, slots := #[.ref 5, .ref 6, .int 0, .int 0, .null], vm := .statics 13 },
  { cls := 14, slots := #[.null, .null, .ref 7, .null, .null, .null], vm := .statics 14 },
  { cls := 18, slots := #[.ref 7, .null], vm := .statics 18 },
  { cls := 24, slots := #[.null, .null, .null], vm := .statics 24 },
  { cls := 13, slots := #[.null, .int 0, .int 0, .int 0], vm := .none },
  { cls := 13, slots := #[.null, .int 1, .int 0, .int 0], vm := .none },
  { cls := 18, slots := #[.null, .null, .null], vm := .none }]
def classes : Array Class := #[k0, k1, k2, k3, k4, k5, k6, k7, k8, k9, k10, k11, k12, k13, k14, k15, k16, k17, k18, k19, k20, k21, k22, k23, k24, k25, k26, k27, k28, k29, k30, k31]
def interned : List (Array UInt16 × Addr) := []
def slotsUsed : Nat := 34
def theMethod : MethodId := ⟨1, 1⟩
def args0 : Array Value := #[.int 1, .int 65, .int 66, .int 1]
def aboutOver (below : List Frame) : State where
  vm := { classes := classes, interned := interned.toArray }
  heap := heap
  slotsUsed := slotsUsed
  threads := #[{ frames := .invoking theMethod args0 :: below }]
def below0 : List Frame := [.native { method := ⟨0, 0⟩, args := #[] }]
def about1 : State := aboutOver below0
def p0 : Program := .bare "" "" ""
def e0 : Env := launch0.env 0 0 0
theorem w_frames : about1.frames = Frame.invoking theMethod args0 :: below0 := rfl
set_option maxRecDepth 65536 in
theorem w_args : argsFit about1.vm theMethod args0 = true := by decide +kernel
set_option maxRecDepth 65536 in
theorem w_heap : heapFits about1 = true := by decide +kernel
set_option maxRecDepth 65536 in
theorem w_runnable : about1.curStatus? = some .runnable := by decide +kernel
set_option maxRecDepth 65536 in
theorem w_alone : about1.alone = true := by decide +kernel
set_option maxRecDepth 65536 in
theorem w_named : about1.methodNamed? x = some theMethod := by decide +kernel
set_option maxRecDepth 65536 in
theorem w_hears : about1.hears theMethod below0 = true := by decide +kernel
set_option maxRecDepth 65536 in
theorem w_ripe : about1.ripe theMethod args0 below0 = true := by decide +kernel
theorem w_running : about1.status = .running := rfl
set_option maxRecDepth 65536 in
theorem w_room : about1.hasRoom e0.platform room_1 = true :=
  launch0.hasRoom_least _ room_1 (by decide +kernel) (by decide +kernel) (by decide +kernel) (by decide +kernel) (by decide +kernel) (by decide +kernel)
theorem allAtoms_all (ts : List Jvm.Cond) (a : Array Jvm.Value) (st : Jvm.State) : (allAtoms ts).before a st = ts.all (fun c => c.before a st) := by
  induction ts with
  | nil => rfl
  | cons c t ih =>
    show (Jvm.Cond.and c (allAtoms t)).before a st = _
    rw [Jvm.Cond.before_and, ih, List.all_cons]
def words1 : List Jvm.Cond := Jvm.Cond.code x code maxLocals ret :: tables_1
/-- a 'code' word, met by the world's own term for the bytes: nothing is compared byte by byte -/
theorem code_word {y : MethodName} {bytes : ByteArray} {mx : Nat} {rt : Option FieldType} {a : Array Value} {s : State} {m : MethodId} {meth : Method} {c : Code} (h1 : s.methodNamed? y = some m) (h2 : s.vm.method? m = some meth) (h3 : meth.code = some c) (h4 : c.code = bytes)
    (h5 : (c.maxLocals == mx && c.exceptionTable.isEmpty && decide (c.maxStack ≤ mostOperands) && decide (meth.sig.returnType = rt) && !meth.locks && decide (parseMethodDescriptor y.desc = some meth.sig)) = true) : (Jvm.Cond.code y bytes mx rt).before a s = true := by
  simp only [Bool.and_eq_true, beq_iff_eq, Bool.not_eq_true', decide_eq_true_eq] at h5
  obtain ⟨⟨⟨⟨⟨g1, g2⟩, g3⟩, g4⟩, g5⟩, g6⟩ := h5
  simp [Cond.before, Cond.holds, Cond.value, h1, h2, h3, h4, g1, g2, g3, g4, g5, g6]
def isCode : Jvm.Cond → Bool
  | .code _ _ _ _ => true
  | _ => false
theorem all_split {L : List Jvm.Cond} {P : Jvm.Cond → Bool} (h1 : L.all (fun c => isCode c || P c) = true) (h2 : ∀ c ∈ L.filter isCode, P c = true) : L.all P = true := by
  refine List.all_eq_true.mpr fun c hc => ?_
  have h := List.all_eq_true.mp h1 c hc
  rcases Bool.eq_false_or_eq_true (isCode c) with hi | hi
  · exact h2 c (List.mem_filter.mpr ⟨hc, hi⟩)
  · simpa [hi] using h
set_option maxRecDepth 65536 in
theorem w_c0 : (Jvm.Cond.code x code maxLocals ret).before args0 about1 = true := code_word (m := ⟨1, 1⟩) (meth := k1m1) (c := k1c1) (by decide +kernel) rfl rfl rfl (by decide +kernel)
set_option maxRecDepth 65536 in
theorem w_c1 : (Jvm.Cond.code ({ cls := "java/lang/String", name := "<init>", desc := "([C)V" } : Jvm.MethodName) jdk_42_method_3_code (2 : Nat) (Option.none : Option Jvm.ClassFile.FieldType)).before args0 about1 = true := code_word (m := ⟨7, 1⟩) (meth := k7m1) (c := k7c1) (by decide +kernel) rfl rfl rfl (by decide +kernel)
set_option maxRecDepth 65536 in
theorem w_c2 : (Jvm.Cond.code ({ cls := "java/lang/String", name := "<init>", desc := "([CIILjava/lang/Void;)V" } : Jvm.MethodName) jdk_42_method_149_code (6 : Nat) (Option.none : Option Jvm.ClassFile.FieldType)).before args0 about1 = true := code_word (m := ⟨7, 6⟩) (meth := k7m6) (c := k7c6) (by decide +kernel) rfl rfl rfl (by decide +kernel)
set_option maxRecDepth 65536 in
theorem w_c3 : (Jvm.Cond.code ({ cls := "java/lang/Object", name := "<init>", desc := "()V" } : Jvm.MethodName) object_method_1_code (1 : Nat) (Option.none : Option Jvm.ClassFile.FieldType)).before args0 about1 = true := code_word (m := ⟨0, 0⟩) (meth := k0m0) (c := k0c0) (by decide +kernel) rfl rfl rfl (by decide +kernel)
set_option maxRecDepth 65536 in
theorem w_c4 : (Jvm.Cond.code ({ cls := "java/lang/StringUTF16", name := "compress", desc := "([CII)[B" } : Jvm.MethodName) jdk_52_method_16_code (6 : Nat) (Option.some (Jvm.ClassFile.FieldType.array Jvm.ClassFile.FieldType.byte))).before args0 about1 = true := code_word (m := ⟨8, 4⟩) (meth := k8m4) (c := k8c4) (by decide +kernel) rfl rfl rfl (by decide +kernel)
set_option maxRecDepth 65536 in
theorem w_c5 : (Jvm.Cond.code ({ cls := "java/lang/StringUTF16", name := "compress", desc := "([CI[BII)I" } : Jvm.MethodName) jdk_52_method_21_code (7 : Nat) (Option.some Jvm.ClassFile.FieldType.int)).before args0 about1 = true := code_word (m := ⟨8, 5⟩) (meth := k8m5) (c := k8c5) (by decide +kernel) rfl rfl rfl (by decide +kernel)
set_option maxRecDepth 65536 in
theorem w_c6 : (Jvm.Cond.code ({ cls := "java/lang/StringUTF16", name := "coderFromArrayLen", desc := "([BI)B" } : Jvm.MethodName) jdk_52_method_15_code (2 : Nat) (Option.some Jvm.ClassFile.FieldType.byte)).before args0 about1 = true := code_word (m := ⟨8, 3⟩) (meth := k8m3) (c := k8c3) (by decide +kernel) rfl rfl rfl (by decide +kernel)
set_option maxRecDepth 65536 in
theorem w_c7 : (Jvm.Cond.code ({ cls := "java/lang/String", name := "valueOf", desc := "(C)Ljava/lang/String;" } : Jvm.MethodName) jdk_42_method_139_code (1 : Nat) (Option.some (Jvm.ClassFile.FieldType.object "java/lang/String"))).before args0 about1 = true := code_word (m := ⟨7, 5⟩) (meth := k7m5) (c := k7c5) (by decide +kernel) rfl rfl rfl (by decide +kernel)
set_option maxRecDepth 65536 in
theorem w_c8 : (Jvm.Cond.code ({ cls := "java/lang/StringLatin1", name := "canEncode", desc := "(C)Z" } : Jvm.MethodName) jdk_43_method_3_code (1 : Nat) (Option.some Jvm.ClassFile.FieldType.boolean)).before args0 about1 = true := code_word (m := ⟨9, 1⟩) (meth := k9m1) (c := k9c1) (by decide +kernel) rfl rfl rfl (by decide +kernel)
set_option maxRecDepth 65536 in
theorem w_c9 : (Jvm.Cond.code ({ cls := "java/lang/StringLatin1", name := "toBytes", desc := "(C)[B" } : Jvm.MethodName) jdk_43_method_46_code (1 : Nat) (Option.some (Jvm.ClassFile.FieldType.array Jvm.ClassFile.FieldType.byte))).before args0 about1 = true := code_word (m := ⟨9, 2⟩) (meth := k9m2) (c := k9c2) (by decide +kernel) rfl rfl rfl (by decide +kernel)
set_option maxRecDepth 65536 in
theorem w_c10 : (Jvm.Cond.code ({ cls := "java/lang/String", name := "<init>", desc := "([BB)V" } : Jvm.MethodName) jdk_42_method_151_code (3 : Nat) (Option.none : Option Jvm.ClassFile.FieldType)).before args0 about1 = true := code_word (m := ⟨7, 7⟩) (meth := k7m7) (c := k7c7) (by decide +kernel) rfl rfl rfl (by decide +kernel)
set_option maxRecDepth 65536 in
theorem w_c11 : (Jvm.Cond.code ({ cls := "com/example/wardgate/wardgate/model/JwtSettings", name := "<init>", desc := "(Ljava/lang/String;Lcom/example/wardgate/wardgate/model/JwtSettings$Cipher;Ljava/lang/String;Z)V" } : Jvm.MethodName) prog_19_method_1_code (5 : Nat) (Option.none : Option Jvm.ClassFile.FieldType)).before args0 about1 = true := code_word (m := ⟨11, 0⟩) (meth := k11m0) (c := k11c0) (by decide +kernel) rfl rfl rfl (by decide +kernel)
set_option maxRecDepth 65536 in
theorem w_c12 : (Jvm.Cond.code ({ cls := "java/lang/Record", name := "<init>", desc := "()V" } : Jvm.MethodName) jdk_30_method_1_code (1 : Nat) (Option.none : Option Jvm.ClassFile.FieldType)).before args0 about1 = true := code_word (m := ⟨10, 0⟩) (meth := k10m0) (c := k10c0) (by decide +kernel) rfl rfl rfl (by decide +kernel)
set_option maxRecDepth 65536 in
theorem w_c13 : (Jvm.Cond.code ({ cls := "com/example/wardgate/wardgate/model/JwtSettings", name := "sealsSessions", desc := "()Z" } : Jvm.MethodName) prog_19_method_3_code (1 : Nat) (Option.some Jvm.ClassFile.FieldType.boolean)).before args0 about1 = true := code_word (m := ⟨11, 1⟩) (meth := k11m1) (c := k11c1) (by decide +kernel) rfl rfl rfl (by decide +kernel)
set_option maxRecDepth 65536 in
theorem w_c14 : (Jvm.Cond.code ({ cls := "com/example/wardgate/wardgate/model/JwtSettings", name := "sealingKey", desc := "()[B" } : Jvm.MethodName) prog_19_method_4_code (1 : Nat) (Option.some (Jvm.ClassFile.FieldType.array Jvm.ClassFile.FieldType.byte))).before args0 about1 = true := code_word (m := ⟨11, 2⟩) (meth := k11m2) (c := k11c2) (by decide +kernel) rfl rfl rfl (by decide +kernel)
set_option maxRecDepth 65536 in
theorem w_c15 : (Jvm.Cond.code ({ cls := "java/lang/String", name := "getBytes", desc := "(Ljava/nio/charset/Charset;)[B" } : Jvm.MethodName) jdk_42_method_64_code (2 : Nat) (Option.some (Jvm.ClassFile.FieldType.array Jvm.ClassFile.FieldType.byte))).before args0 about1 = true := code_word (m := ⟨7, 4⟩) (meth := k7m4) (c := k7c4) (by decide +kernel) rfl rfl rfl (by decide +kernel)
set_option maxRecDepth 65536 in
theorem w_c16 : (Jvm.Cond.code ({ cls := "java/lang/String", name := "coder", desc := "()B" } : Jvm.MethodName) jdk_42_method_152_code (1 : Nat) (Option.some Jvm.ClassFile.FieldType.byte)).before args0 about1 = true := code_word (m := ⟨7, 8⟩) (meth := k7m8) (c := k7c8) (by decide +kernel) rfl rfl rfl (by decide +kernel)
set_option maxRecDepth 65536 in
theorem w_c17 : (Jvm.Cond.code ({ cls := "java/lang/String", name := "encode", desc := "(Ljava/nio/charset/Charset;B[B)[B" } : Jvm.MethodName) jdk_42_method_18_code (3 : Nat) (Option.some (Jvm.ClassFile.FieldType.array Jvm.ClassFile.FieldType.byte))).before args0 about1 = true := code_word (m := ⟨7, 2⟩) (meth := k7m2) (c := k7c2) (by decide +kernel) rfl rfl rfl (by decide +kernel)
set_option maxRecDepth 65536 in
theorem w_c18 : (Jvm.Cond.code ({ cls := "java/lang/String", name := "encodeUTF8", desc := "(B[BZ)[B" } : Jvm.MethodName) jdk_42_method_46_code (9 : Nat) (Option.some (Jvm.ClassFile.FieldType.array Jvm.ClassFile.FieldType.byte))).before args0 about1 = true := code_word (m := ⟨7, 3⟩) (meth := k7m3) (c := k7c3) (by decide +kernel) rfl rfl rfl (by decide +kernel)
set_option maxRecDepth 65536 in
theorem w_c19 : (Jvm.Cond.code ({ cls := "java/lang/StringCoding", name := "hasNegatives", desc := "([BII)Z" } : Jvm.MethodName) jdk_123_method_2_code (3 : Nat) (Option.some Jvm.ClassFile.FieldType.boolean)).before args0 about1 = true := code_word (m := ⟨19, 1⟩) (meth := k19m1) (c := k19c1) (by decide +kernel) rfl rfl rfl (by decide +kernel)
set_option maxRecDepth 65536 in
theorem w_c20 : (Jvm.Cond.code ({ cls := "java/lang/StringCoding", name := "countPositives", desc := "([BII)I" } : Jvm.MethodName) jdk_123_method_3_code (5 : Nat) (Option.some Jvm.ClassFile.FieldType.int)).before args0 about1 = true := code_word (m := ⟨19, 2⟩) (meth := k19m2) (c := k19c2) (by decide +kernel) rfl rfl rfl (by decide +kernel)
set_option maxRecDepth 65536 in
theorem w_c21 : (Jvm.Cond.code ({ cls := "java/lang/StringUTF16", name := "newBytesFor", desc := "(I)[B" } : Jvm.MethodName) jdk_52_method_2_code (1 : Nat) (Option.some (Jvm.ClassFile.FieldType.array Jvm.ClassFile.FieldType.byte))).before args0 about1 = true := code_word (m := ⟨8, 1⟩) (meth := k8m1) (c := k8c1) (by decide +kernel) rfl rfl rfl (by decide +kernel)
set_option maxRecDepth 65536 in
theorem w_c22 : (Jvm.Cond.code ({ cls := "java/lang/StringUTF16", name := "newBytesLength", desc := "(I)I" } : Jvm.MethodName) jdk_52_method_3_code (1 : Nat) (Option.some Jvm.ClassFile.FieldType.int)).before args0 about1 = true := code_word (m := ⟨8, 2⟩) (meth := k8m2) (c := k8c2) (by decide +kernel) rfl rfl rfl (by decide +kernel)
set_option maxRecDepth 65536 in
theorem w_c23 : (Jvm.Cond.code ({ cls := "java/util/Arrays", name := "copyOf", desc := "([BI)[B" } : Jvm.MethodName) jdk_65_method_121_code (3 : Nat) (Option.some (Jvm.ClassFile.FieldType.array Jvm.ClassFile.FieldType.byte))).before args0 about1 = true := code_word (m := ⟨21, 1⟩) (meth := k21m1) (c := k21c1) (by decide +kernel) rfl rfl rfl (by decide +kernel)
set_option maxRecDepth 65536 in
theorem w_c24 : (Jvm.Cond.code ({ cls := "java/lang/Math", name := "min", desc := "(II)I" } : Jvm.MethodName) jdk_29_method_69_code (2 : Nat) (Option.some Jvm.ClassFile.FieldType.int)).before args0 about1 = true := code_word (m := ⟨22, 1⟩) (meth := k22m1) (c := k22c1) (by decide +kernel) rfl rfl rfl (by decide +kernel)
def codes1 : List Jvm.Cond := [Jvm.Cond.code x code maxLocals ret, Jvm.Cond.code ({ cls := "java/lang/String", name := "<init>", desc := "([C)V" } : Jvm.MethodName) jdk_42_method_3_code (2 : Nat) (Option.none : Option Jvm.ClassFile.FieldType), Jvm.Cond.code ({ cls := "java/lang/String", name := "<init>", desc := "([CIILjava/lang/Void;)V" } : Jvm.MethodName) jdk_42_method_149_code (6 : Nat) (Option.none : Option Jvm.ClassFile.FieldType), Jvm.Cond.code ({ cls := "java/lang/Object", name := "<init>", desc := "()V" } : Jvm.MethodName) object_method_1_code (1 : Nat) (Option.none : Option Jvm.ClassFile.FieldType), Jvm.Cond.code ({ cls := "java/lang/StringUTF16", name := "compress", desc := "([CII)[B" } : Jvm.MethodName) jdk_52_method_16_code (6 : Nat) (Option.some (Jvm.ClassFile.FieldType.array Jvm.ClassFile.FieldType.byte)), Jvm.Cond.code ({ cls := "java/lang/StringUTF16", name := "compress", desc := "([CI[BII)I" } : Jvm.MethodName) jdk_52_method_21_code (7 : Nat) (Option.some Jvm.ClassFile.FieldType.int), Jvm.Cond.code ({ cls := "java/lang/StringUTF16", name := "coderFromArrayLen", desc := "([BI)B" } : Jvm.MethodName) jdk_52_method_15_code (2 : Nat) (Option.some Jvm.ClassFile.FieldType.byte), Jvm.Cond.code ({ cls := "java/lang/String", name := "valueOf", desc := "(C)Ljava/lang/String;" } : Jvm.MethodName) jdk_42_method_139_code (1 : Nat) (Option.some (Jvm.ClassFile.FieldType.object "java/lang/String")), Jvm.Cond.code ({ cls := "java/lang/StringLatin1", name := "canEncode", desc := "(C)Z" } : Jvm.MethodName) jdk_43_method_3_code (1 : Nat) (Option.some Jvm.ClassFile.FieldType.boolean), Jvm.Cond.code ({ cls := "java/lang/StringLatin1", name := "toBytes", desc := "(C)[B" } : Jvm.MethodName) jdk_43_method_46_code (1 : Nat) (Option.some (Jvm.ClassFile.FieldType.array Jvm.ClassFile.FieldType.byte)), Jvm.Cond.code ({ cls := "java/lang/String", name := "<init>", desc := "([BB)V" } : Jvm.MethodName) jdk_42_method_151_code (3 : Nat) (Option.none : Option Jvm.ClassFile.FieldType), Jvm.Cond.code ({ cls := "com/example/wardgate/wardgate/model/JwtSettings", name := "<init>", desc := "(Ljava/lang/String;Lcom/example/wardgate/wardgate/model/JwtSettings$Cipher;Ljava/lang/String;Z)V" } : Jvm.MethodName) prog_19_method_1_code (5 : Nat) (Option.none : Option Jvm.ClassFile.FieldType), Jvm.Cond.code ({ cls := "java/lang/Record", name := "<init>", desc := "()V" } : Jvm.MethodName) jdk_30_method_1_code (1 : Nat) (Option.none : Option Jvm.ClassFile.FieldType), Jvm.Cond.code ({ cls := "com/example/wardgate/wardgate/model/JwtSettings", name := "sealsSessions", desc := "()Z" } : Jvm.MethodName) prog_19_method_3_code (1 : Nat) (Option.some Jvm.ClassFile.FieldType.boolean), Jvm.Cond.code ({ cls := "com/example/wardgate/wardgate/model/JwtSettings", name := "sealingKey", desc := "()[B" } : Jvm.MethodName) prog_19_method_4_code (1 : Nat) (Option.some (Jvm.ClassFile.FieldType.array Jvm.ClassFile.FieldType.byte)), Jvm.Cond.code ({ cls := "java/lang/String", name := "getBytes", desc := "(Ljava/nio/charset/Charset;)[B" } : Jvm.MethodName) jdk_42_method_64_code (2 : Nat) (Option.some (Jvm.ClassFile.FieldType.array Jvm.ClassFile.FieldType.byte)), Jvm.Cond.code ({ cls := "java/lang/String", name := "coder", desc := "()B" } : Jvm.MethodName) jdk_42_method_152_code (1 : Nat) (Option.some Jvm.ClassFile.FieldType.byte), Jvm.Cond.code ({ cls := "java/lang/String", name := "encode", desc := "(Ljava/nio/charset/Charset;B[B)[B" } : Jvm.MethodName) jdk_42_method_18_code (3 : Nat) (Option.some (Jvm.ClassFile.FieldType.array Jvm.ClassFile.FieldType.byte)), Jvm.Cond.code ({ cls := "java/lang/String", name := "encodeUTF8", desc := "(B[BZ)[B" } : Jvm.MethodName) jdk_42_method_46_code (9 : Nat) (Option.some (Jvm.ClassFile.FieldType.array Jvm.ClassFile.FieldType.byte)), Jvm.Cond.code ({ cls := "java/lang/StringCoding", name := "hasNegatives", desc := "([BII)Z" } : Jvm.MethodName) jdk_123_method_2_code (3 : Nat) (Option.some Jvm.ClassFile.FieldType.boolean), Jvm.Cond.code ({ cls := "java/lang/StringCoding", name := "countPositives", desc := "([BII)I" } : Jvm.MethodName) jdk_123_method_3_code (5 : Nat) (Option.some Jvm.ClassFile.FieldType.int), Jvm.Cond.code ({ cls := "java/lang/StringUTF16", name := "newBytesFor", desc := "(I)[B" } : Jvm.MethodName) jdk_52_method_2_code (1 : Nat) (Option.some (Jvm.ClassFile.FieldType.array Jvm.ClassFile.FieldType.byte)), Jvm.Cond.code ({ cls := "java/lang/StringUTF16", name := "newBytesLength", desc := "(I)I" } : Jvm.MethodName) jdk_52_method_3_code (1 : Nat) (Option.some Jvm.ClassFile.FieldType.int), Jvm.Cond.code ({ cls := "java/util/Arrays", name := "copyOf", desc := "([BI)[B" } : Jvm.MethodName) jdk_65_method_121_code (3 : Nat) (Option.some (Jvm.ClassFile.FieldType.array Jvm.ClassFile.FieldType.byte)), Jvm.Cond.code ({ cls := "java/lang/Math", name := "min", desc := "(II)I" } : Jvm.MethodName) jdk_29_method_69_code (2 : Nat) (Option.some Jvm.ClassFile.FieldType.int)]
set_option maxRecDepth 65536 in
theorem codes_eq : words1.filter isCode = codes1 := rfl
theorem w_codes : ∀ c ∈ words1.filter isCode, c.before args0 about1 = true := by
  rw [codes_eq]
  intro c hc
  simp only [codes1, List.mem_cons, List.not_mem_nil, or_false] at hc
  rcases hc with rfl | rfl | rfl | rfl | rfl | rfl | rfl | rfl | rfl | rfl | rfl | rfl | rfl | rfl | rfl | rfl | rfl | rfl | rfl | rfl | rfl | rfl | rfl | rfl | rfl
  · exact w_c0
  · exact w_c1
  · exact w_c2
  · exact w_c3
  · exact w_c4
  · exact w_c5
  · exact w_c6
  · exact w_c7
  · exact w_c8
  · exact w_c9
  · exact w_c10
  · exact w_c11
  · exact w_c12
  · exact w_c13
  · exact w_c14
  · exact w_c15
  · exact w_c16
  · exact w_c17
  · exact w_c18
  · exact w_c19
  · exact w_c20
  · exact w_c21
  · exact w_c22
  · exact w_c23
  · exact w_c24
set_option maxRecDepth 65536 in
theorem w_t1 : (words1.take 24).all (fun c => isCode c || c.before args0 about1) = true := by decide +kernel
set_option maxRecDepth 65536 in
theorem w_t2 : ((words1.drop 24).take 24).all (fun c => isCode c || c.before args0 about1) = true := by decide +kernel
set_option maxRecDepth 65536 in
theorem w_t3 : (((words1.drop 24).drop 24).take 24).all (fun c => isCode c || c.before args0 about1) = true := by decide +kernel
set_option maxRecDepth 65536 in
theorem w_t4 : ((((words1.drop 24).drop 24).drop 24).take 24).all (fun c => isCode c || c.before args0 about1) = true := by decide +kernel
set_option maxRecDepth 65536 in
theorem w_t5 : (((((words1.drop 24).drop 24).drop 24).drop 24).take 24).all (fun c => isCode c || c.before args0 about1) = true := by decide +kernel
set_option maxRecDepth 65536 in
theorem w_t6 : (((((words1.drop 24).drop 24).drop 24).drop 24).drop 24).all (fun c => isCode c || c.before args0 about1) = true := by decide +kernel
theorem w_tables : (allAtoms (Jvm.Cond.code x code maxLocals ret :: tables_1)).before args0 about1 = true := by
  rw [allAtoms_all]
  show words1.all (fun c => c.before args0 about1) = true
  refine all_split ?_ w_codes
  rw [← List.take_append_drop 24 words1, List.all_append, w_t1, ← List.take_append_drop 24 (words1.drop 24), List.all_append, w_t2, ← List.take_append_drop 24 ((words1.drop 24).drop 24), List.all_append, w_t3, ← List.take_append_drop 24 (((words1.drop 24).drop 24).drop 24), List.all_append, w_t4, ← List.take_append_drop 24 ((((words1.drop 24).drop 24).drop 24).drop 24), List.all_append, w_t5, w_t6]
  rfl
set_option maxRecDepth 65536 in
theorem w_rest : rest_1_c.before args0 about1 = true := by decide +kernel
set_option maxRecDepth 65536 in
theorem w_case : (Jvm.Cond.and given_1 narrow_1).before args0 about1 = true := by decide +kernel
theorem w_applies : (headSpec (Jvm.Cond.code x code maxLocals ret :: tables_1) room_1).applies x e0.platform about1 = true :=
  (Spec.applies_iff w_frames).mpr ⟨w_running, w_runnable, w_alone, w_named, w_hears, w_ripe, w_room, w_tables⟩
theorem atStart : AtStart classFile x code maxLocals ret World_1 tables_1 room_1 Calls_1 rest_1 Pre_1 launch0 p0 e0 about1 theMethod args0 below0 :=
  ⟨lists_1, trivial, launch0.admits_env _ _ _, launch0.least_env, fairChoices_fair.cas, fairChoices_fair.clock, w_frames, w_args, w_heap, w_applies, trivial, w_rest, w_case⟩
end start1
theorem witness_1 : WitnessClaimed_1 := ⟨start1.p0, start1.e0, start1.about1, start1.theMethod, start1.args0, start1.below0, start1.atStart⟩
end Jvm.Pilot.@@N@@
